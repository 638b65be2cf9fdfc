import JvmDerived
import JvmDerived.Pilot.@@N@@Statement
import JvmDerived.Pilot.@@N@@Code
set_option linter.unusedVariables false
set_option linter.unusedSimpArgs false
namespace Jvm.GoKit
open Sem ClassFile Op Lib Jvm.Stand Jvm.Free Jvm.LawKit Jvm.RoadKit
/-! my own layer: a body's run in continuation style, over the library's Stand laws -/
def Val (P : Value → Heap → Prop) (v : Option Value) (h : Heap) : Prop := ∃ w, v = some w ∧ P w h
def Vd (P : Heap → Prop) (v : Option Value) (h : Heap) : Prop := v = none ∧ P h
def PV (w : Value) (h0 : Heap) (w' : Value) (h : Heap) : Prop := w = w' ∧ h0 = h
def Ctx (Z : State) (own : String) (code : ByteArray) (maxL : Nat) (ret : Option FieldType) (nm : String) (p : Program) (s : State) (m : MethodId) (meth : Method) (c : Code) : Prop :=
  p.tables.exec = Jvm.exec ∧ Z.Warmed39 s.vm ∧ s.vm.findClass own = some m.cls ∧ c.code = code ∧ c.maxLocals = maxL ∧ meth.sig.returnType = ret ∧ meth.locks = false ∧ meth.name = nm
def Go (p : Program) (e : Env) (below : List Frame) (s : State) (n0 K N : Nat) (Q : Option Value → Heap → Prop) (S : State) : Prop :=
  ∃ s₂ v L, Steps p.tables e below S s₂ ∧ s₂.status = .running ∧ Ended s₂ below (.returned v) ∧ (Q v s₂.heap ∧ Fr n0 L) ∧ FrameEnd s (.returned v) s₂ L K N
def Run (l : Launch) (Z : State) (n0 : Nat) (own : String) (code : ByteArray) (maxL : Nat) (ret : Option FieldType) (nm : String) (R : Room) (Q : Option Value → Heap → Prop) (pc : Nat) (Ls : Array Slot) (st : List Value) (h : Heap) (k n : Nat) : Prop :=
  ∀ (p : Program) (e : Env) (s : State) (m : MethodId) (args : Array Value) (below : List Frame) (meth : Method) (c : Code) (T : State) (locs : List Loc) (cells slots : Nat),
    Ctx Z own code maxL ret nm p s m meth c → Stand p l e R s m args below meth c T locs cells slots → T.heap = h → Fr n0 locs → cells ≤ k → slots ≤ n →
    Go p e below s n0 R.cells R.slots Q (T.setTop (mkF m pc Ls st))
def Con (l : Launch) (Z : State) (n0 : Nat) (y : MethodName) (bytes : ByteArray) (maxL : Nat) (ret : Option FieldType) (rm : Room) (as : Array Value) (h : Heap) (Q : Option Value → Heap → Prop) : Prop :=
  ∀ ws, MetFree l y (head1 (Cond.code y bytes maxL ret :: ws) rm) (fun a U => a = as ∧ Z.Warmed39 U.vm ∧ U.heap = h) (fun _ _ _ _ _ => True) (fun _ U o U' => ∃ v L, o = .returned v ∧ (Q v U'.heap ∧ Fr n0 L) ∧ FrameEnd U o U' L rm.cells rm.slots)
theorem Con.of_run {l : Launch} {Z : State} {n0 : Nat} {y : MethodName} {bytes : ByteArray} {maxL : Nat} {ret : Option FieldType} {rm : Room} {as : Array Value} {h : Heap} {Q : Option Value → Heap → Prop} {Ls : Array Slot}
    (hp : plainFor y = true) (he : ∀ m, entryFrame m as maxL = mkF m 0 Ls []) (run : Run l Z n0 y.cls bytes maxL ret y.name rm Q 0 Ls [] h 0 0) : Con l Z n0 y bytes maxL ret rm as h Q := by
  intro ws
  refine MetFree.of_bodySF hp hisR ?_
  intro p e s m args below meth c s₁ Bd hml0 hP hK
  obtain ⟨rfl, hZ, hh⟩ := hP
  obtain ⟨s₂, v, L, h1, h2, h3, h4, h5⟩ := run p e s m _ below meth c s₁ [] 0 0 ⟨Bd.exec, hZ, findClass_of_methodNamed Bd.named, Bd.bytes, hml0, Bd.returns, Bd.notSynchronized, (name_of_methodNamed Bd.named Bd.method).1⟩ (Stand.of_body Bd) (by rw [← hh, Bd.state]; rfl) (Fr.nil _) (Nat.zero_le _) (Nat.zero_le _)
  exact ⟨s₂, _, castTop (he m) h1, h2, h3, v, L, rfl, h4, h5⟩
theorem Con.mono {l : Launch} {Z : State} {n0 : Nat} {y : MethodName} {bytes : ByteArray} {maxL : Nat} {ret : Option FieldType} {rm : Room} {as : Array Value} {h : Heap} {Q Q' : Option Value → Heap → Prop}
    (H : Con l Z n0 y bytes maxL ret rm as h Q) (q : ∀ v h', Q v h' → Q' v h') : Con l Z n0 y bytes maxL ret rm as h Q' := by
  intro ws p e ha hc hk s m args below hf happ hP hK
  obtain ⟨n, o, h1, h2, h3, v, L, h4, h5, h6⟩ := H ws p e ha hc hk s m args below hf happ hP hK
  exact ⟨n, o, h1, h2, h3, v, L, h4, ⟨q _ _ h5.1, h5.2⟩, h6⟩
section Walk
variable {l : Launch} {Z : State} {n0 : Nat} {own : String} {code : ByteArray} {maxL : Nat} {ret : Option FieldType} {nm : String} {R : Room} {Q : Option Value → Heap → Prop} {pc pc' : Nat} {Ls : Array Slot} {st : List Value} {h : Heap} {k n k' n' : Nat}
theorem Run.via {Ls' : Array Slot} {st' : List Value} (f : ∀ (p : Program) (e : Env) (s : State) (m : MethodId) (args : Array Value) (below : List Frame) (meth : Method) (c : Code) (T : State) (locs : List Loc) (cells slots : Nat),
      Ctx Z own code maxL ret nm p s m meth c → Stand p l e R s m args below meth c T locs cells slots → T.heap = h → ∃ T', Stand p l e R s m args below meth c T' locs cells slots ∧ T'.heap = h ∧ ∀ t, Steps p.tables e below (T'.setTop (mkF m pc' Ls' st')) t → Steps p.tables e below (T.setTop (mkF m pc Ls st)) t)
    (nxt : Run l Z n0 own code maxL ret nm R Q pc' Ls' st' h k n) : Run l Z n0 own code maxL ret nm R Q pc Ls st h k n := by
  intro p e s m args below meth c T locs cells slots hC X eT hF hk hn
  obtain ⟨T', X', e', stp⟩ := f p e s m args below meth c T locs cells slots hC X eT
  obtain ⟨s₂, v, L, g1, g2⟩ := nxt p e s m args below meth c T' locs cells slots hC X' e' hF hk hn
  exact ⟨s₂, v, L, stp _ g1, g2⟩
theorem Run.stp {Ls' : Array Slot} {st' : List Value} (f : ∀ (p : Program) (e : Env) (below : List Frame) (T : State) (m : MethodId) (c : Code) (t : State), At T m c below → p.tables.exec = Jvm.exec → c.code = code → Steps p.tables e below (T.setTop (mkF m pc' Ls' st')) t → Steps p.tables e below (T.setTop (mkF m pc Ls st)) t)
    (nxt : Run l Z n0 own code maxL ret nm R Q pc' Ls' st' h k n) : Run l Z n0 own code maxL ret nm R Q pc Ls st h k n :=
  Run.via (fun p e s m args below meth c T locs cells slots hC X eT => ⟨T, X, eT, fun t q => f p e below T m c t X.here hC.1 hC.2.2.2.1 q⟩) nxt
theorem Run.more {ka na : Nat} (nxt : Run l Z n0 own code maxL ret nm R Q pc Ls st h k n) (h1 : ka ≤ k) (h2 : na ≤ n) : Run l Z n0 own code maxL ret nm R Q pc Ls st h ka na :=
  fun p e s m args below meth c T locs cells slots hC X eT hF hk hn => nxt p e s m args below meth c T locs cells slots hC X eT hF (Nat.le_trans hk h1) (Nat.le_trans hn h2)

theorem Run.iloadN {x : Fin 4} {v : Int32} (hd : decode code pc = .ok (.iload_n x, 1)) (hl : Ls[x.val]? = some (.val (.int v))) (hp : pc + 1 = pc') (nxt : Run l Z n0 own code maxL ret nm R Q pc' Ls (.int v :: st) h k n) : Run l Z n0 own code maxL ret nm R Q pc Ls st h k n := by
  subst hp
  exact Run.stp (fun p e below T m c t hA hx hc q => XS.iloadN hA hx rfl (hb hc hd) hl q) nxt
theorem Run.iload {x : Nat} {v : Int32} (hd : decode code pc = .ok (.iload x, 2)) (hl : Ls[x]? = some (.val (.int v))) (hp : pc + 2 = pc') (nxt : Run l Z n0 own code maxL ret nm R Q pc' Ls (.int v :: st) h k n) : Run l Z n0 own code maxL ret nm R Q pc Ls st h k n := by
  subst hp
  exact Run.stp (fun p e below T m c t hA hx hc q => XS.iload hA hx rfl (hb hc hd) hl q) nxt
theorem Run.lloadN {x : Fin 4} {v : Int64} (hd : decode code pc = .ok (.lload_n x, 1)) (hl : Ls[x.val]? = some (.val (.long v))) (hp : pc + 1 = pc') (nxt : Run l Z n0 own code maxL ret nm R Q pc' Ls (.long v :: st) h k n) : Run l Z n0 own code maxL ret nm R Q pc Ls st h k n := by
  subst hp
  exact Run.stp (fun p e below T m c t hA hx hc q => XT.lloadN hA hx rfl (hb hc hd) hl q) nxt
theorem Run.lload {x : Nat} {v : Int64} (hd : decode code pc = .ok (.lload x, 2)) (hl : Ls[x]? = some (.val (.long v))) (hp : pc + 2 = pc') (nxt : Run l Z n0 own code maxL ret nm R Q pc' Ls (.long v :: st) h k n) : Run l Z n0 own code maxL ret nm R Q pc Ls st h k n := by
  subst hp
  exact Run.stp (fun p e below T m c t hA hx hc q => XT.lload hA hx rfl (hb hc hd) hl q) nxt
theorem Run.aloadN {x : Fin 4} {v : Value} (hd : decode code pc = .ok (.aload_n x, 1)) (hl : Ls[x.val]? = some (.val v)) (hv : v.isRef = true) (hp : pc + 1 = pc') (nxt : Run l Z n0 own code maxL ret nm R Q pc' Ls (v :: st) h k n) : Run l Z n0 own code maxL ret nm R Q pc Ls st h k n := by
  subst hp
  exact Run.stp (fun p e below T m c t hA hx hc q => XS.aloadN hA hx rfl (hb hc hd) hl hv q) nxt
theorem Run.aload {x : Nat} {v : Value} (hd : decode code pc = .ok (.aload x, 2)) (hl : Ls[x]? = some (.val v)) (hv : v.isRef = true) (hp : pc + 2 = pc') (nxt : Run l Z n0 own code maxL ret nm R Q pc' Ls (v :: st) h k n) : Run l Z n0 own code maxL ret nm R Q pc Ls st h k n := by
  subst hp
  exact Run.stp (fun p e below T m c t hA hx hc q => XS.aload hA hx rfl (hb hc hd) hl hv q) nxt
theorem Run.iconst {i : Int} (v : Int32) (hd : decode code pc = .ok (.iconst i, 1)) (hv : Int32.ofInt i = v) (hp : pc + 1 = pc') (nxt : Run l Z n0 own code maxL ret nm R Q pc' Ls (.int v :: st) h k n) : Run l Z n0 own code maxL ret nm R Q pc Ls st h k n := by
  subst hp
  exact Run.stp (fun p e below T m c t hA hx hc q => XT.iconstV hA hx rfl v (hb hc hd) hv q) nxt
theorem Run.bipush {i : Int} (v : Int32) (hd : decode code pc = .ok (.bipush i, 2)) (hv : (Int8.ofInt i).toInt32 = v) (hp : pc + 2 = pc') (nxt : Run l Z n0 own code maxL ret nm R Q pc' Ls (.int v :: st) h k n) : Run l Z n0 own code maxL ret nm R Q pc Ls st h k n := by
  subst hp
  exact Run.stp (fun p e below T m c t hA hx hc q => XT.bipushV hA hx rfl v (hb hc hd) hv q) nxt
theorem Run.sipush {i : Int} (v : Int32) (hd : decode code pc = .ok (.sipush i, 3)) (hv : (Int16.ofInt i).toInt32 = v) (hp : pc + 3 = pc') (nxt : Run l Z n0 own code maxL ret nm R Q pc' Ls (.int v :: st) h k n) : Run l Z n0 own code maxL ret nm R Q pc Ls st h k n := by
  subst hp
  exact Run.stp (fun p e below T m c t hA hx hc q => XT.sipushV hA hx rfl v (hb hc hd) hv q) nxt
theorem Run.lconst {i : Fin 2} (v : Int64) (hd : decode code pc = .ok (.lconst i, 1)) (hv : Int64.ofNat i = v) (hp : pc + 1 = pc') (nxt : Run l Z n0 own code maxL ret nm R Q pc' Ls (.long v :: st) h k n) : Run l Z n0 own code maxL ret nm R Q pc Ls st h k n := by
  subst hp
  exact Run.stp (fun p e below T m c t hA hx hc q => XT.lconstV hA hx rfl v (hb hc hd) hv q) nxt
theorem Run.aconst  (hd : decode code pc = .ok (.aconst_null, 1))  (hp : pc + 1 = pc') (nxt : Run l Z n0 own code maxL ret nm R Q pc' Ls (.null :: st) h k n) : Run l Z n0 own code maxL ret nm R Q pc Ls st h k n := by
  subst hp
  exact Run.stp (fun p e below T m c t hA hx hc q => XS.aconstNull hA hx rfl (hb hc hd) q) nxt
theorem Run.istoreN {x : Fin 4} {v : Int32} (l' : Array Slot) (hd : decode code pc = .ok (.istore_n x, 1)) (hl : storeLocals Ls x.val (.int v) = some l') (hp : pc + 1 = pc') (nxt : Run l Z n0 own code maxL ret nm R Q pc' l' st h k n) : Run l Z n0 own code maxL ret nm R Q pc Ls (.int v :: st) h k n := by
  subst hp
  exact Run.stp (fun p e below T m c t hA hx hc q => XS.istoreN hA hx rfl (hb hc hd) rfl hl q) nxt
theorem Run.istore {x : Nat} {v : Int32} (l' : Array Slot) (hd : decode code pc = .ok (.istore x, 2)) (hl : storeLocals Ls x (.int v) = some l') (hp : pc + 2 = pc') (nxt : Run l Z n0 own code maxL ret nm R Q pc' l' st h k n) : Run l Z n0 own code maxL ret nm R Q pc Ls (.int v :: st) h k n := by
  subst hp
  exact Run.stp (fun p e below T m c t hA hx hc q => XS.istore hA hx rfl (hb hc hd) rfl hl q) nxt
theorem Run.lstoreN {x : Fin 4} {v : Int64} (l' : Array Slot) (hd : decode code pc = .ok (.lstore_n x, 1)) (hl : storeLocals Ls x.val (.long v) = some l') (hp : pc + 1 = pc') (nxt : Run l Z n0 own code maxL ret nm R Q pc' l' st h k n) : Run l Z n0 own code maxL ret nm R Q pc Ls (.long v :: st) h k n := by
  subst hp
  exact Run.stp (fun p e below T m c t hA hx hc q => XT.lstoreN hA hx rfl (hb hc hd) rfl hl q) nxt
theorem Run.lstore {x : Nat} {v : Int64} (l' : Array Slot) (hd : decode code pc = .ok (.lstore x, 2)) (hl : storeLocals Ls x (.long v) = some l') (hp : pc + 2 = pc') (nxt : Run l Z n0 own code maxL ret nm R Q pc' l' st h k n) : Run l Z n0 own code maxL ret nm R Q pc Ls (.long v :: st) h k n := by
  subst hp
  exact Run.stp (fun p e below T m c t hA hx hc q => XT.lstore hA hx rfl (hb hc hd) rfl hl q) nxt
theorem Run.astoreN {x : Fin 4} {v : Value} (l' : Array Slot) (hd : decode code pc = .ok (.astore_n x, 1)) (hv : v.isRef = true) (hl : storeLocals Ls x.val v = some l') (hp : pc + 1 = pc') (nxt : Run l Z n0 own code maxL ret nm R Q pc' l' st h k n) : Run l Z n0 own code maxL ret nm R Q pc Ls (v :: st) h k n := by
  subst hp
  exact Run.stp (fun p e below T m c t hA hx hc q => XS.astoreN hA hx rfl (hb hc hd) rfl hv hl q) nxt
theorem Run.astore {x : Nat} {v : Value} (l' : Array Slot) (hd : decode code pc = .ok (.astore x, 2)) (hv : v.isRef = true) (hl : storeLocals Ls x v = some l') (hp : pc + 2 = pc') (nxt : Run l Z n0 own code maxL ret nm R Q pc' l' st h k n) : Run l Z n0 own code maxL ret nm R Q pc Ls (v :: st) h k n := by
  subst hp
  exact Run.stp (fun p e below T m c t hA hx hc q => XS.astore hA hx rfl (hb hc hd) rfl hv hl q) nxt
theorem Run.iinc {x : Nat} {i : Int} {u : Int32} (v : Int32) (l' : Array Slot) (hd : decode code pc = .ok (.iinc x i, 3)) (hv : Int32.ofInt i = v) (hg : Ls[x]? = some (.val (.int u))) (hl : storeLocals Ls x (.int (u + v)) = some l') (hp : pc + 3 = pc') (nxt : Run l Z n0 own code maxL ret nm R Q pc' l' st h k n) : Run l Z n0 own code maxL ret nm R Q pc Ls st h k n := by
  subst hp
  exact Run.stp (fun p e below T m c t hA hx hc q => XT.iincV hA hx rfl v (hb hc hd) hv hg hl q) nxt
theorem Run.iadd {x y : Int32} (hd : decode code pc = .ok (.iadd, 1))  (hp : pc + 1 = pc') (nxt : Run l Z n0 own code maxL ret nm R Q pc' Ls (.int (x + y) :: st) h k n) : Run l Z n0 own code maxL ret nm R Q pc Ls (.int y :: .int x :: st) h k n := by
  subst hp
  exact Run.stp (fun p e below T m c t hA hx hc q => XS.iadd hA hx rfl (hb hc hd) rfl q) nxt
theorem Run.isub {x y : Int32} (hd : decode code pc = .ok (.isub, 1))  (hp : pc + 1 = pc') (nxt : Run l Z n0 own code maxL ret nm R Q pc' Ls (.int (x - y) :: st) h k n) : Run l Z n0 own code maxL ret nm R Q pc Ls (.int y :: .int x :: st) h k n := by
  subst hp
  exact Run.stp (fun p e below T m c t hA hx hc q => XS.isub hA hx rfl (hb hc hd) rfl q) nxt
theorem Run.imul {x y : Int32} (hd : decode code pc = .ok (.imul, 1))  (hp : pc + 1 = pc') (nxt : Run l Z n0 own code maxL ret nm R Q pc' Ls (.int (x * y) :: st) h k n) : Run l Z n0 own code maxL ret nm R Q pc Ls (.int y :: .int x :: st) h k n := by
  subst hp
  exact Run.stp (fun p e below T m c t hA hx hc q => XS.imul hA hx rfl (hb hc hd) rfl q) nxt
theorem Run.iand {x y : Int32} (hd : decode code pc = .ok (.iand, 1))  (hp : pc + 1 = pc') (nxt : Run l Z n0 own code maxL ret nm R Q pc' Ls (.int (x &&& y) :: st) h k n) : Run l Z n0 own code maxL ret nm R Q pc Ls (.int y :: .int x :: st) h k n := by
  subst hp
  exact Run.stp (fun p e below T m c t hA hx hc q => XS.iand hA hx rfl (hb hc hd) rfl q) nxt
theorem Run.ior {x y : Int32} (hd : decode code pc = .ok (.ior, 1))  (hp : pc + 1 = pc') (nxt : Run l Z n0 own code maxL ret nm R Q pc' Ls (.int (x ||| y) :: st) h k n) : Run l Z n0 own code maxL ret nm R Q pc Ls (.int y :: .int x :: st) h k n := by
  subst hp
  exact Run.stp (fun p e below T m c t hA hx hc q => XT.ior hA hx rfl (hb hc hd) rfl q) nxt
theorem Run.ixor {x y : Int32} (hd : decode code pc = .ok (.ixor, 1))  (hp : pc + 1 = pc') (nxt : Run l Z n0 own code maxL ret nm R Q pc' Ls (.int (x ^^^ y) :: st) h k n) : Run l Z n0 own code maxL ret nm R Q pc Ls (.int y :: .int x :: st) h k n := by
  subst hp
  exact Run.stp (fun p e below T m c t hA hx hc q => XT.ixor hA hx rfl (hb hc hd) rfl q) nxt
theorem Run.ishl {x y : Int32} (hd : decode code pc = .ok (.ishl, 1))  (hp : pc + 1 = pc') (nxt : Run l Z n0 own code maxL ret nm R Q pc' Ls (.int (x <<< (y &&& 31)) :: st) h k n) : Run l Z n0 own code maxL ret nm R Q pc Ls (.int y :: .int x :: st) h k n := by
  subst hp
  exact Run.stp (fun p e below T m c t hA hx hc q => XT.ishl hA hx rfl (hb hc hd) rfl q) nxt
theorem Run.ishr {x y : Int32} (hd : decode code pc = .ok (.ishr, 1))  (hp : pc + 1 = pc') (nxt : Run l Z n0 own code maxL ret nm R Q pc' Ls (.int (x >>> (y &&& 31)) :: st) h k n) : Run l Z n0 own code maxL ret nm R Q pc Ls (.int y :: .int x :: st) h k n := by
  subst hp
  exact Run.stp (fun p e below T m c t hA hx hc q => XT.ishr hA hx rfl (hb hc hd) rfl q) nxt
theorem Run.iushr {x y : Int32} (hd : decode code pc = .ok (.iushr, 1))  (hp : pc + 1 = pc') (nxt : Run l Z n0 own code maxL ret nm R Q pc' Ls (.int (XT.ushr x y) :: st) h k n) : Run l Z n0 own code maxL ret nm R Q pc Ls (.int y :: .int x :: st) h k n := by
  subst hp
  exact Run.stp (fun p e below T m c t hA hx hc q => XT.iushr hA hx rfl (hb hc hd) rfl q) nxt
theorem Run.ladd {x y : Int64} (hd : decode code pc = .ok (.ladd, 1))  (hp : pc + 1 = pc') (nxt : Run l Z n0 own code maxL ret nm R Q pc' Ls (.long (x + y) :: st) h k n) : Run l Z n0 own code maxL ret nm R Q pc Ls (.long y :: .long x :: st) h k n := by
  subst hp
  exact Run.stp (fun p e below T m c t hA hx hc q => XT.ladd hA hx rfl (hb hc hd) rfl q) nxt
theorem Run.lsub {x y : Int64} (hd : decode code pc = .ok (.lsub, 1))  (hp : pc + 1 = pc') (nxt : Run l Z n0 own code maxL ret nm R Q pc' Ls (.long (x - y) :: st) h k n) : Run l Z n0 own code maxL ret nm R Q pc Ls (.long y :: .long x :: st) h k n := by
  subst hp
  exact Run.stp (fun p e below T m c t hA hx hc q => XT.lsub hA hx rfl (hb hc hd) rfl q) nxt
theorem Run.lmul {x y : Int64} (hd : decode code pc = .ok (.lmul, 1))  (hp : pc + 1 = pc') (nxt : Run l Z n0 own code maxL ret nm R Q pc' Ls (.long (x * y) :: st) h k n) : Run l Z n0 own code maxL ret nm R Q pc Ls (.long y :: .long x :: st) h k n := by
  subst hp
  exact Run.stp (fun p e below T m c t hA hx hc q => XT.lmul hA hx rfl (hb hc hd) rfl q) nxt
theorem Run.land {x y : Int64} (hd : decode code pc = .ok (.land, 1))  (hp : pc + 1 = pc') (nxt : Run l Z n0 own code maxL ret nm R Q pc' Ls (.long (x &&& y) :: st) h k n) : Run l Z n0 own code maxL ret nm R Q pc Ls (.long y :: .long x :: st) h k n := by
  subst hp
  exact Run.stp (fun p e below T m c t hA hx hc q => XT.land hA hx rfl (hb hc hd) rfl q) nxt
theorem Run.lor {x y : Int64} (hd : decode code pc = .ok (.lor, 1))  (hp : pc + 1 = pc') (nxt : Run l Z n0 own code maxL ret nm R Q pc' Ls (.long (x ||| y) :: st) h k n) : Run l Z n0 own code maxL ret nm R Q pc Ls (.long y :: .long x :: st) h k n := by
  subst hp
  exact Run.stp (fun p e below T m c t hA hx hc q => XT.lor hA hx rfl (hb hc hd) rfl q) nxt
theorem Run.lxor {x y : Int64} (hd : decode code pc = .ok (.lxor, 1))  (hp : pc + 1 = pc') (nxt : Run l Z n0 own code maxL ret nm R Q pc' Ls (.long (x ^^^ y) :: st) h k n) : Run l Z n0 own code maxL ret nm R Q pc Ls (.long y :: .long x :: st) h k n := by
  subst hp
  exact Run.stp (fun p e below T m c t hA hx hc q => XT.lxor hA hx rfl (hb hc hd) rfl q) nxt
theorem Run.idiv {x y : Int32} (hd : decode code pc = .ok (.idiv, 1)) (hy : y ≠ 0) (hp : pc + 1 = pc') (nxt : Run l Z n0 own code maxL ret nm R Q pc' Ls (.int (x / y) :: st) h k n) : Run l Z n0 own code maxL ret nm R Q pc Ls (.int y :: .int x :: st) h k n := by
  subst hp
  exact Run.stp (fun p e below T m c t hA hx hc q => XS.idiv hA hx rfl (hb hc hd) rfl hy q) nxt
theorem Run.irem {x y : Int32} (hd : decode code pc = .ok (.irem, 1)) (hy : y ≠ 0) (hp : pc + 1 = pc') (nxt : Run l Z n0 own code maxL ret nm R Q pc' Ls (.int (x % y) :: st) h k n) : Run l Z n0 own code maxL ret nm R Q pc Ls (.int y :: .int x :: st) h k n := by
  subst hp
  exact Run.stp (fun p e below T m c t hA hx hc q => XS.irem hA hx rfl (hb hc hd) rfl hy (by rw [irem_eq_mod]; exact q)) nxt
theorem Run.ldiv {x y : Int64} (hd : decode code pc = .ok (.ldiv, 1)) (hy : y ≠ 0) (hp : pc + 1 = pc') (nxt : Run l Z n0 own code maxL ret nm R Q pc' Ls (.long (x / y) :: st) h k n) : Run l Z n0 own code maxL ret nm R Q pc Ls (.long y :: .long x :: st) h k n := by
  subst hp
  exact Run.stp (fun p e below T m c t hA hx hc q => XT.ldiv hA hx rfl (hb hc hd) rfl hy q) nxt
theorem Run.lrem {x y : Int64} (hd : decode code pc = .ok (.lrem, 1)) (hy : y ≠ 0) (hp : pc + 1 = pc') (nxt : Run l Z n0 own code maxL ret nm R Q pc' Ls (.long (x % y) :: st) h k n) : Run l Z n0 own code maxL ret nm R Q pc Ls (.long y :: .long x :: st) h k n := by
  subst hp
  exact Run.stp (fun p e below T m c t hA hx hc q => XT.lrem hA hx rfl (hb hc hd) rfl hy (by rw [lrem_mod]; exact q)) nxt
theorem Run.ineg {x : Int32} (hd : decode code pc = .ok (.ineg, 1))  (hp : pc + 1 = pc') (nxt : Run l Z n0 own code maxL ret nm R Q pc' Ls (.int (-x) :: st) h k n) : Run l Z n0 own code maxL ret nm R Q pc Ls (.int x :: st) h k n := by
  subst hp
  exact Run.stp (fun p e below T m c t hA hx hc q => XS.ineg hA hx rfl (hb hc hd) rfl q) nxt
theorem Run.lneg {x : Int64} (hd : decode code pc = .ok (.lneg, 1))  (hp : pc + 1 = pc') (nxt : Run l Z n0 own code maxL ret nm R Q pc' Ls (.long (-x) :: st) h k n) : Run l Z n0 own code maxL ret nm R Q pc Ls (.long x :: st) h k n := by
  subst hp
  exact Run.stp (fun p e below T m c t hA hx hc q => XT.lneg hA hx rfl (hb hc hd) rfl q) nxt
theorem Run.i2l {x : Int32} (hd : decode code pc = .ok (.i2l, 1))  (hp : pc + 1 = pc') (nxt : Run l Z n0 own code maxL ret nm R Q pc' Ls (.long x.toInt64 :: st) h k n) : Run l Z n0 own code maxL ret nm R Q pc Ls (.int x :: st) h k n := by
  subst hp
  exact Run.stp (fun p e below T m c t hA hx hc q => XT.i2l hA hx rfl (hb hc hd) rfl q) nxt
theorem Run.l2i {x : Int64} (hd : decode code pc = .ok (.l2i, 1))  (hp : pc + 1 = pc') (nxt : Run l Z n0 own code maxL ret nm R Q pc' Ls (.int x.toInt32 :: st) h k n) : Run l Z n0 own code maxL ret nm R Q pc Ls (.long x :: st) h k n := by
  subst hp
  exact Run.stp (fun p e below T m c t hA hx hc q => XT.l2i hA hx rfl (hb hc hd) rfl q) nxt
theorem Run.i2b {x : Int32} (hd : decode code pc = .ok (.i2b, 1))  (hp : pc + 1 = pc') (nxt : Run l Z n0 own code maxL ret nm R Q pc' Ls (.int (nar .byte x) :: st) h k n) : Run l Z n0 own code maxL ret nm R Q pc Ls (.int x :: st) h k n := by
  subst hp
  exact Run.stp (fun p e below T m c t hA hx hc q => XT.i2b hA hx rfl (hb hc hd) rfl q) nxt
theorem Run.i2c {x : Int32} (hd : decode code pc = .ok (.i2c, 1))  (hp : pc + 1 = pc') (nxt : Run l Z n0 own code maxL ret nm R Q pc' Ls (.int (nar .char x) :: st) h k n) : Run l Z n0 own code maxL ret nm R Q pc Ls (.int x :: st) h k n := by
  subst hp
  exact Run.stp (fun p e below T m c t hA hx hc q => XT.i2c hA hx rfl (hb hc hd) rfl q) nxt
theorem Run.i2s {x : Int32} (hd : decode code pc = .ok (.i2s, 1))  (hp : pc + 1 = pc') (nxt : Run l Z n0 own code maxL ret nm R Q pc' Ls (.int (nar .short x) :: st) h k n) : Run l Z n0 own code maxL ret nm R Q pc Ls (.int x :: st) h k n := by
  subst hp
  exact Run.stp (fun p e below T m c t hA hx hc q => XT.i2s hA hx rfl (hb hc hd) rfl q) nxt
theorem Run.lshl {x : Int64} {y : Int32} (hd : decode code pc = .ok (.lshl, 1))  (hp : pc + 1 = pc') (nxt : Run l Z n0 own code maxL ret nm R Q pc' Ls (.long (x <<< (y.toInt64 &&& 63)) :: st) h k n) : Run l Z n0 own code maxL ret nm R Q pc Ls (.int y :: .long x :: st) h k n := by
  subst hp
  exact Run.stp (fun p e below T m c t hA hx hc q => XT.lshl hA hx rfl (hb hc hd) rfl q) nxt
theorem Run.lshr {x : Int64} {y : Int32} (hd : decode code pc = .ok (.lshr, 1))  (hp : pc + 1 = pc') (nxt : Run l Z n0 own code maxL ret nm R Q pc' Ls (.long (x >>> (y.toInt64 &&& 63)) :: st) h k n) : Run l Z n0 own code maxL ret nm R Q pc Ls (.int y :: .long x :: st) h k n := by
  subst hp
  exact Run.stp (fun p e below T m c t hA hx hc q => XT.lshr hA hx rfl (hb hc hd) rfl q) nxt
theorem Run.lushr {x : Int64} {y : Int32} (hd : decode code pc = .ok (.lushr, 1))  (hp : pc + 1 = pc') (nxt : Run l Z n0 own code maxL ret nm R Q pc' Ls (.long (XT.ushrL x y) :: st) h k n) : Run l Z n0 own code maxL ret nm R Q pc Ls (.int y :: .long x :: st) h k n := by
  subst hp
  exact Run.stp (fun p e below T m c t hA hx hc q => XT.lushr hA hx rfl (hb hc hd) rfl q) nxt
theorem Run.lcmp {x y : Int64} (hd : decode code pc = .ok (.lcmp, 1))  (hp : pc + 1 = pc') (nxt : Run l Z n0 own code maxL ret nm R Q pc' Ls (.int (XT.cmpL x y) :: st) h k n) : Run l Z n0 own code maxL ret nm R Q pc Ls (.long y :: .long x :: st) h k n := by
  subst hp
  exact Run.stp (fun p e below T m c t hA hx hc q => XT.lcmp hA hx rfl (hb hc hd) rfl q) nxt
theorem Run.dup {x : Value} (hd : decode code pc = .ok (.dup, 1)) (hv : x.category = 1) (hp : pc + 1 = pc') (nxt : Run l Z n0 own code maxL ret nm R Q pc' Ls (x :: x :: st) h k n) : Run l Z n0 own code maxL ret nm R Q pc Ls (x :: st) h k n := by
  subst hp
  exact Run.stp (fun p e below T m c t hA hx hc q => XS.dup hA hx rfl (hb hc hd) rfl hv q) nxt
theorem Run.pop {x : Value} (hd : decode code pc = .ok (.pop, 1)) (hv : x.category = 1) (hp : pc + 1 = pc') (nxt : Run l Z n0 own code maxL ret nm R Q pc' Ls st h k n) : Run l Z n0 own code maxL ret nm R Q pc Ls (x :: st) h k n := by
  subst hp
  exact Run.stp (fun p e below T m c t hA hx hc q => XT.pop hA hx rfl (hb hc hd) rfl hv q) nxt
theorem Run.dupX1 {x y : Value} (hd : decode code pc = .ok (.dup_x1, 1)) (hv : x.category = 1) (hv' : y.category = 1) (hp : pc + 1 = pc') (nxt : Run l Z n0 own code maxL ret nm R Q pc' Ls (x :: y :: x :: st) h k n) : Run l Z n0 own code maxL ret nm R Q pc Ls (x :: y :: st) h k n := by
  subst hp
  exact Run.stp (fun p e below T m c t hA hx hc q => XT.dupX1 hA hx rfl (hb hc hd) rfl hv hv' q) nxt
theorem Run.dup2 {x y : Value} (hd : decode code pc = .ok (.dup2, 1)) (hv : x.category = 1) (hv' : y.category = 1) (hp : pc + 1 = pc') (nxt : Run l Z n0 own code maxL ret nm R Q pc' Ls (x :: y :: x :: y :: st) h k n) : Run l Z n0 own code maxL ret nm R Q pc Ls (x :: y :: st) h k n := by
  subst hp
  exact Run.stp (fun p e below T m c t hA hx hc q => XT.dup2 hA hx rfl (hb hc hd) rfl hv hv' q) nxt
theorem Run.dup2L {x : Int64} (hd : decode code pc = .ok (.dup2, 1))  (hp : pc + 1 = pc') (nxt : Run l Z n0 own code maxL ret nm R Q pc' Ls (.long x :: .long x :: st) h k n) : Run l Z n0 own code maxL ret nm R Q pc Ls (.long x :: st) h k n := by
  subst hp
  exact Run.stp (fun p e below T m c t hA hx hc q => XT.dup2L hA hx rfl (hb hc hd) rfl q) nxt
theorem Run.goto {o : Int} (hd : decode code pc = .ok (.goto o, 3)) (ho : 0 ≤ (pc : Int) + o) (hp : ((pc : Int) + o).toNat = pc') (nxt : Run l Z n0 own code maxL ret nm R Q pc' Ls st h k n) : Run l Z n0 own code maxL ret nm R Q pc Ls st h k n :=
  Run.stp (fun p e below T m c t hA hx hc q => XS.goto hA hx rfl rfl (hb hc hd) ho hp q) nxt
theorem Run.if_eq {x : Int32} {o : Int} {pa : Nat} (hd : decode code pc = .ok (.ifCond .eq o, 3)) (ho : 0 ≤ (pc : Int) + o) (hp : ((pc : Int) + o).toNat = pc') (hq : pc + 3 = pa)
    (yes : x = 0 → Run l Z n0 own code maxL ret nm R Q pc' Ls st h k n) (no : ¬ x = 0 → Run l Z n0 own code maxL ret nm R Q pa Ls st h k n) : Run l Z n0 own code maxL ret nm R Q pc Ls (.int x :: st) h k n := by
  subst hq
  by_cases hc : x = 0
  · exact Run.stp (fun p e below T m c t hA hx hb' q => XS.ifYes hA hx rfl rfl (hb hb' hd) rfl (XT.i0_eq_t hc) ho hp q) (yes hc)
  · exact Run.stp (fun p e below T m c t hA hx hb' q => XS.ifNo hA hx rfl (hb hb' hd) rfl (XT.i0_eq_f hc) q) (no hc)
theorem Run.icmp_eq {x y : Int32} {o : Int} {pa : Nat} (hd : decode code pc = .ok (.if_icmp .eq o, 3)) (ho : 0 ≤ (pc : Int) + o) (hp : ((pc : Int) + o).toNat = pc') (hq : pc + 3 = pa)
    (yes : x = y → Run l Z n0 own code maxL ret nm R Q pc' Ls st h k n) (no : ¬ x = y → Run l Z n0 own code maxL ret nm R Q pa Ls st h k n) : Run l Z n0 own code maxL ret nm R Q pc Ls (.int y :: .int x :: st) h k n := by
  subst hq
  by_cases hc : x = y
  · exact Run.stp (fun p e below T m c t hA hx hb' q => XS.icmpYes hA hx rfl rfl (hb hb' hd) rfl (XT.ii_eq_t hc) ho hp q) (yes hc)
  · exact Run.stp (fun p e below T m c t hA hx hb' q => XS.icmpNo hA hx rfl (hb hb' hd) rfl (XT.ii_eq_f hc) q) (no hc)
theorem Run.if_ne {x : Int32} {o : Int} {pa : Nat} (hd : decode code pc = .ok (.ifCond .ne o, 3)) (ho : 0 ≤ (pc : Int) + o) (hp : ((pc : Int) + o).toNat = pc') (hq : pc + 3 = pa)
    (yes : ¬ x = 0 → Run l Z n0 own code maxL ret nm R Q pc' Ls st h k n) (no : x = 0 → Run l Z n0 own code maxL ret nm R Q pa Ls st h k n) : Run l Z n0 own code maxL ret nm R Q pc Ls (.int x :: st) h k n := by
  subst hq
  by_cases hc : x = 0
  · exact Run.stp (fun p e below T m c t hA hx hb' q => XS.ifNo hA hx rfl (hb hb' hd) rfl (XT.i0_ne_f hc) q) (no (by simpa using hc))
  · exact Run.stp (fun p e below T m c t hA hx hb' q => XS.ifYes hA hx rfl rfl (hb hb' hd) rfl (XT.i0_ne_t hc) ho hp q) (yes hc)
theorem Run.icmp_ne {x y : Int32} {o : Int} {pa : Nat} (hd : decode code pc = .ok (.if_icmp .ne o, 3)) (ho : 0 ≤ (pc : Int) + o) (hp : ((pc : Int) + o).toNat = pc') (hq : pc + 3 = pa)
    (yes : ¬ x = y → Run l Z n0 own code maxL ret nm R Q pc' Ls st h k n) (no : x = y → Run l Z n0 own code maxL ret nm R Q pa Ls st h k n) : Run l Z n0 own code maxL ret nm R Q pc Ls (.int y :: .int x :: st) h k n := by
  subst hq
  by_cases hc : x = y
  · exact Run.stp (fun p e below T m c t hA hx hb' q => XS.icmpNo hA hx rfl (hb hb' hd) rfl (XT.ii_ne_f hc) q) (no (by simpa using hc))
  · exact Run.stp (fun p e below T m c t hA hx hb' q => XS.icmpYes hA hx rfl rfl (hb hb' hd) rfl (XT.ii_ne_t hc) ho hp q) (yes hc)
theorem Run.if_lt {x : Int32} {o : Int} {pa : Nat} (hd : decode code pc = .ok (.ifCond .lt o, 3)) (ho : 0 ≤ (pc : Int) + o) (hp : ((pc : Int) + o).toNat = pc') (hq : pc + 3 = pa)
    (yes : x < 0 → Run l Z n0 own code maxL ret nm R Q pc' Ls st h k n) (no : ¬ x < 0 → Run l Z n0 own code maxL ret nm R Q pa Ls st h k n) : Run l Z n0 own code maxL ret nm R Q pc Ls (.int x :: st) h k n := by
  subst hq
  by_cases hc : x < 0
  · exact Run.stp (fun p e below T m c t hA hx hb' q => XS.ifYes hA hx rfl rfl (hb hb' hd) rfl (XT.i0_lt_t hc) ho hp q) (yes hc)
  · exact Run.stp (fun p e below T m c t hA hx hb' q => XS.ifNo hA hx rfl (hb hb' hd) rfl (XT.i0_lt_f hc) q) (no hc)
theorem Run.icmp_lt {x y : Int32} {o : Int} {pa : Nat} (hd : decode code pc = .ok (.if_icmp .lt o, 3)) (ho : 0 ≤ (pc : Int) + o) (hp : ((pc : Int) + o).toNat = pc') (hq : pc + 3 = pa)
    (yes : x < y → Run l Z n0 own code maxL ret nm R Q pc' Ls st h k n) (no : ¬ x < y → Run l Z n0 own code maxL ret nm R Q pa Ls st h k n) : Run l Z n0 own code maxL ret nm R Q pc Ls (.int y :: .int x :: st) h k n := by
  subst hq
  by_cases hc : x < y
  · exact Run.stp (fun p e below T m c t hA hx hb' q => XS.icmpYes hA hx rfl rfl (hb hb' hd) rfl (XT.ii_lt_t hc) ho hp q) (yes hc)
  · exact Run.stp (fun p e below T m c t hA hx hb' q => XS.icmpNo hA hx rfl (hb hb' hd) rfl (XT.ii_lt_f hc) q) (no hc)
theorem Run.if_ge {x : Int32} {o : Int} {pa : Nat} (hd : decode code pc = .ok (.ifCond .ge o, 3)) (ho : 0 ≤ (pc : Int) + o) (hp : ((pc : Int) + o).toNat = pc') (hq : pc + 3 = pa)
    (yes : ¬ x < 0 → Run l Z n0 own code maxL ret nm R Q pc' Ls st h k n) (no : x < 0 → Run l Z n0 own code maxL ret nm R Q pa Ls st h k n) : Run l Z n0 own code maxL ret nm R Q pc Ls (.int x :: st) h k n := by
  subst hq
  by_cases hc : x < 0
  · exact Run.stp (fun p e below T m c t hA hx hb' q => XS.ifNo hA hx rfl (hb hb' hd) rfl (XT.i0_ge_f hc) q) (no (by simpa using hc))
  · exact Run.stp (fun p e below T m c t hA hx hb' q => XS.ifYes hA hx rfl rfl (hb hb' hd) rfl (XT.i0_ge_t hc) ho hp q) (yes hc)
theorem Run.icmp_ge {x y : Int32} {o : Int} {pa : Nat} (hd : decode code pc = .ok (.if_icmp .ge o, 3)) (ho : 0 ≤ (pc : Int) + o) (hp : ((pc : Int) + o).toNat = pc') (hq : pc + 3 = pa)
    (yes : ¬ x < y → Run l Z n0 own code maxL ret nm R Q pc' Ls st h k n) (no : x < y → Run l Z n0 own code maxL ret nm R Q pa Ls st h k n) : Run l Z n0 own code maxL ret nm R Q pc Ls (.int y :: .int x :: st) h k n := by
  subst hq
  by_cases hc : x < y
  · exact Run.stp (fun p e below T m c t hA hx hb' q => XS.icmpNo hA hx rfl (hb hb' hd) rfl (XT.ii_ge_f hc) q) (no (by simpa using hc))
  · exact Run.stp (fun p e below T m c t hA hx hb' q => XS.icmpYes hA hx rfl rfl (hb hb' hd) rfl (XT.ii_ge_t hc) ho hp q) (yes hc)
theorem Run.if_gt {x : Int32} {o : Int} {pa : Nat} (hd : decode code pc = .ok (.ifCond .gt o, 3)) (ho : 0 ≤ (pc : Int) + o) (hp : ((pc : Int) + o).toNat = pc') (hq : pc + 3 = pa)
    (yes : 0 < x → Run l Z n0 own code maxL ret nm R Q pc' Ls st h k n) (no : ¬ 0 < x → Run l Z n0 own code maxL ret nm R Q pa Ls st h k n) : Run l Z n0 own code maxL ret nm R Q pc Ls (.int x :: st) h k n := by
  subst hq
  by_cases hc : 0 < x
  · exact Run.stp (fun p e below T m c t hA hx hb' q => XS.ifYes hA hx rfl rfl (hb hb' hd) rfl (XT.i0_gt_t hc) ho hp q) (yes hc)
  · exact Run.stp (fun p e below T m c t hA hx hb' q => XS.ifNo hA hx rfl (hb hb' hd) rfl (XT.i0_gt_f hc) q) (no hc)
theorem Run.icmp_gt {x y : Int32} {o : Int} {pa : Nat} (hd : decode code pc = .ok (.if_icmp .gt o, 3)) (ho : 0 ≤ (pc : Int) + o) (hp : ((pc : Int) + o).toNat = pc') (hq : pc + 3 = pa)
    (yes : y < x → Run l Z n0 own code maxL ret nm R Q pc' Ls st h k n) (no : ¬ y < x → Run l Z n0 own code maxL ret nm R Q pa Ls st h k n) : Run l Z n0 own code maxL ret nm R Q pc Ls (.int y :: .int x :: st) h k n := by
  subst hq
  by_cases hc : y < x
  · exact Run.stp (fun p e below T m c t hA hx hb' q => XS.icmpYes hA hx rfl rfl (hb hb' hd) rfl (XT.ii_gt_t hc) ho hp q) (yes hc)
  · exact Run.stp (fun p e below T m c t hA hx hb' q => XS.icmpNo hA hx rfl (hb hb' hd) rfl (XT.ii_gt_f hc) q) (no hc)
theorem Run.if_le {x : Int32} {o : Int} {pa : Nat} (hd : decode code pc = .ok (.ifCond .le o, 3)) (ho : 0 ≤ (pc : Int) + o) (hp : ((pc : Int) + o).toNat = pc') (hq : pc + 3 = pa)
    (yes : ¬ 0 < x → Run l Z n0 own code maxL ret nm R Q pc' Ls st h k n) (no : 0 < x → Run l Z n0 own code maxL ret nm R Q pa Ls st h k n) : Run l Z n0 own code maxL ret nm R Q pc Ls (.int x :: st) h k n := by
  subst hq
  by_cases hc : 0 < x
  · exact Run.stp (fun p e below T m c t hA hx hb' q => XS.ifNo hA hx rfl (hb hb' hd) rfl (XT.i0_le_f hc) q) (no (by simpa using hc))
  · exact Run.stp (fun p e below T m c t hA hx hb' q => XS.ifYes hA hx rfl rfl (hb hb' hd) rfl (XT.i0_le_t hc) ho hp q) (yes hc)
theorem Run.icmp_le {x y : Int32} {o : Int} {pa : Nat} (hd : decode code pc = .ok (.if_icmp .le o, 3)) (ho : 0 ≤ (pc : Int) + o) (hp : ((pc : Int) + o).toNat = pc') (hq : pc + 3 = pa)
    (yes : ¬ y < x → Run l Z n0 own code maxL ret nm R Q pc' Ls st h k n) (no : y < x → Run l Z n0 own code maxL ret nm R Q pa Ls st h k n) : Run l Z n0 own code maxL ret nm R Q pc Ls (.int y :: .int x :: st) h k n := by
  subst hq
  by_cases hc : y < x
  · exact Run.stp (fun p e below T m c t hA hx hb' q => XS.icmpNo hA hx rfl (hb hb' hd) rfl (XT.ii_le_f hc) q) (no (by simpa using hc))
  · exact Run.stp (fun p e below T m c t hA hx hb' q => XS.icmpYes hA hx rfl rfl (hb hb' hd) rfl (XT.ii_le_t hc) ho hp q) (yes hc)
theorem Run.lif_eq {x y : Int64} {o : Int} {pa : Nat} (hd : decode code pc = .ok (.ifCond .eq o, 3)) (ho : 0 ≤ (pc : Int) + o) (hp : ((pc : Int) + o).toNat = pc') (hq : pc + 3 = pa)
    (yes : x = y → Run l Z n0 own code maxL ret nm R Q pc' Ls st h k n) (no : ¬ x = y → Run l Z n0 own code maxL ret nm R Q pa Ls st h k n) : Run l Z n0 own code maxL ret nm R Q pc Ls (.int (XT.cmpL x y) :: st) h k n := by
  subst hq
  by_cases hc : x = y
  · exact Run.stp (fun p e below T m c t hA hx hb' q => XS.ifYes hA hx rfl rfl (hb hb' hd) rfl (XT.ll_eq_t hc) ho hp q) (yes hc)
  · exact Run.stp (fun p e below T m c t hA hx hb' q => XS.ifNo hA hx rfl (hb hb' hd) rfl (XT.ll_eq_f hc) q) (no hc)
theorem Run.lif_ne {x y : Int64} {o : Int} {pa : Nat} (hd : decode code pc = .ok (.ifCond .ne o, 3)) (ho : 0 ≤ (pc : Int) + o) (hp : ((pc : Int) + o).toNat = pc') (hq : pc + 3 = pa)
    (yes : ¬ x = y → Run l Z n0 own code maxL ret nm R Q pc' Ls st h k n) (no : x = y → Run l Z n0 own code maxL ret nm R Q pa Ls st h k n) : Run l Z n0 own code maxL ret nm R Q pc Ls (.int (XT.cmpL x y) :: st) h k n := by
  subst hq
  by_cases hc : x = y
  · exact Run.stp (fun p e below T m c t hA hx hb' q => XS.ifNo hA hx rfl (hb hb' hd) rfl (XT.ll_ne_f hc) q) (no (by simpa using hc))
  · exact Run.stp (fun p e below T m c t hA hx hb' q => XS.ifYes hA hx rfl rfl (hb hb' hd) rfl (XT.ll_ne_t hc) ho hp q) (yes hc)
theorem Run.lif_lt {x y : Int64} {o : Int} {pa : Nat} (hd : decode code pc = .ok (.ifCond .lt o, 3)) (ho : 0 ≤ (pc : Int) + o) (hp : ((pc : Int) + o).toNat = pc') (hq : pc + 3 = pa)
    (yes : x < y → Run l Z n0 own code maxL ret nm R Q pc' Ls st h k n) (no : ¬ x < y → Run l Z n0 own code maxL ret nm R Q pa Ls st h k n) : Run l Z n0 own code maxL ret nm R Q pc Ls (.int (XT.cmpL x y) :: st) h k n := by
  subst hq
  by_cases hc : x < y
  · exact Run.stp (fun p e below T m c t hA hx hb' q => XS.ifYes hA hx rfl rfl (hb hb' hd) rfl (XT.ll_lt_t hc) ho hp q) (yes hc)
  · exact Run.stp (fun p e below T m c t hA hx hb' q => XS.ifNo hA hx rfl (hb hb' hd) rfl (XT.ll_lt_f hc) q) (no hc)
theorem Run.lif_ge {x y : Int64} {o : Int} {pa : Nat} (hd : decode code pc = .ok (.ifCond .ge o, 3)) (ho : 0 ≤ (pc : Int) + o) (hp : ((pc : Int) + o).toNat = pc') (hq : pc + 3 = pa)
    (yes : ¬ x < y → Run l Z n0 own code maxL ret nm R Q pc' Ls st h k n) (no : x < y → Run l Z n0 own code maxL ret nm R Q pa Ls st h k n) : Run l Z n0 own code maxL ret nm R Q pc Ls (.int (XT.cmpL x y) :: st) h k n := by
  subst hq
  by_cases hc : x < y
  · exact Run.stp (fun p e below T m c t hA hx hb' q => XS.ifNo hA hx rfl (hb hb' hd) rfl (XT.ll_ge_f hc) q) (no (by simpa using hc))
  · exact Run.stp (fun p e below T m c t hA hx hb' q => XS.ifYes hA hx rfl rfl (hb hb' hd) rfl (XT.ll_ge_t hc) ho hp q) (yes hc)
theorem Run.lif_gt {x y : Int64} {o : Int} {pa : Nat} (hd : decode code pc = .ok (.ifCond .gt o, 3)) (ho : 0 ≤ (pc : Int) + o) (hp : ((pc : Int) + o).toNat = pc') (hq : pc + 3 = pa)
    (yes : y < x → Run l Z n0 own code maxL ret nm R Q pc' Ls st h k n) (no : ¬ y < x → Run l Z n0 own code maxL ret nm R Q pa Ls st h k n) : Run l Z n0 own code maxL ret nm R Q pc Ls (.int (XT.cmpL x y) :: st) h k n := by
  subst hq
  by_cases hc : y < x
  · exact Run.stp (fun p e below T m c t hA hx hb' q => XS.ifYes hA hx rfl rfl (hb hb' hd) rfl (XT.ll_gt_t hc) ho hp q) (yes hc)
  · exact Run.stp (fun p e below T m c t hA hx hb' q => XS.ifNo hA hx rfl (hb hb' hd) rfl (XT.ll_gt_f hc) q) (no hc)
theorem Run.lif_le {x y : Int64} {o : Int} {pa : Nat} (hd : decode code pc = .ok (.ifCond .le o, 3)) (ho : 0 ≤ (pc : Int) + o) (hp : ((pc : Int) + o).toNat = pc') (hq : pc + 3 = pa)
    (yes : ¬ y < x → Run l Z n0 own code maxL ret nm R Q pc' Ls st h k n) (no : y < x → Run l Z n0 own code maxL ret nm R Q pa Ls st h k n) : Run l Z n0 own code maxL ret nm R Q pc Ls (.int (XT.cmpL x y) :: st) h k n := by
  subst hq
  by_cases hc : y < x
  · exact Run.stp (fun p e below T m c t hA hx hb' q => XS.ifNo hA hx rfl (hb hb' hd) rfl (XT.ll_le_f hc) q) (no (by simpa using hc))
  · exact Run.stp (fun p e below T m c t hA hx hb' q => XS.ifYes hA hx rfl rfl (hb hb' hd) rfl (XT.ll_le_t hc) ho hp q) (yes hc)
theorem Run.acmp_eq {x y : Value} {o : Int} {pa : Nat} (hd : decode code pc = .ok (.if_acmp .eq o, 3)) (hv : x.isRef = true) (hv' : y.isRef = true) (ho : 0 ≤ (pc : Int) + o) (hp : ((pc : Int) + o).toNat = pc') (hq : pc + 3 = pa)
    (yes : x = y → Run l Z n0 own code maxL ret nm R Q pc' Ls st h k n) (no : ¬ x = y → Run l Z n0 own code maxL ret nm R Q pa Ls st h k n) : Run l Z n0 own code maxL ret nm R Q pc Ls (y :: x :: st) h k n := by
  subst hq
  by_cases hc : x = y
  · exact Run.stp (fun p e below T m c t hA hx hb' q => XT.acmpYes hA hx rfl rfl (hb hb' hd) rfl hv hv' (XT.aa_eq_t hc) ho hp q) (yes hc)
  · exact Run.stp (fun p e below T m c t hA hx hb' q => XT.acmpNo hA hx rfl (hb hb' hd) rfl hv hv' (XT.aa_eq_f hc) q) (no hc)
theorem Run.acmp_ne {x y : Value} {o : Int} {pa : Nat} (hd : decode code pc = .ok (.if_acmp .ne o, 3)) (hv : x.isRef = true) (hv' : y.isRef = true) (ho : 0 ≤ (pc : Int) + o) (hp : ((pc : Int) + o).toNat = pc') (hq : pc + 3 = pa)
    (yes : ¬ x = y → Run l Z n0 own code maxL ret nm R Q pc' Ls st h k n) (no : x = y → Run l Z n0 own code maxL ret nm R Q pa Ls st h k n) : Run l Z n0 own code maxL ret nm R Q pc Ls (y :: x :: st) h k n := by
  subst hq
  by_cases hc : x = y
  · exact Run.stp (fun p e below T m c t hA hx hb' q => XT.acmpNo hA hx rfl (hb hb' hd) rfl hv hv' (XT.aa_ne_f hc) q) (no (by simpa using hc))
  · exact Run.stp (fun p e below T m c t hA hx hb' q => XT.acmpYes hA hx rfl rfl (hb hb' hd) rfl hv hv' (XT.aa_ne_t hc) ho hp q) (yes hc)
theorem Run.ifnull {v : Value} {o : Int} {pa : Nat} (hd : decode code pc = .ok (.ifnull o, 3)) (hv : v.isRef = true) (ho : 0 ≤ (pc : Int) + o) (hp : ((pc : Int) + o).toNat = pc') (hq : pc + 3 = pa)
    (yes : v = .null → Run l Z n0 own code maxL ret nm R Q pc' Ls st h k n) (no : ¬ v = .null → Run l Z n0 own code maxL ret nm R Q pa Ls st h k n) : Run l Z n0 own code maxL ret nm R Q pc Ls (v :: st) h k n := by
  subst hq
  by_cases hc : v = .null
  · exact Run.stp (fun p e below T m c t hA hx hb' q => XT.nullYes hA hx rfl rfl (hb hb' hd) rfl hc ho hp q) (yes hc)
  · exact Run.stp (fun p e below T m c t hA hx hb' q => XT.nullNo hA hx rfl (hb hb' hd) rfl hv hc q) (no hc)
theorem Run.ifnonnull {v : Value} {o : Int} {pa : Nat} (hd : decode code pc = .ok (.ifnonnull o, 3)) (hv : v.isRef = true) (ho : 0 ≤ (pc : Int) + o) (hp : ((pc : Int) + o).toNat = pc') (hq : pc + 3 = pa)
    (yes : ¬ v = .null → Run l Z n0 own code maxL ret nm R Q pc' Ls st h k n) (no : v = .null → Run l Z n0 own code maxL ret nm R Q pa Ls st h k n) : Run l Z n0 own code maxL ret nm R Q pc Ls (v :: st) h k n := by
  subst hq
  by_cases hc : v = .null
  · exact Run.stp (fun p e below T m c t hA hx hb' q => XT.nonnullNo hA hx rfl (hb hb' hd) rfl hc q) (no hc)
  · exact Run.stp (fun p e below T m c t hA hx hb' q => XT.nonnullYes hA hx rfl rfl (hb hb' hd) rfl hv hc ho hp q) (yes hc)
/-! the pool's constants, fields, statics -/
theorem Run.ldcI {a0 : Array Value} {i : Nat} {v : Int32} (hd : decode code pc = .ok (.ldc i, 2)) (w : (Cond.constant own i v).before a0 Z = true) (hp : pc + 2 = pc') (nxt : Run l Z n0 own code maxL ret nm R Q pc' Ls (.int v :: st) h k n) : Run l Z n0 own code maxL ret nm R Q pc Ls st h k n := by
  subst hp
  exact Run.via (fun p e s m args below meth c T locs cells slots hC X eT => ⟨T, X, eT, fun t q => X.ldcI hC.1 hC.2.2.1 (mvT hC.2.1 w) rfl (hb hC.2.2.2.1 hd) q⟩) nxt
theorem Run.ldcWI {a0 : Array Value} {i : Nat} {v : Int32} (hd : decode code pc = .ok (.ldc_w i, 3)) (w : (Cond.constant own i v).before a0 Z = true) (hp : pc + 3 = pc') (nxt : Run l Z n0 own code maxL ret nm R Q pc' Ls (.int v :: st) h k n) : Run l Z n0 own code maxL ret nm R Q pc Ls st h k n := by
  subst hp
  exact Run.via (fun p e s m args below meth c T locs cells slots hC X eT => ⟨T, X, eT, fun t q => X.ldcWI hC.1 hC.2.2.1 (mvT hC.2.1 w) rfl (hb hC.2.2.2.1 hd) q⟩) nxt
theorem Run.ldc2J {a0 : Array Value} {i : Nat} {v : Int64} (hd : decode code pc = .ok (.ldc2_w i, 3)) (w : (Cond.constantLong own i v).before a0 Z = true) (hp : pc + 3 = pc') (nxt : Run l Z n0 own code maxL ret nm R Q pc' Ls (.long v :: st) h k n) : Run l Z n0 own code maxL ret nm R Q pc Ls st h k n := by
  subst hp
  exact Run.via (fun p e s m args below meth c T locs cells slots hC X eT => ⟨T, X, eT, fun t q => X.ldc2J hC.1 hC.2.2.1 (mvT hC.2.1 w) rfl (hb hC.2.2.2.1 hd) q⟩) nxt
theorem Run.getS {a0 : Array Value} {R0 O f d host : String} {i : Nat} {v : Value} (hd : decode code pc = .ok (.getstatic i, 3)) (w : (Cond.fieldLink own i R0 f d).before a0 Z = true ∨ (Cond.fieldLinkNest own i R0 f d host).before a0 Z = true) (via : Via Z R0 O f d) (F : Sta Z h O f d v) (hp : pc + 3 = pc') (nxt : Run l Z n0 own code maxL ret nm R Q pc' Ls (v :: st) h k n) : Run l Z n0 own code maxL ret nm R Q pc Ls st h k n := by
  subst hp
  exact Run.via (fun p e s m args below meth c T locs cells slots hC X eT => getS2 X hC.1 hC.2.1 hC.2.2.1 w via eT F (g := mkF m pc Ls st) rfl (hb hC.2.2.2.1 hd)) nxt
theorem Run.getF {a0 : Array Value} {R0 O f d host : String} {i : Nat} {a : Addr} {v : Value} (hd : decode code pc = .ok (.getfield i, 3)) (w : (Cond.fieldLink own i R0 f d).before a0 Z = true ∨ (Cond.fieldLinkNest own i R0 f d host).before a0 Z = true) (via : Via Z R0 O f d) (F : Fld Z h a O f d v) (hp : pc + 3 = pc') (nxt : Run l Z n0 own code maxL ret nm R Q pc' Ls (v :: st) h k n) : Run l Z n0 own code maxL ret nm R Q pc Ls (.ref a :: st) h k n := by
  subst hp
  exact Run.via (fun p e s m args below meth c T locs cells slots hC X eT => getF X hC.1 hC.2.1 hC.2.2.1 w via eT F (g := mkF m pc Ls (.ref a :: st)) rfl rfl (hb hC.2.2.2.1 hd)) nxt
/-! the returns -/
theorem Go.fin {p : Program} {e : Env} {s : State} {m : MethodId} {args : Array Value} {below : List Frame} {meth : Method} {c : Code} {T S : State} {locs : List Loc} {cells slots : Nat} {v : Option Value} (X : Stand p l e R s m args below meth c T locs cells slots) (hv : meth.sig.returnType = none → v = none) (hlk : meth.locks = false) (hF : Fr n0 locs) (hk : cells ≤ R.cells) (hn : slots ≤ R.slots) (hQ : Q v T.heap)
    (f : ∀ fs, (∀ (f : JFrame) (acts : List Action), f.method = m → f.locked = none → f.entered = [] → (doReturn e (T.setTop f) acts v).1 = T.setFrames fs) → Steps p.tables e below S (T.setFrames fs)) : Go p e below s n0 R.cells R.slots Q S := by
  obtain ⟨fs, hr, hrun, hended, hW, hsame⟩ := X.leave (v := v) hv hlk
  exact ⟨_, v, locs, f fs hr, hrun, hended, ⟨hQ, hF⟩, ⟨_, rfl⟩, hW, hsame.mono hk hn⟩
theorem Run.ireturn {z : Int32} (hd : decode code pc = .ok (.ireturn, 1)) (hret : ret = some .int) (hk : k ≤ R.cells) (hn : n ≤ R.slots) (hQ : Q (some (.int z)) h) : Run l Z n0 own code maxL ret nm R Q pc Ls (.int z :: st) h k n := by
  intro p e s m args below meth c T locs cells slots hC X eT hF hk' hn'
  subst eT
  have hr := hC.2.2.2.2.2.1
  exact Go.fin X (fun q => by rw [hr, hret] at q; cases q) hC.2.2.2.2.2.2.1 hF (Nat.le_trans hk' hk) (Nat.le_trans hn' hn) hQ (fun fs hl => retOut X hC.1 (hr.trans hret) rfl (Or.inl ⟨rfl, Or.inl rfl, z, rfl⟩) (hb hC.2.2.2.1 hd) hl)
theorem Run.nreturn {z : Int32} {ty : FieldType} (hd : decode code pc = .ok (.ireturn, 1)) (hret : ret = some ty) (ht : ty = .boolean ∨ ty = .byte ∨ ty = .char ∨ ty = .short) (hk : k ≤ R.cells) (hn : n ≤ R.slots) (hQ : Q (some (.int (nar ty z))) h) : Run l Z n0 own code maxL ret nm R Q pc Ls (.int z :: st) h k n := by
  intro p e s m args below meth c T locs cells slots hC X eT hF hk' hn'
  subst eT
  have hr := hC.2.2.2.2.2.1
  exact Go.fin X (fun q => by rw [hr, hret] at q; cases q) hC.2.2.2.2.2.2.1 hF (Nat.le_trans hk' hk) (Nat.le_trans hn' hn) hQ (fun fs hl => retN X hC.1 (hr.trans hret) ht (hb hC.2.2.2.1 hd) hl)
theorem Run.lreturn {z : Int64} (hd : decode code pc = .ok (.lreturn, 1)) (hret : ret = some .long) (hk : k ≤ R.cells) (hn : n ≤ R.slots) (hQ : Q (some (.long z)) h) : Run l Z n0 own code maxL ret nm R Q pc Ls (.long z :: st) h k n := by
  intro p e s m args below meth c T locs cells slots hC X eT hF hk' hn'
  subst eT
  have hr := hC.2.2.2.2.2.1
  exact Go.fin X (fun q => by rw [hr, hret] at q; cases q) hC.2.2.2.2.2.2.1 hF (Nat.le_trans hk' hk) (Nat.le_trans hn' hn) hQ (fun fs hl => retOut X hC.1 (hr.trans hret) rfl (Or.inr (Or.inl ⟨rfl, rfl, z, rfl⟩)) (hb hC.2.2.2.1 hd) hl)
theorem go_narref {t : FieldType} {w : Value} (ht : t.isReference = true) (hw : w.isRef = true) : narrow t w = w := by
  cases t <;> first | rfl | (cases ht; done) | (cases w <;> first | rfl | cases hw)
theorem Run.areturn {w : Value} {ty : FieldType} (hd : decode code pc = .ok (.areturn, 1)) (hret : ret = some ty) (ht : ty.isReference = true) (hw : w.isRef = true) (hk : k ≤ R.cells) (hn : n ≤ R.slots) (hQ : Q (some w) h) : Run l Z n0 own code maxL ret nm R Q pc Ls (w :: st) h k n := by
  intro p e s m args below meth c T locs cells slots hC X eT hF hk' hn'
  subst eT
  have hr := hC.2.2.2.2.2.1
  exact Go.fin X (fun q => by rw [hr, hret] at q; cases q) hC.2.2.2.2.2.2.1 hF (Nat.le_trans hk' hk) (Nat.le_trans hn' hn) hQ (fun fs hl => retOut X hC.1 (hr.trans hret) (go_narref ht hw) (Or.inr (Or.inr (Or.inr (Or.inr ⟨rfl, ht, hw⟩)))) (hb hC.2.2.2.1 hd) hl)
theorem Run.vreturn (hd : decode code pc = .ok (.return_, 1)) (hret : ret = none) (hk : k ≤ R.cells) (hn : n ≤ R.slots) (hQ : Q none h) : Run l Z n0 own code maxL ret nm R Q pc Ls [] h k n := by
  intro p e s m args below meth c T locs cells slots hC X eT hF hk' hn'
  subst eT
  have hr := hC.2.2.2.2.2.1
  exact Go.fin X (fun _ => rfl) hC.2.2.2.2.2.2.1 hF (Nat.le_trans hk' hk) (Nat.le_trans hn' hn) hQ (fun fs hl => X.returnOut hC.1 (hr.trans hret) (hb hC.2.2.2.1 hd) hl)
/-! calls by a contract -/
theorem Run.callS {a0 : Array Value} {y : MethodName} {bytes : ByteArray} {mL : Nat} {rt : Option FieldType} {rm : Room} {as rest : List Value} {Qy : Option Value → Heap → Prop} {i : Nat} {ps : List FieldType} {rr : Option FieldType}
    (hC : Con l Z n0 y bytes mL rt rm as.toArray h Qy) (hd : decode code pc = .ok (.invokestatic i, 3)) (w1 : (Cond.methodLink own i y).before a0 Z = true) (w2 : (Cond.static y).before a0 Z = true) (w3 : (Cond.initialized y.cls).before a0 Z = true) (w4 : (Cond.code y bytes mL rt).before a0 Z = true)
    (hy : y.cls ≠ "java/lang/invoke/MethodHandle" ∧ y.cls ≠ "java/lang/invoke/VarHandle") (hds : parseMethodDescriptor y.desc = some ⟨ps, rr⟩) (hl : as.length = ps.length) (hst : st = as.reverse ++ rest) (hsz : Ls.size = maxL)
    (hf : rm.frames + 1 ≤ R.frames) (hlo : (rest.map fun v => v.category).sum + (mL + 11) + rm.locals ≤ R.locals) (hk : k + rm.cells ≤ k') (hk' : k' ≤ R.cells) (hn : n + rm.slots ≤ n') (hn' : n' ≤ R.slots) (hp : pc + 3 = pc')
    (nxt : ∀ v h', Qy v h' → Run l Z n0 own code maxL ret nm R Q pc' Ls (v.toList ++ rest) h' k' n') : Run l Z n0 own code maxL ret nm R Q pc Ls st h k n := by
  subst hp hst
  intro p e s m args below meth c T locs cells slots hX X eT hF hc hs
  obtain ⟨hx, hZ, hown, hby, hml, -⟩ := id hX
  obtain ⟨v, vm₁, ⟨B, L', cc, ss⟩, -, X', ⟨Lc, hQ, l1, y1, z1⟩, stp⟩ := Jvm.LawKit.callS X hx (y := y) hown (mvT hZ w1) (mvT hZ w2) (mvT hZ w3) (mvT hZ w4) hy (backOf (W := (rest.map fun v => v.category).sum) (Q := fun v h L => Qy v h ∧ Fr n0 L) (hC []) hZ w4 w3 hf hlo) (g := mkF m pc Ls (as.reverse ++ rest)) rfl (hsz.trans hml.symm) (argsL := as) (rest := rest) (lenOf hds hl) rfl (by show 2 * 0 + _ ≤ _; omega) (hb hby hd) (fun _ _ => ⟨rfl, eT, (by show cells + rm.cells ≤ R.cells; omega), (by show slots + rm.slots ≤ R.slots; omega)⟩)
  dsimp only [Pt.U, Pt.locs, Pt.cells, Pt.slots] at X' l1 y1 z1 stp hQ
  subst l1 y1 z1
  obtain ⟨s₂, v', L, g1, g2⟩ := nxt v _ hQ.1 p e s m args below meth c B _ _ _ hX X' rfl (Fr.app hF hQ.2) (by omega) (by omega)
  exact ⟨s₂, v', L, stp _ g1, g2⟩
theorem Run.callV {a0 : Array Value} {C : String} {y z : MethodName} {bytes : ByteArray} {mL : Nat} {rt : Option FieldType} {rm : Room} {a : Addr} {as rest : List Value} {Qy : Option Value → Heap → Prop} {i : Nat} {ps : List FieldType} {rr : Option FieldType}
    (hC : Con l Z n0 z bytes mL rt rm (.ref a :: as).toArray h Qy) (hE : Exa Z h a C) (hd : decode code pc = .ok (.invokevirtual i, 3)) (w1 : (Cond.methodLink own i y).before a0 Z = true) (w2 : (Cond.declares y).before a0 Z = true) (nf : ∀ (s : State), Z.Warmed39 s.vm → NotFace s y) (w3 : (Cond.selects C y z).before a0 Z = true) (w4 : (Cond.instanceMethod z).before a0 Z = true) (w5 : (Cond.initialized z.cls).before a0 Z = true) (w6 : (Cond.code z bytes mL rt).before a0 Z = true)
    (hy : y.cls ≠ "java/lang/invoke/MethodHandle" ∧ y.cls ≠ "java/lang/invoke/VarHandle") (hds : parseMethodDescriptor y.desc = some ⟨ps, rr⟩) (hl : as.length = ps.length) (hst : st = as.reverse ++ .ref a :: rest) (hsz : Ls.size = maxL)
    (hf : rm.frames + 1 ≤ R.frames) (hlo : (rest.map fun v => v.category).sum + (mL + 11) + rm.locals ≤ R.locals) (hk : k + rm.cells ≤ k') (hk' : k' ≤ R.cells) (hn : n + rm.slots ≤ n') (hn' : n' ≤ R.slots) (hp : pc + 3 = pc')
    (nxt : ∀ v h', Qy v h' → Run l Z n0 own code maxL ret nm R Q pc' Ls (v.toList ++ rest) h' k' n') : Run l Z n0 own code maxL ret nm R Q pc Ls st h k n := by
  subst hp hst
  intro p e s m args below meth c T locs cells slots hX X eT hF hc hs
  obtain ⟨hx, hZ, hown, hby, hml, -⟩ := id hX
  obtain ⟨cq, kq, qa, qb, qc⟩ := isOf hZ eT hE
  obtain ⟨v, vm₁, ⟨B, L', cc, ss⟩, -, X', ⟨Lc, hQ, l1, y1, z1⟩, stp⟩ := X.virtualBack hx (y := y) (z := z) hown (mvT hZ w1) (mvT hZ w2) (nf s hZ) (mvT hZ w3) (mvT hZ w4) hy (backOf (W := (rest.map fun v => v.category).sum) (Q := fun v h L => Qy v h ∧ Fr n0 L) (hC []) hZ w6 w5 hf hlo) qa qc (g := mkF m pc Ls (as.reverse ++ .ref a :: rest)) rfl (hsz.trans hml.symm) (Steps.refl _) (argsL := as) (rest := rest) (lenOf hds hl) rfl (by show 2 * 0 + _ ≤ _; omega) (hb hby hd) (fun _ _ => ⟨rfl, eT, (by show cells + rm.cells ≤ R.cells; omega), (by show slots + rm.slots ≤ R.slots; omega)⟩)
  dsimp only [Pt.U, Pt.locs, Pt.cells, Pt.slots] at X' l1 y1 z1 stp hQ
  subst l1 y1 z1
  obtain ⟨s₂, v', L, g1, g2⟩ := nxt v _ hQ.1 p e s m args below meth c B _ _ _ hX X' rfl (Fr.app hF hQ.2) (by omega) (by omega)
  exact ⟨s₂, v', L, stp.trans g1, g2⟩
theorem Run.callN {a0 : Array Value} {y : MethodName} {bytes : ByteArray} {mL : Nat} {rm : Room} {a : Addr} {as rest : List Value} {P : Heap → Prop} {i : Nat} {ps : List FieldType} {rr : Option FieldType}
    (hC : Con l Z n0 y bytes mL none rm (.ref a :: as).toArray h (Vd P)) (hy1 : y.name = "<init>") (hd : decode code pc = .ok (.invokespecial i, 3)) (w1 : (Cond.methodLink own i y).before a0 Z = true) (w2 : (Cond.instanceMethod y).before a0 Z = true) (w3 : (Cond.initialized y.cls).before a0 Z = true) (w4 : (Cond.code y bytes mL none).before a0 Z = true)
    (hy : y.cls ≠ "java/lang/invoke/MethodHandle" ∧ y.cls ≠ "java/lang/invoke/VarHandle") (hds : parseMethodDescriptor y.desc = some ⟨ps, rr⟩) (hl : as.length = ps.length) (hst : st = as.reverse ++ .ref a :: rest) (hsz : Ls.size = maxL)
    (hf : rm.frames + 1 ≤ R.frames) (hlo : (rest.map fun v => v.category).sum + (mL + 11) + rm.locals ≤ R.locals) (hk : k + rm.cells ≤ k') (hk' : k' ≤ R.cells) (hn : n + rm.slots ≤ n') (hn' : n' ≤ R.slots) (hp : pc + 3 = pc')
    (nxt : ∀ h', P h' → Run l Z n0 own code maxL ret nm R Q pc' Ls rest h' k' n') : Run l Z n0 own code maxL ret nm R Q pc Ls st h k n := by
  subst hp hst
  intro p e s m args below meth c T locs cells slots hX X eT hF hc hs
  obtain ⟨hx, hZ, hown, hby, hml, -⟩ := id hX
  obtain ⟨v, vm₁, ⟨B, L', cc, ss⟩, -, X', ⟨Lc, hQ, l1, y1, z1⟩, stp⟩ := X.specialBack hx (y := y) hy1 hown (mvT hZ w1) (mvT hZ w2) (mvT hZ w4) hy (backOf (W := (rest.map fun v => v.category).sum) (Q := fun v h L => Vd P v h ∧ Fr n0 L) (hC []) hZ w4 w3 hf hlo) (g := mkF m pc Ls (as.reverse ++ .ref a :: rest)) rfl (hsz.trans hml.symm) (Steps.refl _) (a := a) (argsL := as) (rest := rest) (lenOf hds hl) rfl (by show 2 * 0 + _ ≤ _; omega) (hb hby hd) (fun _ _ => ⟨rfl, eT, (by show cells + rm.cells ≤ R.cells; omega), (by show slots + rm.slots ≤ R.slots; omega)⟩)
  dsimp only [Pt.U, Pt.locs, Pt.cells, Pt.slots] at X' l1 y1 z1 stp hQ
  subst l1 y1 z1
  obtain ⟨⟨rfl, hP⟩, hL⟩ := hQ
  obtain ⟨s₂, v', L, g1, g2⟩ := nxt _ hP p e s m args below meth c B _ _ _ hX X' rfl (Fr.app hF hL) (by omega) (by omega)
  exact ⟨s₂, v', L, stp.trans g1, g2⟩
/-! the heap: new objects, fields written, arrays -/
theorem Run.wr {a : Addr} {sl : Nat} {v : Value} {Ls' : Array Slot} {st' : List Value} (f : ∀ (p : Program) (e : Env) (s : State) (m : MethodId) (args : Array Value) (below : List Frame) (meth : Method) (c : Code) (T : State) (locs : List Loc) (cells slots : Nat),
      Ctx Z own code maxL ret nm p s m meth c → Stand p l e R s m args below meth c T locs cells slots → T.heap = h → ∃ T' h', Stand p l e R s m args below meth c T' (locs ++ [⟨a, sl⟩]) cells slots ∧ T'.heap = h' ∧ Wr h h' a sl v ∧ ∀ t, Steps p.tables e below (T'.setTop (mkF m pc' Ls' st')) t → Steps p.tables e below (T.setTop (mkF m pc Ls st)) t)
    (ha : n0 ≤ a) (nxt : ∀ h', Wr h h' a sl v → Run l Z n0 own code maxL ret nm R Q pc' Ls' st' h' k n) : Run l Z n0 own code maxL ret nm R Q pc Ls st h k n := by
  intro p e s m args below meth c T locs cells slots hC X eT hF hk hn
  obtain ⟨T', h', X', e', W, stp⟩ := f p e s m args below meth c T locs cells slots hC X eT
  obtain ⟨s₂, v', L, g1, g2⟩ := nxt h' W p e s m args below meth c T' _ cells slots hC X' e' (Fr.snoc X' hF ha) hk hn
  exact ⟨s₂, v', L, stp _ g1, g2⟩
theorem Run.newO {a0 : Array Value} {C : String} {i sl : Nat} (hd : decode code pc = .ok (.new i, 3)) (w : (Cond.classLink own i C).before a0 Z = true) (wi : (Cond.instantiable C sl).before a0 Z = true) (wz : (Cond.initialized C).before a0 Z = true)
    (hk : k + 1 ≤ k') (hk' : k' ≤ R.cells) (hn : n + sl ≤ n') (hn' : n' ≤ R.slots) (hp : pc + 3 = pc')
    (nxt : ∀ h' a, a = h.size → Ext h h' → Exa Z h' a C → (∀ {O f d : String} {ty : FieldType}, Laid Z a0 C O f d → parseFieldDescriptor d = some ty → Fld Z h' a O f d (defaultValue ty)) → Run l Z n0 own code maxL ret nm R Q pc' Ls (.ref a :: st) h' k' n') : Run l Z n0 own code maxL ret nm R Q pc Ls st h k n := by
  subst hp
  intro p e s m args below meth c T locs cells slots hC X eT hF hkk hnn
  obtain ⟨T', h', X', e', E, A, D, -, stp⟩ := newO X hC.1 hC.2.1 hC.2.2.1 w wi wz eT (g := mkF m pc Ls st) rfl (hb hC.2.2.2.1 hd) (by omega) (by omega)
  obtain ⟨s₂, v, L, g1, g2⟩ := nxt h' h.size rfl E A D p e s m args below meth c T' locs _ _ hC X' e' hF (by omega) (by omega)
  exact ⟨s₂, v, L, stp _ g1, g2⟩
theorem Run.initO {a0 : Array Value} {i : Nat} {a : Addr} (hd : decode code pc = .ok (.invokespecial i, 3)) (w1 : (Cond.methodLink own i Lib.objectInit).before a0 Z = true) (w2 : (Cond.instanceMethod Lib.objectInit).before a0 Z = true) (w3 : (Cond.code Lib.objectInit ⟨#[0xb1]⟩ 1 none).before a0 Z = true)
    (hsz : Ls.size = maxL) (hf : 1 ≤ R.frames) (hl : (st.map fun v => v.category).sum + 12 ≤ R.locals) (hp : pc + 3 = pc') (nxt : Run l Z n0 own code maxL ret nm R Q pc' Ls st h k n) : Run l Z n0 own code maxL ret nm R Q pc Ls (.ref a :: st) h k n := by
  subst hp
  exact Run.via (fun p e s m args below meth c T locs cells slots hC X eT => initO X hC.1 hC.2.1 hC.2.2.1 w1 w2 w3 eT (g := mkF m pc Ls (.ref a :: st)) rfl (hsz.trans hC.2.2.2.2.1.symm) rfl (hb hC.2.2.2.1 hd) hf (W := (st.map fun v => v.category).sum) (by show 2 * 0 + _ ≤ _; omega) hl) nxt
theorem Run.putF {a0 : Array Value} {R0 O f d host C : String} {i sl : Nat} {ty : FieldType} {a : Addr} {v old : Value} (hd : decode code pc = .ok (.putfield i, 3)) (w : (Cond.fieldLink own i R0 f d).before a0 Z = true ∨ (Cond.fieldLinkNest own i R0 f d host).before a0 Z = true) (via : Via Z R0 O f d) (F : Fld Z h a O f d old) (E : Exa Z h a C)
    (L : (Cond.lays C O f d).before a0 Z = true ∨ ((Cond.laysFinal C O f d).before a0 Z = true ∧ own = O ∧ nm = "<init>")) (wi : (Cond.instantiable C sl).before a0 Z = true) (hty : parseFieldDescriptor d = some ty) (hnv : narrow ty v = v) (hfv : fits ty v = true) (ha : n0 ≤ a) (hp : pc + 3 = pc')
    (nxt : ∀ h', Wr h h' a (Jvm.RoadKit.slotOf Z O f d) v → Run l Z n0 own code maxL ret nm R Q pc' Ls st h' k n) : Run l Z n0 own code maxL ret nm R Q pc Ls (v :: .ref a :: st) h k n := by
  subst hp
  exact Run.wr (fun p e s m args below meth c T locs cells slots hC X eT => putF X hC.1 hC.2.1 hC.2.2.1 w via eT F E (L.imp id fun q => ⟨q.1, q.2.1, hC.2.2.2.2.2.2.2.trans q.2.2⟩) wi hty hnv hfv (g := mkF m pc Ls (v :: .ref a :: st)) rfl rfl (hb hC.2.2.2.1 hd)) ha nxt
theorem Run.putFN {a0 : Array Value} {R0 O f d C : String} {i sl : Nat} {ty : FieldType} {a : Addr} {v v' old : Value} (hd : decode code pc = .ok (.putfield i, 3)) (w : (Cond.fieldLink own i R0 f d).before a0 Z = true) (via : Via Z R0 O f d) (F : Fld Z h a O f d old) (E : Exa Z h a C)
    (L : (Cond.lays C O f d).before a0 Z = true ∨ ((Cond.laysFinal C O f d).before a0 Z = true ∧ own = O ∧ nm = "<init>")) (wi : (Cond.instantiable C sl).before a0 Z = true) (hty : parseFieldDescriptor d = some ty) (hnv : narrow ty v = v') (hfv : fits ty v' = true) (ha : n0 ≤ a) (hp : pc + 3 = pc')
    (nxt : ∀ h', Wr h h' a (Jvm.RoadKit.slotOf Z O f d) v' → Run l Z n0 own code maxL ret nm R Q pc' Ls st h' k n) : Run l Z n0 own code maxL ret nm R Q pc Ls (v :: .ref a :: st) h k n := by
  subst hp
  exact Run.wr (fun p e s m args below meth c T locs cells slots hC X eT => putFN X hC.1 hC.2.1 hC.2.2.1 w via eT F E (L.imp id fun q => ⟨q.1, q.2.1, hC.2.2.2.2.2.2.2.trans q.2.2⟩) wi hty hnv hfv (g := mkF m pc Ls (v :: .ref a :: st)) rfl rfl (hb hC.2.2.2.1 hd)) ha nxt
theorem Run.castY {a0 : Array Value} {K : String} {i : Nat} {a : Addr} (hd : decode code pc = .ok (.checkcast i, 3)) (w : (Cond.classLink own i K).before a0 Z = true) (F : Ins Z h a K true) (hp : pc + 3 = pc') (nxt : Run l Z n0 own code maxL ret nm R Q pc' Ls (.ref a :: st) h k n) : Run l Z n0 own code maxL ret nm R Q pc Ls (.ref a :: st) h k n := by
  subst hp
  exact Run.via (fun p e s m args below meth c T locs cells slots hC X eT => castY X hC.1 hC.2.1 hC.2.2.1 w eT F (g := mkF m pc Ls (.ref a :: st)) rfl rfl (hb hC.2.2.2.1 hd)) nxt
theorem Run.castNull {i : Nat} (hd : decode code pc = .ok (.checkcast i, 3)) (hp : pc + 3 = pc') (nxt : Run l Z n0 own code maxL ret nm R Q pc' Ls (.null :: st) h k n) : Run l Z n0 own code maxL ret nm R Q pc Ls (.null :: st) h k n := by
  subst hp
  exact Run.via (fun p e s m args below meth c T locs cells slots hC X eT => ⟨T, X, eT, fun t q => X.checkcastNull hC.1 (g := mkF m pc Ls (.null :: st)) rfl rfl (hb hC.2.2.2.1 hd) t q⟩) nxt
theorem Run.instY {a0 : Array Value} {K : String} {i : Nat} {a : Addr} (hd : decode code pc = .ok (.instanceof i, 3)) (w : (Cond.classLink own i K).before a0 Z = true) (F : Ins Z h a K true) (hp : pc + 3 = pc') (nxt : Run l Z n0 own code maxL ret nm R Q pc' Ls (.int 1 :: st) h k n) : Run l Z n0 own code maxL ret nm R Q pc Ls (.ref a :: st) h k n := by
  subst hp
  exact Run.via (fun p e s m args below meth c T locs cells slots hC X eT => instY X hC.1 hC.2.1 hC.2.2.1 w eT F (g := mkF m pc Ls (.ref a :: st)) rfl rfl (hb hC.2.2.2.1 hd)) nxt
theorem Run.instNo {a0 : Array Value} {K C : String} {i : Nat} {a : Addr} (hd : decode code pc = .ok (.instanceof i, 3)) (w : (Cond.classLink own i K).before a0 Z = true) (E : Exa Z h a C) (F : ∃ c t, Z.vm.findClass C = some c ∧ Z.vm.findClass K = some t ∧ Z.vm.assignable c t = false) (hp : pc + 3 = pc') (nxt : Run l Z n0 own code maxL ret nm R Q pc' Ls (.int 0 :: st) h k n) : Run l Z n0 own code maxL ret nm R Q pc Ls (.ref a :: st) h k n := by
  subst hp
  exact Run.via (fun p e s m args below meth c T locs cells slots hC X eT => instNo X hC.1 hC.2.1 hC.2.2.1 w eT E F (g := mkF m pc Ls (.ref a :: st)) rfl rfl (hb hC.2.2.2.1 hd)) nxt
theorem Run.instNull {i : Nat} (hd : decode code pc = .ok (.instanceof i, 3)) (hp : pc + 3 = pc') (nxt : Run l Z n0 own code maxL ret nm R Q pc' Ls (.int 0 :: st) h k n) : Run l Z n0 own code maxL ret nm R Q pc Ls (.null :: st) h k n := by
  subst hp
  exact Run.via (fun p e s m args below meth c T locs cells slots hC X eT => ⟨T, X, eT, fun t q => X.instanceofNull hC.1 (g := mkF m pc Ls (.null :: st)) rfl rfl (hb hC.2.2.2.1 hd) t q⟩) nxt
/-- the array at a holds just the list vs -/
def Ary (Z : State) (h : Heap) (a : Addr) (ty : FieldType) (vs : List Value) : Prop := ∃ c : Cell, Arr Z h a c ty ∧ c.slots.toList = vs
section Ar
variable {h' : Heap} {a b : Addr} {ty : FieldType} {vs : List Value} {sl : Nat} {v : Value} {ws : List Addr}
theorem Ary.lt (F : Ary Z h a ty vs) : a < h.size := by obtain ⟨c, A, -⟩ := F; exact A.lt
theorem Ary.ext (F : Ary Z h a ty vs) (E : Ext h h') : Ary Z h' a ty vs := by obtain ⟨c, A, r⟩ := F; exact ⟨c, A.ext E, r⟩
theorem Ary.other (F : Ary Z h b ty vs) (W : Wr h h' a sl v) (q : b ≠ a) : Ary Z h' b ty vs := by obtain ⟨c, A, r⟩ := F; exact ⟨c, A.other W q, r⟩
theorem Ary.keep (F : Ary Z h a ty vs) (K : Keep h h' ws) (q : a ∉ ws) : Ary Z h' a ty vs := by obtain ⟨c, A, r⟩ := F; exact ⟨c, ⟨K.2.1 a c A.1 q, A.2⟩, r⟩
theorem Ary.set (F : Ary Z h a ty vs) (W : Wr h h' a sl v) : Ary Z h' a ty (vs.set sl v) := by
  obtain ⟨c, A, r⟩ := F
  exact ⟨_, A.same W, by rw [← r]; simp [Cell.setSlot]⟩
theorem Ext.refl (h : Heap) : Ext h h := ⟨Nat.le_refl _, fun _ _ q => q⟩
theorem Ext.trans {h0 : Heap} (E : Ext h0 h) (E' : Ext h h') : Ext h0 h' := ⟨Nat.le_trans E.1 E'.1, fun a c q => E'.2 a c (E.2 a c q)⟩
theorem Ext.wr {h0 : Heap} (E : Ext h0 h) (W : Wr h h' a sl v) (q : h0.size ≤ a) : Ext h0 h' := by
  refine ⟨Nat.le_trans E.1 (Nat.le_of_eq W.size.symm), fun b c hb => ?_⟩
  obtain ⟨c', e1, -, -, -, e5, -⟩ := wr_at W (E.2 b c hb)
  have : b ≠ a := fun z => by subst z; exact absurd (Array.getElem?_eq_some_iff.mp hb).1 (Nat.not_lt.mpr q)
  rw [← e5 this]; exact e1
theorem Ext.keep {h0 : Heap} (E : Ext h0 h) (K : Keep h h' ws) (q : ∀ x ∈ ws, h0.size ≤ x) : Ext h0 h' :=
  ⟨Nat.le_trans E.1 K.1, fun b c hb => K.2.1 b c (E.2 b c hb) fun z => absurd (Array.getElem?_eq_some_iff.mp hb).1 (Nat.not_lt.mpr (q b z))⟩
theorem Keep.toExt (K : Keep h h' []) : Ext h h' := ⟨K.1, fun b c hb => K.2.1 b c hb nin0⟩
theorem own_fitsR {t : FieldType} (ht : refKind t = true) (hv : v.isRef = true) : fits t v = true := by cases t <;> first | (cases ht; done) | (cases v <;> first | rfl | cases hv)
theorem nst_exa {C : String} (E : Exa Z h a C) : ∃ c : Cell, h[a]? = some c ∧ c.vm.isStatics = false := by obtain ⟨c, _, h1, -, -, h4, -⟩ := E; exact ⟨c, h1, h4⟩
theorem nst_ary (A : Ary Z h a ty vs) : ∃ c : Cell, h[a]? = some c ∧ c.vm.isStatics = false := by obtain ⟨c, A, -⟩ := A; exact ⟨c, A.1, A.plain⟩
theorem sta_keep {C f d : String} (F : Sta Z h C f d v) (K : Keep h h' ws) (q : ∀ x ∈ ws, ∃ c : Cell, h[x]? = some c ∧ c.vm.isStatics = false) : Sta Z h' C f d v := by
  obtain ⟨cf, i, k, f, st, cell, h1, h2, h3, h4, h5, h6, h7⟩ := F
  refine ⟨cf, i, k, f, st, cell, h1, h2, h3, h4, K.2.1 st cell h5 fun hx => ?_, h6, h7⟩
  obtain ⟨c, e1, e2⟩ := q st hx
  cases e1.symm.trans h5
  rw [h6] at e2; cases e2
theorem Keep.ofExt (E : Ext h h') : Keep h h' [] := (Keep.refl h []).ext E
theorem idxIn {c : Cell} {j : Int32} {i : Nat} (hj : j.toInt = (i : Int)) (hi : i < c.slots.size) : ¬ (j < 0 ∨ c.slots.size ≤ j.toNatClampNeg) ∧ j.toNatClampNeg = i := by
  have e : j.toNatClampNeg = i := by have : j.toNatClampNeg = j.toInt.toNat := rfl; rw [this, hj]; rfl
  refine ⟨fun q => ?_, e⟩
  rcases q with q | q
  · rw [Int32.lt_iff_toInt_lt, hj] at q; have : (0 : Int32).toInt = 0 := rfl; omega
  · omega
theorem sizeOf {c : Cell} (r : c.slots.toList = vs) : c.slots.size = vs.length := by rw [← r]; simp
theorem getOf {c : Cell} {i : Nat} (r : c.slots.toList = vs) (hv : vs[i]? = some v) : c.slots[i]? = some v := by rw [← r] at hv; simpa using hv
end Ar
theorem ns_root {a0 : Array Value} {O K : String} {m : Nat} (w : (Cond.noSuperclass O).before a0 Z = true) (wk : (Cond.instantiable K m).before a0 Z = true) (hn : O ≠ K) : NS Z O K := by
  obtain ⟨c, k, h1, h2, h3, -, -⟩ := Cond.noSuperclass_spec w
  obtain ⟨t, k2, g1, -⟩ := Cond.instantiable_spec wk
  have ne := ids_ne h1 g1 hn
  refine ⟨c, t, h1, g1, fun fuel => ?_⟩
  cases fuel with
  | zero => rfl
  | succ f => simp [Vm.isSubclassAux, ne, h2, h3]
theorem ns_no {a0 : Array Value} {C S K : String} {m : Nat} (w : (Cond.superclass C S).before a0 Z = true) (wk : (Cond.instantiable K m).before a0 Z = true) (n : NS Z C K) (hn : C ≠ K) : ∃ c t, Z.vm.findClass C = some c ∧ Z.vm.findClass K = some t ∧ Z.vm.assignable c t = false := by
  obtain ⟨c, t, h0, g0, n3⟩ := n
  obtain ⟨p, k, kp, h1, h2, h3, h4, h5, -, h7⟩ := Cond.superclass_spec h0 w
  obtain ⟨t', k', g1, g2, g5, g7, -⟩ := Cond.instantiable_spec wk
  cases g0.symm.trans g1
  have ne := ids_ne h0 g0 hn
  have g8 : k'.isInterface = false := by cases hq : k'.isInterface <;> simp [hq] at g7 ⊢
  refine ⟨c, t, h0, g0, ?_⟩
  show Z.vm.assignableAux (255 + 1) c t = false
  simp [Vm.assignableAux, ne, h2, g2, h5, g5, g8, Vm.isSubclass, n3]
theorem Run.alen {a : Addr} {ty : FieldType} {vs : List Value} {z : Int32} (hd : decode code pc = .ok (.arraylength, 1)) (A : Ary Z h a ty vs) (hz : vs.length.toInt32 = z) (hp : pc + 1 = pc') (nxt : Run l Z n0 own code maxL ret nm R Q pc' Ls (.int z :: st) h k n) : Run l Z n0 own code maxL ret nm R Q pc Ls (.ref a :: st) h k n := by
  subst hp hz
  obtain ⟨c0, A, r⟩ := A
  exact Run.via (fun p e s m args below meth c T locs cells slots hC X eT => ⟨T, X, eT, fun t q => X.arraylength hC.1 (by rw [eT]; exact A.1) (State.isArrayOf_alike hC.2.1.alike A.2.1) (g := mkF m pc Ls (.ref a :: st)) rfl rfl (hb hC.2.2.2.1 hd) t (by rw [sizeOf r]; exact q)⟩) nxt
theorem Run.iaload {a : Addr} {vs : List Value} {j : Int32} {i : Nat} {v : Value} (hd : decode code pc = .ok (.iaload, 1)) (A : Ary Z h a .int vs) (hj : j.toInt = (i : Int)) (hv : vs[i]? = some v) (hp : pc + 1 = pc') (nxt : Run l Z n0 own code maxL ret nm R Q pc' Ls (v :: st) h k n) : Run l Z n0 own code maxL ret nm R Q pc Ls (.int j :: .ref a :: st) h k n := by
  subst hp
  obtain ⟨c0, A, r⟩ := A
  obtain ⟨hin, e0⟩ := idxIn (c := c0) hj (by rw [sizeOf r]; exact (List.getElem?_eq_some_iff.mp hv).1)
  exact Run.via (fun p e s m args below meth c T locs cells slots hC X eT => ⟨T, X, eT, fun t q => X.iaload hC.1 (by rw [eT]; exact A.1) (State.isArrayOf_alike hC.2.1.alike A.2.1) A.2.2 hin (by rw [e0]; exact getOf r hv) (g := mkF m pc Ls (.int j :: .ref a :: st)) rfl rfl (hb hC.2.2.2.1 hd) t q⟩) nxt
theorem Run.laload {a : Addr} {vs : List Value} {j : Int32} {i : Nat} {v : Value} (hd : decode code pc = .ok (.laload, 1)) (A : Ary Z h a .long vs) (hj : j.toInt = (i : Int)) (hv : vs[i]? = some v) (hp : pc + 1 = pc') (nxt : Run l Z n0 own code maxL ret nm R Q pc' Ls (v :: st) h k n) : Run l Z n0 own code maxL ret nm R Q pc Ls (.int j :: .ref a :: st) h k n := by
  subst hp
  obtain ⟨c0, A, r⟩ := A
  obtain ⟨hin, e0⟩ := idxIn (c := c0) hj (by rw [sizeOf r]; exact (List.getElem?_eq_some_iff.mp hv).1)
  exact Run.via (fun p e s m args below meth c T locs cells slots hC X eT => ⟨T, X, eT, fun t q => X.laload hC.1 (by rw [eT]; exact A.1) (State.isArrayOf_alike hC.2.1.alike A.2.1) A.2.2 hin (by rw [e0]; exact getOf r hv) (g := mkF m pc Ls (.int j :: .ref a :: st)) rfl rfl (hb hC.2.2.2.1 hd) t q⟩) nxt
theorem Run.caload {a : Addr} {vs : List Value} {j : Int32} {i : Nat} {v : Value} (hd : decode code pc = .ok (.caload, 1)) (A : Ary Z h a .char vs) (hj : j.toInt = (i : Int)) (hv : vs[i]? = some v) (hp : pc + 1 = pc') (nxt : Run l Z n0 own code maxL ret nm R Q pc' Ls (v :: st) h k n) : Run l Z n0 own code maxL ret nm R Q pc Ls (.int j :: .ref a :: st) h k n := by
  subst hp
  obtain ⟨c0, A, r⟩ := A
  obtain ⟨hin, e0⟩ := idxIn (c := c0) hj (by rw [sizeOf r]; exact (List.getElem?_eq_some_iff.mp hv).1)
  exact Run.via (fun p e s m args below meth c T locs cells slots hC X eT => ⟨T, X, eT, fun t q => X.caload hC.1 (by rw [eT]; exact A.1) (State.isArrayOf_alike hC.2.1.alike A.2.1) A.2.2 hin (by rw [e0]; exact getOf r hv) (g := mkF m pc Ls (.int j :: .ref a :: st)) rfl rfl (hb hC.2.2.2.1 hd) t q⟩) nxt
theorem Run.saload {a : Addr} {vs : List Value} {j : Int32} {i : Nat} {v : Value} (hd : decode code pc = .ok (.saload, 1)) (A : Ary Z h a .short vs) (hj : j.toInt = (i : Int)) (hv : vs[i]? = some v) (hp : pc + 1 = pc') (nxt : Run l Z n0 own code maxL ret nm R Q pc' Ls (v :: st) h k n) : Run l Z n0 own code maxL ret nm R Q pc Ls (.int j :: .ref a :: st) h k n := by
  subst hp
  obtain ⟨c0, A, r⟩ := A
  obtain ⟨hin, e0⟩ := idxIn (c := c0) hj (by rw [sizeOf r]; exact (List.getElem?_eq_some_iff.mp hv).1)
  exact Run.via (fun p e s m args below meth c T locs cells slots hC X eT => ⟨T, X, eT, fun t q => X.saload hC.1 (by rw [eT]; exact A.1) (State.isArrayOf_alike hC.2.1.alike A.2.1) A.2.2 hin (by rw [e0]; exact getOf r hv) (g := mkF m pc Ls (.int j :: .ref a :: st)) rfl rfl (hb hC.2.2.2.1 hd) t q⟩) nxt
theorem Run.baload {a : Addr} {vs : List Value} {j : Int32} {i : Nat} {v : Value} (hd : decode code pc = .ok (.baload, 1)) (A : Ary Z h a .byte vs) (hj : j.toInt = (i : Int)) (hv : vs[i]? = some v) (hp : pc + 1 = pc') (nxt : Run l Z n0 own code maxL ret nm R Q pc' Ls (v :: st) h k n) : Run l Z n0 own code maxL ret nm R Q pc Ls (.int j :: .ref a :: st) h k n := by
  subst hp
  obtain ⟨c0, A, r⟩ := A
  obtain ⟨hin, e0⟩ := idxIn (c := c0) hj (by rw [sizeOf r]; exact (List.getElem?_eq_some_iff.mp hv).1)
  exact Run.via (fun p e s m args below meth c T locs cells slots hC X eT => ⟨T, X, eT, fun t q => X.baloadBytes hC.1 (by rw [eT]; exact A.1) (State.isArrayOf_alike hC.2.1.alike A.2.1) A.2.2 hin (by rw [e0]; exact getOf r hv) (g := mkF m pc Ls (.int j :: .ref a :: st)) rfl rfl (hb hC.2.2.2.1 hd) t q⟩) nxt
theorem Run.aaload {a : Addr} {vs : List Value} {j : Int32} {i : Nat} {v : Value} {ty : FieldType} (hd : decode code pc = .ok (.aaload, 1)) (A : Ary Z h a ty vs) (hty : ty.isReference = true) (hj : j.toInt = (i : Int)) (hv : vs[i]? = some v) (hp : pc + 1 = pc') (nxt : Run l Z n0 own code maxL ret nm R Q pc' Ls (v :: st) h k n) : Run l Z n0 own code maxL ret nm R Q pc Ls (.int j :: .ref a :: st) h k n := by
  subst hp
  obtain ⟨c0, A, r⟩ := A
  obtain ⟨hin, e0⟩ := idxIn (c := c0) hj (by rw [sizeOf r]; exact (List.getElem?_eq_some_iff.mp hv).1)
  exact Run.via (fun p e s m args below meth c T locs cells slots hC X eT => ⟨T, X, eT, fun t q => X.aaload hC.1 (by rw [eT]; exact A.1) (State.isArrayOf_alike hC.2.1.alike A.2.1) hty A.2.2 hin (by rw [e0]; exact getOf r hv) (g := mkF m pc Ls (.int j :: .ref a :: st)) rfl rfl (hb hC.2.2.2.1 hd) t q⟩) nxt
theorem Run.iastore {a : Addr} {vs : List Value} {j : Int32} {i : Nat} {x : Int32} (hd : decode code pc = .ok (.iastore, 1)) (A : Ary Z h a .int vs) (hj : j.toInt = (i : Int)) (hi : i < vs.length) (ha : n0 ≤ a) (hp : pc + 1 = pc') (nxt : ∀ h', Wr h h' a i (.int x) → Ary Z h' a .int (vs.set i (.int x)) → Run l Z n0 own code maxL ret nm R Q pc' Ls st h' k n) : Run l Z n0 own code maxL ret nm R Q pc Ls (.int x :: .int j :: .ref a :: st) h k n := by
  subst hp
  have A' := A
  obtain ⟨c0, A, r⟩ := A
  obtain ⟨hin, e0⟩ := idxIn (c := c0) hj (by rw [sizeOf r]; exact hi)
  refine Run.wr (fun p e s m args below meth c T locs cells slots hC X eT => ?_) ha (fun h' W => nxt h' W (A'.set W))
  have q := stI X hC.1 hC.2.1 eT A hin (g := mkF m pc Ls (.int x :: .int j :: .ref a :: st)) rfl rfl (hb hC.2.2.2.1 hd)
  rw [e0] at q
  exact q
theorem Run.lastore {a : Addr} {vs : List Value} {j : Int32} {i : Nat} {x : Int64} (hd : decode code pc = .ok (.lastore, 1)) (A : Ary Z h a .long vs) (hj : j.toInt = (i : Int)) (hi : i < vs.length) (ha : n0 ≤ a) (hp : pc + 1 = pc') (nxt : ∀ h', Wr h h' a i (.long x) → Ary Z h' a .long (vs.set i (.long x)) → Run l Z n0 own code maxL ret nm R Q pc' Ls st h' k n) : Run l Z n0 own code maxL ret nm R Q pc Ls (.long x :: .int j :: .ref a :: st) h k n := by
  subst hp
  have A' := A
  obtain ⟨c0, A, r⟩ := A
  obtain ⟨hin, e0⟩ := idxIn (c := c0) hj (by rw [sizeOf r]; exact hi)
  refine Run.wr (fun p e s m args below meth c T locs cells slots hC X eT => ?_) ha (fun h' W => nxt h' W (A'.set W))
  have q := stJ X hC.1 hC.2.1 eT A hin (g := mkF m pc Ls (.long x :: .int j :: .ref a :: st)) rfl rfl (hb hC.2.2.2.1 hd)
  rw [e0] at q
  exact q
theorem Run.castore {a : Addr} {vs : List Value} {j : Int32} {i : Nat} {x : Int32} (hd : decode code pc = .ok (.castore, 1)) (A : Ary Z h a .char vs) (hj : j.toInt = (i : Int)) (hi : i < vs.length) (ha : n0 ≤ a) (hp : pc + 1 = pc') (nxt : ∀ h', Wr h h' a i (.int (nar .char x)) → Ary Z h' a .char (vs.set i (.int (nar .char x))) → Run l Z n0 own code maxL ret nm R Q pc' Ls st h' k n) : Run l Z n0 own code maxL ret nm R Q pc Ls (.int x :: .int j :: .ref a :: st) h k n := by
  subst hp
  have A' := A
  obtain ⟨c0, A, r⟩ := A
  obtain ⟨hin, e0⟩ := idxIn (c := c0) hj (by rw [sizeOf r]; exact hi)
  refine Run.wr (fun p e s m args below meth c T locs cells slots hC X eT => ?_) ha (fun h' W => nxt h' W (A'.set W))
  have q := stC X hC.1 hC.2.1 eT A hin (g := mkF m pc Ls (.int x :: .int j :: .ref a :: st)) rfl rfl (hb hC.2.2.2.1 hd)
  rw [e0] at q
  exact q
theorem Run.sastore {a : Addr} {vs : List Value} {j : Int32} {i : Nat} {x : Int32} (hd : decode code pc = .ok (.sastore, 1)) (A : Ary Z h a .short vs) (hj : j.toInt = (i : Int)) (hi : i < vs.length) (ha : n0 ≤ a) (hp : pc + 1 = pc') (nxt : ∀ h', Wr h h' a i (.int (nar .short x)) → Ary Z h' a .short (vs.set i (.int (nar .short x))) → Run l Z n0 own code maxL ret nm R Q pc' Ls st h' k n) : Run l Z n0 own code maxL ret nm R Q pc Ls (.int x :: .int j :: .ref a :: st) h k n := by
  subst hp
  have A' := A
  obtain ⟨c0, A, r⟩ := A
  obtain ⟨hin, e0⟩ := idxIn (c := c0) hj (by rw [sizeOf r]; exact hi)
  refine Run.wr (fun p e s m args below meth c T locs cells slots hC X eT => ?_) ha (fun h' W => nxt h' W (A'.set W))
  have q := stS X hC.1 hC.2.1 eT A hin (g := mkF m pc Ls (.int x :: .int j :: .ref a :: st)) rfl rfl (hb hC.2.2.2.1 hd)
  rw [e0] at q
  exact q
theorem Run.bastore {a : Addr} {vs : List Value} {j : Int32} {i : Nat} {x : Int32} (hd : decode code pc = .ok (.bastore, 1)) (A : Ary Z h a .byte vs) (hj : j.toInt = (i : Int)) (hi : i < vs.length) (ha : n0 ≤ a) (hp : pc + 1 = pc') (nxt : ∀ h', Wr h h' a i (.int (nar .byte x)) → Ary Z h' a .byte (vs.set i (.int (nar .byte x))) → Run l Z n0 own code maxL ret nm R Q pc' Ls st h' k n) : Run l Z n0 own code maxL ret nm R Q pc Ls (.int x :: .int j :: .ref a :: st) h k n := by
  subst hp
  have A' := A
  obtain ⟨c0, A, r⟩ := A
  obtain ⟨hin, e0⟩ := idxIn (c := c0) hj (by rw [sizeOf r]; exact hi)
  refine Run.wr (fun p e s m args below meth c T locs cells slots hC X eT => ?_) ha (fun h' W => nxt h' W (A'.set W))
  have q := stB X hC.1 hC.2.1 eT A hin (g := mkF m pc Ls (.int x :: .int j :: .ref a :: st)) rfl rfl (hb hC.2.2.2.1 hd)
  rw [e0] at q
  exact q
theorem Run.newP {a0 : Array Value} {aty : ArrayType} {ty : FieldType} {z : Int32} {cap m : Nat} {dv : Value} (hd : decode code pc = .ok (.newarray aty, 2)) (hty : newarray.typeOf aty = ty) (w : (Cond.arrayClass ty).before a0 Z = true) (hz : ¬ z < 0) (hcap : z.toNatClampNeg = m) (hm : m ≤ cap) (hdv : defaultValue ty = dv) (hcb : cap * 8 ≤ 536870912)
    (hk : k + 1 ≤ k') (hk' : k' ≤ R.cells) (hn : n + cap ≤ n') (hn' : n' ≤ R.slots) (hp : pc + 2 = pc')
    (nxt : ∀ h' a, a = h.size → Ext h h' → Ary Z h' a ty (List.replicate m dv) → Run l Z n0 own code maxL ret nm R Q pc' Ls (.ref a :: st) h' k' n') : Run l Z n0 own code maxL ret nm R Q pc Ls (.int z :: st) h k n := by
  subst hp hty hdv
  intro p e s m args below meth c T locs cells slots hC X eT hF hkk hnn
  obtain ⟨T', h', cA, X', e', E, A, stp⟩ := newP X hC.1 hC.2.1 w eT (g := mkF m pc Ls (.int z :: st)) rfl (hb hC.2.2.2.1 hd) rfl hz (by omega) hcb (by omega) (by omega)
  obtain ⟨s₂, v, L, g1, g2⟩ := nxt h' h.size rfl E ⟨_, A, by simp [newA, hcap]⟩ p e s m args below meth c T' locs _ _ hC X' e' hF (by omega) (by omega)
  exact ⟨s₂, v, L, stp _ g1, g2⟩
theorem Ary.toArv {h : Heap} {a : Addr} {ty : FieldType} {vs : List Value} {z : Int32} (dv : Value) (F : Ary Z h a ty vs) (hz : z.toInt = (vs.length : Int)) (hf : ∀ v ∈ vs, fits ty v = true) : ∃ kc, Arv Z h a kc ty z vs dv := by
  obtain ⟨c, A, r⟩ := F
  have hsz := sizeOf r
  have e : z.toNatClampNeg = vs.length := by have : z.toNatClampNeg = z.toInt.toNat := rfl; rw [this, hz]; rfl
  refine ⟨c.cls, c, A, rfl, by rw [e, hsz], ?_, fun j hj => ?_, fun j hj => ?_⟩
  · rw [Int32.lt_iff_toInt_lt, hz]; have : (0 : Int32).toInt = 0 := rfl; omega
  · have hj' : j < vs.length := by omega
    rw [getOf r (List.getElem?_eq_getElem hj')]
    simp [List.getD_eq_getElem?_getD, List.getElem?_eq_getElem hj']
  · have hj' : j < vs.length := by omega
    have q := hf _ (List.getElem_mem hj')
    simpa [List.getD_eq_getElem?_getD, List.getElem?_eq_getElem hj'] using q
theorem Ary.ofArv {h : Heap} {a : Addr} {ty : FieldType} {vs : List Value} {z : Int32} {dv : Value} {kc : ClassId} (F : Arv Z h a kc ty z vs dv) (hz : z.toInt = (vs.length : Int)) : Ary Z h a ty vs := by
  obtain ⟨c, A, -, S, -, H, -⟩ := F
  have e : z.toNatClampNeg = vs.length := by have : z.toNatClampNeg = z.toInt.toNat := rfl; rw [this, hz]; rfl
  refine ⟨c, A, List.ext_getElem? fun j => ?_⟩
  by_cases hj : j < vs.length
  · have q := H j (by omega)
    rw [Array.getElem?_toList, q]
    simp [List.getD_eq_getElem?_getD, List.getElem?_eq_getElem hj]
  · rw [List.getElem?_eq_none (l := c.slots.toList) (by rw [Array.length_toList]; omega), List.getElem?_eq_none (l := vs) (by omega)]
/-- System.arraycopy(a, 0, b, 0, a.length) of plain components -/
theorem Run.acopy {a0 : Array Value} {i : Nat} {a b : Addr} {ty : FieldType} {vs us : List Value} {z z' : Int32} (hd : decode code pc = .ok (.invokestatic i, 3)) (w1 : (Cond.methodLink own i Jvm.Stand.acN).before a0 Z = true) (w2 : (Cond.native Jvm.Stand.acN).before a0 Z = true) (w3 : (Cond.static Jvm.Stand.acN).before a0 Z = true) (w4 : (Cond.initialized "java/lang/System").before a0 Z = true)
    (A : Ary Z h a ty vs) (B : Ary Z h b ty us) (hk : refKind ty = false) (hz : z.toInt = (vs.length : Int)) (hz' : z'.toInt = (us.length : Int)) (hle : vs.length ≤ us.length) (fa : ∀ v ∈ vs, fits ty v = true) (fb : ∀ v ∈ us, fits ty v = true) (ge : n0 ≤ b)
    (hsz : Ls.size = maxL) (hf : 1 ≤ R.frames) (hl : (st.map fun v => v.category).sum + (nativeFrameWords "java/lang/System" "arraycopy" 5 + 11) ≤ R.locals) (hp : pc + 3 = pc')
    (nxt : ∀ h', Keep h h' [b] → Ary Z h' b ty (vs ++ us.drop vs.length) → Run l Z n0 own code maxL ret nm R Q pc' Ls st h' k n) : Run l Z n0 own code maxL ret nm R Q pc Ls (.int z :: .int 0 :: .ref b :: .int 0 :: .ref a :: st) h k n := by
  subst hp
  intro p e s m args below meth c T locs cells slots hC X eT hF hkk hnn
  obtain ⟨k1, A1⟩ := A.toArv (z := z) .null hz fa
  obtain ⟨k2, B1⟩ := B.toArv (z := z') .null hz' fb
  have e1 : z.toNatClampNeg = vs.length := by have : z.toNatClampNeg = z.toInt.toNat := rfl; rw [this, hz]; rfl
  have e2 : z'.toNatClampNeg = us.length := by have : z'.toNatClampNeg = z'.toInt.toNat := rfl; rw [this, hz']; rfl
  have e0 : (0 : Int32).toNatClampNeg = 0 := rfl
  have n1 : ¬ z < 0 := by rw [Int32.lt_iff_toInt_lt, hz]; have : (0 : Int32).toInt = 0 := rfl; omega
  have hus : vs = (List.range z.toNatClampNeg).map fun j => vs.getD ((0 : Int32).toNatClampNeg + j) .null := by
    rw [e1, e0]
    apply List.ext_getElem?
    intro j
    by_cases hj : j < vs.length
    · simp [hj, List.getD_eq_getElem?_getD]
    · rw [List.getElem?_eq_none (by omega), List.getElem?_eq_none (by simp; omega)]
  obtain ⟨T', h', L, X', e', N', K, B', stp⟩ := cpA X hC.1 hC.2.1 hC.2.2.1 w1 w2 w3 w4 eT A1 B1 (Or.inl ⟨rfl, hk⟩) (by decide) (by decide) n1 (by rw [e0]; omega) (by rw [e0]; omega) hus (by rw [e0]; omega) hF ge (g := mkF m pc Ls (.int z :: .int 0 :: .ref b :: .int 0 :: .ref a :: st)) rfl (hsz.trans hC.2.2.2.2.1.symm) rfl (hb hC.2.2.2.1 hd) hf (W := (st.map fun v => v.category).sum) (by show 2 * 0 + _ ≤ _; omega) hl
  have hB : Ary Z h' b ty (vs ++ us.drop vs.length) := by
    have q : us.take (0 : Int32).toNatClampNeg ++ vs ++ us.drop ((0 : Int32).toNatClampNeg + z.toNatClampNeg) = vs ++ us.drop vs.length := by rw [e0, e1]; simp
    rw [q] at B'
    exact Ary.ofArv B' (by rw [hz']; simp; omega)
  obtain ⟨s₂, v, L2, g1, g2⟩ := nxt h' K hB p e s m args below meth c T' L cells slots hC X' e' N' hkk hnn
  exact ⟨s₂, v, L2, stp _ g1, g2⟩
/-- System.arraycopy of a part -/
theorem Run.acopyG {a0 : Array Value} {ix i j m : Nat} {a b : Addr} {ty : FieldType} {vs us : List Value} {z z1 z' sp dp : Int32} (hd : decode code pc = .ok (.invokestatic ix, 3)) (w1 : (Cond.methodLink own ix Jvm.Stand.acN).before a0 Z = true) (w2 : (Cond.native Jvm.Stand.acN).before a0 Z = true) (w3 : (Cond.static Jvm.Stand.acN).before a0 Z = true) (w4 : (Cond.initialized "java/lang/System").before a0 Z = true)
    (A : Ary Z h a ty vs) (B : Ary Z h b ty us) (hk : refKind ty = false) (hz1 : z1.toInt = (vs.length : Int)) (hz' : z'.toInt = (us.length : Int)) (hz : z.toInt = (m : Int)) (hsp : sp.toInt = (i : Int)) (hdp : dp.toInt = (j : Int)) (hle : i + m ≤ vs.length) (hle' : j + m ≤ us.length) (fa : ∀ v ∈ vs, fits ty v = true) (fb : ∀ v ∈ us, fits ty v = true) (ge : n0 ≤ b)
    (hsz : Ls.size = maxL) (hf : 1 ≤ R.frames) (hl : (st.map fun v => v.category).sum + (nativeFrameWords "java/lang/System" "arraycopy" 5 + 11) ≤ R.locals) (hp : pc + 3 = pc')
    (nxt : ∀ h', Keep h h' [b] → Ary Z h' b ty (us.take j ++ (vs.drop i).take m ++ us.drop (j + m)) → Run l Z n0 own code maxL ret nm R Q pc' Ls st h' k n) : Run l Z n0 own code maxL ret nm R Q pc Ls (.int z :: .int dp :: .ref b :: .int sp :: .ref a :: st) h k n := by
  subst hp
  intro p e s m' args below meth c T locs cells slots hC X eT hF hkk hnn
  obtain ⟨k1, A1⟩ := A.toArv (z := z1) .null hz1 fa
  obtain ⟨k2, B1⟩ := B.toArv (z := z') .null hz' fb
  have cl : ∀ {x : Int32} {q : Nat}, x.toInt = (q : Int) → x.toNatClampNeg = q ∧ ¬ x < 0 := fun {x q} hx => ⟨by have : x.toNatClampNeg = x.toInt.toNat := rfl; rw [this, hx]; rfl, by rw [Int32.lt_iff_toInt_lt, hx]; have : (0 : Int32).toInt = 0 := rfl; omega⟩
  have e0 := cl hz; have e1 := cl hz1; have e2 := cl hz'; have e3 := cl hsp; have e4 := cl hdp
  have hus : (vs.drop i).take m = (List.range z.toNatClampNeg).map fun q => vs.getD (sp.toNatClampNeg + q) .null := by
    rw [e0.1, e3.1]
    apply List.ext_getElem?
    intro q
    by_cases hj : q < m
    · rw [List.getElem?_take_of_lt hj, List.getElem?_drop]; simp [hj, List.getD_eq_getElem?_getD, show i + q < vs.length by omega]
    · rw [List.getElem?_eq_none (by simp; omega), List.getElem?_eq_none (by simp; omega)]
  obtain ⟨T', h', L, X', e', N', K, B', stp⟩ := cpA X hC.1 hC.2.1 hC.2.2.1 w1 w2 w3 w4 eT A1 B1 (Or.inl ⟨rfl, hk⟩) e3.2 e4.2 e0.2 (by rw [e0.1, e1.1, e3.1]; exact hle) (by rw [e0.1, e2.1, e4.1]; exact hle') hus (by rw [e0.1, e4.1]; exact hle') hF ge (g := mkF m' pc Ls (.int z :: .int dp :: .ref b :: .int sp :: .ref a :: st)) rfl (hsz.trans hC.2.2.2.2.1.symm) rfl (hb hC.2.2.2.1 hd) hf (W := (st.map fun v => v.category).sum) (by show 2 * 0 + _ ≤ _; omega) hl
  rw [e4.1, e0.1] at B'
  have hB := Ary.ofArv B' (by rw [hz']; simp; omega)
  obtain ⟨s₂, v, L2, g1, g2⟩ := nxt h' K hB p e s m' args below meth c T' L cells slots hC X' e' N' hkk hnn
  exact ⟨s₂, v, L2, stp _ g1, g2⟩
/-- clone of an array -/
theorem Run.aclone {a0 : Array Value} {i cap : Nat} {a : Addr} {ty : FieldType} {cl : Cell} {ad : String} (hd : decode code pc = .ok (.invokevirtual i, 3)) (w1 : (Cond.methodLink own i ⟨ad, "clone", "()Ljava/lang/Object;"⟩).before a0 Z = true) (w2 : (Cond.sameMethod ad "java/lang/Object" "clone" "()Ljava/lang/Object;").before a0 Z = true) (w3 : (Cond.native ⟨"java/lang/Object", "clone", "()Ljava/lang/Object;"⟩).before a0 Z = true)
    (w4 : (Cond.instanceMethod ⟨"java/lang/Object", "clone", "()Ljava/lang/Object;"⟩).before a0 Z = true) (w5 : (Cond.selects ad ⟨ad, "clone", "()Ljava/lang/Object;"⟩ ⟨"java/lang/Object", "clone", "()Ljava/lang/Object;"⟩).before a0 Z = true) (w6 : (Cond.castable ad "java/lang/Cloneable").before a0 Z = true)
    (A : Arr Z h a cl ty) (E : Exa Z h a ad) (F : FitC Z cl) (hsz : Ls.size = maxL) (hf : 1 ≤ R.frames) (hl : (st.map fun v => v.category).sum + 14 ≤ R.locals) (hcap : cl.slots.size ≤ cap) (hk : k + 1 ≤ k') (hk' : k' ≤ R.cells) (hn : n + cap ≤ n') (hn' : n' ≤ R.slots) (hp : pc + 3 = pc')
    (nxt : ∀ h' b, b = h.size → Ext h h' → Ary Z h' b ty cl.slots.toList → Exa Z h' b ad → Run l Z n0 own code maxL ret nm R Q pc' Ls (.ref b :: st) h' k' n') : Run l Z n0 own code maxL ret nm R Q pc Ls (.ref a :: st) h k n := by
  subst hp
  intro p e s m args below meth c T locs cells slots hC X eT hF hkk hnn
  obtain ⟨T', h', X', e', E', A', X2, stp⟩ := cloneA X hC.1 hC.2.1 hC.2.2.1 w1 w2 w3 w4 w5 w6 eT A E F (g := mkF m pc Ls (.ref a :: st)) rfl (hsz.trans hC.2.2.2.2.1.symm) rfl (hb hC.2.2.2.1 hd) hf (W := (st.map fun v => v.category).sum) (by show 2 * 0 + _ ≤ _; omega) hl hcap (by omega) (by omega)
  obtain ⟨s₂, v, L, g1, g2⟩ := nxt h' h.size rfl E' ⟨_, A', rfl⟩ X2 p e s m args below meth c T' locs _ _ hC X' e' hF (by omega) (by omega)
  exact ⟨s₂, v, L, stp _ g1, g2⟩
end Walk
end Jvm.GoKit
namespace Jvm.GoKit
open Sem ClassFile Op Lib Jvm.Stand Jvm.Free Jvm.LawKit Jvm.RoadKit
/-! the wide twin: walks that may load String constants cold; vm: the tables as they stand but for what is warmed narrowly -/
def GoW (p : Program) (e : Env) (below : List Frame) (Z s : State) (EL : List (String × Nat)) (n0 K N : Nat) (Q : Option Value → Heap → Prop) (S : State) : Prop :=
  ∃ s₂ v L, Steps p.tables e below S s₂ ∧ s₂.status = .running ∧ Ended s₂ below (.returned v) ∧ (Q v s₂.heap ∧ Fr n0 L) ∧ CHr Z EL s.vm s.heap s₂.vm s₂.heap ∧ ReturnedEndW s (.returned v) s₂ L K N
def RunW (l : Launch) (Z : State) (EL : List (String × Nat)) (n0 : Nat) (own : String) (code : ByteArray) (maxL : Nat) (ret : Option FieldType) (nm : String) (R : Room) (Q : Option Value → Heap → Prop) (pc : Nat) (Ls : Array Slot) (st : List Value) (h : Heap) (vm : Vm) (k n : Nat) : Prop :=
  ∀ (p : Program) (e : Env) (s : State) (m : MethodId) (args : Array Value) (below : List Frame) (meth : Method) (c : Code) (T : State) (locs : List Loc) (cells slots k0 : Nat),
    Ctx Z own code maxL ret nm p (s.setVm vm) m meth c → Stand p l e R (s.setVm vm) m args below meth c T locs cells slots → s.Since vm k0 → k0 ≤ h.size → CHr Z EL s.vm s.heap vm h → (∃ a0, EW Z a0 EL) → T.heap = h → Fr n0 locs → cells ≤ k → slots ≤ n →
    GoW p e below Z s EL n0 R.cells R.slots Q (T.setTop (mkF m pc Ls st))
def ConW (l : Launch) (Z : State) (EL : List (String × Nat)) (n0 : Nat) (y : MethodName) (bytes : ByteArray) (maxL : Nat) (ret : Option FieldType) (rm : Room) (as : Array Value) (h : Heap) (sf : List Addr) (Q : Option Value → Heap → Prop) : Prop :=
  ∀ ws, MetFree l y (head1 (Cond.code y bytes maxL ret :: ws) rm) (fun a U => a = as ∧ Z.Warmed39 U.vm ∧ U.heap = h ∧ CHv Z EL U.vm h ∧ ∀ x ∈ sf, Safe Z EL U.vm h x) (fun _ _ _ _ _ => True) (fun _ U o U' => ∃ v L, o = .returned v ∧ (Q v U'.heap ∧ Fr n0 L) ∧ CHr Z EL U.vm U.heap U'.vm U'.heap ∧ ReturnedEndW U o U' L rm.cells rm.slots)
theorem since_refl (s : State) : s.Since s.vm s.heap.size := ⟨State.Warmed39.refl s, fun j p hj hp => absurd (Array.getElem?_eq_some_iff.mp hp).1 (Nat.not_lt.mpr hj)⟩
theorem setVm_self (s : State) : s.setVm s.vm = s := rfl
section WalkW
variable {l : Launch} {Z : State} {EL : List (String × Nat)} {n0 : Nat} {own : String} {code : ByteArray} {maxL : Nat} {ret : Option FieldType} {nm : String} {R : Room} {Q : Option Value → Heap → Prop} {pc pc' : Nat} {Ls : Array Slot} {st : List Value} {h : Heap} {vm : Vm} {k n k' n' : Nat}
theorem ConW.of_run {y : MethodName} {bytes : ByteArray} {rm : Room} {as : Array Value} {sf : List Addr} {a0 : Array Value} (hEL : EW Z a0 EL)
    (hp : plainFor y = true) (he : ∀ m, entryFrame m as maxL = mkF m 0 Ls []) (run : ∀ vm, Z.vm.Alike vm → (∀ x ∈ sf, Safe Z EL vm h x) → RunW l Z EL n0 y.cls bytes maxL ret y.name rm Q 0 Ls [] h vm 0 0) : ConW l Z EL n0 y bytes maxL ret rm as h sf Q := by
  intro ws
  refine MetFree.of_bodySF hp hisR ?_
  intro p e s m args below meth c s₁ Bd hml0 hP hK
  obtain ⟨rfl, hZ, hh, hC, hsf⟩ := hP
  have hh2 : s₁.heap = h := by rw [← hh, Bd.state]; rfl
  obtain ⟨s₂, v, L, h1, h2, h3, h4, h5, h6⟩ := run s.vm hZ.alike hsf p e s m _ below meth c s₁ [] 0 0 s.heap.size ⟨Bd.exec, hZ, findClass_of_methodNamed Bd.named, Bd.bytes, hml0, Bd.returns, Bd.notSynchronized, (name_of_methodNamed Bd.named Bd.method).1⟩ (Stand.of_body Bd) (since_refl s) (by rw [hh]; exact Nat.le_refl _) (by rw [hh]; exact CHr.refl hC) ⟨a0, hEL⟩ hh2 (Fr.nil _) (Nat.zero_le _) (Nat.zero_le _)
  exact ⟨s₂, _, castTop (he m) h1, h2, h3, v, L, rfl, h4, h5, h6⟩
theorem RunW.via {Ls' : Array Slot} {st' : List Value} (f : ∀ (p : Program) (e : Env) (s : State) (m : MethodId) (args : Array Value) (below : List Frame) (meth : Method) (c : Code) (T : State) (locs : List Loc) (cells slots : Nat),
      Ctx Z own code maxL ret nm p s m meth c → Stand p l e R s m args below meth c T locs cells slots → T.heap = h → ∃ T', Stand p l e R s m args below meth c T' locs cells slots ∧ T'.heap = h ∧ ∀ t, Steps p.tables e below (T'.setTop (mkF m pc' Ls' st')) t → Steps p.tables e below (T.setTop (mkF m pc Ls st)) t)
    (nxt : RunW l Z EL n0 own code maxL ret nm R Q pc' Ls' st' h vm k n) : RunW l Z EL n0 own code maxL ret nm R Q pc Ls st h vm k n := by
  intro p e s m args below meth c T locs cells slots k0 hC X hS hk0 hR hE eT hF hk hn
  obtain ⟨T', X', e', stp⟩ := f p e (s.setVm vm) m args below meth c T locs cells slots hC X eT
  obtain ⟨s₂, v, L, g1, g2⟩ := nxt p e s m args below meth c T' locs cells slots k0 hC X' hS hk0 hR hE e' hF hk hn
  exact ⟨s₂, v, L, stp _ g1, g2⟩
theorem RunW.stp {Ls' : Array Slot} {st' : List Value} (f : ∀ (p : Program) (e : Env) (below : List Frame) (T : State) (m : MethodId) (c : Code) (t : State), At T m c below → p.tables.exec = Jvm.exec → c.code = code → Steps p.tables e below (T.setTop (mkF m pc' Ls' st')) t → Steps p.tables e below (T.setTop (mkF m pc Ls st)) t)
    (nxt : RunW l Z EL n0 own code maxL ret nm R Q pc' Ls' st' h vm k n) : RunW l Z EL n0 own code maxL ret nm R Q pc Ls st h vm k n :=
  RunW.via (fun p e s m args below meth c T locs cells slots hC X eT => ⟨T, X, eT, fun t q => f p e below T m c t X.here hC.1 hC.2.2.2.1 q⟩) nxt
theorem RunW.more {ka na : Nat} (nxt : RunW l Z EL n0 own code maxL ret nm R Q pc Ls st h vm k n) (h1 : ka ≤ k) (h2 : na ≤ n) : RunW l Z EL n0 own code maxL ret nm R Q pc Ls st h vm ka na :=
  fun p e s m args below meth c T locs cells slots k0 hC X hS hk0 hR hE eT hF hk hn => nxt p e s m args below meth c T locs cells slots k0 hC X hS hk0 hR hE eT hF (Nat.le_trans hk h1) (Nat.le_trans hn h2)
theorem RunW.alike (f : Z.vm.Alike vm → RunW l Z EL n0 own code maxL ret nm R Q pc Ls st h vm k n) : RunW l Z EL n0 own code maxL ret nm R Q pc Ls st h vm k n :=
  fun p e s m args below meth c T locs cells slots k0 hC X hS hk0 hR hE eT hF hk hn => f hC.2.1.alike p e s m args below meth c T locs cells slots k0 hC X hS hk0 hR hE eT hF hk hn

theorem RunW.iloadN {x : Fin 4} {v : Int32} (hd : decode code pc = .ok (.iload_n x, 1)) (hl : Ls[x.val]? = some (.val (.int v))) (hp : pc + 1 = pc') (nxt : RunW l Z EL n0 own code maxL ret nm R Q pc' Ls (.int v :: st) h vm k n) : RunW l Z EL n0 own code maxL ret nm R Q pc Ls st h vm k n := by
  subst hp
  exact RunW.stp (fun p e below T m c t hA hx hc q => XS.iloadN hA hx rfl (hb hc hd) hl q) nxt
theorem RunW.iload {x : Nat} {v : Int32} (hd : decode code pc = .ok (.iload x, 2)) (hl : Ls[x]? = some (.val (.int v))) (hp : pc + 2 = pc') (nxt : RunW l Z EL n0 own code maxL ret nm R Q pc' Ls (.int v :: st) h vm k n) : RunW l Z EL n0 own code maxL ret nm R Q pc Ls st h vm k n := by
  subst hp
  exact RunW.stp (fun p e below T m c t hA hx hc q => XS.iload hA hx rfl (hb hc hd) hl q) nxt
theorem RunW.lloadN {x : Fin 4} {v : Int64} (hd : decode code pc = .ok (.lload_n x, 1)) (hl : Ls[x.val]? = some (.val (.long v))) (hp : pc + 1 = pc') (nxt : RunW l Z EL n0 own code maxL ret nm R Q pc' Ls (.long v :: st) h vm k n) : RunW l Z EL n0 own code maxL ret nm R Q pc Ls st h vm k n := by
  subst hp
  exact RunW.stp (fun p e below T m c t hA hx hc q => XT.lloadN hA hx rfl (hb hc hd) hl q) nxt
theorem RunW.lload {x : Nat} {v : Int64} (hd : decode code pc = .ok (.lload x, 2)) (hl : Ls[x]? = some (.val (.long v))) (hp : pc + 2 = pc') (nxt : RunW l Z EL n0 own code maxL ret nm R Q pc' Ls (.long v :: st) h vm k n) : RunW l Z EL n0 own code maxL ret nm R Q pc Ls st h vm k n := by
  subst hp
  exact RunW.stp (fun p e below T m c t hA hx hc q => XT.lload hA hx rfl (hb hc hd) hl q) nxt
theorem RunW.aloadN {x : Fin 4} {v : Value} (hd : decode code pc = .ok (.aload_n x, 1)) (hl : Ls[x.val]? = some (.val v)) (hv : v.isRef = true) (hp : pc + 1 = pc') (nxt : RunW l Z EL n0 own code maxL ret nm R Q pc' Ls (v :: st) h vm k n) : RunW l Z EL n0 own code maxL ret nm R Q pc Ls st h vm k n := by
  subst hp
  exact RunW.stp (fun p e below T m c t hA hx hc q => XS.aloadN hA hx rfl (hb hc hd) hl hv q) nxt
theorem RunW.aload {x : Nat} {v : Value} (hd : decode code pc = .ok (.aload x, 2)) (hl : Ls[x]? = some (.val v)) (hv : v.isRef = true) (hp : pc + 2 = pc') (nxt : RunW l Z EL n0 own code maxL ret nm R Q pc' Ls (v :: st) h vm k n) : RunW l Z EL n0 own code maxL ret nm R Q pc Ls st h vm k n := by
  subst hp
  exact RunW.stp (fun p e below T m c t hA hx hc q => XS.aload hA hx rfl (hb hc hd) hl hv q) nxt
theorem RunW.iconst {i : Int} (v : Int32) (hd : decode code pc = .ok (.iconst i, 1)) (hv : Int32.ofInt i = v) (hp : pc + 1 = pc') (nxt : RunW l Z EL n0 own code maxL ret nm R Q pc' Ls (.int v :: st) h vm k n) : RunW l Z EL n0 own code maxL ret nm R Q pc Ls st h vm k n := by
  subst hp
  exact RunW.stp (fun p e below T m c t hA hx hc q => XT.iconstV hA hx rfl v (hb hc hd) hv q) nxt
theorem RunW.bipush {i : Int} (v : Int32) (hd : decode code pc = .ok (.bipush i, 2)) (hv : (Int8.ofInt i).toInt32 = v) (hp : pc + 2 = pc') (nxt : RunW l Z EL n0 own code maxL ret nm R Q pc' Ls (.int v :: st) h vm k n) : RunW l Z EL n0 own code maxL ret nm R Q pc Ls st h vm k n := by
  subst hp
  exact RunW.stp (fun p e below T m c t hA hx hc q => XT.bipushV hA hx rfl v (hb hc hd) hv q) nxt
theorem RunW.sipush {i : Int} (v : Int32) (hd : decode code pc = .ok (.sipush i, 3)) (hv : (Int16.ofInt i).toInt32 = v) (hp : pc + 3 = pc') (nxt : RunW l Z EL n0 own code maxL ret nm R Q pc' Ls (.int v :: st) h vm k n) : RunW l Z EL n0 own code maxL ret nm R Q pc Ls st h vm k n := by
  subst hp
  exact RunW.stp (fun p e below T m c t hA hx hc q => XT.sipushV hA hx rfl v (hb hc hd) hv q) nxt
theorem RunW.lconst {i : Fin 2} (v : Int64) (hd : decode code pc = .ok (.lconst i, 1)) (hv : Int64.ofNat i = v) (hp : pc + 1 = pc') (nxt : RunW l Z EL n0 own code maxL ret nm R Q pc' Ls (.long v :: st) h vm k n) : RunW l Z EL n0 own code maxL ret nm R Q pc Ls st h vm k n := by
  subst hp
  exact RunW.stp (fun p e below T m c t hA hx hc q => XT.lconstV hA hx rfl v (hb hc hd) hv q) nxt
theorem RunW.aconst  (hd : decode code pc = .ok (.aconst_null, 1))  (hp : pc + 1 = pc') (nxt : RunW l Z EL n0 own code maxL ret nm R Q pc' Ls (.null :: st) h vm k n) : RunW l Z EL n0 own code maxL ret nm R Q pc Ls st h vm k n := by
  subst hp
  exact RunW.stp (fun p e below T m c t hA hx hc q => XS.aconstNull hA hx rfl (hb hc hd) q) nxt
theorem RunW.istoreN {x : Fin 4} {v : Int32} (l' : Array Slot) (hd : decode code pc = .ok (.istore_n x, 1)) (hl : storeLocals Ls x.val (.int v) = some l') (hp : pc + 1 = pc') (nxt : RunW l Z EL n0 own code maxL ret nm R Q pc' l' st h vm k n) : RunW l Z EL n0 own code maxL ret nm R Q pc Ls (.int v :: st) h vm k n := by
  subst hp
  exact RunW.stp (fun p e below T m c t hA hx hc q => XS.istoreN hA hx rfl (hb hc hd) rfl hl q) nxt
theorem RunW.istore {x : Nat} {v : Int32} (l' : Array Slot) (hd : decode code pc = .ok (.istore x, 2)) (hl : storeLocals Ls x (.int v) = some l') (hp : pc + 2 = pc') (nxt : RunW l Z EL n0 own code maxL ret nm R Q pc' l' st h vm k n) : RunW l Z EL n0 own code maxL ret nm R Q pc Ls (.int v :: st) h vm k n := by
  subst hp
  exact RunW.stp (fun p e below T m c t hA hx hc q => XS.istore hA hx rfl (hb hc hd) rfl hl q) nxt
theorem RunW.lstoreN {x : Fin 4} {v : Int64} (l' : Array Slot) (hd : decode code pc = .ok (.lstore_n x, 1)) (hl : storeLocals Ls x.val (.long v) = some l') (hp : pc + 1 = pc') (nxt : RunW l Z EL n0 own code maxL ret nm R Q pc' l' st h vm k n) : RunW l Z EL n0 own code maxL ret nm R Q pc Ls (.long v :: st) h vm k n := by
  subst hp
  exact RunW.stp (fun p e below T m c t hA hx hc q => XT.lstoreN hA hx rfl (hb hc hd) rfl hl q) nxt
theorem RunW.lstore {x : Nat} {v : Int64} (l' : Array Slot) (hd : decode code pc = .ok (.lstore x, 2)) (hl : storeLocals Ls x (.long v) = some l') (hp : pc + 2 = pc') (nxt : RunW l Z EL n0 own code maxL ret nm R Q pc' l' st h vm k n) : RunW l Z EL n0 own code maxL ret nm R Q pc Ls (.long v :: st) h vm k n := by
  subst hp
  exact RunW.stp (fun p e below T m c t hA hx hc q => XT.lstore hA hx rfl (hb hc hd) rfl hl q) nxt
theorem RunW.astoreN {x : Fin 4} {v : Value} (l' : Array Slot) (hd : decode code pc = .ok (.astore_n x, 1)) (hv : v.isRef = true) (hl : storeLocals Ls x.val v = some l') (hp : pc + 1 = pc') (nxt : RunW l Z EL n0 own code maxL ret nm R Q pc' l' st h vm k n) : RunW l Z EL n0 own code maxL ret nm R Q pc Ls (v :: st) h vm k n := by
  subst hp
  exact RunW.stp (fun p e below T m c t hA hx hc q => XS.astoreN hA hx rfl (hb hc hd) rfl hv hl q) nxt
theorem RunW.astore {x : Nat} {v : Value} (l' : Array Slot) (hd : decode code pc = .ok (.astore x, 2)) (hv : v.isRef = true) (hl : storeLocals Ls x v = some l') (hp : pc + 2 = pc') (nxt : RunW l Z EL n0 own code maxL ret nm R Q pc' l' st h vm k n) : RunW l Z EL n0 own code maxL ret nm R Q pc Ls (v :: st) h vm k n := by
  subst hp
  exact RunW.stp (fun p e below T m c t hA hx hc q => XS.astore hA hx rfl (hb hc hd) rfl hv hl q) nxt
theorem RunW.iinc {x : Nat} {i : Int} {u : Int32} (v : Int32) (l' : Array Slot) (hd : decode code pc = .ok (.iinc x i, 3)) (hv : Int32.ofInt i = v) (hg : Ls[x]? = some (.val (.int u))) (hl : storeLocals Ls x (.int (u + v)) = some l') (hp : pc + 3 = pc') (nxt : RunW l Z EL n0 own code maxL ret nm R Q pc' l' st h vm k n) : RunW l Z EL n0 own code maxL ret nm R Q pc Ls st h vm k n := by
  subst hp
  exact RunW.stp (fun p e below T m c t hA hx hc q => XT.iincV hA hx rfl v (hb hc hd) hv hg hl q) nxt
theorem RunW.iadd {x y : Int32} (hd : decode code pc = .ok (.iadd, 1))  (hp : pc + 1 = pc') (nxt : RunW l Z EL n0 own code maxL ret nm R Q pc' Ls (.int (x + y) :: st) h vm k n) : RunW l Z EL n0 own code maxL ret nm R Q pc Ls (.int y :: .int x :: st) h vm k n := by
  subst hp
  exact RunW.stp (fun p e below T m c t hA hx hc q => XS.iadd hA hx rfl (hb hc hd) rfl q) nxt
theorem RunW.isub {x y : Int32} (hd : decode code pc = .ok (.isub, 1))  (hp : pc + 1 = pc') (nxt : RunW l Z EL n0 own code maxL ret nm R Q pc' Ls (.int (x - y) :: st) h vm k n) : RunW l Z EL n0 own code maxL ret nm R Q pc Ls (.int y :: .int x :: st) h vm k n := by
  subst hp
  exact RunW.stp (fun p e below T m c t hA hx hc q => XS.isub hA hx rfl (hb hc hd) rfl q) nxt
theorem RunW.imul {x y : Int32} (hd : decode code pc = .ok (.imul, 1))  (hp : pc + 1 = pc') (nxt : RunW l Z EL n0 own code maxL ret nm R Q pc' Ls (.int (x * y) :: st) h vm k n) : RunW l Z EL n0 own code maxL ret nm R Q pc Ls (.int y :: .int x :: st) h vm k n := by
  subst hp
  exact RunW.stp (fun p e below T m c t hA hx hc q => XS.imul hA hx rfl (hb hc hd) rfl q) nxt
theorem RunW.iand {x y : Int32} (hd : decode code pc = .ok (.iand, 1))  (hp : pc + 1 = pc') (nxt : RunW l Z EL n0 own code maxL ret nm R Q pc' Ls (.int (x &&& y) :: st) h vm k n) : RunW l Z EL n0 own code maxL ret nm R Q pc Ls (.int y :: .int x :: st) h vm k n := by
  subst hp
  exact RunW.stp (fun p e below T m c t hA hx hc q => XS.iand hA hx rfl (hb hc hd) rfl q) nxt
theorem RunW.ior {x y : Int32} (hd : decode code pc = .ok (.ior, 1))  (hp : pc + 1 = pc') (nxt : RunW l Z EL n0 own code maxL ret nm R Q pc' Ls (.int (x ||| y) :: st) h vm k n) : RunW l Z EL n0 own code maxL ret nm R Q pc Ls (.int y :: .int x :: st) h vm k n := by
  subst hp
  exact RunW.stp (fun p e below T m c t hA hx hc q => XT.ior hA hx rfl (hb hc hd) rfl q) nxt
theorem RunW.ixor {x y : Int32} (hd : decode code pc = .ok (.ixor, 1))  (hp : pc + 1 = pc') (nxt : RunW l Z EL n0 own code maxL ret nm R Q pc' Ls (.int (x ^^^ y) :: st) h vm k n) : RunW l Z EL n0 own code maxL ret nm R Q pc Ls (.int y :: .int x :: st) h vm k n := by
  subst hp
  exact RunW.stp (fun p e below T m c t hA hx hc q => XT.ixor hA hx rfl (hb hc hd) rfl q) nxt
theorem RunW.ishl {x y : Int32} (hd : decode code pc = .ok (.ishl, 1))  (hp : pc + 1 = pc') (nxt : RunW l Z EL n0 own code maxL ret nm R Q pc' Ls (.int (x <<< (y &&& 31)) :: st) h vm k n) : RunW l Z EL n0 own code maxL ret nm R Q pc Ls (.int y :: .int x :: st) h vm k n := by
  subst hp
  exact RunW.stp (fun p e below T m c t hA hx hc q => XT.ishl hA hx rfl (hb hc hd) rfl q) nxt
theorem RunW.ishr {x y : Int32} (hd : decode code pc = .ok (.ishr, 1))  (hp : pc + 1 = pc') (nxt : RunW l Z EL n0 own code maxL ret nm R Q pc' Ls (.int (x >>> (y &&& 31)) :: st) h vm k n) : RunW l Z EL n0 own code maxL ret nm R Q pc Ls (.int y :: .int x :: st) h vm k n := by
  subst hp
  exact RunW.stp (fun p e below T m c t hA hx hc q => XT.ishr hA hx rfl (hb hc hd) rfl q) nxt
theorem RunW.iushr {x y : Int32} (hd : decode code pc = .ok (.iushr, 1))  (hp : pc + 1 = pc') (nxt : RunW l Z EL n0 own code maxL ret nm R Q pc' Ls (.int (XT.ushr x y) :: st) h vm k n) : RunW l Z EL n0 own code maxL ret nm R Q pc Ls (.int y :: .int x :: st) h vm k n := by
  subst hp
  exact RunW.stp (fun p e below T m c t hA hx hc q => XT.iushr hA hx rfl (hb hc hd) rfl q) nxt
theorem RunW.ladd {x y : Int64} (hd : decode code pc = .ok (.ladd, 1))  (hp : pc + 1 = pc') (nxt : RunW l Z EL n0 own code maxL ret nm R Q pc' Ls (.long (x + y) :: st) h vm k n) : RunW l Z EL n0 own code maxL ret nm R Q pc Ls (.long y :: .long x :: st) h vm k n := by
  subst hp
  exact RunW.stp (fun p e below T m c t hA hx hc q => XT.ladd hA hx rfl (hb hc hd) rfl q) nxt
theorem RunW.lsub {x y : Int64} (hd : decode code pc = .ok (.lsub, 1))  (hp : pc + 1 = pc') (nxt : RunW l Z EL n0 own code maxL ret nm R Q pc' Ls (.long (x - y) :: st) h vm k n) : RunW l Z EL n0 own code maxL ret nm R Q pc Ls (.long y :: .long x :: st) h vm k n := by
  subst hp
  exact RunW.stp (fun p e below T m c t hA hx hc q => XT.lsub hA hx rfl (hb hc hd) rfl q) nxt
theorem RunW.lmul {x y : Int64} (hd : decode code pc = .ok (.lmul, 1))  (hp : pc + 1 = pc') (nxt : RunW l Z EL n0 own code maxL ret nm R Q pc' Ls (.long (x * y) :: st) h vm k n) : RunW l Z EL n0 own code maxL ret nm R Q pc Ls (.long y :: .long x :: st) h vm k n := by
  subst hp
  exact RunW.stp (fun p e below T m c t hA hx hc q => XT.lmul hA hx rfl (hb hc hd) rfl q) nxt
theorem RunW.land {x y : Int64} (hd : decode code pc = .ok (.land, 1))  (hp : pc + 1 = pc') (nxt : RunW l Z EL n0 own code maxL ret nm R Q pc' Ls (.long (x &&& y) :: st) h vm k n) : RunW l Z EL n0 own code maxL ret nm R Q pc Ls (.long y :: .long x :: st) h vm k n := by
  subst hp
  exact RunW.stp (fun p e below T m c t hA hx hc q => XT.land hA hx rfl (hb hc hd) rfl q) nxt
theorem RunW.lor {x y : Int64} (hd : decode code pc = .ok (.lor, 1))  (hp : pc + 1 = pc') (nxt : RunW l Z EL n0 own code maxL ret nm R Q pc' Ls (.long (x ||| y) :: st) h vm k n) : RunW l Z EL n0 own code maxL ret nm R Q pc Ls (.long y :: .long x :: st) h vm k n := by
  subst hp
  exact RunW.stp (fun p e below T m c t hA hx hc q => XT.lor hA hx rfl (hb hc hd) rfl q) nxt
theorem RunW.lxor {x y : Int64} (hd : decode code pc = .ok (.lxor, 1))  (hp : pc + 1 = pc') (nxt : RunW l Z EL n0 own code maxL ret nm R Q pc' Ls (.long (x ^^^ y) :: st) h vm k n) : RunW l Z EL n0 own code maxL ret nm R Q pc Ls (.long y :: .long x :: st) h vm k n := by
  subst hp
  exact RunW.stp (fun p e below T m c t hA hx hc q => XT.lxor hA hx rfl (hb hc hd) rfl q) nxt
theorem RunW.idiv {x y : Int32} (hd : decode code pc = .ok (.idiv, 1)) (hy : y ≠ 0) (hp : pc + 1 = pc') (nxt : RunW l Z EL n0 own code maxL ret nm R Q pc' Ls (.int (x / y) :: st) h vm k n) : RunW l Z EL n0 own code maxL ret nm R Q pc Ls (.int y :: .int x :: st) h vm k n := by
  subst hp
  exact RunW.stp (fun p e below T m c t hA hx hc q => XS.idiv hA hx rfl (hb hc hd) rfl hy q) nxt
theorem RunW.irem {x y : Int32} (hd : decode code pc = .ok (.irem, 1)) (hy : y ≠ 0) (hp : pc + 1 = pc') (nxt : RunW l Z EL n0 own code maxL ret nm R Q pc' Ls (.int (x % y) :: st) h vm k n) : RunW l Z EL n0 own code maxL ret nm R Q pc Ls (.int y :: .int x :: st) h vm k n := by
  subst hp
  exact RunW.stp (fun p e below T m c t hA hx hc q => XS.irem hA hx rfl (hb hc hd) rfl hy (by rw [irem_eq_mod]; exact q)) nxt
theorem RunW.ldiv {x y : Int64} (hd : decode code pc = .ok (.ldiv, 1)) (hy : y ≠ 0) (hp : pc + 1 = pc') (nxt : RunW l Z EL n0 own code maxL ret nm R Q pc' Ls (.long (x / y) :: st) h vm k n) : RunW l Z EL n0 own code maxL ret nm R Q pc Ls (.long y :: .long x :: st) h vm k n := by
  subst hp
  exact RunW.stp (fun p e below T m c t hA hx hc q => XT.ldiv hA hx rfl (hb hc hd) rfl hy q) nxt
theorem RunW.lrem {x y : Int64} (hd : decode code pc = .ok (.lrem, 1)) (hy : y ≠ 0) (hp : pc + 1 = pc') (nxt : RunW l Z EL n0 own code maxL ret nm R Q pc' Ls (.long (x % y) :: st) h vm k n) : RunW l Z EL n0 own code maxL ret nm R Q pc Ls (.long y :: .long x :: st) h vm k n := by
  subst hp
  exact RunW.stp (fun p e below T m c t hA hx hc q => XT.lrem hA hx rfl (hb hc hd) rfl hy (by rw [lrem_mod]; exact q)) nxt
theorem RunW.ineg {x : Int32} (hd : decode code pc = .ok (.ineg, 1))  (hp : pc + 1 = pc') (nxt : RunW l Z EL n0 own code maxL ret nm R Q pc' Ls (.int (-x) :: st) h vm k n) : RunW l Z EL n0 own code maxL ret nm R Q pc Ls (.int x :: st) h vm k n := by
  subst hp
  exact RunW.stp (fun p e below T m c t hA hx hc q => XS.ineg hA hx rfl (hb hc hd) rfl q) nxt
theorem RunW.lneg {x : Int64} (hd : decode code pc = .ok (.lneg, 1))  (hp : pc + 1 = pc') (nxt : RunW l Z EL n0 own code maxL ret nm R Q pc' Ls (.long (-x) :: st) h vm k n) : RunW l Z EL n0 own code maxL ret nm R Q pc Ls (.long x :: st) h vm k n := by
  subst hp
  exact RunW.stp (fun p e below T m c t hA hx hc q => XT.lneg hA hx rfl (hb hc hd) rfl q) nxt
theorem RunW.i2l {x : Int32} (hd : decode code pc = .ok (.i2l, 1))  (hp : pc + 1 = pc') (nxt : RunW l Z EL n0 own code maxL ret nm R Q pc' Ls (.long x.toInt64 :: st) h vm k n) : RunW l Z EL n0 own code maxL ret nm R Q pc Ls (.int x :: st) h vm k n := by
  subst hp
  exact RunW.stp (fun p e below T m c t hA hx hc q => XT.i2l hA hx rfl (hb hc hd) rfl q) nxt
theorem RunW.l2i {x : Int64} (hd : decode code pc = .ok (.l2i, 1))  (hp : pc + 1 = pc') (nxt : RunW l Z EL n0 own code maxL ret nm R Q pc' Ls (.int x.toInt32 :: st) h vm k n) : RunW l Z EL n0 own code maxL ret nm R Q pc Ls (.long x :: st) h vm k n := by
  subst hp
  exact RunW.stp (fun p e below T m c t hA hx hc q => XT.l2i hA hx rfl (hb hc hd) rfl q) nxt
theorem RunW.i2b {x : Int32} (hd : decode code pc = .ok (.i2b, 1))  (hp : pc + 1 = pc') (nxt : RunW l Z EL n0 own code maxL ret nm R Q pc' Ls (.int (nar .byte x) :: st) h vm k n) : RunW l Z EL n0 own code maxL ret nm R Q pc Ls (.int x :: st) h vm k n := by
  subst hp
  exact RunW.stp (fun p e below T m c t hA hx hc q => XT.i2b hA hx rfl (hb hc hd) rfl q) nxt
theorem RunW.i2c {x : Int32} (hd : decode code pc = .ok (.i2c, 1))  (hp : pc + 1 = pc') (nxt : RunW l Z EL n0 own code maxL ret nm R Q pc' Ls (.int (nar .char x) :: st) h vm k n) : RunW l Z EL n0 own code maxL ret nm R Q pc Ls (.int x :: st) h vm k n := by
  subst hp
  exact RunW.stp (fun p e below T m c t hA hx hc q => XT.i2c hA hx rfl (hb hc hd) rfl q) nxt
theorem RunW.i2s {x : Int32} (hd : decode code pc = .ok (.i2s, 1))  (hp : pc + 1 = pc') (nxt : RunW l Z EL n0 own code maxL ret nm R Q pc' Ls (.int (nar .short x) :: st) h vm k n) : RunW l Z EL n0 own code maxL ret nm R Q pc Ls (.int x :: st) h vm k n := by
  subst hp
  exact RunW.stp (fun p e below T m c t hA hx hc q => XT.i2s hA hx rfl (hb hc hd) rfl q) nxt
theorem RunW.lshl {x : Int64} {y : Int32} (hd : decode code pc = .ok (.lshl, 1))  (hp : pc + 1 = pc') (nxt : RunW l Z EL n0 own code maxL ret nm R Q pc' Ls (.long (x <<< (y.toInt64 &&& 63)) :: st) h vm k n) : RunW l Z EL n0 own code maxL ret nm R Q pc Ls (.int y :: .long x :: st) h vm k n := by
  subst hp
  exact RunW.stp (fun p e below T m c t hA hx hc q => XT.lshl hA hx rfl (hb hc hd) rfl q) nxt
theorem RunW.lshr {x : Int64} {y : Int32} (hd : decode code pc = .ok (.lshr, 1))  (hp : pc + 1 = pc') (nxt : RunW l Z EL n0 own code maxL ret nm R Q pc' Ls (.long (x >>> (y.toInt64 &&& 63)) :: st) h vm k n) : RunW l Z EL n0 own code maxL ret nm R Q pc Ls (.int y :: .long x :: st) h vm k n := by
  subst hp
  exact RunW.stp (fun p e below T m c t hA hx hc q => XT.lshr hA hx rfl (hb hc hd) rfl q) nxt
theorem RunW.lushr {x : Int64} {y : Int32} (hd : decode code pc = .ok (.lushr, 1))  (hp : pc + 1 = pc') (nxt : RunW l Z EL n0 own code maxL ret nm R Q pc' Ls (.long (XT.ushrL x y) :: st) h vm k n) : RunW l Z EL n0 own code maxL ret nm R Q pc Ls (.int y :: .long x :: st) h vm k n := by
  subst hp
  exact RunW.stp (fun p e below T m c t hA hx hc q => XT.lushr hA hx rfl (hb hc hd) rfl q) nxt
theorem RunW.lcmp {x y : Int64} (hd : decode code pc = .ok (.lcmp, 1))  (hp : pc + 1 = pc') (nxt : RunW l Z EL n0 own code maxL ret nm R Q pc' Ls (.int (XT.cmpL x y) :: st) h vm k n) : RunW l Z EL n0 own code maxL ret nm R Q pc Ls (.long y :: .long x :: st) h vm k n := by
  subst hp
  exact RunW.stp (fun p e below T m c t hA hx hc q => XT.lcmp hA hx rfl (hb hc hd) rfl q) nxt
theorem RunW.dup {x : Value} (hd : decode code pc = .ok (.dup, 1)) (hv : x.category = 1) (hp : pc + 1 = pc') (nxt : RunW l Z EL n0 own code maxL ret nm R Q pc' Ls (x :: x :: st) h vm k n) : RunW l Z EL n0 own code maxL ret nm R Q pc Ls (x :: st) h vm k n := by
  subst hp
  exact RunW.stp (fun p e below T m c t hA hx hc q => XS.dup hA hx rfl (hb hc hd) rfl hv q) nxt
theorem RunW.pop {x : Value} (hd : decode code pc = .ok (.pop, 1)) (hv : x.category = 1) (hp : pc + 1 = pc') (nxt : RunW l Z EL n0 own code maxL ret nm R Q pc' Ls st h vm k n) : RunW l Z EL n0 own code maxL ret nm R Q pc Ls (x :: st) h vm k n := by
  subst hp
  exact RunW.stp (fun p e below T m c t hA hx hc q => XT.pop hA hx rfl (hb hc hd) rfl hv q) nxt
theorem RunW.dupX1 {x y : Value} (hd : decode code pc = .ok (.dup_x1, 1)) (hv : x.category = 1) (hv' : y.category = 1) (hp : pc + 1 = pc') (nxt : RunW l Z EL n0 own code maxL ret nm R Q pc' Ls (x :: y :: x :: st) h vm k n) : RunW l Z EL n0 own code maxL ret nm R Q pc Ls (x :: y :: st) h vm k n := by
  subst hp
  exact RunW.stp (fun p e below T m c t hA hx hc q => XT.dupX1 hA hx rfl (hb hc hd) rfl hv hv' q) nxt
theorem RunW.dup2 {x y : Value} (hd : decode code pc = .ok (.dup2, 1)) (hv : x.category = 1) (hv' : y.category = 1) (hp : pc + 1 = pc') (nxt : RunW l Z EL n0 own code maxL ret nm R Q pc' Ls (x :: y :: x :: y :: st) h vm k n) : RunW l Z EL n0 own code maxL ret nm R Q pc Ls (x :: y :: st) h vm k n := by
  subst hp
  exact RunW.stp (fun p e below T m c t hA hx hc q => XT.dup2 hA hx rfl (hb hc hd) rfl hv hv' q) nxt
theorem RunW.dup2L {x : Int64} (hd : decode code pc = .ok (.dup2, 1))  (hp : pc + 1 = pc') (nxt : RunW l Z EL n0 own code maxL ret nm R Q pc' Ls (.long x :: .long x :: st) h vm k n) : RunW l Z EL n0 own code maxL ret nm R Q pc Ls (.long x :: st) h vm k n := by
  subst hp
  exact RunW.stp (fun p e below T m c t hA hx hc q => XT.dup2L hA hx rfl (hb hc hd) rfl q) nxt
theorem RunW.goto {o : Int} (hd : decode code pc = .ok (.goto o, 3)) (ho : 0 ≤ (pc : Int) + o) (hp : ((pc : Int) + o).toNat = pc') (nxt : RunW l Z EL n0 own code maxL ret nm R Q pc' Ls st h vm k n) : RunW l Z EL n0 own code maxL ret nm R Q pc Ls st h vm k n :=
  RunW.stp (fun p e below T m c t hA hx hc q => XS.goto hA hx rfl rfl (hb hc hd) ho hp q) nxt
theorem RunW.if_eq {x : Int32} {o : Int} {pa : Nat} (hd : decode code pc = .ok (.ifCond .eq o, 3)) (ho : 0 ≤ (pc : Int) + o) (hp : ((pc : Int) + o).toNat = pc') (hq : pc + 3 = pa)
    (yes : x = 0 → RunW l Z EL n0 own code maxL ret nm R Q pc' Ls st h vm k n) (no : ¬ x = 0 → RunW l Z EL n0 own code maxL ret nm R Q pa Ls st h vm k n) : RunW l Z EL n0 own code maxL ret nm R Q pc Ls (.int x :: st) h vm k n := by
  subst hq
  by_cases hc : x = 0
  · exact RunW.stp (fun p e below T m c t hA hx hb' q => XS.ifYes hA hx rfl rfl (hb hb' hd) rfl (XT.i0_eq_t hc) ho hp q) (yes hc)
  · exact RunW.stp (fun p e below T m c t hA hx hb' q => XS.ifNo hA hx rfl (hb hb' hd) rfl (XT.i0_eq_f hc) q) (no hc)
theorem RunW.icmp_eq {x y : Int32} {o : Int} {pa : Nat} (hd : decode code pc = .ok (.if_icmp .eq o, 3)) (ho : 0 ≤ (pc : Int) + o) (hp : ((pc : Int) + o).toNat = pc') (hq : pc + 3 = pa)
    (yes : x = y → RunW l Z EL n0 own code maxL ret nm R Q pc' Ls st h vm k n) (no : ¬ x = y → RunW l Z EL n0 own code maxL ret nm R Q pa Ls st h vm k n) : RunW l Z EL n0 own code maxL ret nm R Q pc Ls (.int y :: .int x :: st) h vm k n := by
  subst hq
  by_cases hc : x = y
  · exact RunW.stp (fun p e below T m c t hA hx hb' q => XS.icmpYes hA hx rfl rfl (hb hb' hd) rfl (XT.ii_eq_t hc) ho hp q) (yes hc)
  · exact RunW.stp (fun p e below T m c t hA hx hb' q => XS.icmpNo hA hx rfl (hb hb' hd) rfl (XT.ii_eq_f hc) q) (no hc)
theorem RunW.if_ne {x : Int32} {o : Int} {pa : Nat} (hd : decode code pc = .ok (.ifCond .ne o, 3)) (ho : 0 ≤ (pc : Int) + o) (hp : ((pc : Int) + o).toNat = pc') (hq : pc + 3 = pa)
    (yes : ¬ x = 0 → RunW l Z EL n0 own code maxL ret nm R Q pc' Ls st h vm k n) (no : x = 0 → RunW l Z EL n0 own code maxL ret nm R Q pa Ls st h vm k n) : RunW l Z EL n0 own code maxL ret nm R Q pc Ls (.int x :: st) h vm k n := by
  subst hq
  by_cases hc : x = 0
  · exact RunW.stp (fun p e below T m c t hA hx hb' q => XS.ifNo hA hx rfl (hb hb' hd) rfl (XT.i0_ne_f hc) q) (no (by simpa using hc))
  · exact RunW.stp (fun p e below T m c t hA hx hb' q => XS.ifYes hA hx rfl rfl (hb hb' hd) rfl (XT.i0_ne_t hc) ho hp q) (yes hc)
theorem RunW.icmp_ne {x y : Int32} {o : Int} {pa : Nat} (hd : decode code pc = .ok (.if_icmp .ne o, 3)) (ho : 0 ≤ (pc : Int) + o) (hp : ((pc : Int) + o).toNat = pc') (hq : pc + 3 = pa)
    (yes : ¬ x = y → RunW l Z EL n0 own code maxL ret nm R Q pc' Ls st h vm k n) (no : x = y → RunW l Z EL n0 own code maxL ret nm R Q pa Ls st h vm k n) : RunW l Z EL n0 own code maxL ret nm R Q pc Ls (.int y :: .int x :: st) h vm k n := by
  subst hq
  by_cases hc : x = y
  · exact RunW.stp (fun p e below T m c t hA hx hb' q => XS.icmpNo hA hx rfl (hb hb' hd) rfl (XT.ii_ne_f hc) q) (no (by simpa using hc))
  · exact RunW.stp (fun p e below T m c t hA hx hb' q => XS.icmpYes hA hx rfl rfl (hb hb' hd) rfl (XT.ii_ne_t hc) ho hp q) (yes hc)
theorem RunW.if_lt {x : Int32} {o : Int} {pa : Nat} (hd : decode code pc = .ok (.ifCond .lt o, 3)) (ho : 0 ≤ (pc : Int) + o) (hp : ((pc : Int) + o).toNat = pc') (hq : pc + 3 = pa)
    (yes : x < 0 → RunW l Z EL n0 own code maxL ret nm R Q pc' Ls st h vm k n) (no : ¬ x < 0 → RunW l Z EL n0 own code maxL ret nm R Q pa Ls st h vm k n) : RunW l Z EL n0 own code maxL ret nm R Q pc Ls (.int x :: st) h vm k n := by
  subst hq
  by_cases hc : x < 0
  · exact RunW.stp (fun p e below T m c t hA hx hb' q => XS.ifYes hA hx rfl rfl (hb hb' hd) rfl (XT.i0_lt_t hc) ho hp q) (yes hc)
  · exact RunW.stp (fun p e below T m c t hA hx hb' q => XS.ifNo hA hx rfl (hb hb' hd) rfl (XT.i0_lt_f hc) q) (no hc)
theorem RunW.icmp_lt {x y : Int32} {o : Int} {pa : Nat} (hd : decode code pc = .ok (.if_icmp .lt o, 3)) (ho : 0 ≤ (pc : Int) + o) (hp : ((pc : Int) + o).toNat = pc') (hq : pc + 3 = pa)
    (yes : x < y → RunW l Z EL n0 own code maxL ret nm R Q pc' Ls st h vm k n) (no : ¬ x < y → RunW l Z EL n0 own code maxL ret nm R Q pa Ls st h vm k n) : RunW l Z EL n0 own code maxL ret nm R Q pc Ls (.int y :: .int x :: st) h vm k n := by
  subst hq
  by_cases hc : x < y
  · exact RunW.stp (fun p e below T m c t hA hx hb' q => XS.icmpYes hA hx rfl rfl (hb hb' hd) rfl (XT.ii_lt_t hc) ho hp q) (yes hc)
  · exact RunW.stp (fun p e below T m c t hA hx hb' q => XS.icmpNo hA hx rfl (hb hb' hd) rfl (XT.ii_lt_f hc) q) (no hc)
theorem RunW.if_ge {x : Int32} {o : Int} {pa : Nat} (hd : decode code pc = .ok (.ifCond .ge o, 3)) (ho : 0 ≤ (pc : Int) + o) (hp : ((pc : Int) + o).toNat = pc') (hq : pc + 3 = pa)
    (yes : ¬ x < 0 → RunW l Z EL n0 own code maxL ret nm R Q pc' Ls st h vm k n) (no : x < 0 → RunW l Z EL n0 own code maxL ret nm R Q pa Ls st h vm k n) : RunW l Z EL n0 own code maxL ret nm R Q pc Ls (.int x :: st) h vm k n := by
  subst hq
  by_cases hc : x < 0
  · exact RunW.stp (fun p e below T m c t hA hx hb' q => XS.ifNo hA hx rfl (hb hb' hd) rfl (XT.i0_ge_f hc) q) (no (by simpa using hc))
  · exact RunW.stp (fun p e below T m c t hA hx hb' q => XS.ifYes hA hx rfl rfl (hb hb' hd) rfl (XT.i0_ge_t hc) ho hp q) (yes hc)
theorem RunW.icmp_ge {x y : Int32} {o : Int} {pa : Nat} (hd : decode code pc = .ok (.if_icmp .ge o, 3)) (ho : 0 ≤ (pc : Int) + o) (hp : ((pc : Int) + o).toNat = pc') (hq : pc + 3 = pa)
    (yes : ¬ x < y → RunW l Z EL n0 own code maxL ret nm R Q pc' Ls st h vm k n) (no : x < y → RunW l Z EL n0 own code maxL ret nm R Q pa Ls st h vm k n) : RunW l Z EL n0 own code maxL ret nm R Q pc Ls (.int y :: .int x :: st) h vm k n := by
  subst hq
  by_cases hc : x < y
  · exact RunW.stp (fun p e below T m c t hA hx hb' q => XS.icmpNo hA hx rfl (hb hb' hd) rfl (XT.ii_ge_f hc) q) (no (by simpa using hc))
  · exact RunW.stp (fun p e below T m c t hA hx hb' q => XS.icmpYes hA hx rfl rfl (hb hb' hd) rfl (XT.ii_ge_t hc) ho hp q) (yes hc)
theorem RunW.if_gt {x : Int32} {o : Int} {pa : Nat} (hd : decode code pc = .ok (.ifCond .gt o, 3)) (ho : 0 ≤ (pc : Int) + o) (hp : ((pc : Int) + o).toNat = pc') (hq : pc + 3 = pa)
    (yes : 0 < x → RunW l Z EL n0 own code maxL ret nm R Q pc' Ls st h vm k n) (no : ¬ 0 < x → RunW l Z EL n0 own code maxL ret nm R Q pa Ls st h vm k n) : RunW l Z EL n0 own code maxL ret nm R Q pc Ls (.int x :: st) h vm k n := by
  subst hq
  by_cases hc : 0 < x
  · exact RunW.stp (fun p e below T m c t hA hx hb' q => XS.ifYes hA hx rfl rfl (hb hb' hd) rfl (XT.i0_gt_t hc) ho hp q) (yes hc)
  · exact RunW.stp (fun p e below T m c t hA hx hb' q => XS.ifNo hA hx rfl (hb hb' hd) rfl (XT.i0_gt_f hc) q) (no hc)
theorem RunW.icmp_gt {x y : Int32} {o : Int} {pa : Nat} (hd : decode code pc = .ok (.if_icmp .gt o, 3)) (ho : 0 ≤ (pc : Int) + o) (hp : ((pc : Int) + o).toNat = pc') (hq : pc + 3 = pa)
    (yes : y < x → RunW l Z EL n0 own code maxL ret nm R Q pc' Ls st h vm k n) (no : ¬ y < x → RunW l Z EL n0 own code maxL ret nm R Q pa Ls st h vm k n) : RunW l Z EL n0 own code maxL ret nm R Q pc Ls (.int y :: .int x :: st) h vm k n := by
  subst hq
  by_cases hc : y < x
  · exact RunW.stp (fun p e below T m c t hA hx hb' q => XS.icmpYes hA hx rfl rfl (hb hb' hd) rfl (XT.ii_gt_t hc) ho hp q) (yes hc)
  · exact RunW.stp (fun p e below T m c t hA hx hb' q => XS.icmpNo hA hx rfl (hb hb' hd) rfl (XT.ii_gt_f hc) q) (no hc)
theorem RunW.if_le {x : Int32} {o : Int} {pa : Nat} (hd : decode code pc = .ok (.ifCond .le o, 3)) (ho : 0 ≤ (pc : Int) + o) (hp : ((pc : Int) + o).toNat = pc') (hq : pc + 3 = pa)
    (yes : ¬ 0 < x → RunW l Z EL n0 own code maxL ret nm R Q pc' Ls st h vm k n) (no : 0 < x → RunW l Z EL n0 own code maxL ret nm R Q pa Ls st h vm k n) : RunW l Z EL n0 own code maxL ret nm R Q pc Ls (.int x :: st) h vm k n := by
  subst hq
  by_cases hc : 0 < x
  · exact RunW.stp (fun p e below T m c t hA hx hb' q => XS.ifNo hA hx rfl (hb hb' hd) rfl (XT.i0_le_f hc) q) (no (by simpa using hc))
  · exact RunW.stp (fun p e below T m c t hA hx hb' q => XS.ifYes hA hx rfl rfl (hb hb' hd) rfl (XT.i0_le_t hc) ho hp q) (yes hc)
theorem RunW.icmp_le {x y : Int32} {o : Int} {pa : Nat} (hd : decode code pc = .ok (.if_icmp .le o, 3)) (ho : 0 ≤ (pc : Int) + o) (hp : ((pc : Int) + o).toNat = pc') (hq : pc + 3 = pa)
    (yes : ¬ y < x → RunW l Z EL n0 own code maxL ret nm R Q pc' Ls st h vm k n) (no : y < x → RunW l Z EL n0 own code maxL ret nm R Q pa Ls st h vm k n) : RunW l Z EL n0 own code maxL ret nm R Q pc Ls (.int y :: .int x :: st) h vm k n := by
  subst hq
  by_cases hc : y < x
  · exact RunW.stp (fun p e below T m c t hA hx hb' q => XS.icmpNo hA hx rfl (hb hb' hd) rfl (XT.ii_le_f hc) q) (no (by simpa using hc))
  · exact RunW.stp (fun p e below T m c t hA hx hb' q => XS.icmpYes hA hx rfl rfl (hb hb' hd) rfl (XT.ii_le_t hc) ho hp q) (yes hc)
theorem RunW.lif_eq {x y : Int64} {o : Int} {pa : Nat} (hd : decode code pc = .ok (.ifCond .eq o, 3)) (ho : 0 ≤ (pc : Int) + o) (hp : ((pc : Int) + o).toNat = pc') (hq : pc + 3 = pa)
    (yes : x = y → RunW l Z EL n0 own code maxL ret nm R Q pc' Ls st h vm k n) (no : ¬ x = y → RunW l Z EL n0 own code maxL ret nm R Q pa Ls st h vm k n) : RunW l Z EL n0 own code maxL ret nm R Q pc Ls (.int (XT.cmpL x y) :: st) h vm k n := by
  subst hq
  by_cases hc : x = y
  · exact RunW.stp (fun p e below T m c t hA hx hb' q => XS.ifYes hA hx rfl rfl (hb hb' hd) rfl (XT.ll_eq_t hc) ho hp q) (yes hc)
  · exact RunW.stp (fun p e below T m c t hA hx hb' q => XS.ifNo hA hx rfl (hb hb' hd) rfl (XT.ll_eq_f hc) q) (no hc)
theorem RunW.lif_ne {x y : Int64} {o : Int} {pa : Nat} (hd : decode code pc = .ok (.ifCond .ne o, 3)) (ho : 0 ≤ (pc : Int) + o) (hp : ((pc : Int) + o).toNat = pc') (hq : pc + 3 = pa)
    (yes : ¬ x = y → RunW l Z EL n0 own code maxL ret nm R Q pc' Ls st h vm k n) (no : x = y → RunW l Z EL n0 own code maxL ret nm R Q pa Ls st h vm k n) : RunW l Z EL n0 own code maxL ret nm R Q pc Ls (.int (XT.cmpL x y) :: st) h vm k n := by
  subst hq
  by_cases hc : x = y
  · exact RunW.stp (fun p e below T m c t hA hx hb' q => XS.ifNo hA hx rfl (hb hb' hd) rfl (XT.ll_ne_f hc) q) (no (by simpa using hc))
  · exact RunW.stp (fun p e below T m c t hA hx hb' q => XS.ifYes hA hx rfl rfl (hb hb' hd) rfl (XT.ll_ne_t hc) ho hp q) (yes hc)
theorem RunW.lif_lt {x y : Int64} {o : Int} {pa : Nat} (hd : decode code pc = .ok (.ifCond .lt o, 3)) (ho : 0 ≤ (pc : Int) + o) (hp : ((pc : Int) + o).toNat = pc') (hq : pc + 3 = pa)
    (yes : x < y → RunW l Z EL n0 own code maxL ret nm R Q pc' Ls st h vm k n) (no : ¬ x < y → RunW l Z EL n0 own code maxL ret nm R Q pa Ls st h vm k n) : RunW l Z EL n0 own code maxL ret nm R Q pc Ls (.int (XT.cmpL x y) :: st) h vm k n := by
  subst hq
  by_cases hc : x < y
  · exact RunW.stp (fun p e below T m c t hA hx hb' q => XS.ifYes hA hx rfl rfl (hb hb' hd) rfl (XT.ll_lt_t hc) ho hp q) (yes hc)
  · exact RunW.stp (fun p e below T m c t hA hx hb' q => XS.ifNo hA hx rfl (hb hb' hd) rfl (XT.ll_lt_f hc) q) (no hc)
theorem RunW.lif_ge {x y : Int64} {o : Int} {pa : Nat} (hd : decode code pc = .ok (.ifCond .ge o, 3)) (ho : 0 ≤ (pc : Int) + o) (hp : ((pc : Int) + o).toNat = pc') (hq : pc + 3 = pa)
    (yes : ¬ x < y → RunW l Z EL n0 own code maxL ret nm R Q pc' Ls st h vm k n) (no : x < y → RunW l Z EL n0 own code maxL ret nm R Q pa Ls st h vm k n) : RunW l Z EL n0 own code maxL ret nm R Q pc Ls (.int (XT.cmpL x y) :: st) h vm k n := by
  subst hq
  by_cases hc : x < y
  · exact RunW.stp (fun p e below T m c t hA hx hb' q => XS.ifNo hA hx rfl (hb hb' hd) rfl (XT.ll_ge_f hc) q) (no (by simpa using hc))
  · exact RunW.stp (fun p e below T m c t hA hx hb' q => XS.ifYes hA hx rfl rfl (hb hb' hd) rfl (XT.ll_ge_t hc) ho hp q) (yes hc)
theorem RunW.lif_gt {x y : Int64} {o : Int} {pa : Nat} (hd : decode code pc = .ok (.ifCond .gt o, 3)) (ho : 0 ≤ (pc : Int) + o) (hp : ((pc : Int) + o).toNat = pc') (hq : pc + 3 = pa)
    (yes : y < x → RunW l Z EL n0 own code maxL ret nm R Q pc' Ls st h vm k n) (no : ¬ y < x → RunW l Z EL n0 own code maxL ret nm R Q pa Ls st h vm k n) : RunW l Z EL n0 own code maxL ret nm R Q pc Ls (.int (XT.cmpL x y) :: st) h vm k n := by
  subst hq
  by_cases hc : y < x
  · exact RunW.stp (fun p e below T m c t hA hx hb' q => XS.ifYes hA hx rfl rfl (hb hb' hd) rfl (XT.ll_gt_t hc) ho hp q) (yes hc)
  · exact RunW.stp (fun p e below T m c t hA hx hb' q => XS.ifNo hA hx rfl (hb hb' hd) rfl (XT.ll_gt_f hc) q) (no hc)
theorem RunW.lif_le {x y : Int64} {o : Int} {pa : Nat} (hd : decode code pc = .ok (.ifCond .le o, 3)) (ho : 0 ≤ (pc : Int) + o) (hp : ((pc : Int) + o).toNat = pc') (hq : pc + 3 = pa)
    (yes : ¬ y < x → RunW l Z EL n0 own code maxL ret nm R Q pc' Ls st h vm k n) (no : y < x → RunW l Z EL n0 own code maxL ret nm R Q pa Ls st h vm k n) : RunW l Z EL n0 own code maxL ret nm R Q pc Ls (.int (XT.cmpL x y) :: st) h vm k n := by
  subst hq
  by_cases hc : y < x
  · exact RunW.stp (fun p e below T m c t hA hx hb' q => XS.ifNo hA hx rfl (hb hb' hd) rfl (XT.ll_le_f hc) q) (no (by simpa using hc))
  · exact RunW.stp (fun p e below T m c t hA hx hb' q => XS.ifYes hA hx rfl rfl (hb hb' hd) rfl (XT.ll_le_t hc) ho hp q) (yes hc)
theorem RunW.acmp_eq {x y : Value} {o : Int} {pa : Nat} (hd : decode code pc = .ok (.if_acmp .eq o, 3)) (hv : x.isRef = true) (hv' : y.isRef = true) (ho : 0 ≤ (pc : Int) + o) (hp : ((pc : Int) + o).toNat = pc') (hq : pc + 3 = pa)
    (yes : x = y → RunW l Z EL n0 own code maxL ret nm R Q pc' Ls st h vm k n) (no : ¬ x = y → RunW l Z EL n0 own code maxL ret nm R Q pa Ls st h vm k n) : RunW l Z EL n0 own code maxL ret nm R Q pc Ls (y :: x :: st) h vm k n := by
  subst hq
  by_cases hc : x = y
  · exact RunW.stp (fun p e below T m c t hA hx hb' q => XT.acmpYes hA hx rfl rfl (hb hb' hd) rfl hv hv' (XT.aa_eq_t hc) ho hp q) (yes hc)
  · exact RunW.stp (fun p e below T m c t hA hx hb' q => XT.acmpNo hA hx rfl (hb hb' hd) rfl hv hv' (XT.aa_eq_f hc) q) (no hc)
theorem RunW.acmp_ne {x y : Value} {o : Int} {pa : Nat} (hd : decode code pc = .ok (.if_acmp .ne o, 3)) (hv : x.isRef = true) (hv' : y.isRef = true) (ho : 0 ≤ (pc : Int) + o) (hp : ((pc : Int) + o).toNat = pc') (hq : pc + 3 = pa)
    (yes : ¬ x = y → RunW l Z EL n0 own code maxL ret nm R Q pc' Ls st h vm k n) (no : x = y → RunW l Z EL n0 own code maxL ret nm R Q pa Ls st h vm k n) : RunW l Z EL n0 own code maxL ret nm R Q pc Ls (y :: x :: st) h vm k n := by
  subst hq
  by_cases hc : x = y
  · exact RunW.stp (fun p e below T m c t hA hx hb' q => XT.acmpNo hA hx rfl (hb hb' hd) rfl hv hv' (XT.aa_ne_f hc) q) (no (by simpa using hc))
  · exact RunW.stp (fun p e below T m c t hA hx hb' q => XT.acmpYes hA hx rfl rfl (hb hb' hd) rfl hv hv' (XT.aa_ne_t hc) ho hp q) (yes hc)
theorem RunW.ifnull {v : Value} {o : Int} {pa : Nat} (hd : decode code pc = .ok (.ifnull o, 3)) (hv : v.isRef = true) (ho : 0 ≤ (pc : Int) + o) (hp : ((pc : Int) + o).toNat = pc') (hq : pc + 3 = pa)
    (yes : v = .null → RunW l Z EL n0 own code maxL ret nm R Q pc' Ls st h vm k n) (no : ¬ v = .null → RunW l Z EL n0 own code maxL ret nm R Q pa Ls st h vm k n) : RunW l Z EL n0 own code maxL ret nm R Q pc Ls (v :: st) h vm k n := by
  subst hq
  by_cases hc : v = .null
  · exact RunW.stp (fun p e below T m c t hA hx hb' q => XT.nullYes hA hx rfl rfl (hb hb' hd) rfl hc ho hp q) (yes hc)
  · exact RunW.stp (fun p e below T m c t hA hx hb' q => XT.nullNo hA hx rfl (hb hb' hd) rfl hv hc q) (no hc)
theorem RunW.ifnonnull {v : Value} {o : Int} {pa : Nat} (hd : decode code pc = .ok (.ifnonnull o, 3)) (hv : v.isRef = true) (ho : 0 ≤ (pc : Int) + o) (hp : ((pc : Int) + o).toNat = pc') (hq : pc + 3 = pa)
    (yes : ¬ v = .null → RunW l Z EL n0 own code maxL ret nm R Q pc' Ls st h vm k n) (no : v = .null → RunW l Z EL n0 own code maxL ret nm R Q pa Ls st h vm k n) : RunW l Z EL n0 own code maxL ret nm R Q pc Ls (v :: st) h vm k n := by
  subst hq
  by_cases hc : v = .null
  · exact RunW.stp (fun p e below T m c t hA hx hb' q => XT.nonnullNo hA hx rfl (hb hb' hd) rfl hc q) (no hc)
  · exact RunW.stp (fun p e below T m c t hA hx hb' q => XT.nonnullYes hA hx rfl rfl (hb hb' hd) rfl hv hc ho hp q) (yes hc)
theorem RunW.ldcI {a0 : Array Value} {i : Nat} {v : Int32} (hd : decode code pc = .ok (.ldc i, 2)) (w : (Cond.constant own i v).before a0 Z = true) (hp : pc + 2 = pc') (nxt : RunW l Z EL n0 own code maxL ret nm R Q pc' Ls (.int v :: st) h vm k n) : RunW l Z EL n0 own code maxL ret nm R Q pc Ls st h vm k n := by
  subst hp
  exact RunW.via (fun p e s m args below meth c T locs cells slots hC X eT => ⟨T, X, eT, fun t q => X.ldcI hC.1 hC.2.2.1 (mvT hC.2.1 w) rfl (hb hC.2.2.2.1 hd) q⟩) nxt
theorem RunW.ldcWI {a0 : Array Value} {i : Nat} {v : Int32} (hd : decode code pc = .ok (.ldc_w i, 3)) (w : (Cond.constant own i v).before a0 Z = true) (hp : pc + 3 = pc') (nxt : RunW l Z EL n0 own code maxL ret nm R Q pc' Ls (.int v :: st) h vm k n) : RunW l Z EL n0 own code maxL ret nm R Q pc Ls st h vm k n := by
  subst hp
  exact RunW.via (fun p e s m args below meth c T locs cells slots hC X eT => ⟨T, X, eT, fun t q => X.ldcWI hC.1 hC.2.2.1 (mvT hC.2.1 w) rfl (hb hC.2.2.2.1 hd) q⟩) nxt
theorem RunW.ldc2J {a0 : Array Value} {i : Nat} {v : Int64} (hd : decode code pc = .ok (.ldc2_w i, 3)) (w : (Cond.constantLong own i v).before a0 Z = true) (hp : pc + 3 = pc') (nxt : RunW l Z EL n0 own code maxL ret nm R Q pc' Ls (.long v :: st) h vm k n) : RunW l Z EL n0 own code maxL ret nm R Q pc Ls st h vm k n := by
  subst hp
  exact RunW.via (fun p e s m args below meth c T locs cells slots hC X eT => ⟨T, X, eT, fun t q => X.ldc2J hC.1 hC.2.2.1 (mvT hC.2.1 w) rfl (hb hC.2.2.2.1 hd) q⟩) nxt
theorem RunW.getS {a0 : Array Value} {R0 O f d host : String} {i : Nat} {v : Value} (hd : decode code pc = .ok (.getstatic i, 3)) (w : (Cond.fieldLink own i R0 f d).before a0 Z = true ∨ (Cond.fieldLinkNest own i R0 f d host).before a0 Z = true) (via : Via Z R0 O f d) (F : Sta Z h O f d v) (hp : pc + 3 = pc') (nxt : RunW l Z EL n0 own code maxL ret nm R Q pc' Ls (v :: st) h vm k n) : RunW l Z EL n0 own code maxL ret nm R Q pc Ls st h vm k n := by
  subst hp
  exact RunW.via (fun p e s m args below meth c T locs cells slots hC X eT => getS2 X hC.1 hC.2.1 hC.2.2.1 w via eT F (g := mkF m pc Ls st) rfl (hb hC.2.2.2.1 hd)) nxt
theorem RunW.getF {a0 : Array Value} {R0 O f d host : String} {i : Nat} {a : Addr} {v : Value} (hd : decode code pc = .ok (.getfield i, 3)) (w : (Cond.fieldLink own i R0 f d).before a0 Z = true ∨ (Cond.fieldLinkNest own i R0 f d host).before a0 Z = true) (via : Via Z R0 O f d) (F : Fld Z h a O f d v) (hp : pc + 3 = pc') (nxt : RunW l Z EL n0 own code maxL ret nm R Q pc' Ls (v :: st) h vm k n) : RunW l Z EL n0 own code maxL ret nm R Q pc Ls (.ref a :: st) h vm k n := by
  subst hp
  exact RunW.via (fun p e s m args below meth c T locs cells slots hC X eT => getF X hC.1 hC.2.1 hC.2.2.1 w via eT F (g := mkF m pc Ls (.ref a :: st)) rfl rfl (hb hC.2.2.2.1 hd)) nxt
theorem RunW.initO {a0 : Array Value} {i : Nat} {a : Addr} (hd : decode code pc = .ok (.invokespecial i, 3)) (w1 : (Cond.methodLink own i Lib.objectInit).before a0 Z = true) (w2 : (Cond.instanceMethod Lib.objectInit).before a0 Z = true) (w3 : (Cond.code Lib.objectInit ⟨#[0xb1]⟩ 1 none).before a0 Z = true)
    (hsz : Ls.size = maxL) (hf : 1 ≤ R.frames) (hl : (st.map fun v => v.category).sum + 12 ≤ R.locals) (hp : pc + 3 = pc') (nxt : RunW l Z EL n0 own code maxL ret nm R Q pc' Ls st h vm k n) : RunW l Z EL n0 own code maxL ret nm R Q pc Ls (.ref a :: st) h vm k n := by
  subst hp
  exact RunW.via (fun p e s m args below meth c T locs cells slots hC X eT => initO X hC.1 hC.2.1 hC.2.2.1 w1 w2 w3 eT (g := mkF m pc Ls (.ref a :: st)) rfl (hsz.trans hC.2.2.2.2.1.symm) rfl (hb hC.2.2.2.1 hd) hf (W := (st.map fun v => v.category).sum) (by show 2 * 0 + _ ≤ _; omega) hl) nxt
theorem RunW.castY {a0 : Array Value} {K : String} {i : Nat} {a : Addr} (hd : decode code pc = .ok (.checkcast i, 3)) (w : (Cond.classLink own i K).before a0 Z = true) (F : Ins Z h a K true) (hp : pc + 3 = pc') (nxt : RunW l Z EL n0 own code maxL ret nm R Q pc' Ls (.ref a :: st) h vm k n) : RunW l Z EL n0 own code maxL ret nm R Q pc Ls (.ref a :: st) h vm k n := by
  subst hp
  exact RunW.via (fun p e s m args below meth c T locs cells slots hC X eT => castY X hC.1 hC.2.1 hC.2.2.1 w eT F (g := mkF m pc Ls (.ref a :: st)) rfl rfl (hb hC.2.2.2.1 hd)) nxt
theorem RunW.castNull {i : Nat} (hd : decode code pc = .ok (.checkcast i, 3)) (hp : pc + 3 = pc') (nxt : RunW l Z EL n0 own code maxL ret nm R Q pc' Ls (.null :: st) h vm k n) : RunW l Z EL n0 own code maxL ret nm R Q pc Ls (.null :: st) h vm k n := by
  subst hp
  exact RunW.via (fun p e s m args below meth c T locs cells slots hC X eT => ⟨T, X, eT, fun t q => X.checkcastNull hC.1 (g := mkF m pc Ls (.null :: st)) rfl rfl (hb hC.2.2.2.1 hd) t q⟩) nxt
theorem RunW.instY {a0 : Array Value} {K : String} {i : Nat} {a : Addr} (hd : decode code pc = .ok (.instanceof i, 3)) (w : (Cond.classLink own i K).before a0 Z = true) (F : Ins Z h a K true) (hp : pc + 3 = pc') (nxt : RunW l Z EL n0 own code maxL ret nm R Q pc' Ls (.int 1 :: st) h vm k n) : RunW l Z EL n0 own code maxL ret nm R Q pc Ls (.ref a :: st) h vm k n := by
  subst hp
  exact RunW.via (fun p e s m args below meth c T locs cells slots hC X eT => instY X hC.1 hC.2.1 hC.2.2.1 w eT F (g := mkF m pc Ls (.ref a :: st)) rfl rfl (hb hC.2.2.2.1 hd)) nxt
theorem RunW.instNo {a0 : Array Value} {K C : String} {i : Nat} {a : Addr} (hd : decode code pc = .ok (.instanceof i, 3)) (w : (Cond.classLink own i K).before a0 Z = true) (E : Exa Z h a C) (F : ∃ c t, Z.vm.findClass C = some c ∧ Z.vm.findClass K = some t ∧ Z.vm.assignable c t = false) (hp : pc + 3 = pc') (nxt : RunW l Z EL n0 own code maxL ret nm R Q pc' Ls (.int 0 :: st) h vm k n) : RunW l Z EL n0 own code maxL ret nm R Q pc Ls (.ref a :: st) h vm k n := by
  subst hp
  exact RunW.via (fun p e s m args below meth c T locs cells slots hC X eT => instNo X hC.1 hC.2.1 hC.2.2.1 w eT E F (g := mkF m pc Ls (.ref a :: st)) rfl rfl (hb hC.2.2.2.1 hd)) nxt
theorem RunW.instNull {i : Nat} (hd : decode code pc = .ok (.instanceof i, 3)) (hp : pc + 3 = pc') (nxt : RunW l Z EL n0 own code maxL ret nm R Q pc' Ls (.int 0 :: st) h vm k n) : RunW l Z EL n0 own code maxL ret nm R Q pc Ls (.null :: st) h vm k n := by
  subst hp
  exact RunW.via (fun p e s m args below meth c T locs cells slots hC X eT => ⟨T, X, eT, fun t q => X.instanceofNull hC.1 (g := mkF m pc Ls (.null :: st)) rfl rfl (hb hC.2.2.2.1 hd) t q⟩) nxt
theorem RunW.alen {a : Addr} {ty : FieldType} {vs : List Value} {z : Int32} (hd : decode code pc = .ok (.arraylength, 1)) (A : Ary Z h a ty vs) (hz : vs.length.toInt32 = z) (hp : pc + 1 = pc') (nxt : RunW l Z EL n0 own code maxL ret nm R Q pc' Ls (.int z :: st) h vm k n) : RunW l Z EL n0 own code maxL ret nm R Q pc Ls (.ref a :: st) h vm k n := by
  subst hp hz
  obtain ⟨c0, A, r⟩ := A
  exact RunW.via (fun p e s m args below meth c T locs cells slots hC X eT => ⟨T, X, eT, fun t q => X.arraylength hC.1 (by rw [eT]; exact A.1) (State.isArrayOf_alike hC.2.1.alike A.2.1) (g := mkF m pc Ls (.ref a :: st)) rfl rfl (hb hC.2.2.2.1 hd) t (by rw [sizeOf r]; exact q)⟩) nxt
theorem RunW.iaload {a : Addr} {vs : List Value} {j : Int32} {i : Nat} {v : Value} (hd : decode code pc = .ok (.iaload, 1)) (A : Ary Z h a .int vs) (hj : j.toInt = (i : Int)) (hv : vs[i]? = some v) (hp : pc + 1 = pc') (nxt : RunW l Z EL n0 own code maxL ret nm R Q pc' Ls (v :: st) h vm k n) : RunW l Z EL n0 own code maxL ret nm R Q pc Ls (.int j :: .ref a :: st) h vm k n := by
  subst hp
  obtain ⟨c0, A, r⟩ := A
  obtain ⟨hin, e0⟩ := idxIn (c := c0) hj (by rw [sizeOf r]; exact (List.getElem?_eq_some_iff.mp hv).1)
  exact RunW.via (fun p e s m args below meth c T locs cells slots hC X eT => ⟨T, X, eT, fun t q => X.iaload hC.1 (by rw [eT]; exact A.1) (State.isArrayOf_alike hC.2.1.alike A.2.1) A.2.2 hin (by rw [e0]; exact getOf r hv) (g := mkF m pc Ls (.int j :: .ref a :: st)) rfl rfl (hb hC.2.2.2.1 hd) t q⟩) nxt
theorem RunW.laload {a : Addr} {vs : List Value} {j : Int32} {i : Nat} {v : Value} (hd : decode code pc = .ok (.laload, 1)) (A : Ary Z h a .long vs) (hj : j.toInt = (i : Int)) (hv : vs[i]? = some v) (hp : pc + 1 = pc') (nxt : RunW l Z EL n0 own code maxL ret nm R Q pc' Ls (v :: st) h vm k n) : RunW l Z EL n0 own code maxL ret nm R Q pc Ls (.int j :: .ref a :: st) h vm k n := by
  subst hp
  obtain ⟨c0, A, r⟩ := A
  obtain ⟨hin, e0⟩ := idxIn (c := c0) hj (by rw [sizeOf r]; exact (List.getElem?_eq_some_iff.mp hv).1)
  exact RunW.via (fun p e s m args below meth c T locs cells slots hC X eT => ⟨T, X, eT, fun t q => X.laload hC.1 (by rw [eT]; exact A.1) (State.isArrayOf_alike hC.2.1.alike A.2.1) A.2.2 hin (by rw [e0]; exact getOf r hv) (g := mkF m pc Ls (.int j :: .ref a :: st)) rfl rfl (hb hC.2.2.2.1 hd) t q⟩) nxt
theorem RunW.caload {a : Addr} {vs : List Value} {j : Int32} {i : Nat} {v : Value} (hd : decode code pc = .ok (.caload, 1)) (A : Ary Z h a .char vs) (hj : j.toInt = (i : Int)) (hv : vs[i]? = some v) (hp : pc + 1 = pc') (nxt : RunW l Z EL n0 own code maxL ret nm R Q pc' Ls (v :: st) h vm k n) : RunW l Z EL n0 own code maxL ret nm R Q pc Ls (.int j :: .ref a :: st) h vm k n := by
  subst hp
  obtain ⟨c0, A, r⟩ := A
  obtain ⟨hin, e0⟩ := idxIn (c := c0) hj (by rw [sizeOf r]; exact (List.getElem?_eq_some_iff.mp hv).1)
  exact RunW.via (fun p e s m args below meth c T locs cells slots hC X eT => ⟨T, X, eT, fun t q => X.caload hC.1 (by rw [eT]; exact A.1) (State.isArrayOf_alike hC.2.1.alike A.2.1) A.2.2 hin (by rw [e0]; exact getOf r hv) (g := mkF m pc Ls (.int j :: .ref a :: st)) rfl rfl (hb hC.2.2.2.1 hd) t q⟩) nxt
theorem RunW.saload {a : Addr} {vs : List Value} {j : Int32} {i : Nat} {v : Value} (hd : decode code pc = .ok (.saload, 1)) (A : Ary Z h a .short vs) (hj : j.toInt = (i : Int)) (hv : vs[i]? = some v) (hp : pc + 1 = pc') (nxt : RunW l Z EL n0 own code maxL ret nm R Q pc' Ls (v :: st) h vm k n) : RunW l Z EL n0 own code maxL ret nm R Q pc Ls (.int j :: .ref a :: st) h vm k n := by
  subst hp
  obtain ⟨c0, A, r⟩ := A
  obtain ⟨hin, e0⟩ := idxIn (c := c0) hj (by rw [sizeOf r]; exact (List.getElem?_eq_some_iff.mp hv).1)
  exact RunW.via (fun p e s m args below meth c T locs cells slots hC X eT => ⟨T, X, eT, fun t q => X.saload hC.1 (by rw [eT]; exact A.1) (State.isArrayOf_alike hC.2.1.alike A.2.1) A.2.2 hin (by rw [e0]; exact getOf r hv) (g := mkF m pc Ls (.int j :: .ref a :: st)) rfl rfl (hb hC.2.2.2.1 hd) t q⟩) nxt
theorem RunW.baload {a : Addr} {vs : List Value} {j : Int32} {i : Nat} {v : Value} (hd : decode code pc = .ok (.baload, 1)) (A : Ary Z h a .byte vs) (hj : j.toInt = (i : Int)) (hv : vs[i]? = some v) (hp : pc + 1 = pc') (nxt : RunW l Z EL n0 own code maxL ret nm R Q pc' Ls (v :: st) h vm k n) : RunW l Z EL n0 own code maxL ret nm R Q pc Ls (.int j :: .ref a :: st) h vm k n := by
  subst hp
  obtain ⟨c0, A, r⟩ := A
  obtain ⟨hin, e0⟩ := idxIn (c := c0) hj (by rw [sizeOf r]; exact (List.getElem?_eq_some_iff.mp hv).1)
  exact RunW.via (fun p e s m args below meth c T locs cells slots hC X eT => ⟨T, X, eT, fun t q => X.baloadBytes hC.1 (by rw [eT]; exact A.1) (State.isArrayOf_alike hC.2.1.alike A.2.1) A.2.2 hin (by rw [e0]; exact getOf r hv) (g := mkF m pc Ls (.int j :: .ref a :: st)) rfl rfl (hb hC.2.2.2.1 hd) t q⟩) nxt
theorem RunW.aaload {a : Addr} {vs : List Value} {j : Int32} {i : Nat} {v : Value} {ty : FieldType} (hd : decode code pc = .ok (.aaload, 1)) (A : Ary Z h a ty vs) (hty : ty.isReference = true) (hj : j.toInt = (i : Int)) (hv : vs[i]? = some v) (hp : pc + 1 = pc') (nxt : RunW l Z EL n0 own code maxL ret nm R Q pc' Ls (v :: st) h vm k n) : RunW l Z EL n0 own code maxL ret nm R Q pc Ls (.int j :: .ref a :: st) h vm k n := by
  subst hp
  obtain ⟨c0, A, r⟩ := A
  obtain ⟨hin, e0⟩ := idxIn (c := c0) hj (by rw [sizeOf r]; exact (List.getElem?_eq_some_iff.mp hv).1)
  exact RunW.via (fun p e s m args below meth c T locs cells slots hC X eT => ⟨T, X, eT, fun t q => X.aaload hC.1 (by rw [eT]; exact A.1) (State.isArrayOf_alike hC.2.1.alike A.2.1) hty A.2.2 hin (by rw [e0]; exact getOf r hv) (g := mkF m pc Ls (.int j :: .ref a :: st)) rfl rfl (hb hC.2.2.2.1 hd) t q⟩) nxt
theorem GoW.fin {p : Program} {e : Env} {s : State} {m : MethodId} {args : Array Value} {below : List Frame} {meth : Method} {c : Code} {T S : State} {locs : List Loc} {cells slots k0 : Nat} {v : Option Value} (X : Stand p l e R (s.setVm vm) m args below meth c T locs cells slots) (hZ : Z.Warmed39 (s.setVm vm).vm) (hS : s.Since vm k0) (hk0 : k0 ≤ h.size) (hR : CHr Z EL s.vm s.heap vm h) (hE : ∃ a0, EW Z a0 EL) (eT : T.heap = h) (hv : meth.sig.returnType = none → v = none) (hlk : meth.locks = false) (hF : Fr n0 locs) (hk : cells ≤ R.cells) (hn : slots ≤ R.slots) (hQ : Q v h)
    (f : ∀ fs, (∀ (f : JFrame) (acts : List Action), f.method = m → f.locked = none → f.entered = [] → (doReturn e (T.setTop f) acts v).1 = T.setFrames fs) → Steps p.tables e below S (T.setFrames fs)) : GoW p e below Z s EL n0 R.cells R.slots Q S := by
  subst eT
  obtain ⟨a0, hE⟩ := hE
  have hRq := hR.trans (CHv.at X hZ hE hR.1)
  obtain ⟨fs, hr, hrun, hended, hW⟩ := X.leaveW hS hk0 (v := v) hv hlk
  exact ⟨_, v, locs, f fs hr, hrun, hended, ⟨hQ, hF⟩, hRq, hW.1, hW.2.1, hW.2.2.1, hW.2.2.2.mono hk hn⟩
theorem RunW.ireturn {z : Int32} (hd : decode code pc = .ok (.ireturn, 1)) (hret : ret = some .int) (hk : k ≤ R.cells) (hn : n ≤ R.slots) (hQ : Q (some (.int z)) h) : RunW l Z EL n0 own code maxL ret nm R Q pc Ls (.int z :: st) h vm k n := by
  intro p e s m args below meth c T locs cells slots k0 hC X hS hk0 hR hE eT hF hk' hn'
  have hr := hC.2.2.2.2.2.1
  exact GoW.fin X hC.2.1 hS hk0 hR hE eT (fun q => by rw [hr, hret] at q; cases q) hC.2.2.2.2.2.2.1 hF (Nat.le_trans hk' hk) (Nat.le_trans hn' hn) hQ (fun fs hl => retOut X hC.1 (hr.trans hret) rfl (Or.inl ⟨rfl, Or.inl rfl, z, rfl⟩) (hb hC.2.2.2.1 hd) hl)
theorem RunW.nreturn {z : Int32} {ty : FieldType} (hd : decode code pc = .ok (.ireturn, 1)) (hret : ret = some ty) (ht : ty = .boolean ∨ ty = .byte ∨ ty = .char ∨ ty = .short) (hk : k ≤ R.cells) (hn : n ≤ R.slots) (hQ : Q (some (.int (nar ty z))) h) : RunW l Z EL n0 own code maxL ret nm R Q pc Ls (.int z :: st) h vm k n := by
  intro p e s m args below meth c T locs cells slots k0 hC X hS hk0 hR hE eT hF hk' hn'
  have hr := hC.2.2.2.2.2.1
  exact GoW.fin X hC.2.1 hS hk0 hR hE eT (fun q => by rw [hr, hret] at q; cases q) hC.2.2.2.2.2.2.1 hF (Nat.le_trans hk' hk) (Nat.le_trans hn' hn) hQ (fun fs hl => retN X hC.1 (hr.trans hret) ht (hb hC.2.2.2.1 hd) hl)
theorem RunW.lreturn {z : Int64} (hd : decode code pc = .ok (.lreturn, 1)) (hret : ret = some .long) (hk : k ≤ R.cells) (hn : n ≤ R.slots) (hQ : Q (some (.long z)) h) : RunW l Z EL n0 own code maxL ret nm R Q pc Ls (.long z :: st) h vm k n := by
  intro p e s m args below meth c T locs cells slots k0 hC X hS hk0 hR hE eT hF hk' hn'
  have hr := hC.2.2.2.2.2.1
  exact GoW.fin X hC.2.1 hS hk0 hR hE eT (fun q => by rw [hr, hret] at q; cases q) hC.2.2.2.2.2.2.1 hF (Nat.le_trans hk' hk) (Nat.le_trans hn' hn) hQ (fun fs hl => retOut X hC.1 (hr.trans hret) rfl (Or.inr (Or.inl ⟨rfl, rfl, z, rfl⟩)) (hb hC.2.2.2.1 hd) hl)
theorem RunW.areturn {w : Value} {ty : FieldType} (hd : decode code pc = .ok (.areturn, 1)) (hret : ret = some ty) (ht : ty.isReference = true) (hw : w.isRef = true) (hk : k ≤ R.cells) (hn : n ≤ R.slots) (hQ : Q (some w) h) : RunW l Z EL n0 own code maxL ret nm R Q pc Ls (w :: st) h vm k n := by
  intro p e s m args below meth c T locs cells slots k0 hC X hS hk0 hR hE eT hF hk' hn'
  have hr := hC.2.2.2.2.2.1
  exact GoW.fin X hC.2.1 hS hk0 hR hE eT (fun q => by rw [hr, hret] at q; cases q) hC.2.2.2.2.2.2.1 hF (Nat.le_trans hk' hk) (Nat.le_trans hn' hn) hQ (fun fs hl => retOut X hC.1 (hr.trans hret) (go_narref ht hw) (Or.inr (Or.inr (Or.inr (Or.inr ⟨rfl, ht, hw⟩)))) (hb hC.2.2.2.1 hd) hl)
theorem RunW.vreturn  (hd : decode code pc = .ok (.return_, 1)) (hret : ret = none) (hk : k ≤ R.cells) (hn : n ≤ R.slots) (hQ : Q none h) : RunW l Z EL n0 own code maxL ret nm R Q pc Ls [] h vm k n := by
  intro p e s m args below meth c T locs cells slots k0 hC X hS hk0 hR hE eT hF hk' hn'
  have hr := hC.2.2.2.2.2.1
  exact GoW.fin X hC.2.1 hS hk0 hR hE eT (fun _ => rfl) hC.2.2.2.2.2.2.1 hF (Nat.le_trans hk' hk) (Nat.le_trans hn' hn) hQ (fun fs hl => X.returnOut hC.1 (hr.trans hret) (hb hC.2.2.2.1 hd) hl)

theorem RunW.wr {a : Addr} {sl : Nat} {v : Value} {Ls' : Array Slot} {st' : List Value} (f : ∀ (p : Program) (e : Env) (s : State) (m : MethodId) (args : Array Value) (below : List Frame) (meth : Method) (c : Code) (T : State) (locs : List Loc) (cells slots : Nat),
      Ctx Z own code maxL ret nm p s m meth c → Stand p l e R s m args below meth c T locs cells slots → T.heap = h → ∃ T' h', Stand p l e R s m args below meth c T' (locs ++ [⟨a, sl⟩]) cells slots ∧ T'.heap = h' ∧ Wr h h' a sl v ∧ ∀ t, Steps p.tables e below (T'.setTop (mkF m pc' Ls' st')) t → Steps p.tables e below (T.setTop (mkF m pc Ls st)) t)
    (ha : n0 ≤ a) (sa : Safe Z EL vm h a) (nxt : ∀ h', Wr h h' a sl v → CHr Z EL vm h vm h' → RunW l Z EL n0 own code maxL ret nm R Q pc' Ls' st' h' vm k n) : RunW l Z EL n0 own code maxL ret nm R Q pc Ls st h vm k n := by
  intro p e s m args below meth c T locs cells slots k0 hC X hS hk0 hR hE eT hF hk hn
  obtain ⟨T', h', X', e', W, stp⟩ := f p e (s.setVm vm) m args below meth c T locs cells slots hC X eT
  have c1 := CHr.wr W sa hR.1
  obtain ⟨s₂, v', L, g1, g2⟩ := nxt h' W c1 p e s m args below meth c T' _ cells slots k0 hC X' hS (by rw [W.size]; exact hk0) (hR.trans c1) hE e' (Fr.snoc X' hF ha) hk hn
  exact ⟨s₂, v', L, stp _ g1, g2⟩
theorem RunW.newO {a0 : Array Value} {C : String} {i sl : Nat} (hd : decode code pc = .ok (.new i, 3)) (w : (Cond.classLink own i C).before a0 Z = true) (wi : (Cond.instantiable C sl).before a0 Z = true) (wz : (Cond.initialized C).before a0 Z = true)
    (hk : k + 1 ≤ k') (hk' : k' ≤ R.cells) (hn : n + sl ≤ n') (hn' : n' ≤ R.slots) (hp : pc + 3 = pc')
    (nxt : ∀ h' a, a = h.size → Ext h h' → Exa Z h' a C → (∀ {O f d : String} {ty : FieldType}, Laid Z a0 C O f d → parseFieldDescriptor d = some ty → Fld Z h' a O f d (defaultValue ty)) → CHr Z EL vm h vm h' → Safe Z EL vm h' a → RunW l Z EL n0 own code maxL ret nm R Q pc' Ls (.ref a :: st) h' vm k' n') : RunW l Z EL n0 own code maxL ret nm R Q pc Ls st h vm k n := by
  subst hp
  intro p e s m args below meth c T locs cells slots k0 hC X hS hk0 hR hE eT hF hkk hnn
  obtain ⟨T', h', X', e', E, A, D, -, stp⟩ := newO X hC.1 hC.2.1 hC.2.2.1 w wi wz eT (g := mkF m pc Ls st) rfl (hb hC.2.2.2.1 hd) (by omega) (by omega)
  have c1 := CHr.ext E hR.1
  obtain ⟨s₂, v, L, g1, g2⟩ := nxt h' h.size rfl E A D c1 (Safe.ext E hR.1 (Safe.new (Nat.le_refl _))) p e s m args below meth c T' locs _ _ k0 hC X' hS (Nat.le_trans hk0 E.1) (hR.trans c1) hE e' hF (by omega) (by omega)
  exact ⟨s₂, v, L, stp _ g1, g2⟩
theorem RunW.newP {a0 : Array Value} {aty : ArrayType} {ty : FieldType} {z : Int32} {cap m : Nat} {dv : Value} (hd : decode code pc = .ok (.newarray aty, 2)) (hty : newarray.typeOf aty = ty) (w : (Cond.arrayClass ty).before a0 Z = true) (hz : ¬ z < 0) (hcap : z.toNatClampNeg = m) (hm : m ≤ cap) (hdv : defaultValue ty = dv) (hcb : cap * 8 ≤ 536870912)
    (hk : k + 1 ≤ k') (hk' : k' ≤ R.cells) (hn : n + cap ≤ n') (hn' : n' ≤ R.slots) (hp : pc + 2 = pc')
    (nxt : ∀ h' a, a = h.size → Ext h h' → Ary Z h' a ty (List.replicate m dv) → CHr Z EL vm h vm h' → Safe Z EL vm h' a → RunW l Z EL n0 own code maxL ret nm R Q pc' Ls (.ref a :: st) h' vm k' n') : RunW l Z EL n0 own code maxL ret nm R Q pc Ls (.int z :: st) h vm k n := by
  subst hp hty hdv
  intro p e s m' args below meth c T locs cells slots k0 hC X hS hk0 hR hE eT hF hkk hnn
  obtain ⟨T', h', cA, X', e', E, A, stp⟩ := newP X hC.1 hC.2.1 w eT (g := mkF m' pc Ls (.int z :: st)) rfl (hb hC.2.2.2.1 hd) rfl hz (by omega) hcb (by omega) (by omega)
  have c1 := CHr.ext E hR.1
  obtain ⟨s₂, v, L, g1, g2⟩ := nxt h' h.size rfl E ⟨_, A, by simp [newA, hcap]⟩ c1 (Safe.ext E hR.1 (Safe.new (Nat.le_refl _))) p e s m' args below meth c T' locs _ _ k0 hC X' hS (Nat.le_trans hk0 E.1) (hR.trans c1) hE e' hF (by omega) (by omega)
  exact ⟨s₂, v, L, stp _ g1, g2⟩
theorem RunW.putF {a0 : Array Value} {R0 O f d host C : String} {i sl : Nat} {ty : FieldType} {a : Addr} {v old : Value} (hd : decode code pc = .ok (.putfield i, 3)) (w : (Cond.fieldLink own i R0 f d).before a0 Z = true ∨ (Cond.fieldLinkNest own i R0 f d host).before a0 Z = true) (via : Via Z R0 O f d) (F : Fld Z h a O f d old) (E : Exa Z h a C)
    (L : (Cond.lays C O f d).before a0 Z = true ∨ ((Cond.laysFinal C O f d).before a0 Z = true ∧ own = O ∧ nm = "<init>")) (wi : (Cond.instantiable C sl).before a0 Z = true) (hty : parseFieldDescriptor d = some ty) (hnv : narrow ty v = v) (hfv : fits ty v = true) (ha : n0 ≤ a) (sa : Safe Z EL vm h a) (hp : pc + 3 = pc')
    (nxt : ∀ h', Wr h h' a (Jvm.RoadKit.slotOf Z O f d) v → CHr Z EL vm h vm h' → RunW l Z EL n0 own code maxL ret nm R Q pc' Ls st h' vm k n) : RunW l Z EL n0 own code maxL ret nm R Q pc Ls (v :: .ref a :: st) h vm k n := by
  subst hp
  exact RunW.wr (fun p e s m args below meth c T locs cells slots hC X eT => putF X hC.1 hC.2.1 hC.2.2.1 w via eT F E (L.imp id fun q => ⟨q.1, q.2.1, hC.2.2.2.2.2.2.2.trans q.2.2⟩) wi hty hnv hfv (g := mkF m pc Ls (v :: .ref a :: st)) rfl rfl (hb hC.2.2.2.1 hd)) ha sa nxt
theorem RunW.putFN {a0 : Array Value} {R0 O f d C : String} {i sl : Nat} {ty : FieldType} {a : Addr} {v v' old : Value} (hd : decode code pc = .ok (.putfield i, 3)) (w : (Cond.fieldLink own i R0 f d).before a0 Z = true) (via : Via Z R0 O f d) (F : Fld Z h a O f d old) (E : Exa Z h a C)
    (L : (Cond.lays C O f d).before a0 Z = true ∨ ((Cond.laysFinal C O f d).before a0 Z = true ∧ own = O ∧ nm = "<init>")) (wi : (Cond.instantiable C sl).before a0 Z = true) (hty : parseFieldDescriptor d = some ty) (hnv : narrow ty v = v') (hfv : fits ty v' = true) (ha : n0 ≤ a) (sa : Safe Z EL vm h a) (hp : pc + 3 = pc')
    (nxt : ∀ h', Wr h h' a (Jvm.RoadKit.slotOf Z O f d) v' → CHr Z EL vm h vm h' → RunW l Z EL n0 own code maxL ret nm R Q pc' Ls st h' vm k n) : RunW l Z EL n0 own code maxL ret nm R Q pc Ls (v :: .ref a :: st) h vm k n := by
  subst hp
  exact RunW.wr (fun p e s m args below meth c T locs cells slots hC X eT => putFN X hC.1 hC.2.1 hC.2.2.1 w via eT F E (L.imp id fun q => ⟨q.1, q.2.1, hC.2.2.2.2.2.2.2.trans q.2.2⟩) wi hty hnv hfv (g := mkF m pc Ls (v :: .ref a :: st)) rfl rfl (hb hC.2.2.2.1 hd)) ha sa nxt
theorem RunW.iastore {a : Addr} {vs : List Value} {j : Int32} {i : Nat} {x : Int32} (hd : decode code pc = .ok (.iastore, 1)) (A : Ary Z h a .int vs) (hj : j.toInt = (i : Int)) (hi : i < vs.length) (ha : n0 ≤ a) (sa : Safe Z EL vm h a) (hp : pc + 1 = pc') (nxt : ∀ h', Wr h h' a i (.int x) → CHr Z EL vm h vm h' → Ary Z h' a .int (vs.set i (.int x)) → RunW l Z EL n0 own code maxL ret nm R Q pc' Ls st h' vm k n) : RunW l Z EL n0 own code maxL ret nm R Q pc Ls (.int x :: .int j :: .ref a :: st) h vm k n := by
  subst hp
  have A' := A
  obtain ⟨c0, A, r⟩ := A
  obtain ⟨hin, e0⟩ := idxIn (c := c0) hj (by rw [sizeOf r]; exact hi)
  refine RunW.wr (fun p e s m args below meth c T locs cells slots hC X eT => ?_) ha sa (fun h' W c1 => nxt h' W c1 (A'.set W))
  have q := stI X hC.1 hC.2.1 eT A hin (g := mkF m pc Ls (.int x :: .int j :: .ref a :: st)) rfl rfl (hb hC.2.2.2.1 hd)
  rw [e0] at q
  exact q
theorem RunW.lastore {a : Addr} {vs : List Value} {j : Int32} {i : Nat} {x : Int64} (hd : decode code pc = .ok (.lastore, 1)) (A : Ary Z h a .long vs) (hj : j.toInt = (i : Int)) (hi : i < vs.length) (ha : n0 ≤ a) (sa : Safe Z EL vm h a) (hp : pc + 1 = pc') (nxt : ∀ h', Wr h h' a i (.long x) → CHr Z EL vm h vm h' → Ary Z h' a .long (vs.set i (.long x)) → RunW l Z EL n0 own code maxL ret nm R Q pc' Ls st h' vm k n) : RunW l Z EL n0 own code maxL ret nm R Q pc Ls (.long x :: .int j :: .ref a :: st) h vm k n := by
  subst hp
  have A' := A
  obtain ⟨c0, A, r⟩ := A
  obtain ⟨hin, e0⟩ := idxIn (c := c0) hj (by rw [sizeOf r]; exact hi)
  refine RunW.wr (fun p e s m args below meth c T locs cells slots hC X eT => ?_) ha sa (fun h' W c1 => nxt h' W c1 (A'.set W))
  have q := stJ X hC.1 hC.2.1 eT A hin (g := mkF m pc Ls (.long x :: .int j :: .ref a :: st)) rfl rfl (hb hC.2.2.2.1 hd)
  rw [e0] at q
  exact q
theorem RunW.castore {a : Addr} {vs : List Value} {j : Int32} {i : Nat} {x : Int32} (hd : decode code pc = .ok (.castore, 1)) (A : Ary Z h a .char vs) (hj : j.toInt = (i : Int)) (hi : i < vs.length) (ha : n0 ≤ a) (sa : Safe Z EL vm h a) (hp : pc + 1 = pc') (nxt : ∀ h', Wr h h' a i (.int (nar .char x)) → CHr Z EL vm h vm h' → Ary Z h' a .char (vs.set i (.int (nar .char x))) → RunW l Z EL n0 own code maxL ret nm R Q pc' Ls st h' vm k n) : RunW l Z EL n0 own code maxL ret nm R Q pc Ls (.int x :: .int j :: .ref a :: st) h vm k n := by
  subst hp
  have A' := A
  obtain ⟨c0, A, r⟩ := A
  obtain ⟨hin, e0⟩ := idxIn (c := c0) hj (by rw [sizeOf r]; exact hi)
  refine RunW.wr (fun p e s m args below meth c T locs cells slots hC X eT => ?_) ha sa (fun h' W c1 => nxt h' W c1 (A'.set W))
  have q := stC X hC.1 hC.2.1 eT A hin (g := mkF m pc Ls (.int x :: .int j :: .ref a :: st)) rfl rfl (hb hC.2.2.2.1 hd)
  rw [e0] at q
  exact q
theorem RunW.sastore {a : Addr} {vs : List Value} {j : Int32} {i : Nat} {x : Int32} (hd : decode code pc = .ok (.sastore, 1)) (A : Ary Z h a .short vs) (hj : j.toInt = (i : Int)) (hi : i < vs.length) (ha : n0 ≤ a) (sa : Safe Z EL vm h a) (hp : pc + 1 = pc') (nxt : ∀ h', Wr h h' a i (.int (nar .short x)) → CHr Z EL vm h vm h' → Ary Z h' a .short (vs.set i (.int (nar .short x))) → RunW l Z EL n0 own code maxL ret nm R Q pc' Ls st h' vm k n) : RunW l Z EL n0 own code maxL ret nm R Q pc Ls (.int x :: .int j :: .ref a :: st) h vm k n := by
  subst hp
  have A' := A
  obtain ⟨c0, A, r⟩ := A
  obtain ⟨hin, e0⟩ := idxIn (c := c0) hj (by rw [sizeOf r]; exact hi)
  refine RunW.wr (fun p e s m args below meth c T locs cells slots hC X eT => ?_) ha sa (fun h' W c1 => nxt h' W c1 (A'.set W))
  have q := stS X hC.1 hC.2.1 eT A hin (g := mkF m pc Ls (.int x :: .int j :: .ref a :: st)) rfl rfl (hb hC.2.2.2.1 hd)
  rw [e0] at q
  exact q
theorem RunW.bastore {a : Addr} {vs : List Value} {j : Int32} {i : Nat} {x : Int32} (hd : decode code pc = .ok (.bastore, 1)) (A : Ary Z h a .byte vs) (hj : j.toInt = (i : Int)) (hi : i < vs.length) (ha : n0 ≤ a) (sa : Safe Z EL vm h a) (hp : pc + 1 = pc') (nxt : ∀ h', Wr h h' a i (.int (nar .byte x)) → CHr Z EL vm h vm h' → Ary Z h' a .byte (vs.set i (.int (nar .byte x))) → RunW l Z EL n0 own code maxL ret nm R Q pc' Ls st h' vm k n) : RunW l Z EL n0 own code maxL ret nm R Q pc Ls (.int x :: .int j :: .ref a :: st) h vm k n := by
  subst hp
  have A' := A
  obtain ⟨c0, A, r⟩ := A
  obtain ⟨hin, e0⟩ := idxIn (c := c0) hj (by rw [sizeOf r]; exact hi)
  refine RunW.wr (fun p e s m args below meth c T locs cells slots hC X eT => ?_) ha sa (fun h' W c1 => nxt h' W c1 (A'.set W))
  have q := stB X hC.1 hC.2.1 eT A hin (g := mkF m pc Ls (.int x :: .int j :: .ref a :: st)) rfl rfl (hb hC.2.2.2.1 hd)
  rw [e0] at q
  exact q
theorem backW {p : Program} {e : Env} {s : State} {args : Array Value} {below : List Frame} {a0 a1 : Array Value} {y : MethodName} {bytes : ByteArray} {mL : Nat} {rt : Option FieldType} {rm : Room} {len W : Nat} {as' : Array Value} {sf : List Addr} {Q : Option Value → Heap → List Loc → Prop}
    (hM : MetFree l y (head1 [Cond.code y bytes mL rt] rm) (fun a U => a = as' ∧ Z.Warmed39 U.vm ∧ U.heap = h ∧ CHv Z EL U.vm h ∧ ∀ x ∈ sf, Safe Z EL U.vm h x) (fun _ _ _ _ _ => True) (fun _ U o U' => ∃ v L, o = .returned v ∧ Q v U'.heap L ∧ CHr Z EL U.vm U.heap U'.vm U'.heap ∧ ReturnedEndW U o U' L rm.cells rm.slots))
    (hZ : Z.Warmed39 (s.setVm vm).vm) (wc : (Cond.code y bytes mL rt).before a0 Z = true) (wz : (Cond.initialized y.cls).before a0 Z = true) (hf : rm.frames + 1 ≤ R.frames) (hl : W + (mL + 11) + rm.locals ≤ R.locals) (hEL : EW Z a1 EL) (H : CHv Z EL vm h) (hsf : ∀ x ∈ sf, Safe Z EL vm h x) :
    BackS l R p e below (s.setVm vm) args y len W (fun A a => a = as' ∧ A.U.heap = h ∧ A.cells + rm.cells ≤ R.cells ∧ A.slots + rm.slots ≤ R.slots)
      (fun A _ v B => ∃ L, Q v B.U.heap L ∧ B.locs = A.locs ++ L ∧ B.cells = A.cells + rm.cells ∧ B.slots = A.slots + rm.slots ∧ CHr Z EL vm h B.U.vm B.U.heap) := by
  refine BackS.of_freeW (bytes := bytes) (maxL := mL) (ret := rt) (E := fun _ first o t L k n => k = rm.cells ∧ n = rm.slots ∧ (∃ v, o = .returned v ∧ Q v t.heap L) ∧ CHr Z EL first.vm first.heap t.vm t.heap) hM hf hl ?_ ?_ (fun _ _ _ _ _ _ _ _ _ => trivial) (fun _ _ _ _ ⟨v, L, h1, h2, h3, h4⟩ => ⟨L, _, _, h4, rfl, rfl, ⟨v, h1, h2⟩, h3⟩) ?_
  · intro m meth c A a Y hp
    have hU : Z.Warmed39 A.U.vm := wtrans (s := s.setVm vm) hZ Y.warmed
    exact ⟨by show (Cond.and _ .tt).before a A.U = true; rw [Cond.before_and, mv hU wc]; rfl, mv hU wc, mv hU wz, hp.2.2.1, hp.2.2.2⟩
  · intro m meth c A a g mk Y hp
    have c1 := CHv.at Y hZ hEL H
    refine ⟨hp.1, wtrans (s := s.setVm vm) hZ Y.warmed, hp.2.1, c1.1, fun x hx => ?_⟩
    exact fun B => by
      rcases c1.2.2 x B with q | q
      · exact hsf x hx q
      · obtain ⟨cell, q2⟩ := B.there
        exact absurd (Array.getElem?_eq_some_iff.mp q2).1 (Nat.not_lt.mpr q)
  · intro m meth c A a g mk v t L k n Y hp _ _ hq
    obtain ⟨e1, e2, ⟨v', e3, e4⟩, e5⟩ := hq
    cases e3; subst e1 e2
    refine ⟨L, e4, rfl, rfl, rfl, (CHv.at Y hZ hEL H).trans ?_⟩
    rw [← hp.2.1]; exact e5
theorem RunW.callS {a0 : Array Value} {y : MethodName} {bytes : ByteArray} {mL : Nat} {rt : Option FieldType} {rm : Room} {as rest : List Value} {Qy : Option Value → Heap → Prop} {i : Nat} {ps : List FieldType} {rr : Option FieldType}
    (hC : Con l Z n0 y bytes mL rt rm as.toArray h Qy) (hs : ∀ v h', Qy v h' → ∃ ws, Keep h h' ws ∧ ∀ x ∈ ws, Safe Z EL vm h x) (hd : decode code pc = .ok (.invokestatic i, 3)) (w1 : (Cond.methodLink own i y).before a0 Z = true) (w2 : (Cond.static y).before a0 Z = true) (w3 : (Cond.initialized y.cls).before a0 Z = true) (w4 : (Cond.code y bytes mL rt).before a0 Z = true)
    (hy : y.cls ≠ "java/lang/invoke/MethodHandle" ∧ y.cls ≠ "java/lang/invoke/VarHandle") (hds : parseMethodDescriptor y.desc = some ⟨ps, rr⟩) (hl : as.length = ps.length) (hst : st = as.reverse ++ rest) (hsz : Ls.size = maxL)
    (hf : rm.frames + 1 ≤ R.frames) (hlo : (rest.map fun v => v.category).sum + (mL + 11) + rm.locals ≤ R.locals) (hk : k + rm.cells ≤ k') (hk' : k' ≤ R.cells) (hn : n + rm.slots ≤ n') (hn' : n' ≤ R.slots) (hp : pc + 3 = pc')
    (nxt : ∀ v h', Qy v h' → CHr Z EL vm h vm h' → RunW l Z EL n0 own code maxL ret nm R Q pc' Ls (v.toList ++ rest) h' vm k' n') : RunW l Z EL n0 own code maxL ret nm R Q pc Ls st h vm k n := by
  subst hp hst
  intro p e s m args below meth c T locs cells slots k0 hX X hS hk0 hR hE eT hF hc hss
  obtain ⟨hx, hZ, hown, hby, hml, -⟩ := id hX
  obtain ⟨v, vm₁, ⟨B, L', cc, ss⟩, -, X', ⟨Lc, hQ, l1, y1, z1⟩, stp⟩ := Jvm.LawKit.callS X hx (y := y) hown (mvT hZ w1) (mvT hZ w2) (mvT hZ w3) (mvT hZ w4) hy (backOf (W := (rest.map fun v => v.category).sum) (Q := fun v h L => Qy v h ∧ Fr n0 L) (hC []) hZ w4 w3 hf hlo) (g := mkF m pc Ls (as.reverse ++ rest)) rfl (hsz.trans hml.symm) (argsL := as) (rest := rest) (lenOf hds hl) rfl (by show 2 * 0 + _ ≤ _; omega) (hb hby hd) (fun _ _ => ⟨rfl, eT, (by show cells + rm.cells ≤ R.cells; omega), (by show slots + rm.slots ≤ R.slots; omega)⟩)
  dsimp only [Pt.U, Pt.locs, Pt.cells, Pt.slots] at X' l1 y1 z1 stp hQ
  subst l1 y1 z1
  obtain ⟨ws, K, hsw⟩ := hs v _ hQ.1
  have c1 := CHr.keep K hsw hR.1
  obtain ⟨s₂, v', L, g1, g2⟩ := nxt v _ hQ.1 c1 p e s m args below meth c B _ _ _ k0 hX X' hS (Nat.le_trans hk0 K.1) (hR.trans c1) hE rfl (Fr.app hF hQ.2) (by omega) (by omega)
  exact ⟨s₂, v', L, stp _ g1, g2⟩
theorem RunW.callSW {a0 a1 : Array Value} {sf : List Addr} {y : MethodName} {bytes : ByteArray} {mL : Nat} {rt : Option FieldType} {rm : Room} {as rest : List Value} {Qy : Option Value → Heap → Prop} {i : Nat} {ps : List FieldType} {rr : Option FieldType}
    (hC : ConW l Z EL n0 y bytes mL rt rm as.toArray h sf Qy) (hsf : ∀ x ∈ sf, Safe Z EL vm h x) (hEL : EW Z a1 EL) (hd : decode code pc = .ok (.invokestatic i, 3)) (w1 : (Cond.methodLink own i y).before a0 Z = true) (w2 : (Cond.static y).before a0 Z = true) (w3 : (Cond.initialized y.cls).before a0 Z = true) (w4 : (Cond.code y bytes mL rt).before a0 Z = true)
    (hy : y.cls ≠ "java/lang/invoke/MethodHandle" ∧ y.cls ≠ "java/lang/invoke/VarHandle") (hds : parseMethodDescriptor y.desc = some ⟨ps, rr⟩) (hl : as.length = ps.length) (hst : st = as.reverse ++ rest) (hsz : Ls.size = maxL)
    (hf : rm.frames + 1 ≤ R.frames) (hlo : (rest.map fun v => v.category).sum + (mL + 11) + rm.locals ≤ R.locals) (hk : k + rm.cells ≤ k') (hk' : k' ≤ R.cells) (hn : n + rm.slots ≤ n') (hn' : n' ≤ R.slots) (hp : pc + 3 = pc')
    (nxt : ∀ v h' vm', Qy v h' → CHr Z EL vm h vm' h' → RunW l Z EL n0 own code maxL ret nm R Q pc' Ls (v.toList ++ rest) h' vm' k' n') : RunW l Z EL n0 own code maxL ret nm R Q pc Ls st h vm k n := by
  subst hp hst
  intro p e s m args below meth c T locs cells slots k0 hX X hS hk0 hR hE eT hF hc hss
  obtain ⟨hx, hZ, hown, hby, hml, hrt, hlk, hnm⟩ := id hX
  obtain ⟨v, vm₁, ⟨B, L', cc, ss⟩, -, X', hS2, hgr, ⟨Lc, hQ, l1, y1, z1, c1⟩, stp⟩ := callSS X hx (y := y) hown (mvT hZ w1) (mvT hZ w2) (mvT hZ w3) (mvT hZ w4) hy (backW (W := (rest.map fun v => v.category).sum) (Q := fun v h L => Qy v h ∧ Fr n0 L) (hC []) hZ w4 w3 hf hlo hEL hR.1 hsf) (g := mkF m pc Ls (as.reverse ++ rest)) rfl (hsz.trans hml.symm) (argsL := as) (rest := rest) (lenOf hds hl) rfl (by show 2 * 0 + _ ≤ _; omega) (hb hby hd) (fun _ _ => ⟨rfl, eT, (by show cells + rm.cells ≤ R.cells; omega), (by show slots + rm.slots ≤ R.slots; omega)⟩)
  dsimp only [Pt.U, Pt.locs, Pt.cells, Pt.slots] at X' hS2 hgr l1 y1 z1 stp hQ c1
  subst l1 y1 z1
  have hZ2 : Z.Warmed39 B.vm := State.Warmed39.trans (t := s.setVm vm) hZ hS2.1
  obtain ⟨s₂, v', L, g1, g2⟩ := nxt v _ B.vm hQ.1 c1 p e s m args below meth c B _ _ _ B.heap.size ⟨hx, hZ2, (by rw [show (s.setVm B.vm).vm = B.vm from rfl, hS2.1.alike.findClass]; exact hown), hby, hml, hrt, hlk, hnm⟩ X' (hS.trans hS2 (by rw [← eT] at hk0; omega)) (Nat.le_refl _) (hR.trans c1) hE rfl (Fr.app hF hQ.2) (by omega) (by omega)
  exact ⟨s₂, v', L, stp.trans g1, g2⟩
theorem RunW.callV {a0 : Array Value} {C : String} {y z : MethodName} {bytes : ByteArray} {mL : Nat} {rt : Option FieldType} {rm : Room} {a : Addr} {as rest : List Value} {Qy : Option Value → Heap → Prop} {i : Nat} {ps : List FieldType} {rr : Option FieldType}
    (hC : Con l Z n0 z bytes mL rt rm (.ref a :: as).toArray h Qy) (hs : ∀ v h', Qy v h' → ∃ ws, Keep h h' ws ∧ ∀ x ∈ ws, Safe Z EL vm h x) (hX0 : Exa Z h a C) (hd : decode code pc = .ok (.invokevirtual i, 3)) (w1 : (Cond.methodLink own i y).before a0 Z = true) (w2 : (Cond.declares y).before a0 Z = true) (nf : ∀ (s : State), Z.Warmed39 s.vm → NotFace s y) (w3 : (Cond.selects C y z).before a0 Z = true) (w4 : (Cond.instanceMethod z).before a0 Z = true) (w5 : (Cond.initialized z.cls).before a0 Z = true) (w6 : (Cond.code z bytes mL rt).before a0 Z = true)
    (hy : y.cls ≠ "java/lang/invoke/MethodHandle" ∧ y.cls ≠ "java/lang/invoke/VarHandle") (hds : parseMethodDescriptor y.desc = some ⟨ps, rr⟩) (hl : as.length = ps.length) (hst : st = as.reverse ++ .ref a :: rest) (hsz : Ls.size = maxL)
    (hf : rm.frames + 1 ≤ R.frames) (hlo : (rest.map fun v => v.category).sum + (mL + 11) + rm.locals ≤ R.locals) (hk : k + rm.cells ≤ k') (hk' : k' ≤ R.cells) (hn : n + rm.slots ≤ n') (hn' : n' ≤ R.slots) (hp : pc + 3 = pc')
    (nxt : ∀ v h', Qy v h' → CHr Z EL vm h vm h' → RunW l Z EL n0 own code maxL ret nm R Q pc' Ls (v.toList ++ rest) h' vm k' n') : RunW l Z EL n0 own code maxL ret nm R Q pc Ls st h vm k n := by
  subst hp hst
  intro p e s m args below meth c T locs cells slots k0 hX X hS hk0 hR hE eT hF hc hss
  obtain ⟨hx, hZ, hown, hby, hml, -⟩ := id hX
  obtain ⟨cq, kq, qa, qb, qc⟩ := isOf hZ eT hX0
  obtain ⟨v, vm₁, ⟨B, L', cc, ss⟩, -, X', ⟨Lc, hQ, l1, y1, z1⟩, stp⟩ := X.virtualBack hx (y := y) (z := z) hown (mvT hZ w1) (mvT hZ w2) (nf (s.setVm vm) hZ) (mvT hZ w3) (mvT hZ w4) hy (backOf (W := (rest.map fun v => v.category).sum) (Q := fun v h L => Qy v h ∧ Fr n0 L) (hC []) hZ w6 w5 hf hlo) qa qc (g := mkF m pc Ls (as.reverse ++ .ref a :: rest)) rfl (hsz.trans hml.symm) (Steps.refl _) (argsL := as) (rest := rest) (lenOf hds hl) rfl (by show 2 * 0 + _ ≤ _; omega) (hb hby hd) (fun _ _ => ⟨rfl, eT, (by show cells + rm.cells ≤ R.cells; omega), (by show slots + rm.slots ≤ R.slots; omega)⟩)
  dsimp only [Pt.U, Pt.locs, Pt.cells, Pt.slots] at X' l1 y1 z1 stp hQ
  subst l1 y1 z1
  obtain ⟨ws, K, hsw⟩ := hs v _ hQ.1
  have c1 := CHr.keep K hsw hR.1
  obtain ⟨s₂, v', L, g1, g2⟩ := nxt v _ hQ.1 c1 p e s m args below meth c B _ _ _ k0 hX X' hS (Nat.le_trans hk0 K.1) (hR.trans c1) hE rfl (Fr.app hF hQ.2) (by omega) (by omega)
  exact ⟨s₂, v', L, stp.trans g1, g2⟩
theorem RunW.callVW {a0 a1 : Array Value} {sf : List Addr} {C : String} {y z : MethodName} {bytes : ByteArray} {mL : Nat} {rt : Option FieldType} {rm : Room} {a : Addr} {as rest : List Value} {Qy : Option Value → Heap → Prop} {i : Nat} {ps : List FieldType} {rr : Option FieldType}
    (hC : ConW l Z EL n0 z bytes mL rt rm (.ref a :: as).toArray h sf Qy) (hsf : ∀ x ∈ sf, Safe Z EL vm h x) (hEL : EW Z a1 EL) (hX0 : Exa Z h a C) (hd : decode code pc = .ok (.invokevirtual i, 3)) (w1 : (Cond.methodLink own i y).before a0 Z = true) (w2 : (Cond.declares y).before a0 Z = true) (nf : ∀ (s : State), Z.Warmed39 s.vm → NotFace s y) (w3 : (Cond.selects C y z).before a0 Z = true) (w4 : (Cond.instanceMethod z).before a0 Z = true) (w5 : (Cond.initialized z.cls).before a0 Z = true) (w6 : (Cond.code z bytes mL rt).before a0 Z = true)
    (hy : y.cls ≠ "java/lang/invoke/MethodHandle" ∧ y.cls ≠ "java/lang/invoke/VarHandle") (hds : parseMethodDescriptor y.desc = some ⟨ps, rr⟩) (hl : as.length = ps.length) (hst : st = as.reverse ++ .ref a :: rest) (hsz : Ls.size = maxL)
    (hf : rm.frames + 1 ≤ R.frames) (hlo : (rest.map fun v => v.category).sum + (mL + 11) + rm.locals ≤ R.locals) (hk : k + rm.cells ≤ k') (hk' : k' ≤ R.cells) (hn : n + rm.slots ≤ n') (hn' : n' ≤ R.slots) (hp : pc + 3 = pc')
    (nxt : ∀ v h' vm', Qy v h' → CHr Z EL vm h vm' h' → RunW l Z EL n0 own code maxL ret nm R Q pc' Ls (v.toList ++ rest) h' vm' k' n') : RunW l Z EL n0 own code maxL ret nm R Q pc Ls st h vm k n := by
  subst hp hst
  intro p e s m args below meth c T locs cells slots k0 hX X hS hk0 hR hE eT hF hc hss
  obtain ⟨hx, hZ, hown, hby, hml, hrt, hlk, hnm⟩ := id hX
  obtain ⟨cq, kq, qa, qb, qc⟩ := isOf hZ eT hX0
  obtain ⟨v, vm₁, ⟨B, L', cc, ss⟩, -, X', hS2, hgr, ⟨Lc, hQ, l1, y1, z1, c1⟩, stp⟩ := X.virtualBackS hx (y := y) (z := z) hown (mvT hZ w1) (mvT hZ w2) (nf (s.setVm vm) hZ) (mvT hZ w3) (mvT hZ w4) hy (backW (W := (rest.map fun v => v.category).sum) (Q := fun v h L => Qy v h ∧ Fr n0 L) (hC []) hZ w6 w5 hf hlo hEL hR.1 hsf) qa qc (g := mkF m pc Ls (as.reverse ++ .ref a :: rest)) rfl (hsz.trans hml.symm) (Steps.refl _) (argsL := as) (rest := rest) (lenOf hds hl) rfl (by show 2 * 0 + _ ≤ _; omega) (hb hby hd) (fun _ _ => ⟨rfl, eT, (by show cells + rm.cells ≤ R.cells; omega), (by show slots + rm.slots ≤ R.slots; omega)⟩)
  dsimp only [Pt.U, Pt.locs, Pt.cells, Pt.slots] at X' hS2 hgr l1 y1 z1 stp hQ c1
  subst l1 y1 z1
  have hZ2 : Z.Warmed39 B.vm := State.Warmed39.trans (t := s.setVm vm) hZ hS2.1
  obtain ⟨s₂, v', L, g1, g2⟩ := nxt v _ B.vm hQ.1 c1 p e s m args below meth c B _ _ _ B.heap.size ⟨hx, hZ2, (by rw [show (s.setVm B.vm).vm = B.vm from rfl, hS2.1.alike.findClass]; exact hown), hby, hml, hrt, hlk, hnm⟩ X' (hS.trans hS2 (by rw [← eT] at hk0; omega)) (Nat.le_refl _) (hR.trans c1) hE rfl (Fr.app hF hQ.2) (by omega) (by omega)
  exact ⟨s₂, v', L, stp.trans g1, g2⟩
theorem RunW.callN {a0 : Array Value} {y : MethodName} {bytes : ByteArray} {mL : Nat} {rt : Option FieldType} {rm : Room} {a : Addr} {as rest : List Value} {Qy : Option Value → Heap → Prop} {i : Nat} {ps : List FieldType} {rr : Option FieldType}
    (hC : Con l Z n0 y bytes mL rt rm (.ref a :: as).toArray h Qy) (hs : ∀ v h', Qy v h' → ∃ ws, Keep h h' ws ∧ ∀ x ∈ ws, Safe Z EL vm h x) (hrt : rt = none) (hy1 : y.name = "<init>") (hd : decode code pc = .ok (.invokespecial i, 3)) (w1 : (Cond.methodLink own i y).before a0 Z = true) (w2 : (Cond.instanceMethod y).before a0 Z = true) (w3 : (Cond.initialized y.cls).before a0 Z = true) (w4 : (Cond.code y bytes mL rt).before a0 Z = true)
    (hy : y.cls ≠ "java/lang/invoke/MethodHandle" ∧ y.cls ≠ "java/lang/invoke/VarHandle") (hds : parseMethodDescriptor y.desc = some ⟨ps, rr⟩) (hl : as.length = ps.length) (hst : st = as.reverse ++ .ref a :: rest) (hsz : Ls.size = maxL)
    (hf : rm.frames + 1 ≤ R.frames) (hlo : (rest.map fun v => v.category).sum + (mL + 11) + rm.locals ≤ R.locals) (hk : k + rm.cells ≤ k') (hk' : k' ≤ R.cells) (hn : n + rm.slots ≤ n') (hn' : n' ≤ R.slots) (hp : pc + 3 = pc')
    (nxt : ∀ v h', Qy v h' → CHr Z EL vm h vm h' → RunW l Z EL n0 own code maxL ret nm R Q pc' Ls (v.toList ++ rest) h' vm k' n') : RunW l Z EL n0 own code maxL ret nm R Q pc Ls st h vm k n := by
  subst hp hst
  intro p e s m args below meth c T locs cells slots k0 hX X hS hk0 hR hE eT hF hc hss
  obtain ⟨hx, hZ, hown, hby, hml, -⟩ := id hX
  subst hrt
  obtain ⟨v, vm₁, ⟨B, L', cc, ss⟩, -, X', ⟨Lc, hQ, l1, y1, z1⟩, stp⟩ := X.specialBack hx (y := y) hy1 hown (mvT hZ w1) (mvT hZ w2) (mvT hZ w4) hy (backOf (W := (rest.map fun v => v.category).sum) (Q := fun v h L => Qy v h ∧ Fr n0 L) (hC []) hZ w4 w3 hf hlo) (g := mkF m pc Ls (as.reverse ++ .ref a :: rest)) rfl (hsz.trans hml.symm) (Steps.refl _) (a := a) (argsL := as) (rest := rest) (lenOf hds hl) rfl (by show 2 * 0 + _ ≤ _; omega) (hb hby hd) (fun _ _ => ⟨rfl, eT, (by show cells + rm.cells ≤ R.cells; omega), (by show slots + rm.slots ≤ R.slots; omega)⟩)
  dsimp only [Pt.U, Pt.locs, Pt.cells, Pt.slots] at X' l1 y1 z1 stp hQ
  subst l1 y1 z1
  obtain ⟨ws, K, hsw⟩ := hs v _ hQ.1
  have c1 := CHr.keep K hsw hR.1
  obtain ⟨s₂, v', L, g1, g2⟩ := nxt v _ hQ.1 c1 p e s m args below meth c B _ _ _ k0 hX X' hS (Nat.le_trans hk0 K.1) (hR.trans c1) hE rfl (Fr.app hF hQ.2) (by omega) (by omega)
  exact ⟨s₂, v', L, stp.trans g1, g2⟩
theorem RunW.callNW {a0 a1 : Array Value} {sf : List Addr} {y : MethodName} {bytes : ByteArray} {mL : Nat} {rt : Option FieldType} {rm : Room} {a : Addr} {as rest : List Value} {Qy : Option Value → Heap → Prop} {i : Nat} {ps : List FieldType} {rr : Option FieldType}
    (hC : ConW l Z EL n0 y bytes mL rt rm (.ref a :: as).toArray h sf Qy) (hsf : ∀ x ∈ sf, Safe Z EL vm h x) (hEL : EW Z a1 EL) (hrt : rt = none) (hy1 : y.name = "<init>") (hd : decode code pc = .ok (.invokespecial i, 3)) (w1 : (Cond.methodLink own i y).before a0 Z = true) (w2 : (Cond.instanceMethod y).before a0 Z = true) (w3 : (Cond.initialized y.cls).before a0 Z = true) (w4 : (Cond.code y bytes mL rt).before a0 Z = true)
    (hy : y.cls ≠ "java/lang/invoke/MethodHandle" ∧ y.cls ≠ "java/lang/invoke/VarHandle") (hds : parseMethodDescriptor y.desc = some ⟨ps, rr⟩) (hl : as.length = ps.length) (hst : st = as.reverse ++ .ref a :: rest) (hsz : Ls.size = maxL)
    (hf : rm.frames + 1 ≤ R.frames) (hlo : (rest.map fun v => v.category).sum + (mL + 11) + rm.locals ≤ R.locals) (hk : k + rm.cells ≤ k') (hk' : k' ≤ R.cells) (hn : n + rm.slots ≤ n') (hn' : n' ≤ R.slots) (hp : pc + 3 = pc')
    (nxt : ∀ v h' vm', Qy v h' → CHr Z EL vm h vm' h' → RunW l Z EL n0 own code maxL ret nm R Q pc' Ls (v.toList ++ rest) h' vm' k' n') : RunW l Z EL n0 own code maxL ret nm R Q pc Ls st h vm k n := by
  subst hp hst
  intro p e s m args below meth c T locs cells slots k0 hX X hS hk0 hR hE eT hF hc hss
  obtain ⟨hx, hZ, hown, hby, hml, hrtt, hlk, hnm⟩ := id hX
  subst hrt
  obtain ⟨v, vm₁, ⟨B, L', cc, ss⟩, -, X', hS2, hgr, ⟨Lc, hQ, l1, y1, z1, c1⟩, stp⟩ := X.specialBackS hx (y := y) hy1 hown (mvT hZ w1) (mvT hZ w2) (mvT hZ w4) hy (backW (W := (rest.map fun v => v.category).sum) (Q := fun v h L => Qy v h ∧ Fr n0 L) (hC []) hZ w4 w3 hf hlo hEL hR.1 hsf) (g := mkF m pc Ls (as.reverse ++ .ref a :: rest)) rfl (hsz.trans hml.symm) (Steps.refl _) (a := a) (argsL := as) (rest := rest) (lenOf hds hl) rfl (by show 2 * 0 + _ ≤ _; omega) (hb hby hd) (fun _ _ => ⟨rfl, eT, (by show cells + rm.cells ≤ R.cells; omega), (by show slots + rm.slots ≤ R.slots; omega)⟩)
  dsimp only [Pt.U, Pt.locs, Pt.cells, Pt.slots] at X' hS2 hgr l1 y1 z1 stp hQ c1
  subst l1 y1 z1
  have hZ2 : Z.Warmed39 B.vm := State.Warmed39.trans (t := s.setVm vm) hZ hS2.1
  obtain ⟨s₂, v', L, g1, g2⟩ := nxt v _ B.vm hQ.1 c1 p e s m args below meth c B _ _ _ B.heap.size ⟨hx, hZ2, (by rw [show (s.setVm B.vm).vm = B.vm from rfl, hS2.1.alike.findClass]; exact hown), hby, hml, hrtt, hlk, hnm⟩ X' (hS.trans hS2 (by rw [← eT] at hk0; omega)) (Nat.le_refl _) (hR.trans c1) hE rfl (Fr.app hF hQ.2) (by omega) (by omega)
  exact ⟨s₂, v', L, stp.trans g1, g2⟩
theorem safeA {Z : State} {EL : List (String × Nat)} {vm : Vm} {h : Heap} {a : Addr} {ty : FieldType} {vs : List Value} (hal : Z.vm.Alike vm) (A : Ary Z h a ty vs) (ht : ty ≠ .byte) : Safe Z EL vm h a := by obtain ⟨cl, A1, -⟩ := A; exact Safe.arr hal A1 ht
/-- ldc of a String constant whose text is known -/
theorem RunW.ldcT {a0 : Array Value} {i len : Nat} {text : String} {bs : List Value} {z : Int32} (hd : decode code pc = .ok (.ldc i, 2)) (w : (Cond.stringLink own i text).before a0 Z = true) (wS : ∀ a ∈ Bundle.stringAtoms, a.before a0 Z = true) (hEL : EW Z a0 EL) (hmem : (own, i) ∈ EL)
    (ht : (∀ c ∈ text.toList, c.toNat < 256) ∧ text.toList.map (fun c => Value.int (Jvm.Lit.byteI c.toNat.toUInt16)) = bs) (hz : z.toInt = (bs.length : Int)) (hln : 4 * text.toList.length ≤ len) (hbig : len ≤ 536870912) (hk : k + 2 ≤ k') (hk' : k' ≤ R.cells) (hn : n + (len + 4) ≤ n') (hn' : n' ≤ R.slots) (hp : pc + 2 = pc')
    (nxt : ∀ h' vm' a b, Ext h h' → CHr Z EL vm h vm' h' → Exa Z h' a "java/lang/String" → Fld Z h' a "java/lang/String" "coder" "B" (.int 0) → Fld Z h' a "java/lang/String" "value" "[B" (.ref b) → Ary Z h' b .byte bs → (∀ x, Safe Z EL vm' h' x → x ≠ a ∧ x ≠ b) → RunW l Z EL n0 own code maxL ret nm R Q pc' Ls (.ref a :: st) h' vm' k' n') : RunW l Z EL n0 own code maxL ret nm R Q pc Ls st h vm k n := by
  subst hp
  intro p e s m args below meth c T locs cells slots k0 hX X hS hk0 hR hE eT hF hc hss
  obtain ⟨hx, hZ, hown, hby, hml, hrt, hlk, hnm⟩ := id hX
  have e1 : z.toNatClampNeg = bs.length := by have : z.toNatClampNeg = z.toInt.toNat := rfl; rw [this, hz]; rfl
  have e2 : ¬ z < 0 := by rw [Int32.lt_iff_toInt_lt, hz]; have : (0 : Int32).toInt = 0 := rfl; omega
  obtain ⟨a, T', h', k1, b, kc, X', e', E, hS2, hk1, hZ2, hown2, E1, F1, F2, A, -, -, c1, -, hsf, stp⟩ := ldcCH X hx hZ hown w wS eT hS hk0 hEL hmem hR.1 ht e2 e1 (g := mkF m pc Ls st) rfl (hb hby hd) hln hbig (by omega) (by omega)
  obtain ⟨s₂, v', L, g1, g2⟩ := nxt h' T'.vm a b E c1 E1 F1 F2 (Ary.ofArv A hz) hsf p e s m args below meth c T' _ _ _ k1 ⟨hx, hZ2, hown2, hby, hml, hrt, hlk, hnm⟩ X' hS2 hk1 (hR.trans c1) hE e' hF (by omega) (by omega)
  exact ⟨s₂, v', L, stp _ g1, g2⟩
end WalkW
end Jvm.GoKit
namespace Jvm.Pilot.@@N@@
open Jvm Jvm.ClassFile Sem Op Lib Jvm.Free Jvm.Stand Jvm.LawKit Jvm.RoadKit Jvm.GoKit Bundle Jvm.Pilot.@@N@@.Jvm.D
theorem own_ofn {i : Nat} (h : i < 2 ^ 31) : (Int32.ofNat i).toInt = (i : Int) := toInt_of rfl h
theorem own_inc (i : Nat) : Int32.ofNat i + (1 : Int32) = Int32.ofNat (i + 1) := (inc_ofNat i).symm
theorem own_lt {i j : Nat} (hi : i < 2 ^ 31) (hj : j < 2 ^ 31) : Int32.ofNat i < Int32.ofNat j ↔ i < j := by rw [Int32.lt_iff_toInt_lt, own_ofn hi, own_ofn hj]; omega
theorem own_z : (0 : Int32).toInt = 0 := rfl
theorem own_eqi {x y : Int32} (h : x.toInt = y.toInt) : x = y := Int32.toInt_inj.mp h
def own_isp (p1 : Int32) : Int32 := (if p1 = (32 : Int32) then (1 : Int32) else (if p1 = (9 : Int32) then (1 : Int32) else (if p1 = (13 : Int32) then (1 : Int32) else (if p1 = (10 : Int32) then (1 : Int32) else (0 : Int32)))))
theorem d16_0 : decode prog_32_method_11_code 0 = .ok (.iload_n 0, 1) := by decide +kernel
theorem d16_1 : decode prog_32_method_11_code 1 = .ok (.bipush 32, 2) := by decide +kernel
theorem d16_3 : decode prog_32_method_11_code 3 = .ok (.if_icmp .eq 21, 3) := by decide +kernel
theorem d16_6 : decode prog_32_method_11_code 6 = .ok (.iload_n 0, 1) := by decide +kernel
theorem d16_7 : decode prog_32_method_11_code 7 = .ok (.bipush 9, 2) := by decide +kernel
theorem d16_9 : decode prog_32_method_11_code 9 = .ok (.if_icmp .eq 15, 3) := by decide +kernel
theorem d16_12 : decode prog_32_method_11_code 12 = .ok (.iload_n 0, 1) := by decide +kernel
theorem d16_13 : decode prog_32_method_11_code 13 = .ok (.bipush 13, 2) := by decide +kernel
theorem d16_15 : decode prog_32_method_11_code 15 = .ok (.if_icmp .eq 9, 3) := by decide +kernel
theorem d16_18 : decode prog_32_method_11_code 18 = .ok (.iload_n 0, 1) := by decide +kernel
theorem d16_19 : decode prog_32_method_11_code 19 = .ok (.bipush 10, 2) := by decide +kernel
theorem d16_21 : decode prog_32_method_11_code 21 = .ok (.if_icmp .ne 7, 3) := by decide +kernel
theorem d16_24 : decode prog_32_method_11_code 24 = .ok (.iconst 1, 1) := by decide +kernel
theorem d16_25 : decode prog_32_method_11_code 25 = .ok (.goto 4, 3) := by decide +kernel
theorem d16_28 : decode prog_32_method_11_code 28 = .ok (.iconst 0, 1) := by decide +kernel
theorem d16_29 : decode prog_32_method_11_code 29 = .ok (.ireturn, 1) := by decide +kernel
theorem pn_16 : plainFor (⟨"com/example/mappa/mappa/core/FieldText", "isXmlSpace", "(C)Z"⟩ : MethodName) = true := plainFor_of_name (by first | (simp [plainName, overriddenIn]; done) | decide +kernel)
theorem ef_con_own_isp (m : MethodId) (p1 : Int32)  : entryFrame m #[(.int p1)] 1 = mkF m 0 #[.val (.int p1)] [] := by first | (simp [entryFrame, mkF, argsToLocals, Value.category]; done) | rfl
set_option maxRecDepth 65536 in
set_option maxHeartbeats 40000000 in
theorem con_own_isp (l : Launch) (Z : State) (a0 : Array Value) (hw : ∀ d ∈ tables_1, d.before a0 Z = true) (n0 : Nat) (h0 : Heap) (Z0 : n0 ≤ h0.size) (p1 : Int32)  :
    Con l Z n0 (⟨"com/example/mappa/mappa/core/FieldText", "isXmlSpace", "(C)Z"⟩ : MethodName) prog_32_method_11_code 1 (some .boolean) ({ frames := 0, cells := 0, slots := 0, locals := 0 } : Room) #[(.int p1)] h0 (Val (PV (.int (own_isp p1)) h0)) := by
  refine Con.of_run pn_16 (fun m => ef_con_own_isp m p1 ) ?_
  refine Run.iloadN d16_0 rfl (pc' := 1) rfl ?_
  refine Run.bipush (32 : Int32) d16_1 (by decide) (pc' := 3) rfl ?_
  refine Run.icmp_eq d16_3 (by decide) (pc' := 24) (by decide) (pa := 6) rfl (fun hc3 => ?_) (fun hc3 => ?_)
  · -- pc 3 taken: p1 = (32 : Int32)
    refine Run.iconst (1 : Int32) d16_24 (by decide) (pc' := 25) rfl ?_
    refine Run.goto d16_25 (by decide) (pc' := 29) (by decide) ?_
    exact Run.nreturn d16_29 (ty := .boolean) rfl (by simp) (by decide) (by decide) ⟨_, rfl, congrArg Value.int (by unfold own_isp; rw [if_pos hc3] <;> rfl), rfl⟩
  · -- pc 3 not taken: ¬ p1 = (32 : Int32)
    refine Run.iloadN d16_6 rfl (pc' := 7) rfl ?_
    refine Run.bipush (9 : Int32) d16_7 (by decide) (pc' := 9) rfl ?_
    refine Run.icmp_eq d16_9 (by decide) (pc' := 24) (by decide) (pa := 12) rfl (fun hc9 => ?_) (fun hc9 => ?_)
    · -- pc 9 taken: p1 = (9 : Int32)
      refine Run.iconst (1 : Int32) d16_24 (by decide) (pc' := 25) rfl ?_
      refine Run.goto d16_25 (by decide) (pc' := 29) (by decide) ?_
      exact Run.nreturn d16_29 (ty := .boolean) rfl (by simp) (by decide) (by decide) ⟨_, rfl, congrArg Value.int (by unfold own_isp; rw [if_neg hc3, if_pos hc9] <;> rfl), rfl⟩
    · -- pc 9 not taken: ¬ p1 = (9 : Int32)
      refine Run.iloadN d16_12 rfl (pc' := 13) rfl ?_
      refine Run.bipush (13 : Int32) d16_13 (by decide) (pc' := 15) rfl ?_
      refine Run.icmp_eq d16_15 (by decide) (pc' := 24) (by decide) (pa := 18) rfl (fun hc15 => ?_) (fun hc15 => ?_)
      · -- pc 15 taken: p1 = (13 : Int32)
        refine Run.iconst (1 : Int32) d16_24 (by decide) (pc' := 25) rfl ?_
        refine Run.goto d16_25 (by decide) (pc' := 29) (by decide) ?_
        exact Run.nreturn d16_29 (ty := .boolean) rfl (by simp) (by decide) (by decide) ⟨_, rfl, congrArg Value.int (by unfold own_isp; rw [if_neg hc3, if_neg hc9, if_pos hc15] <;> rfl), rfl⟩
      · -- pc 15 not taken: ¬ p1 = (13 : Int32)
        refine Run.iloadN d16_18 rfl (pc' := 19) rfl ?_
        refine Run.bipush (10 : Int32) d16_19 (by decide) (pc' := 21) rfl ?_
        refine Run.icmp_ne d16_21 (by decide) (pc' := 28) (by decide) (pa := 24) rfl (fun hc21 => ?_) (fun hc21 => ?_)
        · -- pc 21 taken: ¬ p1 = (10 : Int32)
          refine Run.iconst (0 : Int32) d16_28 (by decide) (pc' := 29) rfl ?_
          exact Run.nreturn d16_29 (ty := .boolean) rfl (by simp) (by decide) (by decide) ⟨_, rfl, congrArg Value.int (by unfold own_isp; rw [if_neg hc3, if_neg hc9, if_neg hc15, if_neg hc21] <;> rfl), rfl⟩
        · -- pc 21 not taken: p1 = (10 : Int32)
          refine Run.iconst (1 : Int32) d16_24 (by decide) (pc' := 25) rfl ?_
          refine Run.goto d16_25 (by decide) (pc' := 29) (by decide) ?_
          exact Run.nreturn d16_29 (ty := .boolean) rfl (by simp) (by decide) (by decide) ⟨_, rfl, congrArg Value.int (by unfold own_isp; rw [if_neg hc3, if_neg hc9, if_neg hc15, if_pos hc21] <;> rfl), rfl⟩
def own_min (p1 : Int32) (p2 : Int32) : Int32 := (if p2 < p1 then p2 else p1)
theorem d7_0 : decode jdk_29_method_69_code 0 = .ok (.iload_n 0, 1) := by decide +kernel
theorem d7_1 : decode jdk_29_method_69_code 1 = .ok (.iload_n 1, 1) := by decide +kernel
theorem d7_2 : decode jdk_29_method_69_code 2 = .ok (.if_icmp .gt 7, 3) := by decide +kernel
theorem d7_5 : decode jdk_29_method_69_code 5 = .ok (.iload_n 0, 1) := by decide +kernel
theorem d7_6 : decode jdk_29_method_69_code 6 = .ok (.goto 4, 3) := by decide +kernel
theorem d7_9 : decode jdk_29_method_69_code 9 = .ok (.iload_n 1, 1) := by decide +kernel
theorem d7_10 : decode jdk_29_method_69_code 10 = .ok (.ireturn, 1) := by decide +kernel
theorem pn_7 : plainFor (⟨"java/lang/Math", "min", "(II)I"⟩ : MethodName) = true := by decide +kernel
theorem ef_con_own_min (m : MethodId) (p1 : Int32) (p2 : Int32)  : entryFrame m #[(.int p1), (.int p2)] 2 = mkF m 0 #[.val (.int p1), .val (.int p2)] [] := by first | (simp [entryFrame, mkF, argsToLocals, Value.category]; done) | rfl
set_option maxRecDepth 65536 in
set_option maxHeartbeats 40000000 in
theorem con_own_min (l : Launch) (Z : State) (a0 : Array Value) (hw : ∀ d ∈ tables_1, d.before a0 Z = true) (n0 : Nat) (h0 : Heap) (Z0 : n0 ≤ h0.size) (p1 : Int32) (p2 : Int32)  :
    Con l Z n0 (⟨"java/lang/Math", "min", "(II)I"⟩ : MethodName) jdk_29_method_69_code 2 (some .int) ({ frames := 0, cells := 0, slots := 0, locals := 0 } : Room) #[(.int p1), (.int p2)] h0 (Val (PV (.int (own_min p1 p2)) h0)) := by
  refine Con.of_run pn_7 (fun m => ef_con_own_min m p1 p2 ) ?_
  refine Run.iloadN d7_0 rfl (pc' := 1) rfl ?_
  refine Run.iloadN d7_1 rfl (pc' := 2) rfl ?_
  refine Run.icmp_gt d7_2 (by decide) (pc' := 9) (by decide) (pa := 5) rfl (fun hc2 => ?_) (fun hc2 => ?_)
  · -- pc 2 taken: p2 < p1
    refine Run.iloadN d7_9 rfl (pc' := 10) rfl ?_
    exact Run.ireturn d7_10 rfl (by decide) (by decide) ⟨_, rfl, congrArg Value.int (by unfold own_min; rw [if_pos hc2] <;> rfl), rfl⟩
  · -- pc 2 not taken: ¬ p2 < p1
    refine Run.iloadN d7_5 rfl (pc' := 6) rfl ?_
    refine Run.goto d7_6 (by decide) (pc' := 10) (by decide) ?_
    exact Run.ireturn d7_10 rfl (by decide) (by decide) ⟨_, rfl, congrArg Value.int (by unfold own_min; rw [if_neg hc2] <;> rfl), rfl⟩
theorem d4_0 : decode prog_32_method_2_code 0 = .ok (.aload_n 0, 1) := by decide +kernel
theorem d4_1 : decode prog_32_method_2_code 1 = .ok (.iload_n 1, 1) := by decide +kernel
theorem d4_2 : decode prog_32_method_2_code 2 = .ok (.putfield 17, 3) := by decide +kernel
theorem d4_5 : decode prog_32_method_2_code 5 = .ok (.aload_n 0, 1) := by decide +kernel
theorem d4_6 : decode prog_32_method_2_code 6 = .ok (.iload_n 2, 1) := by decide +kernel
theorem d4_7 : decode prog_32_method_2_code 7 = .ok (.putfield 21, 3) := by decide +kernel
theorem d4_10 : decode prog_32_method_2_code 10 = .ok (.aload_n 0, 1) := by decide +kernel
theorem d4_11 : decode prog_32_method_2_code 11 = .ok (.iload_n 3, 1) := by decide +kernel
theorem d4_12 : decode prog_32_method_2_code 12 = .ok (.putfield 24, 3) := by decide +kernel
theorem d4_15 : decode prog_32_method_2_code 15 = .ok (.aload_n 0, 1) := by decide +kernel
theorem d4_16 : decode prog_32_method_2_code 16 = .ok (.iconst 0, 1) := by decide +kernel
theorem d4_17 : decode prog_32_method_2_code 17 = .ok (.putfield 27, 3) := by decide +kernel
theorem d4_20 : decode prog_32_method_2_code 20 = .ok (.aload_n 0, 1) := by decide +kernel
theorem d4_21 : decode prog_32_method_2_code 21 = .ok (.iconst 0, 1) := by decide +kernel
theorem d4_22 : decode prog_32_method_2_code 22 = .ok (.putfield 30, 3) := by decide +kernel
theorem d4_25 : decode prog_32_method_2_code 25 = .ok (.aload_n 0, 1) := by decide +kernel
theorem d4_26 : decode prog_32_method_2_code 26 = .ok (.areturn, 1) := by decide +kernel
theorem pn_4 : plainFor (⟨"com/example/mappa/mappa/core/FieldText", "restart", "(III)Lcom/example/mappa/mappa/core/FieldText;"⟩ : MethodName) = true := plainFor_of_name (by first | (simp [plainName, overriddenIn]; done) | decide +kernel)
theorem ef_con_rst (m : MethodId) (f : Addr) (p2 : Int32) (p3 : Int32) (p4 : Int32) (ul : Value) (uc : Value) (um : Value) (ut : Value) (uk : Value) (tx : Value)  : entryFrame m #[(.ref f), (.int p2), (.int p3), (.int p4)] 4 = mkF m 0 #[.val (.ref f), .val (.int p2), .val (.int p3), .val (.int p4)] [] := by first | (simp [entryFrame, mkF, argsToLocals, Value.category]; done) | rfl
set_option maxRecDepth 65536 in
set_option maxHeartbeats 40000000 in
theorem con_rst (l : Launch) (Z : State) (a0 : Array Value) (hw : ∀ d ∈ tables_1, d.before a0 Z = true) (n0 : Nat) (h0 : Heap) (Z0 : n0 ≤ h0.size) (f : Addr) (p2 : Int32) (p3 : Int32) (p4 : Int32) (ul : Value) (uc : Value) (um : Value) (ut : Value) (uk : Value) (tx : Value) (E1 : Exa Z h0 f "com/example/mappa/mappa/core/FieldText") (g1 : n0 ≤ f) (Ful : Fld Z h0 f "com/example/mappa/mappa/core/FieldText" "line" "I" ul) (Fuc : Fld Z h0 f "com/example/mappa/mappa/core/FieldText" "column" "I" uc) (Fum : Fld Z h0 f "com/example/mappa/mappa/core/FieldText" "max" "I" um) (Fut : Fld Z h0 f "com/example/mappa/mappa/core/FieldText" "textLength" "I" ut) (Fuk : Fld Z h0 f "com/example/mappa/mappa/core/FieldText" "cut" "Z" uk) (Ftx : Fld Z h0 f "com/example/mappa/mappa/core/FieldText" "text" "[C" tx) :
    Con l Z n0 (⟨"com/example/mappa/mappa/core/FieldText", "restart", "(III)Lcom/example/mappa/mappa/core/FieldText;"⟩ : MethodName) prog_32_method_2_code 4 (some (.object "com/example/mappa/mappa/core/FieldText")) ({ frames := 0, cells := 0, slots := 0, locals := 0 } : Room) #[(.ref f), (.int p2), (.int p3), (.int p4)] h0 (Val fun w h' => w = .ref f ∧ Keep h0 h' [f] ∧ Fld Z h' f "com/example/mappa/mappa/core/FieldText" "line" "I" (.int p2) ∧ Fld Z h' f "com/example/mappa/mappa/core/FieldText" "column" "I" (.int p3) ∧ Fld Z h' f "com/example/mappa/mappa/core/FieldText" "max" "I" (.int p4) ∧ Fld Z h' f "com/example/mappa/mappa/core/FieldText" "textLength" "I" (.int (0 : Int32)) ∧ Fld Z h' f "com/example/mappa/mappa/core/FieldText" "cut" "Z" (.int (0 : Int32)) ∧ Fld Z h' f "com/example/mappa/mappa/core/FieldText" "text" "[C" tx) := by
  refine Con.of_run pn_4 (fun m => ef_con_rst m f p2 p3 p4 ul uc um ut uk tx ) ?_
  refine Run.aloadN d4_0 rfl rfl (pc' := 1) rfl ?_
  refine Run.iloadN d4_1 rfl (pc' := 2) rfl ?_
  refine Run.putF d4_2 (host := "") (Or.inl (hw _ (List.mem_of_getElem? (i := 21) rfl))) Via.refl Ful E1 (Or.inl (hw _ (List.mem_of_getElem? (i := 22) rfl))) (hw _ (List.mem_of_getElem? (i := 6) rfl)) (ty := .int) (by decide) rfl rfl g1 (pc' := 5) rfl ?_
  intro h11 W11
  have Fw11 := Ful.same W11
  have E_f_11 := E1.wr W11
  have F_f_column_11 := Fuc.other W11 (Or.inr (slot_ne (Or.inl (hw _ (List.mem_of_getElem? (i := 24) rfl))) (Or.inl (hw _ (List.mem_of_getElem? (i := 22) rfl))) (by decide) (t := .int) (t' := .int) (by decide) (by decide)))
  have F_f_max_11 := Fum.other W11 (Or.inr (slot_ne (Or.inl (hw _ (List.mem_of_getElem? (i := 26) rfl))) (Or.inl (hw _ (List.mem_of_getElem? (i := 22) rfl))) (by decide) (t := .int) (t' := .int) (by decide) (by decide)))
  have F_f_textLength_11 := Fut.other W11 (Or.inr (slot_ne (Or.inl (hw _ (List.mem_of_getElem? (i := 28) rfl))) (Or.inl (hw _ (List.mem_of_getElem? (i := 22) rfl))) (by decide) (t := .int) (t' := .int) (by decide) (by decide)))
  have F_f_cut_11 := Fuk.other W11 (Or.inr (slot_ne (Or.inl (hw _ (List.mem_of_getElem? (i := 30) rfl))) (Or.inl (hw _ (List.mem_of_getElem? (i := 22) rfl))) (by decide) (t := .boolean) (t' := .int) (by decide) (by decide)))
  have F_f_text_11 := Ftx.other W11 (Or.inr (slot_ne (Or.inl (hw _ (List.mem_of_getElem? (i := 15) rfl))) (Or.inl (hw _ (List.mem_of_getElem? (i := 22) rfl))) (by decide) (t := (.array .char)) (t' := .int) (by decide) (by decide)))
  have sz11 : n0 ≤ h11.size := by rw [W11.size]; exact Z0
  have kp11 := Keep.wr (Keep.refl h0 [f]) W11 (Or.inl (List.mem_of_getElem? (i := 0) rfl))
  refine Run.aloadN d4_5 rfl rfl (pc' := 6) rfl ?_
  refine Run.iloadN d4_6 rfl (pc' := 7) rfl ?_
  refine Run.putF d4_7 (host := "") (Or.inl (hw _ (List.mem_of_getElem? (i := 23) rfl))) Via.refl F_f_column_11 E_f_11 (Or.inl (hw _ (List.mem_of_getElem? (i := 24) rfl))) (hw _ (List.mem_of_getElem? (i := 6) rfl)) (ty := .int) (by decide) rfl rfl g1 (pc' := 10) rfl ?_
  intro h12 W12
  have Fw12 := F_f_column_11.same W12
  have E_f_12 := E_f_11.wr W12
  have F_f_max_12 := F_f_max_11.other W12 (Or.inr (slot_ne (Or.inl (hw _ (List.mem_of_getElem? (i := 26) rfl))) (Or.inl (hw _ (List.mem_of_getElem? (i := 24) rfl))) (by decide) (t := .int) (t' := .int) (by decide) (by decide)))
  have F_f_textLength_12 := F_f_textLength_11.other W12 (Or.inr (slot_ne (Or.inl (hw _ (List.mem_of_getElem? (i := 28) rfl))) (Or.inl (hw _ (List.mem_of_getElem? (i := 24) rfl))) (by decide) (t := .int) (t' := .int) (by decide) (by decide)))
  have F_f_cut_12 := F_f_cut_11.other W12 (Or.inr (slot_ne (Or.inl (hw _ (List.mem_of_getElem? (i := 30) rfl))) (Or.inl (hw _ (List.mem_of_getElem? (i := 24) rfl))) (by decide) (t := .boolean) (t' := .int) (by decide) (by decide)))
  have F_f_text_12 := F_f_text_11.other W12 (Or.inr (slot_ne (Or.inl (hw _ (List.mem_of_getElem? (i := 15) rfl))) (Or.inl (hw _ (List.mem_of_getElem? (i := 24) rfl))) (by decide) (t := (.array .char)) (t' := .int) (by decide) (by decide)))
  have F_f_line_12 := Fw11.other W12 (Or.inr (slot_ne (Or.inl (hw _ (List.mem_of_getElem? (i := 22) rfl))) (Or.inl (hw _ (List.mem_of_getElem? (i := 24) rfl))) (by decide) (t := .int) (t' := .int) (by decide) (by decide)))
  have sz12 : n0 ≤ h12.size := by rw [W12.size]; exact sz11
  have kp12 := Keep.wr kp11 W12 (Or.inl (List.mem_of_getElem? (i := 0) rfl))
  refine Run.aloadN d4_10 rfl rfl (pc' := 11) rfl ?_
  refine Run.iloadN d4_11 rfl (pc' := 12) rfl ?_
  refine Run.putF d4_12 (host := "") (Or.inl (hw _ (List.mem_of_getElem? (i := 25) rfl))) Via.refl F_f_max_12 E_f_12 (Or.inl (hw _ (List.mem_of_getElem? (i := 26) rfl))) (hw _ (List.mem_of_getElem? (i := 6) rfl)) (ty := .int) (by decide) rfl rfl g1 (pc' := 15) rfl ?_
  intro h13 W13
  have Fw13 := F_f_max_12.same W13
  have E_f_13 := E_f_12.wr W13
  have F_f_textLength_13 := F_f_textLength_12.other W13 (Or.inr (slot_ne (Or.inl (hw _ (List.mem_of_getElem? (i := 28) rfl))) (Or.inl (hw _ (List.mem_of_getElem? (i := 26) rfl))) (by decide) (t := .int) (t' := .int) (by decide) (by decide)))
  have F_f_cut_13 := F_f_cut_12.other W13 (Or.inr (slot_ne (Or.inl (hw _ (List.mem_of_getElem? (i := 30) rfl))) (Or.inl (hw _ (List.mem_of_getElem? (i := 26) rfl))) (by decide) (t := .boolean) (t' := .int) (by decide) (by decide)))
  have F_f_text_13 := F_f_text_12.other W13 (Or.inr (slot_ne (Or.inl (hw _ (List.mem_of_getElem? (i := 15) rfl))) (Or.inl (hw _ (List.mem_of_getElem? (i := 26) rfl))) (by decide) (t := (.array .char)) (t' := .int) (by decide) (by decide)))
  have F_f_line_13 := F_f_line_12.other W13 (Or.inr (slot_ne (Or.inl (hw _ (List.mem_of_getElem? (i := 22) rfl))) (Or.inl (hw _ (List.mem_of_getElem? (i := 26) rfl))) (by decide) (t := .int) (t' := .int) (by decide) (by decide)))
  have F_f_column_13 := Fw12.other W13 (Or.inr (slot_ne (Or.inl (hw _ (List.mem_of_getElem? (i := 24) rfl))) (Or.inl (hw _ (List.mem_of_getElem? (i := 26) rfl))) (by decide) (t := .int) (t' := .int) (by decide) (by decide)))
  have sz13 : n0 ≤ h13.size := by rw [W13.size]; exact sz12
  have kp13 := Keep.wr kp12 W13 (Or.inl (List.mem_of_getElem? (i := 0) rfl))
  refine Run.aloadN d4_15 rfl rfl (pc' := 16) rfl ?_
  refine Run.iconst (0 : Int32) d4_16 (by decide) (pc' := 17) rfl ?_
  refine Run.putF d4_17 (host := "") (Or.inl (hw _ (List.mem_of_getElem? (i := 27) rfl))) Via.refl F_f_textLength_13 E_f_13 (Or.inl (hw _ (List.mem_of_getElem? (i := 28) rfl))) (hw _ (List.mem_of_getElem? (i := 6) rfl)) (ty := .int) (by decide) rfl rfl g1 (pc' := 20) rfl ?_
  intro h14 W14
  have Fw14 := F_f_textLength_13.same W14
  have E_f_14 := E_f_13.wr W14
  have F_f_cut_14 := F_f_cut_13.other W14 (Or.inr (slot_ne (Or.inl (hw _ (List.mem_of_getElem? (i := 30) rfl))) (Or.inl (hw _ (List.mem_of_getElem? (i := 28) rfl))) (by decide) (t := .boolean) (t' := .int) (by decide) (by decide)))
  have F_f_text_14 := F_f_text_13.other W14 (Or.inr (slot_ne (Or.inl (hw _ (List.mem_of_getElem? (i := 15) rfl))) (Or.inl (hw _ (List.mem_of_getElem? (i := 28) rfl))) (by decide) (t := (.array .char)) (t' := .int) (by decide) (by decide)))
  have F_f_line_14 := F_f_line_13.other W14 (Or.inr (slot_ne (Or.inl (hw _ (List.mem_of_getElem? (i := 22) rfl))) (Or.inl (hw _ (List.mem_of_getElem? (i := 28) rfl))) (by decide) (t := .int) (t' := .int) (by decide) (by decide)))
  have F_f_column_14 := F_f_column_13.other W14 (Or.inr (slot_ne (Or.inl (hw _ (List.mem_of_getElem? (i := 24) rfl))) (Or.inl (hw _ (List.mem_of_getElem? (i := 28) rfl))) (by decide) (t := .int) (t' := .int) (by decide) (by decide)))
  have F_f_max_14 := Fw13.other W14 (Or.inr (slot_ne (Or.inl (hw _ (List.mem_of_getElem? (i := 26) rfl))) (Or.inl (hw _ (List.mem_of_getElem? (i := 28) rfl))) (by decide) (t := .int) (t' := .int) (by decide) (by decide)))
  have sz14 : n0 ≤ h14.size := by rw [W14.size]; exact sz13
  have kp14 := Keep.wr kp13 W14 (Or.inl (List.mem_of_getElem? (i := 0) rfl))
  refine Run.aloadN d4_20 rfl rfl (pc' := 21) rfl ?_
  refine Run.iconst (0 : Int32) d4_21 (by decide) (pc' := 22) rfl ?_
  refine Run.putFN d4_22 (hw _ (List.mem_of_getElem? (i := 29) rfl)) Via.refl F_f_cut_14 E_f_14 (Or.inl (hw _ (List.mem_of_getElem? (i := 30) rfl))) (hw _ (List.mem_of_getElem? (i := 6) rfl)) (ty := .boolean) (v' := (.int (0 : Int32))) (by decide) rfl rfl g1 (pc' := 25) rfl ?_
  intro h15 W15
  have Fw15 := F_f_cut_14.same W15
  have E_f_15 := E_f_14.wr W15
  have F_f_text_15 := F_f_text_14.other W15 (Or.inr (slot_ne (Or.inl (hw _ (List.mem_of_getElem? (i := 15) rfl))) (Or.inl (hw _ (List.mem_of_getElem? (i := 30) rfl))) (by decide) (t := (.array .char)) (t' := .boolean) (by decide) (by decide)))
  have F_f_line_15 := F_f_line_14.other W15 (Or.inr (slot_ne (Or.inl (hw _ (List.mem_of_getElem? (i := 22) rfl))) (Or.inl (hw _ (List.mem_of_getElem? (i := 30) rfl))) (by decide) (t := .int) (t' := .boolean) (by decide) (by decide)))
  have F_f_column_15 := F_f_column_14.other W15 (Or.inr (slot_ne (Or.inl (hw _ (List.mem_of_getElem? (i := 24) rfl))) (Or.inl (hw _ (List.mem_of_getElem? (i := 30) rfl))) (by decide) (t := .int) (t' := .boolean) (by decide) (by decide)))
  have F_f_max_15 := F_f_max_14.other W15 (Or.inr (slot_ne (Or.inl (hw _ (List.mem_of_getElem? (i := 26) rfl))) (Or.inl (hw _ (List.mem_of_getElem? (i := 30) rfl))) (by decide) (t := .int) (t' := .boolean) (by decide) (by decide)))
  have F_f_textLength_15 := Fw14.other W15 (Or.inr (slot_ne (Or.inl (hw _ (List.mem_of_getElem? (i := 28) rfl))) (Or.inl (hw _ (List.mem_of_getElem? (i := 30) rfl))) (by decide) (t := .int) (t' := .boolean) (by decide) (by decide)))
  have sz15 : n0 ≤ h15.size := by rw [W15.size]; exact sz14
  have kp15 := Keep.wr kp14 W15 (Or.inl (List.mem_of_getElem? (i := 0) rfl))
  refine Run.aloadN d4_25 rfl rfl (pc' := 26) rfl ?_
  exact Run.areturn d4_26 (ty := (.object "com/example/mappa/mappa/core/FieldText")) rfl rfl rfl (by decide) (by decide) ⟨_, rfl, rfl, kp15, F_f_line_15, F_f_column_15, F_f_max_15, F_f_textLength_15, Fw15, F_f_text_15⟩
theorem d2_0 : decode prog_32_method_1_code 0 = .ok (.aload_n 0, 1) := by decide +kernel
theorem d2_1 : decode prog_32_method_1_code 1 = .ok (.invokespecial 1, 3) := by decide +kernel
theorem d2_4 : decode prog_32_method_1_code 4 = .ok (.aload_n 0, 1) := by decide +kernel
theorem d2_5 : decode prog_32_method_1_code 5 = .ok (.bipush 64, 2) := by decide +kernel
theorem d2_7 : decode prog_32_method_1_code 7 = .ok (.newarray .char, 2) := by decide +kernel
theorem d2_9 : decode prog_32_method_1_code 9 = .ok (.putfield 7, 3) := by decide +kernel
theorem d2_12 : decode prog_32_method_1_code 12 = .ok (.aload_n 0, 1) := by decide +kernel
theorem d2_13 : decode prog_32_method_1_code 13 = .ok (.iload_n 1, 1) := by decide +kernel
theorem d2_14 : decode prog_32_method_1_code 14 = .ok (.iload_n 2, 1) := by decide +kernel
theorem d2_15 : decode prog_32_method_1_code 15 = .ok (.iload_n 3, 1) := by decide +kernel
theorem d2_16 : decode prog_32_method_1_code 16 = .ok (.invokevirtual 13, 3) := by decide +kernel
theorem d2_19 : decode prog_32_method_1_code 19 = .ok (.pop, 1) := by decide +kernel
theorem d2_20 : decode prog_32_method_1_code 20 = .ok (.return_, 1) := by decide +kernel
theorem pn_2 : plainFor (⟨"com/example/mappa/mappa/core/FieldText", "<init>", "(III)V"⟩ : MethodName) = true := plainFor_of_name (by first | (simp [plainName, overriddenIn]; done) | decide +kernel)
theorem pd__III_Lcom_example_mappa_mappa_core_FieldText_ : parseMethodDescriptor "(III)Lcom/example/mappa/mappa/core/FieldText;" = some ⟨[.int, .int, .int], some (.object "com/example/mappa/mappa/core/FieldText")⟩ := by decide +kernel
theorem ef_con_fti (m : MethodId) (f : Addr) (p2 : Int32) (p3 : Int32) (p4 : Int32)  : entryFrame m #[(.ref f), (.int p2), (.int p3), (.int p4)] 4 = mkF m 0 #[.val (.ref f), .val (.int p2), .val (.int p3), .val (.int p4)] [] := by first | (simp [entryFrame, mkF, argsToLocals, Value.category]; done) | rfl
set_option maxRecDepth 65536 in
set_option maxHeartbeats 40000000 in
theorem con_fti (l : Launch) (Z : State) (a0 : Array Value) (hw : ∀ d ∈ tables_1, d.before a0 Z = true) (n0 : Nat) (h0 : Heap) (Z0 : n0 ≤ h0.size) (f : Addr) (p2 : Int32) (p3 : Int32) (p4 : Int32) (E1 : Exa Z h0 f "com/example/mappa/mappa/core/FieldText") (g1 : n0 ≤ f) (Fline : Fld Z h0 f "com/example/mappa/mappa/core/FieldText" "line" "I" (.int (0 : Int32))) (Fcolumn : Fld Z h0 f "com/example/mappa/mappa/core/FieldText" "column" "I" (.int (0 : Int32))) (Fmax : Fld Z h0 f "com/example/mappa/mappa/core/FieldText" "max" "I" (.int (0 : Int32))) (FtextLength : Fld Z h0 f "com/example/mappa/mappa/core/FieldText" "textLength" "I" (.int (0 : Int32))) (Fcut : Fld Z h0 f "com/example/mappa/mappa/core/FieldText" "cut" "Z" (.int (0 : Int32))) (Ftx : Fld Z h0 f "com/example/mappa/mappa/core/FieldText" "text" "[C" .null) :
    Con l Z n0 (⟨"com/example/mappa/mappa/core/FieldText", "<init>", "(III)V"⟩ : MethodName) prog_32_method_1_code 4 none ({ frames := 1, cells := 1, slots := 64, locals := 15 } : Room) #[(.ref f), (.int p2), (.int p3), (.int p4)] h0 (Vd fun h' => ∃ tx, h0.size ≤ tx ∧ Keep h0 h' [f] ∧ Fld Z h' f "com/example/mappa/mappa/core/FieldText" "line" "I" (.int p2) ∧ Fld Z h' f "com/example/mappa/mappa/core/FieldText" "column" "I" (.int p3) ∧ Fld Z h' f "com/example/mappa/mappa/core/FieldText" "max" "I" (.int p4) ∧ Fld Z h' f "com/example/mappa/mappa/core/FieldText" "textLength" "I" (.int (0 : Int32)) ∧ Fld Z h' f "com/example/mappa/mappa/core/FieldText" "cut" "Z" (.int (0 : Int32)) ∧ Fld Z h' f "com/example/mappa/mappa/core/FieldText" "text" "[C" (.ref tx) ∧ Ary Z h' tx .char (List.replicate 64 (.int (0 : Int32)))) := by
  refine Con.of_run pn_2 (fun m => ef_con_fti m f p2 p3 p4 ) ?_
  refine Run.aloadN d2_0 rfl rfl (pc' := 1) rfl ?_
  refine Run.initO d2_1 (hw _ (List.mem_of_getElem? (i := 11) rfl)) (hw _ (List.mem_of_getElem? (i := 12) rfl)) (hw _ (List.mem_of_getElem? (i := 13) rfl)) rfl (by decide) (by show (0 : Nat) + 12 ≤ _; decide) (pc' := 4) rfl ?_
  refine Run.aloadN d2_4 rfl rfl (pc' := 5) rfl ?_
  refine Run.bipush (64 : Int32) d2_5 (by decide) (pc' := 7) rfl ?_
  refine Run.newP (ty := .char) (m := 64) (cap := 64) (dv := (.int (0 : Int32))) (k' := 1) (n' := 64) d2_7 rfl (hw _ (List.mem_of_getElem? (i := 0) rfl)) (by decide) (by decide) (Nat.le_refl _) rfl (by decide) (by decide) (by decide) (by decide) (by decide) (pc' := 9) rfl ?_
  intro h11 b11 g11 E11 A11
  have ge_b11 : n0 ≤ b11 := by rw [g11]; exact Z0
  have bo_b11 : h0.size ≤ b11 := by rw [g11]; exact (Keep.refl h0 [f]).1
  have ne_f_b11 : f ≠ b11 := by rw [g11]; exact Nat.ne_of_lt E1.lt
  have E_f_11 := E1.ext E11
  have F_f_line_11 := Fline.ext E11
  have F_f_column_11 := Fcolumn.ext E11
  have F_f_max_11 := Fmax.ext E11
  have F_f_textLength_11 := FtextLength.ext E11
  have F_f_cut_11 := Fcut.ext E11
  have F_f_text_11 := Ftx.ext E11
  have sz11 : n0 ≤ h11.size := Nat.le_trans Z0 E11.1
  have kp11 := Keep.ext (Keep.refl h0 [f]) E11
  refine Run.putF d2_9 (host := "") (Or.inl (hw _ (List.mem_of_getElem? (i := 14) rfl))) Via.refl F_f_text_11 E_f_11 (Or.inl (hw _ (List.mem_of_getElem? (i := 15) rfl))) (hw _ (List.mem_of_getElem? (i := 6) rfl)) (ty := (.array .char)) (by decide) (go_narref rfl rfl) rfl g1 (pc' := 12) rfl ?_
  intro h12 W12
  have Fw12 := F_f_text_11.same W12
  have E_f_12 := E_f_11.wr W12
  have F_f_line_12 := F_f_line_11.other W12 (Or.inr (slot_ne (Or.inl (hw _ (List.mem_of_getElem? (i := 22) rfl))) (Or.inl (hw _ (List.mem_of_getElem? (i := 15) rfl))) (by decide) (t := .int) (t' := (.array .char)) (by decide) (by decide)))
  have F_f_column_12 := F_f_column_11.other W12 (Or.inr (slot_ne (Or.inl (hw _ (List.mem_of_getElem? (i := 24) rfl))) (Or.inl (hw _ (List.mem_of_getElem? (i := 15) rfl))) (by decide) (t := .int) (t' := (.array .char)) (by decide) (by decide)))
  have F_f_max_12 := F_f_max_11.other W12 (Or.inr (slot_ne (Or.inl (hw _ (List.mem_of_getElem? (i := 26) rfl))) (Or.inl (hw _ (List.mem_of_getElem? (i := 15) rfl))) (by decide) (t := .int) (t' := (.array .char)) (by decide) (by decide)))
  have F_f_textLength_12 := F_f_textLength_11.other W12 (Or.inr (slot_ne (Or.inl (hw _ (List.mem_of_getElem? (i := 28) rfl))) (Or.inl (hw _ (List.mem_of_getElem? (i := 15) rfl))) (by decide) (t := .int) (t' := (.array .char)) (by decide) (by decide)))
  have F_f_cut_12 := F_f_cut_11.other W12 (Or.inr (slot_ne (Or.inl (hw _ (List.mem_of_getElem? (i := 30) rfl))) (Or.inl (hw _ (List.mem_of_getElem? (i := 15) rfl))) (by decide) (t := .boolean) (t' := (.array .char)) (by decide) (by decide)))
  have A_b11_12 := A11.other W12 (Ne.symm ne_f_b11)
  have sz12 : n0 ≤ h12.size := by rw [W12.size]; exact sz11
  have kp12 := Keep.wr kp11 W12 (Or.inl (List.mem_of_getElem? (i := 0) rfl))
  refine Run.aloadN d2_12 rfl rfl (pc' := 13) rfl ?_
  refine Run.iloadN d2_13 rfl (pc' := 14) rfl ?_
  refine Run.iloadN d2_14 rfl (pc' := 15) rfl ?_
  refine Run.iloadN d2_15 rfl (pc' := 16) rfl ?_
  refine Run.callV (k' := 1) (n' := 64) (a := f) (as := [(.int p2), (.int p3), (.int p4)]) (rest := []) (con_rst l Z a0 hw n0 h12 sz12 f p2 p3 p4 (.int (0 : Int32)) (.int (0 : Int32)) (.int (0 : Int32)) (.int (0 : Int32)) (.int (0 : Int32)) (.ref b11) E_f_12 g1 F_f_line_12 F_f_column_12 F_f_max_12 F_f_textLength_12 F_f_cut_12 Fw12 ) E_f_12 d2_16 (hw _ (List.mem_of_getElem? (i := 16) rfl)) (hw _ (List.mem_of_getElem? (i := 17) rfl)) (fun s hZ => notFace_of_selects (args := #[]) (mvT hZ (hw _ (List.mem_of_getElem? (i := 19) rfl)))) (hw _ (List.mem_of_getElem? (i := 19) rfl)) (hw _ (List.mem_of_getElem? (i := 18) rfl)) (hw _ (List.mem_of_getElem? (i := 7) rfl)) (hw _ (List.mem_of_getElem? (i := 20) rfl)) (by decide) pd__III_Lcom_example_mappa_mappa_core_FieldText_ rfl rfl rfl (by decide) (by show (0 : Nat) + (4 + 11) + 0 ≤ _; decide) (by decide) (by decide) (by decide) (by decide) (pc' := 19) rfl ?_
  rintro _ h13 ⟨_, rfl, ⟨rfl, K13, Pline_13, Pcolumn_13, Pmax_13, PtextLength_13, Pcut_13, Ptext_13⟩⟩
  show Run l Z n0 "com/example/mappa/mappa/core/FieldText" prog_32_method_1_code 4 none "<init>" ({ frames := 1, cells := 1, slots := 64, locals := 15 } : Room) _ 19 #[.val (.ref f), .val (.int p2), .val (.int p3), .val (.int p4)] [(.ref f)] h13 1 64
  have E_f_13 := E_f_12.keep K13
  have A_b11_13 := A_b11_12.keep K13 (ninS (Ne.symm ne_f_b11) nin0)
  have sz13 : n0 ≤ h13.size := Nat.le_trans sz12 K13.1
  have kp13 := Keep.trans kp12 K13 (allS (Or.inl (List.mem_of_getElem? (i := 0) rfl)) all0)
  refine Run.pop d2_19 rfl (pc' := 20) rfl ?_
  exact Run.vreturn d2_20 rfl (by decide) (by decide) ⟨rfl, b11, bo_b11, kp13, Pline_13, Pcolumn_13, Pmax_13, PtextLength_13, Pcut_13, Ptext_13, A_b11_13⟩
def own_lead : List Int32 → Nat
  | [] => 0
  | c :: r => if own_isp c = 0 then 0 else own_lead r + 1
theorem own_lead_le : ∀ r : List Int32, own_lead r ≤ r.length
  | [] => Nat.le_refl _
  | c :: r => by unfold own_lead; split; omega; have := own_lead_le r; simp; omega
theorem own_lead_end {cs : List Int32} {i : Nat} (h : cs.length ≤ i) : own_lead (cs.drop i) = 0 := by rw [List.drop_eq_nil_of_le h]; rfl
theorem own_lead_at {cs : List Int32} {i : Nat} (h : i < cs.length) : own_lead (cs.drop i) = if own_isp (cs.getD i 0) = 0 then 0 else own_lead (cs.drop (i + 1)) + 1 := by
  have e : cs.getD i 0 = cs[i] := by simp [List.getD_eq_getElem?_getD, h]
  rw [List.drop_eq_getElem_cons h, e]; rfl
theorem own_gm {cs : List Int32} {i : Nat} (h : i < cs.length) : (cs.map Value.int)[i]? = some (Value.int (cs.getD i 0)) := by simp [List.getD_eq_getElem?_getD, h]
theorem own_gt {cs : List Int32} {i ln : Nat} (h : i < ln) : (cs.take ln).getD i 0 = cs.getD i 0 := by simp [List.getD_eq_getElem?_getD, List.getElem?_take_of_lt h]
def own_held (ln fr : Nat) (m : Int32) : Nat := min (ln - fr) m.toInt.toNat
theorem own_minI (a b : Int32) : (own_min a b).toInt = min a.toInt b.toInt := by
  unfold own_min; split <;> rename_i h <;> rw [Int32.lt_iff_toInt_lt] at h <;> omega
theorem own_heldI {ln fr : Nat} {m : Int32} (hf : fr ≤ ln) (hl : ln ≤ 64) (hm : 0 ≤ m.toInt ∧ m.toInt ≤ 64) : own_min (Int32.ofNat ln - Int32.ofNat fr) (own_min (m - (0 : Int32)) m) = Int32.ofNat (own_held ln fr m) := by
  apply own_eqi
  have h1 := own_ofn (i := ln) (by omega); have h2 := own_ofn (i := fr) (by omega); have h3 := c_isub (Int32.ofNat ln) (Int32.ofNat fr); have h4 := c_isub m 0; have h5 := rng32 (Int32.ofNat ln - Int32.ofNat fr); have h6 := rng32 (m - 0); have h0 := own_z
  rw [own_minI, own_minI, own_ofn (by unfold own_held; omega)]
  unfold own_held
  omega
theorem own_heldB {ln fr : Nat} {m : Int32} (hm : 0 ≤ m.toInt ∧ m.toInt ≤ 64) : own_held ln fr m ≤ ln - fr ∧ own_held ln fr m ≤ 64 := by unfold own_held; omega
theorem d6_0 : decode prog_32_method_8_code 0 = .ok (.iload_n 2, 1) := by decide +kernel
theorem d6_1 : decode prog_32_method_8_code 1 = .ok (.istore 5, 2) := by decide +kernel
theorem d6_3 : decode prog_32_method_8_code 3 = .ok (.iload_n 2, 1) := by decide +kernel
theorem d6_4 : decode prog_32_method_8_code 4 = .ok (.iload_n 3, 1) := by decide +kernel
theorem d6_5 : decode prog_32_method_8_code 5 = .ok (.iadd, 1) := by decide +kernel
theorem d6_6 : decode prog_32_method_8_code 6 = .ok (.istore 6, 2) := by decide +kernel
theorem d6_8 : decode prog_32_method_8_code 8 = .ok (.aload_n 0, 1) := by decide +kernel
theorem d6_9 : decode prog_32_method_8_code 9 = .ok (.getfield 27, 3) := by decide +kernel
theorem d6_12 : decode prog_32_method_8_code 12 = .ok (.ifCond .ne 26, 3) := by decide +kernel
theorem d6_15 : decode prog_32_method_8_code 15 = .ok (.iload 5, 2) := by decide +kernel
theorem d6_17 : decode prog_32_method_8_code 17 = .ok (.iload 6, 2) := by decide +kernel
theorem d6_19 : decode prog_32_method_8_code 19 = .ok (.if_icmp .ge 19, 3) := by decide +kernel
theorem d6_22 : decode prog_32_method_8_code 22 = .ok (.aload_n 1, 1) := by decide +kernel
theorem d6_23 : decode prog_32_method_8_code 23 = .ok (.iload 5, 2) := by decide +kernel
theorem d6_25 : decode prog_32_method_8_code 25 = .ok (.caload, 1) := by decide +kernel
theorem d6_26 : decode prog_32_method_8_code 26 = .ok (.invokestatic 38, 3) := by decide +kernel
theorem d6_29 : decode prog_32_method_8_code 29 = .ok (.ifCond .eq 9, 3) := by decide +kernel
theorem d6_32 : decode prog_32_method_8_code 32 = .ok (.iinc 5 1, 3) := by decide +kernel
theorem d6_35 : decode prog_32_method_8_code 35 = .ok (.goto (-27), 3) := by decide +kernel
theorem d6_38 : decode prog_32_method_8_code 38 = .ok (.iload 6, 2) := by decide +kernel
theorem d6_40 : decode prog_32_method_8_code 40 = .ok (.iload 5, 2) := by decide +kernel
theorem d6_42 : decode prog_32_method_8_code 42 = .ok (.isub, 1) := by decide +kernel
theorem d6_43 : decode prog_32_method_8_code 43 = .ok (.aload_n 0, 1) := by decide +kernel
theorem d6_44 : decode prog_32_method_8_code 44 = .ok (.getfield 24, 3) := by decide +kernel
theorem d6_47 : decode prog_32_method_8_code 47 = .ok (.aload_n 0, 1) := by decide +kernel
theorem d6_48 : decode prog_32_method_8_code 48 = .ok (.getfield 27, 3) := by decide +kernel
theorem d6_51 : decode prog_32_method_8_code 51 = .ok (.isub, 1) := by decide +kernel
theorem d6_52 : decode prog_32_method_8_code 52 = .ok (.iload 4, 2) := by decide +kernel
theorem d6_54 : decode prog_32_method_8_code 54 = .ok (.invokestatic 42, 3) := by decide +kernel
theorem d6_57 : decode prog_32_method_8_code 57 = .ok (.invokestatic 42, 3) := by decide +kernel
theorem d6_60 : decode prog_32_method_8_code 60 = .ok (.istore 7, 2) := by decide +kernel
theorem d6_62 : decode prog_32_method_8_code 62 = .ok (.aload_n 0, 1) := by decide +kernel
theorem d6_63 : decode prog_32_method_8_code 63 = .ok (.getfield 27, 3) := by decide +kernel
theorem d6_66 : decode prog_32_method_8_code 66 = .ok (.iload 7, 2) := by decide +kernel
theorem d6_68 : decode prog_32_method_8_code 68 = .ok (.iadd, 1) := by decide +kernel
theorem d6_69 : decode prog_32_method_8_code 69 = .ok (.aload_n 0, 1) := by decide +kernel
theorem d6_70 : decode prog_32_method_8_code 70 = .ok (.getfield 7, 3) := by decide +kernel
theorem d6_73 : decode prog_32_method_8_code 73 = .ok (.arraylength, 1) := by decide +kernel
theorem d6_74 : decode prog_32_method_8_code 74 = .ok (.if_icmp .le 44, 3) := by decide +kernel
theorem d6_118 : decode prog_32_method_8_code 118 = .ok (.aload_n 1, 1) := by decide +kernel
theorem d6_119 : decode prog_32_method_8_code 119 = .ok (.iload 5, 2) := by decide +kernel
theorem d6_121 : decode prog_32_method_8_code 121 = .ok (.aload_n 0, 1) := by decide +kernel
theorem d6_122 : decode prog_32_method_8_code 122 = .ok (.getfield 7, 3) := by decide +kernel
theorem d6_125 : decode prog_32_method_8_code 125 = .ok (.aload_n 0, 1) := by decide +kernel
theorem d6_126 : decode prog_32_method_8_code 126 = .ok (.getfield 27, 3) := by decide +kernel
theorem d6_129 : decode prog_32_method_8_code 129 = .ok (.iload 7, 2) := by decide +kernel
theorem d6_131 : decode prog_32_method_8_code 131 = .ok (.invokestatic 61, 3) := by decide +kernel
theorem d6_134 : decode prog_32_method_8_code 134 = .ok (.aload_n 0, 1) := by decide +kernel
theorem d6_135 : decode prog_32_method_8_code 135 = .ok (.dup, 1) := by decide +kernel
theorem d6_136 : decode prog_32_method_8_code 136 = .ok (.getfield 27, 3) := by decide +kernel
theorem d6_139 : decode prog_32_method_8_code 139 = .ok (.iload 7, 2) := by decide +kernel
theorem d6_141 : decode prog_32_method_8_code 141 = .ok (.iadd, 1) := by decide +kernel
theorem d6_142 : decode prog_32_method_8_code 142 = .ok (.putfield 27, 3) := by decide +kernel
theorem d6_145 : decode prog_32_method_8_code 145 = .ok (.iload 5, 2) := by decide +kernel
theorem d6_147 : decode prog_32_method_8_code 147 = .ok (.iload 7, 2) := by decide +kernel
theorem d6_149 : decode prog_32_method_8_code 149 = .ok (.iadd, 1) := by decide +kernel
theorem d6_150 : decode prog_32_method_8_code 150 = .ok (.istore 8, 2) := by decide +kernel
theorem d6_152 : decode prog_32_method_8_code 152 = .ok (.iload 8, 2) := by decide +kernel
theorem d6_154 : decode prog_32_method_8_code 154 = .ok (.iload 6, 2) := by decide +kernel
theorem d6_156 : decode prog_32_method_8_code 156 = .ok (.if_icmp .ge 35, 3) := by decide +kernel
theorem d6_159 : decode prog_32_method_8_code 159 = .ok (.aload_n 0, 1) := by decide +kernel
theorem d6_160 : decode prog_32_method_8_code 160 = .ok (.getfield 30, 3) := by decide +kernel
theorem d6_163 : decode prog_32_method_8_code 163 = .ok (.ifCond .ne 28, 3) := by decide +kernel
theorem d6_166 : decode prog_32_method_8_code 166 = .ok (.aload_n 0, 1) := by decide +kernel
theorem d6_167 : decode prog_32_method_8_code 167 = .ok (.aload_n 1, 1) := by decide +kernel
theorem d6_168 : decode prog_32_method_8_code 168 = .ok (.iload 8, 2) := by decide +kernel
theorem d6_170 : decode prog_32_method_8_code 170 = .ok (.caload, 1) := by decide +kernel
theorem d6_171 : decode prog_32_method_8_code 171 = .ok (.invokestatic 38, 3) := by decide +kernel
theorem d6_174 : decode prog_32_method_8_code 174 = .ok (.ifCond .ne 7, 3) := by decide +kernel
theorem d6_177 : decode prog_32_method_8_code 177 = .ok (.iconst 1, 1) := by decide +kernel
theorem d6_178 : decode prog_32_method_8_code 178 = .ok (.goto 4, 3) := by decide +kernel
theorem d6_181 : decode prog_32_method_8_code 181 = .ok (.iconst 0, 1) := by decide +kernel
theorem d6_182 : decode prog_32_method_8_code 182 = .ok (.putfield 30, 3) := by decide +kernel
theorem d6_185 : decode prog_32_method_8_code 185 = .ok (.iinc 8 1, 3) := by decide +kernel
theorem d6_188 : decode prog_32_method_8_code 188 = .ok (.goto (-36), 3) := by decide +kernel
theorem d6_191 : decode prog_32_method_8_code 191 = .ok (.iload 7, 2) := by decide +kernel
theorem d6_193 : decode prog_32_method_8_code 193 = .ok (.ireturn, 1) := by decide +kernel
theorem pn_6 : plainFor (⟨"com/example/mappa/mappa/core/FieldText", "append", "([CIII)I"⟩ : MethodName) = true := plainFor_of_name (by first | (simp [plainName, overriddenIn]; done) | decide +kernel)
theorem pd__C_Z : parseMethodDescriptor "(C)Z" = some ⟨[.char], some .boolean⟩ := by decide +kernel
theorem pd__II_I : parseMethodDescriptor "(II)I" = some ⟨[.int, .int], some .int⟩ := by decide +kernel
theorem ef_con_ap4 (m : MethodId) (f a tx : Addr) (cs : List Int32) (vs : List Value) (ln : Nat) (mx : Int32) (ul uc : Value)  : entryFrame m #[(.ref f), (.ref a), (.int (0 : Int32)), (.int (Int32.ofNat ln)), (.int mx)] 9 = mkF m 0 #[.val (.ref f), .val (.ref a), .val (.int (0 : Int32)), .val (.int (Int32.ofNat ln)), .val (.int mx), .unset, .unset, .unset, .unset] [] := by first | (simp [entryFrame, mkF, argsToLocals, Value.category]; done) | rfl
set_option maxRecDepth 65536 in
set_option maxHeartbeats 40000000 in
theorem con_ap4 (l : Launch) (Z : State) (a0 : Array Value) (hw : ∀ d ∈ tables_1, d.before a0 Z = true) (n0 : Nat) (h0 : Heap) (Z0 : n0 ≤ h0.size) (f a tx : Addr) (cs : List Int32) (vs : List Value) (ln : Nat) (mx : Int32) (ul uc : Value) (E1 : Exa Z h0 f "com/example/mappa/mappa/core/FieldText") (gf : n0 ≤ f) (gt : n0 ≤ tx) (Ftx : Fld Z h0 f "com/example/mappa/mappa/core/FieldText" "text" "[C" (.ref tx)) (Ftl : Fld Z h0 f "com/example/mappa/mappa/core/FieldText" "textLength" "I" (.int (0 : Int32))) (Fm : Fld Z h0 f "com/example/mappa/mappa/core/FieldText" "max" "I" (.int mx)) (Fk : Fld Z h0 f "com/example/mappa/mappa/core/FieldText" "cut" "Z" (.int (0 : Int32))) (Fln : Fld Z h0 f "com/example/mappa/mappa/core/FieldText" "line" "I" ul) (Fcl : Fld Z h0 f "com/example/mappa/mappa/core/FieldText" "column" "I" uc) (AC : Ary Z h0 a .char (cs.map Value.int)) (AT : Ary Z h0 tx .char vs) (hfa : f ≠ a) (hft : f ≠ tx) (hat : a ≠ tx) (hv : vs.length = 64) (hln : ln ≤ cs.length) (hcs : cs.length ≤ 64) (hm : 0 ≤ mx.toInt ∧ mx.toInt ≤ 64) (fc : ∀ v ∈ cs.map Value.int, fits .char v = true) (fv : ∀ v ∈ vs, fits .char v = true) :
    Con l Z n0 (⟨"com/example/mappa/mappa/core/FieldText", "append", "([CIII)I"⟩ : MethodName) prog_32_method_8_code 9 (some .int) ({ frames := 1, cells := 0, slots := 0, locals := 30 } : Room) #[(.ref f), (.ref a), (.int (0 : Int32)), (.int (Int32.ofNat ln)), (.int mx)] h0 (Val fun w h' => .int (Int32.ofNat (own_held ln (own_lead (cs.take ln)) mx)) = w ∧ Keep h0 h' [f, tx] ∧ Fld Z h' f "com/example/mappa/mappa/core/FieldText" "text" "[C" (.ref tx) ∧ Fld Z h' f "com/example/mappa/mappa/core/FieldText" "textLength" "I" (.int (Int32.ofNat (own_held ln (own_lead (cs.take ln)) mx))) ∧ (∃ k, Fld Z h' f "com/example/mappa/mappa/core/FieldText" "cut" "Z" k) ∧ Fld Z h' f "com/example/mappa/mappa/core/FieldText" "line" "I" ul ∧ Fld Z h' f "com/example/mappa/mappa/core/FieldText" "column" "I" uc ∧ Fld Z h' f "com/example/mappa/mappa/core/FieldText" "max" "I" (.int mx) ∧ Ary Z h' tx .char (((cs.map Value.int).drop (own_lead (cs.take ln))).take (own_held ln (own_lead (cs.take ln)) mx) ++ vs.drop (own_held ln (own_lead (cs.take ln)) mx))) := by
  refine Con.of_run pn_6 (fun m => ef_con_ap4 m f a tx cs vs ln mx ul uc ) ?_
  refine Run.iloadN d6_0 rfl (pc' := 1) rfl ?_
  refine Run.istore (l' := #[.val (.ref f), .val (.ref a), .val (.int (0 : Int32)), .val (.int (Int32.ofNat ln)), .val (.int mx), .val (.int (0 : Int32)), .unset, .unset, .unset]) d6_1 rfl (pc' := 3) rfl ?_
  refine Run.iloadN d6_3 rfl (pc' := 4) rfl ?_
  refine Run.iloadN d6_4 rfl (pc' := 5) rfl ?_
  refine Run.iadd d6_5 (pc' := 6) rfl ?_
  rw [show (0 : Int32) + Int32.ofNat ln = Int32.ofNat ln from Int32.zero_add _]
  refine Run.istore (l' := #[.val (.ref f), .val (.ref a), .val (.int (0 : Int32)), .val (.int (Int32.ofNat ln)), .val (.int mx), .val (.int (0 : Int32)), .val (.int (Int32.ofNat ln)), .unset, .unset]) d6_6 rfl (pc' := 8) rfl ?_
  have hfr : (own_lead (cs.take ln)) ≤ ln := by have := own_lead_le (cs.take ln); rw [List.length_take] at this; omega
  have hhb := own_heldB (ln := ln) (fr := (own_lead (cs.take ln))) hm
  have rest : Run l Z n0 "com/example/mappa/mappa/core/FieldText" prog_32_method_8_code 9 (some .int) "append" ({ frames := 1, cells := 0, slots := 0, locals := 30 } : Room) (Val fun w h' => .int (Int32.ofNat (own_held ln (own_lead (cs.take ln)) mx)) = w ∧ Keep h0 h' [f, tx] ∧ Fld Z h' f "com/example/mappa/mappa/core/FieldText" "text" "[C" (.ref tx) ∧ Fld Z h' f "com/example/mappa/mappa/core/FieldText" "textLength" "I" (.int (Int32.ofNat (own_held ln (own_lead (cs.take ln)) mx))) ∧ (∃ k, Fld Z h' f "com/example/mappa/mappa/core/FieldText" "cut" "Z" k) ∧ Fld Z h' f "com/example/mappa/mappa/core/FieldText" "line" "I" ul ∧ Fld Z h' f "com/example/mappa/mappa/core/FieldText" "column" "I" uc ∧ Fld Z h' f "com/example/mappa/mappa/core/FieldText" "max" "I" (.int mx) ∧ Ary Z h' tx .char (((cs.map Value.int).drop (own_lead (cs.take ln))).take (own_held ln (own_lead (cs.take ln)) mx) ++ vs.drop (own_held ln (own_lead (cs.take ln)) mx))) 38 #[.val (.ref f), .val (.ref a), .val (.int (0 : Int32)), .val (.int (Int32.ofNat ln)), .val (.int mx), .val (.int (Int32.ofNat (own_lead (cs.take ln)))), .val (.int (Int32.ofNat ln)), .unset, .unset] [] h0 0 0 := by
    refine Run.iload d6_38 rfl (pc' := 40) rfl ?_
    refine Run.iload d6_40 rfl (pc' := 42) rfl ?_
    refine Run.isub d6_42 (pc' := 43) rfl ?_
    refine Run.aloadN d6_43 rfl rfl (pc' := 44) rfl ?_
    refine Run.getF d6_44 (host := "") (Or.inl (hw _ (List.mem_of_getElem? (i := 25) rfl))) Via.refl Fm (pc' := 47) rfl ?_
    refine Run.aloadN d6_47 rfl rfl (pc' := 48) rfl ?_
    refine Run.getF d6_48 (host := "") (Or.inl (hw _ (List.mem_of_getElem? (i := 27) rfl))) Via.refl Ftl (pc' := 51) rfl ?_
    refine Run.isub d6_51 (pc' := 52) rfl ?_
    refine Run.iload d6_52 rfl (pc' := 54) rfl ?_
    refine Run.callS (k' := 0) (n' := 0) (as := [(.int (mx - (0 : Int32))), (.int mx)]) (rest := [(.int ((Int32.ofNat ln) - (Int32.ofNat (own_lead (cs.take ln)))))]) (con_own_min l Z a0 hw n0 h0 Z0 (mx - (0 : Int32)) mx ) d6_54 (hw _ (List.mem_of_getElem? (i := 41) rfl)) (hw _ (List.mem_of_getElem? (i := 42) rfl)) (hw _ (List.mem_of_getElem? (i := 43) rfl)) (hw _ (List.mem_of_getElem? (i := 44) rfl)) (by decide) pd__II_I rfl rfl rfl (by decide) (by show (1 : Nat) + (2 + 11) + 0 ≤ _; decide) (by decide) (by decide) (by decide) (by decide) (pc' := 57) rfl ?_
    rintro _ _ ⟨_, rfl, rfl, rfl⟩
    show Run l Z n0 "com/example/mappa/mappa/core/FieldText" prog_32_method_8_code 9 (some .int) "append" ({ frames := 1, cells := 0, slots := 0, locals := 30 } : Room) _ 57 #[.val (.ref f), .val (.ref a), .val (.int (0 : Int32)), .val (.int (Int32.ofNat ln)), .val (.int mx), .val (.int (Int32.ofNat (own_lead (cs.take ln)))), .val (.int (Int32.ofNat ln)), .unset, .unset] [(.int (own_min (mx - (0 : Int32)) mx)), (.int ((Int32.ofNat ln) - (Int32.ofNat (own_lead (cs.take ln)))))] h0 0 0
    refine Run.callS (k' := 0) (n' := 0) (as := [(.int ((Int32.ofNat ln) - (Int32.ofNat (own_lead (cs.take ln))))), (.int (own_min (mx - (0 : Int32)) mx))]) (rest := []) (con_own_min l Z a0 hw n0 h0 Z0 ((Int32.ofNat ln) - (Int32.ofNat (own_lead (cs.take ln)))) (own_min (mx - (0 : Int32)) mx) ) d6_57 (hw _ (List.mem_of_getElem? (i := 41) rfl)) (hw _ (List.mem_of_getElem? (i := 42) rfl)) (hw _ (List.mem_of_getElem? (i := 43) rfl)) (hw _ (List.mem_of_getElem? (i := 44) rfl)) (by decide) pd__II_I rfl rfl rfl (by decide) (by show (0 : Nat) + (2 + 11) + 0 ≤ _; decide) (by decide) (by decide) (by decide) (by decide) (pc' := 60) rfl ?_
    rintro _ _ ⟨_, rfl, rfl, rfl⟩
    show Run l Z n0 "com/example/mappa/mappa/core/FieldText" prog_32_method_8_code 9 (some .int) "append" ({ frames := 1, cells := 0, slots := 0, locals := 30 } : Room) _ 60 #[.val (.ref f), .val (.ref a), .val (.int (0 : Int32)), .val (.int (Int32.ofNat ln)), .val (.int mx), .val (.int (Int32.ofNat (own_lead (cs.take ln)))), .val (.int (Int32.ofNat ln)), .unset, .unset] [(.int (own_min ((Int32.ofNat ln) - (Int32.ofNat (own_lead (cs.take ln)))) (own_min (mx - (0 : Int32)) mx)))] h0 0 0
    rw [own_heldI hfr (by omega) hm]
    refine Run.istore (l' := #[.val (.ref f), .val (.ref a), .val (.int (0 : Int32)), .val (.int (Int32.ofNat ln)), .val (.int mx), .val (.int (Int32.ofNat (own_lead (cs.take ln)))), .val (.int (Int32.ofNat ln)), .val (.int (Int32.ofNat (own_held ln (own_lead (cs.take ln)) mx))), .unset]) d6_60 rfl (pc' := 62) rfl ?_
    refine Run.aloadN d6_62 rfl rfl (pc' := 63) rfl ?_
    refine Run.getF d6_63 (host := "") (Or.inl (hw _ (List.mem_of_getElem? (i := 27) rfl))) Via.refl Ftl (pc' := 66) rfl ?_
    refine Run.iload d6_66 rfl (pc' := 68) rfl ?_
    refine Run.iadd d6_68 (pc' := 69) rfl ?_
    refine Run.aloadN d6_69 rfl rfl (pc' := 70) rfl ?_
    refine Run.getF d6_70 (host := "") (Or.inl (hw _ (List.mem_of_getElem? (i := 14) rfl))) Via.refl Ftx (pc' := 73) rfl ?_
    refine Run.alen (z := (64 : Int32)) d6_73 AT (by rw [hv]; rfl) (pc' := 74) rfl ?_
    rw [show (0 : Int32) + Int32.ofNat (own_held ln (own_lead (cs.take ln)) mx) = Int32.ofNat (own_held ln (own_lead (cs.take ln)) mx) from Int32.zero_add _]
    refine Run.icmp_le d6_74 (by decide) (pc' := 118) (by decide) (pa := 77) rfl (fun hc74 => ?_) (fun hc74 => ?_)
    · -- pc 74 taken: ¬ (64 : Int32) < (Int32.ofNat (own_held ln (own_lead (cs.take ln)) mx))
      refine Run.aloadN d6_118 rfl rfl (pc' := 119) rfl ?_
      refine Run.iload d6_119 rfl (pc' := 121) rfl ?_
      refine Run.aloadN d6_121 rfl rfl (pc' := 122) rfl ?_
      refine Run.getF d6_122 (host := "") (Or.inl (hw _ (List.mem_of_getElem? (i := 14) rfl))) Via.refl Ftx (pc' := 125) rfl ?_
      refine Run.aloadN d6_125 rfl rfl (pc' := 126) rfl ?_
      refine Run.getF d6_126 (host := "") (Or.inl (hw _ (List.mem_of_getElem? (i := 27) rfl))) Via.refl Ftl (pc' := 129) rfl ?_
      refine Run.iload d6_129 rfl (pc' := 131) rfl ?_
      refine Run.acopyG (i := (own_lead (cs.take ln))) (j := 0) (m := (own_held ln (own_lead (cs.take ln)) mx)) (z1 := Int32.ofNat cs.length) (z' := (64 : Int32)) d6_131 (hw _ (List.mem_of_getElem? (i := 45) rfl)) (hw _ (List.mem_of_getElem? (i := 48) rfl)) (hw _ (List.mem_of_getElem? (i := 46) rfl)) (hw _ (List.mem_of_getElem? (i := 47) rfl)) AC AT rfl (by rw [List.length_map]; exact own_ofn (by omega)) (by rw [hv]; rfl) (own_ofn (by omega)) (own_ofn (by omega)) rfl (by rw [List.length_map]; omega) (by omega) fc fv gt rfl (by decide) (by decide) (pc' := 134) rfl ?_
      intro h11 K11 P11
      have Q11 : Ary Z h11 tx .char (((cs.map Value.int).drop (own_lead (cs.take ln))).take (own_held ln (own_lead (cs.take ln)) mx) ++ vs.drop (own_held ln (own_lead (cs.take ln)) mx)) := by simpa using P11
      have E_f_11 := E1.keep K11
      have F_f_text_11 := Ftx.keep K11 (ninS hft nin0)
      have F_f_textLength_11 := Ftl.keep K11 (ninS hft nin0)
      have F_f_max_11 := Fm.keep K11 (ninS hft nin0)
      have F_f_cut_11 := Fk.keep K11 (ninS hft nin0)
      have F_f_line_11 := Fln.keep K11 (ninS hft nin0)
      have F_f_column_11 := Fcl.keep K11 (ninS hft nin0)
      have A_a_11 := AC.keep K11 (ninS hat nin0)
      have sz11 : n0 ≤ h11.size := Nat.le_trans Z0 K11.1
      have kp11 := Keep.trans (Keep.refl h0 [f, tx]) K11 (allS (Or.inl (List.mem_of_getElem? (i := 1) rfl)) all0)
      refine Run.aloadN d6_134 rfl rfl (pc' := 135) rfl ?_
      refine Run.dup d6_135 rfl (pc' := 136) rfl ?_
      refine Run.getF d6_136 (host := "") (Or.inl (hw _ (List.mem_of_getElem? (i := 27) rfl))) Via.refl F_f_textLength_11 (pc' := 139) rfl ?_
      refine Run.iload d6_139 rfl (pc' := 141) rfl ?_
      refine Run.iadd d6_141 (pc' := 142) rfl ?_
      rw [show (0 : Int32) + Int32.ofNat (own_held ln (own_lead (cs.take ln)) mx) = Int32.ofNat (own_held ln (own_lead (cs.take ln)) mx) from Int32.zero_add _]
      refine Run.putF d6_142 (host := "") (Or.inl (hw _ (List.mem_of_getElem? (i := 27) rfl))) Via.refl F_f_textLength_11 E_f_11 (Or.inl (hw _ (List.mem_of_getElem? (i := 28) rfl))) (hw _ (List.mem_of_getElem? (i := 6) rfl)) (ty := .int) (by decide) rfl rfl gf (pc' := 145) rfl ?_
      intro h12 W12
      have Fw12 := F_f_textLength_11.same W12
      have E_f_12 := E_f_11.wr W12
      have F_f_text_12 := F_f_text_11.other W12 (Or.inr (slot_ne (Or.inl (hw _ (List.mem_of_getElem? (i := 15) rfl))) (Or.inl (hw _ (List.mem_of_getElem? (i := 28) rfl))) (by decide) (t := (.array .char)) (t' := .int) (by decide) (by decide)))
      have F_f_max_12 := F_f_max_11.other W12 (Or.inr (slot_ne (Or.inl (hw _ (List.mem_of_getElem? (i := 26) rfl))) (Or.inl (hw _ (List.mem_of_getElem? (i := 28) rfl))) (by decide) (t := .int) (t' := .int) (by decide) (by decide)))
      have F_f_cut_12 := F_f_cut_11.other W12 (Or.inr (slot_ne (Or.inl (hw _ (List.mem_of_getElem? (i := 30) rfl))) (Or.inl (hw _ (List.mem_of_getElem? (i := 28) rfl))) (by decide) (t := .boolean) (t' := .int) (by decide) (by decide)))
      have F_f_line_12 := F_f_line_11.other W12 (Or.inr (slot_ne (Or.inl (hw _ (List.mem_of_getElem? (i := 22) rfl))) (Or.inl (hw _ (List.mem_of_getElem? (i := 28) rfl))) (by decide) (t := .int) (t' := .int) (by decide) (by decide)))
      have F_f_column_12 := F_f_column_11.other W12 (Or.inr (slot_ne (Or.inl (hw _ (List.mem_of_getElem? (i := 24) rfl))) (Or.inl (hw _ (List.mem_of_getElem? (i := 28) rfl))) (by decide) (t := .int) (t' := .int) (by decide) (by decide)))
      have A_a_12 := A_a_11.other W12 (Ne.symm hfa)
      have A_tx_12 := Q11.other W12 (Ne.symm hft)
      have sz12 : n0 ≤ h12.size := by rw [W12.size]; exact sz11
      have kp12 := Keep.wr kp11 W12 (Or.inl (List.mem_of_getElem? (i := 0) rfl))
      refine Run.iload d6_145 rfl (pc' := 147) rfl ?_
      refine Run.iload d6_147 rfl (pc' := 149) rfl ?_
      refine Run.iadd d6_149 (pc' := 150) rfl ?_
      rw [← Int32.ofNat_add]
      refine Run.istore (l' := #[.val (.ref f), .val (.ref a), .val (.int (0 : Int32)), .val (.int (Int32.ofNat ln)), .val (.int mx), .val (.int (Int32.ofNat (own_lead (cs.take ln)))), .val (.int (Int32.ofNat ln)), .val (.int (Int32.ofNat (own_held ln (own_lead (cs.take ln)) mx))), .val (.int (Int32.ofNat ((own_lead (cs.take ln)) + (own_held ln (own_lead (cs.take ln)) mx))))]) d6_150 rfl (pc' := 152) rfl ?_
      have loop : ∀ (t i : Nat) (hh : Heap) (cu : Int32), t + i = ln → n0 ≤ hh.size → Keep h0 hh [f, tx] → Exa Z hh f "com/example/mappa/mappa/core/FieldText" → Fld Z hh f "com/example/mappa/mappa/core/FieldText" "text" "[C" (.ref tx) → Fld Z hh f "com/example/mappa/mappa/core/FieldText" "textLength" "I" (.int (Int32.ofNat (own_held ln (own_lead (cs.take ln)) mx))) → Fld Z hh f "com/example/mappa/mappa/core/FieldText" "cut" "Z" (.int cu) → Fld Z hh f "com/example/mappa/mappa/core/FieldText" "line" "I" ul → Fld Z hh f "com/example/mappa/mappa/core/FieldText" "column" "I" uc → Fld Z hh f "com/example/mappa/mappa/core/FieldText" "max" "I" (.int mx) → Ary Z hh a .char (cs.map Value.int) → Ary Z hh tx .char (((cs.map Value.int).drop (own_lead (cs.take ln))).take (own_held ln (own_lead (cs.take ln)) mx) ++ vs.drop (own_held ln (own_lead (cs.take ln)) mx)) → Run l Z n0 "com/example/mappa/mappa/core/FieldText" prog_32_method_8_code 9 (some .int) "append" ({ frames := 1, cells := 0, slots := 0, locals := 30 } : Room) (Val fun w h' => .int (Int32.ofNat (own_held ln (own_lead (cs.take ln)) mx)) = w ∧ Keep h0 h' [f, tx] ∧ Fld Z h' f "com/example/mappa/mappa/core/FieldText" "text" "[C" (.ref tx) ∧ Fld Z h' f "com/example/mappa/mappa/core/FieldText" "textLength" "I" (.int (Int32.ofNat (own_held ln (own_lead (cs.take ln)) mx))) ∧ (∃ k, Fld Z h' f "com/example/mappa/mappa/core/FieldText" "cut" "Z" k) ∧ Fld Z h' f "com/example/mappa/mappa/core/FieldText" "line" "I" ul ∧ Fld Z h' f "com/example/mappa/mappa/core/FieldText" "column" "I" uc ∧ Fld Z h' f "com/example/mappa/mappa/core/FieldText" "max" "I" (.int mx) ∧ Ary Z h' tx .char (((cs.map Value.int).drop (own_lead (cs.take ln))).take (own_held ln (own_lead (cs.take ln)) mx) ++ vs.drop (own_held ln (own_lead (cs.take ln)) mx))) 152 #[.val (.ref f), .val (.ref a), .val (.int (0 : Int32)), .val (.int (Int32.ofNat ln)), .val (.int mx), .val (.int (Int32.ofNat (own_lead (cs.take ln)))), .val (.int (Int32.ofNat ln)), .val (.int (Int32.ofNat (own_held ln (own_lead (cs.take ln)) mx))), .val (.int (Int32.ofNat i))] [] hh 0 0 := by
        intro t
        induction t with
        | zero =>
          intro i hh cu hti szh kph Eh Fth Flh Fch Flnh Fclh Fmh Aah Ath
          refine Run.iload d6_152 rfl (pc' := 154) rfl ?_
          refine Run.iload d6_154 rfl (pc' := 156) rfl ?_
          refine Run.icmp_ge d6_156 (by decide) (pc' := 191) (by decide) (pa := 159) rfl (fun hc156 => ?_) (fun hc156 => ?_)
          · -- pc 156 taken: ¬ (Int32.ofNat i) < (Int32.ofNat ln)
            refine Run.iload d6_191 rfl (pc' := 193) rfl ?_
            exact Run.ireturn d6_193 rfl (by decide) (by decide) ⟨_, rfl, rfl, kph, Fth, Flh, ⟨_, Fch⟩, Flnh, Fclh, Fmh, Ath⟩
          · -- pc 156 not taken: (Int32.ofNat i) < (Int32.ofNat ln)
            exact absurd ((own_lt (by omega) (by omega)).mp hc156) (by omega)
        | succ t ih =>
          intro i hh cu hti szh kph Eh Fth Flh Fch Flnh Fclh Fmh Aah Ath
          refine Run.iload d6_152 rfl (pc' := 154) rfl ?_
          refine Run.iload d6_154 rfl (pc' := 156) rfl ?_
          refine Run.icmp_ge d6_156 (by decide) (pc' := 191) (by decide) (pa := 159) rfl (fun hc156 => ?_) (fun hc156 => ?_)
          · -- pc 156 taken: ¬ (Int32.ofNat i) < (Int32.ofNat ln)
            exact absurd ((own_lt (by omega) (by omega)).mpr (by omega)) hc156
          · -- pc 156 not taken: (Int32.ofNat i) < (Int32.ofNat ln)
            refine Run.aloadN d6_159 rfl rfl (pc' := 160) rfl ?_
            refine Run.getF d6_160 (host := "") (Or.inl (hw _ (List.mem_of_getElem? (i := 29) rfl))) Via.refl Fch (pc' := 163) rfl ?_
            refine Run.if_ne d6_163 (by decide) (pc' := 191) (by decide) (pa := 166) rfl (fun hc163 => ?_) (fun hc163 => ?_)
            · -- pc 163 taken: ¬ cu = (0 : Int32)
              refine Run.iload d6_191 rfl (pc' := 193) rfl ?_
              exact Run.ireturn d6_193 rfl (by decide) (by decide) ⟨_, rfl, rfl, kph, Fth, Flh, ⟨_, Fch⟩, Flnh, Fclh, Fmh, Ath⟩
            · -- pc 163 not taken: cu = (0 : Int32)
              refine Run.aloadN d6_166 rfl rfl (pc' := 167) rfl ?_
              refine Run.aloadN d6_167 rfl rfl (pc' := 168) rfl ?_
              refine Run.iload d6_168 rfl (pc' := 170) rfl ?_
              refine Run.caload (i := i) (v := (.int (cs.getD i 0))) d6_170 Aah (own_ofn (by omega)) (own_gm (by omega)) (pc' := 171) rfl ?_
              refine Run.callS (k' := 0) (n' := 0) (as := [(.int (cs.getD i 0))]) (rest := [(.ref f)]) (con_own_isp l Z a0 hw n0 hh szh (cs.getD i 0) ) d6_171 (hw _ (List.mem_of_getElem? (i := 96) rfl)) (hw _ (List.mem_of_getElem? (i := 97) rfl)) (hw _ (List.mem_of_getElem? (i := 7) rfl)) (hw _ (List.mem_of_getElem? (i := 98) rfl)) (by decide) pd__C_Z rfl rfl rfl (by decide) (by show (1 : Nat) + (1 + 11) + 0 ≤ _; decide) (by decide) (by decide) (by decide) (by decide) (pc' := 174) rfl ?_
              rintro _ _ ⟨_, rfl, rfl, rfl⟩
              show Run l Z n0 "com/example/mappa/mappa/core/FieldText" prog_32_method_8_code 9 (some .int) "append" ({ frames := 1, cells := 0, slots := 0, locals := 30 } : Room) _ 174 #[.val (.ref f), .val (.ref a), .val (.int (0 : Int32)), .val (.int (Int32.ofNat ln)), .val (.int mx), .val (.int (Int32.ofNat (own_lead (cs.take ln)))), .val (.int (Int32.ofNat ln)), .val (.int (Int32.ofNat (own_held ln (own_lead (cs.take ln)) mx))), .val (.int (Int32.ofNat i))] [(.int (own_isp (cs.getD i 0))), (.ref f)] hh 0 0
              refine Run.if_ne d6_174 (by decide) (pc' := 181) (by decide) (pa := 177) rfl (fun hc174 => ?_) (fun hc174 => ?_)
              · -- pc 174 taken: ¬ (own_isp (cs.getD i 0)) = (0 : Int32)
                refine Run.iconst (0 : Int32) d6_181 (by decide) (pc' := 182) rfl ?_
                refine Run.putFN d6_182 (hw _ (List.mem_of_getElem? (i := 29) rfl)) Via.refl Fch Eh (Or.inl (hw _ (List.mem_of_getElem? (i := 30) rfl))) (hw _ (List.mem_of_getElem? (i := 6) rfl)) (ty := .boolean) (v' := (.int (0 : Int32))) (by decide) rfl rfl gf (pc' := 185) rfl ?_
                intro h13 W13
                have Fw13 := Fch.same W13
                have E_f_13 := Eh.wr W13
                have F_f_text_13 := Fth.other W13 (Or.inr (slot_ne (Or.inl (hw _ (List.mem_of_getElem? (i := 15) rfl))) (Or.inl (hw _ (List.mem_of_getElem? (i := 30) rfl))) (by decide) (t := (.array .char)) (t' := .boolean) (by decide) (by decide)))
                have F_f_textLength_13 := Flh.other W13 (Or.inr (slot_ne (Or.inl (hw _ (List.mem_of_getElem? (i := 28) rfl))) (Or.inl (hw _ (List.mem_of_getElem? (i := 30) rfl))) (by decide) (t := .int) (t' := .boolean) (by decide) (by decide)))
                have F_f_line_13 := Flnh.other W13 (Or.inr (slot_ne (Or.inl (hw _ (List.mem_of_getElem? (i := 22) rfl))) (Or.inl (hw _ (List.mem_of_getElem? (i := 30) rfl))) (by decide) (t := .int) (t' := .boolean) (by decide) (by decide)))
                have F_f_column_13 := Fclh.other W13 (Or.inr (slot_ne (Or.inl (hw _ (List.mem_of_getElem? (i := 24) rfl))) (Or.inl (hw _ (List.mem_of_getElem? (i := 30) rfl))) (by decide) (t := .int) (t' := .boolean) (by decide) (by decide)))
                have F_f_max_13 := Fmh.other W13 (Or.inr (slot_ne (Or.inl (hw _ (List.mem_of_getElem? (i := 26) rfl))) (Or.inl (hw _ (List.mem_of_getElem? (i := 30) rfl))) (by decide) (t := .int) (t' := .boolean) (by decide) (by decide)))
                have A_a_13 := Aah.other W13 (Ne.symm hfa)
                have A_tx_13 := Ath.other W13 (Ne.symm hft)
                have sz13 : n0 ≤ h13.size := by rw [W13.size]; exact szh
                have kp13 := Keep.wr kph W13 (Or.inl (List.mem_of_getElem? (i := 0) rfl))
                refine Run.iinc (1 : Int32) #[.val (.ref f), .val (.ref a), .val (.int (0 : Int32)), .val (.int (Int32.ofNat ln)), .val (.int mx), .val (.int (Int32.ofNat (own_lead (cs.take ln)))), .val (.int (Int32.ofNat ln)), .val (.int (Int32.ofNat (own_held ln (own_lead (cs.take ln)) mx))), .val (.int ((Int32.ofNat i) + (1 : Int32)))] d6_185 (by decide) rfl rfl (pc' := 188) rfl ?_
                refine Run.goto d6_188 (by decide) (pc' := 152) (by decide) ?_
                rw [own_inc]
                exact ih (i + 1) h13 (0 : Int32) (by omega) sz13 kp13 E_f_13 F_f_text_13 F_f_textLength_13 Fw13 F_f_line_13 F_f_column_13 F_f_max_13 A_a_13 A_tx_13
              · -- pc 174 not taken: (own_isp (cs.getD i 0)) = (0 : Int32)
                refine Run.iconst (1 : Int32) d6_177 (by decide) (pc' := 178) rfl ?_
                refine Run.goto d6_178 (by decide) (pc' := 182) (by decide) ?_
                refine Run.putFN d6_182 (hw _ (List.mem_of_getElem? (i := 29) rfl)) Via.refl Fch Eh (Or.inl (hw _ (List.mem_of_getElem? (i := 30) rfl))) (hw _ (List.mem_of_getElem? (i := 6) rfl)) (ty := .boolean) (v' := (.int (1 : Int32))) (by decide) rfl rfl gf (pc' := 185) rfl ?_
                intro h14 W14
                have Fw14 := Fch.same W14
                have E_f_14 := Eh.wr W14
                have F_f_text_14 := Fth.other W14 (Or.inr (slot_ne (Or.inl (hw _ (List.mem_of_getElem? (i := 15) rfl))) (Or.inl (hw _ (List.mem_of_getElem? (i := 30) rfl))) (by decide) (t := (.array .char)) (t' := .boolean) (by decide) (by decide)))
                have F_f_textLength_14 := Flh.other W14 (Or.inr (slot_ne (Or.inl (hw _ (List.mem_of_getElem? (i := 28) rfl))) (Or.inl (hw _ (List.mem_of_getElem? (i := 30) rfl))) (by decide) (t := .int) (t' := .boolean) (by decide) (by decide)))
                have F_f_line_14 := Flnh.other W14 (Or.inr (slot_ne (Or.inl (hw _ (List.mem_of_getElem? (i := 22) rfl))) (Or.inl (hw _ (List.mem_of_getElem? (i := 30) rfl))) (by decide) (t := .int) (t' := .boolean) (by decide) (by decide)))
                have F_f_column_14 := Fclh.other W14 (Or.inr (slot_ne (Or.inl (hw _ (List.mem_of_getElem? (i := 24) rfl))) (Or.inl (hw _ (List.mem_of_getElem? (i := 30) rfl))) (by decide) (t := .int) (t' := .boolean) (by decide) (by decide)))
                have F_f_max_14 := Fmh.other W14 (Or.inr (slot_ne (Or.inl (hw _ (List.mem_of_getElem? (i := 26) rfl))) (Or.inl (hw _ (List.mem_of_getElem? (i := 30) rfl))) (by decide) (t := .int) (t' := .boolean) (by decide) (by decide)))
                have A_a_14 := Aah.other W14 (Ne.symm hfa)
                have A_tx_14 := Ath.other W14 (Ne.symm hft)
                have sz14 : n0 ≤ h14.size := by rw [W14.size]; exact szh
                have kp14 := Keep.wr kph W14 (Or.inl (List.mem_of_getElem? (i := 0) rfl))
                refine Run.iinc (1 : Int32) #[.val (.ref f), .val (.ref a), .val (.int (0 : Int32)), .val (.int (Int32.ofNat ln)), .val (.int mx), .val (.int (Int32.ofNat (own_lead (cs.take ln)))), .val (.int (Int32.ofNat ln)), .val (.int (Int32.ofNat (own_held ln (own_lead (cs.take ln)) mx))), .val (.int ((Int32.ofNat i) + (1 : Int32)))] d6_185 (by decide) rfl rfl (pc' := 188) rfl ?_
                refine Run.goto d6_188 (by decide) (pc' := 152) (by decide) ?_
                rw [own_inc]
                exact ih (i + 1) h14 (1 : Int32) (by omega) sz14 kp14 E_f_14 F_f_text_14 F_f_textLength_14 Fw14 F_f_line_14 F_f_column_14 F_f_max_14 A_a_14 A_tx_14
      exact loop (ln - ((own_lead (cs.take ln)) + (own_held ln (own_lead (cs.take ln)) mx))) _ h12 _ (by omega) sz12 kp12 E_f_12 F_f_text_12 Fw12 F_f_cut_12 F_f_line_12 F_f_column_12 F_f_max_12 A_a_12 A_tx_12
    · -- pc 74 not taken: (64 : Int32) < (Int32.ofNat (own_held ln (own_lead (cs.take ln)) mx))
      exact absurd ((own_lt (i := 64) (by omega) (by omega)).mp hc74) (by omega)
  have loop : ∀ (t i : Nat), t + i = ln → i + own_lead ((cs.take ln).drop i) = (own_lead (cs.take ln)) → Run l Z n0 "com/example/mappa/mappa/core/FieldText" prog_32_method_8_code 9 (some .int) "append" ({ frames := 1, cells := 0, slots := 0, locals := 30 } : Room) (Val fun w h' => .int (Int32.ofNat (own_held ln (own_lead (cs.take ln)) mx)) = w ∧ Keep h0 h' [f, tx] ∧ Fld Z h' f "com/example/mappa/mappa/core/FieldText" "text" "[C" (.ref tx) ∧ Fld Z h' f "com/example/mappa/mappa/core/FieldText" "textLength" "I" (.int (Int32.ofNat (own_held ln (own_lead (cs.take ln)) mx))) ∧ (∃ k, Fld Z h' f "com/example/mappa/mappa/core/FieldText" "cut" "Z" k) ∧ Fld Z h' f "com/example/mappa/mappa/core/FieldText" "line" "I" ul ∧ Fld Z h' f "com/example/mappa/mappa/core/FieldText" "column" "I" uc ∧ Fld Z h' f "com/example/mappa/mappa/core/FieldText" "max" "I" (.int mx) ∧ Ary Z h' tx .char (((cs.map Value.int).drop (own_lead (cs.take ln))).take (own_held ln (own_lead (cs.take ln)) mx) ++ vs.drop (own_held ln (own_lead (cs.take ln)) mx))) 8 #[.val (.ref f), .val (.ref a), .val (.int (0 : Int32)), .val (.int (Int32.ofNat ln)), .val (.int mx), .val (.int (Int32.ofNat i)), .val (.int (Int32.ofNat ln)), .unset, .unset] [] h0 0 0 := by
    intro t
    induction t with
    | zero =>
      intro i hti hiv
      refine Run.aloadN d6_8 rfl rfl (pc' := 9) rfl ?_
      refine Run.getF d6_9 (host := "") (Or.inl (hw _ (List.mem_of_getElem? (i := 27) rfl))) Via.refl Ftl (pc' := 12) rfl ?_
      refine Run.if_ne d6_12 (by decide) (pc' := 38) (by decide) (pa := 15) rfl (fun hc12 => ?_) (fun hc12 => ?_)
      · -- pc 12 taken: ¬ (0 : Int32) = (0 : Int32)
        exact absurd hc12 (by decide)
      · -- pc 12 not taken: (0 : Int32) = (0 : Int32)
        refine Run.iload d6_15 rfl (pc' := 17) rfl ?_
        refine Run.iload d6_17 rfl (pc' := 19) rfl ?_
        refine Run.icmp_ge d6_19 (by decide) (pc' := 38) (by decide) (pa := 22) rfl (fun hc19 => ?_) (fun hc19 => ?_)
        · -- pc 19 taken: ¬ (Int32.ofNat i) < (Int32.ofNat ln)
          have hi : i = (own_lead (cs.take ln)) := by rw [← hiv, own_lead_end (by rw [List.length_take]; omega)]; rfl
          rw [hi]; exact rest
        · -- pc 19 not taken: (Int32.ofNat i) < (Int32.ofNat ln)
          exact absurd ((own_lt (by omega) (by omega)).mp hc19) (by omega)
    | succ t ih =>
      intro i hti hiv
      refine Run.aloadN d6_8 rfl rfl (pc' := 9) rfl ?_
      refine Run.getF d6_9 (host := "") (Or.inl (hw _ (List.mem_of_getElem? (i := 27) rfl))) Via.refl Ftl (pc' := 12) rfl ?_
      refine Run.if_ne d6_12 (by decide) (pc' := 38) (by decide) (pa := 15) rfl (fun hc12 => ?_) (fun hc12 => ?_)
      · -- pc 12 taken: ¬ (0 : Int32) = (0 : Int32)
        exact absurd hc12 (by decide)
      · -- pc 12 not taken: (0 : Int32) = (0 : Int32)
        refine Run.iload d6_15 rfl (pc' := 17) rfl ?_
        refine Run.iload d6_17 rfl (pc' := 19) rfl ?_
        refine Run.icmp_ge d6_19 (by decide) (pc' := 38) (by decide) (pa := 22) rfl (fun hc19 => ?_) (fun hc19 => ?_)
        · -- pc 19 taken: ¬ (Int32.ofNat i) < (Int32.ofNat ln)
          exact absurd ((own_lt (by omega) (by omega)).mpr (by omega)) hc19
        · -- pc 19 not taken: (Int32.ofNat i) < (Int32.ofNat ln)
          refine Run.aloadN d6_22 rfl rfl (pc' := 23) rfl ?_
          refine Run.iload d6_23 rfl (pc' := 25) rfl ?_
          refine Run.caload (i := i) (v := (.int (cs.getD i 0))) d6_25 AC (own_ofn (by omega)) (own_gm (by omega)) (pc' := 26) rfl ?_
          refine Run.callS (k' := 0) (n' := 0) (as := [(.int (cs.getD i 0))]) (rest := []) (con_own_isp l Z a0 hw n0 h0 Z0 (cs.getD i 0) ) d6_26 (hw _ (List.mem_of_getElem? (i := 96) rfl)) (hw _ (List.mem_of_getElem? (i := 97) rfl)) (hw _ (List.mem_of_getElem? (i := 7) rfl)) (hw _ (List.mem_of_getElem? (i := 98) rfl)) (by decide) pd__C_Z rfl rfl rfl (by decide) (by show (0 : Nat) + (1 + 11) + 0 ≤ _; decide) (by decide) (by decide) (by decide) (by decide) (pc' := 29) rfl ?_
          rintro _ _ ⟨_, rfl, rfl, rfl⟩
          show Run l Z n0 "com/example/mappa/mappa/core/FieldText" prog_32_method_8_code 9 (some .int) "append" ({ frames := 1, cells := 0, slots := 0, locals := 30 } : Room) _ 29 #[.val (.ref f), .val (.ref a), .val (.int (0 : Int32)), .val (.int (Int32.ofNat ln)), .val (.int mx), .val (.int (Int32.ofNat i)), .val (.int (Int32.ofNat ln)), .unset, .unset] [(.int (own_isp (cs.getD i 0)))] h0 0 0
          refine Run.if_eq d6_29 (by decide) (pc' := 38) (by decide) (pa := 32) rfl (fun hc29 => ?_) (fun hc29 => ?_)
          · -- pc 29 taken: (own_isp (cs.getD i 0)) = (0 : Int32)
            have hi : i = (own_lead (cs.take ln)) := by rw [← hiv, own_lead_at (by rw [List.length_take]; omega), own_gt (by omega), if_pos hc29]; rfl
            rw [hi]; exact rest
          · -- pc 29 not taken: ¬ (own_isp (cs.getD i 0)) = (0 : Int32)
            refine Run.iinc (1 : Int32) #[.val (.ref f), .val (.ref a), .val (.int (0 : Int32)), .val (.int (Int32.ofNat ln)), .val (.int mx), .val (.int ((Int32.ofNat i) + (1 : Int32))), .val (.int (Int32.ofNat ln)), .unset, .unset] d6_32 (by decide) rfl rfl (pc' := 35) rfl ?_
            refine Run.goto d6_35 (by decide) (pc' := 8) (by decide) ?_
            rw [own_inc]
            exact ih (i + 1) (by omega) (by have q := own_lead_at (cs := cs.take ln) (i := i) (by rw [List.length_take]; omega); rw [own_gt (by omega), if_neg hc29] at q; omega)
  exact loop ln 0 (by omega) (by rw [List.drop_zero]; omega)
theorem d5_0 : decode prog_32_method_7_code 0 = .ok (.aload_n 0, 1) := by decide +kernel
theorem d5_1 : decode prog_32_method_7_code 1 = .ok (.aload_n 1, 1) := by decide +kernel
theorem d5_2 : decode prog_32_method_7_code 2 = .ok (.iload_n 2, 1) := by decide +kernel
theorem d5_3 : decode prog_32_method_7_code 3 = .ok (.iload_n 3, 1) := by decide +kernel
theorem d5_4 : decode prog_32_method_7_code 4 = .ok (.aload_n 0, 1) := by decide +kernel
theorem d5_5 : decode prog_32_method_7_code 5 = .ok (.getfield 24, 3) := by decide +kernel
theorem d5_8 : decode prog_32_method_7_code 8 = .ok (.invokevirtual 34, 3) := by decide +kernel
theorem d5_11 : decode prog_32_method_7_code 11 = .ok (.pop, 1) := by decide +kernel
theorem d5_12 : decode prog_32_method_7_code 12 = .ok (.return_, 1) := by decide +kernel
theorem pn_5 : plainFor (⟨"com/example/mappa/mappa/core/FieldText", "append", "([CII)V"⟩ : MethodName) = true := plainFor_of_name (by first | (simp [plainName, overriddenIn]; done) | decide +kernel)
theorem pd___CIII_I : parseMethodDescriptor "([CIII)I" = some ⟨[(.array .char), .int, .int, .int], some .int⟩ := by decide +kernel
theorem ef_con_ap3 (m : MethodId) (f a tx : Addr) (cs : List Int32) (vs : List Value) (ln : Nat) (mx : Int32) (ul uc : Value)  : entryFrame m #[(.ref f), (.ref a), (.int (0 : Int32)), (.int (Int32.ofNat ln))] 4 = mkF m 0 #[.val (.ref f), .val (.ref a), .val (.int (0 : Int32)), .val (.int (Int32.ofNat ln))] [] := by first | (simp [entryFrame, mkF, argsToLocals, Value.category]; done) | rfl
set_option maxRecDepth 65536 in
set_option maxHeartbeats 40000000 in
theorem con_ap3 (l : Launch) (Z : State) (a0 : Array Value) (hw : ∀ d ∈ tables_1, d.before a0 Z = true) (n0 : Nat) (h0 : Heap) (Z0 : n0 ≤ h0.size) (f a tx : Addr) (cs : List Int32) (vs : List Value) (ln : Nat) (mx : Int32) (ul uc : Value) (E1 : Exa Z h0 f "com/example/mappa/mappa/core/FieldText") (gf : n0 ≤ f) (gt : n0 ≤ tx) (Ftx : Fld Z h0 f "com/example/mappa/mappa/core/FieldText" "text" "[C" (.ref tx)) (Ftl : Fld Z h0 f "com/example/mappa/mappa/core/FieldText" "textLength" "I" (.int (0 : Int32))) (Fm : Fld Z h0 f "com/example/mappa/mappa/core/FieldText" "max" "I" (.int mx)) (Fk : Fld Z h0 f "com/example/mappa/mappa/core/FieldText" "cut" "Z" (.int (0 : Int32))) (Fln : Fld Z h0 f "com/example/mappa/mappa/core/FieldText" "line" "I" ul) (Fcl : Fld Z h0 f "com/example/mappa/mappa/core/FieldText" "column" "I" uc) (AC : Ary Z h0 a .char (cs.map Value.int)) (AT : Ary Z h0 tx .char vs) (hfa : f ≠ a) (hft : f ≠ tx) (hat : a ≠ tx) (hv : vs.length = 64) (hln : ln ≤ cs.length) (hcs : cs.length ≤ 64) (hm : 0 ≤ mx.toInt ∧ mx.toInt ≤ 64) (fc : ∀ v ∈ cs.map Value.int, fits .char v = true) (fv : ∀ v ∈ vs, fits .char v = true) :
    Con l Z n0 (⟨"com/example/mappa/mappa/core/FieldText", "append", "([CII)V"⟩ : MethodName) prog_32_method_7_code 4 none ({ frames := 2, cells := 0, slots := 0, locals := 50 } : Room) #[(.ref f), (.ref a), (.int (0 : Int32)), (.int (Int32.ofNat ln))] h0 (Vd fun h' => Keep h0 h' [f, tx] ∧ Fld Z h' f "com/example/mappa/mappa/core/FieldText" "text" "[C" (.ref tx) ∧ Fld Z h' f "com/example/mappa/mappa/core/FieldText" "textLength" "I" (.int (Int32.ofNat (own_held ln (own_lead (cs.take ln)) mx))) ∧ (∃ k, Fld Z h' f "com/example/mappa/mappa/core/FieldText" "cut" "Z" k) ∧ Fld Z h' f "com/example/mappa/mappa/core/FieldText" "line" "I" ul ∧ Fld Z h' f "com/example/mappa/mappa/core/FieldText" "column" "I" uc ∧ Fld Z h' f "com/example/mappa/mappa/core/FieldText" "max" "I" (.int mx) ∧ Ary Z h' tx .char (((cs.map Value.int).drop (own_lead (cs.take ln))).take (own_held ln (own_lead (cs.take ln)) mx) ++ vs.drop (own_held ln (own_lead (cs.take ln)) mx))) := by
  refine Con.of_run pn_5 (fun m => ef_con_ap3 m f a tx cs vs ln mx ul uc ) ?_
  refine Run.aloadN d5_0 rfl rfl (pc' := 1) rfl ?_
  refine Run.aloadN d5_1 rfl rfl (pc' := 2) rfl ?_
  refine Run.iloadN d5_2 rfl (pc' := 3) rfl ?_
  refine Run.iloadN d5_3 rfl (pc' := 4) rfl ?_
  refine Run.aloadN d5_4 rfl rfl (pc' := 5) rfl ?_
  refine Run.getF d5_5 (host := "") (Or.inl (hw _ (List.mem_of_getElem? (i := 25) rfl))) Via.refl Fm (pc' := 8) rfl ?_
  refine Run.callV (k' := 0) (n' := 0) (a := f) (as := [(.ref a), (.int (0 : Int32)), (.int (Int32.ofNat ln)), (.int mx)]) (rest := []) (con_ap4 l Z a0 hw n0 h0 Z0 f a tx cs vs ln mx ul uc E1 gf gt Ftx Ftl Fm Fk Fln Fcl AC AT hfa hft hat hv hln hcs hm fc fv) E1 d5_8 (hw _ (List.mem_of_getElem? (i := 36) rfl)) (hw _ (List.mem_of_getElem? (i := 37) rfl)) (fun s hZ => notFace_of_selects (args := #[]) (mvT hZ (hw _ (List.mem_of_getElem? (i := 39) rfl)))) (hw _ (List.mem_of_getElem? (i := 39) rfl)) (hw _ (List.mem_of_getElem? (i := 38) rfl)) (hw _ (List.mem_of_getElem? (i := 7) rfl)) (hw _ (List.mem_of_getElem? (i := 40) rfl)) (by decide) pd___CIII_I rfl rfl rfl (by decide) (by show (0 : Nat) + (9 + 11) + 30 ≤ _; decide) (by decide) (by decide) (by decide) (by decide) (pc' := 11) rfl ?_
  rintro _ h11 ⟨_, rfl, ⟨rfl, K11, PT11, PL11, ⟨k11, PK11⟩, Pln11, Pcl11, Pmx11, PA11⟩⟩
  show Run l Z n0 "com/example/mappa/mappa/core/FieldText" prog_32_method_7_code 4 none "append" ({ frames := 2, cells := 0, slots := 0, locals := 50 } : Room) _ 11 #[.val (.ref f), .val (.ref a), .val (.int (0 : Int32)), .val (.int (Int32.ofNat ln))] [(.int (Int32.ofNat (own_held ln (own_lead (cs.take ln)) mx)))] h11 0 0
  have E_f_11 := E1.keep K11
  have A_a_11 := AC.keep K11 (ninS (Ne.symm hfa) (ninS hat nin0))
  have sz11 : n0 ≤ h11.size := Nat.le_trans Z0 K11.1
  have kp11 := Keep.trans (Keep.refl h0 [f, tx]) K11 (allS (Or.inl (List.mem_of_getElem? (i := 0) rfl)) (allS (Or.inl (List.mem_of_getElem? (i := 1) rfl)) all0))
  refine Run.pop d5_11 rfl (pc' := 12) rfl ?_
  exact Run.vreturn d5_12 rfl (by decide) (by decide) ⟨rfl, kp11, PT11, PL11, ⟨_, PK11⟩, Pln11, Pcl11, Pmx11, PA11⟩
def own_chr (cs : List Int32) : Prop := ∀ c ∈ cs, 0 ≤ c.toInt ∧ c.toInt ≤ 65535
def own_by (cs : List Int32) : List Value := cs.map fun c => Value.int (nar .byte c)
def own_b0 (c : Int32) : Int32 := nar .byte (c >>> ((0 : Int32) &&& 31))
def own_b1 (c : Int32) : Int32 := nar .byte (c >>> ((8 : Int32) &&& 31))
def own_u16 (cs : List Int32) : List Value := cs.flatMap fun c => [Value.int (own_b0 c), Value.int (own_b1 c)]
def own_pfx : List Int32 → Nat
  | [] => 0
  | c :: r => if (255 : Int32) < c then 0 else own_pfx r + 1
def own_enc (cs : List Int32) : List Value := if own_pfx cs = cs.length then own_by cs else own_u16 cs
def own_coder (cs : List Int32) : Int32 := if own_pfx cs = cs.length then 0 else 1
def own_gc (x y : Int32) : Int32 := nar .char (nar .char (((x &&& (255 : Int32)) <<< ((0 : Int32) &&& 31)) ||| ((y &&& (255 : Int32)) <<< ((8 : Int32) &&& 31))))
theorem own_nbb (x : Int32) : nar .byte (nar .byte x) = nar .byte x := by simp [nar]
theorem own_ncc (x : Int32) : nar .char (nar .char x) = nar .char x := by simp only [nar, UInt32.toUInt32_toInt32, UInt16.toUInt16_toUInt32]
theorem own_pfx_le : ∀ r : List Int32, own_pfx r ≤ r.length
  | [] => Nat.le_refl _
  | c :: r => by unfold own_pfx; split; omega; have := own_pfx_le r; simp; omega
theorem own_pfx_end {cs : List Int32} {i : Nat} (h : cs.length ≤ i) : own_pfx (cs.drop i) = 0 := by rw [List.drop_eq_nil_of_le h]; rfl
theorem own_gD {cs : List Int32} {i : Nat} (h : i < cs.length) : cs.getD i 0 = cs[i] := by simp [List.getD_eq_getElem?_getD, h]
theorem own_pfx_at {cs : List Int32} {i : Nat} (h : i < cs.length) : own_pfx (cs.drop i) = if (255 : Int32) < cs.getD i 0 then 0 else own_pfx (cs.drop (i + 1)) + 1 := by
  rw [List.drop_eq_getElem_cons h, own_gD h]; rfl
theorem own_pfx_stop {cs : List Int32} (h : ¬ own_pfx cs = cs.length) : own_pfx cs < cs.length ∧ (255 : Int32) < cs.getD (own_pfx cs) 0 := by
  induction cs with
  | nil => exact absurd rfl h
  | cons c r ih =>
    unfold own_pfx at h ⊢
    split at h
    · rename_i q; rw [if_pos q]; exact ⟨by simp, q⟩
    · rename_i q; rw [if_neg q]
      obtain ⟨h1, h2⟩ := ih (fun e => h (by simp [e]))
      exact ⟨by simp; omega, by simpa [List.getD_cons_succ] using h2⟩
theorem own_u16_len (cs : List Int32) : (own_u16 cs).length = 2 * cs.length := by
  induction cs with
  | nil => rfl
  | cons c r ih => simp only [own_u16, List.flatMap_cons, List.length_append] at ih ⊢; rw [ih]; simp; omega
theorem own_u16_cons (c : Int32) (r : List Int32) : own_u16 (c :: r) = Value.int (own_b0 c) :: Value.int (own_b1 c) :: own_u16 r := by simp [own_u16]
theorem own_u16_get {cs : List Int32} {i : Nat} (h : i < cs.length) : (own_u16 cs)[2 * i]? = some (Value.int (own_b0 (cs.getD i 0))) ∧ (own_u16 cs)[2 * i + 1]? = some (Value.int (own_b1 (cs.getD i 0))) := by
  induction cs generalizing i with
  | nil => simp at h
  | cons c r ih =>
    rw [own_u16_cons]
    cases i with
    | zero => exact ⟨rfl, rfl⟩
    | succ i =>
      have := ih (i := i) (by simpa using h)
      rw [show 2 * (i + 1) = (2 * i + 1) + 1 by omega, List.getElem?_cons_succ, List.getElem?_cons_succ, List.getElem?_cons_succ, List.getElem?_cons_succ, List.getD_cons_succ]
      exact this
theorem own_u16_app (a b : List Int32) : own_u16 (a ++ b) = own_u16 a ++ own_u16 b := by simp [own_u16]
theorem own_by_get {cs : List Int32} {i : Nat} (h : i < cs.length) : (own_by cs)[i]? = some (Value.int (nar .byte (cs.getD i 0))) := by rw [own_gD h]; simp [own_by, h]
theorem own_u16_set {cs : List Int32} {i : Nat} (h : i < cs.length) :
    ((own_u16 (cs.take i) ++ List.replicate (2 * (cs.length - i)) (Value.int (0 : Int32))).set (2 * i) (Value.int (own_b0 (cs.getD i 0)))).set (2 * i + 1) (Value.int (own_b1 (cs.getD i 0))) = own_u16 (cs.take (i + 1)) ++ List.replicate (2 * (cs.length - (i + 1))) (Value.int (0 : Int32)) := by
  have e1 : 2 * (cs.length - i) = (2 * (cs.length - (i + 1)) + 1) + 1 := by omega
  have l1 : (own_u16 (cs.take i)).length = 2 * i := by rw [own_u16_len, List.length_take]; omega
  rw [e1, List.replicate_succ, List.replicate_succ, List.set_append_right _ _ (by omega), l1, Nat.sub_self, List.set_cons_zero, List.set_append_right _ _ (by omega), l1, show 2 * i + 1 - 2 * i = 1 by omega, List.set_cons_succ, List.set_cons_zero, List.take_succ_eq_append_getElem h, own_u16_app, own_gD h]
  simp [own_u16]
theorem own_by_set {cs : List Int32} {i : Nat} (h : i < cs.length) :
    ((own_by (cs.take i)) ++ List.replicate (cs.length - i) (Value.int (0 : Int32))).set i (Value.int (nar .byte (cs.getD i 0))) = own_by (cs.take (i + 1)) ++ List.replicate (cs.length - (i + 1)) (Value.int (0 : Int32)) := by
  have e1 : cs.length - i = (cs.length - (i + 1)) + 1 := by omega
  have l1 : (own_by (cs.take i)).length = i := by simp [own_by]; omega
  rw [e1, List.replicate_succ, List.set_append_right _ _ (by omega), l1, Nat.sub_self, List.set_cons_zero, List.take_succ_eq_append_getElem h, own_gD h]
  simp only [own_by, List.map_append, List.map_cons, List.map_nil, List.append_assoc, List.cons_append, List.nil_append]
theorem own_chrD {cs : List Int32} (h : own_chr cs) {i : Nat} (hi : i < cs.length) : 0 ≤ (cs.getD i 0).toInt ∧ (cs.getD i 0).toInt ≤ 65535 := by rw [own_gD hi]; exact h _ (List.getElem_mem hi)
theorem own_gcb {c : Int32} (h : 0 ≤ c.toInt ∧ c.toInt ≤ 65535) : own_gc (own_b0 c) (own_b1 c) = c := by
  apply Int32.toInt_inj.mp
  have s0 := c_ishr c 0 0 (by decide)
  have s1 := c_ishr c 8 8 (by decide)
  have b0 := c_i2b (c >>> ((0 : Int32) &&& 31))
  have b1 := c_i2b (c >>> ((8 : Int32) &&& 31))
  have m0 := c_mask (own_b0 c) 255 8 (by decide) (by decide)
  have m1 := c_mask (own_b1 c) 255 8 (by decide) (by decide)
  have l0 := c_ishl (own_b0 c &&& 255) 0 0 (by decide)
  have l1 := c_ishl (own_b1 c &&& 255) 8 8 (by decide)
  have r0 := rng32 ((own_b0 c &&& 255) <<< ((0 : Int32) &&& 31))
  have r1 := rng32 ((own_b1 c &&& 255) <<< ((8 : Int32) &&& 31))
  change ((own_b0 c).toInt - _) % 256 = 0 ∧ _ at b0
  change ((own_b1 c).toInt - _) % 256 = 0 ∧ _ at b1
  simp only [Nat.reducePow, Int.mul_one] at s0 s1 m0 m1 l0 l1
  have o := c_or' ((own_b0 c &&& 255) <<< ((0 : Int32) &&& 31)) ((own_b1 c &&& 255) <<< ((8 : Int32) &&& 31)) 8 (by decide) 256 (by decide) (by omega) (by omega) (by omega)
  unfold own_gc
  rw [own_ncc]
  have q := c_i2c (((own_b0 c &&& (255 : Int32)) <<< ((0 : Int32) &&& 31)) ||| ((own_b1 c &&& (255 : Int32)) <<< ((8 : Int32) &&& 31)))
  change ((nar .char _).toInt - _) % 65536 = 0 ∧ 0 ≤ (nar .char _).toInt ∧ (nar .char _).toInt < 65536 at q
  omega
theorem own_latc {c : Int32} (h0 : 0 ≤ c.toInt) (h : ¬ (255 : Int32) < c) : nar .char (nar .char (nar .byte c &&& (255 : Int32))) = c := by
  apply Int32.toInt_inj.mp
  rw [Int32.lt_iff_toInt_lt] at h; have e : (255 : Int32).toInt = 255 := rfl
  have b := c_i2b c; have m := c_mask (nar .byte c) 255 8 (by decide) (by decide); have q := c_i2c (nar .byte c &&& 255)
  change ((nar .byte c).toInt - _) % 256 = 0 ∧ _ at b
  change ((nar .char _).toInt - _) % 65536 = 0 ∧ 0 ≤ (nar .char _).toInt ∧ (nar .char _).toInt < 65536 at q
  simp only [Nat.reducePow] at m
  rw [own_ncc]; omega
theorem own_pfx_all {cs : List Int32} (h : own_pfx cs = cs.length) {i : Nat} (hi : i < cs.length) : ¬ (255 : Int32) < cs.getD i 0 := by
  induction cs generalizing i with
  | nil => simp at hi
  | cons c r ih =>
    unfold own_pfx at h
    split at h
    · simp at h
    · rename_i q
      cases i with
      | zero => simpa using q
      | succ i => rw [List.getD_cons_succ]; exact ih (by simpa using h) (by simpa using hi)
theorem own_shl1 {n : Nat} (h : n < 2 ^ 30) : Int32.ofNat n <<< ((1 : Int32) &&& 31) = Int32.ofNat (2 * n) := by
  apply Int32.toInt_inj.mp
  have a := c_ishl (Int32.ofNat n) 1 1 (by decide); have b := own_ofn (i := n) (by omega); have c := own_ofn (i := 2 * n) (by omega); have d := rng32 (Int32.ofNat n <<< ((1 : Int32) &&& 31))
  simp only [Nat.reducePow] at a; omega
theorem own_shr1 {n : Nat} (h : n < 2 ^ 30) : Int32.ofNat (2 * n) >>> ((1 : Int32) &&& 31) = Int32.ofNat n := by
  apply Int32.toInt_inj.mp
  have a := c_ishr (Int32.ofNat (2 * n)) 1 1 (by decide); have b := own_ofn (i := n) (by omega); have c := own_ofn (i := 2 * n) (by omega)
  simp only [Nat.reducePow] at a; omega
theorem own_shr0 (x : Int32) : x >>> ((0 : Int32) &&& 31) = x := by
  apply Int32.toInt_inj.mp
  have a := c_ishr x 0 0 (by decide)
  simp only [Nat.reducePow] at a; omega
theorem own_enc_len (cs : List Int32) : (own_enc cs).length = if own_pfx cs = cs.length then cs.length else 2 * cs.length := by
  unfold own_enc; split <;> simp [own_by, own_u16_len]
theorem own_cfl {cs : List Int32} (h : cs ≠ []) (hb : cs.length < 2 ^ 30) : nar .byte (nar .byte (XT.ushr (Int32.ofNat cs.length - Int32.ofNat (own_enc cs).length) (31 : Int32))) = own_coder cs := by
  have h1 := List.length_pos_iff.mpr h
  unfold own_coder
  rw [own_enc_len, own_nbb]
  split
  · rw [Int32.sub_self]; rfl
  · apply Int32.toInt_inj.mp
    have a := c_isub (Int32.ofNat cs.length) (Int32.ofNat (2 * cs.length)); have b := own_ofn (i := cs.length) (by omega); have c := own_ofn (i := 2 * cs.length) (by omega); have d := rng32 (Int32.ofNat cs.length - Int32.ofNat (2 * cs.length))
    have u := c_iushr (Int32.ofNat cs.length - Int32.ofNat (2 * cs.length)) 31 31 (by decide) (by decide)
    have v := c_i2b (XT.ushr (Int32.ofNat cs.length - Int32.ofNat (2 * cs.length)) (31 : Int32))
    change ((nar .byte _).toInt - _) % 256 = 0 ∧ -128 ≤ (nar .byte _).toInt ∧ (nar .byte _).toInt < 128 at v
    change (XT.ushr (Int32.ofNat cs.length - Int32.ofNat (2 * cs.length)) (31 : Int32)).toInt = _ at u
    have e : (1 : Int32).toInt = 1 := rfl
    simp only [Nat.reducePow] at u
    omega
theorem own_cg {cs : List Int32} {us : List Value} {i : Nat} (h : i < cs.length) : (cs.map Value.int ++ us)[i]? = some (Value.int (cs.getD i 0)) := by
  rw [List.getElem?_append_left (by simpa using h), List.getElem?_map, List.getElem?_eq_getElem h, own_gD h]; rfl
theorem d18_0 : decode jdk_52_method_21_code 0 = .ok (.iconst 0, 1) := by decide +kernel
theorem d18_1 : decode jdk_52_method_21_code 1 = .ok (.istore 5, 2) := by decide +kernel
theorem d18_3 : decode jdk_52_method_21_code 3 = .ok (.iload 5, 2) := by decide +kernel
theorem d18_5 : decode jdk_52_method_21_code 5 = .ok (.iload 4, 2) := by decide +kernel
theorem d18_7 : decode jdk_52_method_21_code 7 = .ok (.if_icmp .ge 37, 3) := by decide +kernel
theorem d18_10 : decode jdk_52_method_21_code 10 = .ok (.aload_n 0, 1) := by decide +kernel
theorem d18_11 : decode jdk_52_method_21_code 11 = .ok (.iload_n 1, 1) := by decide +kernel
theorem d18_12 : decode jdk_52_method_21_code 12 = .ok (.caload, 1) := by decide +kernel
theorem d18_13 : decode jdk_52_method_21_code 13 = .ok (.istore 6, 2) := by decide +kernel
theorem d18_15 : decode jdk_52_method_21_code 15 = .ok (.iload 6, 2) := by decide +kernel
theorem d18_17 : decode jdk_52_method_21_code 17 = .ok (.sipush 255, 3) := by decide +kernel
theorem d18_20 : decode jdk_52_method_21_code 20 = .ok (.if_icmp .le 6, 3) := by decide +kernel
theorem d18_23 : decode jdk_52_method_21_code 23 = .ok (.iload 5, 2) := by decide +kernel
theorem d18_25 : decode jdk_52_method_21_code 25 = .ok (.ireturn, 1) := by decide +kernel
theorem d18_26 : decode jdk_52_method_21_code 26 = .ok (.aload_n 2, 1) := by decide +kernel
theorem d18_27 : decode jdk_52_method_21_code 27 = .ok (.iload_n 3, 1) := by decide +kernel
theorem d18_28 : decode jdk_52_method_21_code 28 = .ok (.iload 6, 2) := by decide +kernel
theorem d18_30 : decode jdk_52_method_21_code 30 = .ok (.i2b, 1) := by decide +kernel
theorem d18_31 : decode jdk_52_method_21_code 31 = .ok (.bastore, 1) := by decide +kernel
theorem d18_32 : decode jdk_52_method_21_code 32 = .ok (.iinc 1 1, 3) := by decide +kernel
theorem d18_35 : decode jdk_52_method_21_code 35 = .ok (.iinc 3 1, 3) := by decide +kernel
theorem d18_38 : decode jdk_52_method_21_code 38 = .ok (.iinc 5 1, 3) := by decide +kernel
theorem d18_41 : decode jdk_52_method_21_code 41 = .ok (.goto (-38), 3) := by decide +kernel
theorem d18_44 : decode jdk_52_method_21_code 44 = .ok (.iload 4, 2) := by decide +kernel
theorem d18_46 : decode jdk_52_method_21_code 46 = .ok (.ireturn, 1) := by decide +kernel
theorem pn_18 : plainFor (⟨"java/lang/StringUTF16", "compress", "([CI[BII)I"⟩ : MethodName) = true := plainFor_of_name (by first | (simp [plainName, overriddenIn]; done) | decide +kernel)
theorem ef_con_cmp5 (m : MethodId) (a b : Addr) (cs : List Int32) (us : List Value)  : entryFrame m #[(.ref a), (.int (0 : Int32)), (.ref b), (.int (0 : Int32)), (.int (Int32.ofNat cs.length))] 7 = mkF m 0 #[.val (.ref a), .val (.int (0 : Int32)), .val (.ref b), .val (.int (0 : Int32)), .val (.int (Int32.ofNat cs.length)), .unset, .unset] [] := by first | (simp [entryFrame, mkF, argsToLocals, Value.category]; done) | rfl
set_option maxRecDepth 65536 in
set_option maxHeartbeats 40000000 in
theorem con_cmp5 (l : Launch) (Z : State) (a0 : Array Value) (hw : ∀ d ∈ tables_1, d.before a0 Z = true) (n0 : Nat) (h0 : Heap) (Z0 : n0 ≤ h0.size) (a b : Addr) (cs : List Int32) (us : List Value) (AC : Ary Z h0 a .char (cs.map Value.int ++ us)) (AB : Ary Z h0 b .byte (List.replicate cs.length (.int (0 : Int32)))) (hab : a ≠ b) (gb : n0 ≤ b) (hn : cs.length < 2 ^ 30) :
    Con l Z n0 (⟨"java/lang/StringUTF16", "compress", "([CI[BII)I"⟩ : MethodName) jdk_52_method_21_code 7 (some .int) ({ frames := 0, cells := 0, slots := 0, locals := 0 } : Room) #[(.ref a), (.int (0 : Int32)), (.ref b), (.int (0 : Int32)), (.int (Int32.ofNat cs.length))] h0 (Val fun w h' => .int (Int32.ofNat (own_pfx cs)) = w ∧ Keep h0 h' [b] ∧ Ary Z h' b .byte (own_by (cs.take (own_pfx cs)) ++ List.replicate (cs.length - (own_pfx cs)) (.int (0 : Int32)))) := by
  refine Con.of_run pn_18 (fun m => ef_con_cmp5 m a b cs us ) ?_
  refine Run.iconst (0 : Int32) d18_0 (by decide) (pc' := 1) rfl ?_
  refine Run.istore (l' := #[.val (.ref a), .val (.int (0 : Int32)), .val (.ref b), .val (.int (0 : Int32)), .val (.int (Int32.ofNat cs.length)), .val (.int (0 : Int32)), .unset]) d18_1 rfl (pc' := 3) rfl ?_
  have loop : ∀ (t i : Nat) (hh : Heap) (s6 : Slot), t + i = cs.length → i + own_pfx (cs.drop i) = own_pfx cs → One s6 → n0 ≤ hh.size → Keep h0 hh [b] → Ary Z hh a .char (cs.map Value.int ++ us) → Ary Z hh b .byte (own_by (cs.take i) ++ List.replicate (cs.length - i) (.int (0 : Int32))) → Run l Z n0 "java/lang/StringUTF16" jdk_52_method_21_code 7 (some .int) "compress" ({ frames := 0, cells := 0, slots := 0, locals := 0 } : Room) (Val fun w h' => .int (Int32.ofNat (own_pfx cs)) = w ∧ Keep h0 h' [b] ∧ Ary Z h' b .byte (own_by (cs.take (own_pfx cs)) ++ List.replicate (cs.length - (own_pfx cs)) (.int (0 : Int32)))) 3 #[.val (.ref a), .val (.int (Int32.ofNat i)), .val (.ref b), .val (.int (Int32.ofNat i)), .val (.int (Int32.ofNat cs.length)), .val (.int (Int32.ofNat i)), s6] [] hh 0 0 := by
    intro t
    induction t with
    | zero =>
      intro i hh s6 hti hiv h_s6 szh kph ACh ABh
      have hi : own_pfx cs = cs.length := by rw [← hiv, own_pfx_end (by omega)]; omega
      obtain rfl : i = cs.length := by omega
      refine Run.iload d18_3 rfl (pc' := 5) rfl ?_
      refine Run.iload d18_5 rfl (pc' := 7) rfl ?_
      refine Run.icmp_ge d18_7 (by decide) (pc' := 44) (by decide) (pa := 10) rfl (fun hc7 => ?_) (fun hc7 => ?_)
      · -- pc 7 taken: ¬ (Int32.ofNat cs.length) < (Int32.ofNat cs.length)
        refine Run.iload d18_44 rfl (pc' := 46) rfl ?_
        exact Run.ireturn d18_46 rfl (by decide) (by decide) ⟨_, rfl, by rw [hi], kph, (by rw [hi]; exact ABh)⟩
      · -- pc 7 not taken: (Int32.ofNat cs.length) < (Int32.ofNat cs.length)
        exact absurd ((own_lt (by omega) (by omega)).mp hc7) (by omega)
    | succ t ih =>
      intro i hh s6 hti hiv h_s6 szh kph ACh ABh
      have hil : i < cs.length := by omega
      refine Run.iload d18_3 rfl (pc' := 5) rfl ?_
      refine Run.iload d18_5 rfl (pc' := 7) rfl ?_
      refine Run.icmp_ge d18_7 (by decide) (pc' := 44) (by decide) (pa := 10) rfl (fun hc7 => ?_) (fun hc7 => ?_)
      · -- pc 7 taken: ¬ (Int32.ofNat i) < (Int32.ofNat cs.length)
        exact absurd ((own_lt (by omega) (by omega)).mpr hil) hc7
      · -- pc 7 not taken: (Int32.ofNat i) < (Int32.ofNat cs.length)
        refine Run.aloadN d18_10 rfl rfl (pc' := 11) rfl ?_
        refine Run.iloadN d18_11 rfl (pc' := 12) rfl ?_
        refine Run.caload (i := i) (v := (.int (cs.getD i 0))) d18_12 ACh (own_ofn (by omega)) (own_cg hil) (pc' := 13) rfl ?_
        refine Run.istore (l' := #[.val (.ref a), .val (.int (Int32.ofNat i)), .val (.ref b), .val (.int (Int32.ofNat i)), .val (.int (Int32.ofNat cs.length)), .val (.int (Int32.ofNat i)), .val (.int (cs.getD i 0))]) d18_13 (XS.store1 rfl h_s6 rfl) (pc' := 15) rfl ?_
        refine Run.iload d18_15 rfl (pc' := 17) rfl ?_
        refine Run.sipush (255 : Int32) d18_17 (by decide) (pc' := 20) rfl ?_
        refine Run.icmp_le d18_20 (by decide) (pc' := 26) (by decide) (pa := 23) rfl (fun hc20 => ?_) (fun hc20 => ?_)
        · -- pc 20 taken: ¬ (255 : Int32) < (cs.getD i 0)
          refine Run.aloadN d18_26 rfl rfl (pc' := 27) rfl ?_
          refine Run.iloadN d18_27 rfl (pc' := 28) rfl ?_
          refine Run.iload d18_28 rfl (pc' := 30) rfl ?_
          refine Run.i2b d18_30 (pc' := 31) rfl ?_
          refine Run.bastore (i := i) d18_31 ABh (own_ofn (by omega)) (by simp [own_by]; omega) gb (pc' := 32) rfl ?_
          intro h11 W11 A11
          have A_a_11 := ACh.other W11 hab
          have sz11 : n0 ≤ h11.size := by rw [W11.size]; exact szh
          have kp11 := Keep.wr kph W11 (Or.inl (List.mem_of_getElem? (i := 0) rfl))
          refine Run.iinc (1 : Int32) #[.val (.ref a), .val (.int ((Int32.ofNat i) + (1 : Int32))), .val (.ref b), .val (.int (Int32.ofNat i)), .val (.int (Int32.ofNat cs.length)), .val (.int (Int32.ofNat i)), .val (.int (cs.getD i 0))] d18_32 (by decide) rfl rfl (pc' := 35) rfl ?_
          refine Run.iinc (1 : Int32) #[.val (.ref a), .val (.int ((Int32.ofNat i) + (1 : Int32))), .val (.ref b), .val (.int ((Int32.ofNat i) + (1 : Int32))), .val (.int (Int32.ofNat cs.length)), .val (.int (Int32.ofNat i)), .val (.int (cs.getD i 0))] d18_35 (by decide) rfl rfl (pc' := 38) rfl ?_
          refine Run.iinc (1 : Int32) #[.val (.ref a), .val (.int ((Int32.ofNat i) + (1 : Int32))), .val (.ref b), .val (.int ((Int32.ofNat i) + (1 : Int32))), .val (.int (Int32.ofNat cs.length)), .val (.int ((Int32.ofNat i) + (1 : Int32))), .val (.int (cs.getD i 0))] d18_38 (by decide) rfl rfl (pc' := 41) rfl ?_
          refine Run.goto d18_41 (by decide) (pc' := 3) (by decide) ?_
          simp only [own_inc]
          exact ih (i + 1) h11 _ (by omega) (by have z := own_pfx_at (i := i) hil; rw [if_neg hc20] at z; omega) (Or.inr ⟨_, rfl, rfl⟩) sz11 kp11 A_a_11 (by have z := A11; rw [own_nbb] at z; rw [← own_by_set hil]; exact z)
        · -- pc 20 not taken: (255 : Int32) < (cs.getD i 0)
          refine Run.iload d18_23 rfl (pc' := 25) rfl ?_
          have hi : i = own_pfx cs := by have z := own_pfx_at (i := i) hil; rw [if_pos hc20] at z; omega
          exact Run.ireturn d18_25 rfl (by decide) (by decide) ⟨_, rfl, by rw [← hi], kph, (by rw [← hi]; exact ABh)⟩
  exact loop cs.length 0 h0 .unset (by omega) (by rw [List.drop_zero]; omega) (Or.inl rfl) Z0 (Keep.refl h0 [b]) AC (by simpa [own_by] using AB)
theorem own_nge {n : Nat} (h : n < 2 ^ 31) : ¬ Int32.ofNat n < (0 : Int32) := by rw [Int32.lt_iff_toInt_lt, own_ofn h, own_z]; omega
theorem own_nlt {n : Nat} (h : n < 2 ^ 29) : Int32.ofNat n < (1073741823 : Int32) := by rw [Int32.lt_iff_toInt_lt, own_ofn (by omega)]; have e : (1073741823 : Int32).toInt = 1073741823 := rfl; omega
theorem d21_0 : decode jdk_52_method_3_code 0 = .ok (.iload_n 0, 1) := by decide +kernel
theorem d21_1 : decode jdk_52_method_3_code 1 = .ok (.ifCond .ge 11, 3) := by decide +kernel
theorem d21_12 : decode jdk_52_method_3_code 12 = .ok (.iload_n 0, 1) := by decide +kernel
theorem d21_13 : decode jdk_52_method_3_code 13 = .ok (.ldc 20, 2) := by decide +kernel
theorem d21_15 : decode jdk_52_method_3_code 15 = .ok (.if_icmp .lt 40, 3) := by decide +kernel
theorem d21_55 : decode jdk_52_method_3_code 55 = .ok (.iload_n 0, 1) := by decide +kernel
theorem d21_56 : decode jdk_52_method_3_code 56 = .ok (.iconst 1, 1) := by decide +kernel
theorem d21_57 : decode jdk_52_method_3_code 57 = .ok (.ishl, 1) := by decide +kernel
theorem d21_58 : decode jdk_52_method_3_code 58 = .ok (.ireturn, 1) := by decide +kernel
theorem pn_21 : plainFor (⟨"java/lang/StringUTF16", "newBytesLength", "(I)I"⟩ : MethodName) = true := plainFor_of_name (by first | (simp [plainName, overriddenIn]; done) | decide +kernel)
theorem ef_con_nbl (m : MethodId) (n : Nat)  : entryFrame m #[(.int (Int32.ofNat n))] 1 = mkF m 0 #[.val (.int (Int32.ofNat n))] [] := by first | (simp [entryFrame, mkF, argsToLocals, Value.category]; done) | rfl
set_option maxRecDepth 65536 in
set_option maxHeartbeats 40000000 in
theorem con_nbl (l : Launch) (Z : State) (a0 : Array Value) (hw : ∀ d ∈ tables_1, d.before a0 Z = true) (n0 : Nat) (h0 : Heap) (Z0 : n0 ≤ h0.size) (n : Nat) (hn : n < 2 ^ 29) :
    Con l Z n0 (⟨"java/lang/StringUTF16", "newBytesLength", "(I)I"⟩ : MethodName) jdk_52_method_3_code 1 (some .int) ({ frames := 0, cells := 0, slots := 0, locals := 0 } : Room) #[(.int (Int32.ofNat n))] h0 (Val (PV (.int (Int32.ofNat (2 * n))) h0)) := by
  refine Con.of_run pn_21 (fun m => ef_con_nbl m n ) ?_
  refine Run.iloadN d21_0 rfl (pc' := 1) rfl ?_
  refine Run.if_ge d21_1 (by decide) (pc' := 12) (by decide) (pa := 4) rfl (fun hc1 => ?_) (fun hc1 => ?_)
  · -- pc 1 taken: ¬ (Int32.ofNat n) < (0 : Int32)
    refine Run.iloadN d21_12 rfl (pc' := 13) rfl ?_
    refine Run.ldcI (v := (1073741823 : Int32)) d21_13 (hw _ (List.mem_of_getElem? (i := 115) rfl)) (pc' := 15) rfl ?_
    refine Run.icmp_lt d21_15 (by decide) (pc' := 55) (by decide) (pa := 18) rfl (fun hc15 => ?_) (fun hc15 => ?_)
    · -- pc 15 taken: (Int32.ofNat n) < (1073741823 : Int32)
      refine Run.iloadN d21_55 rfl (pc' := 56) rfl ?_
      refine Run.iconst (1 : Int32) d21_56 (by decide) (pc' := 57) rfl ?_
      refine Run.ishl d21_57 (pc' := 58) rfl ?_
      exact Run.ireturn d21_58 rfl (by decide) (by decide) ⟨_, rfl, congrArg Value.int (own_shl1 (by omega)).symm, rfl⟩
    · -- pc 15 not taken: ¬ (Int32.ofNat n) < (1073741823 : Int32)
      exact absurd (own_nlt (by omega)) hc15
  · -- pc 1 not taken: (Int32.ofNat n) < (0 : Int32)
    exact absurd hc1 (own_nge (by omega))
theorem d20_0 : decode jdk_52_method_2_code 0 = .ok (.iload_n 0, 1) := by decide +kernel
theorem d20_1 : decode jdk_52_method_2_code 1 = .ok (.invokestatic 11, 3) := by decide +kernel
theorem d20_4 : decode jdk_52_method_2_code 4 = .ok (.newarray .byte, 2) := by decide +kernel
theorem d20_6 : decode jdk_52_method_2_code 6 = .ok (.areturn, 1) := by decide +kernel
theorem pn_20 : plainFor (⟨"java/lang/StringUTF16", "newBytesFor", "(I)[B"⟩ : MethodName) = true := plainFor_of_name (by first | (simp [plainName, overriddenIn]; done) | decide +kernel)
theorem pd__I_I : parseMethodDescriptor "(I)I" = some ⟨[.int], some .int⟩ := by decide +kernel
theorem ef_con_nbf (m : MethodId) (n : Nat)  : entryFrame m #[(.int (Int32.ofNat n))] 1 = mkF m 0 #[.val (.int (Int32.ofNat n))] [] := by first | (simp [entryFrame, mkF, argsToLocals, Value.category]; done) | rfl
set_option maxRecDepth 65536 in
set_option maxHeartbeats 40000000 in
theorem con_nbf (l : Launch) (Z : State) (a0 : Array Value) (hw : ∀ d ∈ tables_1, d.before a0 Z = true) (n0 : Nat) (h0 : Heap) (Z0 : n0 ≤ h0.size) (n : Nat) (hn : n ≤ 64) :
    Con l Z n0 (⟨"java/lang/StringUTF16", "newBytesFor", "(I)[B"⟩ : MethodName) jdk_52_method_2_code 1 (some (.array .byte)) ({ frames := 1, cells := 1, slots := 128, locals := 12 } : Room) #[(.int (Int32.ofNat n))] h0 (Val fun w h' => ∃ b, w = .ref b ∧ h0.size ≤ b ∧ Ext h0 h' ∧ Ary Z h' b .byte (List.replicate (2 * n) (.int (0 : Int32)))) := by
  refine Con.of_run pn_20 (fun m => ef_con_nbf m n ) ?_
  refine Run.iloadN d20_0 rfl (pc' := 1) rfl ?_
  refine Run.callS (k' := 0) (n' := 0) (as := [(.int (Int32.ofNat n))]) (rest := []) (con_nbl l Z a0 hw n0 h0 Z0 n (by omega) ) d20_1 (hw _ (List.mem_of_getElem? (i := 112) rfl)) (hw _ (List.mem_of_getElem? (i := 113) rfl)) (hw _ (List.mem_of_getElem? (i := 101) rfl)) (hw _ (List.mem_of_getElem? (i := 114) rfl)) (by decide) pd__I_I rfl rfl rfl (by decide) (by show (0 : Nat) + (1 + 11) + 0 ≤ _; decide) (by decide) (by decide) (by decide) (by decide) (pc' := 4) rfl ?_
  rintro _ _ ⟨_, rfl, rfl, rfl⟩
  show Run l Z n0 "java/lang/StringUTF16" jdk_52_method_2_code 1 (some (.array .byte)) "newBytesFor" ({ frames := 1, cells := 1, slots := 128, locals := 12 } : Room) _ 4 #[.val (.int (Int32.ofNat n))] [(.int (Int32.ofNat (2 * n)))] h0 0 0
  refine Run.newP (ty := .byte) (m := (2 * n)) (cap := 128) (dv := (.int (0 : Int32))) (k' := 1) (n' := 128) d20_4 rfl (hw _ (List.mem_of_getElem? (i := 77) rfl)) (own_nge (by omega)) (clamp_of rfl (by omega)) (by omega) rfl (by decide) (by decide) (by decide) (by decide) (by decide) (pc' := 6) rfl ?_
  intro h11 b11 g11 E11 A11
  have ge_b11 : n0 ≤ b11 := by rw [g11]; exact Z0
  have bo_b11 : h0.size ≤ b11 := by rw [g11]; exact (Keep.refl h0 []).1
  have sz11 : n0 ≤ h11.size := Nat.le_trans Z0 E11.1
  have kp11 := Keep.ext (Keep.refl h0 []) E11
  exact Run.areturn d20_6 (ty := (.array .byte)) rfl rfl rfl (by decide) (by decide) ⟨_, rfl, b11, rfl, bo_b11, Keep.toExt kp11, A11⟩
theorem d22_0 : decode jdk_52_method_4_code 0 = .ok (.getstatic 44, 3) := by decide +kernel
theorem d22_3 : decode jdk_52_method_4_code 3 = .ok (.ifCond .ne 25, 3) := by decide +kernel
theorem d22_28 : decode jdk_52_method_4_code 28 = .ok (.iload_n 1, 1) := by decide +kernel
theorem d22_29 : decode jdk_52_method_4_code 29 = .ok (.iconst 1, 1) := by decide +kernel
theorem d22_30 : decode jdk_52_method_4_code 30 = .ok (.ishl, 1) := by decide +kernel
theorem d22_31 : decode jdk_52_method_4_code 31 = .ok (.istore_n 1, 1) := by decide +kernel
theorem d22_32 : decode jdk_52_method_4_code 32 = .ok (.aload_n 0, 1) := by decide +kernel
theorem d22_33 : decode jdk_52_method_4_code 33 = .ok (.iload_n 1, 1) := by decide +kernel
theorem d22_34 : decode jdk_52_method_4_code 34 = .ok (.iinc 1 1, 3) := by decide +kernel
theorem d22_37 : decode jdk_52_method_4_code 37 = .ok (.iload_n 2, 1) := by decide +kernel
theorem d22_38 : decode jdk_52_method_4_code 38 = .ok (.getstatic 59, 3) := by decide +kernel
theorem d22_41 : decode jdk_52_method_4_code 41 = .ok (.ishr, 1) := by decide +kernel
theorem d22_42 : decode jdk_52_method_4_code 42 = .ok (.i2b, 1) := by decide +kernel
theorem d22_43 : decode jdk_52_method_4_code 43 = .ok (.bastore, 1) := by decide +kernel
theorem d22_44 : decode jdk_52_method_4_code 44 = .ok (.aload_n 0, 1) := by decide +kernel
theorem d22_45 : decode jdk_52_method_4_code 45 = .ok (.iload_n 1, 1) := by decide +kernel
theorem d22_46 : decode jdk_52_method_4_code 46 = .ok (.iload_n 2, 1) := by decide +kernel
theorem d22_47 : decode jdk_52_method_4_code 47 = .ok (.getstatic 63, 3) := by decide +kernel
theorem d22_50 : decode jdk_52_method_4_code 50 = .ok (.ishr, 1) := by decide +kernel
theorem d22_51 : decode jdk_52_method_4_code 51 = .ok (.i2b, 1) := by decide +kernel
theorem d22_52 : decode jdk_52_method_4_code 52 = .ok (.bastore, 1) := by decide +kernel
theorem d22_53 : decode jdk_52_method_4_code 53 = .ok (.return_, 1) := by decide +kernel
theorem pn_22 : plainFor (⟨"java/lang/StringUTF16", "putChar", "([BII)V"⟩ : MethodName) = true := plainFor_of_name (by first | (simp [plainName, overriddenIn]; done) | decide +kernel)
theorem ef_con_puc (m : MethodId) (b : Addr) (i : Nat) (c : Int32) (bs : List Value)  : entryFrame m #[(.ref b), (.int (Int32.ofNat i)), (.int c)] 3 = mkF m 0 #[.val (.ref b), .val (.int (Int32.ofNat i)), .val (.int c)] [] := by first | (simp [entryFrame, mkF, argsToLocals, Value.category]; done) | rfl
set_option maxRecDepth 65536 in
set_option maxHeartbeats 40000000 in
theorem con_puc (l : Launch) (Z : State) (a0 : Array Value) (hw : ∀ d ∈ tables_1, d.before a0 Z = true) (n0 : Nat) (h0 : Heap) (Z0 : n0 ≤ h0.size) (b : Addr) (i : Nat) (c : Int32) (bs : List Value) (od0 : Old Z n0 h0) (SD : Sta Z Z.heap "java/lang/StringUTF16" "$assertionsDisabled" "Z" (.int (1 : Int32))) (SH8 : Sta Z Z.heap "java/lang/StringUTF16" "HI_BYTE_SHIFT" "I" (.int (0 : Int32))) (SL8 : Sta Z Z.heap "java/lang/StringUTF16" "LO_BYTE_SHIFT" "I" (.int (8 : Int32))) (AB : Ary Z h0 b .byte bs) (gb : n0 ≤ b) (hi : 2 * i + 1 < bs.length) (hi2 : i < 2 ^ 29) :
    Con l Z n0 (⟨"java/lang/StringUTF16", "putChar", "([BII)V"⟩ : MethodName) jdk_52_method_4_code 3 none ({ frames := 0, cells := 0, slots := 0, locals := 0 } : Room) #[(.ref b), (.int (Int32.ofNat i)), (.int c)] h0 (Vd fun h' => Keep h0 h' [b] ∧ Ary Z h' b .byte ((bs.set (2 * i) (.int (own_b0 c))).set (2 * i + 1) (.int (own_b1 c)))) := by
  refine Con.of_run pn_22 (fun m => ef_con_puc m b i c bs ) ?_
  refine Run.getS d22_0 (host := "") (Or.inl (hw _ (List.mem_of_getElem? (i := 119) rfl))) Via.refl (SD.ext od0.2) (pc' := 3) rfl ?_
  refine Run.if_ne d22_3 (by decide) (pc' := 28) (by decide) (pa := 6) rfl (fun hc3 => ?_) (fun hc3 => ?_)
  · -- pc 3 taken: ¬ (1 : Int32) = (0 : Int32)
    refine Run.iloadN d22_28 rfl (pc' := 29) rfl ?_
    refine Run.iconst (1 : Int32) d22_29 (by decide) (pc' := 30) rfl ?_
    refine Run.ishl d22_30 (pc' := 31) rfl ?_
    rw [own_shl1 (by omega)]
    refine Run.istoreN (l' := #[.val (.ref b), .val (.int (Int32.ofNat (2 * i))), .val (.int c)]) d22_31 rfl (pc' := 32) rfl ?_
    refine Run.aloadN d22_32 rfl rfl (pc' := 33) rfl ?_
    refine Run.iloadN d22_33 rfl (pc' := 34) rfl ?_
    refine Run.iinc (1 : Int32) #[.val (.ref b), .val (.int ((Int32.ofNat (2 * i)) + (1 : Int32))), .val (.int c)] d22_34 (by decide) rfl rfl (pc' := 37) rfl ?_
    rw [own_inc]
    refine Run.iloadN d22_37 rfl (pc' := 38) rfl ?_
    refine Run.getS d22_38 (host := "") (Or.inl (hw _ (List.mem_of_getElem? (i := 120) rfl))) Via.refl (SH8.ext od0.2) (pc' := 41) rfl ?_
    refine Run.ishr d22_41 (pc' := 42) rfl ?_
    refine Run.i2b d22_42 (pc' := 43) rfl ?_
    refine Run.bastore (i := (2 * i)) d22_43 AB (own_ofn (by omega)) (by omega) gb (pc' := 44) rfl ?_
    intro h11 W11 A11
    have sz11 : n0 ≤ h11.size := by rw [W11.size]; exact Z0
    have kp11 := Keep.wr (Keep.refl h0 [b]) W11 (Or.inl (List.mem_of_getElem? (i := 0) rfl))
    have od11 := od0.wr W11 gb
    refine Run.aloadN d22_44 rfl rfl (pc' := 45) rfl ?_
    refine Run.iloadN d22_45 rfl (pc' := 46) rfl ?_
    refine Run.iloadN d22_46 rfl (pc' := 47) rfl ?_
    refine Run.getS d22_47 (host := "") (Or.inl (hw _ (List.mem_of_getElem? (i := 121) rfl))) Via.refl (SL8.ext od11.2) (pc' := 50) rfl ?_
    refine Run.ishr d22_50 (pc' := 51) rfl ?_
    refine Run.i2b d22_51 (pc' := 52) rfl ?_
    refine Run.bastore (i := (2 * i + 1)) d22_52 A11 (own_ofn (by omega)) (by rw [List.length_set]; omega) gb (pc' := 53) rfl ?_
    intro h12 W12 A12
    have sz12 : n0 ≤ h12.size := by rw [W12.size]; exact sz11
    have kp12 := Keep.wr kp11 W12 (Or.inl (List.mem_of_getElem? (i := 0) rfl))
    have od12 := od11.wr W12 gb
    exact Run.vreturn d22_53 rfl (by decide) (by decide) ⟨rfl, kp12, (by have z := A12; rw [own_nbb, own_nbb] at z; exact z)⟩
  · -- pc 3 not taken: (1 : Int32) = (0 : Int32)
    exact absurd hc3 (by decide)
theorem d23_0 : decode jdk_52_method_5_code 0 = .ok (.getstatic 44, 3) := by decide +kernel
theorem d23_3 : decode jdk_52_method_5_code 3 = .ok (.ifCond .ne 25, 3) := by decide +kernel
theorem d23_28 : decode jdk_52_method_5_code 28 = .ok (.iload_n 1, 1) := by decide +kernel
theorem d23_29 : decode jdk_52_method_5_code 29 = .ok (.iconst 1, 1) := by decide +kernel
theorem d23_30 : decode jdk_52_method_5_code 30 = .ok (.ishl, 1) := by decide +kernel
theorem d23_31 : decode jdk_52_method_5_code 31 = .ok (.istore_n 1, 1) := by decide +kernel
theorem d23_32 : decode jdk_52_method_5_code 32 = .ok (.aload_n 0, 1) := by decide +kernel
theorem d23_33 : decode jdk_52_method_5_code 33 = .ok (.iload_n 1, 1) := by decide +kernel
theorem d23_34 : decode jdk_52_method_5_code 34 = .ok (.iinc 1 1, 3) := by decide +kernel
theorem d23_37 : decode jdk_52_method_5_code 37 = .ok (.baload, 1) := by decide +kernel
theorem d23_38 : decode jdk_52_method_5_code 38 = .ok (.sipush 255, 3) := by decide +kernel
theorem d23_41 : decode jdk_52_method_5_code 41 = .ok (.iand, 1) := by decide +kernel
theorem d23_42 : decode jdk_52_method_5_code 42 = .ok (.getstatic 59, 3) := by decide +kernel
theorem d23_45 : decode jdk_52_method_5_code 45 = .ok (.ishl, 1) := by decide +kernel
theorem d23_46 : decode jdk_52_method_5_code 46 = .ok (.aload_n 0, 1) := by decide +kernel
theorem d23_47 : decode jdk_52_method_5_code 47 = .ok (.iload_n 1, 1) := by decide +kernel
theorem d23_48 : decode jdk_52_method_5_code 48 = .ok (.baload, 1) := by decide +kernel
theorem d23_49 : decode jdk_52_method_5_code 49 = .ok (.sipush 255, 3) := by decide +kernel
theorem d23_52 : decode jdk_52_method_5_code 52 = .ok (.iand, 1) := by decide +kernel
theorem d23_53 : decode jdk_52_method_5_code 53 = .ok (.getstatic 63, 3) := by decide +kernel
theorem d23_56 : decode jdk_52_method_5_code 56 = .ok (.ishl, 1) := by decide +kernel
theorem d23_57 : decode jdk_52_method_5_code 57 = .ok (.ior, 1) := by decide +kernel
theorem d23_58 : decode jdk_52_method_5_code 58 = .ok (.i2c, 1) := by decide +kernel
theorem d23_59 : decode jdk_52_method_5_code 59 = .ok (.ireturn, 1) := by decide +kernel
theorem pn_23 : plainFor (⟨"java/lang/StringUTF16", "getChar", "([BI)C"⟩ : MethodName) = true := plainFor_of_name (by first | (simp [plainName, overriddenIn]; done) | decide +kernel)
theorem ef_con_gec (m : MethodId) (b : Addr) (i : Nat) (x y : Int32) (bs : List Value)  : entryFrame m #[(.ref b), (.int (Int32.ofNat i))] 2 = mkF m 0 #[.val (.ref b), .val (.int (Int32.ofNat i))] [] := by first | (simp [entryFrame, mkF, argsToLocals, Value.category]; done) | rfl
set_option maxRecDepth 65536 in
set_option maxHeartbeats 40000000 in
theorem con_gec (l : Launch) (Z : State) (a0 : Array Value) (hw : ∀ d ∈ tables_1, d.before a0 Z = true) (n0 : Nat) (h0 : Heap) (Z0 : n0 ≤ h0.size) (b : Addr) (i : Nat) (x y : Int32) (bs : List Value) (od0 : Old Z n0 h0) (SD : Sta Z Z.heap "java/lang/StringUTF16" "$assertionsDisabled" "Z" (.int (1 : Int32))) (SH8 : Sta Z Z.heap "java/lang/StringUTF16" "HI_BYTE_SHIFT" "I" (.int (0 : Int32))) (SL8 : Sta Z Z.heap "java/lang/StringUTF16" "LO_BYTE_SHIFT" "I" (.int (8 : Int32))) (AB : Ary Z h0 b .byte bs) (hx : bs[2 * i]? = some (.int x)) (hy : bs[2 * i + 1]? = some (.int y)) (hi2 : i < 2 ^ 29) :
    Con l Z n0 (⟨"java/lang/StringUTF16", "getChar", "([BI)C"⟩ : MethodName) jdk_52_method_5_code 2 (some .char) ({ frames := 0, cells := 0, slots := 0, locals := 0 } : Room) #[(.ref b), (.int (Int32.ofNat i))] h0 (Val (PV (.int (own_gc x y)) h0)) := by
  refine Con.of_run pn_23 (fun m => ef_con_gec m b i x y bs ) ?_
  refine Run.getS d23_0 (host := "") (Or.inl (hw _ (List.mem_of_getElem? (i := 119) rfl))) Via.refl (SD.ext od0.2) (pc' := 3) rfl ?_
  refine Run.if_ne d23_3 (by decide) (pc' := 28) (by decide) (pa := 6) rfl (fun hc3 => ?_) (fun hc3 => ?_)
  · -- pc 3 taken: ¬ (1 : Int32) = (0 : Int32)
    refine Run.iloadN d23_28 rfl (pc' := 29) rfl ?_
    refine Run.iconst (1 : Int32) d23_29 (by decide) (pc' := 30) rfl ?_
    refine Run.ishl d23_30 (pc' := 31) rfl ?_
    rw [own_shl1 (by omega)]
    refine Run.istoreN (l' := #[.val (.ref b), .val (.int (Int32.ofNat (2 * i)))]) d23_31 rfl (pc' := 32) rfl ?_
    refine Run.aloadN d23_32 rfl rfl (pc' := 33) rfl ?_
    refine Run.iloadN d23_33 rfl (pc' := 34) rfl ?_
    refine Run.iinc (1 : Int32) #[.val (.ref b), .val (.int ((Int32.ofNat (2 * i)) + (1 : Int32)))] d23_34 (by decide) rfl rfl (pc' := 37) rfl ?_
    rw [own_inc]
    refine Run.baload (i := (2 * i)) (v := (.int x)) d23_37 AB (own_ofn (by omega)) hx (pc' := 38) rfl ?_
    refine Run.sipush (255 : Int32) d23_38 (by decide) (pc' := 41) rfl ?_
    refine Run.iand d23_41 (pc' := 42) rfl ?_
    refine Run.getS d23_42 (host := "") (Or.inl (hw _ (List.mem_of_getElem? (i := 120) rfl))) Via.refl (SH8.ext od0.2) (pc' := 45) rfl ?_
    refine Run.ishl d23_45 (pc' := 46) rfl ?_
    refine Run.aloadN d23_46 rfl rfl (pc' := 47) rfl ?_
    refine Run.iloadN d23_47 rfl (pc' := 48) rfl ?_
    refine Run.baload (i := (2 * i + 1)) (v := (.int y)) d23_48 AB (own_ofn (by omega)) hy (pc' := 49) rfl ?_
    refine Run.sipush (255 : Int32) d23_49 (by decide) (pc' := 52) rfl ?_
    refine Run.iand d23_52 (pc' := 53) rfl ?_
    refine Run.getS d23_53 (host := "") (Or.inl (hw _ (List.mem_of_getElem? (i := 121) rfl))) Via.refl (SL8.ext od0.2) (pc' := 56) rfl ?_
    refine Run.ishl d23_56 (pc' := 57) rfl ?_
    refine Run.ior d23_57 (pc' := 58) rfl ?_
    refine Run.i2c d23_58 (pc' := 59) rfl ?_
    exact Run.nreturn d23_59 (ty := .char) rfl (by simp) (by decide) (by decide) ⟨_, rfl, rfl, rfl⟩
  · -- pc 3 not taken: (1 : Int32) = (0 : Int32)
    exact absurd hc3 (by decide)
theorem d19_0 : decode jdk_52_method_14_code 0 = .ok (.iload_n 2, 1) := by decide +kernel
theorem d19_1 : decode jdk_52_method_14_code 1 = .ok (.invokestatic 107, 3) := by decide +kernel
theorem d19_4 : decode jdk_52_method_14_code 4 = .ok (.astore_n 3, 1) := by decide +kernel
theorem d19_5 : decode jdk_52_method_14_code 5 = .ok (.iconst 0, 1) := by decide +kernel
theorem d19_6 : decode jdk_52_method_14_code 6 = .ok (.istore 4, 2) := by decide +kernel
theorem d19_8 : decode jdk_52_method_14_code 8 = .ok (.iload 4, 2) := by decide +kernel
theorem d19_10 : decode jdk_52_method_14_code 10 = .ok (.iload_n 2, 1) := by decide +kernel
theorem d19_11 : decode jdk_52_method_14_code 11 = .ok (.if_icmp .ge 21, 3) := by decide +kernel
theorem d19_14 : decode jdk_52_method_14_code 14 = .ok (.aload_n 3, 1) := by decide +kernel
theorem d19_15 : decode jdk_52_method_14_code 15 = .ok (.iload 4, 2) := by decide +kernel
theorem d19_17 : decode jdk_52_method_14_code 17 = .ok (.aload_n 0, 1) := by decide +kernel
theorem d19_18 : decode jdk_52_method_14_code 18 = .ok (.iload_n 1, 1) := by decide +kernel
theorem d19_19 : decode jdk_52_method_14_code 19 = .ok (.caload, 1) := by decide +kernel
theorem d19_20 : decode jdk_52_method_14_code 20 = .ok (.invokestatic 111, 3) := by decide +kernel
theorem d19_23 : decode jdk_52_method_14_code 23 = .ok (.iinc 1 1, 3) := by decide +kernel
theorem d19_26 : decode jdk_52_method_14_code 26 = .ok (.iinc 4 1, 3) := by decide +kernel
theorem d19_29 : decode jdk_52_method_14_code 29 = .ok (.goto (-21), 3) := by decide +kernel
theorem d19_32 : decode jdk_52_method_14_code 32 = .ok (.aload_n 3, 1) := by decide +kernel
theorem d19_33 : decode jdk_52_method_14_code 33 = .ok (.areturn, 1) := by decide +kernel
theorem pn_19 : plainFor (⟨"java/lang/StringUTF16", "toBytes", "([CII)[B"⟩ : MethodName) = true := plainFor_of_name (by first | (simp [plainName, overriddenIn]; done) | decide +kernel)
theorem pd__I__B : parseMethodDescriptor "(I)[B" = some ⟨[.int], some (.array .byte)⟩ := by decide +kernel
theorem pd___BII_V : parseMethodDescriptor "([BII)V" = some ⟨[(.array .byte), .int, .int], none⟩ := by decide +kernel
theorem ef_con_tby (m : MethodId) (a : Addr) (cs : List Int32) (us : List Value)  : entryFrame m #[(.ref a), (.int (0 : Int32)), (.int (Int32.ofNat cs.length))] 5 = mkF m 0 #[.val (.ref a), .val (.int (0 : Int32)), .val (.int (Int32.ofNat cs.length)), .unset, .unset] [] := by first | (simp [entryFrame, mkF, argsToLocals, Value.category]; done) | rfl
set_option maxRecDepth 65536 in
set_option maxHeartbeats 40000000 in
theorem con_tby (l : Launch) (Z : State) (a0 : Array Value) (hw : ∀ d ∈ tables_1, d.before a0 Z = true) (n0 : Nat) (h0 : Heap) (Z0 : n0 ≤ h0.size) (a : Addr) (cs : List Int32) (us : List Value) (od0 : Old Z n0 h0) (SD : Sta Z Z.heap "java/lang/StringUTF16" "$assertionsDisabled" "Z" (.int (1 : Int32))) (SH8 : Sta Z Z.heap "java/lang/StringUTF16" "HI_BYTE_SHIFT" "I" (.int (0 : Int32))) (SL8 : Sta Z Z.heap "java/lang/StringUTF16" "LO_BYTE_SHIFT" "I" (.int (8 : Int32))) (AC : Ary Z h0 a .char (cs.map Value.int ++ us)) (hn : cs.length ≤ 64) :
    Con l Z n0 (⟨"java/lang/StringUTF16", "toBytes", "([CII)[B"⟩ : MethodName) jdk_52_method_14_code 5 (some (.array .byte)) ({ frames := 2, cells := 1, slots := 128, locals := 24 } : Room) #[(.ref a), (.int (0 : Int32)), (.int (Int32.ofNat cs.length))] h0 (Val fun w h' => ∃ b, w = .ref b ∧ h0.size ≤ b ∧ Ext h0 h' ∧ Ary Z h' b .byte (own_u16 cs)) := by
  refine Con.of_run pn_19 (fun m => ef_con_tby m a cs us ) ?_
  refine Run.iloadN d19_0 rfl (pc' := 1) rfl ?_
  refine Run.callS (k' := 1) (n' := 128) (as := [(.int (Int32.ofNat cs.length))]) (rest := []) (con_nbf l Z a0 hw n0 h0 Z0 cs.length hn) d19_1 (hw _ (List.mem_of_getElem? (i := 109) rfl)) (hw _ (List.mem_of_getElem? (i := 110) rfl)) (hw _ (List.mem_of_getElem? (i := 101) rfl)) (hw _ (List.mem_of_getElem? (i := 111) rfl)) (by decide) pd__I__B rfl rfl rfl (by decide) (by show (0 : Nat) + (1 + 11) + 12 ≤ _; decide) (by decide) (by decide) (by decide) (by decide) (pc' := 4) rfl ?_
  rintro _ h11 ⟨_, rfl, ⟨b11, rfl, bw11, E11, P11⟩⟩
  show Run l Z n0 "java/lang/StringUTF16" jdk_52_method_14_code 5 (some (.array .byte)) "toBytes" ({ frames := 2, cells := 1, slots := 128, locals := 24 } : Room) _ 4 #[.val (.ref a), .val (.int (0 : Int32)), .val (.int (Int32.ofNat cs.length)), .unset, .unset] [(.ref b11)] h11 1 128
  have ge_b11 : n0 ≤ b11 := Nat.le_trans Z0 bw11
  have bo_b11 : h0.size ≤ b11 := Nat.le_trans (Keep.refl h0 []).1 bw11
  have ne_a_b11 : a ≠ b11 := Nat.ne_of_lt (Nat.lt_of_lt_of_le AC.lt bw11)
  have A_a_11 := AC.ext E11
  have sz11 : n0 ≤ h11.size := Nat.le_trans Z0 E11.1
  have kp11 := Keep.ext (Keep.refl h0 []) E11
  have od11 := od0.ext E11
  refine Run.astoreN (l' := #[.val (.ref a), .val (.int (0 : Int32)), .val (.int (Int32.ofNat cs.length)), .val (.ref b11), .unset]) d19_4 rfl rfl (pc' := 5) rfl ?_
  refine Run.iconst (0 : Int32) d19_5 (by decide) (pc' := 6) rfl ?_
  refine Run.istore (l' := #[.val (.ref a), .val (.int (0 : Int32)), .val (.int (Int32.ofNat cs.length)), .val (.ref b11), .val (.int (0 : Int32))]) d19_6 rfl (pc' := 8) rfl ?_
  have loop : ∀ (t i : Nat) (hh : Heap), t + i = cs.length → n0 ≤ hh.size → Keep h0 hh [] → Old Z n0 hh → Ary Z hh a .char (cs.map Value.int ++ us) → Ary Z hh b11 .byte (own_u16 (cs.take i) ++ List.replicate (2 * (cs.length - i)) (.int (0 : Int32))) → Run l Z n0 "java/lang/StringUTF16" jdk_52_method_14_code 5 (some (.array .byte)) "toBytes" ({ frames := 2, cells := 1, slots := 128, locals := 24 } : Room) (Val fun w h' => ∃ b, w = .ref b ∧ h0.size ≤ b ∧ Ext h0 h' ∧ Ary Z h' b .byte (own_u16 cs)) 8 #[.val (.ref a), .val (.int (Int32.ofNat i)), .val (.int (Int32.ofNat cs.length)), .val (.ref b11), .val (.int (Int32.ofNat i))] [] hh 1 128 := by
    intro t
    induction t with
    | zero =>
      intro i hh hti szh kph odh ACh ABh
      obtain rfl : i = cs.length := by omega
      refine Run.iload d19_8 rfl (pc' := 10) rfl ?_
      refine Run.iloadN d19_10 rfl (pc' := 11) rfl ?_
      refine Run.icmp_ge d19_11 (by decide) (pc' := 32) (by decide) (pa := 14) rfl (fun hc11 => ?_) (fun hc11 => ?_)
      · -- pc 11 taken: ¬ (Int32.ofNat cs.length) < (Int32.ofNat cs.length)
        refine Run.aloadN d19_32 rfl rfl (pc' := 33) rfl ?_
        exact Run.areturn d19_33 (ty := (.array .byte)) rfl rfl rfl (by decide) (by decide) ⟨_, rfl, b11, rfl, bo_b11, Keep.toExt kph, (by simpa using ABh)⟩
      · -- pc 11 not taken: (Int32.ofNat cs.length) < (Int32.ofNat cs.length)
        exact absurd ((own_lt (by omega) (by omega)).mp hc11) (by omega)
    | succ t ih =>
      intro i hh hti szh kph odh ACh ABh
      have hil : i < cs.length := by omega
      refine Run.iload d19_8 rfl (pc' := 10) rfl ?_
      refine Run.iloadN d19_10 rfl (pc' := 11) rfl ?_
      refine Run.icmp_ge d19_11 (by decide) (pc' := 32) (by decide) (pa := 14) rfl (fun hc11 => ?_) (fun hc11 => ?_)
      · -- pc 11 taken: ¬ (Int32.ofNat i) < (Int32.ofNat cs.length)
        exact absurd ((own_lt (by omega) (by omega)).mpr hil) hc11
      · -- pc 11 not taken: (Int32.ofNat i) < (Int32.ofNat cs.length)
        refine Run.aloadN d19_14 rfl rfl (pc' := 15) rfl ?_
        refine Run.iload d19_15 rfl (pc' := 17) rfl ?_
        refine Run.aloadN d19_17 rfl rfl (pc' := 18) rfl ?_
        refine Run.iloadN d19_18 rfl (pc' := 19) rfl ?_
        refine Run.caload (i := i) (v := (.int (cs.getD i 0))) d19_19 ACh (own_ofn (by omega)) (own_cg hil) (pc' := 20) rfl ?_
        refine Run.callS (k' := 1) (n' := 128) (as := [(.ref b11), (.int (Int32.ofNat i)), (.int (cs.getD i 0))]) (rest := []) (con_puc l Z a0 hw n0 hh szh b11 i (cs.getD i 0) (own_u16 (cs.take i) ++ List.replicate (2 * (cs.length - i)) (.int (0 : Int32))) odh SD SH8 SL8 ABh ge_b11 (by rw [List.length_append, own_u16_len, List.length_take, List.length_replicate]; omega) (by omega)) d19_20 (hw _ (List.mem_of_getElem? (i := 116) rfl)) (hw _ (List.mem_of_getElem? (i := 117) rfl)) (hw _ (List.mem_of_getElem? (i := 101) rfl)) (hw _ (List.mem_of_getElem? (i := 118) rfl)) (by decide) pd___BII_V rfl rfl rfl (by decide) (by show (0 : Nat) + (3 + 11) + 0 ≤ _; decide) (by decide) (by decide) (by decide) (by decide) (pc' := 23) rfl ?_
        rintro _ h12 ⟨rfl, ⟨K12, P12⟩⟩
        show Run l Z n0 "java/lang/StringUTF16" jdk_52_method_14_code 5 (some (.array .byte)) "toBytes" ({ frames := 2, cells := 1, slots := 128, locals := 24 } : Room) _ 23 #[.val (.ref a), .val (.int (Int32.ofNat i)), .val (.int (Int32.ofNat cs.length)), .val (.ref b11), .val (.int (Int32.ofNat i))] [] h12 1 128
        have A_a_12 := ACh.keep K12 (ninS ne_a_b11 nin0)
        have sz12 : n0 ≤ h12.size := Nat.le_trans szh K12.1
        have kp12 := Keep.trans kph K12 (allS (Or.inr bo_b11) all0)
        have od12 := odh.keep K12 (allS ge_b11 all0)
        refine Run.iinc (1 : Int32) #[.val (.ref a), .val (.int ((Int32.ofNat i) + (1 : Int32))), .val (.int (Int32.ofNat cs.length)), .val (.ref b11), .val (.int (Int32.ofNat i))] d19_23 (by decide) rfl rfl (pc' := 26) rfl ?_
        refine Run.iinc (1 : Int32) #[.val (.ref a), .val (.int ((Int32.ofNat i) + (1 : Int32))), .val (.int (Int32.ofNat cs.length)), .val (.ref b11), .val (.int ((Int32.ofNat i) + (1 : Int32)))] d19_26 (by decide) rfl rfl (pc' := 29) rfl ?_
        refine Run.goto d19_29 (by decide) (pc' := 8) (by decide) ?_
        simp only [own_inc]
        exact ih (i + 1) h12 (by omega) sz12 kp12 od12 A_a_12 (by rw [← own_u16_set hil]; exact P12)
  exact loop cs.length 0 h11 (by omega) sz11 kp11 od11 A_a_11 (by simpa [own_u16] using P11)
theorem own_ofne {a b : Nat} (h : ¬ Int32.ofNat a = Int32.ofNat b) : ¬ a = b := fun e => h (by rw [e])
theorem own_ofeq {cs : List Int32} {B : Nat} (h : Int32.ofNat (own_pfx cs) = Int32.ofNat cs.length) (hn : cs.length ≤ B) (hB : B < 2 ^ 30 := by decide) : own_pfx cs = cs.length := by
  have h1 := own_pfx_le cs; have h2 := own_ofn (i := own_pfx cs) (by omega); have h3 := own_ofn (i := cs.length) (by omega)
  rw [h] at h2; omega
theorem d17_0 : decode jdk_52_method_16_code 0 = .ok (.iload_n 2, 1) := by decide +kernel
theorem d17_1 : decode jdk_52_method_16_code 1 = .ok (.newarray .byte, 2) := by decide +kernel
theorem d17_3 : decode jdk_52_method_16_code 3 = .ok (.astore_n 3, 1) := by decide +kernel
theorem d17_4 : decode jdk_52_method_16_code 4 = .ok (.aload_n 0, 1) := by decide +kernel
theorem d17_5 : decode jdk_52_method_16_code 5 = .ok (.iload_n 1, 1) := by decide +kernel
theorem d17_6 : decode jdk_52_method_16_code 6 = .ok (.aload_n 3, 1) := by decide +kernel
theorem d17_7 : decode jdk_52_method_16_code 7 = .ok (.iconst 0, 1) := by decide +kernel
theorem d17_8 : decode jdk_52_method_16_code 8 = .ok (.iload_n 2, 1) := by decide +kernel
theorem d17_9 : decode jdk_52_method_16_code 9 = .ok (.invokestatic 115, 3) := by decide +kernel
theorem d17_12 : decode jdk_52_method_16_code 12 = .ok (.istore 4, 2) := by decide +kernel
theorem d17_14 : decode jdk_52_method_16_code 14 = .ok (.iload 4, 2) := by decide +kernel
theorem d17_16 : decode jdk_52_method_16_code 16 = .ok (.iload_n 2, 1) := by decide +kernel
theorem d17_17 : decode jdk_52_method_16_code 17 = .ok (.if_icmp .eq 40, 3) := by decide +kernel
theorem d17_20 : decode jdk_52_method_16_code 20 = .ok (.aload_n 0, 1) := by decide +kernel
theorem d17_21 : decode jdk_52_method_16_code 21 = .ok (.iload_n 1, 1) := by decide +kernel
theorem d17_22 : decode jdk_52_method_16_code 22 = .ok (.iload_n 2, 1) := by decide +kernel
theorem d17_23 : decode jdk_52_method_16_code 23 = .ok (.invokestatic 119, 3) := by decide +kernel
theorem d17_26 : decode jdk_52_method_16_code 26 = .ok (.astore 5, 2) := by decide +kernel
theorem d17_28 : decode jdk_52_method_16_code 28 = .ok (.aload 5, 2) := by decide +kernel
theorem d17_30 : decode jdk_52_method_16_code 30 = .ok (.iload 4, 2) := by decide +kernel
theorem d17_32 : decode jdk_52_method_16_code 32 = .ok (.invokestatic 71, 3) := by decide +kernel
theorem d17_35 : decode jdk_52_method_16_code 35 = .ok (.sipush 255, 3) := by decide +kernel
theorem d17_38 : decode jdk_52_method_16_code 38 = .ok (.if_icmp .gt 16, 3) := by decide +kernel
theorem d17_54 : decode jdk_52_method_16_code 54 = .ok (.aload 5, 2) := by decide +kernel
theorem d17_56 : decode jdk_52_method_16_code 56 = .ok (.areturn, 1) := by decide +kernel
theorem d17_57 : decode jdk_52_method_16_code 57 = .ok (.aload_n 3, 1) := by decide +kernel
theorem d17_58 : decode jdk_52_method_16_code 58 = .ok (.areturn, 1) := by decide +kernel
theorem pn_17 : plainFor (⟨"java/lang/StringUTF16", "compress", "([CII)[B"⟩ : MethodName) = true := plainFor_of_name (by first | (simp [plainName, overriddenIn]; done) | decide +kernel)
theorem pd___BI_C : parseMethodDescriptor "([BI)C" = some ⟨[(.array .byte), .int], some .char⟩ := by decide +kernel
theorem pd___CII__B : parseMethodDescriptor "([CII)[B" = some ⟨[(.array .char), .int, .int], some (.array .byte)⟩ := by decide +kernel
theorem pd___CI_BII_I : parseMethodDescriptor "([CI[BII)I" = some ⟨[(.array .char), .int, (.array .byte), .int, .int], some .int⟩ := by decide +kernel
theorem ef_con_cmp3 (m : MethodId) (a : Addr) (cs : List Int32) (us : List Value)  : entryFrame m #[(.ref a), (.int (0 : Int32)), (.int (Int32.ofNat cs.length))] 6 = mkF m 0 #[.val (.ref a), .val (.int (0 : Int32)), .val (.int (Int32.ofNat cs.length)), .unset, .unset, .unset] [] := by first | (simp [entryFrame, mkF, argsToLocals, Value.category]; done) | rfl
set_option maxRecDepth 65536 in
set_option maxHeartbeats 40000000 in
theorem con_cmp3 (l : Launch) (Z : State) (a0 : Array Value) (hw : ∀ d ∈ tables_1, d.before a0 Z = true) (n0 : Nat) (h0 : Heap) (Z0 : n0 ≤ h0.size) (a : Addr) (cs : List Int32) (us : List Value) (od0 : Old Z n0 h0) (SD : Sta Z Z.heap "java/lang/StringUTF16" "$assertionsDisabled" "Z" (.int (1 : Int32))) (SH8 : Sta Z Z.heap "java/lang/StringUTF16" "HI_BYTE_SHIFT" "I" (.int (0 : Int32))) (SL8 : Sta Z Z.heap "java/lang/StringUTF16" "LO_BYTE_SHIFT" "I" (.int (8 : Int32))) (AC : Ary Z h0 a .char (cs.map Value.int ++ us)) (hn : cs.length ≤ 64) (hch : own_chr cs) :
    Con l Z n0 (⟨"java/lang/StringUTF16", "compress", "([CII)[B"⟩ : MethodName) jdk_52_method_16_code 6 (some (.array .byte)) ({ frames := 3, cells := 2, slots := 192, locals := 40 } : Room) #[(.ref a), (.int (0 : Int32)), (.int (Int32.ofNat cs.length))] h0 (Val fun w h' => ∃ b, w = .ref b ∧ h0.size ≤ b ∧ Ext h0 h' ∧ Ary Z h' b .byte (own_enc cs)) := by
  refine Con.of_run pn_17 (fun m => ef_con_cmp3 m a cs us ) ?_
  refine Run.iloadN d17_0 rfl (pc' := 1) rfl ?_
  refine Run.newP (ty := .byte) (m := cs.length) (cap := 64) (dv := (.int (0 : Int32))) (k' := 1) (n' := 64) d17_1 rfl (hw _ (List.mem_of_getElem? (i := 77) rfl)) (own_nge (by omega)) (clamp_of rfl (by omega)) hn rfl (by decide) (by decide) (by decide) (by decide) (by decide) (pc' := 3) rfl ?_
  intro h11 b11 g11 E11 A11
  have ge_b11 : n0 ≤ b11 := by rw [g11]; exact Z0
  have bo_b11 : h0.size ≤ b11 := by rw [g11]; exact (Keep.refl h0 []).1
  have ne_a_b11 : a ≠ b11 := by rw [g11]; exact Nat.ne_of_lt AC.lt
  have A_a_11 := AC.ext E11
  have sz11 : n0 ≤ h11.size := Nat.le_trans Z0 E11.1
  have kp11 := Keep.ext (Keep.refl h0 []) E11
  have od11 := od0.ext E11
  refine Run.astoreN (l' := #[.val (.ref a), .val (.int (0 : Int32)), .val (.int (Int32.ofNat cs.length)), .val (.ref b11), .unset, .unset]) d17_3 rfl rfl (pc' := 4) rfl ?_
  refine Run.aloadN d17_4 rfl rfl (pc' := 5) rfl ?_
  refine Run.iloadN d17_5 rfl (pc' := 6) rfl ?_
  refine Run.aloadN d17_6 rfl rfl (pc' := 7) rfl ?_
  refine Run.iconst (0 : Int32) d17_7 (by decide) (pc' := 8) rfl ?_
  refine Run.iloadN d17_8 rfl (pc' := 9) rfl ?_
  refine Run.callS (k' := 1) (n' := 64) (as := [(.ref a), (.int (0 : Int32)), (.ref b11), (.int (0 : Int32)), (.int (Int32.ofNat cs.length))]) (rest := []) (con_cmp5 l Z a0 hw n0 h11 sz11 a b11 cs us A_a_11 A11 ne_a_b11 ge_b11 (by omega)) d17_9 (hw _ (List.mem_of_getElem? (i := 103) rfl)) (hw _ (List.mem_of_getElem? (i := 104) rfl)) (hw _ (List.mem_of_getElem? (i := 101) rfl)) (hw _ (List.mem_of_getElem? (i := 105) rfl)) (by decide) pd___CI_BII_I rfl rfl rfl (by decide) (by show (0 : Nat) + (7 + 11) + 0 ≤ _; decide) (by decide) (by decide) (by decide) (by decide) (pc' := 12) rfl ?_
  rintro _ h12 ⟨_, rfl, ⟨rfl, K12, P12⟩⟩
  show Run l Z n0 "java/lang/StringUTF16" jdk_52_method_16_code 6 (some (.array .byte)) "compress" ({ frames := 3, cells := 2, slots := 192, locals := 40 } : Room) _ 12 #[.val (.ref a), .val (.int (0 : Int32)), .val (.int (Int32.ofNat cs.length)), .val (.ref b11), .unset, .unset] [(.int (Int32.ofNat (own_pfx cs)))] h12 1 64
  have A_a_12 := A_a_11.keep K12 (ninS ne_a_b11 nin0)
  have sz12 : n0 ≤ h12.size := Nat.le_trans sz11 K12.1
  have kp12 := Keep.trans kp11 K12 (allS (Or.inr bo_b11) all0)
  have od12 := od11.keep K12 (allS ge_b11 all0)
  refine Run.istore (l' := #[.val (.ref a), .val (.int (0 : Int32)), .val (.int (Int32.ofNat cs.length)), .val (.ref b11), .val (.int (Int32.ofNat (own_pfx cs))), .unset]) d17_12 rfl (pc' := 14) rfl ?_
  refine Run.iload d17_14 rfl (pc' := 16) rfl ?_
  refine Run.iloadN d17_16 rfl (pc' := 17) rfl ?_
  refine Run.icmp_eq d17_17 (by decide) (pc' := 57) (by decide) (pa := 20) rfl (fun hc17 => ?_) (fun hc17 => ?_)
  · -- pc 17 taken: (Int32.ofNat (own_pfx cs)) = (Int32.ofNat cs.length)
    refine Run.aloadN d17_57 rfl rfl (pc' := 58) rfl ?_
    exact Run.areturn d17_58 (ty := (.array .byte)) rfl rfl rfl (by decide) (by decide) ⟨_, rfl, b11, rfl, bo_b11, Keep.toExt kp12, (by unfold own_enc; rw [if_pos (own_ofeq hc17 hn)]; have z := P12; rw [own_ofeq hc17 hn] at z; simpa using z)⟩
  · -- pc 17 not taken: ¬ (Int32.ofNat (own_pfx cs)) = (Int32.ofNat cs.length)
    have hst := own_pfx_stop (own_ofne hc17)
    have hgu := own_u16_get hst.1
    refine Run.aloadN d17_20 rfl rfl (pc' := 21) rfl ?_
    refine Run.iloadN d17_21 rfl (pc' := 22) rfl ?_
    refine Run.iloadN d17_22 rfl (pc' := 23) rfl ?_
    refine Run.callS (k' := 2) (n' := 192) (as := [(.ref a), (.int (0 : Int32)), (.int (Int32.ofNat cs.length))]) (rest := []) (con_tby l Z a0 hw n0 h12 sz12 a cs us od12 SD SH8 SL8 A_a_12 hn) d17_23 (hw _ (List.mem_of_getElem? (i := 106) rfl)) (hw _ (List.mem_of_getElem? (i := 107) rfl)) (hw _ (List.mem_of_getElem? (i := 101) rfl)) (hw _ (List.mem_of_getElem? (i := 108) rfl)) (by decide) pd___CII__B rfl rfl rfl (by decide) (by show (0 : Nat) + (5 + 11) + 24 ≤ _; decide) (by decide) (by decide) (by decide) (by decide) (pc' := 26) rfl ?_
    rintro _ h13 ⟨_, rfl, ⟨b13, rfl, bw13, E13, P13⟩⟩
    show Run l Z n0 "java/lang/StringUTF16" jdk_52_method_16_code 6 (some (.array .byte)) "compress" ({ frames := 3, cells := 2, slots := 192, locals := 40 } : Room) _ 26 #[.val (.ref a), .val (.int (0 : Int32)), .val (.int (Int32.ofNat cs.length)), .val (.ref b11), .val (.int (Int32.ofNat (own_pfx cs))), .unset] [(.ref b13)] h13 2 192
    have ge_b13 : n0 ≤ b13 := Nat.le_trans sz12 bw13
    have bo_b13 : h0.size ≤ b13 := Nat.le_trans kp12.1 bw13
    have ne_a_b13 : a ≠ b13 := Nat.ne_of_lt (Nat.lt_of_lt_of_le A_a_12.lt bw13)
    have ne_b11_b13 : b11 ≠ b13 := Nat.ne_of_lt (Nat.lt_of_lt_of_le P12.lt bw13)
    have A_a_13 := A_a_12.ext E13
    have A_b11_13 := P12.ext E13
    have sz13 : n0 ≤ h13.size := Nat.le_trans sz12 E13.1
    have kp13 := Keep.ext kp12 E13
    have od13 := od12.ext E13
    refine Run.astore (l' := #[.val (.ref a), .val (.int (0 : Int32)), .val (.int (Int32.ofNat cs.length)), .val (.ref b11), .val (.int (Int32.ofNat (own_pfx cs))), .val (.ref b13)]) d17_26 rfl rfl (pc' := 28) rfl ?_
    refine Run.aload d17_28 rfl rfl (pc' := 30) rfl ?_
    refine Run.iload d17_30 rfl (pc' := 32) rfl ?_
    refine Run.callS (k' := 2) (n' := 192) (as := [(.ref b13), (.int (Int32.ofNat (own_pfx cs)))]) (rest := []) (con_gec l Z a0 hw n0 h13 sz13  b13 (own_pfx cs) (own_b0 (cs.getD (own_pfx cs) 0)) (own_b1 (cs.getD (own_pfx cs) 0)) (own_u16 cs) od13 SD SH8 SL8 P13 hgu.1 hgu.2 (by omega)) d17_32 (hw _ (List.mem_of_getElem? (i := 122) rfl)) (hw _ (List.mem_of_getElem? (i := 123) rfl)) (hw _ (List.mem_of_getElem? (i := 101) rfl)) (hw _ (List.mem_of_getElem? (i := 124) rfl)) (by decide) pd___BI_C rfl rfl rfl (by decide) (by show (0 : Nat) + (2 + 11) + 0 ≤ _; decide) (by decide) (by decide) (by decide) (by decide) (pc' := 35) rfl ?_
    rintro _ _ ⟨_, rfl, rfl, rfl⟩
    show Run l Z n0 "java/lang/StringUTF16" jdk_52_method_16_code 6 (some (.array .byte)) "compress" ({ frames := 3, cells := 2, slots := 192, locals := 40 } : Room) _ 35 #[.val (.ref a), .val (.int (0 : Int32)), .val (.int (Int32.ofNat cs.length)), .val (.ref b11), .val (.int (Int32.ofNat (own_pfx cs))), .val (.ref b13)] [(.int (own_gc (own_b0 (cs.getD (own_pfx cs) 0)) (own_b1 (cs.getD (own_pfx cs) 0))))] h13 2 192
    rw [own_gcb (own_chrD hch hst.1)]
    refine Run.sipush (255 : Int32) d17_35 (by decide) (pc' := 38) rfl ?_
    refine Run.icmp_gt d17_38 (by decide) (pc' := 54) (by decide) (pa := 41) rfl (fun hc38 => ?_) (fun hc38 => ?_)
    · -- pc 38 taken: (255 : Int32) < (cs.getD (own_pfx cs) 0)
      refine Run.aload d17_54 rfl rfl (pc' := 56) rfl ?_
      exact Run.areturn d17_56 (ty := (.array .byte)) rfl rfl rfl (by decide) (by decide) ⟨_, rfl, b13, rfl, bo_b13, Keep.toExt kp13, (by unfold own_enc; rw [if_neg (own_ofne hc17)]; exact P13)⟩
    · -- pc 38 not taken: ¬ (255 : Int32) < (cs.getD (own_pfx cs) 0)
      exact absurd hst.2 hc38
theorem d24_0 : decode jdk_52_method_15_code 0 = .ok (.iload_n 1, 1) := by decide +kernel
theorem d24_1 : decode jdk_52_method_15_code 1 = .ok (.aload_n 0, 1) := by decide +kernel
theorem d24_2 : decode jdk_52_method_15_code 2 = .ok (.arraylength, 1) := by decide +kernel
theorem d24_3 : decode jdk_52_method_15_code 3 = .ok (.isub, 1) := by decide +kernel
theorem d24_4 : decode jdk_52_method_15_code 4 = .ok (.bipush 31, 2) := by decide +kernel
theorem d24_6 : decode jdk_52_method_15_code 6 = .ok (.iushr, 1) := by decide +kernel
theorem d24_7 : decode jdk_52_method_15_code 7 = .ok (.i2b, 1) := by decide +kernel
theorem d24_8 : decode jdk_52_method_15_code 8 = .ok (.ireturn, 1) := by decide +kernel
theorem pn_24 : plainFor (⟨"java/lang/StringUTF16", "coderFromArrayLen", "([BI)B"⟩ : MethodName) = true := plainFor_of_name (by first | (simp [plainName, overriddenIn]; done) | decide +kernel)
theorem ef_con_cfal (m : MethodId) (a : Addr) (cs : List Int32)  : entryFrame m #[(.ref a), (.int (Int32.ofNat cs.length))] 2 = mkF m 0 #[.val (.ref a), .val (.int (Int32.ofNat cs.length))] [] := by first | (simp [entryFrame, mkF, argsToLocals, Value.category]; done) | rfl
set_option maxRecDepth 65536 in
set_option maxHeartbeats 40000000 in
theorem con_cfal (l : Launch) (Z : State) (a0 : Array Value) (hw : ∀ d ∈ tables_1, d.before a0 Z = true) (n0 : Nat) (h0 : Heap) (Z0 : n0 ≤ h0.size) (a : Addr) (cs : List Int32) (AB : Ary Z h0 a .byte (own_enc cs)) (hne : cs ≠ []) (hn : cs.length ≤ 64) :
    Con l Z n0 (⟨"java/lang/StringUTF16", "coderFromArrayLen", "([BI)B"⟩ : MethodName) jdk_52_method_15_code 2 (some .byte) ({ frames := 0, cells := 0, slots := 0, locals := 0 } : Room) #[(.ref a), (.int (Int32.ofNat cs.length))] h0 (Val (PV (.int (own_coder cs)) h0)) := by
  refine Con.of_run pn_24 (fun m => ef_con_cfal m a cs ) ?_
  refine Run.iloadN d24_0 rfl (pc' := 1) rfl ?_
  refine Run.aloadN d24_1 rfl rfl (pc' := 2) rfl ?_
  refine Run.alen (z := (Int32.ofNat (own_enc cs).length)) d24_2 AB rfl (pc' := 3) rfl ?_
  refine Run.isub d24_3 (pc' := 4) rfl ?_
  refine Run.bipush (31 : Int32) d24_4 (by decide) (pc' := 6) rfl ?_
  refine Run.iushr d24_6 (pc' := 7) rfl ?_
  refine Run.i2b d24_7 (pc' := 8) rfl ?_
  exact Run.nreturn d24_8 (ty := .byte) rfl (by simp) (by decide) (by decide) ⟨_, rfl, congrArg Value.int (own_cfl hne (by omega)).symm, rfl⟩
theorem own_pos {cs : List Int32} (h : cs ≠ []) (h2 : cs.length < 2 ^ 31) : ¬ Int32.ofNat cs.length = (0 : Int32) := fun e => by
  have h1 := own_ofn h2; rw [e, own_z] at h1; have := List.length_pos_iff.mpr h; omega
theorem own_codn (cs : List Int32) : narrow .byte (.int (own_coder cs)) = .int (own_coder cs) ∧ fits .byte (.int (own_coder cs)) = true := by unfold own_coder; split <;> decide
theorem d13_0 : decode jdk_42_method_149_code 0 = .ok (.aload_n 0, 1) := by decide +kernel
theorem d13_1 : decode jdk_42_method_149_code 1 = .ok (.invokespecial 1, 3) := by decide +kernel
theorem d13_4 : decode jdk_42_method_149_code 4 = .ok (.iload_n 3, 1) := by decide +kernel
theorem d13_5 : decode jdk_42_method_149_code 5 = .ok (.ifCond .ne 22, 3) := by decide +kernel
theorem d13_8 : decode jdk_42_method_149_code 8 = .ok (.aload_n 0, 1) := by decide +kernel
theorem d13_9 : decode jdk_42_method_149_code 9 = .ok (.ldc 7, 2) := by decide +kernel
theorem d13_11 : decode jdk_42_method_149_code 11 = .ok (.getfield 9, 3) := by decide +kernel
theorem d13_14 : decode jdk_42_method_149_code 14 = .ok (.putfield 9, 3) := by decide +kernel
theorem d13_17 : decode jdk_42_method_149_code 17 = .ok (.aload_n 0, 1) := by decide +kernel
theorem d13_18 : decode jdk_42_method_149_code 18 = .ok (.ldc 7, 2) := by decide +kernel
theorem d13_20 : decode jdk_42_method_149_code 20 = .ok (.getfield 15, 3) := by decide +kernel
theorem d13_23 : decode jdk_42_method_149_code 23 = .ok (.putfield 15, 3) := by decide +kernel
theorem d13_26 : decode jdk_42_method_149_code 26 = .ok (.return_, 1) := by decide +kernel
theorem d13_27 : decode jdk_42_method_149_code 27 = .ok (.getstatic 38, 3) := by decide +kernel
theorem d13_30 : decode jdk_42_method_149_code 30 = .ok (.ifCond .eq 28, 3) := by decide +kernel
theorem d13_33 : decode jdk_42_method_149_code 33 = .ok (.aload_n 1, 1) := by decide +kernel
theorem d13_34 : decode jdk_42_method_149_code 34 = .ok (.iload_n 2, 1) := by decide +kernel
theorem d13_35 : decode jdk_42_method_149_code 35 = .ok (.iload_n 3, 1) := by decide +kernel
theorem d13_36 : decode jdk_42_method_149_code 36 = .ok (.invokestatic 177, 3) := by decide +kernel
theorem d13_39 : decode jdk_42_method_149_code 39 = .ok (.astore 5, 2) := by decide +kernel
theorem d13_41 : decode jdk_42_method_149_code 41 = .ok (.aload_n 0, 1) := by decide +kernel
theorem d13_42 : decode jdk_42_method_149_code 42 = .ok (.aload 5, 2) := by decide +kernel
theorem d13_44 : decode jdk_42_method_149_code 44 = .ok (.iload_n 3, 1) := by decide +kernel
theorem d13_45 : decode jdk_42_method_149_code 45 = .ok (.invokestatic 47, 3) := by decide +kernel
theorem d13_48 : decode jdk_42_method_149_code 48 = .ok (.putfield 15, 3) := by decide +kernel
theorem d13_51 : decode jdk_42_method_149_code 51 = .ok (.aload_n 0, 1) := by decide +kernel
theorem d13_52 : decode jdk_42_method_149_code 52 = .ok (.aload 5, 2) := by decide +kernel
theorem d13_54 : decode jdk_42_method_149_code 54 = .ok (.putfield 9, 3) := by decide +kernel
theorem d13_57 : decode jdk_42_method_149_code 57 = .ok (.return_, 1) := by decide +kernel
theorem pn_13 : plainFor (⟨"java/lang/String", "<init>", "([CIILjava/lang/Void;)V"⟩ : MethodName) = true := plainFor_of_name (by first | (simp [plainName, overriddenIn]; done) | decide +kernel)
theorem pd___BI_B : parseMethodDescriptor "([BI)B" = some ⟨[(.array .byte), .int], some .byte⟩ := by decide +kernel
theorem ef_con_si4 (m : MethodId) (t a : Addr) (cs : List Int32) (us : List Value) (cz : Int32) (uv uc : Value)  : entryFrame m #[(.ref t), (.ref a), (.int (0 : Int32)), (.int (Int32.ofNat cs.length)), .null] 6 = mkF m 0 #[.val (.ref t), .val (.ref a), .val (.int (0 : Int32)), .val (.int (Int32.ofNat cs.length)), .val .null, .unset] [] := by first | (simp [entryFrame, mkF, argsToLocals, Value.category]; done) | rfl
set_option maxRecDepth 65536 in
set_option maxHeartbeats 40000000 in
theorem con_si4 (l : Launch) (Z : State) (a0 : Array Value) (hw : ∀ d ∈ tables_1, d.before a0 Z = true) (n0 : Nat) (h0 : Heap) (Z0 : n0 ≤ h0.size) (t a : Addr) (cs : List Int32) (us : List Value) (cz : Int32) (uv uc : Value) (od0 : Old Z n0 h0) (SD : Sta Z Z.heap "java/lang/StringUTF16" "$assertionsDisabled" "Z" (.int (1 : Int32))) (SH8 : Sta Z Z.heap "java/lang/StringUTF16" "HI_BYTE_SHIFT" "I" (.int (0 : Int32))) (SL8 : Sta Z Z.heap "java/lang/StringUTF16" "LO_BYTE_SHIFT" "I" (.int (8 : Int32))) (SZ : Sta Z Z.heap "java/lang/String" "COMPACT_STRINGS" "Z" (.int cz)) (hcz : ¬ cz = 0) (E1 : Exa Z h0 t "java/lang/String") (FV : Fld Z h0 t "java/lang/String" "value" "[B" uv) (FC : Fld Z h0 t "java/lang/String" "coder" "B" uc) (gt : n0 ≤ t) (AC : Ary Z h0 a .char (cs.map Value.int ++ us)) (hne : cs ≠ []) (hn : cs.length ≤ 64) (hch : own_chr cs) (hta : t ≠ a) :
    Con l Z n0 (⟨"java/lang/String", "<init>", "([CIILjava/lang/Void;)V"⟩ : MethodName) jdk_42_method_149_code 6 none ({ frames := 4, cells := 2, slots := 192, locals := 57 } : Room) #[(.ref t), (.ref a), (.int (0 : Int32)), (.int (Int32.ofNat cs.length)), .null] h0 (Vd fun h' => ∃ b, h0.size ≤ b ∧ Keep h0 h' [t] ∧ Exa Z h' t "java/lang/String" ∧ Fld Z h' t "java/lang/String" "value" "[B" (.ref b) ∧ Fld Z h' t "java/lang/String" "coder" "B" (.int (own_coder cs)) ∧ Ary Z h' b .byte (own_enc cs)) := by
  refine Con.of_run pn_13 (fun m => ef_con_si4 m t a cs us cz uv uc ) ?_
  refine Run.aloadN d13_0 rfl rfl (pc' := 1) rfl ?_
  refine Run.initO d13_1 (hw _ (List.mem_of_getElem? (i := 75) rfl)) (hw _ (List.mem_of_getElem? (i := 12) rfl)) (hw _ (List.mem_of_getElem? (i := 13) rfl)) rfl (by decide) (by show (0 : Nat) + 12 ≤ _; decide) (pc' := 4) rfl ?_
  refine Run.iloadN d13_4 rfl (pc' := 5) rfl ?_
  refine Run.if_ne d13_5 (by decide) (pc' := 27) (by decide) (pa := 8) rfl (fun hc5 => ?_) (fun hc5 => ?_)
  · -- pc 5 taken: ¬ (Int32.ofNat cs.length) = (0 : Int32)
    refine Run.getS d13_27 (host := "") (Or.inl (hw _ (List.mem_of_getElem? (i := 95) rfl))) Via.refl (SZ.ext od0.2) (pc' := 30) rfl ?_
    refine Run.if_eq d13_30 (by decide) (pc' := 58) (by decide) (pa := 33) rfl (fun hc30 => ?_) (fun hc30 => ?_)
    · -- pc 30 taken: cz = (0 : Int32)
      exact absurd hc30 hcz
    · -- pc 30 not taken: ¬ cz = (0 : Int32)
      refine Run.aloadN d13_33 rfl rfl (pc' := 34) rfl ?_
      refine Run.iloadN d13_34 rfl (pc' := 35) rfl ?_
      refine Run.iloadN d13_35 rfl (pc' := 36) rfl ?_
      refine Run.callS (k' := 2) (n' := 192) (as := [(.ref a), (.int (0 : Int32)), (.int (Int32.ofNat cs.length))]) (rest := []) (con_cmp3 l Z a0 hw n0 h0 Z0 a cs us od0 SD SH8 SL8 AC hn hch) d13_36 (hw _ (List.mem_of_getElem? (i := 99) rfl)) (hw _ (List.mem_of_getElem? (i := 100) rfl)) (hw _ (List.mem_of_getElem? (i := 101) rfl)) (hw _ (List.mem_of_getElem? (i := 102) rfl)) (by decide) pd___CII__B rfl rfl rfl (by decide) (by show (0 : Nat) + (6 + 11) + 40 ≤ _; decide) (by decide) (by decide) (by decide) (by decide) (pc' := 39) rfl ?_
      rintro _ h11 ⟨_, rfl, ⟨b11, rfl, bw11, E11, P11⟩⟩
      show Run l Z n0 "java/lang/String" jdk_42_method_149_code 6 none "<init>" ({ frames := 4, cells := 2, slots := 192, locals := 57 } : Room) _ 39 #[.val (.ref t), .val (.ref a), .val (.int (0 : Int32)), .val (.int (Int32.ofNat cs.length)), .val .null, .unset] [(.ref b11)] h11 2 192
      have ge_b11 : n0 ≤ b11 := Nat.le_trans Z0 bw11
      have bo_b11 : h0.size ≤ b11 := Nat.le_trans (Keep.refl h0 [t]).1 bw11
      have ne_t_b11 : t ≠ b11 := Nat.ne_of_lt (Nat.lt_of_lt_of_le E1.lt bw11)
      have ne_a_b11 : a ≠ b11 := Nat.ne_of_lt (Nat.lt_of_lt_of_le AC.lt bw11)
      have E_t_11 := E1.ext E11
      have F_t_value_11 := FV.ext E11
      have F_t_coder_11 := FC.ext E11
      have A_a_11 := AC.ext E11
      have sz11 : n0 ≤ h11.size := Nat.le_trans Z0 E11.1
      have kp11 := Keep.ext (Keep.refl h0 [t]) E11
      have od11 := od0.ext E11
      refine Run.astore (l' := #[.val (.ref t), .val (.ref a), .val (.int (0 : Int32)), .val (.int (Int32.ofNat cs.length)), .val .null, .val (.ref b11)]) d13_39 rfl rfl (pc' := 41) rfl ?_
      refine Run.aloadN d13_41 rfl rfl (pc' := 42) rfl ?_
      refine Run.aload d13_42 rfl rfl (pc' := 44) rfl ?_
      refine Run.iloadN d13_44 rfl (pc' := 45) rfl ?_
      refine Run.callS (k' := 2) (n' := 192) (as := [(.ref b11), (.int (Int32.ofNat cs.length))]) (rest := [(.ref t)]) (con_cfal l Z a0 hw n0 h11 sz11  b11 cs P11 hne hn) d13_45 (hw _ (List.mem_of_getElem? (i := 125) rfl)) (hw _ (List.mem_of_getElem? (i := 126) rfl)) (hw _ (List.mem_of_getElem? (i := 101) rfl)) (hw _ (List.mem_of_getElem? (i := 127) rfl)) (by decide) pd___BI_B rfl rfl rfl (by decide) (by show (1 : Nat) + (2 + 11) + 0 ≤ _; decide) (by decide) (by decide) (by decide) (by decide) (pc' := 48) rfl ?_
      rintro _ _ ⟨_, rfl, rfl, rfl⟩
      show Run l Z n0 "java/lang/String" jdk_42_method_149_code 6 none "<init>" ({ frames := 4, cells := 2, slots := 192, locals := 57 } : Room) _ 48 #[.val (.ref t), .val (.ref a), .val (.int (0 : Int32)), .val (.int (Int32.ofNat cs.length)), .val .null, .val (.ref b11)] [(.int (own_coder cs)), (.ref t)] h11 2 192
      refine Run.putFN d13_48 (hw _ (List.mem_of_getElem? (i := 83) rfl)) Via.refl F_t_coder_11 E_t_11 (Or.inr ⟨(hw _ (List.mem_of_getElem? (i := 79) rfl)), rfl, rfl⟩) (hw _ (List.mem_of_getElem? (i := 55) rfl)) (ty := .byte) (v' := (.int (own_coder cs))) (by decide) (own_codn cs).1 (own_codn cs).2 gt (pc' := 51) rfl ?_
      intro h12 W12
      have Fw12 := F_t_coder_11.same W12
      have E_t_12 := E_t_11.wr W12
      have F_t_value_12 := F_t_value_11.other W12 (Or.inr (slot_ne (Or.inr (hw _ (List.mem_of_getElem? (i := 78) rfl))) (Or.inr (hw _ (List.mem_of_getElem? (i := 79) rfl))) (by decide) (t := (.array .byte)) (t' := .byte) (by decide) (by decide)))
      have A_a_12 := A_a_11.other W12 hta.symm
      have A_b11_12 := P11.other W12 (Ne.symm ne_t_b11)
      have sz12 : n0 ≤ h12.size := by rw [W12.size]; exact sz11
      have kp12 := Keep.wr kp11 W12 (Or.inl (List.mem_of_getElem? (i := 0) rfl))
      have od12 := od11.wr W12 gt
      refine Run.aloadN d13_51 rfl rfl (pc' := 52) rfl ?_
      refine Run.aload d13_52 rfl rfl (pc' := 54) rfl ?_
      refine Run.putF d13_54 (host := "") (Or.inl (hw _ (List.mem_of_getElem? (i := 82) rfl))) Via.refl F_t_value_12 E_t_12 (Or.inr ⟨(hw _ (List.mem_of_getElem? (i := 78) rfl)), rfl, rfl⟩) (hw _ (List.mem_of_getElem? (i := 55) rfl)) (ty := (.array .byte)) (by decide) (go_narref rfl rfl) rfl gt (pc' := 57) rfl ?_
      intro h13 W13
      have Fw13 := F_t_value_12.same W13
      have E_t_13 := E_t_12.wr W13
      have A_a_13 := A_a_12.other W13 hta.symm
      have A_b11_13 := A_b11_12.other W13 (Ne.symm ne_t_b11)
      have F_t_coder_13 := Fw12.other W13 (Or.inr (slot_ne (Or.inr (hw _ (List.mem_of_getElem? (i := 79) rfl))) (Or.inr (hw _ (List.mem_of_getElem? (i := 78) rfl))) (by decide) (t := .byte) (t' := (.array .byte)) (by decide) (by decide)))
      have sz13 : n0 ≤ h13.size := by rw [W13.size]; exact sz12
      have kp13 := Keep.wr kp12 W13 (Or.inl (List.mem_of_getElem? (i := 0) rfl))
      have od13 := od12.wr W13 gt
      exact Run.vreturn d13_57 rfl (by decide) (by decide) ⟨rfl, b11, bo_b11, kp13, E_t_13, Fw13, F_t_coder_13, A_b11_13⟩
  · -- pc 5 not taken: (Int32.ofNat cs.length) = (0 : Int32)
    exact absurd hc5 (own_pos hne (by omega))
theorem own_codb (cs : List Int32) : nar .byte (own_coder cs) = own_coder cs := by unfold own_coder; split <;> decide
def own_isl (cs : List Int32) : Int32 := if own_coder cs = 0 then 1 else 0
theorem own_cod0 {cs : List Int32} (h : own_coder cs = 0) : own_pfx cs = cs.length := by unfold own_coder at h; split at h; assumption; exact absurd h (by decide)
theorem own_cod1 {cs : List Int32} (h : ¬ own_coder cs = 0) : ¬ own_pfx cs = cs.length := fun e => h (by unfold own_coder; rw [if_pos e])
theorem own_isl0 {cs : List Int32} (h : own_isl cs = 0) : ¬ own_pfx cs = cs.length := by unfold own_isl at h; split at h; exact absurd h (by decide); rename_i q; exact own_cod1 q
theorem own_isl1 {cs : List Int32} (h : ¬ own_isl cs = 0) : own_pfx cs = cs.length := by unfold own_isl at h; split at h; rename_i q; exact own_cod0 q; exact absurd rfl h
theorem own_lenshr {cs : List Int32} (h : cs.length < 2 ^ 29) : Int32.ofNat (own_enc cs).length >>> (own_coder cs &&& 31) = Int32.ofNat cs.length := by
  rw [own_enc_len]; unfold own_coder; split
  · exact own_shr0 _
  · exact own_shr1 (by omega)
theorem own_encP {cs : List Int32} (h : own_pfx cs = cs.length) : own_enc cs = own_by cs := by unfold own_enc; rw [if_pos h]
theorem own_encN {cs : List Int32} (h : ¬ own_pfx cs = cs.length) : own_enc cs = own_u16 cs := by unfold own_enc; rw [if_neg h]
theorem d15_0 : decode jdk_42_method_152_code 0 = .ok (.getstatic 38, 3) := by decide +kernel
theorem d15_3 : decode jdk_42_method_152_code 3 = .ok (.ifCond .eq 10, 3) := by decide +kernel
theorem d15_6 : decode jdk_42_method_152_code 6 = .ok (.aload_n 0, 1) := by decide +kernel
theorem d15_7 : decode jdk_42_method_152_code 7 = .ok (.getfield 15, 3) := by decide +kernel
theorem d15_10 : decode jdk_42_method_152_code 10 = .ok (.goto 4, 3) := by decide +kernel
theorem d15_13 : decode jdk_42_method_152_code 13 = .ok (.iconst 1, 1) := by decide +kernel
theorem d15_14 : decode jdk_42_method_152_code 14 = .ok (.ireturn, 1) := by decide +kernel
theorem pn_15 : plainFor (⟨"java/lang/String", "coder", "()B"⟩ : MethodName) = true := plainFor_of_name (by first | (simp [plainName, overriddenIn]; done) | decide +kernel)
theorem ef_con_cod (m : MethodId) (t : Addr) (cs : List Int32) (cz : Int32)  : entryFrame m #[(.ref t)] 1 = mkF m 0 #[.val (.ref t)] [] := by first | (simp [entryFrame, mkF, argsToLocals, Value.category]; done) | rfl
set_option maxRecDepth 65536 in
set_option maxHeartbeats 40000000 in
theorem con_cod (l : Launch) (Z : State) (a0 : Array Value) (hw : ∀ d ∈ tables_1, d.before a0 Z = true) (n0 : Nat) (h0 : Heap) (Z0 : n0 ≤ h0.size) (t : Addr) (cs : List Int32) (cz : Int32) (od0 : Old Z n0 h0) (SZ : Sta Z Z.heap "java/lang/String" "COMPACT_STRINGS" "Z" (.int cz)) (hcz : ¬ cz = 0) (FC : Fld Z h0 t "java/lang/String" "coder" "B" (.int (own_coder cs))) :
    Con l Z n0 (⟨"java/lang/String", "coder", "()B"⟩ : MethodName) jdk_42_method_152_code 1 (some .byte) ({ frames := 0, cells := 0, slots := 0, locals := 0 } : Room) #[(.ref t)] h0 (Val (PV (.int (own_coder cs)) h0)) := by
  refine Con.of_run pn_15 (fun m => ef_con_cod m t cs cz ) ?_
  refine Run.getS d15_0 (host := "") (Or.inl (hw _ (List.mem_of_getElem? (i := 95) rfl))) Via.refl (SZ.ext od0.2) (pc' := 3) rfl ?_
  refine Run.if_eq d15_3 (by decide) (pc' := 13) (by decide) (pa := 6) rfl (fun hc3 => ?_) (fun hc3 => ?_)
  · -- pc 3 taken: cz = (0 : Int32)
    exact absurd hc3 hcz
  · -- pc 3 not taken: ¬ cz = (0 : Int32)
    refine Run.aloadN d15_6 rfl rfl (pc' := 7) rfl ?_
    refine Run.getF d15_7 (host := "") (Or.inl (hw _ (List.mem_of_getElem? (i := 83) rfl))) Via.refl FC (pc' := 10) rfl ?_
    refine Run.goto d15_10 (by decide) (pc' := 14) (by decide) ?_
    exact Run.nreturn d15_14 (ty := .byte) rfl (by simp) (by decide) (by decide) ⟨_, rfl, congrArg Value.int (own_codb cs).symm, rfl⟩
theorem d14_0 : decode jdk_42_method_54_code 0 = .ok (.aload_n 0, 1) := by decide +kernel
theorem d14_1 : decode jdk_42_method_54_code 1 = .ok (.getfield 9, 3) := by decide +kernel
theorem d14_4 : decode jdk_42_method_54_code 4 = .ok (.arraylength, 1) := by decide +kernel
theorem d14_5 : decode jdk_42_method_54_code 5 = .ok (.aload_n 0, 1) := by decide +kernel
theorem d14_6 : decode jdk_42_method_54_code 6 = .ok (.invokevirtual 335, 3) := by decide +kernel
theorem d14_9 : decode jdk_42_method_54_code 9 = .ok (.ishr, 1) := by decide +kernel
theorem d14_10 : decode jdk_42_method_54_code 10 = .ok (.ireturn, 1) := by decide +kernel
theorem pn_14 : plainFor (⟨"java/lang/String", "length", "()I"⟩ : MethodName) = true := plainFor_of_name (by first | (simp [plainName, overriddenIn]; done) | decide +kernel)
theorem pd___B : parseMethodDescriptor "()B" = some ⟨[], some .byte⟩ := by decide +kernel
theorem ef_con_len (m : MethodId) (t b : Addr) (cs : List Int32) (cz : Int32)  : entryFrame m #[(.ref t)] 1 = mkF m 0 #[.val (.ref t)] [] := by first | (simp [entryFrame, mkF, argsToLocals, Value.category]; done) | rfl
set_option maxRecDepth 65536 in
set_option maxHeartbeats 40000000 in
theorem con_len (l : Launch) (Z : State) (a0 : Array Value) (hw : ∀ d ∈ tables_1, d.before a0 Z = true) (n0 : Nat) (h0 : Heap) (Z0 : n0 ≤ h0.size) (t b : Addr) (cs : List Int32) (cz : Int32) (od0 : Old Z n0 h0) (SZ : Sta Z Z.heap "java/lang/String" "COMPACT_STRINGS" "Z" (.int cz)) (hcz : ¬ cz = 0) (E1 : Exa Z h0 t "java/lang/String") (FV : Fld Z h0 t "java/lang/String" "value" "[B" (.ref b)) (FC : Fld Z h0 t "java/lang/String" "coder" "B" (.int (own_coder cs))) (AB : Ary Z h0 b .byte (own_enc cs)) (hn : cs.length ≤ 64) :
    Con l Z n0 (⟨"java/lang/String", "length", "()I"⟩ : MethodName) jdk_42_method_54_code 1 (some .int) ({ frames := 1, cells := 0, slots := 0, locals := 13 } : Room) #[(.ref t)] h0 (Val (PV (.int (Int32.ofNat cs.length)) h0)) := by
  refine Con.of_run pn_14 (fun m => ef_con_len m t b cs cz ) ?_
  refine Run.aloadN d14_0 rfl rfl (pc' := 1) rfl ?_
  refine Run.getF d14_1 (host := "") (Or.inl (hw _ (List.mem_of_getElem? (i := 82) rfl))) Via.refl FV (pc' := 4) rfl ?_
  refine Run.alen (z := (Int32.ofNat (own_enc cs).length)) d14_4 AB rfl (pc' := 5) rfl ?_
  refine Run.aloadN d14_5 rfl rfl (pc' := 6) rfl ?_
  refine Run.callV (k' := 0) (n' := 0) (a := t) (as := []) (rest := [(.int (Int32.ofNat (own_enc cs).length))]) (con_cod l Z a0 hw n0 h0 Z0 t cs cz od0 SZ hcz FC ) E1 d14_6 (hw _ (List.mem_of_getElem? (i := 90) rfl)) (hw _ (List.mem_of_getElem? (i := 91) rfl)) (fun s hZ => notFace_of_selects (args := #[]) (mvT hZ (hw _ (List.mem_of_getElem? (i := 93) rfl)))) (hw _ (List.mem_of_getElem? (i := 93) rfl)) (hw _ (List.mem_of_getElem? (i := 92) rfl)) (hw _ (List.mem_of_getElem? (i := 56) rfl)) (hw _ (List.mem_of_getElem? (i := 94) rfl)) (by decide) pd___B rfl rfl rfl (by decide) (by show (1 : Nat) + (1 + 11) + 0 ≤ _; decide) (by decide) (by decide) (by decide) (by decide) (pc' := 9) rfl ?_
  rintro _ _ ⟨_, rfl, rfl, rfl⟩
  show Run l Z n0 "java/lang/String" jdk_42_method_54_code 1 (some .int) "length" ({ frames := 1, cells := 0, slots := 0, locals := 13 } : Room) _ 9 #[.val (.ref t)] [(.int (own_coder cs)), (.int (Int32.ofNat (own_enc cs).length))] h0 0 0
  refine Run.ishr d14_9 (pc' := 10) rfl ?_
  exact Run.ireturn d14_10 rfl (by decide) (by decide) ⟨_, rfl, congrArg Value.int (own_lenshr (by omega)).symm, rfl⟩
theorem d32_0 : decode jdk_41_method_11_code 0 = .ok (.iload_n 0, 1) := by decide +kernel
theorem d32_1 : decode jdk_41_method_11_code 1 = .ok (.ifCond .lt 8, 3) := by decide +kernel
theorem d32_4 : decode jdk_41_method_11_code 4 = .ok (.iload_n 0, 1) := by decide +kernel
theorem d32_5 : decode jdk_41_method_11_code 5 = .ok (.iload_n 1, 1) := by decide +kernel
theorem d32_6 : decode jdk_41_method_11_code 6 = .ok (.if_icmp .lt 10, 3) := by decide +kernel
theorem d32_16 : decode jdk_41_method_11_code 16 = .ok (.iload_n 0, 1) := by decide +kernel
theorem d32_17 : decode jdk_41_method_11_code 17 = .ok (.ireturn, 1) := by decide +kernel
theorem pn_32 : plainFor (⟨"jdk/internal/util/Preconditions", "checkIndex", "(IILjava/util/function/BiFunction;)I"⟩ : MethodName) = true := plainFor_of_name (by first | (simp [plainName, overriddenIn]; done) | decide +kernel)
theorem ef_con_pci (m : MethodId) (i n : Int32) (u : Value) (hr_u : u.isRef = true) : entryFrame m #[(.int i), (.int n), u] 3 = mkF m 0 #[.val (.int i), .val (.int n), .val u] [] := by rcases XT.refc hr_u with rfl | ⟨r_u, rfl⟩ <;> first | (simp [entryFrame, mkF, argsToLocals, Value.category]; done) | rfl
set_option maxRecDepth 65536 in
set_option maxHeartbeats 40000000 in
theorem con_pci (l : Launch) (Z : State) (a0 : Array Value) (hw : ∀ d ∈ tables_1, d.before a0 Z = true) (n0 : Nat) (h0 : Heap) (Z0 : n0 ≤ h0.size) (i n : Int32) (u : Value) (hu : u.isRef = true) (g0 : ¬ i < 0) (g1 : i < n) :
    Con l Z n0 (⟨"jdk/internal/util/Preconditions", "checkIndex", "(IILjava/util/function/BiFunction;)I"⟩ : MethodName) jdk_41_method_11_code 3 (some .int) ({ frames := 0, cells := 0, slots := 0, locals := 0 } : Room) #[(.int i), (.int n), u] h0 (Val (PV (.int i) h0)) := by
  refine Con.of_run pn_32 (fun m => ef_con_pci m i n u hu) ?_
  refine Run.iloadN d32_0 rfl (pc' := 1) rfl ?_
  refine Run.if_lt d32_1 (by decide) (pc' := 9) (by decide) (pa := 4) rfl (fun hc1 => ?_) (fun hc1 => ?_)
  · -- pc 1 taken: i < (0 : Int32)
    exact absurd hc1 g0
  · -- pc 1 not taken: ¬ i < (0 : Int32)
    refine Run.iloadN d32_4 rfl (pc' := 5) rfl ?_
    refine Run.iloadN d32_5 rfl (pc' := 6) rfl ?_
    refine Run.icmp_lt d32_6 (by decide) (pc' := 16) (by decide) (pa := 9) rfl (fun hc6 => ?_) (fun hc6 => ?_)
    · -- pc 6 taken: i < n
      refine Run.iloadN d32_16 rfl (pc' := 17) rfl ?_
      exact Run.ireturn d32_17 rfl (by decide) (by decide) ⟨_, rfl, rfl, rfl⟩
    · -- pc 6 not taken: ¬ i < n
      exact absurd g1 hc6
theorem d31_0 : decode jdk_42_method_155_code 0 = .ok (.iload_n 0, 1) := by decide +kernel
theorem d31_1 : decode jdk_42_method_155_code 1 = .ok (.iload_n 1, 1) := by decide +kernel
theorem d31_2 : decode jdk_42_method_155_code 2 = .ok (.getstatic 1053, 3) := by decide +kernel
theorem d31_5 : decode jdk_42_method_155_code 5 = .ok (.invokestatic 1059, 3) := by decide +kernel
theorem d31_8 : decode jdk_42_method_155_code 8 = .ok (.pop, 1) := by decide +kernel
theorem d31_9 : decode jdk_42_method_155_code 9 = .ok (.return_, 1) := by decide +kernel
theorem pn_31 : plainFor (⟨"java/lang/String", "checkIndex", "(II)V"⟩ : MethodName) = true := plainFor_of_name (by first | (simp [plainName, overriddenIn]; done) | decide +kernel)
theorem pd__IILjava_util_function_BiFunction__I : parseMethodDescriptor "(IILjava/util/function/BiFunction;)I" = some ⟨[.int, .int, (.object "java/util/function/BiFunction")], some .int⟩ := by decide +kernel
theorem ef_con_sci (m : MethodId) (i n : Int32) (fm : Value)  : entryFrame m #[(.int i), (.int n)] 2 = mkF m 0 #[.val (.int i), .val (.int n)] [] := by first | (simp [entryFrame, mkF, argsToLocals, Value.category]; done) | rfl
set_option maxRecDepth 65536 in
set_option maxHeartbeats 40000000 in
theorem con_sci (l : Launch) (Z : State) (a0 : Array Value) (hw : ∀ d ∈ tables_1, d.before a0 Z = true) (n0 : Nat) (h0 : Heap) (Z0 : n0 ≤ h0.size) (i n : Int32) (fm : Value) (od0 : Old Z n0 h0) (SF : Sta Z Z.heap "jdk/internal/util/Preconditions" "SIOOBE_FORMATTER" "Ljava/util/function/BiFunction;" fm) (hfm : fm.isRef = true) (g0 : ¬ i < 0) (g1 : i < n) :
    Con l Z n0 (⟨"java/lang/String", "checkIndex", "(II)V"⟩ : MethodName) jdk_42_method_155_code 2 none ({ frames := 1, cells := 0, slots := 0, locals := 14 } : Room) #[(.int i), (.int n)] h0 (Vd fun h' => h0 = h') := by
  refine Con.of_run pn_31 (fun m => ef_con_sci m i n fm ) ?_
  refine Run.iloadN d31_0 rfl (pc' := 1) rfl ?_
  refine Run.iloadN d31_1 rfl (pc' := 2) rfl ?_
  refine Run.getS d31_2 (host := "") (Or.inl (hw _ (List.mem_of_getElem? (i := 66) rfl))) Via.refl (SF.ext od0.2) (pc' := 5) rfl ?_
  refine Run.callS (k' := 0) (n' := 0) (as := [(.int i), (.int n), fm]) (rest := []) (con_pci l Z a0 hw n0 h0 Z0 i n fm hfm g0 g1 ) d31_5 (hw _ (List.mem_of_getElem? (i := 153) rfl)) (hw _ (List.mem_of_getElem? (i := 154) rfl)) (hw _ (List.mem_of_getElem? (i := 67) rfl)) (hw _ (List.mem_of_getElem? (i := 155) rfl)) (by decide) pd__IILjava_util_function_BiFunction__I rfl rfl rfl (by decide) (by show (0 : Nat) + (3 + 11) + 0 ≤ _; decide) (by decide) (by decide) (by decide) (by decide) (pc' := 8) rfl ?_
  rintro _ _ ⟨_, rfl, rfl, rfl⟩
  show Run l Z n0 "java/lang/String" jdk_42_method_155_code 2 none "checkIndex" ({ frames := 1, cells := 0, slots := 0, locals := 14 } : Room) _ 8 #[.val (.int i), .val (.int n)] [(.int i)] h0 0 0
  refine Run.pop d31_8 rfl (pc' := 9) rfl ?_
  exact Run.vreturn d31_9 rfl (by decide) (by decide) ⟨rfl, rfl⟩
theorem d27_0 : decode jdk_42_method_154_code 0 = .ok (.getstatic 38, 3) := by decide +kernel
theorem d27_3 : decode jdk_42_method_154_code 3 = .ok (.ifCond .eq 14, 3) := by decide +kernel
theorem d27_6 : decode jdk_42_method_154_code 6 = .ok (.aload_n 0, 1) := by decide +kernel
theorem d27_7 : decode jdk_42_method_154_code 7 = .ok (.getfield 15, 3) := by decide +kernel
theorem d27_10 : decode jdk_42_method_154_code 10 = .ok (.ifCond .ne 7, 3) := by decide +kernel
theorem d27_13 : decode jdk_42_method_154_code 13 = .ok (.iconst 1, 1) := by decide +kernel
theorem d27_14 : decode jdk_42_method_154_code 14 = .ok (.goto 4, 3) := by decide +kernel
theorem d27_17 : decode jdk_42_method_154_code 17 = .ok (.iconst 0, 1) := by decide +kernel
theorem d27_18 : decode jdk_42_method_154_code 18 = .ok (.ireturn, 1) := by decide +kernel
theorem pn_27 : plainFor (⟨"java/lang/String", "isLatin1", "()Z"⟩ : MethodName) = true := plainFor_of_name (by first | (simp [plainName, overriddenIn]; done) | decide +kernel)
theorem ef_con_isl (m : MethodId) (t : Addr) (cs : List Int32) (cz : Int32)  : entryFrame m #[(.ref t)] 1 = mkF m 0 #[.val (.ref t)] [] := by first | (simp [entryFrame, mkF, argsToLocals, Value.category]; done) | rfl
set_option maxRecDepth 65536 in
set_option maxHeartbeats 40000000 in
theorem con_isl (l : Launch) (Z : State) (a0 : Array Value) (hw : ∀ d ∈ tables_1, d.before a0 Z = true) (n0 : Nat) (h0 : Heap) (Z0 : n0 ≤ h0.size) (t : Addr) (cs : List Int32) (cz : Int32) (od0 : Old Z n0 h0) (SZ : Sta Z Z.heap "java/lang/String" "COMPACT_STRINGS" "Z" (.int cz)) (hcz : ¬ cz = 0) (FC : Fld Z h0 t "java/lang/String" "coder" "B" (.int (own_coder cs))) :
    Con l Z n0 (⟨"java/lang/String", "isLatin1", "()Z"⟩ : MethodName) jdk_42_method_154_code 1 (some .boolean) ({ frames := 0, cells := 0, slots := 0, locals := 0 } : Room) #[(.ref t)] h0 (Val (PV (.int (own_isl cs)) h0)) := by
  refine Con.of_run pn_27 (fun m => ef_con_isl m t cs cz ) ?_
  refine Run.getS d27_0 (host := "") (Or.inl (hw _ (List.mem_of_getElem? (i := 95) rfl))) Via.refl (SZ.ext od0.2) (pc' := 3) rfl ?_
  refine Run.if_eq d27_3 (by decide) (pc' := 17) (by decide) (pa := 6) rfl (fun hc3 => ?_) (fun hc3 => ?_)
  · -- pc 3 taken: cz = (0 : Int32)
    exact absurd hc3 hcz
  · -- pc 3 not taken: ¬ cz = (0 : Int32)
    refine Run.aloadN d27_6 rfl rfl (pc' := 7) rfl ?_
    refine Run.getF d27_7 (host := "") (Or.inl (hw _ (List.mem_of_getElem? (i := 83) rfl))) Via.refl FC (pc' := 10) rfl ?_
    refine Run.if_ne d27_10 (by decide) (pc' := 17) (by decide) (pa := 13) rfl (fun hc10 => ?_) (fun hc10 => ?_)
    · -- pc 10 taken: ¬ (own_coder cs) = (0 : Int32)
      refine Run.iconst (0 : Int32) d27_17 (by decide) (pc' := 18) rfl ?_
      exact Run.nreturn d27_18 (ty := .boolean) rfl (by simp) (by decide) (by decide) ⟨_, rfl, congrArg Value.int (by unfold own_isl; rw [if_neg hc10] <;> rfl), rfl⟩
    · -- pc 10 not taken: (own_coder cs) = (0 : Int32)
      refine Run.iconst (1 : Int32) d27_13 (by decide) (pc' := 14) rfl ?_
      refine Run.goto d27_14 (by decide) (pc' := 18) (by decide) ?_
      exact Run.nreturn d27_18 (ty := .boolean) rfl (by simp) (by decide) (by decide) ⟨_, rfl, congrArg Value.int (by unfold own_isl; rw [if_pos hc10] <;> rfl), rfl⟩
theorem d33_0 : decode jdk_43_method_2_code 0 = .ok (.iload_n 1, 1) := by decide +kernel
theorem d33_1 : decode jdk_43_method_2_code 1 = .ok (.aload_n 0, 1) := by decide +kernel
theorem d33_2 : decode jdk_43_method_2_code 2 = .ok (.arraylength, 1) := by decide +kernel
theorem d33_3 : decode jdk_43_method_2_code 3 = .ok (.invokestatic 9, 3) := by decide +kernel
theorem d33_6 : decode jdk_43_method_2_code 6 = .ok (.aload_n 0, 1) := by decide +kernel
theorem d33_7 : decode jdk_43_method_2_code 7 = .ok (.iload_n 1, 1) := by decide +kernel
theorem d33_8 : decode jdk_43_method_2_code 8 = .ok (.baload, 1) := by decide +kernel
theorem d33_9 : decode jdk_43_method_2_code 9 = .ok (.sipush 255, 3) := by decide +kernel
theorem d33_12 : decode jdk_43_method_2_code 12 = .ok (.iand, 1) := by decide +kernel
theorem d33_13 : decode jdk_43_method_2_code 13 = .ok (.i2c, 1) := by decide +kernel
theorem d33_14 : decode jdk_43_method_2_code 14 = .ok (.ireturn, 1) := by decide +kernel
theorem pn_33 : plainFor (⟨"java/lang/StringLatin1", "charAt", "([BI)C"⟩ : MethodName) = true := plainFor_of_name (by first | (simp [plainName, overriddenIn]; done) | decide +kernel)
theorem pd__II_V : parseMethodDescriptor "(II)V" = some ⟨[.int, .int], none⟩ := by decide +kernel
theorem ef_con_lca (m : MethodId) (b : Addr) (cs : List Int32) (i : Nat) (fm : Value)  : entryFrame m #[(.ref b), (.int (Int32.ofNat i))] 2 = mkF m 0 #[.val (.ref b), .val (.int (Int32.ofNat i))] [] := by first | (simp [entryFrame, mkF, argsToLocals, Value.category]; done) | rfl
set_option maxRecDepth 65536 in
set_option maxHeartbeats 40000000 in
theorem con_lca (l : Launch) (Z : State) (a0 : Array Value) (hw : ∀ d ∈ tables_1, d.before a0 Z = true) (n0 : Nat) (h0 : Heap) (Z0 : n0 ≤ h0.size) (b : Addr) (cs : List Int32) (i : Nat) (fm : Value) (od0 : Old Z n0 h0) (SF : Sta Z Z.heap "jdk/internal/util/Preconditions" "SIOOBE_FORMATTER" "Ljava/util/function/BiFunction;" fm) (hfm : fm.isRef = true) (AB : Ary Z h0 b .byte (own_by cs)) (hp : own_pfx cs = cs.length) (hi : i < cs.length) (hn : cs.length ≤ 64) (hch : own_chr cs) :
    Con l Z n0 (⟨"java/lang/StringLatin1", "charAt", "([BI)C"⟩ : MethodName) jdk_43_method_2_code 2 (some .char) ({ frames := 2, cells := 0, slots := 0, locals := 27 } : Room) #[(.ref b), (.int (Int32.ofNat i))] h0 (Val (PV (.int (cs.getD i 0)) h0)) := by
  refine Con.of_run pn_33 (fun m => ef_con_lca m b cs i fm ) ?_
  refine Run.iloadN d33_0 rfl (pc' := 1) rfl ?_
  refine Run.aloadN d33_1 rfl rfl (pc' := 2) rfl ?_
  refine Run.alen (z := (Int32.ofNat cs.length)) d33_2 AB (by rw [show (own_by cs).length = cs.length by simp [own_by]] <;> rfl) (pc' := 3) rfl ?_
  refine Run.callS (k' := 0) (n' := 0) (as := [(.int (Int32.ofNat i)), (.int (Int32.ofNat cs.length))]) (rest := []) (con_sci l Z a0 hw n0 h0 Z0 (Int32.ofNat i) (Int32.ofNat cs.length) fm od0 SF hfm (own_nge (by omega)) ((own_lt (by omega) (by omega)).mpr (by omega))) d33_3 (hw _ (List.mem_of_getElem? (i := 160) rfl)) (hw _ (List.mem_of_getElem? (i := 151) rfl)) (hw _ (List.mem_of_getElem? (i := 56) rfl)) (hw _ (List.mem_of_getElem? (i := 152) rfl)) (by decide) pd__II_V rfl rfl rfl (by decide) (by show (0 : Nat) + (2 + 11) + 14 ≤ _; decide) (by decide) (by decide) (by decide) (by decide) (pc' := 6) rfl ?_
  rintro _ _ ⟨rfl, rfl⟩
  show Run l Z n0 "java/lang/StringLatin1" jdk_43_method_2_code 2 (some .char) "charAt" ({ frames := 2, cells := 0, slots := 0, locals := 27 } : Room) _ 6 #[.val (.ref b), .val (.int (Int32.ofNat i))] [] h0 0 0
  refine Run.aloadN d33_6 rfl rfl (pc' := 7) rfl ?_
  refine Run.iloadN d33_7 rfl (pc' := 8) rfl ?_
  refine Run.baload (i := i) (v := (.int (nar .byte (cs.getD i 0)))) d33_8 AB (own_ofn (by omega)) (own_by_get hi) (pc' := 9) rfl ?_
  refine Run.sipush (255 : Int32) d33_9 (by decide) (pc' := 12) rfl ?_
  refine Run.iand d33_12 (pc' := 13) rfl ?_
  refine Run.i2c d33_13 (pc' := 14) rfl ?_
  exact Run.nreturn d33_14 (ty := .char) rfl (by simp) (by decide) (by decide) ⟨_, rfl, congrArg Value.int (own_latc (own_chrD hch hi).1 (own_pfx_all hp hi)).symm, rfl⟩
theorem d30_0 : decode jdk_52_method_6_code 0 = .ok (.aload_n 0, 1) := by decide +kernel
theorem d30_1 : decode jdk_52_method_6_code 1 = .ok (.arraylength, 1) := by decide +kernel
theorem d30_2 : decode jdk_52_method_6_code 2 = .ok (.iconst 1, 1) := by decide +kernel
theorem d30_3 : decode jdk_52_method_6_code 3 = .ok (.ishr, 1) := by decide +kernel
theorem d30_4 : decode jdk_52_method_6_code 4 = .ok (.ireturn, 1) := by decide +kernel
theorem pn_30 : plainFor (⟨"java/lang/StringUTF16", "length", "([B)I"⟩ : MethodName) = true := plainFor_of_name (by first | (simp [plainName, overriddenIn]; done) | decide +kernel)
theorem ef_con_ule (m : MethodId) (b : Addr) (cs : List Int32)  : entryFrame m #[(.ref b)] 1 = mkF m 0 #[.val (.ref b)] [] := by first | (simp [entryFrame, mkF, argsToLocals, Value.category]; done) | rfl
set_option maxRecDepth 65536 in
set_option maxHeartbeats 40000000 in
theorem con_ule (l : Launch) (Z : State) (a0 : Array Value) (hw : ∀ d ∈ tables_1, d.before a0 Z = true) (n0 : Nat) (h0 : Heap) (Z0 : n0 ≤ h0.size) (b : Addr) (cs : List Int32) (AB : Ary Z h0 b .byte (own_u16 cs)) (hn : cs.length ≤ 64) :
    Con l Z n0 (⟨"java/lang/StringUTF16", "length", "([B)I"⟩ : MethodName) jdk_52_method_6_code 1 (some .int) ({ frames := 0, cells := 0, slots := 0, locals := 0 } : Room) #[(.ref b)] h0 (Val (PV (.int (Int32.ofNat cs.length)) h0)) := by
  refine Con.of_run pn_30 (fun m => ef_con_ule m b cs ) ?_
  refine Run.aloadN d30_0 rfl rfl (pc' := 1) rfl ?_
  refine Run.alen (z := (Int32.ofNat (2 * cs.length))) d30_1 AB (by rw [own_u16_len] <;> rfl) (pc' := 2) rfl ?_
  refine Run.iconst (1 : Int32) d30_2 (by decide) (pc' := 3) rfl ?_
  refine Run.ishr d30_3 (pc' := 4) rfl ?_
  exact Run.ireturn d30_4 rfl (by decide) (by decide) ⟨_, rfl, congrArg Value.int (own_shr1 (by omega)).symm, rfl⟩
theorem d29_0 : decode jdk_52_method_91_code 0 = .ok (.iload_n 0, 1) := by decide +kernel
theorem d29_1 : decode jdk_52_method_91_code 1 = .ok (.aload_n 1, 1) := by decide +kernel
theorem d29_2 : decode jdk_52_method_91_code 2 = .ok (.invokestatic 48, 3) := by decide +kernel
theorem d29_5 : decode jdk_52_method_91_code 5 = .ok (.invokestatic 414, 3) := by decide +kernel
theorem d29_8 : decode jdk_52_method_91_code 8 = .ok (.return_, 1) := by decide +kernel
theorem pn_29 : plainFor (⟨"java/lang/StringUTF16", "checkIndex", "(I[B)V"⟩ : MethodName) = true := plainFor_of_name (by first | (simp [plainName, overriddenIn]; done) | decide +kernel)
theorem pd___B_I : parseMethodDescriptor "([B)I" = some ⟨[(.array .byte)], some .int⟩ := by decide +kernel
theorem ef_con_uci (m : MethodId) (b : Addr) (cs : List Int32) (i : Nat) (fm : Value)  : entryFrame m #[(.int (Int32.ofNat i)), (.ref b)] 2 = mkF m 0 #[.val (.int (Int32.ofNat i)), .val (.ref b)] [] := by first | (simp [entryFrame, mkF, argsToLocals, Value.category]; done) | rfl
set_option maxRecDepth 65536 in
set_option maxHeartbeats 40000000 in
theorem con_uci (l : Launch) (Z : State) (a0 : Array Value) (hw : ∀ d ∈ tables_1, d.before a0 Z = true) (n0 : Nat) (h0 : Heap) (Z0 : n0 ≤ h0.size) (b : Addr) (cs : List Int32) (i : Nat) (fm : Value) (od0 : Old Z n0 h0) (SF : Sta Z Z.heap "jdk/internal/util/Preconditions" "SIOOBE_FORMATTER" "Ljava/util/function/BiFunction;" fm) (hfm : fm.isRef = true) (AB : Ary Z h0 b .byte (own_u16 cs)) (hi : i < cs.length) (hn : cs.length ≤ 64) :
    Con l Z n0 (⟨"java/lang/StringUTF16", "checkIndex", "(I[B)V"⟩ : MethodName) jdk_52_method_91_code 2 none ({ frames := 2, cells := 0, slots := 0, locals := 27 } : Room) #[(.int (Int32.ofNat i)), (.ref b)] h0 (Vd fun h' => h0 = h') := by
  refine Con.of_run pn_29 (fun m => ef_con_uci m b cs i fm ) ?_
  refine Run.iloadN d29_0 rfl (pc' := 1) rfl ?_
  refine Run.aloadN d29_1 rfl rfl (pc' := 2) rfl ?_
  refine Run.callS (k' := 0) (n' := 0) (as := [(.ref b)]) (rest := [(.int (Int32.ofNat i))]) (con_ule l Z a0 hw n0 h0 Z0  b cs AB hn) d29_2 (hw _ (List.mem_of_getElem? (i := 147) rfl)) (hw _ (List.mem_of_getElem? (i := 148) rfl)) (hw _ (List.mem_of_getElem? (i := 101) rfl)) (hw _ (List.mem_of_getElem? (i := 149) rfl)) (by decide) pd___B_I rfl rfl rfl (by decide) (by show (1 : Nat) + (1 + 11) + 0 ≤ _; decide) (by decide) (by decide) (by decide) (by decide) (pc' := 5) rfl ?_
  rintro _ _ ⟨_, rfl, rfl, rfl⟩
  show Run l Z n0 "java/lang/StringUTF16" jdk_52_method_91_code 2 none "checkIndex" ({ frames := 2, cells := 0, slots := 0, locals := 27 } : Room) _ 5 #[.val (.int (Int32.ofNat i)), .val (.ref b)] [(.int (Int32.ofNat cs.length)), (.int (Int32.ofNat i))] h0 0 0
  refine Run.callS (k' := 0) (n' := 0) (as := [(.int (Int32.ofNat i)), (.int (Int32.ofNat cs.length))]) (rest := []) (con_sci l Z a0 hw n0 h0 Z0 (Int32.ofNat i) (Int32.ofNat cs.length) fm od0 SF hfm (own_nge (by omega)) ((own_lt (by omega) (by omega)).mpr (by omega))) d29_5 (hw _ (List.mem_of_getElem? (i := 150) rfl)) (hw _ (List.mem_of_getElem? (i := 151) rfl)) (hw _ (List.mem_of_getElem? (i := 56) rfl)) (hw _ (List.mem_of_getElem? (i := 152) rfl)) (by decide) pd__II_V rfl rfl rfl (by decide) (by show (0 : Nat) + (2 + 11) + 14 ≤ _; decide) (by decide) (by decide) (by decide) (by decide) (pc' := 8) rfl ?_
  rintro _ _ ⟨rfl, rfl⟩
  show Run l Z n0 "java/lang/StringUTF16" jdk_52_method_91_code 2 none "checkIndex" ({ frames := 2, cells := 0, slots := 0, locals := 27 } : Room) _ 8 #[.val (.int (Int32.ofNat i)), .val (.ref b)] [] h0 0 0
  exact Run.vreturn d29_8 rfl (by decide) (by decide) ⟨rfl, rfl⟩
theorem own_ncr {c : Int32} (h : 0 ≤ c.toInt ∧ c.toInt ≤ 65535) : nar .char c = c := by
  apply Int32.toInt_inj.mp
  have q := c_i2c c
  change ((nar .char _).toInt - _) % 65536 = 0 ∧ 0 ≤ (nar .char _).toInt ∧ (nar .char _).toInt < 65536 at q
  omega
theorem d28_0 : decode jdk_52_method_83_code 0 = .ok (.iload_n 1, 1) := by decide +kernel
theorem d28_1 : decode jdk_52_method_83_code 1 = .ok (.aload_n 0, 1) := by decide +kernel
theorem d28_2 : decode jdk_52_method_83_code 2 = .ok (.invokestatic 67, 3) := by decide +kernel
theorem d28_5 : decode jdk_52_method_83_code 5 = .ok (.aload_n 0, 1) := by decide +kernel
theorem d28_6 : decode jdk_52_method_83_code 6 = .ok (.iload_n 1, 1) := by decide +kernel
theorem d28_7 : decode jdk_52_method_83_code 7 = .ok (.invokestatic 71, 3) := by decide +kernel
theorem d28_10 : decode jdk_52_method_83_code 10 = .ok (.ireturn, 1) := by decide +kernel
theorem pn_28 : plainFor (⟨"java/lang/StringUTF16", "charAt", "([BI)C"⟩ : MethodName) = true := plainFor_of_name (by first | (simp [plainName, overriddenIn]; done) | decide +kernel)
theorem pd__I_B_V : parseMethodDescriptor "(I[B)V" = some ⟨[.int, (.array .byte)], none⟩ := by decide +kernel
theorem ef_con_uca (m : MethodId) (b : Addr) (cs : List Int32) (i : Nat) (fm : Value)  : entryFrame m #[(.ref b), (.int (Int32.ofNat i))] 2 = mkF m 0 #[.val (.ref b), .val (.int (Int32.ofNat i))] [] := by first | (simp [entryFrame, mkF, argsToLocals, Value.category]; done) | rfl
set_option maxRecDepth 65536 in
set_option maxHeartbeats 40000000 in
theorem con_uca (l : Launch) (Z : State) (a0 : Array Value) (hw : ∀ d ∈ tables_1, d.before a0 Z = true) (n0 : Nat) (h0 : Heap) (Z0 : n0 ≤ h0.size) (b : Addr) (cs : List Int32) (i : Nat) (fm : Value) (od0 : Old Z n0 h0) (SF : Sta Z Z.heap "jdk/internal/util/Preconditions" "SIOOBE_FORMATTER" "Ljava/util/function/BiFunction;" fm) (hfm : fm.isRef = true) (SD : Sta Z Z.heap "java/lang/StringUTF16" "$assertionsDisabled" "Z" (.int (1 : Int32))) (SH8 : Sta Z Z.heap "java/lang/StringUTF16" "HI_BYTE_SHIFT" "I" (.int (0 : Int32))) (SL8 : Sta Z Z.heap "java/lang/StringUTF16" "LO_BYTE_SHIFT" "I" (.int (8 : Int32))) (AB : Ary Z h0 b .byte (own_u16 cs)) (hi : i < cs.length) (hn : cs.length ≤ 64) (hch : own_chr cs) :
    Con l Z n0 (⟨"java/lang/StringUTF16", "charAt", "([BI)C"⟩ : MethodName) jdk_52_method_83_code 2 (some .char) ({ frames := 3, cells := 0, slots := 0, locals := 40 } : Room) #[(.ref b), (.int (Int32.ofNat i))] h0 (Val (PV (.int (cs.getD i 0)) h0)) := by
  refine Con.of_run pn_28 (fun m => ef_con_uca m b cs i fm ) ?_
  refine Run.iloadN d28_0 rfl (pc' := 1) rfl ?_
  refine Run.aloadN d28_1 rfl rfl (pc' := 2) rfl ?_
  refine Run.callS (k' := 0) (n' := 0) (as := [(.int (Int32.ofNat i)), (.ref b)]) (rest := []) (con_uci l Z a0 hw n0 h0 Z0 b cs i fm od0 SF hfm AB hi hn) d28_2 (hw _ (List.mem_of_getElem? (i := 144) rfl)) (hw _ (List.mem_of_getElem? (i := 145) rfl)) (hw _ (List.mem_of_getElem? (i := 101) rfl)) (hw _ (List.mem_of_getElem? (i := 146) rfl)) (by decide) pd__I_B_V rfl rfl rfl (by decide) (by show (0 : Nat) + (2 + 11) + 27 ≤ _; decide) (by decide) (by decide) (by decide) (by decide) (pc' := 5) rfl ?_
  rintro _ _ ⟨rfl, rfl⟩
  show Run l Z n0 "java/lang/StringUTF16" jdk_52_method_83_code 2 (some .char) "charAt" ({ frames := 3, cells := 0, slots := 0, locals := 40 } : Room) _ 5 #[.val (.ref b), .val (.int (Int32.ofNat i))] [] h0 0 0
  refine Run.aloadN d28_5 rfl rfl (pc' := 6) rfl ?_
  refine Run.iloadN d28_6 rfl (pc' := 7) rfl ?_
  refine Run.callS (k' := 0) (n' := 0) (as := [(.ref b), (.int (Int32.ofNat i))]) (rest := []) (con_gec l Z a0 hw n0 h0 Z0  b i _ _ (own_u16 cs) od0 SD SH8 SL8 AB (own_u16_get hi).1 (own_u16_get hi).2 (by omega)) d28_7 (hw _ (List.mem_of_getElem? (i := 122) rfl)) (hw _ (List.mem_of_getElem? (i := 123) rfl)) (hw _ (List.mem_of_getElem? (i := 101) rfl)) (hw _ (List.mem_of_getElem? (i := 124) rfl)) (by decide) pd___BI_C rfl rfl rfl (by decide) (by show (0 : Nat) + (2 + 11) + 0 ≤ _; decide) (by decide) (by decide) (by decide) (by decide) (pc' := 10) rfl ?_
  rintro _ _ ⟨_, rfl, rfl, rfl⟩
  show Run l Z n0 "java/lang/StringUTF16" jdk_52_method_83_code 2 (some .char) "charAt" ({ frames := 3, cells := 0, slots := 0, locals := 40 } : Room) _ 10 #[.val (.ref b), .val (.int (Int32.ofNat i))] [(.int (own_gc (own_b0 (cs.getD i 0)) (own_b1 (cs.getD i 0))))] h0 0 0
  exact Run.nreturn d28_10 (ty := .char) rfl (by simp) (by decide) (by decide) ⟨_, rfl, congrArg Value.int (by rw [own_gcb (own_chrD hch hi)]; exact (own_ncr (own_chrD hch hi)).symm), rfl⟩
theorem d26_0 : decode jdk_42_method_56_code 0 = .ok (.aload_n 0, 1) := by decide +kernel
theorem d26_1 : decode jdk_42_method_56_code 1 = .ok (.invokevirtual 492, 3) := by decide +kernel
theorem d26_4 : decode jdk_42_method_56_code 4 = .ok (.ifCond .eq 12, 3) := by decide +kernel
theorem d26_7 : decode jdk_42_method_56_code 7 = .ok (.aload_n 0, 1) := by decide +kernel
theorem d26_8 : decode jdk_42_method_56_code 8 = .ok (.getfield 9, 3) := by decide +kernel
theorem d26_11 : decode jdk_42_method_56_code 11 = .ok (.iload_n 1, 1) := by decide +kernel
theorem d26_12 : decode jdk_42_method_56_code 12 = .ok (.invokestatic 495, 3) := by decide +kernel
theorem d26_15 : decode jdk_42_method_56_code 15 = .ok (.ireturn, 1) := by decide +kernel
theorem d26_16 : decode jdk_42_method_56_code 16 = .ok (.aload_n 0, 1) := by decide +kernel
theorem d26_17 : decode jdk_42_method_56_code 17 = .ok (.getfield 9, 3) := by decide +kernel
theorem d26_20 : decode jdk_42_method_56_code 20 = .ok (.iload_n 1, 1) := by decide +kernel
theorem d26_21 : decode jdk_42_method_56_code 21 = .ok (.invokestatic 498, 3) := by decide +kernel
theorem d26_24 : decode jdk_42_method_56_code 24 = .ok (.ireturn, 1) := by decide +kernel
theorem pn_26 : plainFor (⟨"java/lang/String", "charAt", "(I)C"⟩ : MethodName) = true := plainFor_of_name (by first | (simp [plainName, overriddenIn]; done) | decide +kernel)
theorem pd___Z : parseMethodDescriptor "()Z" = some ⟨[], some .boolean⟩ := by decide +kernel
theorem ef_con_cha (m : MethodId) (t b : Addr) (cs : List Int32) (i : Nat) (cz : Int32) (fm : Value)  : entryFrame m #[(.ref t), (.int (Int32.ofNat i))] 2 = mkF m 0 #[.val (.ref t), .val (.int (Int32.ofNat i))] [] := by first | (simp [entryFrame, mkF, argsToLocals, Value.category]; done) | rfl
set_option maxRecDepth 65536 in
set_option maxHeartbeats 40000000 in
theorem con_cha (l : Launch) (Z : State) (a0 : Array Value) (hw : ∀ d ∈ tables_1, d.before a0 Z = true) (n0 : Nat) (h0 : Heap) (Z0 : n0 ≤ h0.size) (t b : Addr) (cs : List Int32) (i : Nat) (cz : Int32) (fm : Value) (od0 : Old Z n0 h0) (SF : Sta Z Z.heap "jdk/internal/util/Preconditions" "SIOOBE_FORMATTER" "Ljava/util/function/BiFunction;" fm) (hfm : fm.isRef = true) (SD : Sta Z Z.heap "java/lang/StringUTF16" "$assertionsDisabled" "Z" (.int (1 : Int32))) (SH8 : Sta Z Z.heap "java/lang/StringUTF16" "HI_BYTE_SHIFT" "I" (.int (0 : Int32))) (SL8 : Sta Z Z.heap "java/lang/StringUTF16" "LO_BYTE_SHIFT" "I" (.int (8 : Int32))) (SZ : Sta Z Z.heap "java/lang/String" "COMPACT_STRINGS" "Z" (.int cz)) (hcz : ¬ cz = 0) (E1 : Exa Z h0 t "java/lang/String") (FV : Fld Z h0 t "java/lang/String" "value" "[B" (.ref b)) (FC : Fld Z h0 t "java/lang/String" "coder" "B" (.int (own_coder cs))) (AB : Ary Z h0 b .byte (own_enc cs)) (hi : i < cs.length) (hn : cs.length ≤ 64) (hch : own_chr cs) :
    Con l Z n0 (⟨"java/lang/String", "charAt", "(I)C"⟩ : MethodName) jdk_42_method_56_code 2 (some .char) ({ frames := 4, cells := 0, slots := 0, locals := 53 } : Room) #[(.ref t), (.int (Int32.ofNat i))] h0 (Val (PV (.int (cs.getD i 0)) h0)) := by
  refine Con.of_run pn_26 (fun m => ef_con_cha m t b cs i cz fm ) ?_
  refine Run.aloadN d26_0 rfl rfl (pc' := 1) rfl ?_
  refine Run.callV (k' := 0) (n' := 0) (a := t) (as := []) (rest := []) (con_isl l Z a0 hw n0 h0 Z0 t cs cz od0 SZ hcz FC ) E1 d26_1 (hw _ (List.mem_of_getElem? (i := 136) rfl)) (hw _ (List.mem_of_getElem? (i := 137) rfl)) (fun s hZ => notFace_of_selects (args := #[]) (mvT hZ (hw _ (List.mem_of_getElem? (i := 139) rfl)))) (hw _ (List.mem_of_getElem? (i := 139) rfl)) (hw _ (List.mem_of_getElem? (i := 138) rfl)) (hw _ (List.mem_of_getElem? (i := 56) rfl)) (hw _ (List.mem_of_getElem? (i := 140) rfl)) (by decide) pd___Z rfl rfl rfl (by decide) (by show (0 : Nat) + (1 + 11) + 0 ≤ _; decide) (by decide) (by decide) (by decide) (by decide) (pc' := 4) rfl ?_
  rintro _ _ ⟨_, rfl, rfl, rfl⟩
  show Run l Z n0 "java/lang/String" jdk_42_method_56_code 2 (some .char) "charAt" ({ frames := 4, cells := 0, slots := 0, locals := 53 } : Room) _ 4 #[.val (.ref t), .val (.int (Int32.ofNat i))] [(.int (own_isl cs))] h0 0 0
  refine Run.if_eq d26_4 (by decide) (pc' := 16) (by decide) (pa := 7) rfl (fun hc4 => ?_) (fun hc4 => ?_)
  · -- pc 4 taken: (own_isl cs) = (0 : Int32)
    refine Run.aloadN d26_16 rfl rfl (pc' := 17) rfl ?_
    refine Run.getF d26_17 (host := "") (Or.inl (hw _ (List.mem_of_getElem? (i := 82) rfl))) Via.refl FV (pc' := 20) rfl ?_
    refine Run.iloadN d26_20 rfl (pc' := 21) rfl ?_
    refine Run.callS (k' := 0) (n' := 0) (as := [(.ref b), (.int (Int32.ofNat i))]) (rest := []) (con_uca l Z a0 hw n0 h0 Z0  b cs i fm od0 SF hfm SD SH8 SL8 (own_encN (own_isl0 hc4) ▸ AB) hi hn hch) d26_21 (hw _ (List.mem_of_getElem? (i := 141) rfl)) (hw _ (List.mem_of_getElem? (i := 142) rfl)) (hw _ (List.mem_of_getElem? (i := 101) rfl)) (hw _ (List.mem_of_getElem? (i := 143) rfl)) (by decide) pd___BI_C rfl rfl rfl (by decide) (by show (0 : Nat) + (2 + 11) + 40 ≤ _; decide) (by decide) (by decide) (by decide) (by decide) (pc' := 24) rfl ?_
    rintro _ _ ⟨_, rfl, rfl, rfl⟩
    show Run l Z n0 "java/lang/String" jdk_42_method_56_code 2 (some .char) "charAt" ({ frames := 4, cells := 0, slots := 0, locals := 53 } : Room) _ 24 #[.val (.ref t), .val (.int (Int32.ofNat i))] [(.int (cs.getD i 0))] h0 0 0
    exact Run.nreturn d26_24 (ty := .char) rfl (by simp) (by decide) (by decide) ⟨_, rfl, congrArg Value.int (own_ncr (own_chrD hch hi)).symm, rfl⟩
  · -- pc 4 not taken: ¬ (own_isl cs) = (0 : Int32)
    refine Run.aloadN d26_7 rfl rfl (pc' := 8) rfl ?_
    refine Run.getF d26_8 (host := "") (Or.inl (hw _ (List.mem_of_getElem? (i := 82) rfl))) Via.refl FV (pc' := 11) rfl ?_
    refine Run.iloadN d26_11 rfl (pc' := 12) rfl ?_
    refine Run.callS (k' := 0) (n' := 0) (as := [(.ref b), (.int (Int32.ofNat i))]) (rest := []) (con_lca l Z a0 hw n0 h0 Z0  b cs i fm od0 SF hfm (own_encP (own_isl1 hc4) ▸ AB) (own_isl1 hc4) hi hn hch) d26_12 (hw _ (List.mem_of_getElem? (i := 156) rfl)) (hw _ (List.mem_of_getElem? (i := 157) rfl)) (hw _ (List.mem_of_getElem? (i := 158) rfl)) (hw _ (List.mem_of_getElem? (i := 159) rfl)) (by decide) pd___BI_C rfl rfl rfl (by decide) (by show (0 : Nat) + (2 + 11) + 27 ≤ _; decide) (by decide) (by decide) (by decide) (by decide) (pc' := 15) rfl ?_
    rintro _ _ ⟨_, rfl, rfl, rfl⟩
    show Run l Z n0 "java/lang/String" jdk_42_method_56_code 2 (some .char) "charAt" ({ frames := 4, cells := 0, slots := 0, locals := 53 } : Room) _ 15 #[.val (.ref t), .val (.int (Int32.ofNat i))] [(.int (cs.getD i 0))] h0 0 0
    exact Run.nreturn d26_15 (ty := .char) rfl (by simp) (by decide) (by decide) ⟨_, rfl, congrArg Value.int (own_ncr (own_chrD hch hi)).symm, rfl⟩
def own_EL : List (String × Nat) := [("java/lang/String", 7)]
theorem own_EW {Z : State} {a0 : Array Value} (hw : ∀ d ∈ tables_1, d.before a0 Z = true) : EW Z a0 own_EL := EW.cons (hw _ (List.mem_of_getElem? (i := 76) rfl)) (by decide) (EW.nil)
theorem own_wS {Z : State} {a0 : Array Value} (hw : ∀ d ∈ tables_1, d.before a0 Z = true) : ∀ a ∈ Bundle.stringAtoms, a.before a0 Z = true := by
  intro d hd
  simp only [Bundle.stringAtoms, List.mem_cons, List.not_mem_nil, or_false] at hd
  rcases hd with rfl | rfl | rfl | rfl | rfl | rfl | rfl
  · exact (hw _ (List.mem_of_getElem? (i := 56) rfl))
  · exact (hw _ (List.mem_of_getElem? (i := 55) rfl))
  · exact (hw _ (List.mem_of_getElem? (i := 77) rfl))
  · exact (hw _ (List.mem_of_getElem? (i := 78) rfl))
  · exact (hw _ (List.mem_of_getElem? (i := 79) rfl))
  · exact (hw _ (List.mem_of_getElem? (i := 80) rfl))
  · exact (hw _ (List.mem_of_getElem? (i := 81) rfl))
theorem own_heldc {tb : Tables} {e : Env} {args : Array Value} {s : State} (h : Calls_1 tb e args s) : ∀ p ∈ own_EL, Jvm.Lit.constHeld s p.1 p.2 := by
  intro p hp
  refine h.1 p ?_
  have : ∀ p ∈ own_EL, p ∈ consts_1 := by decide
  exact this p hp
theorem own_nn {x : Int32} : (x < 0) ↔ x.toBitVec.msb = true := by rw [Int32.lt_iff_toInt_lt, BitVec.msb_eq_toInt, decide_eq_true_iff]; exact Iff.rfl
theorem own_or {z u v : Int32} (hz : ¬ z < 0) (hu : ¬ u < 0) (hv : ¬ v < 0) : ¬ ((z ||| u) ||| v) < 0 := by
  rw [own_nn] at hz hu hv ⊢
  simp only [Int32.toBitVec_or, BitVec.msb_or]
  simp [hz, hu, hv]
theorem own_lz {z : Int32} {n : Nat} (h : z.toInt = (n : Int)) : n.toInt32 = z := own_eqi (by have := rng32 z; rw [h]; exact own_ofn (by omega))
theorem own_ge0 {x : Int32} (h : 0 ≤ x.toInt) : ¬ x < 0 := by rw [Int32.lt_iff_toInt_lt]; have : (0 : Int32).toInt = 0 := rfl; omega
theorem own_cnt {n z : Int32} (h : n.toInt ≤ z.toInt) : ¬ (z - (0 : Int32)) < n := by rw [Int32.sub_zero, Int32.lt_iff_toInt_lt]; omega
theorem d12_0 : decode jdk_41_method_13_code 0 = .ok (.iload_n 2, 1) := by decide +kernel
theorem d12_1 : decode jdk_41_method_13_code 1 = .ok (.iload_n 0, 1) := by decide +kernel
theorem d12_2 : decode jdk_41_method_13_code 2 = .ok (.ior, 1) := by decide +kernel
theorem d12_3 : decode jdk_41_method_13_code 3 = .ok (.iload_n 1, 1) := by decide +kernel
theorem d12_4 : decode jdk_41_method_13_code 4 = .ok (.ior, 1) := by decide +kernel
theorem d12_5 : decode jdk_41_method_13_code 5 = .ok (.ifCond .lt 10, 3) := by decide +kernel
theorem d12_8 : decode jdk_41_method_13_code 8 = .ok (.iload_n 1, 1) := by decide +kernel
theorem d12_9 : decode jdk_41_method_13_code 9 = .ok (.iload_n 2, 1) := by decide +kernel
theorem d12_10 : decode jdk_41_method_13_code 10 = .ok (.iload_n 0, 1) := by decide +kernel
theorem d12_11 : decode jdk_41_method_13_code 11 = .ok (.isub, 1) := by decide +kernel
theorem d12_12 : decode jdk_41_method_13_code 12 = .ok (.if_icmp .le 11, 3) := by decide +kernel
theorem d12_23 : decode jdk_41_method_13_code 23 = .ok (.iload_n 0, 1) := by decide +kernel
theorem d12_24 : decode jdk_41_method_13_code 24 = .ok (.ireturn, 1) := by decide +kernel
theorem pn_12 : plainFor (⟨"jdk/internal/util/Preconditions", "checkFromIndexSize", "(IIILjava/util/function/BiFunction;)I"⟩ : MethodName) = true := plainFor_of_name (by first | (simp [plainName, overriddenIn]; done) | decide +kernel)
theorem ef_con_cfs (m : MethodId) (n z : Int32) (u : Value) (hr_u : u.isRef = true) : entryFrame m #[(.int (0 : Int32)), (.int n), (.int z), u] 4 = mkF m 0 #[.val (.int (0 : Int32)), .val (.int n), .val (.int z), .val u] [] := by rcases XT.refc hr_u with rfl | ⟨r_u, rfl⟩ <;> first | (simp [entryFrame, mkF, argsToLocals, Value.category]; done) | rfl
set_option maxRecDepth 65536 in
set_option maxHeartbeats 40000000 in
theorem con_cfs (l : Launch) (Z : State) (a0 : Array Value) (hw : ∀ d ∈ tables_1, d.before a0 Z = true) (n0 : Nat) (h0 : Heap) (Z0 : n0 ≤ h0.size) (n z : Int32) (u : Value) (hu : u.isRef = true) (hn : 0 ≤ n.toInt) (hz : n.toInt ≤ z.toInt) :
    Con l Z n0 (⟨"jdk/internal/util/Preconditions", "checkFromIndexSize", "(IIILjava/util/function/BiFunction;)I"⟩ : MethodName) jdk_41_method_13_code 4 (some .int) ({ frames := 0, cells := 0, slots := 0, locals := 0 } : Room) #[(.int (0 : Int32)), (.int n), (.int z), u] h0 (Val (PV (.int (0 : Int32)) h0)) := by
  refine Con.of_run pn_12 (fun m => ef_con_cfs m n z u hu) ?_
  refine Run.iloadN d12_0 rfl (pc' := 1) rfl ?_
  refine Run.iloadN d12_1 rfl (pc' := 2) rfl ?_
  refine Run.ior d12_2 (pc' := 3) rfl ?_
  refine Run.iloadN d12_3 rfl (pc' := 4) rfl ?_
  refine Run.ior d12_4 (pc' := 5) rfl ?_
  refine Run.if_lt d12_5 (by decide) (pc' := 15) (by decide) (pa := 8) rfl (fun hc5 => ?_) (fun hc5 => ?_)
  · -- pc 5 taken: ((z ||| (0 : Int32)) ||| n) < (0 : Int32)
    exact absurd hc5 (own_or (own_ge0 (by omega)) (by decide) (own_ge0 hn))
  · -- pc 5 not taken: ¬ ((z ||| (0 : Int32)) ||| n) < (0 : Int32)
    refine Run.iloadN d12_8 rfl (pc' := 9) rfl ?_
    refine Run.iloadN d12_9 rfl (pc' := 10) rfl ?_
    refine Run.iloadN d12_10 rfl (pc' := 11) rfl ?_
    refine Run.isub d12_11 (pc' := 12) rfl ?_
    refine Run.icmp_le d12_12 (by decide) (pc' := 23) (by decide) (pa := 15) rfl (fun hc12 => ?_) (fun hc12 => ?_)
    · -- pc 12 taken: ¬ (z - (0 : Int32)) < n
      refine Run.iloadN d12_23 rfl (pc' := 24) rfl ?_
      exact Run.ireturn d12_24 rfl (by decide) (by decide) ⟨_, rfl, rfl, rfl⟩
    · -- pc 12 not taken: (z - (0 : Int32)) < n
      exact absurd hc12 (own_cnt hz)
theorem d11_0 : decode jdk_42_method_157_code 0 = .ok (.iload_n 0, 1) := by decide +kernel
theorem d11_1 : decode jdk_42_method_157_code 1 = .ok (.iload_n 1, 1) := by decide +kernel
theorem d11_2 : decode jdk_42_method_157_code 2 = .ok (.iload_n 2, 1) := by decide +kernel
theorem d11_3 : decode jdk_42_method_157_code 3 = .ok (.getstatic 1053, 3) := by decide +kernel
theorem d11_6 : decode jdk_42_method_157_code 6 = .ok (.invokestatic 1065, 3) := by decide +kernel
theorem d11_9 : decode jdk_42_method_157_code 9 = .ok (.ireturn, 1) := by decide +kernel
theorem pn_11 : plainFor (⟨"java/lang/String", "checkBoundsOffCount", "(III)I"⟩ : MethodName) = true := plainFor_of_name (by first | (simp [plainName, overriddenIn]; done) | decide +kernel)
theorem pd__IIILjava_util_function_BiFunction__I : parseMethodDescriptor "(IIILjava/util/function/BiFunction;)I" = some ⟨[.int, .int, .int, (.object "java/util/function/BiFunction")], some .int⟩ := by decide +kernel
theorem ef_con_cbo (m : MethodId) (n z : Int32) (fm : Value)  : entryFrame m #[(.int (0 : Int32)), (.int n), (.int z)] 3 = mkF m 0 #[.val (.int (0 : Int32)), .val (.int n), .val (.int z)] [] := by first | (simp [entryFrame, mkF, argsToLocals, Value.category]; done) | rfl
set_option maxRecDepth 65536 in
set_option maxHeartbeats 40000000 in
theorem con_cbo (l : Launch) (Z : State) (a0 : Array Value) (hw : ∀ d ∈ tables_1, d.before a0 Z = true) (n0 : Nat) (h0 : Heap) (Z0 : n0 ≤ h0.size) (n z : Int32) (fm : Value) (od0 : Old Z n0 h0) (SF : Sta Z Z.heap "jdk/internal/util/Preconditions" "SIOOBE_FORMATTER" "Ljava/util/function/BiFunction;" fm) (hfm : fm.isRef = true) (hn : 0 ≤ n.toInt) (hz : n.toInt ≤ z.toInt) :
    Con l Z n0 (⟨"java/lang/String", "checkBoundsOffCount", "(III)I"⟩ : MethodName) jdk_42_method_157_code 3 (some .int) ({ frames := 1, cells := 0, slots := 0, locals := 15 } : Room) #[(.int (0 : Int32)), (.int n), (.int z)] h0 (Val (PV (.int (0 : Int32)) h0)) := by
  refine Con.of_run pn_11 (fun m => ef_con_cbo m n z fm ) ?_
  refine Run.iloadN d11_0 rfl (pc' := 1) rfl ?_
  refine Run.iloadN d11_1 rfl (pc' := 2) rfl ?_
  refine Run.iloadN d11_2 rfl (pc' := 3) rfl ?_
  refine Run.getS d11_3 (host := "") (Or.inl (hw _ (List.mem_of_getElem? (i := 66) rfl))) Via.refl (SF.ext od0.2) (pc' := 6) rfl ?_
  refine Run.callS (k' := 0) (n' := 0) (as := [(.int (0 : Int32)), (.int n), (.int z), fm]) (rest := []) (con_cfs l Z a0 hw n0 h0 Z0 n z fm hfm hn hz ) d11_6 (hw _ (List.mem_of_getElem? (i := 68) rfl)) (hw _ (List.mem_of_getElem? (i := 69) rfl)) (hw _ (List.mem_of_getElem? (i := 67) rfl)) (hw _ (List.mem_of_getElem? (i := 70) rfl)) (by decide) pd__IIILjava_util_function_BiFunction__I rfl rfl rfl (by decide) (by show (0 : Nat) + (4 + 11) + 0 ≤ _; decide) (by decide) (by decide) (by decide) (by decide) (pc' := 9) rfl ?_
  rintro _ _ ⟨_, rfl, rfl, rfl⟩
  show Run l Z n0 "java/lang/String" jdk_42_method_157_code 3 (some .int) "checkBoundsOffCount" ({ frames := 1, cells := 0, slots := 0, locals := 15 } : Room) _ 9 #[.val (.int (0 : Int32)), .val (.int n), .val (.int z)] [(.int (0 : Int32))] h0 0 0
  exact Run.ireturn d11_9 rfl (by decide) (by decide) ⟨_, rfl, rfl, rfl⟩
theorem d10_0 : decode jdk_42_method_5_code 0 = .ok (.iload_n 1, 1) := by decide +kernel
theorem d10_1 : decode jdk_42_method_5_code 1 = .ok (.iload_n 2, 1) := by decide +kernel
theorem d10_2 : decode jdk_42_method_5_code 2 = .ok (.aload_n 0, 1) := by decide +kernel
theorem d10_3 : decode jdk_42_method_5_code 3 = .ok (.arraylength, 1) := by decide +kernel
theorem d10_4 : decode jdk_42_method_5_code 4 = .ok (.invokestatic 34, 3) := by decide +kernel
theorem d10_7 : decode jdk_42_method_5_code 7 = .ok (.pop, 1) := by decide +kernel
theorem d10_8 : decode jdk_42_method_5_code 8 = .ok (.aconst_null, 1) := by decide +kernel
theorem d10_9 : decode jdk_42_method_5_code 9 = .ok (.areturn, 1) := by decide +kernel
theorem pn_10 : plainFor (⟨"java/lang/String", "rangeCheck", "([CII)Ljava/lang/Void;"⟩ : MethodName) = true := plainFor_of_name (by first | (simp [plainName, overriddenIn]; done) | decide +kernel)
theorem pd__III_I : parseMethodDescriptor "(III)I" = some ⟨[.int, .int, .int], some .int⟩ := by decide +kernel
theorem ef_con_rck (m : MethodId) (a : Addr) (vs : List Value) (n z : Int32) (fm : Value)  : entryFrame m #[(.ref a), (.int (0 : Int32)), (.int n)] 3 = mkF m 0 #[.val (.ref a), .val (.int (0 : Int32)), .val (.int n)] [] := by first | (simp [entryFrame, mkF, argsToLocals, Value.category]; done) | rfl
set_option maxRecDepth 65536 in
set_option maxHeartbeats 40000000 in
theorem con_rck (l : Launch) (Z : State) (a0 : Array Value) (hw : ∀ d ∈ tables_1, d.before a0 Z = true) (n0 : Nat) (h0 : Heap) (Z0 : n0 ≤ h0.size) (a : Addr) (vs : List Value) (n z : Int32) (fm : Value) (od0 : Old Z n0 h0) (SF : Sta Z Z.heap "jdk/internal/util/Preconditions" "SIOOBE_FORMATTER" "Ljava/util/function/BiFunction;" fm) (hfm : fm.isRef = true) (AC : Ary Z h0 a .char vs) (hlz : z.toInt = (vs.length : Int)) (hn : 0 ≤ n.toInt) (hz : n.toInt ≤ z.toInt) :
    Con l Z n0 (⟨"java/lang/String", "rangeCheck", "([CII)Ljava/lang/Void;"⟩ : MethodName) jdk_42_method_5_code 3 (some (.object "java/lang/Void")) ({ frames := 2, cells := 0, slots := 0, locals := 29 } : Room) #[(.ref a), (.int (0 : Int32)), (.int n)] h0 (Val (PV .null h0)) := by
  refine Con.of_run pn_10 (fun m => ef_con_rck m a vs n z fm ) ?_
  refine Run.iloadN d10_0 rfl (pc' := 1) rfl ?_
  refine Run.iloadN d10_1 rfl (pc' := 2) rfl ?_
  refine Run.aloadN d10_2 rfl rfl (pc' := 3) rfl ?_
  refine Run.alen (z := z) d10_3 AC (own_lz hlz) (pc' := 4) rfl ?_
  refine Run.callS (k' := 0) (n' := 0) (as := [(.int (0 : Int32)), (.int n), (.int z)]) (rest := []) (con_cbo l Z a0 hw n0 h0 Z0 n z fm od0 SF hfm hn hz ) d10_4 (hw _ (List.mem_of_getElem? (i := 63) rfl)) (hw _ (List.mem_of_getElem? (i := 64) rfl)) (hw _ (List.mem_of_getElem? (i := 56) rfl)) (hw _ (List.mem_of_getElem? (i := 65) rfl)) (by decide) pd__III_I rfl rfl rfl (by decide) (by show (0 : Nat) + (3 + 11) + 15 ≤ _; decide) (by decide) (by decide) (by decide) (by decide) (pc' := 7) rfl ?_
  rintro _ _ ⟨_, rfl, rfl, rfl⟩
  show Run l Z n0 "java/lang/String" jdk_42_method_5_code 3 (some (.object "java/lang/Void")) "rangeCheck" ({ frames := 2, cells := 0, slots := 0, locals := 29 } : Room) _ 7 #[.val (.ref a), .val (.int (0 : Int32)), .val (.int n)] [(.int (0 : Int32))] h0 0 0
  refine Run.pop d10_7 rfl (pc' := 8) rfl ?_
  refine Run.aconst d10_8 (pc' := 9) rfl ?_
  exact Run.areturn d10_9 (ty := (.object "java/lang/Void")) rfl rfl rfl (by decide) (by decide) ⟨_, rfl, rfl, rfl⟩
theorem ef_con_si0 (m : MethodId) (t a : Addr) (uv uc : Value)  : entryFrame m #[(.ref t), (.ref a), (.int (0 : Int32)), (.int (0 : Int32)), .null] 6 = mkF m 0 #[.val (.ref t), .val (.ref a), .val (.int (0 : Int32)), .val (.int (0 : Int32)), .val .null, .unset] [] := by first | (simp [entryFrame, mkF, argsToLocals, Value.category]; done) | rfl
set_option maxRecDepth 65536 in
set_option maxHeartbeats 40000000 in
theorem con_si0 (l : Launch) (Z : State) (a0 : Array Value) (hw : ∀ d ∈ tables_1, d.before a0 Z = true) (n0 : Nat) (h0 : Heap) (Z0 : n0 ≤ h0.size) (t a : Addr) (uv uc : Value) (X1 : Exa Z h0 t "java/lang/String") (gt : n0 ≤ t) (FV : Fld Z h0 t "java/lang/String" "value" "[B" uv) (FC : Fld Z h0 t "java/lang/String" "coder" "B" uc) :
    ConW l Z own_EL n0 (⟨"java/lang/String", "<init>", "([CIILjava/lang/Void;)V"⟩ : MethodName) jdk_42_method_149_code 6 none ({ frames := 1, cells := 4, slots := 8, locals := 12 } : Room) #[(.ref t), (.ref a), (.int (0 : Int32)), (.int (0 : Int32)), .null] h0 [t] (Vd fun h' => ∃ b, Keep h0 h' [t] ∧ Exa Z h' t "java/lang/String" ∧ Fld Z h' t "java/lang/String" "value" "[B" (.ref b) ∧ Fld Z h' t "java/lang/String" "coder" "B" (.int (0 : Int32)) ∧ Ary Z h' b .byte []) := by
  refine ConW.of_run (own_EW hw) pn_13 (fun m => ef_con_si0 m t a uv uc ) ?_
  intro vm hal hsf
  have sf_t := hsf t (List.mem_of_getElem? (i := 0) rfl)
  refine RunW.aloadN d13_0 rfl rfl (pc' := 1) rfl ?_
  refine RunW.initO d13_1 (hw _ (List.mem_of_getElem? (i := 75) rfl)) (hw _ (List.mem_of_getElem? (i := 12) rfl)) (hw _ (List.mem_of_getElem? (i := 13) rfl)) rfl (by decide) (by show (0 : Nat) + 12 ≤ _; decide) (pc' := 4) rfl ?_
  refine RunW.iloadN d13_4 rfl (pc' := 5) rfl ?_
  refine RunW.if_ne d13_5 (by decide) (pc' := 27) (by decide) (pa := 8) rfl (fun hc5 => ?_) (fun hc5 => ?_)
  · -- pc 5 taken: ¬ (0 : Int32) = (0 : Int32)
    exact absurd hc5 (by decide)
  · -- pc 5 not taken: (0 : Int32) = (0 : Int32)
    refine RunW.aloadN d13_8 rfl rfl (pc' := 9) rfl ?_
    refine RunW.ldcT (len := 0) (z := (0 : Int32)) (bs := []) (k' := 2) (n' := 4) d13_9 (hw _ (List.mem_of_getElem? (i := 76) rfl)) (own_wS hw) (own_EW hw) (List.mem_of_getElem? (i := 0) rfl) (by decide) (by decide) (by decide) (by decide) (by decide) (by decide) (by decide) (by decide) (pc' := 11) rfl ?_
    intro h11 vm11 a11 b11 E11 c11 X11 FC11 FV11 A11 ns11
    have E_t_11 := X1.ext E11
    have F_t_value_11 := FV.ext E11
    have F_t_coder_11 := FC.ext E11
    have Z_t_11 := CHr.safe c11 X1.lt sf_t
    have sz11 : n0 ≤ h11.size := Nat.le_trans Z0 E11.1
    have kp11 := Keep.ext (Keep.refl h0 [t]) E11
    have ne_t_a11 := (ns11 t Z_t_11).1
    have ne_t_b11 := (ns11 t Z_t_11).2
    refine RunW.getF d13_11 (host := "") (Or.inl (hw _ (List.mem_of_getElem? (i := 82) rfl))) Via.refl FV11 (pc' := 14) rfl ?_
    refine RunW.putF d13_14 (host := "") (Or.inl (hw _ (List.mem_of_getElem? (i := 82) rfl))) Via.refl F_t_value_11 E_t_11 (Or.inr ⟨(hw _ (List.mem_of_getElem? (i := 78) rfl)), rfl, rfl⟩) (hw _ (List.mem_of_getElem? (i := 55) rfl)) (ty := (.array .byte)) (by decide) (go_narref rfl rfl) rfl gt Z_t_11 (pc' := 17) rfl ?_
    intro h12 W12 c12
    have Fw12 := F_t_value_11.same W12
    have E_t_12 := E_t_11.wr W12
    have F_t_coder_12 := F_t_coder_11.other W12 (Or.inr (slot_ne (Or.inr (hw _ (List.mem_of_getElem? (i := 79) rfl))) (Or.inr (hw _ (List.mem_of_getElem? (i := 78) rfl))) (by decide) (t := .byte) (t' := (.array .byte)) (by decide) (by decide)))
    have Z_t_12 := CHr.safe c12 E_t_11.lt Z_t_11
    have E_a11_12 := X11.wr W12
    have F_a11_coder_12 := FC11.other W12 (Or.inl (Ne.symm ne_t_a11))
    have F_a11_value_12 := FV11.other W12 (Or.inl (Ne.symm ne_t_a11))
    have A_b11_12 := A11.other W12 (Ne.symm ne_t_b11)
    have sz12 : n0 ≤ h12.size := by rw [W12.size]; exact sz11
    have kp12 := Keep.wr kp11 W12 (Or.inl (List.mem_of_getElem? (i := 0) rfl))
    refine RunW.aloadN d13_17 rfl rfl (pc' := 18) rfl ?_
    refine RunW.ldcT (len := 0) (z := (0 : Int32)) (bs := []) (k' := 4) (n' := 8) d13_18 (hw _ (List.mem_of_getElem? (i := 76) rfl)) (own_wS hw) (own_EW hw) (List.mem_of_getElem? (i := 0) rfl) (by decide) (by decide) (by decide) (by decide) (by decide) (by decide) (by decide) (by decide) (pc' := 20) rfl ?_
    intro h13 vm13 a13 b13 E13 c13 X13 FC13 FV13 A13 ns13
    have E_t_13 := E_t_12.ext E13
    have F_t_coder_13 := F_t_coder_12.ext E13
    have Z_t_13 := CHr.safe c13 E_t_12.lt Z_t_12
    have E_a11_13 := E_a11_12.ext E13
    have F_a11_coder_13 := F_a11_coder_12.ext E13
    have F_a11_value_13 := F_a11_value_12.ext E13
    have A_b11_13 := A_b11_12.ext E13
    have F_t_value_13 := Fw12.ext E13
    have sz13 : n0 ≤ h13.size := Nat.le_trans sz12 E13.1
    have kp13 := Keep.ext kp12 E13
    have ne_t_a13 := (ns13 t Z_t_13).1
    have ne_t_b13 := (ns13 t Z_t_13).2
    refine RunW.getF d13_20 (host := "") (Or.inl (hw _ (List.mem_of_getElem? (i := 83) rfl))) Via.refl FC13 (pc' := 23) rfl ?_
    refine RunW.putFN d13_23 (hw _ (List.mem_of_getElem? (i := 83) rfl)) Via.refl F_t_coder_13 E_t_13 (Or.inr ⟨(hw _ (List.mem_of_getElem? (i := 79) rfl)), rfl, rfl⟩) (hw _ (List.mem_of_getElem? (i := 55) rfl)) (ty := .byte) (v' := (.int (0 : Int32))) (by decide) rfl rfl gt Z_t_13 (pc' := 26) rfl ?_
    intro h14 W14 c14
    have Fw14 := F_t_coder_13.same W14
    have E_t_14 := E_t_13.wr W14
    have Z_t_14 := CHr.safe c14 E_t_13.lt Z_t_13
    have E_a11_14 := E_a11_13.wr W14
    have F_a11_coder_14 := F_a11_coder_13.other W14 (Or.inl (Ne.symm ne_t_a11))
    have F_a11_value_14 := F_a11_value_13.other W14 (Or.inl (Ne.symm ne_t_a11))
    have A_b11_14 := A_b11_13.other W14 (Ne.symm ne_t_b11)
    have F_t_value_14 := F_t_value_13.other W14 (Or.inr (slot_ne (Or.inr (hw _ (List.mem_of_getElem? (i := 78) rfl))) (Or.inr (hw _ (List.mem_of_getElem? (i := 79) rfl))) (by decide) (t := (.array .byte)) (t' := .byte) (by decide) (by decide)))
    have E_a13_14 := X13.wr W14
    have F_a13_coder_14 := FC13.other W14 (Or.inl (Ne.symm ne_t_a13))
    have F_a13_value_14 := FV13.other W14 (Or.inl (Ne.symm ne_t_a13))
    have A_b13_14 := A13.other W14 (Ne.symm ne_t_b13)
    have sz14 : n0 ≤ h14.size := by rw [W14.size]; exact sz13
    have kp14 := Keep.wr kp13 W14 (Or.inl (List.mem_of_getElem? (i := 0) rfl))
    exact RunW.vreturn d13_26 rfl (by decide) (by decide) ⟨rfl, b11, kp14, E_t_14, F_t_value_14, Fw14, A_b11_14⟩
theorem d9_0 : decode jdk_42_method_4_code 0 = .ok (.aload_n 0, 1) := by decide +kernel
theorem d9_1 : decode jdk_42_method_4_code 1 = .ok (.aload_n 1, 1) := by decide +kernel
theorem d9_2 : decode jdk_42_method_4_code 2 = .ok (.iload_n 2, 1) := by decide +kernel
theorem d9_3 : decode jdk_42_method_4_code 3 = .ok (.iload_n 3, 1) := by decide +kernel
theorem d9_4 : decode jdk_42_method_4_code 4 = .ok (.aload_n 1, 1) := by decide +kernel
theorem d9_5 : decode jdk_42_method_4_code 5 = .ok (.iload_n 2, 1) := by decide +kernel
theorem d9_6 : decode jdk_42_method_4_code 6 = .ok (.iload_n 3, 1) := by decide +kernel
theorem d9_7 : decode jdk_42_method_4_code 7 = .ok (.invokestatic 30, 3) := by decide +kernel
theorem d9_10 : decode jdk_42_method_4_code 10 = .ok (.invokespecial 27, 3) := by decide +kernel
theorem d9_13 : decode jdk_42_method_4_code 13 = .ok (.return_, 1) := by decide +kernel
theorem pn_9 : plainFor (⟨"java/lang/String", "<init>", "([CII)V"⟩ : MethodName) = true := plainFor_of_name (by first | (simp [plainName, overriddenIn]; done) | decide +kernel)
theorem pd___CII_Ljava_lang_Void_ : parseMethodDescriptor "([CII)Ljava/lang/Void;" = some ⟨[(.array .char), .int, .int], some (.object "java/lang/Void")⟩ := by decide +kernel
theorem pd___CIILjava_lang_Void__V : parseMethodDescriptor "([CIILjava/lang/Void;)V" = some ⟨[(.array .char), .int, .int, (.object "java/lang/Void")], none⟩ := by decide +kernel
theorem ef_con_si30 (m : MethodId) (t a : Addr) (uv uc : Value) (vs : List Value) (z : Int32) (fm : Value)  : entryFrame m #[(.ref t), (.ref a), (.int (0 : Int32)), (.int (0 : Int32))] 4 = mkF m 0 #[.val (.ref t), .val (.ref a), .val (.int (0 : Int32)), .val (.int (0 : Int32))] [] := by first | (simp [entryFrame, mkF, argsToLocals, Value.category]; done) | rfl
set_option maxRecDepth 65536 in
set_option maxHeartbeats 40000000 in
theorem con_si30 (l : Launch) (Z : State) (a0 : Array Value) (hw : ∀ d ∈ tables_1, d.before a0 Z = true) (n0 : Nat) (h0 : Heap) (Z0 : n0 ≤ h0.size) (t a : Addr) (uv uc : Value) (vs : List Value) (z : Int32) (fm : Value) (X1 : Exa Z h0 t "java/lang/String") (gt : n0 ≤ t) (FV : Fld Z h0 t "java/lang/String" "value" "[B" uv) (FC : Fld Z h0 t "java/lang/String" "coder" "B" uc) (od0 : Old Z n0 h0) (SF : Sta Z Z.heap "jdk/internal/util/Preconditions" "SIOOBE_FORMATTER" "Ljava/util/function/BiFunction;" fm) (hfm : fm.isRef = true) (AC : Ary Z h0 a .char vs) (hlz : z.toInt = (vs.length : Int)) :
    ConW l Z own_EL n0 (⟨"java/lang/String", "<init>", "([CII)V"⟩ : MethodName) jdk_42_method_4_code 4 none ({ frames := 3, cells := 4, slots := 8, locals := 47 } : Room) #[(.ref t), (.ref a), (.int (0 : Int32)), (.int (0 : Int32))] h0 [t] (Vd fun h' => ∃ b, Keep h0 h' [t] ∧ Exa Z h' t "java/lang/String" ∧ Fld Z h' t "java/lang/String" "value" "[B" (.ref b) ∧ Fld Z h' t "java/lang/String" "coder" "B" (.int (0 : Int32)) ∧ Ary Z h' b .byte []) := by
  refine ConW.of_run (own_EW hw) pn_9 (fun m => ef_con_si30 m t a uv uc vs z fm ) ?_
  intro vm hal hsf
  have sf_t := hsf t (List.mem_of_getElem? (i := 0) rfl)
  refine RunW.aloadN d9_0 rfl rfl (pc' := 1) rfl ?_
  refine RunW.aloadN d9_1 rfl rfl (pc' := 2) rfl ?_
  refine RunW.iloadN d9_2 rfl (pc' := 3) rfl ?_
  refine RunW.iloadN d9_3 rfl (pc' := 4) rfl ?_
  refine RunW.aloadN d9_4 rfl rfl (pc' := 5) rfl ?_
  refine RunW.iloadN d9_5 rfl (pc' := 6) rfl ?_
  refine RunW.iloadN d9_6 rfl (pc' := 7) rfl ?_
  refine RunW.callS (k' := 0) (n' := 0) (as := [(.ref a), (.int (0 : Int32)), (.int (0 : Int32))]) (rest := [(.int (0 : Int32)), (.int (0 : Int32)), (.ref a), (.ref t)]) (con_rck l Z a0 hw n0 h0 Z0  a vs 0 z fm od0 SF hfm AC hlz (by decide) (by have := own_z; omega)) (by rintro _ _ ⟨_, -, -, rfl⟩; exact ⟨[], Keep.refl _ _, all0⟩) d9_7 (hw _ (List.mem_of_getElem? (i := 60) rfl)) (hw _ (List.mem_of_getElem? (i := 61) rfl)) (hw _ (List.mem_of_getElem? (i := 56) rfl)) (hw _ (List.mem_of_getElem? (i := 62) rfl)) (by decide) pd___CII_Ljava_lang_Void_ rfl rfl rfl (by decide) (by show (4 : Nat) + (3 + 11) + 29 ≤ _; decide) (by decide) (by decide) (by decide) (by decide) (pc' := 10) rfl ?_
  rintro _ _ ⟨_, rfl, rfl, rfl⟩ -
  show RunW l Z own_EL n0 "java/lang/String" jdk_42_method_4_code 4 none "<init>" ({ frames := 3, cells := 4, slots := 8, locals := 47 } : Room) _ 10 #[.val (.ref t), .val (.ref a), .val (.int (0 : Int32)), .val (.int (0 : Int32))] [.null, (.int (0 : Int32)), (.int (0 : Int32)), (.ref a), (.ref t)] h0 vm 0 0
  refine RunW.callNW (k' := 4) (n' := 8) (a := t) (as := [(.ref a), (.int (0 : Int32)), (.int (0 : Int32)), .null]) (rest := []) (con_si0 l Z a0 hw n0 h0 Z0 t a uv uc X1 gt FV FC) (allS sf_t all0) (own_EW hw) rfl rfl d9_10 (hw _ (List.mem_of_getElem? (i := 71) rfl)) (hw _ (List.mem_of_getElem? (i := 72) rfl)) (hw _ (List.mem_of_getElem? (i := 56) rfl)) (hw _ (List.mem_of_getElem? (i := 74) rfl)) (by decide) pd___CIILjava_lang_Void__V rfl rfl rfl (by decide) (by show (0 : Nat) + (6 + 11) + 12 ≤ _; decide) (by decide) (by decide) (by decide) (by decide) (pc' := 13) rfl ?_
  rintro _ h11 vm11 ⟨rfl, ⟨b11, K11, X11, FV11, FC11, P11⟩⟩ c11
  show RunW l Z own_EL n0 "java/lang/String" jdk_42_method_4_code 4 none "<init>" ({ frames := 3, cells := 4, slots := 8, locals := 47 } : Room) _ 13 #[.val (.ref t), .val (.ref a), .val (.int (0 : Int32)), .val (.int (0 : Int32))] [] h11 vm11 4 8
  have E_t_11 := X1.keep K11
  have Z_t_11 := CHr.safe c11 X1.lt sf_t
  have sz11 : n0 ≤ h11.size := Nat.le_trans Z0 K11.1
  have kp11 := Keep.trans (Keep.refl h0 [t]) K11 (allS (Or.inl (List.mem_of_getElem? (i := 0) rfl)) all0)
  have od11 := od0.keep K11 (allS gt all0)
  exact RunW.vreturn d9_13 rfl (by decide) (by decide) ⟨rfl, b11, kp11, X11, FV11, FC11, P11⟩
theorem ef_con_si3n (m : MethodId) (t a : Addr) (cs : List Int32) (us : List Value) (cz : Int32) (uv uc : Value) (z : Int32) (fm : Value)  : entryFrame m #[(.ref t), (.ref a), (.int (0 : Int32)), (.int (Int32.ofNat cs.length))] 4 = mkF m 0 #[.val (.ref t), .val (.ref a), .val (.int (0 : Int32)), .val (.int (Int32.ofNat cs.length))] [] := by first | (simp [entryFrame, mkF, argsToLocals, Value.category]; done) | rfl
set_option maxRecDepth 65536 in
set_option maxHeartbeats 40000000 in
theorem con_si3n (l : Launch) (Z : State) (a0 : Array Value) (hw : ∀ d ∈ tables_1, d.before a0 Z = true) (n0 : Nat) (h0 : Heap) (Z0 : n0 ≤ h0.size) (t a : Addr) (cs : List Int32) (us : List Value) (cz : Int32) (uv uc : Value) (z : Int32) (fm : Value) (od0 : Old Z n0 h0) (SD : Sta Z Z.heap "java/lang/StringUTF16" "$assertionsDisabled" "Z" (.int (1 : Int32))) (SH8 : Sta Z Z.heap "java/lang/StringUTF16" "HI_BYTE_SHIFT" "I" (.int (0 : Int32))) (SL8 : Sta Z Z.heap "java/lang/StringUTF16" "LO_BYTE_SHIFT" "I" (.int (8 : Int32))) (SZ : Sta Z Z.heap "java/lang/String" "COMPACT_STRINGS" "Z" (.int cz)) (hcz : ¬ cz = 0) (E1 : Exa Z h0 t "java/lang/String") (FV : Fld Z h0 t "java/lang/String" "value" "[B" uv) (FC : Fld Z h0 t "java/lang/String" "coder" "B" uc) (gt : n0 ≤ t) (AC : Ary Z h0 a .char (cs.map Value.int ++ us)) (hne : cs ≠ []) (hn : cs.length ≤ 64) (hch : own_chr cs) (hta : t ≠ a) (SF : Sta Z Z.heap "jdk/internal/util/Preconditions" "SIOOBE_FORMATTER" "Ljava/util/function/BiFunction;" fm) (hfm : fm.isRef = true) (hlz : z.toInt = ((cs.map Value.int ++ us).length : Int)) :
    Con l Z n0 (⟨"java/lang/String", "<init>", "([CII)V"⟩ : MethodName) jdk_42_method_4_code 4 none ({ frames := 5, cells := 2, slots := 192, locals := 74 } : Room) #[(.ref t), (.ref a), (.int (0 : Int32)), (.int (Int32.ofNat cs.length))] h0 (Vd fun h' => ∃ b, h0.size ≤ b ∧ Keep h0 h' [t] ∧ Exa Z h' t "java/lang/String" ∧ Fld Z h' t "java/lang/String" "value" "[B" (.ref b) ∧ Fld Z h' t "java/lang/String" "coder" "B" (.int (own_coder cs)) ∧ Ary Z h' b .byte (own_enc cs)) := by
  refine Con.of_run pn_9 (fun m => ef_con_si3n m t a cs us cz uv uc z fm ) ?_
  refine Run.aloadN d9_0 rfl rfl (pc' := 1) rfl ?_
  refine Run.aloadN d9_1 rfl rfl (pc' := 2) rfl ?_
  refine Run.iloadN d9_2 rfl (pc' := 3) rfl ?_
  refine Run.iloadN d9_3 rfl (pc' := 4) rfl ?_
  refine Run.aloadN d9_4 rfl rfl (pc' := 5) rfl ?_
  refine Run.iloadN d9_5 rfl (pc' := 6) rfl ?_
  refine Run.iloadN d9_6 rfl (pc' := 7) rfl ?_
  refine Run.callS (k' := 0) (n' := 0) (as := [(.ref a), (.int (0 : Int32)), (.int (Int32.ofNat cs.length))]) (rest := [(.int (Int32.ofNat cs.length)), (.int (0 : Int32)), (.ref a), (.ref t)]) (con_rck l Z a0 hw n0 h0 Z0  a (cs.map Value.int ++ us) (Int32.ofNat cs.length) z fm od0 SF hfm AC hlz (by rw [own_ofn (by omega)]; omega) (by rw [own_ofn (by omega), hlz]; simp only [List.length_append, List.length_map]; omega)) d9_7 (hw _ (List.mem_of_getElem? (i := 60) rfl)) (hw _ (List.mem_of_getElem? (i := 61) rfl)) (hw _ (List.mem_of_getElem? (i := 56) rfl)) (hw _ (List.mem_of_getElem? (i := 62) rfl)) (by decide) pd___CII_Ljava_lang_Void_ rfl rfl rfl (by decide) (by show (4 : Nat) + (3 + 11) + 29 ≤ _; decide) (by decide) (by decide) (by decide) (by decide) (pc' := 10) rfl ?_
  rintro _ _ ⟨_, rfl, rfl, rfl⟩
  show Run l Z n0 "java/lang/String" jdk_42_method_4_code 4 none "<init>" ({ frames := 5, cells := 2, slots := 192, locals := 74 } : Room) _ 10 #[.val (.ref t), .val (.ref a), .val (.int (0 : Int32)), .val (.int (Int32.ofNat cs.length))] [.null, (.int (Int32.ofNat cs.length)), (.int (0 : Int32)), (.ref a), (.ref t)] h0 0 0
  refine Run.callN (k' := 2) (n' := 192) (a := t) (as := [(.ref a), (.int (0 : Int32)), (.int (Int32.ofNat cs.length)), .null]) (rest := []) (con_si4 l Z a0 hw n0 h0 Z0 t a cs us cz uv uc od0 SD SH8 SL8 SZ hcz E1 FV FC gt AC hne hn hch (Ne.symm hta.symm)) rfl d9_10 (hw _ (List.mem_of_getElem? (i := 71) rfl)) (hw _ (List.mem_of_getElem? (i := 72) rfl)) (hw _ (List.mem_of_getElem? (i := 56) rfl)) (hw _ (List.mem_of_getElem? (i := 74) rfl)) (by decide) pd___CIILjava_lang_Void__V rfl rfl rfl (by decide) (by show (0 : Nat) + (6 + 11) + 57 ≤ _; decide) (by decide) (by decide) (by decide) (by decide) (pc' := 13) rfl ?_
  rintro h11 ⟨b11, bw11, K11, X11, FV11, FC11, P11⟩
  show Run l Z n0 "java/lang/String" jdk_42_method_4_code 4 none "<init>" ({ frames := 5, cells := 2, slots := 192, locals := 74 } : Room) _ 13 #[.val (.ref t), .val (.ref a), .val (.int (0 : Int32)), .val (.int (Int32.ofNat cs.length))] [] h11 2 192
  have ge_b11 : n0 ≤ b11 := Nat.le_trans Z0 bw11
  have bo_b11 : h0.size ≤ b11 := Nat.le_trans (Keep.refl h0 [t]).1 bw11
  have ne_t_b11 : t ≠ b11 := Nat.ne_of_lt (Nat.lt_of_lt_of_le E1.lt bw11)
  have ne_a_b11 : a ≠ b11 := Nat.ne_of_lt (Nat.lt_of_lt_of_le AC.lt bw11)
  have E_t_11 := E1.keep K11
  have A_a_11 := AC.keep K11 (ninS hta.symm nin0)
  have sz11 : n0 ≤ h11.size := Nat.le_trans Z0 K11.1
  have kp11 := Keep.trans (Keep.refl h0 [t]) K11 (allS (Or.inl (List.mem_of_getElem? (i := 0) rfl)) all0)
  have od11 := od0.keep K11 (allS gt all0)
  exact Run.vreturn d9_13 rfl (by decide) (by decide) ⟨rfl, b11, bo_b11, kp11, X11, FV11, FC11, P11⟩
def own_tend (ds : List Int32) : Nat → Nat
  | 0 => 0
  | e + 1 => if own_isp (ds.getD e 0) = 0 then e + 1 else own_tend ds e
def own_te (ds : List Int32) : Nat := own_tend ds ds.length
theorem own_tend_le (ds : List Int32) : ∀ e, own_tend ds e ≤ e
  | 0 => Nat.le_refl _
  | e + 1 => by unfold own_tend; split; omega; have := own_tend_le ds e; omega
theorem own_te_le (ds : List Int32) : own_te ds ≤ ds.length := own_tend_le ds _
theorem own_dec (e : Nat) : Int32.ofNat (e + 1) - (1 : Int32) = Int32.ofNat e := by rw [← own_inc, Int32.add_sub_cancel]
theorem own_decm (e : Nat) : Int32.ofNat (e + 1) + (-1 : Int32) = Int32.ofNat e := by rw [← own_dec e, Int32.sub_eq_add_neg]
theorem own_npos {e : Nat} (h : e + 1 < 2 ^ 31) : (0 : Int32) < Int32.ofNat (e + 1) := by rw [Int32.lt_iff_toInt_lt, own_ofn h, own_z]; omega
theorem own_spl {ds : List Int32} {us : List Value} : ds.map Value.int ++ us = (ds.take (own_te ds)).map Value.int ++ ((ds.drop (own_te ds)).map Value.int ++ us) := by
  rw [← List.append_assoc, ← List.map_append, List.take_append_drop]
theorem own_tlen {ds : List Int32} : own_te ds = (ds.take (own_te ds)).length := by rw [List.length_take]; have := own_te_le ds; omega
theorem own_tne {ds : List Int32} (h : ¬ own_te ds = 0) : ds.take (own_te ds) ≠ [] := fun e => h (by have := own_tlen (ds := ds); rw [e] at this; exact this)
theorem own_tle {ds : List Int32} (h : ds.length ≤ 64) : (ds.take (own_te ds)).length ≤ 64 := by rw [List.length_take]; omega
theorem own_tch {ds : List Int32} (h : own_chr ds) : own_chr (ds.take (own_te ds)) := fun c hc => h c (List.mem_of_mem_take hc)
theorem own_te0 {ds : List Int32} (h : own_te ds = 0) : ds.take (own_te ds) = [] := by rw [h]; rfl
theorem d8_0 : decode prog_32_method_9_code 0 = .ok (.aload_n 0, 1) := by decide +kernel
theorem d8_1 : decode prog_32_method_9_code 1 = .ok (.getfield 27, 3) := by decide +kernel
theorem d8_4 : decode prog_32_method_9_code 4 = .ok (.istore_n 1, 1) := by decide +kernel
theorem d8_5 : decode prog_32_method_9_code 5 = .ok (.iload_n 1, 1) := by decide +kernel
theorem d8_6 : decode prog_32_method_9_code 6 = .ok (.ifCond .le 23, 3) := by decide +kernel
theorem d8_9 : decode prog_32_method_9_code 9 = .ok (.aload_n 0, 1) := by decide +kernel
theorem d8_10 : decode prog_32_method_9_code 10 = .ok (.getfield 7, 3) := by decide +kernel
theorem d8_13 : decode prog_32_method_9_code 13 = .ok (.iload_n 1, 1) := by decide +kernel
theorem d8_14 : decode prog_32_method_9_code 14 = .ok (.iconst 1, 1) := by decide +kernel
theorem d8_15 : decode prog_32_method_9_code 15 = .ok (.isub, 1) := by decide +kernel
theorem d8_16 : decode prog_32_method_9_code 16 = .ok (.caload, 1) := by decide +kernel
theorem d8_17 : decode prog_32_method_9_code 17 = .ok (.invokestatic 38, 3) := by decide +kernel
theorem d8_20 : decode prog_32_method_9_code 20 = .ok (.ifCond .eq 9, 3) := by decide +kernel
theorem d8_23 : decode prog_32_method_9_code 23 = .ok (.iinc 1 (-1), 3) := by decide +kernel
theorem d8_26 : decode prog_32_method_9_code 26 = .ok (.goto (-21), 3) := by decide +kernel
theorem d8_29 : decode prog_32_method_9_code 29 = .ok (.new 67, 3) := by decide +kernel
theorem d8_32 : decode prog_32_method_9_code 32 = .ok (.dup, 1) := by decide +kernel
theorem d8_33 : decode prog_32_method_9_code 33 = .ok (.aload_n 0, 1) := by decide +kernel
theorem d8_34 : decode prog_32_method_9_code 34 = .ok (.getfield 7, 3) := by decide +kernel
theorem d8_37 : decode prog_32_method_9_code 37 = .ok (.iconst 0, 1) := by decide +kernel
theorem d8_38 : decode prog_32_method_9_code 38 = .ok (.iload_n 1, 1) := by decide +kernel
theorem d8_39 : decode prog_32_method_9_code 39 = .ok (.invokespecial 69, 3) := by decide +kernel
theorem d8_42 : decode prog_32_method_9_code 42 = .ok (.areturn, 1) := by decide +kernel
theorem pn_8 : plainFor (⟨"com/example/mappa/mappa/core/FieldText", "text", "()Ljava/lang/String;"⟩ : MethodName) = true := plainFor_of_name (by first | (simp [plainName, overriddenIn]; done) | decide +kernel)
theorem pd___CII_V : parseMethodDescriptor "([CII)V" = some ⟨[(.array .char), .int, .int], none⟩ := by decide +kernel
theorem ef_con_txt (m : MethodId) (f tx : Addr) (ds : List Int32) (us : List Value) (z : Int32) (fm : Value) (cz : Int32)  : entryFrame m #[(.ref f)] 2 = mkF m 0 #[.val (.ref f), .unset] [] := by first | (simp [entryFrame, mkF, argsToLocals, Value.category]; done) | rfl
set_option maxRecDepth 65536 in
set_option maxHeartbeats 40000000 in
theorem con_txt (l : Launch) (Z : State) (a0 : Array Value) (hw : ∀ d ∈ tables_1, d.before a0 Z = true) (n0 : Nat) (h0 : Heap) (Z0 : n0 ≤ h0.size) (f tx : Addr) (ds : List Int32) (us : List Value) (z : Int32) (fm : Value) (cz : Int32) (E1 : Exa Z h0 f "com/example/mappa/mappa/core/FieldText") (Ftx : Fld Z h0 f "com/example/mappa/mappa/core/FieldText" "text" "[C" (.ref tx)) (Ftl : Fld Z h0 f "com/example/mappa/mappa/core/FieldText" "textLength" "I" (.int (Int32.ofNat ds.length))) (od0 : Old Z n0 h0) (SF : Sta Z Z.heap "jdk/internal/util/Preconditions" "SIOOBE_FORMATTER" "Ljava/util/function/BiFunction;" fm) (hfm : fm.isRef = true) (SD : Sta Z Z.heap "java/lang/StringUTF16" "$assertionsDisabled" "Z" (.int (1 : Int32))) (SH8 : Sta Z Z.heap "java/lang/StringUTF16" "HI_BYTE_SHIFT" "I" (.int (0 : Int32))) (SL8 : Sta Z Z.heap "java/lang/StringUTF16" "LO_BYTE_SHIFT" "I" (.int (8 : Int32))) (SZ : Sta Z Z.heap "java/lang/String" "COMPACT_STRINGS" "Z" (.int cz)) (hcz : ¬ cz = 0) (AC : Ary Z h0 tx .char (ds.map Value.int ++ us)) (hlz : z.toInt = ((ds.map Value.int ++ us).length : Int)) (hn : ds.length ≤ 64) (hch : own_chr ds) :
    ConW l Z own_EL n0 (⟨"com/example/mappa/mappa/core/FieldText", "text", "()Ljava/lang/String;"⟩ : MethodName) prog_32_method_9_code 2 (some (.object "java/lang/String")) ({ frames := 6, cells := 5, slots := 196, locals := 90 } : Room) #[(.ref f)] h0 [] (Val fun w h' => ∃ t b, w = .ref t ∧ h0.size ≤ t ∧ Ext h0 h' ∧ Exa Z h' t "java/lang/String" ∧ Fld Z h' t "java/lang/String" "value" "[B" (.ref b) ∧ Fld Z h' t "java/lang/String" "coder" "B" (.int (own_coder (ds.take (own_te ds)))) ∧ Ary Z h' b .byte (own_enc (ds.take (own_te ds)))) := by
  refine ConW.of_run (own_EW hw) pn_8 (fun m => ef_con_txt m f tx ds us z fm cz ) ?_
  intro vm hal hsf
  refine RunW.aloadN d8_0 rfl rfl (pc' := 1) rfl ?_
  refine RunW.getF d8_1 (host := "") (Or.inl (hw _ (List.mem_of_getElem? (i := 27) rfl))) Via.refl Ftl (pc' := 4) rfl ?_
  refine RunW.istoreN (l' := #[.val (.ref f), .val (.int (Int32.ofNat ds.length))]) d8_4 rfl (pc' := 5) rfl ?_
  have hd := own_te_le ds
  have rest : ∀ v : Int32, v = Int32.ofNat (own_te ds) → RunW l Z own_EL n0 "com/example/mappa/mappa/core/FieldText" prog_32_method_9_code 2 (some (.object "java/lang/String")) "text" ({ frames := 6, cells := 5, slots := 196, locals := 90 } : Room) (Val fun w h' => ∃ t b, w = .ref t ∧ h0.size ≤ t ∧ Ext h0 h' ∧ Exa Z h' t "java/lang/String" ∧ Fld Z h' t "java/lang/String" "value" "[B" (.ref b) ∧ Fld Z h' t "java/lang/String" "coder" "B" (.int (own_coder (ds.take (own_te ds)))) ∧ Ary Z h' b .byte (own_enc (ds.take (own_te ds)))) 29 #[.val (.ref f), .val (.int v)] [] h0 vm 0 0 := by
    intro v hv
    by_cases hE : own_te ds = 0
    · obtain rfl : v = (0 : Int32) := by rw [hv, hE]; rfl
      refine RunW.newO (k' := 1) (n' := 4) d8_29 (hw _ (List.mem_of_getElem? (i := 54) rfl)) (hw _ (List.mem_of_getElem? (i := 55) rfl)) (hw _ (List.mem_of_getElem? (i := 56) rfl)) (by decide) (by decide) (by decide) (by decide) (pc' := 32) rfl ?_
      intro h11 b11 g11 E11 X11 D11 c11 sf11
      have ge_b11 : n0 ≤ b11 := by rw [g11]; exact Z0
      have bo_b11 : h0.size ≤ b11 := by rw [g11]; exact (Keep.refl h0 []).1
      have ne_f_b11 : f ≠ b11 := by rw [g11]; exact Nat.ne_of_lt E1.lt
      have ne_tx_b11 : tx ≠ b11 := by rw [g11]; exact Nat.ne_of_lt AC.lt
      have E_f_11 := E1.ext E11
      have F_f_text_11 := Ftx.ext E11
      have F_f_textLength_11 := Ftl.ext E11
      have A_tx_11 := AC.ext E11
      have sz11 : n0 ≤ h11.size := Nat.le_trans Z0 E11.1
      have kp11 := Keep.ext (Keep.refl h0 []) E11
      have od11 := od0.ext E11
      have F_b11_value : Fld Z h11 b11 "java/lang/String" "value" "[B" .null := D11 (Or.inr (hw _ (List.mem_of_getElem? (i := 78) rfl))) (ty := (.array .byte)) (by decide)
      have F_b11_coder : Fld Z h11 b11 "java/lang/String" "coder" "B" (.int (0 : Int32)) := D11 (Or.inr (hw _ (List.mem_of_getElem? (i := 79) rfl))) (ty := .byte) (by decide)
      refine RunW.dup d8_32 rfl (pc' := 33) rfl ?_
      refine RunW.aloadN d8_33 rfl rfl (pc' := 34) rfl ?_
      refine RunW.getF d8_34 (host := "") (Or.inl (hw _ (List.mem_of_getElem? (i := 14) rfl))) Via.refl F_f_text_11 (pc' := 37) rfl ?_
      refine RunW.iconst (0 : Int32) d8_37 (by decide) (pc' := 38) rfl ?_
      refine RunW.iloadN d8_38 rfl (pc' := 39) rfl ?_
      refine RunW.callNW (k' := 5) (n' := 12) (a := b11) (as := [(.ref tx), (.int (0 : Int32)), (.int (0 : Int32))]) (rest := [(.ref b11)]) (con_si30 l Z a0 hw n0 h11 sz11 b11 tx .null (.int (0 : Int32)) (ds.map Value.int ++ us) z fm X11 ge_b11 F_b11_value F_b11_coder od11 SF hfm A_tx_11 hlz) (allS sf11 all0) (own_EW hw) rfl rfl d8_39 (hw _ (List.mem_of_getElem? (i := 57) rfl)) (hw _ (List.mem_of_getElem? (i := 58) rfl)) (hw _ (List.mem_of_getElem? (i := 56) rfl)) (hw _ (List.mem_of_getElem? (i := 59) rfl)) (by decide) pd___CII_V rfl rfl rfl (by decide) (by show (1 : Nat) + (4 + 11) + 47 ≤ _; decide) (by decide) (by decide) (by decide) (by decide) (pc' := 42) rfl ?_
      rintro _ h12 vm12 ⟨rfl, ⟨b12, K12, X12, FV12, FC12, P12⟩⟩ c12
      show RunW l Z own_EL n0 "com/example/mappa/mappa/core/FieldText" prog_32_method_9_code 2 (some (.object "java/lang/String")) "text" ({ frames := 6, cells := 5, slots := 196, locals := 90 } : Room) _ 42 #[.val (.ref f), .val (.int (0 : Int32))] [(.ref b11)] h12 vm12 5 12
      have E_f_12 := E_f_11.keep K12
      have F_f_text_12 := F_f_text_11.keep K12 (ninS ne_f_b11 nin0)
      have F_f_textLength_12 := F_f_textLength_11.keep K12 (ninS ne_f_b11 nin0)
      have A_tx_12 := A_tx_11.keep K12 (ninS ne_tx_b11 nin0)
      have E_b11_12 := X11.keep K12
      have Z_b11_12 := CHr.safe c12 X11.lt sf11
      have sz12 : n0 ≤ h12.size := Nat.le_trans sz11 K12.1
      have kp12 := Keep.trans kp11 K12 (allS (Or.inr bo_b11) all0)
      have od12 := od11.keep K12 (allS ge_b11 all0)
      exact RunW.areturn d8_42 (ty := (.object "java/lang/String")) rfl rfl rfl (by decide) (by decide) ⟨_, rfl, b11, b12, rfl, bo_b11, Keep.toExt kp12, X12, FV12, (by rw [own_te0 hE]; exact FC12), (by rw [own_te0 hE]; exact P12)⟩
    · obtain rfl : v = (Int32.ofNat (ds.take (own_te ds)).length) := by rw [hv, ← own_tlen (ds := ds)]
      refine RunW.newO (k' := 1) (n' := 4) d8_29 (hw _ (List.mem_of_getElem? (i := 54) rfl)) (hw _ (List.mem_of_getElem? (i := 55) rfl)) (hw _ (List.mem_of_getElem? (i := 56) rfl)) (by decide) (by decide) (by decide) (by decide) (pc' := 32) rfl ?_
      intro h13 b13 g13 E13 X13 D13 c13 sf13
      have ge_b13 : n0 ≤ b13 := by rw [g13]; exact Z0
      have bo_b13 : h0.size ≤ b13 := by rw [g13]; exact (Keep.refl h0 []).1
      have ne_f_b13 : f ≠ b13 := by rw [g13]; exact Nat.ne_of_lt E1.lt
      have ne_tx_b13 : tx ≠ b13 := by rw [g13]; exact Nat.ne_of_lt AC.lt
      have E_f_13 := E1.ext E13
      have F_f_text_13 := Ftx.ext E13
      have F_f_textLength_13 := Ftl.ext E13
      have A_tx_13 := AC.ext E13
      have sz13 : n0 ≤ h13.size := Nat.le_trans Z0 E13.1
      have kp13 := Keep.ext (Keep.refl h0 []) E13
      have od13 := od0.ext E13
      have F_b13_value : Fld Z h13 b13 "java/lang/String" "value" "[B" .null := D13 (Or.inr (hw _ (List.mem_of_getElem? (i := 78) rfl))) (ty := (.array .byte)) (by decide)
      have F_b13_coder : Fld Z h13 b13 "java/lang/String" "coder" "B" (.int (0 : Int32)) := D13 (Or.inr (hw _ (List.mem_of_getElem? (i := 79) rfl))) (ty := .byte) (by decide)
      refine RunW.dup d8_32 rfl (pc' := 33) rfl ?_
      refine RunW.aloadN d8_33 rfl rfl (pc' := 34) rfl ?_
      refine RunW.getF d8_34 (host := "") (Or.inl (hw _ (List.mem_of_getElem? (i := 14) rfl))) Via.refl F_f_text_13 (pc' := 37) rfl ?_
      refine RunW.iconst (0 : Int32) d8_37 (by decide) (pc' := 38) rfl ?_
      refine RunW.iloadN d8_38 rfl (pc' := 39) rfl ?_
      refine RunW.callN (k' := 3) (n' := 196) (a := b13) (as := [(.ref tx), (.int (0 : Int32)), (.int (Int32.ofNat (ds.take (own_te ds)).length))]) (rest := [(.ref b13)]) (con_si3n l Z a0 hw n0 h13 sz13 b13 tx (ds.take (own_te ds)) ((ds.drop (own_te ds)).map Value.int ++ us) cz .null (.int (0 : Int32)) z fm od13 SD SH8 SL8 SZ hcz X13 F_b13_value F_b13_coder ge_b13 (own_spl ▸ A_tx_13) (own_tne hE) (own_tle hn) (own_tch hch) (Ne.symm ne_tx_b13) SF hfm (own_spl (ds := ds) (us := us) ▸ hlz)) (by rintro _ _ ⟨rfl, ⟨b_, bw_, K_, X_, FV_, FC_, P_⟩⟩; exact ⟨[b13], K_, (allS sf13 all0)⟩) rfl rfl d8_39 (hw _ (List.mem_of_getElem? (i := 57) rfl)) (hw _ (List.mem_of_getElem? (i := 58) rfl)) (hw _ (List.mem_of_getElem? (i := 56) rfl)) (hw _ (List.mem_of_getElem? (i := 59) rfl)) (by decide) pd___CII_V rfl rfl rfl (by decide) (by show (1 : Nat) + (4 + 11) + 74 ≤ _; decide) (by decide) (by decide) (by decide) (by decide) (pc' := 42) rfl ?_
      rintro _ h14 ⟨rfl, ⟨b14, bw14, K14, X14, FV14, FC14, P14⟩⟩ c14
      show RunW l Z own_EL n0 "com/example/mappa/mappa/core/FieldText" prog_32_method_9_code 2 (some (.object "java/lang/String")) "text" ({ frames := 6, cells := 5, slots := 196, locals := 90 } : Room) _ 42 #[.val (.ref f), .val (.int (Int32.ofNat (ds.take (own_te ds)).length))] [(.ref b13)] h14 vm 3 196
      have ge_b14 : n0 ≤ b14 := Nat.le_trans sz13 bw14
      have bo_b14 : h0.size ≤ b14 := Nat.le_trans kp13.1 bw14
      have ne_f_b14 : f ≠ b14 := Nat.ne_of_lt (Nat.lt_of_lt_of_le E_f_13.lt bw14)
      have ne_tx_b14 : tx ≠ b14 := Nat.ne_of_lt (Nat.lt_of_lt_of_le A_tx_13.lt bw14)
      have ne_b13_b14 : b13 ≠ b14 := Nat.ne_of_lt (Nat.lt_of_lt_of_le X13.lt bw14)
      have E_f_14 := E_f_13.keep K14
      have F_f_text_14 := F_f_text_13.keep K14 (ninS ne_f_b13 nin0)
      have F_f_textLength_14 := F_f_textLength_13.keep K14 (ninS ne_f_b13 nin0)
      have A_tx_14 := A_tx_13.keep K14 (ninS ne_tx_b13 nin0)
      have E_b13_14 := X13.keep K14
      have Z_b13_14 := CHr.safe c14 X13.lt sf13
      have sz14 : n0 ≤ h14.size := Nat.le_trans sz13 K14.1
      have kp14 := Keep.trans kp13 K14 (allS (Or.inr bo_b13) all0)
      have od14 := od13.keep K14 (allS ge_b13 all0)
      exact RunW.areturn d8_42 (ty := (.object "java/lang/String")) rfl rfl rfl (by decide) (by decide) ⟨_, rfl, b13, b14, rfl, bo_b13, Keep.toExt kp14, X14, FV14, FC14, P14⟩
  have loop : ∀ e : Nat, e ≤ ds.length → own_tend ds e = own_te ds → RunW l Z own_EL n0 "com/example/mappa/mappa/core/FieldText" prog_32_method_9_code 2 (some (.object "java/lang/String")) "text" ({ frames := 6, cells := 5, slots := 196, locals := 90 } : Room) (Val fun w h' => ∃ t b, w = .ref t ∧ h0.size ≤ t ∧ Ext h0 h' ∧ Exa Z h' t "java/lang/String" ∧ Fld Z h' t "java/lang/String" "value" "[B" (.ref b) ∧ Fld Z h' t "java/lang/String" "coder" "B" (.int (own_coder (ds.take (own_te ds)))) ∧ Ary Z h' b .byte (own_enc (ds.take (own_te ds)))) 5 #[.val (.ref f), .val (.int (Int32.ofNat e))] [] h0 vm 0 0 := by
    intro e
    induction e with
    | zero =>
      intro hed hte
      show RunW l Z own_EL n0 "com/example/mappa/mappa/core/FieldText" prog_32_method_9_code 2 (some (.object "java/lang/String")) "text" ({ frames := 6, cells := 5, slots := 196, locals := 90 } : Room) (Val fun w h' => ∃ t b, w = .ref t ∧ h0.size ≤ t ∧ Ext h0 h' ∧ Exa Z h' t "java/lang/String" ∧ Fld Z h' t "java/lang/String" "value" "[B" (.ref b) ∧ Fld Z h' t "java/lang/String" "coder" "B" (.int (own_coder (ds.take (own_te ds)))) ∧ Ary Z h' b .byte (own_enc (ds.take (own_te ds)))) 5 #[.val (.ref f), .val (.int (0 : Int32))] [] h0 vm 0 0
      refine RunW.iloadN d8_5 rfl (pc' := 6) rfl ?_
      refine RunW.if_le d8_6 (by decide) (pc' := 29) (by decide) (pa := 9) rfl (fun hc6 => ?_) (fun hc6 => ?_)
      · -- pc 6 taken: ¬ (0 : Int32) < (0 : Int32)
        have h9 : own_te ds = 0 := hte.symm
        exact rest _ (by rw [h9]; rfl)
      · -- pc 6 not taken: (0 : Int32) < (0 : Int32)
        exact absurd hc6 (by decide)
    | succ e ih =>
      intro hed hte
      refine RunW.iloadN d8_5 rfl (pc' := 6) rfl ?_
      refine RunW.if_le d8_6 (by decide) (pc' := 29) (by decide) (pa := 9) rfl (fun hc6 => ?_) (fun hc6 => ?_)
      · -- pc 6 taken: ¬ (0 : Int32) < (Int32.ofNat (e + 1))
        exact absurd (own_npos (by omega)) hc6
      · -- pc 6 not taken: (0 : Int32) < (Int32.ofNat (e + 1))
        refine RunW.aloadN d8_9 rfl rfl (pc' := 10) rfl ?_
        refine RunW.getF d8_10 (host := "") (Or.inl (hw _ (List.mem_of_getElem? (i := 14) rfl))) Via.refl Ftx (pc' := 13) rfl ?_
        refine RunW.iloadN d8_13 rfl (pc' := 14) rfl ?_
        refine RunW.iconst (1 : Int32) d8_14 (by decide) (pc' := 15) rfl ?_
        refine RunW.isub d8_15 (pc' := 16) rfl ?_
        rw [own_dec]
        refine RunW.caload (i := e) (v := (.int (ds.getD e 0))) d8_16 AC (own_ofn (by omega)) (own_cg (by omega)) (pc' := 17) rfl ?_
        refine RunW.callS (k' := 0) (n' := 0) (as := [(.int (ds.getD e 0))]) (rest := []) (con_own_isp l Z a0 hw n0 h0 Z0 (ds.getD e 0) ) (by rintro _ _ ⟨_, -, -, rfl⟩; exact ⟨[], Keep.refl _ _, all0⟩) d8_17 (hw _ (List.mem_of_getElem? (i := 96) rfl)) (hw _ (List.mem_of_getElem? (i := 97) rfl)) (hw _ (List.mem_of_getElem? (i := 7) rfl)) (hw _ (List.mem_of_getElem? (i := 98) rfl)) (by decide) pd__C_Z rfl rfl rfl (by decide) (by show (0 : Nat) + (1 + 11) + 0 ≤ _; decide) (by decide) (by decide) (by decide) (by decide) (pc' := 20) rfl ?_
        rintro _ _ ⟨_, rfl, rfl, rfl⟩ -
        show RunW l Z own_EL n0 "com/example/mappa/mappa/core/FieldText" prog_32_method_9_code 2 (some (.object "java/lang/String")) "text" ({ frames := 6, cells := 5, slots := 196, locals := 90 } : Room) _ 20 #[.val (.ref f), .val (.int (Int32.ofNat (e + 1)))] [(.int (own_isp (ds.getD e 0)))] h0 vm 0 0
        refine RunW.if_eq d8_20 (by decide) (pc' := 29) (by decide) (pa := 23) rfl (fun hc20 => ?_) (fun hc20 => ?_)
        · -- pc 20 taken: (own_isp (ds.getD e 0)) = (0 : Int32)
          have h9 : own_te ds = e + 1 := by rw [← hte]; show (if own_isp (ds.getD e 0) = 0 then e + 1 else own_tend ds e) = e + 1; rw [if_pos hc20]
          exact rest _ (by rw [h9])
        · -- pc 20 not taken: ¬ (own_isp (ds.getD e 0)) = (0 : Int32)
          refine RunW.iinc (-1 : Int32) #[.val (.ref f), .val (.int ((Int32.ofNat (e + 1)) + (-1 : Int32)))] d8_23 (by decide) rfl rfl (pc' := 26) rfl ?_
          refine RunW.goto d8_26 (by decide) (pc' := 5) (by decide) ?_
          rw [own_decm]
          exact ih (by omega) (by rw [← hte]; show _ = (if own_isp (ds.getD e 0) = 0 then e + 1 else own_tend ds e); rw [if_neg hc20])
  exact loop ds.length (Nat.le_refl _) rfl
def own_ch (p1 : Int32) : Int32 := (if (p1 &&& (1 : Int32)) = (0 : Int32) then (if ((XT.ushr p1 (1 : Int32)) &&& (3 : Int32)) = (0 : Int32) then (nar .char (32 : Int32)) else (if ((XT.ushr p1 (1 : Int32)) &&& (3 : Int32)) = (1 : Int32) then (nar .char (9 : Int32)) else (if ((XT.ushr p1 (1 : Int32)) &&& (3 : Int32)) = (2 : Int32) then (nar .char (13 : Int32)) else (nar .char (10 : Int32))))) else (nar .char (nar .char (XT.ushr p1 (1 : Int32)))))
theorem d1_0 : decode method_3_code 0 = .ok (.iload_n 0, 1) := by decide +kernel
theorem d1_1 : decode method_3_code 1 = .ok (.iconst 1, 1) := by decide +kernel
theorem d1_2 : decode method_3_code 2 = .ok (.iand, 1) := by decide +kernel
theorem d1_3 : decode method_3_code 3 = .ok (.ifCond .ne 35, 3) := by decide +kernel
theorem d1_6 : decode method_3_code 6 = .ok (.iload_n 0, 1) := by decide +kernel
theorem d1_7 : decode method_3_code 7 = .ok (.iconst 1, 1) := by decide +kernel
theorem d1_8 : decode method_3_code 8 = .ok (.iushr, 1) := by decide +kernel
theorem d1_9 : decode method_3_code 9 = .ok (.iconst 3, 1) := by decide +kernel
theorem d1_10 : decode method_3_code 10 = .ok (.iand, 1) := by decide +kernel
theorem d1_11 : decode method_3_code 11 = .ok (.istore_n 1, 1) := by decide +kernel
theorem d1_12 : decode method_3_code 12 = .ok (.iload_n 1, 1) := by decide +kernel
theorem d1_13 : decode method_3_code 13 = .ok (.ifCond .ne 6, 3) := by decide +kernel
theorem d1_16 : decode method_3_code 16 = .ok (.bipush 32, 2) := by decide +kernel
theorem d1_18 : decode method_3_code 18 = .ok (.ireturn, 1) := by decide +kernel
theorem d1_19 : decode method_3_code 19 = .ok (.iload_n 1, 1) := by decide +kernel
theorem d1_20 : decode method_3_code 20 = .ok (.iconst 1, 1) := by decide +kernel
theorem d1_21 : decode method_3_code 21 = .ok (.if_icmp .ne 6, 3) := by decide +kernel
theorem d1_24 : decode method_3_code 24 = .ok (.bipush 9, 2) := by decide +kernel
theorem d1_26 : decode method_3_code 26 = .ok (.ireturn, 1) := by decide +kernel
theorem d1_27 : decode method_3_code 27 = .ok (.iload_n 1, 1) := by decide +kernel
theorem d1_28 : decode method_3_code 28 = .ok (.iconst 2, 1) := by decide +kernel
theorem d1_29 : decode method_3_code 29 = .ok (.if_icmp .ne 6, 3) := by decide +kernel
theorem d1_32 : decode method_3_code 32 = .ok (.bipush 13, 2) := by decide +kernel
theorem d1_34 : decode method_3_code 34 = .ok (.ireturn, 1) := by decide +kernel
theorem d1_35 : decode method_3_code 35 = .ok (.bipush 10, 2) := by decide +kernel
theorem d1_37 : decode method_3_code 37 = .ok (.ireturn, 1) := by decide +kernel
theorem d1_38 : decode method_3_code 38 = .ok (.iload_n 0, 1) := by decide +kernel
theorem d1_39 : decode method_3_code 39 = .ok (.iconst 1, 1) := by decide +kernel
theorem d1_40 : decode method_3_code 40 = .ok (.iushr, 1) := by decide +kernel
theorem d1_41 : decode method_3_code 41 = .ok (.i2c, 1) := by decide +kernel
theorem d1_42 : decode method_3_code 42 = .ok (.ireturn, 1) := by decide +kernel
theorem pn_1 : plainFor (⟨"com/example/mappa/mappa/core/FieldTextTextPinLaw", "ch", "(I)C"⟩ : MethodName) = true := plainFor_of_name (by first | (simp [plainName, overriddenIn]; done) | decide +kernel)
theorem ef_con_own_ch (m : MethodId) (p1 : Int32)  : entryFrame m #[(.int p1)] 2 = mkF m 0 #[.val (.int p1), .unset] [] := by first | (simp [entryFrame, mkF, argsToLocals, Value.category]; done) | rfl
set_option maxRecDepth 65536 in
set_option maxHeartbeats 40000000 in
theorem con_own_ch (l : Launch) (Z : State) (a0 : Array Value) (hw : ∀ d ∈ tables_1, d.before a0 Z = true) (n0 : Nat) (h0 : Heap) (Z0 : n0 ≤ h0.size) (p1 : Int32)  :
    Con l Z n0 (⟨"com/example/mappa/mappa/core/FieldTextTextPinLaw", "ch", "(I)C"⟩ : MethodName) method_3_code 2 (some .char) ({ frames := 0, cells := 0, slots := 0, locals := 0 } : Room) #[(.int p1)] h0 (Val (PV (.int (own_ch p1)) h0)) := by
  refine Con.of_run pn_1 (fun m => ef_con_own_ch m p1 ) ?_
  refine Run.iloadN d1_0 rfl (pc' := 1) rfl ?_
  refine Run.iconst (1 : Int32) d1_1 (by decide) (pc' := 2) rfl ?_
  refine Run.iand d1_2 (pc' := 3) rfl ?_
  refine Run.if_ne d1_3 (by decide) (pc' := 38) (by decide) (pa := 6) rfl (fun hc3 => ?_) (fun hc3 => ?_)
  · -- pc 3 taken: ¬ (p1 &&& (1 : Int32)) = (0 : Int32)
    refine Run.iloadN d1_38 rfl (pc' := 39) rfl ?_
    refine Run.iconst (1 : Int32) d1_39 (by decide) (pc' := 40) rfl ?_
    refine Run.iushr d1_40 (pc' := 41) rfl ?_
    refine Run.i2c d1_41 (pc' := 42) rfl ?_
    exact Run.nreturn d1_42 (ty := .char) rfl (by simp) (by decide) (by decide) ⟨_, rfl, congrArg Value.int (by unfold own_ch; rw [if_neg hc3] <;> rfl), rfl⟩
  · -- pc 3 not taken: (p1 &&& (1 : Int32)) = (0 : Int32)
    refine Run.iloadN d1_6 rfl (pc' := 7) rfl ?_
    refine Run.iconst (1 : Int32) d1_7 (by decide) (pc' := 8) rfl ?_
    refine Run.iushr d1_8 (pc' := 9) rfl ?_
    refine Run.iconst (3 : Int32) d1_9 (by decide) (pc' := 10) rfl ?_
    refine Run.iand d1_10 (pc' := 11) rfl ?_
    refine Run.istoreN (l' := #[.val (.int p1), .val (.int ((XT.ushr p1 (1 : Int32)) &&& (3 : Int32)))]) d1_11 rfl (pc' := 12) rfl ?_
    refine Run.iloadN d1_12 rfl (pc' := 13) rfl ?_
    refine Run.if_ne d1_13 (by decide) (pc' := 19) (by decide) (pa := 16) rfl (fun hc13 => ?_) (fun hc13 => ?_)
    · -- pc 13 taken: ¬ ((XT.ushr p1 (1 : Int32)) &&& (3 : Int32)) = (0 : Int32)
      refine Run.iloadN d1_19 rfl (pc' := 20) rfl ?_
      refine Run.iconst (1 : Int32) d1_20 (by decide) (pc' := 21) rfl ?_
      refine Run.icmp_ne d1_21 (by decide) (pc' := 27) (by decide) (pa := 24) rfl (fun hc21 => ?_) (fun hc21 => ?_)
      · -- pc 21 taken: ¬ ((XT.ushr p1 (1 : Int32)) &&& (3 : Int32)) = (1 : Int32)
        refine Run.iloadN d1_27 rfl (pc' := 28) rfl ?_
        refine Run.iconst (2 : Int32) d1_28 (by decide) (pc' := 29) rfl ?_
        refine Run.icmp_ne d1_29 (by decide) (pc' := 35) (by decide) (pa := 32) rfl (fun hc29 => ?_) (fun hc29 => ?_)
        · -- pc 29 taken: ¬ ((XT.ushr p1 (1 : Int32)) &&& (3 : Int32)) = (2 : Int32)
          refine Run.bipush (10 : Int32) d1_35 (by decide) (pc' := 37) rfl ?_
          exact Run.nreturn d1_37 (ty := .char) rfl (by simp) (by decide) (by decide) ⟨_, rfl, congrArg Value.int (by unfold own_ch; rw [if_pos hc3, if_neg hc13, if_neg hc21, if_neg hc29] <;> rfl), rfl⟩
        · -- pc 29 not taken: ((XT.ushr p1 (1 : Int32)) &&& (3 : Int32)) = (2 : Int32)
          refine Run.bipush (13 : Int32) d1_32 (by decide) (pc' := 34) rfl ?_
          exact Run.nreturn d1_34 (ty := .char) rfl (by simp) (by decide) (by decide) ⟨_, rfl, congrArg Value.int (by unfold own_ch; rw [if_pos hc3, if_neg hc13, if_neg hc21, if_pos hc29] <;> rfl), rfl⟩
      · -- pc 21 not taken: ((XT.ushr p1 (1 : Int32)) &&& (3 : Int32)) = (1 : Int32)
        refine Run.bipush (9 : Int32) d1_24 (by decide) (pc' := 26) rfl ?_
        exact Run.nreturn d1_26 (ty := .char) rfl (by simp) (by decide) (by decide) ⟨_, rfl, congrArg Value.int (by unfold own_ch; rw [if_pos hc3, if_neg hc13, if_pos hc21] <;> rfl), rfl⟩
    · -- pc 13 not taken: ((XT.ushr p1 (1 : Int32)) &&& (3 : Int32)) = (0 : Int32)
      refine Run.bipush (32 : Int32) d1_16 (by decide) (pc' := 18) rfl ?_
      exact Run.nreturn d1_18 (ty := .char) rfl (by simp) (by decide) (by decide) ⟨_, rfl, congrArg Value.int (by unfold own_ch; rw [if_pos hc3, if_pos hc13] <;> rfl), rfl⟩
def own_sp (p1 : Int32) : Int32 := (if p1 = (32 : Int32) then (1 : Int32) else (if p1 = (9 : Int32) then (1 : Int32) else (if p1 = (13 : Int32) then (1 : Int32) else (if p1 = (10 : Int32) then (1 : Int32) else (0 : Int32)))))
theorem d25_0 : decode method_2_code 0 = .ok (.iload_n 0, 1) := by decide +kernel
theorem d25_1 : decode method_2_code 1 = .ok (.bipush 32, 2) := by decide +kernel
theorem d25_3 : decode method_2_code 3 = .ok (.if_icmp .eq 21, 3) := by decide +kernel
theorem d25_6 : decode method_2_code 6 = .ok (.iload_n 0, 1) := by decide +kernel
theorem d25_7 : decode method_2_code 7 = .ok (.bipush 9, 2) := by decide +kernel
theorem d25_9 : decode method_2_code 9 = .ok (.if_icmp .eq 15, 3) := by decide +kernel
theorem d25_12 : decode method_2_code 12 = .ok (.iload_n 0, 1) := by decide +kernel
theorem d25_13 : decode method_2_code 13 = .ok (.bipush 13, 2) := by decide +kernel
theorem d25_15 : decode method_2_code 15 = .ok (.if_icmp .eq 9, 3) := by decide +kernel
theorem d25_18 : decode method_2_code 18 = .ok (.iload_n 0, 1) := by decide +kernel
theorem d25_19 : decode method_2_code 19 = .ok (.bipush 10, 2) := by decide +kernel
theorem d25_21 : decode method_2_code 21 = .ok (.if_icmp .ne 7, 3) := by decide +kernel
theorem d25_24 : decode method_2_code 24 = .ok (.iconst 1, 1) := by decide +kernel
theorem d25_25 : decode method_2_code 25 = .ok (.goto 4, 3) := by decide +kernel
theorem d25_28 : decode method_2_code 28 = .ok (.iconst 0, 1) := by decide +kernel
theorem d25_29 : decode method_2_code 29 = .ok (.ireturn, 1) := by decide +kernel
theorem pn_25 : plainFor (⟨"com/example/mappa/mappa/core/FieldTextTextPinLaw", "sp", "(C)Z"⟩ : MethodName) = true := plainFor_of_name (by first | (simp [plainName, overriddenIn]; done) | decide +kernel)
theorem ef_con_own_sp (m : MethodId) (p1 : Int32)  : entryFrame m #[(.int p1)] 1 = mkF m 0 #[.val (.int p1)] [] := by first | (simp [entryFrame, mkF, argsToLocals, Value.category]; done) | rfl
set_option maxRecDepth 65536 in
set_option maxHeartbeats 40000000 in
theorem con_own_sp (l : Launch) (Z : State) (a0 : Array Value) (hw : ∀ d ∈ tables_1, d.before a0 Z = true) (n0 : Nat) (h0 : Heap) (Z0 : n0 ≤ h0.size) (p1 : Int32)  :
    Con l Z n0 (⟨"com/example/mappa/mappa/core/FieldTextTextPinLaw", "sp", "(C)Z"⟩ : MethodName) method_2_code 1 (some .boolean) ({ frames := 0, cells := 0, slots := 0, locals := 0 } : Room) #[(.int p1)] h0 (Val (PV (.int (own_sp p1)) h0)) := by
  refine Con.of_run pn_25 (fun m => ef_con_own_sp m p1 ) ?_
  refine Run.iloadN d25_0 rfl (pc' := 1) rfl ?_
  refine Run.bipush (32 : Int32) d25_1 (by decide) (pc' := 3) rfl ?_
  refine Run.icmp_eq d25_3 (by decide) (pc' := 24) (by decide) (pa := 6) rfl (fun hc3 => ?_) (fun hc3 => ?_)
  · -- pc 3 taken: p1 = (32 : Int32)
    refine Run.iconst (1 : Int32) d25_24 (by decide) (pc' := 25) rfl ?_
    refine Run.goto d25_25 (by decide) (pc' := 29) (by decide) ?_
    exact Run.nreturn d25_29 (ty := .boolean) rfl (by simp) (by decide) (by decide) ⟨_, rfl, congrArg Value.int (by unfold own_sp; rw [if_pos hc3] <;> rfl), rfl⟩
  · -- pc 3 not taken: ¬ p1 = (32 : Int32)
    refine Run.iloadN d25_6 rfl (pc' := 7) rfl ?_
    refine Run.bipush (9 : Int32) d25_7 (by decide) (pc' := 9) rfl ?_
    refine Run.icmp_eq d25_9 (by decide) (pc' := 24) (by decide) (pa := 12) rfl (fun hc9 => ?_) (fun hc9 => ?_)
    · -- pc 9 taken: p1 = (9 : Int32)
      refine Run.iconst (1 : Int32) d25_24 (by decide) (pc' := 25) rfl ?_
      refine Run.goto d25_25 (by decide) (pc' := 29) (by decide) ?_
      exact Run.nreturn d25_29 (ty := .boolean) rfl (by simp) (by decide) (by decide) ⟨_, rfl, congrArg Value.int (by unfold own_sp; rw [if_neg hc3, if_pos hc9] <;> rfl), rfl⟩
    · -- pc 9 not taken: ¬ p1 = (9 : Int32)
      refine Run.iloadN d25_12 rfl (pc' := 13) rfl ?_
      refine Run.bipush (13 : Int32) d25_13 (by decide) (pc' := 15) rfl ?_
      refine Run.icmp_eq d25_15 (by decide) (pc' := 24) (by decide) (pa := 18) rfl (fun hc15 => ?_) (fun hc15 => ?_)
      · -- pc 15 taken: p1 = (13 : Int32)
        refine Run.iconst (1 : Int32) d25_24 (by decide) (pc' := 25) rfl ?_
        refine Run.goto d25_25 (by decide) (pc' := 29) (by decide) ?_
        exact Run.nreturn d25_29 (ty := .boolean) rfl (by simp) (by decide) (by decide) ⟨_, rfl, congrArg Value.int (by unfold own_sp; rw [if_neg hc3, if_neg hc9, if_pos hc15] <;> rfl), rfl⟩
      · -- pc 15 not taken: ¬ p1 = (13 : Int32)
        refine Run.iloadN d25_18 rfl (pc' := 19) rfl ?_
        refine Run.bipush (10 : Int32) d25_19 (by decide) (pc' := 21) rfl ?_
        refine Run.icmp_ne d25_21 (by decide) (pc' := 28) (by decide) (pa := 24) rfl (fun hc21 => ?_) (fun hc21 => ?_)
        · -- pc 21 taken: ¬ p1 = (10 : Int32)
          refine Run.iconst (0 : Int32) d25_28 (by decide) (pc' := 29) rfl ?_
          exact Run.nreturn d25_29 (ty := .boolean) rfl (by simp) (by decide) (by decide) ⟨_, rfl, congrArg Value.int (by unfold own_sp; rw [if_neg hc3, if_neg hc9, if_neg hc15, if_neg hc21] <;> rfl), rfl⟩
        · -- pc 21 not taken: p1 = (10 : Int32)
          refine Run.iconst (1 : Int32) d25_24 (by decide) (pc' := 25) rfl ?_
          refine Run.goto d25_25 (by decide) (pc' := 29) (by decide) ?_
          exact Run.nreturn d25_29 (ty := .boolean) rfl (by simp) (by decide) (by decide) ⟨_, rfl, congrArg Value.int (by unfold own_sp; rw [if_neg hc3, if_neg hc9, if_neg hc15, if_pos hc21] <;> rfl), rfl⟩
theorem own_mx (x : Int32) : 0 ≤ (x &&& (7 : Int32)).toInt ∧ (x &&& (7 : Int32)).toInt ≤ 64 := by
  have h := c_mask x 7 3 (by decide) (by decide); omega
theorem own_lnx (x : Int32) : ∃ ln : Nat, ln ≤ 4 ∧ (XT.ushr x (3 : Int32)) % (5 : Int32) = Int32.ofNat ln := by
  have u := c_iushr x 3 3 (by decide) (by decide)
  change (XT.ushr x (3 : Int32)).toInt = _ at u
  have r := c_irem (XT.ushr x (3 : Int32)) 5 5 rfl
  simp only [Nat.reducePow] at u
  have h0 : 0 ≤ (XT.ushr x (3 : Int32)).toInt := by omega
  have h1 := r.1 h0
  refine ⟨((XT.ushr x (3 : Int32)).toInt % 5).toNat, by omega, own_eqi ?_⟩
  rw [own_ofn (by omega), h1]; omega
theorem own_chx (x : Int32) : nar .char (own_ch x) = own_ch x ∧ 0 ≤ (own_ch x).toInt ∧ (own_ch x).toInt ≤ 65535 := by
  have k : ∀ y : Int32, nar .char (nar .char y) = nar .char y ∧ 0 ≤ (nar .char y).toInt ∧ (nar .char y).toInt ≤ 65535 := fun y => by
    have q := c_i2c y
    change ((nar .char _).toInt - _) % 65536 = 0 ∧ 0 ≤ (nar .char _).toInt ∧ (nar .char _).toInt < 65536 at q
    exact ⟨own_ncc y, by omega, by omega⟩
  unfold own_ch
  repeat' split
  all_goals exact k _
theorem own_fit4 {a b c d : Int32} (ha : nar .char a = a) (hb : nar .char b = b) (hc : nar .char c = c) (hd : nar .char d = d) : ∀ v ∈ [a, b, c, d].map Value.int, fits .char v = true := by
  intro v hv; simp only [List.map_cons, List.map_nil, List.mem_cons, List.not_mem_nil, or_false] at hv
  rcases hv with rfl | rfl | rfl | rfl
  · rw [← ha]; exact fits_nar_char _
  · rw [← hb]; exact fits_nar_char _
  · rw [← hc]; exact fits_nar_char _
  · rw [← hd]; exact fits_nar_char _
theorem own_chr4 {a b c d : Int32} (ha : 0 ≤ a.toInt ∧ a.toInt ≤ 65535) (hb : 0 ≤ b.toInt ∧ b.toInt ≤ 65535) (hc : 0 ≤ c.toInt ∧ c.toInt ≤ 65535) (hd : 0 ≤ d.toInt ∧ d.toInt ≤ 65535) : own_chr [a, b, c, d] := by
  intro v hv; simp only [List.mem_cons, List.not_mem_nil, or_false] at hv
  rcases hv with rfl | rfl | rfl | rfl <;> assumption
theorem own_fit0 (m : Nat) : ∀ v ∈ List.replicate m (Value.int (0 : Int32)), fits .char v = true := by
  intro v hv; rw [List.eq_of_mem_replicate hv]; decide
def own_ds (cs : List Int32) (ln : Nat) (m : Int32) : List Int32 := (cs.drop (own_lead (cs.take ln))).take (own_held ln (own_lead (cs.take ln)) m)
theorem own_dsl {cs : List Int32} {ln : Nat} {m : Int32} (hl : ln ≤ cs.length) (hm : 0 ≤ m.toInt ∧ m.toInt ≤ 64) : (own_ds cs ln m).length = own_held ln (own_lead (cs.take ln)) m := by
  have h1 := own_lead_le (cs.take ln); have h2 := own_heldB (ln := ln) (fr := own_lead (cs.take ln)) hm
  rw [List.length_take] at h1
  unfold own_ds; rw [List.length_take, List.length_drop]; omega
theorem own_dsA {Z : State} {h : Heap} {a : Addr} {cs : List Int32} {ln : Nat} {m : Int32} {us : List Value} (A : Ary Z h a .char (((cs.map Value.int).drop (own_lead (cs.take ln))).take (own_held ln (own_lead (cs.take ln)) m) ++ us)) : Ary Z h a .char ((own_ds cs ln m).map Value.int ++ us) := by
  unfold own_ds; rw [List.map_take, List.map_drop]; exact A
theorem own_l64 {ds : List Int32} {k : Nat} (h : ds.length = k) (hk : k ≤ 64) : (64 : Int32).toInt = ((ds.map Value.int ++ List.drop k (List.replicate 64 (Value.int (0 : Int32)))).length : Int) := by
  rw [List.length_append, List.length_map, List.length_drop, List.length_replicate, h]; have e : (64 : Int32).toInt = 64 := rfl; omega
theorem own_dsc {cs : List Int32} {ln : Nat} {m : Int32} (h : own_chr cs) : own_chr (own_ds cs ln m) := fun c hc => h c (List.mem_of_mem_drop (List.mem_of_mem_take hc))
theorem own_dsg {cs : List Int32} {ln : Nat} {m : Int32} {k : Nat} (hl : (own_ds cs ln m).length = own_held ln (own_lead (cs.take ln)) m) (h : k < own_te (own_ds cs ln m)) : ((own_ds cs ln m).take (own_te (own_ds cs ln m))).getD k 0 = cs.getD (own_lead (cs.take ln) + k) 0 := by
  have h1 := own_te_le (own_ds cs ln m)
  rw [List.getD_eq_getElem?_getD, List.getElem?_take_of_lt h, List.getD_eq_getElem?_getD]
  have h2 : k < own_held ln (own_lead (cs.take ln)) m := by omega
  unfold own_ds
  rw [List.getElem?_take_of_lt h2, List.getElem?_drop]
def own_isB (c : Int32) : Bool := decide (own_isp c = 0)
theorem own_isBp {c : Int32} (h : own_isp c = 0) : own_isB c = true := decide_eq_true h
theorem own_isBn {c : Int32} (h : ¬ own_isp c = 0) : ¬ own_isB c = true := fun e => h (of_decide_eq_true e)
def own_fN (ln k : Nat) (b : Bool) (o : Nat) : Nat := if k < ln then (if b = true then k else o) else o
def own_eN (f hE k : Nat) (b : Bool) (o : Nat) : Nat := if k < f then o else if k < hE then (if b = true then k + 1 else o) else o
def own_leadB : List Bool → Nat
  | [] => 0
  | c :: r => if c = true then 0 else own_leadB r + 1
theorem own_leadE : ∀ r : List Int32, own_lead r = own_leadB (r.map own_isB)
  | [] => rfl
  | c :: r => by
    show (if own_isp c = 0 then 0 else own_lead r + 1) = (if own_isB c = true then 0 else own_leadB (r.map own_isB) + 1)
    by_cases h : own_isp c = 0
    · rw [if_pos h, if_pos (own_isBp h)]
    · rw [if_neg h, if_neg (own_isBn h), own_leadE r]
def own_tendB (ds : List Bool) : Nat → Nat
  | 0 => 0
  | e + 1 => if ds.getD e false = true then e + 1 else own_tendB ds e
theorem own_tendE (ds : List Int32) : ∀ e, e ≤ ds.length → own_tend ds e = own_tendB (ds.map own_isB) e
  | 0, _ => rfl
  | e + 1, h => by
    show (if own_isp (ds.getD e 0) = 0 then e + 1 else own_tend ds e) = (if (ds.map own_isB).getD e false = true then e + 1 else own_tendB (ds.map own_isB) e)
    have q : (ds.map own_isB).getD e false = own_isB (ds.getD e 0) := by simp [List.getD_eq_getElem?_getD, show e < ds.length by omega]
    rw [q, own_tendE ds e (by omega)]
    by_cases z : own_isp (ds.getD e 0) = 0
    · rw [if_pos z, if_pos (own_isBp z)]
    · rw [if_neg z, if_neg (own_isBn z)]
theorem own_frle {c0 c1 c2 c3 : Int32} {ln : Nat} : own_lead ([c0, c1, c2, c3].take ln) ≤ ln := by have := own_lead_le ([c0, c1, c2, c3].take ln); rw [List.length_take] at this; omega
theorem own_fD : ∀ b0 b1 b2 b3 : Bool, ∀ ln : Fin 5, own_fN ln.1 0 b0 (own_fN ln.1 1 b1 (own_fN ln.1 2 b2 (own_fN ln.1 3 b3 ln.1))) = own_leadB ([b0, b1, b2, b3].take ln.1) := by decide
theorem own_fE {c0 c1 c2 c3 : Int32} {ln : Nat} (h : ln ≤ 4) : own_fN ln 0 (own_isB c0) (own_fN ln 1 (own_isB c1) (own_fN ln 2 (own_isB c2) (own_fN ln 3 (own_isB c3) ln))) = own_lead ([c0, c1, c2, c3].take ln) := by
  rw [own_leadE, List.map_take]; exact own_fD _ _ _ _ ⟨ln, by omega⟩
theorem own_heldJ {ln fr : Nat} {m : Int32} (hf : fr ≤ ln) (hl : ln ≤ 64) (hm : 0 ≤ m.toInt ∧ m.toInt ≤ 64) : own_min (Int32.ofNat ln - Int32.ofNat fr) m = Int32.ofNat (own_held ln fr m) := by
  apply own_eqi
  have h1 := own_ofn (i := ln) (by omega); have h2 := own_ofn (i := fr) (by omega); have h3 := c_isub (Int32.ofNat ln) (Int32.ofNat fr); have h5 := rng32 (Int32.ofNat ln - Int32.ofNat fr); have h0 := own_z
  rw [own_minI, own_ofn (by unfold own_held; omega)]
  unfold own_held
  omega
theorem own_subN (a b : Nat) : Int32.ofNat (a + b) - Int32.ofNat a = Int32.ofNat b := by rw [Int32.ofNat_add, Int32.add_comm, Int32.add_sub_cancel]
theorem own_eD : ∀ b0 b1 b2 b3 : Bool, ∀ ln hd : Fin 5, (own_leadB ([b0, b1, b2, b3].take ln.1) + hd.1 ≤ ln.1 → own_eN (own_leadB ([b0, b1, b2, b3].take ln.1)) (own_leadB ([b0, b1, b2, b3].take ln.1) + hd.1) 3 b3 (own_eN (own_leadB ([b0, b1, b2, b3].take ln.1)) (own_leadB ([b0, b1, b2, b3].take ln.1) + hd.1) 2 b2 (own_eN (own_leadB ([b0, b1, b2, b3].take ln.1)) (own_leadB ([b0, b1, b2, b3].take ln.1) + hd.1) 1 b1 (own_eN (own_leadB ([b0, b1, b2, b3].take ln.1)) (own_leadB ([b0, b1, b2, b3].take ln.1) + hd.1) 0 b0 (own_leadB ([b0, b1, b2, b3].take ln.1))))) = own_leadB ([b0, b1, b2, b3].take ln.1) + own_tendB (([b0, b1, b2, b3].drop (own_leadB ([b0, b1, b2, b3].take ln.1))).take hd.1) hd.1) := by decide +kernel
theorem own_eE {c0 c1 c2 c3 : Int32} {ln : Nat} {mx : Int32} (h : ln ≤ 4) (hm : 0 ≤ mx.toInt ∧ mx.toInt ≤ 64) : own_eN (own_lead ([c0, c1, c2, c3].take ln)) ((own_lead ([c0, c1, c2, c3].take ln)) + (own_held ln (own_lead ([c0, c1, c2, c3].take ln)) mx)) 3 (own_isB c3) (own_eN (own_lead ([c0, c1, c2, c3].take ln)) ((own_lead ([c0, c1, c2, c3].take ln)) + (own_held ln (own_lead ([c0, c1, c2, c3].take ln)) mx)) 2 (own_isB c2) (own_eN (own_lead ([c0, c1, c2, c3].take ln)) ((own_lead ([c0, c1, c2, c3].take ln)) + (own_held ln (own_lead ([c0, c1, c2, c3].take ln)) mx)) 1 (own_isB c1) (own_eN (own_lead ([c0, c1, c2, c3].take ln)) ((own_lead ([c0, c1, c2, c3].take ln)) + (own_held ln (own_lead ([c0, c1, c2, c3].take ln)) mx)) 0 (own_isB c0) (own_lead ([c0, c1, c2, c3].take ln))))) = own_lead ([c0, c1, c2, c3].take ln) + own_te (own_ds [c0, c1, c2, c3] ln mx) := by
  have h1 := own_heldB (ln := ln) (fr := own_lead ([c0, c1, c2, c3].take ln)) hm
  have h2 := own_frle (c0 := c0) (c1 := c1) (c2 := c2) (c3 := c3) (ln := ln)
  have h3 := own_dsl (cs := [c0, c1, c2, c3]) (ln := ln) (m := mx) (by simpa using h) hm
  unfold own_te
  rw [own_tendE _ _ (Nat.le_refl _), h3]
  unfold own_ds
  rw [List.map_take, List.map_drop]
  have hL : own_lead ([c0, c1, c2, c3].take ln) = own_leadB ([own_isB c0, own_isB c1, own_isB c2, own_isB c3].take ln) := by rw [own_leadE, List.map_take]; rfl
  rw [hL] at h1 h2 ⊢
  generalize own_held ln (own_leadB ([own_isB c0, own_isB c1, own_isB c2, own_isB c3].take ln)) mx = H at h1 ⊢
  have h5 : own_leadB ([own_isB c0, own_isB c1, own_isB c2, own_isB c3].take ln) + H ≤ ln := by omega
  exact own_eD (own_isB c0) (own_isB c1) (own_isB c2) (own_isB c3) ⟨ln, by omega⟩ ⟨H, by omega⟩ h5
theorem pn_0 : plainFor x = true := plainFor_of_name (by first | (simp [plainName, overriddenIn]; done) | decide +kernel)
theorem pd___I : parseMethodDescriptor "()I" = some ⟨[], some .int⟩ := by decide +kernel
theorem pd___Ljava_lang_String_ : parseMethodDescriptor "()Ljava/lang/String;" = some ⟨[], some (.object "java/lang/String")⟩ := by decide +kernel
theorem pd__I_C : parseMethodDescriptor "(I)C" = some ⟨[.int], some .char⟩ := by decide +kernel
theorem pd__III_V : parseMethodDescriptor "(III)V" = some ⟨[.int, .int, .int], none⟩ := by decide +kernel
theorem ef_con0 (m : MethodId) (p1 : Int32) (p2 : Int32) (p3 : Int32) (p4 : Int32) (p5 : Int32) (fm : Value) (cz : Int32)  : entryFrame m #[(.int p1), (.int p2), (.int p3), (.int p4), (.int p5)] maxLocals = mkF m 0 #[.val (.int p1), .val (.int p2), .val (.int p3), .val (.int p4), .val (.int p5), .unset, .unset, .unset, .unset, .unset, .unset, .unset, .unset, .unset, .unset, .unset] [] := by first | (simp [entryFrame, mkF, argsToLocals, Value.category, maxLocals]; done) | rfl
set_option maxRecDepth 65536 in
set_option maxHeartbeats 40000000 in
theorem con0 (l : Launch) (Z : State) (a0 : Array Value) (hw : ∀ d ∈ tables_1, d.before a0 Z = true) (n0 : Nat) (h0 : Heap) (Z0 : n0 ≤ h0.size) (p1 : Int32) (p2 : Int32) (p3 : Int32) (p4 : Int32) (p5 : Int32) (fm : Value) (cz : Int32) (od0 : Old Z n0 h0) (SF : Sta Z Z.heap "jdk/internal/util/Preconditions" "SIOOBE_FORMATTER" "Ljava/util/function/BiFunction;" fm) (hfm : fm.isRef = true) (SD : Sta Z Z.heap "java/lang/StringUTF16" "$assertionsDisabled" "Z" (.int (1 : Int32))) (SH8 : Sta Z Z.heap "java/lang/StringUTF16" "HI_BYTE_SHIFT" "I" (.int (0 : Int32))) (SL8 : Sta Z Z.heap "java/lang/StringUTF16" "LO_BYTE_SHIFT" "I" (.int (8 : Int32))) (SZ : Sta Z Z.heap "java/lang/String" "COMPACT_STRINGS" "Z" (.int cz)) (hcz : ¬ cz = 0) :
    ConW l Z own_EL n0 x code maxLocals ret room_1 #[(.int p1), (.int p2), (.int p3), (.int p4), (.int p5)] h0 [] (Val fun w _ => w = .int 1) := by
  refine ConW.of_run (own_EW hw) pn_0 (fun m => ef_con0 m p1 p2 p3 p4 p5 fm cz ) ?_
  intro vm hal hsf
  refine RunW.iconst (4 : Int32) at_0 (by decide) (pc' := 1) rfl ?_
  refine RunW.newP (ty := .char) (m := 4) (cap := 4) (dv := (.int (0 : Int32))) (k' := 1) (n' := 4) at_1 rfl (hw _ (List.mem_of_getElem? (i := 0) rfl)) (by decide) (by decide) (Nat.le_refl _) rfl (by decide) (by decide) (by decide) (by decide) (by decide) (pc' := 3) rfl ?_
  intro h11 b11 g11 E11 A11 c11 sf11
  have ge_b11 : n0 ≤ b11 := by rw [g11]; exact Z0
  have bo_b11 : h0.size ≤ b11 := by rw [g11]; exact (Keep.refl h0 []).1
  have sz11 : n0 ≤ h11.size := Nat.le_trans Z0 E11.1
  have kp11 := Keep.ext (Keep.refl h0 []) E11
  have od11 := od0.ext E11
  replace A11 : Ary Z h11 b11 .char [(.int (0 : Int32)), (.int (0 : Int32)), (.int (0 : Int32)), (.int (0 : Int32))] := A11
  refine RunW.astore (l' := #[.val (.int p1), .val (.int p2), .val (.int p3), .val (.int p4), .val (.int p5), .val (.ref b11), .unset, .unset, .unset, .unset, .unset, .unset, .unset, .unset, .unset, .unset]) at_3 rfl rfl (pc' := 5) rfl ?_
  refine RunW.aload at_5 rfl rfl (pc' := 7) rfl ?_
  refine RunW.iconst (0 : Int32) at_7 (by decide) (pc' := 8) rfl ?_
  refine RunW.iloadN at_8 rfl (pc' := 9) rfl ?_
  refine RunW.callS (k' := 1) (n' := 4) (as := [(.int p1)]) (rest := [(.int (0 : Int32)), (.ref b11)]) (con_own_ch l Z a0 hw n0 h11 sz11 p1 ) (by rintro _ _ ⟨_, -, -, rfl⟩; exact ⟨[], Keep.refl _ _, all0⟩) at_9 (hw _ (List.mem_of_getElem? (i := 1) rfl)) (hw _ (List.mem_of_getElem? (i := 2) rfl)) (hw _ (List.mem_of_getElem? (i := 3) rfl)) (hw _ (List.mem_of_getElem? (i := 4) rfl)) (by decide) pd__I_C rfl rfl rfl (by decide) (by show (2 : Nat) + (2 + 11) + 0 ≤ _; decide) (by decide) (by decide) (by decide) (by decide) (pc' := 12) rfl ?_
  rintro _ _ ⟨_, rfl, rfl, rfl⟩ -
  show RunW l Z own_EL n0 x.cls code maxLocals ret x.name room_1 _ 12 #[.val (.int p1), .val (.int p2), .val (.int p3), .val (.int p4), .val (.int p5), .val (.ref b11), .unset, .unset, .unset, .unset, .unset, .unset, .unset, .unset, .unset, .unset] [(.int (own_ch p1)), (.int (0 : Int32)), (.ref b11)] h11 vm 1 4
  have q_c0 := own_chx p1
  generalize (own_ch p1) = c0 at q_c0 ⊢
  refine RunW.castore (i := 0) at_12 A11 (by decide) (by show (0 : Nat) < 4; decide) ge_b11 sf11 (pc' := 13) rfl ?_
  intro h12 W12 c12 A12
  have Z_b11_12 := CHr.safe c12 A11.lt sf11
  have sz12 : n0 ≤ h12.size := by rw [W12.size]; exact sz11
  have kp12 := Keep.wr kp11 W12 (Or.inr bo_b11)
  have od12 := od11.wr W12 ge_b11
  rw [q_c0.1] at A12
  replace A12 : Ary Z h12 b11 .char [(.int c0), (.int (0 : Int32)), (.int (0 : Int32)), (.int (0 : Int32))] := A12
  refine RunW.aload at_13 rfl rfl (pc' := 15) rfl ?_
  refine RunW.iconst (1 : Int32) at_15 (by decide) (pc' := 16) rfl ?_
  refine RunW.iloadN at_16 rfl (pc' := 17) rfl ?_
  refine RunW.callS (k' := 1) (n' := 4) (as := [(.int p2)]) (rest := [(.int (1 : Int32)), (.ref b11)]) (con_own_ch l Z a0 hw n0 h12 sz12 p2 ) (by rintro _ _ ⟨_, -, -, rfl⟩; exact ⟨[], Keep.refl _ _, all0⟩) at_17 (hw _ (List.mem_of_getElem? (i := 1) rfl)) (hw _ (List.mem_of_getElem? (i := 2) rfl)) (hw _ (List.mem_of_getElem? (i := 3) rfl)) (hw _ (List.mem_of_getElem? (i := 4) rfl)) (by decide) pd__I_C rfl rfl rfl (by decide) (by show (2 : Nat) + (2 + 11) + 0 ≤ _; decide) (by decide) (by decide) (by decide) (by decide) (pc' := 20) rfl ?_
  rintro _ _ ⟨_, rfl, rfl, rfl⟩ -
  show RunW l Z own_EL n0 x.cls code maxLocals ret x.name room_1 _ 20 #[.val (.int p1), .val (.int p2), .val (.int p3), .val (.int p4), .val (.int p5), .val (.ref b11), .unset, .unset, .unset, .unset, .unset, .unset, .unset, .unset, .unset, .unset] [(.int (own_ch p2)), (.int (1 : Int32)), (.ref b11)] h12 vm 1 4
  have q_c1 := own_chx p2
  generalize (own_ch p2) = c1 at q_c1 ⊢
  refine RunW.castore (i := 1) at_20 A12 (by decide) (by show (1 : Nat) < 4; decide) ge_b11 Z_b11_12 (pc' := 21) rfl ?_
  intro h13 W13 c13 A13
  have Z_b11_13 := CHr.safe c13 A12.lt Z_b11_12
  have sz13 : n0 ≤ h13.size := by rw [W13.size]; exact sz12
  have kp13 := Keep.wr kp12 W13 (Or.inr bo_b11)
  have od13 := od12.wr W13 ge_b11
  rw [q_c1.1] at A13
  replace A13 : Ary Z h13 b11 .char [(.int c0), (.int c1), (.int (0 : Int32)), (.int (0 : Int32))] := A13
  refine RunW.aload at_21 rfl rfl (pc' := 23) rfl ?_
  refine RunW.iconst (2 : Int32) at_23 (by decide) (pc' := 24) rfl ?_
  refine RunW.iloadN at_24 rfl (pc' := 25) rfl ?_
  refine RunW.callS (k' := 1) (n' := 4) (as := [(.int p3)]) (rest := [(.int (2 : Int32)), (.ref b11)]) (con_own_ch l Z a0 hw n0 h13 sz13 p3 ) (by rintro _ _ ⟨_, -, -, rfl⟩; exact ⟨[], Keep.refl _ _, all0⟩) at_25 (hw _ (List.mem_of_getElem? (i := 1) rfl)) (hw _ (List.mem_of_getElem? (i := 2) rfl)) (hw _ (List.mem_of_getElem? (i := 3) rfl)) (hw _ (List.mem_of_getElem? (i := 4) rfl)) (by decide) pd__I_C rfl rfl rfl (by decide) (by show (2 : Nat) + (2 + 11) + 0 ≤ _; decide) (by decide) (by decide) (by decide) (by decide) (pc' := 28) rfl ?_
  rintro _ _ ⟨_, rfl, rfl, rfl⟩ -
  show RunW l Z own_EL n0 x.cls code maxLocals ret x.name room_1 _ 28 #[.val (.int p1), .val (.int p2), .val (.int p3), .val (.int p4), .val (.int p5), .val (.ref b11), .unset, .unset, .unset, .unset, .unset, .unset, .unset, .unset, .unset, .unset] [(.int (own_ch p3)), (.int (2 : Int32)), (.ref b11)] h13 vm 1 4
  have q_c2 := own_chx p3
  generalize (own_ch p3) = c2 at q_c2 ⊢
  refine RunW.castore (i := 2) at_28 A13 (by decide) (by show (2 : Nat) < 4; decide) ge_b11 Z_b11_13 (pc' := 29) rfl ?_
  intro h14 W14 c14 A14
  have Z_b11_14 := CHr.safe c14 A13.lt Z_b11_13
  have sz14 : n0 ≤ h14.size := by rw [W14.size]; exact sz13
  have kp14 := Keep.wr kp13 W14 (Or.inr bo_b11)
  have od14 := od13.wr W14 ge_b11
  rw [q_c2.1] at A14
  replace A14 : Ary Z h14 b11 .char [(.int c0), (.int c1), (.int c2), (.int (0 : Int32))] := A14
  refine RunW.aload at_29 rfl rfl (pc' := 31) rfl ?_
  refine RunW.iconst (3 : Int32) at_31 (by decide) (pc' := 32) rfl ?_
  refine RunW.iloadN at_32 rfl (pc' := 33) rfl ?_
  refine RunW.callS (k' := 1) (n' := 4) (as := [(.int p4)]) (rest := [(.int (3 : Int32)), (.ref b11)]) (con_own_ch l Z a0 hw n0 h14 sz14 p4 ) (by rintro _ _ ⟨_, -, -, rfl⟩; exact ⟨[], Keep.refl _ _, all0⟩) at_33 (hw _ (List.mem_of_getElem? (i := 1) rfl)) (hw _ (List.mem_of_getElem? (i := 2) rfl)) (hw _ (List.mem_of_getElem? (i := 3) rfl)) (hw _ (List.mem_of_getElem? (i := 4) rfl)) (by decide) pd__I_C rfl rfl rfl (by decide) (by show (2 : Nat) + (2 + 11) + 0 ≤ _; decide) (by decide) (by decide) (by decide) (by decide) (pc' := 36) rfl ?_
  rintro _ _ ⟨_, rfl, rfl, rfl⟩ -
  show RunW l Z own_EL n0 x.cls code maxLocals ret x.name room_1 _ 36 #[.val (.int p1), .val (.int p2), .val (.int p3), .val (.int p4), .val (.int p5), .val (.ref b11), .unset, .unset, .unset, .unset, .unset, .unset, .unset, .unset, .unset, .unset] [(.int (own_ch p4)), (.int (3 : Int32)), (.ref b11)] h14 vm 1 4
  have q_c3 := own_chx p4
  generalize (own_ch p4) = c3 at q_c3 ⊢
  refine RunW.castore (i := 3) at_36 A14 (by decide) (by show (3 : Nat) < 4; decide) ge_b11 Z_b11_14 (pc' := 37) rfl ?_
  intro h15 W15 c15 A15
  have Z_b11_15 := CHr.safe c15 A14.lt Z_b11_14
  have sz15 : n0 ≤ h15.size := by rw [W15.size]; exact sz14
  have kp15 := Keep.wr kp14 W15 (Or.inr bo_b11)
  have od15 := od14.wr W15 ge_b11
  rw [q_c3.1] at A15
  replace A15 : Ary Z h15 b11 .char [(.int c0), (.int c1), (.int c2), (.int c3)] := A15
  refine RunW.iload at_37 rfl (pc' := 39) rfl ?_
  refine RunW.bipush (7 : Int32) at_39 (by decide) (pc' := 41) rfl ?_
  refine RunW.iand at_41 (pc' := 42) rfl ?_
  have q_mx := own_mx p5
  generalize (p5 &&& (7 : Int32)) = mx at q_mx ⊢
  refine RunW.istore (l' := #[.val (.int p1), .val (.int p2), .val (.int p3), .val (.int p4), .val (.int p5), .val (.ref b11), .val (.int mx), .unset, .unset, .unset, .unset, .unset, .unset, .unset, .unset, .unset]) at_42 rfl (pc' := 44) rfl ?_
  refine RunW.iload at_44 rfl (pc' := 46) rfl ?_
  refine RunW.iconst (3 : Int32) at_46 (by decide) (pc' := 47) rfl ?_
  refine RunW.iushr at_47 (pc' := 48) rfl ?_
  refine RunW.iconst (5 : Int32) at_48 (by decide) (pc' := 49) rfl ?_
  refine RunW.irem at_49 (by decide) (pc' := 50) rfl ?_
  obtain ⟨ln, hln, eln⟩ := own_lnx p5
  rw [eln]
  refine RunW.istore (l' := #[.val (.int p1), .val (.int p2), .val (.int p3), .val (.int p4), .val (.int p5), .val (.ref b11), .val (.int mx), .val (.int (Int32.ofNat ln)), .unset, .unset, .unset, .unset, .unset, .unset, .unset, .unset]) at_50 rfl (pc' := 52) rfl ?_
  refine RunW.newO (k' := 2) (n' := 10) at_52 (hw _ (List.mem_of_getElem? (i := 5) rfl)) (hw _ (List.mem_of_getElem? (i := 6) rfl)) (hw _ (List.mem_of_getElem? (i := 7) rfl)) (by decide) (by decide) (by decide) (by decide) (pc' := 55) rfl ?_
  intro h16 b16 g16 E16 X16 D16 c16 sf16
  have ge_b16 : n0 ≤ b16 := by rw [g16]; exact sz15
  have bo_b16 : h0.size ≤ b16 := by rw [g16]; exact kp15.1
  have ne_b11_b16 : b11 ≠ b16 := by rw [g16]; exact Nat.ne_of_lt A15.lt
  have Z_b11_16 := CHr.safe c16 A15.lt Z_b11_15
  have A_b11_16 := A15.ext E16
  have sz16 : n0 ≤ h16.size := Nat.le_trans sz15 E16.1
  have kp16 := Keep.ext kp15 E16
  have od16 := od15.ext E16
  have F_b16_text : Fld Z h16 b16 "com/example/mappa/mappa/core/FieldText" "text" "[C" .null := D16 (Or.inl (hw _ (List.mem_of_getElem? (i := 15) rfl))) (ty := (.array .char)) (by decide)
  have F_b16_line : Fld Z h16 b16 "com/example/mappa/mappa/core/FieldText" "line" "I" (.int (0 : Int32)) := D16 (Or.inl (hw _ (List.mem_of_getElem? (i := 22) rfl))) (ty := .int) (by decide)
  have F_b16_column : Fld Z h16 b16 "com/example/mappa/mappa/core/FieldText" "column" "I" (.int (0 : Int32)) := D16 (Or.inl (hw _ (List.mem_of_getElem? (i := 24) rfl))) (ty := .int) (by decide)
  have F_b16_max : Fld Z h16 b16 "com/example/mappa/mappa/core/FieldText" "max" "I" (.int (0 : Int32)) := D16 (Or.inl (hw _ (List.mem_of_getElem? (i := 26) rfl))) (ty := .int) (by decide)
  have F_b16_textLength : Fld Z h16 b16 "com/example/mappa/mappa/core/FieldText" "textLength" "I" (.int (0 : Int32)) := D16 (Or.inl (hw _ (List.mem_of_getElem? (i := 28) rfl))) (ty := .int) (by decide)
  have F_b16_cut : Fld Z h16 b16 "com/example/mappa/mappa/core/FieldText" "cut" "Z" (.int (0 : Int32)) := D16 (Or.inl (hw _ (List.mem_of_getElem? (i := 30) rfl))) (ty := .boolean) (by decide)
  refine RunW.dup at_55 rfl (pc' := 56) rfl ?_
  refine RunW.iconst (0 : Int32) at_56 (by decide) (pc' := 57) rfl ?_
  refine RunW.iconst (0 : Int32) at_57 (by decide) (pc' := 58) rfl ?_
  refine RunW.iload at_58 rfl (pc' := 60) rfl ?_
  refine RunW.callN (k' := 3) (n' := 74) (a := b16) (as := [(.int (0 : Int32)), (.int (0 : Int32)), (.int mx)]) (rest := [(.ref b16)]) (con_fti l Z a0 hw n0 h16 sz16 b16 (0 : Int32) (0 : Int32) mx X16 ge_b16 F_b16_line F_b16_column F_b16_max F_b16_textLength F_b16_cut F_b16_text) (by rintro _ _ ⟨rfl, ⟨tx_, bw_, K_, Pline__, Pcolumn__, Pmax__, PtextLength__, Pcut__, Ptext__, PA_⟩⟩; exact ⟨[b16], K_, (allS sf16 all0)⟩) rfl rfl at_60 (hw _ (List.mem_of_getElem? (i := 8) rfl)) (hw _ (List.mem_of_getElem? (i := 9) rfl)) (hw _ (List.mem_of_getElem? (i := 7) rfl)) (hw _ (List.mem_of_getElem? (i := 10) rfl)) (by decide) pd__III_V rfl rfl rfl (by decide) (by show (1 : Nat) + (4 + 11) + 15 ≤ _; decide) (by decide) (by decide) (by decide) (by decide) (pc' := 63) rfl ?_
  rintro _ h17 ⟨rfl, ⟨tx17, bw17, K17, Pline_17, Pcolumn_17, Pmax_17, PtextLength_17, Pcut_17, Ptext_17, PA17⟩⟩ c17
  show RunW l Z own_EL n0 x.cls code maxLocals ret x.name room_1 _ 63 #[.val (.int p1), .val (.int p2), .val (.int p3), .val (.int p4), .val (.int p5), .val (.ref b11), .val (.int mx), .val (.int (Int32.ofNat ln)), .unset, .unset, .unset, .unset, .unset, .unset, .unset, .unset] [(.ref b16)] h17 vm 3 74
  have ge_tx17 : n0 ≤ tx17 := Nat.le_trans sz16 bw17
  have bo_tx17 : h0.size ≤ tx17 := Nat.le_trans kp16.1 bw17
  have ne_b11_tx17 : b11 ≠ tx17 := Nat.ne_of_lt (Nat.lt_of_lt_of_le A_b11_16.lt bw17)
  have ne_b16_tx17 : b16 ≠ tx17 := Nat.ne_of_lt (Nat.lt_of_lt_of_le X16.lt bw17)
  have Z_b11_17 := CHr.safe c17 A_b11_16.lt Z_b11_16
  have A_b11_17 := A_b11_16.keep K17 (ninS ne_b11_b16 nin0)
  have E_b16_17 := X16.keep K17
  have Z_b16_17 := CHr.safe c17 X16.lt sf16
  have sz17 : n0 ≤ h17.size := Nat.le_trans sz16 K17.1
  have kp17 := Keep.trans kp16 K17 (allS (Or.inr bo_b16) all0)
  have od17 := od16.keep K17 (allS ge_b16 all0)
  refine RunW.astore (l' := #[.val (.int p1), .val (.int p2), .val (.int p3), .val (.int p4), .val (.int p5), .val (.ref b11), .val (.int mx), .val (.int (Int32.ofNat ln)), .val (.ref b16), .unset, .unset, .unset, .unset, .unset, .unset, .unset]) at_63 rfl rfl (pc' := 65) rfl ?_
  refine RunW.aload at_65 rfl rfl (pc' := 67) rfl ?_
  refine RunW.aload at_67 rfl rfl (pc' := 69) rfl ?_
  refine RunW.iconst (0 : Int32) at_69 (by decide) (pc' := 70) rfl ?_
  refine RunW.iload at_70 rfl (pc' := 72) rfl ?_
  refine RunW.callV (k' := 3) (n' := 74) (a := b16) (as := [(.ref b11), (.int (0 : Int32)), (.int (Int32.ofNat ln))]) (rest := []) (con_ap3 l Z a0 hw n0 h17 sz17 b16 b11 tx17 [c0, c1, c2, c3] (List.replicate 64 (.int (0 : Int32))) ln mx (.int (0 : Int32)) (.int (0 : Int32)) E_b16_17 ge_b16 ge_tx17 Ptext_17 PtextLength_17 Pmax_17 Pcut_17 Pline_17 Pcolumn_17 A_b11_17 PA17 (Ne.symm ne_b11_b16) ne_b16_tx17 ne_b11_tx17 (by simp) (by simpa using hln) (by simp) q_mx (own_fit4 q_c0.1 q_c1.1 q_c2.1 q_c3.1) (own_fit0 _)) (by rintro _ _ ⟨rfl, ⟨K_, PT_, PL_, ⟨k_, PK_⟩, Pln_, Pcl_, Pmx_, PA_⟩⟩; exact ⟨[b16, tx17], K_, (allS Z_b16_17 (allS (safeA hal PA17 (by simp)) all0))⟩) E_b16_17 at_72 (hw _ (List.mem_of_getElem? (i := 31) rfl)) (hw _ (List.mem_of_getElem? (i := 32) rfl)) (fun s hZ => notFace_of_selects (args := #[]) (mvT hZ (hw _ (List.mem_of_getElem? (i := 34) rfl)))) (hw _ (List.mem_of_getElem? (i := 34) rfl)) (hw _ (List.mem_of_getElem? (i := 33) rfl)) (hw _ (List.mem_of_getElem? (i := 7) rfl)) (hw _ (List.mem_of_getElem? (i := 35) rfl)) (by decide) pd___CII_V rfl rfl rfl (by decide) (by show (0 : Nat) + (4 + 11) + 50 ≤ _; decide) (by decide) (by decide) (by decide) (by decide) (pc' := 75) rfl ?_
  rintro _ h18 ⟨rfl, ⟨K18, PT18, PL18, ⟨k18, PK18⟩, Pln18, Pcl18, Pmx18, PA18⟩⟩ c18
  show RunW l Z own_EL n0 x.cls code maxLocals ret x.name room_1 _ 75 #[.val (.int p1), .val (.int p2), .val (.int p3), .val (.int p4), .val (.int p5), .val (.ref b11), .val (.int mx), .val (.int (Int32.ofNat ln)), .val (.ref b16), .unset, .unset, .unset, .unset, .unset, .unset, .unset] [] h18 vm 3 74
  have Z_b11_18 := CHr.safe c18 A_b11_17.lt Z_b11_17
  have A_b11_18 := A_b11_17.keep K18 (ninS ne_b11_b16 (ninS ne_b11_tx17 nin0))
  have E_b16_18 := E_b16_17.keep K18
  have Z_b16_18 := CHr.safe c18 E_b16_17.lt Z_b16_17
  have sz18 : n0 ≤ h18.size := Nat.le_trans sz17 K18.1
  have kp18 := Keep.trans kp17 K18 (allS (Or.inr bo_b16) (allS (Or.inr bo_tx17) all0))
  have od18 := od17.keep K18 (allS ge_b16 (allS ge_tx17 all0))
  have hds : (own_ds [c0, c1, c2, c3] ln mx).length = (own_held ln (own_lead ([c0, c1, c2, c3].take ln)) mx) := own_dsl (by simpa using hln) q_mx
  have PLx := PL18
  rw [← hds] at PLx
  have PAx := own_dsA PA18
  refine RunW.aload at_75 rfl rfl (pc' := 77) rfl ?_
  refine RunW.callVW (k' := 8) (n' := 270) (a := b16) (as := []) (rest := []) (con_txt l Z a0 hw n0 h18 sz18 b16 tx17 (own_ds [c0, c1, c2, c3] ln mx) (List.drop (own_held ln (own_lead ([c0, c1, c2, c3].take ln)) mx) (List.replicate 64 (.int (0 : Int32)))) (64 : Int32) fm cz E_b16_18 PT18 PLx od18 SF hfm SD SH8 SL8 SZ hcz PAx (own_l64 (by rw [hds]) (own_heldB q_mx).2) (by rw [hds]; exact (own_heldB q_mx).2) (own_dsc (own_chr4 q_c0.2 q_c1.2 q_c2.2 q_c3.2))) all0 (own_EW hw) E_b16_18 at_77 (hw _ (List.mem_of_getElem? (i := 49) rfl)) (hw _ (List.mem_of_getElem? (i := 50) rfl)) (fun s hZ => notFace_of_selects (args := #[]) (mvT hZ (hw _ (List.mem_of_getElem? (i := 52) rfl)))) (hw _ (List.mem_of_getElem? (i := 52) rfl)) (hw _ (List.mem_of_getElem? (i := 51) rfl)) (hw _ (List.mem_of_getElem? (i := 7) rfl)) (hw _ (List.mem_of_getElem? (i := 53) rfl)) (by decide) pd___Ljava_lang_String_ rfl rfl rfl (by decide) (by show (0 : Nat) + (2 + 11) + 90 ≤ _; decide) (by decide) (by decide) (by decide) (by decide) (pc' := 80) rfl ?_
  rintro _ h19 vm19 ⟨_, rfl, ⟨t19, b19, rfl, bw19, E19, X19, FV19, FC19, P19⟩⟩ c19
  show RunW l Z own_EL n0 x.cls code maxLocals ret x.name room_1 _ 80 #[.val (.int p1), .val (.int p2), .val (.int p3), .val (.int p4), .val (.int p5), .val (.ref b11), .val (.int mx), .val (.int (Int32.ofNat ln)), .val (.ref b16), .unset, .unset, .unset, .unset, .unset, .unset, .unset] [(.ref t19)] h19 vm19 8 270
  have ge_t19 : n0 ≤ t19 := Nat.le_trans sz18 bw19
  have bo_t19 : h0.size ≤ t19 := Nat.le_trans kp18.1 bw19
  have ne_b11_t19 : b11 ≠ t19 := Nat.ne_of_lt (Nat.lt_of_lt_of_le A_b11_18.lt bw19)
  have ne_b16_t19 : b16 ≠ t19 := Nat.ne_of_lt (Nat.lt_of_lt_of_le E_b16_18.lt bw19)
  have ne_tx17_t19 : tx17 ≠ t19 := Nat.ne_of_lt (Nat.lt_of_lt_of_le PAx.lt bw19)
  have Z_b11_19 := CHr.safe c19 A_b11_18.lt Z_b11_18
  have A_b11_19 := A_b11_18.ext E19
  have E_b16_19 := E_b16_18.ext E19
  have Z_b16_19 := CHr.safe c19 E_b16_18.lt Z_b16_18
  have F_b16_text_19 := PT18.ext E19
  have F_b16_textLength_19 := PLx.ext E19
  have F_b16_cut_19 := PK18.ext E19
  have F_b16_line_19 := Pln18.ext E19
  have F_b16_column_19 := Pcl18.ext E19
  have F_b16_max_19 := Pmx18.ext E19
  have A_tx17_19 := PAx.ext E19
  have sz19 : n0 ≤ h19.size := Nat.le_trans sz18 E19.1
  have kp19 := Keep.ext kp18 E19
  have od19 := od18.ext E19
  refine RunW.astore (l' := #[.val (.int p1), .val (.int p2), .val (.int p3), .val (.int p4), .val (.int p5), .val (.ref b11), .val (.int mx), .val (.int (Int32.ofNat ln)), .val (.ref b16), .val (.ref t19), .unset, .unset, .unset, .unset, .unset, .unset]) at_80 rfl rfl (pc' := 82) rfl ?_
  refine RunW.iload at_82 rfl (pc' := 84) rfl ?_
  refine RunW.istore (l' := #[.val (.int p1), .val (.int p2), .val (.int p3), .val (.int p4), .val (.int p5), .val (.ref b11), .val (.int mx), .val (.int (Int32.ofNat ln)), .val (.ref b16), .val (.ref t19), .val (.int (Int32.ofNat ln)), .unset, .unset, .unset, .unset, .unset]) at_84 rfl (pc' := 86) rfl ?_
  have J105 : RunW l Z own_EL n0 x.cls code maxLocals ret x.name room_1 (Val fun w _ => w = .int 1) 105 #[.val (.int p1), .val (.int p2), .val (.int p3), .val (.int p4), .val (.int p5), .val (.ref b11), .val (.int mx), .val (.int (Int32.ofNat ln)), .val (.ref b16), .val (.ref t19), .val (.int (Int32.ofNat (own_fN ln 3 (own_isB c3) ln))), .unset, .unset, .unset, .unset, .unset] [] h19 vm19 8 270 := by
    have J124 : RunW l Z own_EL n0 x.cls code maxLocals ret x.name room_1 (Val fun w _ => w = .int 1) 124 #[.val (.int p1), .val (.int p2), .val (.int p3), .val (.int p4), .val (.int p5), .val (.ref b11), .val (.int mx), .val (.int (Int32.ofNat ln)), .val (.ref b16), .val (.ref t19), .val (.int (Int32.ofNat (own_fN ln 2 (own_isB c2) (own_fN ln 3 (own_isB c3) ln)))), .unset, .unset, .unset, .unset, .unset] [] h19 vm19 8 270 := by
      have J143 : RunW l Z own_EL n0 x.cls code maxLocals ret x.name room_1 (Val fun w _ => w = .int 1) 143 #[.val (.int p1), .val (.int p2), .val (.int p3), .val (.int p4), .val (.int p5), .val (.ref b11), .val (.int mx), .val (.int (Int32.ofNat ln)), .val (.ref b16), .val (.ref t19), .val (.int (Int32.ofNat (own_fN ln 1 (own_isB c1) (own_fN ln 2 (own_isB c2) (own_fN ln 3 (own_isB c3) ln))))), .unset, .unset, .unset, .unset, .unset] [] h19 vm19 8 270 := by
        have J161 : RunW l Z own_EL n0 x.cls code maxLocals ret x.name room_1 (Val fun w _ => w = .int 1) 161 #[.val (.int p1), .val (.int p2), .val (.int p3), .val (.int p4), .val (.int p5), .val (.ref b11), .val (.int mx), .val (.int (Int32.ofNat ln)), .val (.ref b16), .val (.ref t19), .val (.int (Int32.ofNat (own_fN ln 0 (own_isB c0) (own_fN ln 1 (own_isB c1) (own_fN ln 2 (own_isB c2) (own_fN ln 3 (own_isB c3) ln)))))), .unset, .unset, .unset, .unset, .unset] [] h19 vm19 8 270 := by
          have hfx : (own_fN ln 0 (own_isB c0) (own_fN ln 1 (own_isB c1) (own_fN ln 2 (own_isB c2) (own_fN ln 3 (own_isB c3) ln)))) = (own_lead ([c0, c1, c2, c3].take ln)) := own_fE hln
          rw [hfx]
          have hfr : (own_lead ([c0, c1, c2, c3].take ln)) ≤ ln := own_frle
          have hhd := own_heldB (ln := ln) (fr := (own_lead ([c0, c1, c2, c3].take ln))) q_mx
          refine RunW.iload at_161 rfl (pc' := 163) rfl ?_
          refine RunW.iload at_163 rfl (pc' := 165) rfl ?_
          refine RunW.isub at_165 (pc' := 166) rfl ?_
          refine RunW.iload at_166 rfl (pc' := 168) rfl ?_
          refine RunW.callS (k' := 8) (n' := 270) (as := [(.int ((Int32.ofNat ln) - (Int32.ofNat (own_lead ([c0, c1, c2, c3].take ln))))), (.int mx)]) (rest := []) (con_own_min l Z a0 hw n0 h19 sz19 ((Int32.ofNat ln) - (Int32.ofNat (own_lead ([c0, c1, c2, c3].take ln)))) mx ) (by rintro _ _ ⟨_, -, -, rfl⟩; exact ⟨[], Keep.refl _ _, all0⟩) at_168 (hw _ (List.mem_of_getElem? (i := 84) rfl)) (hw _ (List.mem_of_getElem? (i := 42) rfl)) (hw _ (List.mem_of_getElem? (i := 43) rfl)) (hw _ (List.mem_of_getElem? (i := 44) rfl)) (by decide) pd__II_I rfl rfl rfl (by decide) (by show (0 : Nat) + (2 + 11) + 0 ≤ _; decide) (by decide) (by decide) (by decide) (by decide) (pc' := 171) rfl ?_
          rintro _ _ ⟨_, rfl, rfl, rfl⟩ -
          show RunW l Z own_EL n0 x.cls code maxLocals ret x.name room_1 _ 171 #[.val (.int p1), .val (.int p2), .val (.int p3), .val (.int p4), .val (.int p5), .val (.ref b11), .val (.int mx), .val (.int (Int32.ofNat ln)), .val (.ref b16), .val (.ref t19), .val (.int (Int32.ofNat (own_lead ([c0, c1, c2, c3].take ln)))), .unset, .unset, .unset, .unset, .unset] [(.int (own_min ((Int32.ofNat ln) - (Int32.ofNat (own_lead ([c0, c1, c2, c3].take ln)))) mx))] h19 vm19 8 270
          rw [own_heldJ hfr (by omega) q_mx]
          refine RunW.istore (l' := #[.val (.int p1), .val (.int p2), .val (.int p3), .val (.int p4), .val (.int p5), .val (.ref b11), .val (.int mx), .val (.int (Int32.ofNat ln)), .val (.ref b16), .val (.ref t19), .val (.int (Int32.ofNat (own_lead ([c0, c1, c2, c3].take ln)))), .val (.int (Int32.ofNat (own_held ln (own_lead ([c0, c1, c2, c3].take ln)) mx))), .unset, .unset, .unset, .unset]) at_171 rfl (pc' := 173) rfl ?_
          refine RunW.iload at_173 rfl (pc' := 175) rfl ?_
          refine RunW.iload at_175 rfl (pc' := 177) rfl ?_
          refine RunW.iadd at_177 (pc' := 178) rfl ?_
          rw [← Int32.ofNat_add]
          refine RunW.istore (l' := #[.val (.int p1), .val (.int p2), .val (.int p3), .val (.int p4), .val (.int p5), .val (.ref b11), .val (.int mx), .val (.int (Int32.ofNat ln)), .val (.ref b16), .val (.ref t19), .val (.int (Int32.ofNat (own_lead ([c0, c1, c2, c3].take ln)))), .val (.int (Int32.ofNat (own_held ln (own_lead ([c0, c1, c2, c3].take ln)) mx))), .val (.int (Int32.ofNat ((own_lead ([c0, c1, c2, c3].take ln)) + (own_held ln (own_lead ([c0, c1, c2, c3].take ln)) mx)))), .unset, .unset, .unset]) at_178 rfl (pc' := 180) rfl ?_
          refine RunW.iload at_180 rfl (pc' := 182) rfl ?_
          refine RunW.istore (l' := #[.val (.int p1), .val (.int p2), .val (.int p3), .val (.int p4), .val (.int p5), .val (.ref b11), .val (.int mx), .val (.int (Int32.ofNat ln)), .val (.ref b16), .val (.ref t19), .val (.int (Int32.ofNat (own_lead ([c0, c1, c2, c3].take ln)))), .val (.int (Int32.ofNat (own_held ln (own_lead ([c0, c1, c2, c3].take ln)) mx))), .val (.int (Int32.ofNat ((own_lead ([c0, c1, c2, c3].take ln)) + (own_held ln (own_lead ([c0, c1, c2, c3].take ln)) mx)))), .val (.int (Int32.ofNat (own_lead ([c0, c1, c2, c3].take ln)))), .unset, .unset]) at_182 rfl (pc' := 184) rfl ?_
          have J209 : RunW l Z own_EL n0 x.cls code maxLocals ret x.name room_1 (Val fun w _ => w = .int 1) 209 #[.val (.int p1), .val (.int p2), .val (.int p3), .val (.int p4), .val (.int p5), .val (.ref b11), .val (.int mx), .val (.int (Int32.ofNat ln)), .val (.ref b16), .val (.ref t19), .val (.int (Int32.ofNat (own_lead ([c0, c1, c2, c3].take ln)))), .val (.int (Int32.ofNat (own_held ln (own_lead ([c0, c1, c2, c3].take ln)) mx))), .val (.int (Int32.ofNat ((own_lead ([c0, c1, c2, c3].take ln)) + (own_held ln (own_lead ([c0, c1, c2, c3].take ln)) mx)))), .val (.int (Int32.ofNat (own_eN (own_lead ([c0, c1, c2, c3].take ln)) ((own_lead ([c0, c1, c2, c3].take ln)) + (own_held ln (own_lead ([c0, c1, c2, c3].take ln)) mx)) 0 (own_isB c0) (own_lead ([c0, c1, c2, c3].take ln))))), .unset, .unset] [] h19 vm19 8 270 := by
            have J234 : RunW l Z own_EL n0 x.cls code maxLocals ret x.name room_1 (Val fun w _ => w = .int 1) 234 #[.val (.int p1), .val (.int p2), .val (.int p3), .val (.int p4), .val (.int p5), .val (.ref b11), .val (.int mx), .val (.int (Int32.ofNat ln)), .val (.ref b16), .val (.ref t19), .val (.int (Int32.ofNat (own_lead ([c0, c1, c2, c3].take ln)))), .val (.int (Int32.ofNat (own_held ln (own_lead ([c0, c1, c2, c3].take ln)) mx))), .val (.int (Int32.ofNat ((own_lead ([c0, c1, c2, c3].take ln)) + (own_held ln (own_lead ([c0, c1, c2, c3].take ln)) mx)))), .val (.int (Int32.ofNat (own_eN (own_lead ([c0, c1, c2, c3].take ln)) ((own_lead ([c0, c1, c2, c3].take ln)) + (own_held ln (own_lead ([c0, c1, c2, c3].take ln)) mx)) 1 (own_isB c1) (own_eN (own_lead ([c0, c1, c2, c3].take ln)) ((own_lead ([c0, c1, c2, c3].take ln)) + (own_held ln (own_lead ([c0, c1, c2, c3].take ln)) mx)) 0 (own_isB c0) (own_lead ([c0, c1, c2, c3].take ln)))))), .unset, .unset] [] h19 vm19 8 270 := by
              have J259 : RunW l Z own_EL n0 x.cls code maxLocals ret x.name room_1 (Val fun w _ => w = .int 1) 259 #[.val (.int p1), .val (.int p2), .val (.int p3), .val (.int p4), .val (.int p5), .val (.ref b11), .val (.int mx), .val (.int (Int32.ofNat ln)), .val (.ref b16), .val (.ref t19), .val (.int (Int32.ofNat (own_lead ([c0, c1, c2, c3].take ln)))), .val (.int (Int32.ofNat (own_held ln (own_lead ([c0, c1, c2, c3].take ln)) mx))), .val (.int (Int32.ofNat ((own_lead ([c0, c1, c2, c3].take ln)) + (own_held ln (own_lead ([c0, c1, c2, c3].take ln)) mx)))), .val (.int (Int32.ofNat (own_eN (own_lead ([c0, c1, c2, c3].take ln)) ((own_lead ([c0, c1, c2, c3].take ln)) + (own_held ln (own_lead ([c0, c1, c2, c3].take ln)) mx)) 2 (own_isB c2) (own_eN (own_lead ([c0, c1, c2, c3].take ln)) ((own_lead ([c0, c1, c2, c3].take ln)) + (own_held ln (own_lead ([c0, c1, c2, c3].take ln)) mx)) 1 (own_isB c1) (own_eN (own_lead ([c0, c1, c2, c3].take ln)) ((own_lead ([c0, c1, c2, c3].take ln)) + (own_held ln (own_lead ([c0, c1, c2, c3].take ln)) mx)) 0 (own_isB c0) (own_lead ([c0, c1, c2, c3].take ln))))))), .unset, .unset] [] h19 vm19 8 270 := by
                have J284 : RunW l Z own_EL n0 x.cls code maxLocals ret x.name room_1 (Val fun w _ => w = .int 1) 284 #[.val (.int p1), .val (.int p2), .val (.int p3), .val (.int p4), .val (.int p5), .val (.ref b11), .val (.int mx), .val (.int (Int32.ofNat ln)), .val (.ref b16), .val (.ref t19), .val (.int (Int32.ofNat (own_lead ([c0, c1, c2, c3].take ln)))), .val (.int (Int32.ofNat (own_held ln (own_lead ([c0, c1, c2, c3].take ln)) mx))), .val (.int (Int32.ofNat ((own_lead ([c0, c1, c2, c3].take ln)) + (own_held ln (own_lead ([c0, c1, c2, c3].take ln)) mx)))), .val (.int (Int32.ofNat (own_eN (own_lead ([c0, c1, c2, c3].take ln)) ((own_lead ([c0, c1, c2, c3].take ln)) + (own_held ln (own_lead ([c0, c1, c2, c3].take ln)) mx)) 3 (own_isB c3) (own_eN (own_lead ([c0, c1, c2, c3].take ln)) ((own_lead ([c0, c1, c2, c3].take ln)) + (own_held ln (own_lead ([c0, c1, c2, c3].take ln)) mx)) 2 (own_isB c2) (own_eN (own_lead ([c0, c1, c2, c3].take ln)) ((own_lead ([c0, c1, c2, c3].take ln)) + (own_held ln (own_lead ([c0, c1, c2, c3].take ln)) mx)) 1 (own_isB c1) (own_eN (own_lead ([c0, c1, c2, c3].take ln)) ((own_lead ([c0, c1, c2, c3].take ln)) + (own_held ln (own_lead ([c0, c1, c2, c3].take ln)) mx)) 0 (own_isB c0) (own_lead ([c0, c1, c2, c3].take ln)))))))), .unset, .unset] [] h19 vm19 8 270 := by
                  have hex : (own_eN (own_lead ([c0, c1, c2, c3].take ln)) ((own_lead ([c0, c1, c2, c3].take ln)) + (own_held ln (own_lead ([c0, c1, c2, c3].take ln)) mx)) 3 (own_isB c3) (own_eN (own_lead ([c0, c1, c2, c3].take ln)) ((own_lead ([c0, c1, c2, c3].take ln)) + (own_held ln (own_lead ([c0, c1, c2, c3].take ln)) mx)) 2 (own_isB c2) (own_eN (own_lead ([c0, c1, c2, c3].take ln)) ((own_lead ([c0, c1, c2, c3].take ln)) + (own_held ln (own_lead ([c0, c1, c2, c3].take ln)) mx)) 1 (own_isB c1) (own_eN (own_lead ([c0, c1, c2, c3].take ln)) ((own_lead ([c0, c1, c2, c3].take ln)) + (own_held ln (own_lead ([c0, c1, c2, c3].take ln)) mx)) 0 (own_isB c0) (own_lead ([c0, c1, c2, c3].take ln)))))) = (own_lead ([c0, c1, c2, c3].take ln)) + (own_te (own_ds [c0, c1, c2, c3] ln mx)) := own_eE hln q_mx
                  rw [hex]
                  have hte := own_te_le (own_ds [c0, c1, c2, c3] ln mx)
                  rw [hds] at hte
                  refine RunW.iload at_284 rfl (pc' := 286) rfl ?_
                  refine RunW.iload at_286 rfl (pc' := 288) rfl ?_
                  refine RunW.isub at_288 (pc' := 289) rfl ?_
                  rw [own_subN]
                  refine RunW.istore (l' := #[.val (.int p1), .val (.int p2), .val (.int p3), .val (.int p4), .val (.int p5), .val (.ref b11), .val (.int mx), .val (.int (Int32.ofNat ln)), .val (.ref b16), .val (.ref t19), .val (.int (Int32.ofNat (own_lead ([c0, c1, c2, c3].take ln)))), .val (.int (Int32.ofNat (own_held ln (own_lead ([c0, c1, c2, c3].take ln)) mx))), .val (.int (Int32.ofNat ((own_lead ([c0, c1, c2, c3].take ln)) + (own_held ln (own_lead ([c0, c1, c2, c3].take ln)) mx)))), .val (.int (Int32.ofNat ((own_lead ([c0, c1, c2, c3].take ln)) + (own_te (own_ds [c0, c1, c2, c3] ln mx))))), .val (.int (Int32.ofNat (own_te (own_ds [c0, c1, c2, c3] ln mx)))), .unset]) at_289 rfl (pc' := 291) rfl ?_
                  refine RunW.aload at_291 rfl rfl (pc' := 293) rfl ?_
                  refine RunW.callV (k' := 8) (n' := 270) (a := t19) (as := []) (rest := []) (con_len l Z a0 hw n0 h19 sz19 t19 b19 ((own_ds [c0, c1, c2, c3] ln mx).take (own_te (own_ds [c0, c1, c2, c3] ln mx))) cz od19 SZ hcz X19 FV19 FC19 P19 (by rw [List.length_take]; omega)) (by rintro _ _ ⟨_, -, -, rfl⟩; exact ⟨[], Keep.refl _ _, all0⟩) X19 at_293 (hw _ (List.mem_of_getElem? (i := 85) rfl)) (hw _ (List.mem_of_getElem? (i := 86) rfl)) (fun s hZ => notFace_of_selects (args := #[]) (mvT hZ (hw _ (List.mem_of_getElem? (i := 88) rfl)))) (hw _ (List.mem_of_getElem? (i := 88) rfl)) (hw _ (List.mem_of_getElem? (i := 87) rfl)) (hw _ (List.mem_of_getElem? (i := 56) rfl)) (hw _ (List.mem_of_getElem? (i := 89) rfl)) (by decide) pd___I rfl rfl rfl (by decide) (by show (0 : Nat) + (1 + 11) + 13 ≤ _; decide) (by decide) (by decide) (by decide) (by decide) (pc' := 296) rfl ?_
                  rintro _ _ ⟨_, rfl, rfl, rfl⟩ -
                  show RunW l Z own_EL n0 x.cls code maxLocals ret x.name room_1 _ 296 #[.val (.int p1), .val (.int p2), .val (.int p3), .val (.int p4), .val (.int p5), .val (.ref b11), .val (.int mx), .val (.int (Int32.ofNat ln)), .val (.ref b16), .val (.ref t19), .val (.int (Int32.ofNat (own_lead ([c0, c1, c2, c3].take ln)))), .val (.int (Int32.ofNat (own_held ln (own_lead ([c0, c1, c2, c3].take ln)) mx))), .val (.int (Int32.ofNat ((own_lead ([c0, c1, c2, c3].take ln)) + (own_held ln (own_lead ([c0, c1, c2, c3].take ln)) mx)))), .val (.int (Int32.ofNat ((own_lead ([c0, c1, c2, c3].take ln)) + (own_te (own_ds [c0, c1, c2, c3] ln mx))))), .val (.int (Int32.ofNat (own_te (own_ds [c0, c1, c2, c3] ln mx)))), .unset] [(.int (Int32.ofNat ((own_ds [c0, c1, c2, c3] ln mx).take (own_te (own_ds [c0, c1, c2, c3] ln mx))).length))] h19 vm19 8 270
                  refine RunW.iload at_296 rfl (pc' := 298) rfl ?_
                  refine RunW.icmp_eq at_298 (by decide) (pc' := 303) (by decide) (pa := 301) rfl (fun hc298 => ?_) (fun hc298 => ?_)
                  · -- pc 298 taken: (Int32.ofNat ((own_ds [c0, c1, c2, c3] ln mx).take (own_te (own_ds [c0, c1, c2, c3] ln mx))).length) = (Int32.ofNat (own_te (own_ds [c0, c1, c2, c3] ln mx)))
                    refine RunW.iconst (1 : Int32) at_303 (by decide) (pc' := 304) rfl ?_
                    refine RunW.istore (l' := #[.val (.int p1), .val (.int p2), .val (.int p3), .val (.int p4), .val (.int p5), .val (.ref b11), .val (.int mx), .val (.int (Int32.ofNat ln)), .val (.ref b16), .val (.ref t19), .val (.int (Int32.ofNat (own_lead ([c0, c1, c2, c3].take ln)))), .val (.int (Int32.ofNat (own_held ln (own_lead ([c0, c1, c2, c3].take ln)) mx))), .val (.int (Int32.ofNat ((own_lead ([c0, c1, c2, c3].take ln)) + (own_held ln (own_lead ([c0, c1, c2, c3].take ln)) mx)))), .val (.int (Int32.ofNat ((own_lead ([c0, c1, c2, c3].take ln)) + (own_te (own_ds [c0, c1, c2, c3] ln mx))))), .val (.int (Int32.ofNat (own_te (own_ds [c0, c1, c2, c3] ln mx)))), .val (.int (1 : Int32))]) at_304 rfl (pc' := 306) rfl ?_
                    have J338 : RunW l Z own_EL n0 x.cls code maxLocals ret x.name room_1 (Val fun w _ => w = .int 1) 338 #[.val (.int p1), .val (.int p2), .val (.int p3), .val (.int p4), .val (.int p5), .val (.ref b11), .val (.int mx), .val (.int (Int32.ofNat ln)), .val (.ref b16), .val (.ref t19), .val (.int (Int32.ofNat (own_lead ([c0, c1, c2, c3].take ln)))), .val (.int (Int32.ofNat (own_held ln (own_lead ([c0, c1, c2, c3].take ln)) mx))), .val (.int (Int32.ofNat ((own_lead ([c0, c1, c2, c3].take ln)) + (own_held ln (own_lead ([c0, c1, c2, c3].take ln)) mx)))), .val (.int (Int32.ofNat ((own_lead ([c0, c1, c2, c3].take ln)) + (own_te (own_ds [c0, c1, c2, c3] ln mx))))), .val (.int (Int32.ofNat (own_te (own_ds [c0, c1, c2, c3] ln mx)))), .val (.int (1 : Int32))] [] h19 vm19 8 270 := by
                      have J372 : RunW l Z own_EL n0 x.cls code maxLocals ret x.name room_1 (Val fun w _ => w = .int 1) 372 #[.val (.int p1), .val (.int p2), .val (.int p3), .val (.int p4), .val (.int p5), .val (.ref b11), .val (.int mx), .val (.int (Int32.ofNat ln)), .val (.ref b16), .val (.ref t19), .val (.int (Int32.ofNat (own_lead ([c0, c1, c2, c3].take ln)))), .val (.int (Int32.ofNat (own_held ln (own_lead ([c0, c1, c2, c3].take ln)) mx))), .val (.int (Int32.ofNat ((own_lead ([c0, c1, c2, c3].take ln)) + (own_held ln (own_lead ([c0, c1, c2, c3].take ln)) mx)))), .val (.int (Int32.ofNat ((own_lead ([c0, c1, c2, c3].take ln)) + (own_te (own_ds [c0, c1, c2, c3] ln mx))))), .val (.int (Int32.ofNat (own_te (own_ds [c0, c1, c2, c3] ln mx)))), .val (.int (1 : Int32))] [] h19 vm19 8 270 := by
                        have J406 : RunW l Z own_EL n0 x.cls code maxLocals ret x.name room_1 (Val fun w _ => w = .int 1) 406 #[.val (.int p1), .val (.int p2), .val (.int p3), .val (.int p4), .val (.int p5), .val (.ref b11), .val (.int mx), .val (.int (Int32.ofNat ln)), .val (.ref b16), .val (.ref t19), .val (.int (Int32.ofNat (own_lead ([c0, c1, c2, c3].take ln)))), .val (.int (Int32.ofNat (own_held ln (own_lead ([c0, c1, c2, c3].take ln)) mx))), .val (.int (Int32.ofNat ((own_lead ([c0, c1, c2, c3].take ln)) + (own_held ln (own_lead ([c0, c1, c2, c3].take ln)) mx)))), .val (.int (Int32.ofNat ((own_lead ([c0, c1, c2, c3].take ln)) + (own_te (own_ds [c0, c1, c2, c3] ln mx))))), .val (.int (Int32.ofNat (own_te (own_ds [c0, c1, c2, c3] ln mx)))), .val (.int (1 : Int32))] [] h19 vm19 8 270 := by
                          have J440 : RunW l Z own_EL n0 x.cls code maxLocals ret x.name room_1 (Val fun w _ => w = .int 1) 440 #[.val (.int p1), .val (.int p2), .val (.int p3), .val (.int p4), .val (.int p5), .val (.ref b11), .val (.int mx), .val (.int (Int32.ofNat ln)), .val (.ref b16), .val (.ref t19), .val (.int (Int32.ofNat (own_lead ([c0, c1, c2, c3].take ln)))), .val (.int (Int32.ofNat (own_held ln (own_lead ([c0, c1, c2, c3].take ln)) mx))), .val (.int (Int32.ofNat ((own_lead ([c0, c1, c2, c3].take ln)) + (own_held ln (own_lead ([c0, c1, c2, c3].take ln)) mx)))), .val (.int (Int32.ofNat ((own_lead ([c0, c1, c2, c3].take ln)) + (own_te (own_ds [c0, c1, c2, c3] ln mx))))), .val (.int (Int32.ofNat (own_te (own_ds [c0, c1, c2, c3] ln mx)))), .val (.int (1 : Int32))] [] h19 vm19 8 270 := by
                            refine RunW.iload at_440 rfl (pc' := 442) rfl ?_
                            exact RunW.nreturn at_442 (ty := .boolean) rfl (by simp) (by decide) (by decide) ⟨_, rfl, rfl⟩
                          refine RunW.iconst (3 : Int32) at_406 (by decide) (pc' := 407) rfl ?_
                          refine RunW.iload at_407 rfl (pc' := 409) rfl ?_
                          refine RunW.icmp_ge at_409 (by decide) (pc' := 440) (by decide) (pa := 412) rfl (fun hc409 => ?_) (fun hc409 => ?_)
                          · -- pc 409 taken: ¬ (3 : Int32) < (Int32.ofNat (own_te (own_ds [c0, c1, c2, c3] ln mx)))
                            exact J440
                          · -- pc 409 not taken: (3 : Int32) < (Int32.ofNat (own_te (own_ds [c0, c1, c2, c3] ln mx)))
                            refine RunW.iload at_412 rfl (pc' := 414) rfl ?_
                            refine RunW.if_eq at_414 (by decide) (pc' := 437) (by decide) (pa := 417) rfl (fun hc414 => ?_) (fun hc414 => ?_)
                            · -- pc 414 taken: (1 : Int32) = (0 : Int32)
                              exact absurd hc414 (by decide)
                            · -- pc 414 not taken: ¬ (1 : Int32) = (0 : Int32)
                              refine RunW.aload at_417 rfl rfl (pc' := 419) rfl ?_
                              refine RunW.iconst (3 : Int32) at_419 (by decide) (pc' := 420) rfl ?_
                              refine RunW.callV (k' := 8) (n' := 270) (a := t19) (as := [(.int (3 : Int32))]) (rest := []) (con_cha l Z a0 hw n0 h19 sz19 t19 b19 ((own_ds [c0, c1, c2, c3] ln mx).take (own_te (own_ds [c0, c1, c2, c3] ln mx))) 3 cz fm od19 SF hfm SD SH8 SL8 SZ hcz X19 FV19 FC19 P19 (by rw [← own_tlen]; exact (own_lt (i := 3) (by omega) (by omega)).mp hc409) (by rw [List.length_take]; omega) (own_tch (own_dsc (own_chr4 q_c0.2 q_c1.2 q_c2.2 q_c3.2)))) (by rintro _ _ ⟨_, -, -, rfl⟩; exact ⟨[], Keep.refl _ _, all0⟩) X19 at_420 (hw _ (List.mem_of_getElem? (i := 131) rfl)) (hw _ (List.mem_of_getElem? (i := 132) rfl)) (fun s hZ => notFace_of_selects (args := #[]) (mvT hZ (hw _ (List.mem_of_getElem? (i := 134) rfl)))) (hw _ (List.mem_of_getElem? (i := 134) rfl)) (hw _ (List.mem_of_getElem? (i := 133) rfl)) (hw _ (List.mem_of_getElem? (i := 56) rfl)) (hw _ (List.mem_of_getElem? (i := 135) rfl)) (by decide) pd__I_C rfl rfl rfl (by decide) (by show (0 : Nat) + (2 + 11) + 53 ≤ _; decide) (by decide) (by decide) (by decide) (by decide) (pc' := 423) rfl ?_
                              rintro _ _ ⟨_, rfl, rfl, rfl⟩ -
                              show RunW l Z own_EL n0 x.cls code maxLocals ret x.name room_1 _ 423 #[.val (.int p1), .val (.int p2), .val (.int p3), .val (.int p4), .val (.int p5), .val (.ref b11), .val (.int mx), .val (.int (Int32.ofNat ln)), .val (.ref b16), .val (.ref t19), .val (.int (Int32.ofNat (own_lead ([c0, c1, c2, c3].take ln)))), .val (.int (Int32.ofNat (own_held ln (own_lead ([c0, c1, c2, c3].take ln)) mx))), .val (.int (Int32.ofNat ((own_lead ([c0, c1, c2, c3].take ln)) + (own_held ln (own_lead ([c0, c1, c2, c3].take ln)) mx)))), .val (.int (Int32.ofNat ((own_lead ([c0, c1, c2, c3].take ln)) + (own_te (own_ds [c0, c1, c2, c3] ln mx))))), .val (.int (Int32.ofNat (own_te (own_ds [c0, c1, c2, c3] ln mx)))), .val (.int (1 : Int32))] [(.int (((own_ds [c0, c1, c2, c3] ln mx).take (own_te (own_ds [c0, c1, c2, c3] ln mx))).getD 3 0))] h19 vm19 8 270
                              refine RunW.aload at_423 rfl rfl (pc' := 425) rfl ?_
                              refine RunW.iload at_425 rfl (pc' := 427) rfl ?_
                              refine RunW.iconst (3 : Int32) at_427 (by decide) (pc' := 428) rfl ?_
                              refine RunW.iadd at_428 (pc' := 429) rfl ?_
                              rw [show Int32.ofNat (own_lead ([c0, c1, c2, c3].take ln)) + (3 : Int32) = Int32.ofNat ((own_lead ([c0, c1, c2, c3].take ln)) + 3) from (Int32.ofNat_add _ 3).symm]
                              refine RunW.caload (i := ((own_lead ([c0, c1, c2, c3].take ln)) + 3)) (v := (.int ([c0, c1, c2, c3].getD ((own_lead ([c0, c1, c2, c3].take ln)) + 3) 0))) at_429 A_b11_19 (own_ofn (by omega)) (own_gm (cs := [c0, c1, c2, c3]) (by have z := (own_lt (i := 3) (by omega) (by omega)).mp hc409; show _ < 4; omega)) (pc' := 430) rfl ?_
                              refine RunW.icmp_ne at_430 (by decide) (pc' := 437) (by decide) (pa := 433) rfl (fun hc430 => ?_) (fun hc430 => ?_)
                              · -- pc 430 taken: ¬ (((own_ds [c0, c1, c2, c3] ln mx).take (own_te (own_ds [c0, c1, c2, c3] ln mx))).getD 3 0) = ([c0, c1, c2, c3].getD ((own_lead ([c0, c1, c2, c3].take ln)) + 3) 0)
                                exact absurd (own_dsg hds ((own_lt (i := 3) (by omega) (by omega)).mp hc409)) hc430
                              · -- pc 430 not taken: (((own_ds [c0, c1, c2, c3] ln mx).take (own_te (own_ds [c0, c1, c2, c3] ln mx))).getD 3 0) = ([c0, c1, c2, c3].getD ((own_lead ([c0, c1, c2, c3].take ln)) + 3) 0)
                                refine RunW.iconst (1 : Int32) at_433 (by decide) (pc' := 434) rfl ?_
                                refine RunW.goto at_434 (by decide) (pc' := 438) (by decide) ?_
                                refine RunW.istore (l' := #[.val (.int p1), .val (.int p2), .val (.int p3), .val (.int p4), .val (.int p5), .val (.ref b11), .val (.int mx), .val (.int (Int32.ofNat ln)), .val (.ref b16), .val (.ref t19), .val (.int (Int32.ofNat (own_lead ([c0, c1, c2, c3].take ln)))), .val (.int (Int32.ofNat (own_held ln (own_lead ([c0, c1, c2, c3].take ln)) mx))), .val (.int (Int32.ofNat ((own_lead ([c0, c1, c2, c3].take ln)) + (own_held ln (own_lead ([c0, c1, c2, c3].take ln)) mx)))), .val (.int (Int32.ofNat ((own_lead ([c0, c1, c2, c3].take ln)) + (own_te (own_ds [c0, c1, c2, c3] ln mx))))), .val (.int (Int32.ofNat (own_te (own_ds [c0, c1, c2, c3] ln mx)))), .val (.int (1 : Int32))]) at_438 rfl (pc' := 440) rfl ?_
                                exact J440
                        refine RunW.iconst (2 : Int32) at_372 (by decide) (pc' := 373) rfl ?_
                        refine RunW.iload at_373 rfl (pc' := 375) rfl ?_
                        refine RunW.icmp_ge at_375 (by decide) (pc' := 406) (by decide) (pa := 378) rfl (fun hc375 => ?_) (fun hc375 => ?_)
                        · -- pc 375 taken: ¬ (2 : Int32) < (Int32.ofNat (own_te (own_ds [c0, c1, c2, c3] ln mx)))
                          exact J406
                        · -- pc 375 not taken: (2 : Int32) < (Int32.ofNat (own_te (own_ds [c0, c1, c2, c3] ln mx)))
                          refine RunW.iload at_378 rfl (pc' := 380) rfl ?_
                          refine RunW.if_eq at_380 (by decide) (pc' := 403) (by decide) (pa := 383) rfl (fun hc380 => ?_) (fun hc380 => ?_)
                          · -- pc 380 taken: (1 : Int32) = (0 : Int32)
                            exact absurd hc380 (by decide)
                          · -- pc 380 not taken: ¬ (1 : Int32) = (0 : Int32)
                            refine RunW.aload at_383 rfl rfl (pc' := 385) rfl ?_
                            refine RunW.iconst (2 : Int32) at_385 (by decide) (pc' := 386) rfl ?_
                            refine RunW.callV (k' := 8) (n' := 270) (a := t19) (as := [(.int (2 : Int32))]) (rest := []) (con_cha l Z a0 hw n0 h19 sz19 t19 b19 ((own_ds [c0, c1, c2, c3] ln mx).take (own_te (own_ds [c0, c1, c2, c3] ln mx))) 2 cz fm od19 SF hfm SD SH8 SL8 SZ hcz X19 FV19 FC19 P19 (by rw [← own_tlen]; exact (own_lt (i := 2) (by omega) (by omega)).mp hc375) (by rw [List.length_take]; omega) (own_tch (own_dsc (own_chr4 q_c0.2 q_c1.2 q_c2.2 q_c3.2)))) (by rintro _ _ ⟨_, -, -, rfl⟩; exact ⟨[], Keep.refl _ _, all0⟩) X19 at_386 (hw _ (List.mem_of_getElem? (i := 131) rfl)) (hw _ (List.mem_of_getElem? (i := 132) rfl)) (fun s hZ => notFace_of_selects (args := #[]) (mvT hZ (hw _ (List.mem_of_getElem? (i := 134) rfl)))) (hw _ (List.mem_of_getElem? (i := 134) rfl)) (hw _ (List.mem_of_getElem? (i := 133) rfl)) (hw _ (List.mem_of_getElem? (i := 56) rfl)) (hw _ (List.mem_of_getElem? (i := 135) rfl)) (by decide) pd__I_C rfl rfl rfl (by decide) (by show (0 : Nat) + (2 + 11) + 53 ≤ _; decide) (by decide) (by decide) (by decide) (by decide) (pc' := 389) rfl ?_
                            rintro _ _ ⟨_, rfl, rfl, rfl⟩ -
                            show RunW l Z own_EL n0 x.cls code maxLocals ret x.name room_1 _ 389 #[.val (.int p1), .val (.int p2), .val (.int p3), .val (.int p4), .val (.int p5), .val (.ref b11), .val (.int mx), .val (.int (Int32.ofNat ln)), .val (.ref b16), .val (.ref t19), .val (.int (Int32.ofNat (own_lead ([c0, c1, c2, c3].take ln)))), .val (.int (Int32.ofNat (own_held ln (own_lead ([c0, c1, c2, c3].take ln)) mx))), .val (.int (Int32.ofNat ((own_lead ([c0, c1, c2, c3].take ln)) + (own_held ln (own_lead ([c0, c1, c2, c3].take ln)) mx)))), .val (.int (Int32.ofNat ((own_lead ([c0, c1, c2, c3].take ln)) + (own_te (own_ds [c0, c1, c2, c3] ln mx))))), .val (.int (Int32.ofNat (own_te (own_ds [c0, c1, c2, c3] ln mx)))), .val (.int (1 : Int32))] [(.int (((own_ds [c0, c1, c2, c3] ln mx).take (own_te (own_ds [c0, c1, c2, c3] ln mx))).getD 2 0))] h19 vm19 8 270
                            refine RunW.aload at_389 rfl rfl (pc' := 391) rfl ?_
                            refine RunW.iload at_391 rfl (pc' := 393) rfl ?_
                            refine RunW.iconst (2 : Int32) at_393 (by decide) (pc' := 394) rfl ?_
                            refine RunW.iadd at_394 (pc' := 395) rfl ?_
                            rw [show Int32.ofNat (own_lead ([c0, c1, c2, c3].take ln)) + (2 : Int32) = Int32.ofNat ((own_lead ([c0, c1, c2, c3].take ln)) + 2) from (Int32.ofNat_add _ 2).symm]
                            refine RunW.caload (i := ((own_lead ([c0, c1, c2, c3].take ln)) + 2)) (v := (.int ([c0, c1, c2, c3].getD ((own_lead ([c0, c1, c2, c3].take ln)) + 2) 0))) at_395 A_b11_19 (own_ofn (by omega)) (own_gm (cs := [c0, c1, c2, c3]) (by have z := (own_lt (i := 2) (by omega) (by omega)).mp hc375; show _ < 4; omega)) (pc' := 396) rfl ?_
                            refine RunW.icmp_ne at_396 (by decide) (pc' := 403) (by decide) (pa := 399) rfl (fun hc396 => ?_) (fun hc396 => ?_)
                            · -- pc 396 taken: ¬ (((own_ds [c0, c1, c2, c3] ln mx).take (own_te (own_ds [c0, c1, c2, c3] ln mx))).getD 2 0) = ([c0, c1, c2, c3].getD ((own_lead ([c0, c1, c2, c3].take ln)) + 2) 0)
                              exact absurd (own_dsg hds ((own_lt (i := 2) (by omega) (by omega)).mp hc375)) hc396
                            · -- pc 396 not taken: (((own_ds [c0, c1, c2, c3] ln mx).take (own_te (own_ds [c0, c1, c2, c3] ln mx))).getD 2 0) = ([c0, c1, c2, c3].getD ((own_lead ([c0, c1, c2, c3].take ln)) + 2) 0)
                              refine RunW.iconst (1 : Int32) at_399 (by decide) (pc' := 400) rfl ?_
                              refine RunW.goto at_400 (by decide) (pc' := 404) (by decide) ?_
                              refine RunW.istore (l' := #[.val (.int p1), .val (.int p2), .val (.int p3), .val (.int p4), .val (.int p5), .val (.ref b11), .val (.int mx), .val (.int (Int32.ofNat ln)), .val (.ref b16), .val (.ref t19), .val (.int (Int32.ofNat (own_lead ([c0, c1, c2, c3].take ln)))), .val (.int (Int32.ofNat (own_held ln (own_lead ([c0, c1, c2, c3].take ln)) mx))), .val (.int (Int32.ofNat ((own_lead ([c0, c1, c2, c3].take ln)) + (own_held ln (own_lead ([c0, c1, c2, c3].take ln)) mx)))), .val (.int (Int32.ofNat ((own_lead ([c0, c1, c2, c3].take ln)) + (own_te (own_ds [c0, c1, c2, c3] ln mx))))), .val (.int (Int32.ofNat (own_te (own_ds [c0, c1, c2, c3] ln mx)))), .val (.int (1 : Int32))]) at_404 rfl (pc' := 406) rfl ?_
                              exact J406
                      refine RunW.iconst (1 : Int32) at_338 (by decide) (pc' := 339) rfl ?_
                      refine RunW.iload at_339 rfl (pc' := 341) rfl ?_
                      refine RunW.icmp_ge at_341 (by decide) (pc' := 372) (by decide) (pa := 344) rfl (fun hc341 => ?_) (fun hc341 => ?_)
                      · -- pc 341 taken: ¬ (1 : Int32) < (Int32.ofNat (own_te (own_ds [c0, c1, c2, c3] ln mx)))
                        exact J372
                      · -- pc 341 not taken: (1 : Int32) < (Int32.ofNat (own_te (own_ds [c0, c1, c2, c3] ln mx)))
                        refine RunW.iload at_344 rfl (pc' := 346) rfl ?_
                        refine RunW.if_eq at_346 (by decide) (pc' := 369) (by decide) (pa := 349) rfl (fun hc346 => ?_) (fun hc346 => ?_)
                        · -- pc 346 taken: (1 : Int32) = (0 : Int32)
                          exact absurd hc346 (by decide)
                        · -- pc 346 not taken: ¬ (1 : Int32) = (0 : Int32)
                          refine RunW.aload at_349 rfl rfl (pc' := 351) rfl ?_
                          refine RunW.iconst (1 : Int32) at_351 (by decide) (pc' := 352) rfl ?_
                          refine RunW.callV (k' := 8) (n' := 270) (a := t19) (as := [(.int (1 : Int32))]) (rest := []) (con_cha l Z a0 hw n0 h19 sz19 t19 b19 ((own_ds [c0, c1, c2, c3] ln mx).take (own_te (own_ds [c0, c1, c2, c3] ln mx))) 1 cz fm od19 SF hfm SD SH8 SL8 SZ hcz X19 FV19 FC19 P19 (by rw [← own_tlen]; exact (own_lt (i := 1) (by omega) (by omega)).mp hc341) (by rw [List.length_take]; omega) (own_tch (own_dsc (own_chr4 q_c0.2 q_c1.2 q_c2.2 q_c3.2)))) (by rintro _ _ ⟨_, -, -, rfl⟩; exact ⟨[], Keep.refl _ _, all0⟩) X19 at_352 (hw _ (List.mem_of_getElem? (i := 131) rfl)) (hw _ (List.mem_of_getElem? (i := 132) rfl)) (fun s hZ => notFace_of_selects (args := #[]) (mvT hZ (hw _ (List.mem_of_getElem? (i := 134) rfl)))) (hw _ (List.mem_of_getElem? (i := 134) rfl)) (hw _ (List.mem_of_getElem? (i := 133) rfl)) (hw _ (List.mem_of_getElem? (i := 56) rfl)) (hw _ (List.mem_of_getElem? (i := 135) rfl)) (by decide) pd__I_C rfl rfl rfl (by decide) (by show (0 : Nat) + (2 + 11) + 53 ≤ _; decide) (by decide) (by decide) (by decide) (by decide) (pc' := 355) rfl ?_
                          rintro _ _ ⟨_, rfl, rfl, rfl⟩ -
                          show RunW l Z own_EL n0 x.cls code maxLocals ret x.name room_1 _ 355 #[.val (.int p1), .val (.int p2), .val (.int p3), .val (.int p4), .val (.int p5), .val (.ref b11), .val (.int mx), .val (.int (Int32.ofNat ln)), .val (.ref b16), .val (.ref t19), .val (.int (Int32.ofNat (own_lead ([c0, c1, c2, c3].take ln)))), .val (.int (Int32.ofNat (own_held ln (own_lead ([c0, c1, c2, c3].take ln)) mx))), .val (.int (Int32.ofNat ((own_lead ([c0, c1, c2, c3].take ln)) + (own_held ln (own_lead ([c0, c1, c2, c3].take ln)) mx)))), .val (.int (Int32.ofNat ((own_lead ([c0, c1, c2, c3].take ln)) + (own_te (own_ds [c0, c1, c2, c3] ln mx))))), .val (.int (Int32.ofNat (own_te (own_ds [c0, c1, c2, c3] ln mx)))), .val (.int (1 : Int32))] [(.int (((own_ds [c0, c1, c2, c3] ln mx).take (own_te (own_ds [c0, c1, c2, c3] ln mx))).getD 1 0))] h19 vm19 8 270
                          refine RunW.aload at_355 rfl rfl (pc' := 357) rfl ?_
                          refine RunW.iload at_357 rfl (pc' := 359) rfl ?_
                          refine RunW.iconst (1 : Int32) at_359 (by decide) (pc' := 360) rfl ?_
                          refine RunW.iadd at_360 (pc' := 361) rfl ?_
                          rw [show Int32.ofNat (own_lead ([c0, c1, c2, c3].take ln)) + (1 : Int32) = Int32.ofNat ((own_lead ([c0, c1, c2, c3].take ln)) + 1) from (Int32.ofNat_add _ 1).symm]
                          refine RunW.caload (i := ((own_lead ([c0, c1, c2, c3].take ln)) + 1)) (v := (.int ([c0, c1, c2, c3].getD ((own_lead ([c0, c1, c2, c3].take ln)) + 1) 0))) at_361 A_b11_19 (own_ofn (by omega)) (own_gm (cs := [c0, c1, c2, c3]) (by have z := (own_lt (i := 1) (by omega) (by omega)).mp hc341; show _ < 4; omega)) (pc' := 362) rfl ?_
                          refine RunW.icmp_ne at_362 (by decide) (pc' := 369) (by decide) (pa := 365) rfl (fun hc362 => ?_) (fun hc362 => ?_)
                          · -- pc 362 taken: ¬ (((own_ds [c0, c1, c2, c3] ln mx).take (own_te (own_ds [c0, c1, c2, c3] ln mx))).getD 1 0) = ([c0, c1, c2, c3].getD ((own_lead ([c0, c1, c2, c3].take ln)) + 1) 0)
                            exact absurd (own_dsg hds ((own_lt (i := 1) (by omega) (by omega)).mp hc341)) hc362
                          · -- pc 362 not taken: (((own_ds [c0, c1, c2, c3] ln mx).take (own_te (own_ds [c0, c1, c2, c3] ln mx))).getD 1 0) = ([c0, c1, c2, c3].getD ((own_lead ([c0, c1, c2, c3].take ln)) + 1) 0)
                            refine RunW.iconst (1 : Int32) at_365 (by decide) (pc' := 366) rfl ?_
                            refine RunW.goto at_366 (by decide) (pc' := 370) (by decide) ?_
                            refine RunW.istore (l' := #[.val (.int p1), .val (.int p2), .val (.int p3), .val (.int p4), .val (.int p5), .val (.ref b11), .val (.int mx), .val (.int (Int32.ofNat ln)), .val (.ref b16), .val (.ref t19), .val (.int (Int32.ofNat (own_lead ([c0, c1, c2, c3].take ln)))), .val (.int (Int32.ofNat (own_held ln (own_lead ([c0, c1, c2, c3].take ln)) mx))), .val (.int (Int32.ofNat ((own_lead ([c0, c1, c2, c3].take ln)) + (own_held ln (own_lead ([c0, c1, c2, c3].take ln)) mx)))), .val (.int (Int32.ofNat ((own_lead ([c0, c1, c2, c3].take ln)) + (own_te (own_ds [c0, c1, c2, c3] ln mx))))), .val (.int (Int32.ofNat (own_te (own_ds [c0, c1, c2, c3] ln mx)))), .val (.int (1 : Int32))]) at_370 rfl (pc' := 372) rfl ?_
                            exact J372
                    refine RunW.iconst (0 : Int32) at_306 (by decide) (pc' := 307) rfl ?_
                    refine RunW.iload at_307 rfl (pc' := 309) rfl ?_
                    refine RunW.icmp_ge at_309 (by decide) (pc' := 338) (by decide) (pa := 312) rfl (fun hc309 => ?_) (fun hc309 => ?_)
                    · -- pc 309 taken: ¬ (0 : Int32) < (Int32.ofNat (own_te (own_ds [c0, c1, c2, c3] ln mx)))
                      exact J338
                    · -- pc 309 not taken: (0 : Int32) < (Int32.ofNat (own_te (own_ds [c0, c1, c2, c3] ln mx)))
                      refine RunW.iload at_312 rfl (pc' := 314) rfl ?_
                      refine RunW.if_eq at_314 (by decide) (pc' := 335) (by decide) (pa := 317) rfl (fun hc314 => ?_) (fun hc314 => ?_)
                      · -- pc 314 taken: (1 : Int32) = (0 : Int32)
                        exact absurd hc314 (by decide)
                      · -- pc 314 not taken: ¬ (1 : Int32) = (0 : Int32)
                        refine RunW.aload at_317 rfl rfl (pc' := 319) rfl ?_
                        refine RunW.iconst (0 : Int32) at_319 (by decide) (pc' := 320) rfl ?_
                        refine RunW.callV (k' := 8) (n' := 270) (a := t19) (as := [(.int (0 : Int32))]) (rest := []) (con_cha l Z a0 hw n0 h19 sz19 t19 b19 ((own_ds [c0, c1, c2, c3] ln mx).take (own_te (own_ds [c0, c1, c2, c3] ln mx))) 0 cz fm od19 SF hfm SD SH8 SL8 SZ hcz X19 FV19 FC19 P19 (by rw [← own_tlen]; exact (own_lt (i := 0) (by omega) (by omega)).mp hc309) (by rw [List.length_take]; omega) (own_tch (own_dsc (own_chr4 q_c0.2 q_c1.2 q_c2.2 q_c3.2)))) (by rintro _ _ ⟨_, -, -, rfl⟩; exact ⟨[], Keep.refl _ _, all0⟩) X19 at_320 (hw _ (List.mem_of_getElem? (i := 131) rfl)) (hw _ (List.mem_of_getElem? (i := 132) rfl)) (fun s hZ => notFace_of_selects (args := #[]) (mvT hZ (hw _ (List.mem_of_getElem? (i := 134) rfl)))) (hw _ (List.mem_of_getElem? (i := 134) rfl)) (hw _ (List.mem_of_getElem? (i := 133) rfl)) (hw _ (List.mem_of_getElem? (i := 56) rfl)) (hw _ (List.mem_of_getElem? (i := 135) rfl)) (by decide) pd__I_C rfl rfl rfl (by decide) (by show (0 : Nat) + (2 + 11) + 53 ≤ _; decide) (by decide) (by decide) (by decide) (by decide) (pc' := 323) rfl ?_
                        rintro _ _ ⟨_, rfl, rfl, rfl⟩ -
                        show RunW l Z own_EL n0 x.cls code maxLocals ret x.name room_1 _ 323 #[.val (.int p1), .val (.int p2), .val (.int p3), .val (.int p4), .val (.int p5), .val (.ref b11), .val (.int mx), .val (.int (Int32.ofNat ln)), .val (.ref b16), .val (.ref t19), .val (.int (Int32.ofNat (own_lead ([c0, c1, c2, c3].take ln)))), .val (.int (Int32.ofNat (own_held ln (own_lead ([c0, c1, c2, c3].take ln)) mx))), .val (.int (Int32.ofNat ((own_lead ([c0, c1, c2, c3].take ln)) + (own_held ln (own_lead ([c0, c1, c2, c3].take ln)) mx)))), .val (.int (Int32.ofNat ((own_lead ([c0, c1, c2, c3].take ln)) + (own_te (own_ds [c0, c1, c2, c3] ln mx))))), .val (.int (Int32.ofNat (own_te (own_ds [c0, c1, c2, c3] ln mx)))), .val (.int (1 : Int32))] [(.int (((own_ds [c0, c1, c2, c3] ln mx).take (own_te (own_ds [c0, c1, c2, c3] ln mx))).getD 0 0))] h19 vm19 8 270
                        refine RunW.aload at_323 rfl rfl (pc' := 325) rfl ?_
                        refine RunW.iload at_325 rfl (pc' := 327) rfl ?_
                        refine RunW.caload (i := ((own_lead ([c0, c1, c2, c3].take ln)) + 0)) (v := (.int ([c0, c1, c2, c3].getD ((own_lead ([c0, c1, c2, c3].take ln)) + 0) 0))) at_327 A_b11_19 (own_ofn (by omega)) (own_gm (cs := [c0, c1, c2, c3]) (by have z := (own_lt (i := 0) (by omega) (by omega)).mp hc309; show _ < 4; omega)) (pc' := 328) rfl ?_
                        refine RunW.icmp_ne at_328 (by decide) (pc' := 335) (by decide) (pa := 331) rfl (fun hc328 => ?_) (fun hc328 => ?_)
                        · -- pc 328 taken: ¬ (((own_ds [c0, c1, c2, c3] ln mx).take (own_te (own_ds [c0, c1, c2, c3] ln mx))).getD 0 0) = ([c0, c1, c2, c3].getD ((own_lead ([c0, c1, c2, c3].take ln)) + 0) 0)
                          exact absurd (own_dsg hds ((own_lt (i := 0) (by omega) (by omega)).mp hc309)) hc328
                        · -- pc 328 not taken: (((own_ds [c0, c1, c2, c3] ln mx).take (own_te (own_ds [c0, c1, c2, c3] ln mx))).getD 0 0) = ([c0, c1, c2, c3].getD ((own_lead ([c0, c1, c2, c3].take ln)) + 0) 0)
                          refine RunW.iconst (1 : Int32) at_331 (by decide) (pc' := 332) rfl ?_
                          refine RunW.goto at_332 (by decide) (pc' := 336) (by decide) ?_
                          refine RunW.istore (l' := #[.val (.int p1), .val (.int p2), .val (.int p3), .val (.int p4), .val (.int p5), .val (.ref b11), .val (.int mx), .val (.int (Int32.ofNat ln)), .val (.ref b16), .val (.ref t19), .val (.int (Int32.ofNat (own_lead ([c0, c1, c2, c3].take ln)))), .val (.int (Int32.ofNat (own_held ln (own_lead ([c0, c1, c2, c3].take ln)) mx))), .val (.int (Int32.ofNat ((own_lead ([c0, c1, c2, c3].take ln)) + (own_held ln (own_lead ([c0, c1, c2, c3].take ln)) mx)))), .val (.int (Int32.ofNat ((own_lead ([c0, c1, c2, c3].take ln)) + (own_te (own_ds [c0, c1, c2, c3] ln mx))))), .val (.int (Int32.ofNat (own_te (own_ds [c0, c1, c2, c3] ln mx)))), .val (.int (1 : Int32))]) at_336 rfl (pc' := 338) rfl ?_
                          exact J338
                  · -- pc 298 not taken: ¬ (Int32.ofNat ((own_ds [c0, c1, c2, c3] ln mx).take (own_te (own_ds [c0, c1, c2, c3] ln mx))).length) = (Int32.ofNat (own_te (own_ds [c0, c1, c2, c3] ln mx)))
                    exact absurd (by rw [← own_tlen]) hc298
                refine RunW.iconst (3 : Int32) at_259 (by decide) (pc' := 260) rfl ?_
                refine RunW.iload at_260 rfl (pc' := 262) rfl ?_
                refine RunW.icmp_lt at_262 (by decide) (pc' := 284) (by decide) (pa := 265) rfl (fun hc262 => ?_) (fun hc262 => ?_)
                · -- pc 262 taken: (3 : Int32) < (Int32.ofNat (own_lead ([c0, c1, c2, c3].take ln)))
                  have z284 : (own_eN (own_lead ([c0, c1, c2, c3].take ln)) ((own_lead ([c0, c1, c2, c3].take ln)) + (own_held ln (own_lead ([c0, c1, c2, c3].take ln)) mx)) 3 (own_isB c3) (own_eN (own_lead ([c0, c1, c2, c3].take ln)) ((own_lead ([c0, c1, c2, c3].take ln)) + (own_held ln (own_lead ([c0, c1, c2, c3].take ln)) mx)) 2 (own_isB c2) (own_eN (own_lead ([c0, c1, c2, c3].take ln)) ((own_lead ([c0, c1, c2, c3].take ln)) + (own_held ln (own_lead ([c0, c1, c2, c3].take ln)) mx)) 1 (own_isB c1) (own_eN (own_lead ([c0, c1, c2, c3].take ln)) ((own_lead ([c0, c1, c2, c3].take ln)) + (own_held ln (own_lead ([c0, c1, c2, c3].take ln)) mx)) 0 (own_isB c0) (own_lead ([c0, c1, c2, c3].take ln)))))) = _ := if_pos ((own_lt (i := 3) (j := (own_lead ([c0, c1, c2, c3].take ln))) (by omega) (by omega)).mp hc262)
                  have j284 := J284; rw [z284] at j284; exact j284
                · -- pc 262 not taken: ¬ (3 : Int32) < (Int32.ofNat (own_lead ([c0, c1, c2, c3].take ln)))
                  refine RunW.iconst (3 : Int32) at_265 (by decide) (pc' := 266) rfl ?_
                  refine RunW.iload at_266 rfl (pc' := 268) rfl ?_
                  refine RunW.icmp_ge at_268 (by decide) (pc' := 284) (by decide) (pa := 271) rfl (fun hc268 => ?_) (fun hc268 => ?_)
                  · -- pc 268 taken: ¬ (3 : Int32) < (Int32.ofNat ((own_lead ([c0, c1, c2, c3].take ln)) + (own_held ln (own_lead ([c0, c1, c2, c3].take ln)) mx)))
                    have z284 : (own_eN (own_lead ([c0, c1, c2, c3].take ln)) ((own_lead ([c0, c1, c2, c3].take ln)) + (own_held ln (own_lead ([c0, c1, c2, c3].take ln)) mx)) 3 (own_isB c3) (own_eN (own_lead ([c0, c1, c2, c3].take ln)) ((own_lead ([c0, c1, c2, c3].take ln)) + (own_held ln (own_lead ([c0, c1, c2, c3].take ln)) mx)) 2 (own_isB c2) (own_eN (own_lead ([c0, c1, c2, c3].take ln)) ((own_lead ([c0, c1, c2, c3].take ln)) + (own_held ln (own_lead ([c0, c1, c2, c3].take ln)) mx)) 1 (own_isB c1) (own_eN (own_lead ([c0, c1, c2, c3].take ln)) ((own_lead ([c0, c1, c2, c3].take ln)) + (own_held ln (own_lead ([c0, c1, c2, c3].take ln)) mx)) 0 (own_isB c0) (own_lead ([c0, c1, c2, c3].take ln)))))) = _ := (if_neg (fun h => hc262 ((own_lt (i := 3) (j := (own_lead ([c0, c1, c2, c3].take ln))) (by omega) (by omega)).mpr h))).trans (if_neg (fun h => hc268 ((own_lt (i := 3) (j := (own_lead ([c0, c1, c2, c3].take ln)) + (own_held ln (own_lead ([c0, c1, c2, c3].take ln)) mx)) (by omega) (by omega)).mpr h)))
                    have j284 := J284; rw [z284] at j284; exact j284
                  · -- pc 268 not taken: (3 : Int32) < (Int32.ofNat ((own_lead ([c0, c1, c2, c3].take ln)) + (own_held ln (own_lead ([c0, c1, c2, c3].take ln)) mx)))
                    refine RunW.aload at_271 rfl rfl (pc' := 273) rfl ?_
                    refine RunW.iconst (3 : Int32) at_273 (by decide) (pc' := 274) rfl ?_
                    refine RunW.caload (i := 3) (v := (.int c3)) at_274 A_b11_19 (by decide) rfl (pc' := 275) rfl ?_
                    refine RunW.callS (k' := 8) (n' := 270) (as := [(.int c3)]) (rest := []) (con_own_sp l Z a0 hw n0 h19 sz19 c3 ) (by rintro _ _ ⟨_, -, -, rfl⟩; exact ⟨[], Keep.refl _ _, all0⟩) at_275 (hw _ (List.mem_of_getElem? (i := 128) rfl)) (hw _ (List.mem_of_getElem? (i := 129) rfl)) (hw _ (List.mem_of_getElem? (i := 3) rfl)) (hw _ (List.mem_of_getElem? (i := 130) rfl)) (by decide) pd__C_Z rfl rfl rfl (by decide) (by show (0 : Nat) + (1 + 11) + 0 ≤ _; decide) (by decide) (by decide) (by decide) (by decide) (pc' := 278) rfl ?_
                    rintro _ _ ⟨_, rfl, rfl, rfl⟩ -
                    show RunW l Z own_EL n0 x.cls code maxLocals ret x.name room_1 _ 278 #[.val (.int p1), .val (.int p2), .val (.int p3), .val (.int p4), .val (.int p5), .val (.ref b11), .val (.int mx), .val (.int (Int32.ofNat ln)), .val (.ref b16), .val (.ref t19), .val (.int (Int32.ofNat (own_lead ([c0, c1, c2, c3].take ln)))), .val (.int (Int32.ofNat (own_held ln (own_lead ([c0, c1, c2, c3].take ln)) mx))), .val (.int (Int32.ofNat ((own_lead ([c0, c1, c2, c3].take ln)) + (own_held ln (own_lead ([c0, c1, c2, c3].take ln)) mx)))), .val (.int (Int32.ofNat (own_eN (own_lead ([c0, c1, c2, c3].take ln)) ((own_lead ([c0, c1, c2, c3].take ln)) + (own_held ln (own_lead ([c0, c1, c2, c3].take ln)) mx)) 2 (own_isB c2) (own_eN (own_lead ([c0, c1, c2, c3].take ln)) ((own_lead ([c0, c1, c2, c3].take ln)) + (own_held ln (own_lead ([c0, c1, c2, c3].take ln)) mx)) 1 (own_isB c1) (own_eN (own_lead ([c0, c1, c2, c3].take ln)) ((own_lead ([c0, c1, c2, c3].take ln)) + (own_held ln (own_lead ([c0, c1, c2, c3].take ln)) mx)) 0 (own_isB c0) (own_lead ([c0, c1, c2, c3].take ln))))))), .unset, .unset] [(.int (own_isp c3))] h19 vm19 8 270
                    refine RunW.if_ne at_278 (by decide) (pc' := 284) (by decide) (pa := 281) rfl (fun hc278 => ?_) (fun hc278 => ?_)
                    · -- pc 278 taken: ¬ (own_isp c3) = (0 : Int32)
                      have z284 : (own_eN (own_lead ([c0, c1, c2, c3].take ln)) ((own_lead ([c0, c1, c2, c3].take ln)) + (own_held ln (own_lead ([c0, c1, c2, c3].take ln)) mx)) 3 (own_isB c3) (own_eN (own_lead ([c0, c1, c2, c3].take ln)) ((own_lead ([c0, c1, c2, c3].take ln)) + (own_held ln (own_lead ([c0, c1, c2, c3].take ln)) mx)) 2 (own_isB c2) (own_eN (own_lead ([c0, c1, c2, c3].take ln)) ((own_lead ([c0, c1, c2, c3].take ln)) + (own_held ln (own_lead ([c0, c1, c2, c3].take ln)) mx)) 1 (own_isB c1) (own_eN (own_lead ([c0, c1, c2, c3].take ln)) ((own_lead ([c0, c1, c2, c3].take ln)) + (own_held ln (own_lead ([c0, c1, c2, c3].take ln)) mx)) 0 (own_isB c0) (own_lead ([c0, c1, c2, c3].take ln)))))) = _ := (if_neg (fun h => hc262 ((own_lt (i := 3) (j := (own_lead ([c0, c1, c2, c3].take ln))) (by omega) (by omega)).mpr h))).trans ((if_pos ((own_lt (i := 3) (j := (own_lead ([c0, c1, c2, c3].take ln)) + (own_held ln (own_lead ([c0, c1, c2, c3].take ln)) mx)) (by omega) (by omega)).mp hc268)).trans (if_neg (own_isBn hc278)))
                      have j284 := J284; rw [z284] at j284; exact j284
                    · -- pc 278 not taken: (own_isp c3) = (0 : Int32)
                      refine RunW.iconst (4 : Int32) at_281 (by decide) (pc' := 282) rfl ?_
                      refine RunW.istore (l' := #[.val (.int p1), .val (.int p2), .val (.int p3), .val (.int p4), .val (.int p5), .val (.ref b11), .val (.int mx), .val (.int (Int32.ofNat ln)), .val (.ref b16), .val (.ref t19), .val (.int (Int32.ofNat (own_lead ([c0, c1, c2, c3].take ln)))), .val (.int (Int32.ofNat (own_held ln (own_lead ([c0, c1, c2, c3].take ln)) mx))), .val (.int (Int32.ofNat ((own_lead ([c0, c1, c2, c3].take ln)) + (own_held ln (own_lead ([c0, c1, c2, c3].take ln)) mx)))), .val (.int (4 : Int32)), .unset, .unset]) at_282 rfl (pc' := 284) rfl ?_
                      have z284 : (own_eN (own_lead ([c0, c1, c2, c3].take ln)) ((own_lead ([c0, c1, c2, c3].take ln)) + (own_held ln (own_lead ([c0, c1, c2, c3].take ln)) mx)) 3 (own_isB c3) (own_eN (own_lead ([c0, c1, c2, c3].take ln)) ((own_lead ([c0, c1, c2, c3].take ln)) + (own_held ln (own_lead ([c0, c1, c2, c3].take ln)) mx)) 2 (own_isB c2) (own_eN (own_lead ([c0, c1, c2, c3].take ln)) ((own_lead ([c0, c1, c2, c3].take ln)) + (own_held ln (own_lead ([c0, c1, c2, c3].take ln)) mx)) 1 (own_isB c1) (own_eN (own_lead ([c0, c1, c2, c3].take ln)) ((own_lead ([c0, c1, c2, c3].take ln)) + (own_held ln (own_lead ([c0, c1, c2, c3].take ln)) mx)) 0 (own_isB c0) (own_lead ([c0, c1, c2, c3].take ln)))))) = _ := (if_neg (fun h => hc262 ((own_lt (i := 3) (j := (own_lead ([c0, c1, c2, c3].take ln))) (by omega) (by omega)).mpr h))).trans ((if_pos ((own_lt (i := 3) (j := (own_lead ([c0, c1, c2, c3].take ln)) + (own_held ln (own_lead ([c0, c1, c2, c3].take ln)) mx)) (by omega) (by omega)).mp hc268)).trans (if_pos (own_isBp hc278)))
                      have j284 := J284; rw [z284] at j284; exact j284
              refine RunW.iconst (2 : Int32) at_234 (by decide) (pc' := 235) rfl ?_
              refine RunW.iload at_235 rfl (pc' := 237) rfl ?_
              refine RunW.icmp_lt at_237 (by decide) (pc' := 259) (by decide) (pa := 240) rfl (fun hc237 => ?_) (fun hc237 => ?_)
              · -- pc 237 taken: (2 : Int32) < (Int32.ofNat (own_lead ([c0, c1, c2, c3].take ln)))
                have z259 : (own_eN (own_lead ([c0, c1, c2, c3].take ln)) ((own_lead ([c0, c1, c2, c3].take ln)) + (own_held ln (own_lead ([c0, c1, c2, c3].take ln)) mx)) 2 (own_isB c2) (own_eN (own_lead ([c0, c1, c2, c3].take ln)) ((own_lead ([c0, c1, c2, c3].take ln)) + (own_held ln (own_lead ([c0, c1, c2, c3].take ln)) mx)) 1 (own_isB c1) (own_eN (own_lead ([c0, c1, c2, c3].take ln)) ((own_lead ([c0, c1, c2, c3].take ln)) + (own_held ln (own_lead ([c0, c1, c2, c3].take ln)) mx)) 0 (own_isB c0) (own_lead ([c0, c1, c2, c3].take ln))))) = _ := if_pos ((own_lt (i := 2) (j := (own_lead ([c0, c1, c2, c3].take ln))) (by omega) (by omega)).mp hc237)
                have j259 := J259; rw [z259] at j259; exact j259
              · -- pc 237 not taken: ¬ (2 : Int32) < (Int32.ofNat (own_lead ([c0, c1, c2, c3].take ln)))
                refine RunW.iconst (2 : Int32) at_240 (by decide) (pc' := 241) rfl ?_
                refine RunW.iload at_241 rfl (pc' := 243) rfl ?_
                refine RunW.icmp_ge at_243 (by decide) (pc' := 259) (by decide) (pa := 246) rfl (fun hc243 => ?_) (fun hc243 => ?_)
                · -- pc 243 taken: ¬ (2 : Int32) < (Int32.ofNat ((own_lead ([c0, c1, c2, c3].take ln)) + (own_held ln (own_lead ([c0, c1, c2, c3].take ln)) mx)))
                  have z259 : (own_eN (own_lead ([c0, c1, c2, c3].take ln)) ((own_lead ([c0, c1, c2, c3].take ln)) + (own_held ln (own_lead ([c0, c1, c2, c3].take ln)) mx)) 2 (own_isB c2) (own_eN (own_lead ([c0, c1, c2, c3].take ln)) ((own_lead ([c0, c1, c2, c3].take ln)) + (own_held ln (own_lead ([c0, c1, c2, c3].take ln)) mx)) 1 (own_isB c1) (own_eN (own_lead ([c0, c1, c2, c3].take ln)) ((own_lead ([c0, c1, c2, c3].take ln)) + (own_held ln (own_lead ([c0, c1, c2, c3].take ln)) mx)) 0 (own_isB c0) (own_lead ([c0, c1, c2, c3].take ln))))) = _ := (if_neg (fun h => hc237 ((own_lt (i := 2) (j := (own_lead ([c0, c1, c2, c3].take ln))) (by omega) (by omega)).mpr h))).trans (if_neg (fun h => hc243 ((own_lt (i := 2) (j := (own_lead ([c0, c1, c2, c3].take ln)) + (own_held ln (own_lead ([c0, c1, c2, c3].take ln)) mx)) (by omega) (by omega)).mpr h)))
                  have j259 := J259; rw [z259] at j259; exact j259
                · -- pc 243 not taken: (2 : Int32) < (Int32.ofNat ((own_lead ([c0, c1, c2, c3].take ln)) + (own_held ln (own_lead ([c0, c1, c2, c3].take ln)) mx)))
                  refine RunW.aload at_246 rfl rfl (pc' := 248) rfl ?_
                  refine RunW.iconst (2 : Int32) at_248 (by decide) (pc' := 249) rfl ?_
                  refine RunW.caload (i := 2) (v := (.int c2)) at_249 A_b11_19 (by decide) rfl (pc' := 250) rfl ?_
                  refine RunW.callS (k' := 8) (n' := 270) (as := [(.int c2)]) (rest := []) (con_own_sp l Z a0 hw n0 h19 sz19 c2 ) (by rintro _ _ ⟨_, -, -, rfl⟩; exact ⟨[], Keep.refl _ _, all0⟩) at_250 (hw _ (List.mem_of_getElem? (i := 128) rfl)) (hw _ (List.mem_of_getElem? (i := 129) rfl)) (hw _ (List.mem_of_getElem? (i := 3) rfl)) (hw _ (List.mem_of_getElem? (i := 130) rfl)) (by decide) pd__C_Z rfl rfl rfl (by decide) (by show (0 : Nat) + (1 + 11) + 0 ≤ _; decide) (by decide) (by decide) (by decide) (by decide) (pc' := 253) rfl ?_
                  rintro _ _ ⟨_, rfl, rfl, rfl⟩ -
                  show RunW l Z own_EL n0 x.cls code maxLocals ret x.name room_1 _ 253 #[.val (.int p1), .val (.int p2), .val (.int p3), .val (.int p4), .val (.int p5), .val (.ref b11), .val (.int mx), .val (.int (Int32.ofNat ln)), .val (.ref b16), .val (.ref t19), .val (.int (Int32.ofNat (own_lead ([c0, c1, c2, c3].take ln)))), .val (.int (Int32.ofNat (own_held ln (own_lead ([c0, c1, c2, c3].take ln)) mx))), .val (.int (Int32.ofNat ((own_lead ([c0, c1, c2, c3].take ln)) + (own_held ln (own_lead ([c0, c1, c2, c3].take ln)) mx)))), .val (.int (Int32.ofNat (own_eN (own_lead ([c0, c1, c2, c3].take ln)) ((own_lead ([c0, c1, c2, c3].take ln)) + (own_held ln (own_lead ([c0, c1, c2, c3].take ln)) mx)) 1 (own_isB c1) (own_eN (own_lead ([c0, c1, c2, c3].take ln)) ((own_lead ([c0, c1, c2, c3].take ln)) + (own_held ln (own_lead ([c0, c1, c2, c3].take ln)) mx)) 0 (own_isB c0) (own_lead ([c0, c1, c2, c3].take ln)))))), .unset, .unset] [(.int (own_isp c2))] h19 vm19 8 270
                  refine RunW.if_ne at_253 (by decide) (pc' := 259) (by decide) (pa := 256) rfl (fun hc253 => ?_) (fun hc253 => ?_)
                  · -- pc 253 taken: ¬ (own_isp c2) = (0 : Int32)
                    have z259 : (own_eN (own_lead ([c0, c1, c2, c3].take ln)) ((own_lead ([c0, c1, c2, c3].take ln)) + (own_held ln (own_lead ([c0, c1, c2, c3].take ln)) mx)) 2 (own_isB c2) (own_eN (own_lead ([c0, c1, c2, c3].take ln)) ((own_lead ([c0, c1, c2, c3].take ln)) + (own_held ln (own_lead ([c0, c1, c2, c3].take ln)) mx)) 1 (own_isB c1) (own_eN (own_lead ([c0, c1, c2, c3].take ln)) ((own_lead ([c0, c1, c2, c3].take ln)) + (own_held ln (own_lead ([c0, c1, c2, c3].take ln)) mx)) 0 (own_isB c0) (own_lead ([c0, c1, c2, c3].take ln))))) = _ := (if_neg (fun h => hc237 ((own_lt (i := 2) (j := (own_lead ([c0, c1, c2, c3].take ln))) (by omega) (by omega)).mpr h))).trans ((if_pos ((own_lt (i := 2) (j := (own_lead ([c0, c1, c2, c3].take ln)) + (own_held ln (own_lead ([c0, c1, c2, c3].take ln)) mx)) (by omega) (by omega)).mp hc243)).trans (if_neg (own_isBn hc253)))
                    have j259 := J259; rw [z259] at j259; exact j259
                  · -- pc 253 not taken: (own_isp c2) = (0 : Int32)
                    refine RunW.iconst (3 : Int32) at_256 (by decide) (pc' := 257) rfl ?_
                    refine RunW.istore (l' := #[.val (.int p1), .val (.int p2), .val (.int p3), .val (.int p4), .val (.int p5), .val (.ref b11), .val (.int mx), .val (.int (Int32.ofNat ln)), .val (.ref b16), .val (.ref t19), .val (.int (Int32.ofNat (own_lead ([c0, c1, c2, c3].take ln)))), .val (.int (Int32.ofNat (own_held ln (own_lead ([c0, c1, c2, c3].take ln)) mx))), .val (.int (Int32.ofNat ((own_lead ([c0, c1, c2, c3].take ln)) + (own_held ln (own_lead ([c0, c1, c2, c3].take ln)) mx)))), .val (.int (3 : Int32)), .unset, .unset]) at_257 rfl (pc' := 259) rfl ?_
                    have z259 : (own_eN (own_lead ([c0, c1, c2, c3].take ln)) ((own_lead ([c0, c1, c2, c3].take ln)) + (own_held ln (own_lead ([c0, c1, c2, c3].take ln)) mx)) 2 (own_isB c2) (own_eN (own_lead ([c0, c1, c2, c3].take ln)) ((own_lead ([c0, c1, c2, c3].take ln)) + (own_held ln (own_lead ([c0, c1, c2, c3].take ln)) mx)) 1 (own_isB c1) (own_eN (own_lead ([c0, c1, c2, c3].take ln)) ((own_lead ([c0, c1, c2, c3].take ln)) + (own_held ln (own_lead ([c0, c1, c2, c3].take ln)) mx)) 0 (own_isB c0) (own_lead ([c0, c1, c2, c3].take ln))))) = _ := (if_neg (fun h => hc237 ((own_lt (i := 2) (j := (own_lead ([c0, c1, c2, c3].take ln))) (by omega) (by omega)).mpr h))).trans ((if_pos ((own_lt (i := 2) (j := (own_lead ([c0, c1, c2, c3].take ln)) + (own_held ln (own_lead ([c0, c1, c2, c3].take ln)) mx)) (by omega) (by omega)).mp hc243)).trans (if_pos (own_isBp hc253)))
                    have j259 := J259; rw [z259] at j259; exact j259
            refine RunW.iconst (1 : Int32) at_209 (by decide) (pc' := 210) rfl ?_
            refine RunW.iload at_210 rfl (pc' := 212) rfl ?_
            refine RunW.icmp_lt at_212 (by decide) (pc' := 234) (by decide) (pa := 215) rfl (fun hc212 => ?_) (fun hc212 => ?_)
            · -- pc 212 taken: (1 : Int32) < (Int32.ofNat (own_lead ([c0, c1, c2, c3].take ln)))
              have z234 : (own_eN (own_lead ([c0, c1, c2, c3].take ln)) ((own_lead ([c0, c1, c2, c3].take ln)) + (own_held ln (own_lead ([c0, c1, c2, c3].take ln)) mx)) 1 (own_isB c1) (own_eN (own_lead ([c0, c1, c2, c3].take ln)) ((own_lead ([c0, c1, c2, c3].take ln)) + (own_held ln (own_lead ([c0, c1, c2, c3].take ln)) mx)) 0 (own_isB c0) (own_lead ([c0, c1, c2, c3].take ln)))) = _ := if_pos ((own_lt (i := 1) (j := (own_lead ([c0, c1, c2, c3].take ln))) (by omega) (by omega)).mp hc212)
              have j234 := J234; rw [z234] at j234; exact j234
            · -- pc 212 not taken: ¬ (1 : Int32) < (Int32.ofNat (own_lead ([c0, c1, c2, c3].take ln)))
              refine RunW.iconst (1 : Int32) at_215 (by decide) (pc' := 216) rfl ?_
              refine RunW.iload at_216 rfl (pc' := 218) rfl ?_
              refine RunW.icmp_ge at_218 (by decide) (pc' := 234) (by decide) (pa := 221) rfl (fun hc218 => ?_) (fun hc218 => ?_)
              · -- pc 218 taken: ¬ (1 : Int32) < (Int32.ofNat ((own_lead ([c0, c1, c2, c3].take ln)) + (own_held ln (own_lead ([c0, c1, c2, c3].take ln)) mx)))
                have z234 : (own_eN (own_lead ([c0, c1, c2, c3].take ln)) ((own_lead ([c0, c1, c2, c3].take ln)) + (own_held ln (own_lead ([c0, c1, c2, c3].take ln)) mx)) 1 (own_isB c1) (own_eN (own_lead ([c0, c1, c2, c3].take ln)) ((own_lead ([c0, c1, c2, c3].take ln)) + (own_held ln (own_lead ([c0, c1, c2, c3].take ln)) mx)) 0 (own_isB c0) (own_lead ([c0, c1, c2, c3].take ln)))) = _ := (if_neg (fun h => hc212 ((own_lt (i := 1) (j := (own_lead ([c0, c1, c2, c3].take ln))) (by omega) (by omega)).mpr h))).trans (if_neg (fun h => hc218 ((own_lt (i := 1) (j := (own_lead ([c0, c1, c2, c3].take ln)) + (own_held ln (own_lead ([c0, c1, c2, c3].take ln)) mx)) (by omega) (by omega)).mpr h)))
                have j234 := J234; rw [z234] at j234; exact j234
              · -- pc 218 not taken: (1 : Int32) < (Int32.ofNat ((own_lead ([c0, c1, c2, c3].take ln)) + (own_held ln (own_lead ([c0, c1, c2, c3].take ln)) mx)))
                refine RunW.aload at_221 rfl rfl (pc' := 223) rfl ?_
                refine RunW.iconst (1 : Int32) at_223 (by decide) (pc' := 224) rfl ?_
                refine RunW.caload (i := 1) (v := (.int c1)) at_224 A_b11_19 (by decide) rfl (pc' := 225) rfl ?_
                refine RunW.callS (k' := 8) (n' := 270) (as := [(.int c1)]) (rest := []) (con_own_sp l Z a0 hw n0 h19 sz19 c1 ) (by rintro _ _ ⟨_, -, -, rfl⟩; exact ⟨[], Keep.refl _ _, all0⟩) at_225 (hw _ (List.mem_of_getElem? (i := 128) rfl)) (hw _ (List.mem_of_getElem? (i := 129) rfl)) (hw _ (List.mem_of_getElem? (i := 3) rfl)) (hw _ (List.mem_of_getElem? (i := 130) rfl)) (by decide) pd__C_Z rfl rfl rfl (by decide) (by show (0 : Nat) + (1 + 11) + 0 ≤ _; decide) (by decide) (by decide) (by decide) (by decide) (pc' := 228) rfl ?_
                rintro _ _ ⟨_, rfl, rfl, rfl⟩ -
                show RunW l Z own_EL n0 x.cls code maxLocals ret x.name room_1 _ 228 #[.val (.int p1), .val (.int p2), .val (.int p3), .val (.int p4), .val (.int p5), .val (.ref b11), .val (.int mx), .val (.int (Int32.ofNat ln)), .val (.ref b16), .val (.ref t19), .val (.int (Int32.ofNat (own_lead ([c0, c1, c2, c3].take ln)))), .val (.int (Int32.ofNat (own_held ln (own_lead ([c0, c1, c2, c3].take ln)) mx))), .val (.int (Int32.ofNat ((own_lead ([c0, c1, c2, c3].take ln)) + (own_held ln (own_lead ([c0, c1, c2, c3].take ln)) mx)))), .val (.int (Int32.ofNat (own_eN (own_lead ([c0, c1, c2, c3].take ln)) ((own_lead ([c0, c1, c2, c3].take ln)) + (own_held ln (own_lead ([c0, c1, c2, c3].take ln)) mx)) 0 (own_isB c0) (own_lead ([c0, c1, c2, c3].take ln))))), .unset, .unset] [(.int (own_isp c1))] h19 vm19 8 270
                refine RunW.if_ne at_228 (by decide) (pc' := 234) (by decide) (pa := 231) rfl (fun hc228 => ?_) (fun hc228 => ?_)
                · -- pc 228 taken: ¬ (own_isp c1) = (0 : Int32)
                  have z234 : (own_eN (own_lead ([c0, c1, c2, c3].take ln)) ((own_lead ([c0, c1, c2, c3].take ln)) + (own_held ln (own_lead ([c0, c1, c2, c3].take ln)) mx)) 1 (own_isB c1) (own_eN (own_lead ([c0, c1, c2, c3].take ln)) ((own_lead ([c0, c1, c2, c3].take ln)) + (own_held ln (own_lead ([c0, c1, c2, c3].take ln)) mx)) 0 (own_isB c0) (own_lead ([c0, c1, c2, c3].take ln)))) = _ := (if_neg (fun h => hc212 ((own_lt (i := 1) (j := (own_lead ([c0, c1, c2, c3].take ln))) (by omega) (by omega)).mpr h))).trans ((if_pos ((own_lt (i := 1) (j := (own_lead ([c0, c1, c2, c3].take ln)) + (own_held ln (own_lead ([c0, c1, c2, c3].take ln)) mx)) (by omega) (by omega)).mp hc218)).trans (if_neg (own_isBn hc228)))
                  have j234 := J234; rw [z234] at j234; exact j234
                · -- pc 228 not taken: (own_isp c1) = (0 : Int32)
                  refine RunW.iconst (2 : Int32) at_231 (by decide) (pc' := 232) rfl ?_
                  refine RunW.istore (l' := #[.val (.int p1), .val (.int p2), .val (.int p3), .val (.int p4), .val (.int p5), .val (.ref b11), .val (.int mx), .val (.int (Int32.ofNat ln)), .val (.ref b16), .val (.ref t19), .val (.int (Int32.ofNat (own_lead ([c0, c1, c2, c3].take ln)))), .val (.int (Int32.ofNat (own_held ln (own_lead ([c0, c1, c2, c3].take ln)) mx))), .val (.int (Int32.ofNat ((own_lead ([c0, c1, c2, c3].take ln)) + (own_held ln (own_lead ([c0, c1, c2, c3].take ln)) mx)))), .val (.int (2 : Int32)), .unset, .unset]) at_232 rfl (pc' := 234) rfl ?_
                  have z234 : (own_eN (own_lead ([c0, c1, c2, c3].take ln)) ((own_lead ([c0, c1, c2, c3].take ln)) + (own_held ln (own_lead ([c0, c1, c2, c3].take ln)) mx)) 1 (own_isB c1) (own_eN (own_lead ([c0, c1, c2, c3].take ln)) ((own_lead ([c0, c1, c2, c3].take ln)) + (own_held ln (own_lead ([c0, c1, c2, c3].take ln)) mx)) 0 (own_isB c0) (own_lead ([c0, c1, c2, c3].take ln)))) = _ := (if_neg (fun h => hc212 ((own_lt (i := 1) (j := (own_lead ([c0, c1, c2, c3].take ln))) (by omega) (by omega)).mpr h))).trans ((if_pos ((own_lt (i := 1) (j := (own_lead ([c0, c1, c2, c3].take ln)) + (own_held ln (own_lead ([c0, c1, c2, c3].take ln)) mx)) (by omega) (by omega)).mp hc218)).trans (if_pos (own_isBp hc228)))
                  have j234 := J234; rw [z234] at j234; exact j234
          refine RunW.iconst (0 : Int32) at_184 (by decide) (pc' := 185) rfl ?_
          refine RunW.iload at_185 rfl (pc' := 187) rfl ?_
          refine RunW.icmp_lt at_187 (by decide) (pc' := 209) (by decide) (pa := 190) rfl (fun hc187 => ?_) (fun hc187 => ?_)
          · -- pc 187 taken: (0 : Int32) < (Int32.ofNat (own_lead ([c0, c1, c2, c3].take ln)))
            have z209 : (own_eN (own_lead ([c0, c1, c2, c3].take ln)) ((own_lead ([c0, c1, c2, c3].take ln)) + (own_held ln (own_lead ([c0, c1, c2, c3].take ln)) mx)) 0 (own_isB c0) (own_lead ([c0, c1, c2, c3].take ln))) = _ := if_pos ((own_lt (i := 0) (j := (own_lead ([c0, c1, c2, c3].take ln))) (by omega) (by omega)).mp hc187)
            have j209 := J209; rw [z209] at j209; exact j209
          · -- pc 187 not taken: ¬ (0 : Int32) < (Int32.ofNat (own_lead ([c0, c1, c2, c3].take ln)))
            refine RunW.iconst (0 : Int32) at_190 (by decide) (pc' := 191) rfl ?_
            refine RunW.iload at_191 rfl (pc' := 193) rfl ?_
            refine RunW.icmp_ge at_193 (by decide) (pc' := 209) (by decide) (pa := 196) rfl (fun hc193 => ?_) (fun hc193 => ?_)
            · -- pc 193 taken: ¬ (0 : Int32) < (Int32.ofNat ((own_lead ([c0, c1, c2, c3].take ln)) + (own_held ln (own_lead ([c0, c1, c2, c3].take ln)) mx)))
              have z209 : (own_eN (own_lead ([c0, c1, c2, c3].take ln)) ((own_lead ([c0, c1, c2, c3].take ln)) + (own_held ln (own_lead ([c0, c1, c2, c3].take ln)) mx)) 0 (own_isB c0) (own_lead ([c0, c1, c2, c3].take ln))) = _ := (if_neg (fun h => hc187 ((own_lt (i := 0) (j := (own_lead ([c0, c1, c2, c3].take ln))) (by omega) (by omega)).mpr h))).trans (if_neg (fun h => hc193 ((own_lt (i := 0) (j := (own_lead ([c0, c1, c2, c3].take ln)) + (own_held ln (own_lead ([c0, c1, c2, c3].take ln)) mx)) (by omega) (by omega)).mpr h)))
              have j209 := J209; rw [z209] at j209; exact j209
            · -- pc 193 not taken: (0 : Int32) < (Int32.ofNat ((own_lead ([c0, c1, c2, c3].take ln)) + (own_held ln (own_lead ([c0, c1, c2, c3].take ln)) mx)))
              refine RunW.aload at_196 rfl rfl (pc' := 198) rfl ?_
              refine RunW.iconst (0 : Int32) at_198 (by decide) (pc' := 199) rfl ?_
              refine RunW.caload (i := 0) (v := (.int c0)) at_199 A_b11_19 (by decide) rfl (pc' := 200) rfl ?_
              refine RunW.callS (k' := 8) (n' := 270) (as := [(.int c0)]) (rest := []) (con_own_sp l Z a0 hw n0 h19 sz19 c0 ) (by rintro _ _ ⟨_, -, -, rfl⟩; exact ⟨[], Keep.refl _ _, all0⟩) at_200 (hw _ (List.mem_of_getElem? (i := 128) rfl)) (hw _ (List.mem_of_getElem? (i := 129) rfl)) (hw _ (List.mem_of_getElem? (i := 3) rfl)) (hw _ (List.mem_of_getElem? (i := 130) rfl)) (by decide) pd__C_Z rfl rfl rfl (by decide) (by show (0 : Nat) + (1 + 11) + 0 ≤ _; decide) (by decide) (by decide) (by decide) (by decide) (pc' := 203) rfl ?_
              rintro _ _ ⟨_, rfl, rfl, rfl⟩ -
              show RunW l Z own_EL n0 x.cls code maxLocals ret x.name room_1 _ 203 #[.val (.int p1), .val (.int p2), .val (.int p3), .val (.int p4), .val (.int p5), .val (.ref b11), .val (.int mx), .val (.int (Int32.ofNat ln)), .val (.ref b16), .val (.ref t19), .val (.int (Int32.ofNat (own_lead ([c0, c1, c2, c3].take ln)))), .val (.int (Int32.ofNat (own_held ln (own_lead ([c0, c1, c2, c3].take ln)) mx))), .val (.int (Int32.ofNat ((own_lead ([c0, c1, c2, c3].take ln)) + (own_held ln (own_lead ([c0, c1, c2, c3].take ln)) mx)))), .val (.int (Int32.ofNat (own_lead ([c0, c1, c2, c3].take ln)))), .unset, .unset] [(.int (own_isp c0))] h19 vm19 8 270
              refine RunW.if_ne at_203 (by decide) (pc' := 209) (by decide) (pa := 206) rfl (fun hc203 => ?_) (fun hc203 => ?_)
              · -- pc 203 taken: ¬ (own_isp c0) = (0 : Int32)
                have z209 : (own_eN (own_lead ([c0, c1, c2, c3].take ln)) ((own_lead ([c0, c1, c2, c3].take ln)) + (own_held ln (own_lead ([c0, c1, c2, c3].take ln)) mx)) 0 (own_isB c0) (own_lead ([c0, c1, c2, c3].take ln))) = _ := (if_neg (fun h => hc187 ((own_lt (i := 0) (j := (own_lead ([c0, c1, c2, c3].take ln))) (by omega) (by omega)).mpr h))).trans ((if_pos ((own_lt (i := 0) (j := (own_lead ([c0, c1, c2, c3].take ln)) + (own_held ln (own_lead ([c0, c1, c2, c3].take ln)) mx)) (by omega) (by omega)).mp hc193)).trans (if_neg (own_isBn hc203)))
                have j209 := J209; rw [z209] at j209; exact j209
              · -- pc 203 not taken: (own_isp c0) = (0 : Int32)
                refine RunW.iconst (1 : Int32) at_206 (by decide) (pc' := 207) rfl ?_
                refine RunW.istore (l' := #[.val (.int p1), .val (.int p2), .val (.int p3), .val (.int p4), .val (.int p5), .val (.ref b11), .val (.int mx), .val (.int (Int32.ofNat ln)), .val (.ref b16), .val (.ref t19), .val (.int (Int32.ofNat (own_lead ([c0, c1, c2, c3].take ln)))), .val (.int (Int32.ofNat (own_held ln (own_lead ([c0, c1, c2, c3].take ln)) mx))), .val (.int (Int32.ofNat ((own_lead ([c0, c1, c2, c3].take ln)) + (own_held ln (own_lead ([c0, c1, c2, c3].take ln)) mx)))), .val (.int (1 : Int32)), .unset, .unset]) at_207 rfl (pc' := 209) rfl ?_
                have z209 : (own_eN (own_lead ([c0, c1, c2, c3].take ln)) ((own_lead ([c0, c1, c2, c3].take ln)) + (own_held ln (own_lead ([c0, c1, c2, c3].take ln)) mx)) 0 (own_isB c0) (own_lead ([c0, c1, c2, c3].take ln))) = _ := (if_neg (fun h => hc187 ((own_lt (i := 0) (j := (own_lead ([c0, c1, c2, c3].take ln))) (by omega) (by omega)).mpr h))).trans ((if_pos ((own_lt (i := 0) (j := (own_lead ([c0, c1, c2, c3].take ln)) + (own_held ln (own_lead ([c0, c1, c2, c3].take ln)) mx)) (by omega) (by omega)).mp hc193)).trans (if_pos (own_isBp hc203)))
                have j209 := J209; rw [z209] at j209; exact j209
        refine RunW.iload at_143 rfl (pc' := 145) rfl ?_
        refine RunW.if_le at_145 (by decide) (pc' := 161) (by decide) (pa := 148) rfl (fun hc145 => ?_) (fun hc145 => ?_)
        · -- pc 145 taken: ¬ (0 : Int32) < (Int32.ofNat ln)
          have z161 : (own_fN ln 0 (own_isB c0) (own_fN ln 1 (own_isB c1) (own_fN ln 2 (own_isB c2) (own_fN ln 3 (own_isB c3) ln)))) = _ := if_neg (fun h => hc145 ((own_lt (i := 0) (by omega) (by omega)).mpr h))
          have j161 := J161; rw [z161] at j161; exact j161
        · -- pc 145 not taken: (0 : Int32) < (Int32.ofNat ln)
          refine RunW.aload at_148 rfl rfl (pc' := 150) rfl ?_
          refine RunW.iconst (0 : Int32) at_150 (by decide) (pc' := 151) rfl ?_
          refine RunW.caload (i := 0) (v := (.int c0)) at_151 A_b11_19 (by decide) rfl (pc' := 152) rfl ?_
          refine RunW.callS (k' := 8) (n' := 270) (as := [(.int c0)]) (rest := []) (con_own_sp l Z a0 hw n0 h19 sz19 c0 ) (by rintro _ _ ⟨_, -, -, rfl⟩; exact ⟨[], Keep.refl _ _, all0⟩) at_152 (hw _ (List.mem_of_getElem? (i := 128) rfl)) (hw _ (List.mem_of_getElem? (i := 129) rfl)) (hw _ (List.mem_of_getElem? (i := 3) rfl)) (hw _ (List.mem_of_getElem? (i := 130) rfl)) (by decide) pd__C_Z rfl rfl rfl (by decide) (by show (0 : Nat) + (1 + 11) + 0 ≤ _; decide) (by decide) (by decide) (by decide) (by decide) (pc' := 155) rfl ?_
          rintro _ _ ⟨_, rfl, rfl, rfl⟩ -
          show RunW l Z own_EL n0 x.cls code maxLocals ret x.name room_1 _ 155 #[.val (.int p1), .val (.int p2), .val (.int p3), .val (.int p4), .val (.int p5), .val (.ref b11), .val (.int mx), .val (.int (Int32.ofNat ln)), .val (.ref b16), .val (.ref t19), .val (.int (Int32.ofNat (own_fN ln 1 (own_isB c1) (own_fN ln 2 (own_isB c2) (own_fN ln 3 (own_isB c3) ln))))), .unset, .unset, .unset, .unset, .unset] [(.int (own_isp c0))] h19 vm19 8 270
          refine RunW.if_ne at_155 (by decide) (pc' := 161) (by decide) (pa := 158) rfl (fun hc155 => ?_) (fun hc155 => ?_)
          · -- pc 155 taken: ¬ (own_isp c0) = (0 : Int32)
            have z161 : (own_fN ln 0 (own_isB c0) (own_fN ln 1 (own_isB c1) (own_fN ln 2 (own_isB c2) (own_fN ln 3 (own_isB c3) ln)))) = _ := (if_pos ((own_lt (i := 0) (by omega) (by omega)).mp hc145)).trans (if_neg (own_isBn hc155))
            have j161 := J161; rw [z161] at j161; exact j161
          · -- pc 155 not taken: (own_isp c0) = (0 : Int32)
            refine RunW.iconst (0 : Int32) at_158 (by decide) (pc' := 159) rfl ?_
            refine RunW.istore (l' := #[.val (.int p1), .val (.int p2), .val (.int p3), .val (.int p4), .val (.int p5), .val (.ref b11), .val (.int mx), .val (.int (Int32.ofNat ln)), .val (.ref b16), .val (.ref t19), .val (.int (0 : Int32)), .unset, .unset, .unset, .unset, .unset]) at_159 rfl (pc' := 161) rfl ?_
            have z161 : (own_fN ln 0 (own_isB c0) (own_fN ln 1 (own_isB c1) (own_fN ln 2 (own_isB c2) (own_fN ln 3 (own_isB c3) ln)))) = _ := (if_pos ((own_lt (i := 0) (by omega) (by omega)).mp hc145)).trans (if_pos (own_isBp hc155))
            have j161 := J161; rw [z161] at j161; exact j161
      refine RunW.iload at_124 rfl (pc' := 126) rfl ?_
      refine RunW.iconst (1 : Int32) at_126 (by decide) (pc' := 127) rfl ?_
      refine RunW.icmp_le at_127 (by decide) (pc' := 143) (by decide) (pa := 130) rfl (fun hc127 => ?_) (fun hc127 => ?_)
      · -- pc 127 taken: ¬ (1 : Int32) < (Int32.ofNat ln)
        have z143 : (own_fN ln 1 (own_isB c1) (own_fN ln 2 (own_isB c2) (own_fN ln 3 (own_isB c3) ln))) = _ := if_neg (fun h => hc127 ((own_lt (i := 1) (by omega) (by omega)).mpr h))
        have j143 := J143; rw [z143] at j143; exact j143
      · -- pc 127 not taken: (1 : Int32) < (Int32.ofNat ln)
        refine RunW.aload at_130 rfl rfl (pc' := 132) rfl ?_
        refine RunW.iconst (1 : Int32) at_132 (by decide) (pc' := 133) rfl ?_
        refine RunW.caload (i := 1) (v := (.int c1)) at_133 A_b11_19 (by decide) rfl (pc' := 134) rfl ?_
        refine RunW.callS (k' := 8) (n' := 270) (as := [(.int c1)]) (rest := []) (con_own_sp l Z a0 hw n0 h19 sz19 c1 ) (by rintro _ _ ⟨_, -, -, rfl⟩; exact ⟨[], Keep.refl _ _, all0⟩) at_134 (hw _ (List.mem_of_getElem? (i := 128) rfl)) (hw _ (List.mem_of_getElem? (i := 129) rfl)) (hw _ (List.mem_of_getElem? (i := 3) rfl)) (hw _ (List.mem_of_getElem? (i := 130) rfl)) (by decide) pd__C_Z rfl rfl rfl (by decide) (by show (0 : Nat) + (1 + 11) + 0 ≤ _; decide) (by decide) (by decide) (by decide) (by decide) (pc' := 137) rfl ?_
        rintro _ _ ⟨_, rfl, rfl, rfl⟩ -
        show RunW l Z own_EL n0 x.cls code maxLocals ret x.name room_1 _ 137 #[.val (.int p1), .val (.int p2), .val (.int p3), .val (.int p4), .val (.int p5), .val (.ref b11), .val (.int mx), .val (.int (Int32.ofNat ln)), .val (.ref b16), .val (.ref t19), .val (.int (Int32.ofNat (own_fN ln 2 (own_isB c2) (own_fN ln 3 (own_isB c3) ln)))), .unset, .unset, .unset, .unset, .unset] [(.int (own_isp c1))] h19 vm19 8 270
        refine RunW.if_ne at_137 (by decide) (pc' := 143) (by decide) (pa := 140) rfl (fun hc137 => ?_) (fun hc137 => ?_)
        · -- pc 137 taken: ¬ (own_isp c1) = (0 : Int32)
          have z143 : (own_fN ln 1 (own_isB c1) (own_fN ln 2 (own_isB c2) (own_fN ln 3 (own_isB c3) ln))) = _ := (if_pos ((own_lt (i := 1) (by omega) (by omega)).mp hc127)).trans (if_neg (own_isBn hc137))
          have j143 := J143; rw [z143] at j143; exact j143
        · -- pc 137 not taken: (own_isp c1) = (0 : Int32)
          refine RunW.iconst (1 : Int32) at_140 (by decide) (pc' := 141) rfl ?_
          refine RunW.istore (l' := #[.val (.int p1), .val (.int p2), .val (.int p3), .val (.int p4), .val (.int p5), .val (.ref b11), .val (.int mx), .val (.int (Int32.ofNat ln)), .val (.ref b16), .val (.ref t19), .val (.int (1 : Int32)), .unset, .unset, .unset, .unset, .unset]) at_141 rfl (pc' := 143) rfl ?_
          have z143 : (own_fN ln 1 (own_isB c1) (own_fN ln 2 (own_isB c2) (own_fN ln 3 (own_isB c3) ln))) = _ := (if_pos ((own_lt (i := 1) (by omega) (by omega)).mp hc127)).trans (if_pos (own_isBp hc137))
          have j143 := J143; rw [z143] at j143; exact j143
    refine RunW.iload at_105 rfl (pc' := 107) rfl ?_
    refine RunW.iconst (2 : Int32) at_107 (by decide) (pc' := 108) rfl ?_
    refine RunW.icmp_le at_108 (by decide) (pc' := 124) (by decide) (pa := 111) rfl (fun hc108 => ?_) (fun hc108 => ?_)
    · -- pc 108 taken: ¬ (2 : Int32) < (Int32.ofNat ln)
      have z124 : (own_fN ln 2 (own_isB c2) (own_fN ln 3 (own_isB c3) ln)) = _ := if_neg (fun h => hc108 ((own_lt (i := 2) (by omega) (by omega)).mpr h))
      have j124 := J124; rw [z124] at j124; exact j124
    · -- pc 108 not taken: (2 : Int32) < (Int32.ofNat ln)
      refine RunW.aload at_111 rfl rfl (pc' := 113) rfl ?_
      refine RunW.iconst (2 : Int32) at_113 (by decide) (pc' := 114) rfl ?_
      refine RunW.caload (i := 2) (v := (.int c2)) at_114 A_b11_19 (by decide) rfl (pc' := 115) rfl ?_
      refine RunW.callS (k' := 8) (n' := 270) (as := [(.int c2)]) (rest := []) (con_own_sp l Z a0 hw n0 h19 sz19 c2 ) (by rintro _ _ ⟨_, -, -, rfl⟩; exact ⟨[], Keep.refl _ _, all0⟩) at_115 (hw _ (List.mem_of_getElem? (i := 128) rfl)) (hw _ (List.mem_of_getElem? (i := 129) rfl)) (hw _ (List.mem_of_getElem? (i := 3) rfl)) (hw _ (List.mem_of_getElem? (i := 130) rfl)) (by decide) pd__C_Z rfl rfl rfl (by decide) (by show (0 : Nat) + (1 + 11) + 0 ≤ _; decide) (by decide) (by decide) (by decide) (by decide) (pc' := 118) rfl ?_
      rintro _ _ ⟨_, rfl, rfl, rfl⟩ -
      show RunW l Z own_EL n0 x.cls code maxLocals ret x.name room_1 _ 118 #[.val (.int p1), .val (.int p2), .val (.int p3), .val (.int p4), .val (.int p5), .val (.ref b11), .val (.int mx), .val (.int (Int32.ofNat ln)), .val (.ref b16), .val (.ref t19), .val (.int (Int32.ofNat (own_fN ln 3 (own_isB c3) ln))), .unset, .unset, .unset, .unset, .unset] [(.int (own_isp c2))] h19 vm19 8 270
      refine RunW.if_ne at_118 (by decide) (pc' := 124) (by decide) (pa := 121) rfl (fun hc118 => ?_) (fun hc118 => ?_)
      · -- pc 118 taken: ¬ (own_isp c2) = (0 : Int32)
        have z124 : (own_fN ln 2 (own_isB c2) (own_fN ln 3 (own_isB c3) ln)) = _ := (if_pos ((own_lt (i := 2) (by omega) (by omega)).mp hc108)).trans (if_neg (own_isBn hc118))
        have j124 := J124; rw [z124] at j124; exact j124
      · -- pc 118 not taken: (own_isp c2) = (0 : Int32)
        refine RunW.iconst (2 : Int32) at_121 (by decide) (pc' := 122) rfl ?_
        refine RunW.istore (l' := #[.val (.int p1), .val (.int p2), .val (.int p3), .val (.int p4), .val (.int p5), .val (.ref b11), .val (.int mx), .val (.int (Int32.ofNat ln)), .val (.ref b16), .val (.ref t19), .val (.int (2 : Int32)), .unset, .unset, .unset, .unset, .unset]) at_122 rfl (pc' := 124) rfl ?_
        have z124 : (own_fN ln 2 (own_isB c2) (own_fN ln 3 (own_isB c3) ln)) = _ := (if_pos ((own_lt (i := 2) (by omega) (by omega)).mp hc108)).trans (if_pos (own_isBp hc118))
        have j124 := J124; rw [z124] at j124; exact j124
  refine RunW.iload at_86 rfl (pc' := 88) rfl ?_
  refine RunW.iconst (3 : Int32) at_88 (by decide) (pc' := 89) rfl ?_
  refine RunW.icmp_le at_89 (by decide) (pc' := 105) (by decide) (pa := 92) rfl (fun hc89 => ?_) (fun hc89 => ?_)
  · -- pc 89 taken: ¬ (3 : Int32) < (Int32.ofNat ln)
    have z105 : (own_fN ln 3 (own_isB c3) ln) = _ := if_neg (fun h => hc89 ((own_lt (i := 3) (by omega) (by omega)).mpr h))
    have j105 := J105; rw [z105] at j105; exact j105
  · -- pc 89 not taken: (3 : Int32) < (Int32.ofNat ln)
    refine RunW.aload at_92 rfl rfl (pc' := 94) rfl ?_
    refine RunW.iconst (3 : Int32) at_94 (by decide) (pc' := 95) rfl ?_
    refine RunW.caload (i := 3) (v := (.int c3)) at_95 A_b11_19 (by decide) rfl (pc' := 96) rfl ?_
    refine RunW.callS (k' := 8) (n' := 270) (as := [(.int c3)]) (rest := []) (con_own_sp l Z a0 hw n0 h19 sz19 c3 ) (by rintro _ _ ⟨_, -, -, rfl⟩; exact ⟨[], Keep.refl _ _, all0⟩) at_96 (hw _ (List.mem_of_getElem? (i := 128) rfl)) (hw _ (List.mem_of_getElem? (i := 129) rfl)) (hw _ (List.mem_of_getElem? (i := 3) rfl)) (hw _ (List.mem_of_getElem? (i := 130) rfl)) (by decide) pd__C_Z rfl rfl rfl (by decide) (by show (0 : Nat) + (1 + 11) + 0 ≤ _; decide) (by decide) (by decide) (by decide) (by decide) (pc' := 99) rfl ?_
    rintro _ _ ⟨_, rfl, rfl, rfl⟩ -
    show RunW l Z own_EL n0 x.cls code maxLocals ret x.name room_1 _ 99 #[.val (.int p1), .val (.int p2), .val (.int p3), .val (.int p4), .val (.int p5), .val (.ref b11), .val (.int mx), .val (.int (Int32.ofNat ln)), .val (.ref b16), .val (.ref t19), .val (.int (Int32.ofNat ln)), .unset, .unset, .unset, .unset, .unset] [(.int (own_isp c3))] h19 vm19 8 270
    refine RunW.if_ne at_99 (by decide) (pc' := 105) (by decide) (pa := 102) rfl (fun hc99 => ?_) (fun hc99 => ?_)
    · -- pc 99 taken: ¬ (own_isp c3) = (0 : Int32)
      have z105 : (own_fN ln 3 (own_isB c3) ln) = _ := (if_pos ((own_lt (i := 3) (by omega) (by omega)).mp hc89)).trans (if_neg (own_isBn hc99))
      have j105 := J105; rw [z105] at j105; exact j105
    · -- pc 99 not taken: (own_isp c3) = (0 : Int32)
      refine RunW.iconst (3 : Int32) at_102 (by decide) (pc' := 103) rfl ?_
      refine RunW.istore (l' := #[.val (.int p1), .val (.int p2), .val (.int p3), .val (.int p4), .val (.int p5), .val (.ref b11), .val (.int mx), .val (.int (Int32.ofNat ln)), .val (.ref b16), .val (.ref t19), .val (.int (3 : Int32)), .unset, .unset, .unset, .unset, .unset]) at_103 rfl (pc' := 105) rfl ?_
      have z105 : (own_fN ln 3 (own_isB c3) ln) = _ := (if_pos ((own_lt (i := 3) (by omega) (by omega)).mp hc89)).trans (if_pos (own_isBp hc99))
      have j105 := J105; rw [z105] at j105; exact j105
set_option maxRecDepth 65536 in
set_option maxHeartbeats 40000000 in
theorem comes_1 {Post : Tables → Env → Array Value → State → Outcome → State → Prop} (hpost : ∀ tb e args s v u, (limb_1_1.after args s (.returned v) u = true ∧ limb_1_2.after args s (.returned v) u = true ∧ True) → Jvm.D.FramedW s (.returned v) u (Jvm.fieldLocs frame_1_writes args s ++ Jvm.arrayLocs frame_1_arrays args s ++ Jvm.staticLocs frame_1_statics s) 24 1280 → Post tb e args s (.returned v) u) :
    ArmFor flags0 classFile x code maxLocals ret World_1 tables_1 room_1 Calls_1 rest_1 Pre_1 Post := by
  intro l hfl _ _ p e ha hc hk s m args below hf hA hF happ hP
  obtain ⟨hcalls, hrest, hpre⟩ := hP
  obtain ⟨-, -, -, hnamed, -, -, -, hat⟩ := (Spec.applies_iff hf).mp happ
  obtain ⟨hg, hn⟩ := and_e (Cond.before_iff.mp (show (Jvm.Cond.and given_1 narrow_1).before args s = true from hpre))
  obtain ⟨hcnt, g0⟩ := and_e hg
  obtain ⟨ga0, g1⟩ := and_e g0
  obtain ⟨ga1, g2⟩ := and_e g1
  obtain ⟨ga2, g3⟩ := and_e g2
  obtain ⟨ga3, g4⟩ := and_e g3
  obtain ⟨w0, w1, w2, w3, w4, rfl⟩ : ∃ w0 w1 w2 w3 w4 : Value, args = #[w0, w1, w2, w3, w4] := by
    have hs : args.size = 5 := by simpa [Cond.value, given_1] using hcnt
    obtain ⟨L⟩ := args
    match L, hs with
    | [w0, w1, w2, w3, w4], _ => exact ⟨w0, w1, w2, w3, w4, rfl⟩
  have hw := fun d (hd : d ∈ tables_1) => atoms_spec (ws := Jvm.Cond.code x code maxLocals ret :: tables_1) hat d (List.mem_cons_of_mem _ hd)
  obtain ⟨hsets, hown0⟩ := atoms_of _ (rest_1_c_eq ▸ (show rest_1_c.before _ s = true from hrest))
  have hr0 := Cond.before_iff.mp hown0
  have hfit : Fit s := fun {y c} hc i hi => by
    obtain ⟨ha, rfl⟩ := Array.getElem?_eq_some_iff.mp hc
    have q := List.all_eq_true.mp ((Array.all_eq_true_iff_forall_mem.mp hF) _ (Array.getElem_mem ha)) i (List.mem_range.mpr hi)
    simpa [Array.getElem?_eq_getElem hi] using q
  obtain ⟨i0, e0⟩ := is_v ga0
  obtain rfl : w0 = (.int i0) := Option.some.inj e0
  obtain ⟨i1, e1⟩ := is_v ga1
  obtain rfl : w1 = (.int i1) := Option.some.inj e1
  obtain ⟨i2, e2⟩ := is_v ga2
  obtain rfl : w2 = (.int i2) := Option.some.inj e2
  obtain ⟨i3, e3⟩ := is_v ga3
  obtain rfl : w3 = (.int i3) := Option.some.inj e3
  obtain ⟨i4, e4⟩ := is_v g4
  obtain rfl : w4 = (.int i4) := Option.some.inj e4
  obtain ⟨fm, evF, hfm⟩ := isR_v (Cond.before_iff.mp (hsets _ (List.mem_of_getElem? (i := 8) rfl)))
  have SF := Sta.start evF (Or.inl (hsets _ (List.mem_of_getElem? (i := 7) rfl)))
  have SD := Sta.start (eqv_i (Term.int_eval (1)) (Cond.before_iff.mp (hsets _ (List.mem_of_getElem? (i := 12) rfl)))) (Or.inl (hsets _ (List.mem_of_getElem? (i := 11) rfl)))
  have SH8 := Sta.start (eqv_i (Term.int_eval (0)) (Cond.before_iff.mp (hsets _ (List.mem_of_getElem? (i := 15) rfl)))) (Or.inl (hsets _ (List.mem_of_getElem? (i := 14) rfl)))
  have SL8 := Sta.start (eqv_i (Term.int_eval (8)) (Cond.before_iff.mp (hsets _ (List.mem_of_getElem? (i := 18) rfl)))) (Or.inl (hsets _ (List.mem_of_getElem? (i := 17) rfl)))
  obtain ⟨cz, evZ⟩ := is_v (Cond.before_iff.mp (hsets _ (List.mem_of_getElem? (i := 1) rfl)))
  have SZ := Sta.start evZ (Or.inl (hsets _ (List.mem_of_getElem? (i := 0) rfl)))
  have hcz : ¬ cz = (0 : Int32) := gotF (Cond.eq_ints evZ (Term.int_eval (0))) (not_v (Cond.before_iff.mp (hsets _ (List.mem_of_getElem? (i := 2) rfl))))
  have hCH : CHv s own_EL s.vm s.heap := CHv.start (own_EW hw) (own_heldc hcalls) (hsets _ (List.mem_of_getElem? (i := 2) rfl)) (hw _ (List.mem_of_getElem? (i := 77) rfl)) (hw _ (List.mem_of_getElem? (i := 55) rfl))
  obtain ⟨n, o, h1, h2, h3, _, L, rfl, ⟨⟨_, rfl, rfl⟩, N⟩, -, hq⟩ := con0 l s _ hw s.heap.size s.heap (Nat.le_refl _) i0 i1 i2 i3 i4 fm cz (Old.start s) SF hfm SD SH8 SL8 SZ hcz tables_1 p e ha hc hk s m _ below hf ((Spec.applies_iff_loose hf).mp happ).1 ⟨rfl, State.Warmed39.refl s, rfl, hCH, all0⟩ trivial
  refine ⟨n, _, h1, h2, h3, hpost _ _ _ _ _ _ ⟨Cond.after_iff.mpr rfl, Cond.after_iff.mpr (eq_i res_at (Term.int_eval (1)) rfl), trivial⟩ ⟨hq.1, hq.2.1, hq.2.2.1, (hq.2.2.2.sift fun y hy => Or.inr (N y hy)).mono (by decide) (by decide)⟩⟩
theorem main_1_1 : Claimed_1_1 := comes_1 fun _ _ _ _ _ _ h hF => ⟨h.1, hF⟩
theorem main_1_2 : Claimed_1_2 := comes_1 fun _ _ _ _ _ _ h hF => ⟨h.2.1, hF⟩
end Jvm.Pilot.@@N@@
namespace Jvm.Pilot.@@N@@
open Jvm Jvm.ClassFile Sem Op Lib Jvm.Free Jvm.Stand Jvm.Pilot.@@N@@.Jvm.D
/-! MADE BY PROGRAM (witnessworld.py) out of the Statement's table words and the real class files: 22 classes; the members and pool entries that the words name. The judged class is class 1, her method 3. -/
namespace start1
open Jvm.ClassFile
def u (s : String) : CpInfo := .utf8 (stringToUtf16 s)
/-- a pool by its gaps: so many unusable entries, then the entry; so many at the end -/
def gap : Nat → List CpInfo → List CpInfo
  | 0, r => r
  | n + 1, r => .unusable :: gap n r
def poolList (es : List (Nat × CpInfo)) (last : Nat) : List CpInfo := es.foldr (fun e r => gap e.1 (e.2 :: r)) (gap last [])
def pool (es : List (Nat × CpInfo)) (last : Nat) : Array CpInfo := ⟨poolList es last⟩
def fileOf (pool : Array CpInfo) (this : Nat) (attrs : Array Attribute := #[]) (ms : Array MethodInfo := #[]) (fl : Nat := 33) (sup : Nat := 0) (ifs : Array Nat := #[]) (fds : Array FieldInfo := #[]) : ClassFile where
  minorVersion := 0
  majorVersion := 65
  constantPool := pool
  accessFlags := fl
  thisClass := this
  superClass := sup
  interfaces := ifs
  fields := fds
  methods := ms
  attributes := attrs
def plain (name : String) (sup : Option ClassId) : Class where
  name := name
  kind := .ordinary
  loader := none
  accessFlags := 33
  super := sup
  interfaces := #[]
  cf := none
  fields := #[]
  methods := #[]
  instanceTypes := #[]
  staticTypes := #[]
  resolved := #[]
  callSites := []
  init := .initialized
  statics := none
  mirror := none

def pool0 : Array CpInfo := pool [(5, u "<init>"), (0, u "()V"), (1, .class_ 10), (1, u "java/lang/Object")] 113

def k0c0 : Code := { maxStack := 0, maxLocals := 1, code := object_method_1_code, exceptionTable := #[], attributes := #[] }
def k0m0 : Method := { name := "<init>", desc := "()V", sig := { parameters := [], returnType := none }, accessFlags := 1, code := some k0c0 }
/-- java/lang/Object -/
def k0 : Class := { plain "java/lang/Object" none with
  accessFlags := 33
  interfaces := #[]
  cf := some (fileOf pool0 8 #[] #[{ accessFlags := 1, nameIndex := 5, descriptorIndex := 6, attributes := #[] }] 33 0 #[] #[])
  fields := #[]
  methods := #[k0m0]
  instanceTypes := #[]
  staticTypes := #[]
  resolved := Array.replicate 124 none
  statics := none }

def pool1 : Array CpInfo := pool [(2, .class_ 4), (1, u "java/lang/Object"), (0, u "<init>"), (0, u "()V"), (0, .methodref 8 9), (0, .class_ 10), (0, .nameAndType 11 12), (0, u "com/example/mappa/mappa/core/FieldTextTextPinLaw"), (0, u "ch"), (0, u "(I)C"), (0, .class_ 14), (0, u "com/example/mappa/mappa/core/FieldText"), (0, .methodref 13 16), (0, .nameAndType 5 17), (0, u "(III)V"), (0, .methodref 13 19), (0, .nameAndType 20 21), (0, u "append"), (0, u "([CII)V"), (0, .methodref 13 23), (0, .nameAndType 24 25), (0, u "text"), (0, u "()Ljava/lang/String;"), (0, .methodref 8 27), (0, .nameAndType 28 29), (0, u "sp"), (0, u "(C)Z"), (0, .methodref 31 32), (0, .class_ 33), (0, .nameAndType 34 35), (0, u "java/lang/Math"), (0, u "min"), (0, u "(II)I"), (0, .methodref 37 38), (0, .class_ 39), (0, .nameAndType 40 41), (0, u "java/lang/String"), (0, u "length"), (0, u "()I"), (0, .methodref 37 43), (0, .nameAndType 44 12), (0, u "charAt"), (3, u "law"), (0, u "(IIIII)Z")] 4

def k1m0 : Method := { name := "<init>", desc := "()V", sig := { parameters := [], returnType := none }, accessFlags := 1, code := none }
def k1c1 : Code := { maxStack := 2, maxLocals := 1, code := method_2_code, exceptionTable := #[], attributes := #[] }
def k1m1 : Method := { name := "sp", desc := "(C)Z", sig := { parameters := [.char], returnType := some .boolean }, accessFlags := 10, code := some k1c1 }
def k1c2 : Code := { maxStack := 2, maxLocals := 2, code := method_3_code, exceptionTable := #[], attributes := #[] }
def k1m2 : Method := { name := "ch", desc := "(I)C", sig := { parameters := [.int], returnType := some .char }, accessFlags := 10, code := some k1c2 }
def k1c3 : Code := { maxStack := 5, maxLocals := 16, code := code, exceptionTable := #[], attributes := #[] }
def k1m3 : Method := { name := "law", desc := "(IIIII)Z", sig := { parameters := [.int, .int, .int, .int, .int], returnType := some .boolean }, accessFlags := 9, code := some k1c3 }
/-- com/example/mappa/mappa/core/FieldTextTextPinLaw -/
def k1 : Class := { plain "com/example/mappa/mappa/core/FieldTextTextPinLaw" (some 0) with
  accessFlags := 49
  interfaces := #[]
  cf := some (fileOf pool1 8 #[] #[{ accessFlags := 1, nameIndex := 5, descriptorIndex := 6, attributes := #[] }, { accessFlags := 10, nameIndex := 28, descriptorIndex := 29, attributes := #[] }, { accessFlags := 10, nameIndex := 11, descriptorIndex := 12, attributes := #[] }, { accessFlags := 9, nameIndex := 48, descriptorIndex := 49, attributes := #[] }] 49 2 #[] #[])
  fields := #[]
  methods := #[k1m0, k1m1, k1m2, k1m3]
  instanceTypes := #[]
  staticTypes := #[]
  resolved := Array.replicate 54 none
  statics := none }

def pool2 : Array CpInfo := pool [(1, .methodref 2 3), (0, .class_ 4), (0, .nameAndType 5 6), (0, u "java/lang/Object"), (0, u "<init>"), (0, u "()V"), (0, .fieldref 8 9), (0, .class_ 10), (0, .nameAndType 11 12), (0, u "com/example/mappa/mappa/core/FieldText"), (0, u "text"), (0, u "[C"), (0, .methodref 8 14), (0, .nameAndType 15 16), (0, u "restart"), (0, u "(III)Lcom/example/mappa/mappa/core/FieldText;"), (0, .fieldref 8 18), (0, .nameAndType 19 20), (0, u "line"), (0, u "I"), (0, .fieldref 8 22), (0, .nameAndType 23 20), (0, u "column"), (0, .fieldref 8 25), (0, .nameAndType 26 20), (0, u "max"), (0, .fieldref 8 28), (0, .nameAndType 29 20), (0, u "textLength"), (0, .fieldref 8 31), (0, .nameAndType 32 33), (0, u "cut"), (0, u "Z"), (0, .methodref 8 35), (0, .nameAndType 36 37), (0, u "append"), (0, u "([CIII)I"), (0, .methodref 8 39), (0, .nameAndType 40 41), (0, u "isXmlSpace"), (0, u "(C)Z"), (0, .methodref 43 44), (0, .class_ 45), (0, .nameAndType 46 47), (0, u "java/lang/Math"), (0, u "min"), (0, u "(II)I"), (0, .long 2), (12, .methodref 62 63), (0, .class_ 64), (0, .nameAndType 65 66), (0, u "java/lang/System"), (0, u "arraycopy"), (0, u "(Ljava/lang/Object;ILjava/lang/Object;II)V"), (0, .class_ 68), (0, u "java/lang/String"), (0, .methodref 67 70), (0, .nameAndType 5 71), (0, u "([CII)V"), (12, u "(III)V"), (5, u "()Ljava/lang/String;")] 4

def k2c0 : Code := { maxStack := 4, maxLocals := 4, code := prog_32_method_1_code, exceptionTable := #[], attributes := #[] }
def k2m0 : Method := { name := "<init>", desc := "(III)V", sig := { parameters := [.int, .int, .int], returnType := none }, accessFlags := 0, code := some k2c0 }
def k2c1 : Code := { maxStack := 2, maxLocals := 4, code := prog_32_method_2_code, exceptionTable := #[], attributes := #[] }
def k2m1 : Method := { name := "restart", desc := "(III)Lcom/example/mappa/mappa/core/FieldText;", sig := { parameters := [.int, .int, .int], returnType := some (.object "com/example/mappa/mappa/core/FieldText") }, accessFlags := 0, code := some k2c1 }
def k2c2 : Code := { maxStack := 5, maxLocals := 4, code := prog_32_method_7_code, exceptionTable := #[], attributes := #[] }
def k2m2 : Method := { name := "append", desc := "([CII)V", sig := { parameters := [(.array .char), .int, .int], returnType := none }, accessFlags := 0, code := some k2c2 }
def k2c3 : Code := { maxStack := 8, maxLocals := 9, code := prog_32_method_8_code, exceptionTable := #[], attributes := #[] }
def k2m3 : Method := { name := "append", desc := "([CIII)I", sig := { parameters := [(.array .char), .int, .int, .int], returnType := some .int }, accessFlags := 0, code := some k2c3 }
def k2c4 : Code := { maxStack := 5, maxLocals := 2, code := prog_32_method_9_code, exceptionTable := #[], attributes := #[] }
def k2m4 : Method := { name := "text", desc := "()Ljava/lang/String;", sig := { parameters := [], returnType := some (.object "java/lang/String") }, accessFlags := 0, code := some k2c4 }
def k2c5 : Code := { maxStack := 2, maxLocals := 1, code := prog_32_method_11_code, exceptionTable := #[], attributes := #[] }
def k2m5 : Method := { name := "isXmlSpace", desc := "(C)Z", sig := { parameters := [.char], returnType := some .boolean }, accessFlags := 10, code := some k2c5 }
/-- com/example/mappa/mappa/core/FieldText -/
def k2 : Class := { plain "com/example/mappa/mappa/core/FieldText" (some 0) with
  accessFlags := 48
  interfaces := #[]
  cf := some (fileOf pool2 8 #[] #[{ accessFlags := 0, nameIndex := 5, descriptorIndex := 84, attributes := #[] }, { accessFlags := 0, nameIndex := 15, descriptorIndex := 16, attributes := #[] }, { accessFlags := 0, nameIndex := 36, descriptorIndex := 71, attributes := #[] }, { accessFlags := 0, nameIndex := 36, descriptorIndex := 37, attributes := #[] }, { accessFlags := 0, nameIndex := 11, descriptorIndex := 90, attributes := #[] }, { accessFlags := 10, nameIndex := 40, descriptorIndex := 41, attributes := #[] }] 48 2 #[] #[{ accessFlags := 2, nameIndex := 19, descriptorIndex := 20, attributes := #[] }, { accessFlags := 2, nameIndex := 23, descriptorIndex := 20, attributes := #[] }, { accessFlags := 2, nameIndex := 26, descriptorIndex := 20, attributes := #[] }, { accessFlags := 2, nameIndex := 11, descriptorIndex := 12, attributes := #[] }, { accessFlags := 2, nameIndex := 29, descriptorIndex := 20, attributes := #[] }, { accessFlags := 2, nameIndex := 32, descriptorIndex := 33, attributes := #[] }])
  fields := #[{ name := "line", type := .int, accessFlags := 2, slot := 0, constantValue := 0 }, { name := "column", type := .int, accessFlags := 2, slot := 1, constantValue := 0 }, { name := "max", type := .int, accessFlags := 2, slot := 2, constantValue := 0 }, { name := "text", type := (.array .char), accessFlags := 2, slot := 3, constantValue := 0 }, { name := "textLength", type := .int, accessFlags := 2, slot := 4, constantValue := 0 }, { name := "cut", type := .boolean, accessFlags := 2, slot := 5, constantValue := 0 }]
  methods := #[k2m0, k2m1, k2m2, k2m3, k2m4, k2m5]
  instanceTypes := #[.int, .int, .int, (.array .char), .int, .boolean]
  staticTypes := #[]
  resolved := Array.replicate 95 none
  statics := none }

def pool3 : Array CpInfo := pool [(1, .class_ 2), (0, u "java/lang/Math"), (1, .class_ 6), (1, u "java/lang/Object"), (0, u "<init>"), (0, u "()V"), (89, .class_ 100), (1, u "java/lang/Math$RandomNumberGeneratorHolder"), (71, u "negativeZeroFloatBits"), (0, u "J"), (2, u "negativeZeroDoubleBits"), (24, u "min"), (43, u "$assertionsDisabled"), (0, u "Z"), (88, u "(II)I"), (2, u "twoToTheDoubleScaleDown"), (0, u "D"), (4, u "twoToTheDoubleScaleUp"), (9, u "E"), (3, u "PI"), (2, u "TAU"), (2, u "DEGREES_TO_RADIANS"), (0, u "RADIANS_TO_DEGREES")] 94

def k3m0 : Method := { name := "<init>", desc := "()V", sig := { parameters := [], returnType := none }, accessFlags := 2, code := none }
def k3c1 : Code := { maxStack := 2, maxLocals := 2, code := jdk_29_method_69_code, exceptionTable := #[], attributes := #[] }
def k3m1 : Method := { name := "min", desc := "(II)I", sig := { parameters := [.int, .int], returnType := some .int }, accessFlags := 9, code := some k3c1 }
/-- java/lang/Math -/
def k3 : Class := { plain "java/lang/Math" (some 0) with
  accessFlags := 49
  interfaces := #[]
  cf := some (fileOf pool3 1 #[.nestMembers #[98]] #[{ accessFlags := 2, nameIndex := 7, descriptorIndex := 8, attributes := #[] }, { accessFlags := 9, nameIndex := 201, descriptorIndex := 335, attributes := #[] }] 49 4 #[] #[{ accessFlags := 25, nameIndex := 354, descriptorIndex := 339, attributes := #[] }, { accessFlags := 25, nameIndex := 358, descriptorIndex := 339, attributes := #[] }, { accessFlags := 25, nameIndex := 361, descriptorIndex := 339, attributes := #[] }, { accessFlags := 26, nameIndex := 364, descriptorIndex := 339, attributes := #[] }, { accessFlags := 26, nameIndex := 365, descriptorIndex := 339, attributes := #[] }, { accessFlags := 26, nameIndex := 172, descriptorIndex := 173, attributes := #[] }, { accessFlags := 26, nameIndex := 176, descriptorIndex := 173, attributes := #[] }, { accessFlags := 8, nameIndex := 344, descriptorIndex := 339, attributes := #[] }, { accessFlags := 8, nameIndex := 338, descriptorIndex := 339, attributes := #[] }, { accessFlags := 4120, nameIndex := 245, descriptorIndex := 246, attributes := #[] }])
  fields := #[{ name := "E", type := .double, accessFlags := 25, slot := 0, constantValue := 0 }, { name := "PI", type := .double, accessFlags := 25, slot := 1, constantValue := 0 }, { name := "TAU", type := .double, accessFlags := 25, slot := 2, constantValue := 0 }, { name := "DEGREES_TO_RADIANS", type := .double, accessFlags := 26, slot := 3, constantValue := 0 }, { name := "RADIANS_TO_DEGREES", type := .double, accessFlags := 26, slot := 4, constantValue := 0 }, { name := "negativeZeroFloatBits", type := .long, accessFlags := 26, slot := 5, constantValue := 0 }, { name := "negativeZeroDoubleBits", type := .long, accessFlags := 26, slot := 6, constantValue := 0 }, { name := "twoToTheDoubleScaleUp", type := .double, accessFlags := 8, slot := 7, constantValue := 0 }, { name := "twoToTheDoubleScaleDown", type := .double, accessFlags := 8, slot := 8, constantValue := 0 }, { name := "$assertionsDisabled", type := .boolean, accessFlags := 4120, slot := 9, constantValue := 0 }]
  methods := #[k3m0, k3m1]
  instanceTypes := #[]
  staticTypes := #[.double, .double, .double, .double, .double, .long, .long, .double, .double, .boolean]
  resolved := Array.replicate 460 none
  statics := none }

def pool4 : Array CpInfo := pool [(2, .class_ 4), (1, u "java/lang/Object"), (0, u "<init>"), (0, u "()V"), (1, .class_ 10), (1, u "java/lang/System"), (0, u "allowSecurityManager"), (0, u "I"), (16, u "cons"), (0, u "Ljava/io/Console;"), (77, .class_ 110), (1, u "java/lang/System$CallersHolder"), (43, u "initialErrStream"), (0, u "Ljava/io/PrintStream;"), (19, u "security"), (0, u "Ljava/lang/SecurityManager;"), (31, .class_ 209), (0, u "java/lang/System$1"), (7, u "props"), (0, u "Ljava/util/Properties;"), (2, u "lineSeparator"), (0, u "Ljava/lang/String;"), (96, .class_ 321), (1, u "java/lang/System$LoggerFinder"), (5, .class_ 328), (0, u "java/lang/System$Logger"), (67, u "err"), (2, u "out"), (91, u "notSupportedJnuEncoding"), (15, u "in"), (17, u "initialIn"), (0, u "Ljava/io/InputStream;"), (35, u "bootLayer"), (0, u "Ljava/lang/ModuleLayer;"), (99, .class_ 664), (0, u "java/lang/System$2"), (9, u "NEVER"), (2, u "MAYBE"), (49, u "arraycopy"), (0, u "(Ljava/lang/Object;ILjava/lang/Object;II)V"), (72, .class_ 802), (0, u "java/lang/System$Logger$Level")] 31

def k4m0 : Method := { name := "<init>", desc := "()V", sig := { parameters := [], returnType := none }, accessFlags := 2, code := none }
def k4m1 : Method := { name := "arraycopy", desc := "(Ljava/lang/Object;ILjava/lang/Object;II)V", sig := { parameters := [(.object "java/lang/Object"), .int, (.object "java/lang/Object"), .int, .int], returnType := none }, accessFlags := 265, code := none }
/-- java/lang/System -/
def k4 : Class := { plain "java/lang/System" (some 0) with
  accessFlags := 49
  interfaces := #[]
  cf := some (fileOf pool4 8 #[.nestMembers #[319, 327, 801, 108, 663, 208]] #[{ accessFlags := 2, nameIndex := 5, descriptorIndex := 6, attributes := #[] }, { accessFlags := 265, nameIndex := 727, descriptorIndex := 728, attributes := #[] }] 49 2 #[] #[{ accessFlags := 25, nameIndex := 507, descriptorIndex := 526, attributes := #[] }, { accessFlags := 25, nameIndex := 399, descriptorIndex := 155, attributes := #[] }, { accessFlags := 25, nameIndex := 396, descriptorIndex := 155, attributes := #[] }, { accessFlags := 10, nameIndex := 525, descriptorIndex := 526, attributes := #[] }, { accessFlags := 26, nameIndex := 674, descriptorIndex := 12, attributes := #[] }, { accessFlags := 26, nameIndex := 677, descriptorIndex := 12, attributes := #[] }, { accessFlags := 10, nameIndex := 11, descriptorIndex := 12, attributes := #[] }, { accessFlags := 74, nameIndex := 175, descriptorIndex := 176, attributes := #[] }, { accessFlags := 10, nameIndex := 491, descriptorIndex := 222, attributes := #[] }, { accessFlags := 74, nameIndex := 29, descriptorIndex := 30, attributes := #[] }, { accessFlags := 74, nameIndex := 154, descriptorIndex := 155, attributes := #[] }, { accessFlags := 10, nameIndex := 217, descriptorIndex := 218, attributes := #[] }, { accessFlags := 10, nameIndex := 221, descriptorIndex := 222, attributes := #[] }, { accessFlags := 8, nameIndex := 562, descriptorIndex := 563, attributes := #[] }])
  fields := #[{ name := "in", type := (.object "java/io/InputStream"), accessFlags := 25, slot := 0, constantValue := 0 }, { name := "out", type := (.object "java/io/PrintStream"), accessFlags := 25, slot := 1, constantValue := 0 }, { name := "err", type := (.object "java/io/PrintStream"), accessFlags := 25, slot := 2, constantValue := 0 }, { name := "initialIn", type := (.object "java/io/InputStream"), accessFlags := 10, slot := 3, constantValue := 0 }, { name := "NEVER", type := .int, accessFlags := 26, slot := 4, constantValue := 0 }, { name := "MAYBE", type := .int, accessFlags := 26, slot := 5, constantValue := 0 }, { name := "allowSecurityManager", type := .int, accessFlags := 10, slot := 6, constantValue := 0 }, { name := "security", type := (.object "java/lang/SecurityManager"), accessFlags := 74, slot := 7, constantValue := 0 }, { name := "notSupportedJnuEncoding", type := (.object "java/lang/String"), accessFlags := 10, slot := 8, constantValue := 0 }, { name := "cons", type := (.object "java/io/Console"), accessFlags := 74, slot := 9, constantValue := 0 }, { name := "initialErrStream", type := (.object "java/io/PrintStream"), accessFlags := 74, slot := 10, constantValue := 0 }, { name := "props", type := (.object "java/util/Properties"), accessFlags := 10, slot := 11, constantValue := 0 }, { name := "lineSeparator", type := (.object "java/lang/String"), accessFlags := 10, slot := 12, constantValue := 0 }, { name := "bootLayer", type := (.object "java/lang/ModuleLayer"), accessFlags := 8, slot := 13, constantValue := 0 }]
  methods := #[k4m0, k4m1]
  instanceTypes := #[]
  staticTypes := #[(.object "java/io/InputStream"), (.object "java/io/PrintStream"), (.object "java/io/PrintStream"), (.object "java/io/InputStream"), .int, .int, .int, (.object "java/lang/SecurityManager"), (.object "java/lang/String"), (.object "java/io/Console"), (.object "java/io/PrintStream"), (.object "java/util/Properties"), (.object "java/lang/String"), (.object "java/lang/ModuleLayer")]
  resolved := Array.replicate 834 none
  statics := none }

def pool5 : Array CpInfo := pool [(1, .class_ 2), (0, u "java/io/Serializable"), (0, .class_ 4), (0, u "java/lang/Object")] 2

/-- java/io/Serializable -/
def k5 : Class := { plain "java/io/Serializable" (some 0) with
  accessFlags := 1537
  interfaces := #[]
  cf := some (fileOf pool5 1 #[] #[] 1537 3 #[] #[])
  fields := #[]
  methods := #[]
  instanceTypes := #[]
  staticTypes := #[]
  resolved := Array.replicate 7 none
  statics := none }

def pool6 : Array CpInfo := pool [(1, .class_ 2), (0, u "java/lang/Comparable"), (0, .class_ 4), (0, u "java/lang/Object")] 7

/-- java/lang/Comparable -/
def k6 : Class := { plain "java/lang/Comparable" (some 0) with
  accessFlags := 1537
  interfaces := #[]
  cf := some (fileOf pool6 1 #[] #[] 1537 3 #[] #[])
  fields := #[]
  methods := #[]
  instanceTypes := #[]
  staticTypes := #[]
  resolved := Array.replicate 12 none
  statics := none }

def pool7 : Array CpInfo := pool [(2, .class_ 4), (1, u "java/lang/CharSequence"), (42, .class_ 48), (0, u "java/lang/CharSequence$1CodePointIterator"), (10, .class_ 60), (0, u "java/lang/CharSequence$1CharIterator"), (5, .class_ 67), (0, u "java/lang/Object")] 63

/-- java/lang/CharSequence -/
def k7 : Class := { plain "java/lang/CharSequence" (some 0) with
  accessFlags := 1537
  interfaces := #[]
  cf := some (fileOf pool7 2 #[.nestMembers #[47, 59]] #[] 1537 66 #[] #[])
  fields := #[]
  methods := #[]
  instanceTypes := #[]
  staticTypes := #[]
  resolved := Array.replicate 131 none
  statics := none }

def pool8 : Array CpInfo := pool [(1, .class_ 2), (0, u "java/lang/constant/Constable"), (0, .class_ 4), (0, u "java/lang/Object")] 6

/-- java/lang/constant/Constable -/
def k8 : Class := { plain "java/lang/constant/Constable" (some 0) with
  accessFlags := 1537
  interfaces := #[]
  cf := some (fileOf pool8 1 #[] #[] 1537 3 #[] #[])
  fields := #[]
  methods := #[]
  instanceTypes := #[]
  staticTypes := #[]
  resolved := Array.replicate 11 none
  statics := none }

def pool9 : Array CpInfo := pool [(1, .class_ 2), (0, u "java/lang/constant/ConstantDesc"), (0, .class_ 4), (0, u "java/lang/Object")] 32

/-- java/lang/constant/ConstantDesc -/
def k9 : Class := { plain "java/lang/constant/ConstantDesc" (some 0) with
  accessFlags := 1537
  interfaces := #[]
  cf := some (fileOf pool9 1 #[] #[] 1537 3 #[] #[])
  fields := #[]
  methods := #[]
  instanceTypes := #[]
  staticTypes := #[]
  resolved := Array.replicate 37 none
  statics := none }

def pool10 : Array CpInfo := pool [(1, .methodref 2 3), (0, .class_ 4), (0, .nameAndType 5 6), (0, u "java/lang/Object"), (0, u "<init>"), (0, u "()V"), (0, .string 8), (0, u ""), (0, .fieldref 10 11), (0, .class_ 12), (0, .nameAndType 13 14), (0, u "java/lang/String"), (0, u "value"), (0, u "[B"), (0, .fieldref 10 16), (0, .nameAndType 17 18), (0, u "coder"), (0, u "B"), (2, u "hash"), (0, u "I"), (2, u "hashIsZero"), (0, u "Z"), (0, .methodref 10 28), (0, .nameAndType 5 29), (0, u "([CIILjava/lang/Void;)V"), (0, .methodref 10 31), (0, .nameAndType 32 33), (0, u "rangeCheck"), (0, u "([CII)Ljava/lang/Void;"), (0, .methodref 10 35), (0, .nameAndType 36 37), (0, u "checkBoundsOffCount"), (0, u "(III)I"), (0, .fieldref 10 39), (0, .nameAndType 40 26), (0, u "COMPACT_STRINGS"), (1, .class_ 44), (1, u "java/lang/StringUTF16"), (0, u "compress"), (1, .methodref 42 48), (0, .nameAndType 49 50), (0, u "coderFromArrayLen"), (0, u "([BI)B"), (56, .class_ 109), (1, u "java/lang/StringLatin1"), (32, u "()Z"), (34, .methodref 42 178), (0, .nameAndType 45 179), (0, u "([CII)[B"), (154, u "()I"), (0, .methodref 10 336), (0, .nameAndType 17 337), (0, u "()B"), (25, u "([BI)C"), (27, u "(II)V"), (35, u "(I)C"), (64, .methodref 10 493), (0, .nameAndType 494 142), (0, u "isLatin1"), (0, .methodref 107 496), (0, .nameAndType 497 363), (0, u "charAt"), (0, .methodref 42 496), (2, u "checkIndex"), (5, u "length"), (67, .class_ 576), (0, u "java/lang/CharSequence"), (22, u "CASE_INSENSITIVE_ORDER"), (0, u "Ljava/util/Comparator;"), (371, u "([CII)V"), (80, .fieldref 1054 1055), (0, .class_ 1056), (0, .nameAndType 1057 1058), (0, u "jdk/internal/util/Preconditions"), (0, u "SIOOBE_FORMATTER"), (0, u "Ljava/util/function/BiFunction;"), (0, .methodref 1054 1060), (0, .nameAndType 501 1061), (0, u "(IILjava/util/function/BiFunction;)I"), (2, u "(IIILjava/util/function/BiFunction;)I"), (0, .methodref 1054 1066), (0, .nameAndType 1067 1064), (0, u "checkFromIndexSize"), (33, u "serialPersistentFields"), (0, u "[Ljava/io/ObjectStreamField;"), (0, .class_ 1104), (0, u "java/lang/String$CaseInsensitiveComparator"), (1, .class_ 1107), (0, u "java/io/Serializable"), (0, .class_ 1109), (0, u "java/lang/Comparable"), (0, .class_ 1111), (0, u "java/lang/constant/Constable"), (0, .class_ 1113), (0, u "java/lang/constant/ConstantDesc"), (2, u "serialVersionUID"), (0, u "J"), (3, u "REPL"), (0, u "C"), (2, u "LATIN1"), (1, u "UTF16")] 323

def k10m0 : Method := { name := "<init>", desc := "()V", sig := { parameters := [], returnType := none }, accessFlags := 1, code := none }
def k10c1 : Code := { maxStack := 7, maxLocals := 4, code := jdk_42_method_4_code, exceptionTable := #[], attributes := #[] }
def k10m1 : Method := { name := "<init>", desc := "([CII)V", sig := { parameters := [(.array .char), .int, .int], returnType := none }, accessFlags := 1, code := some k10c1 }
def k10c2 : Code := { maxStack := 3, maxLocals := 3, code := jdk_42_method_5_code, exceptionTable := #[], attributes := #[] }
def k10m2 : Method := { name := "rangeCheck", desc := "([CII)Ljava/lang/Void;", sig := { parameters := [(.array .char), .int, .int], returnType := some (.object "java/lang/Void") }, accessFlags := 10, code := some k10c2 }
def k10c3 : Code := { maxStack := 2, maxLocals := 1, code := jdk_42_method_54_code, exceptionTable := #[], attributes := #[] }
def k10m3 : Method := { name := "length", desc := "()I", sig := { parameters := [], returnType := some .int }, accessFlags := 1, code := some k10c3 }
def k10c4 : Code := { maxStack := 2, maxLocals := 2, code := jdk_42_method_56_code, exceptionTable := #[], attributes := #[] }
def k10m4 : Method := { name := "charAt", desc := "(I)C", sig := { parameters := [.int], returnType := some .char }, accessFlags := 1, code := some k10c4 }
def k10c5 : Code := { maxStack := 4, maxLocals := 6, code := jdk_42_method_149_code, exceptionTable := #[], attributes := #[] }
def k10m5 : Method := { name := "<init>", desc := "([CIILjava/lang/Void;)V", sig := { parameters := [(.array .char), .int, .int, (.object "java/lang/Void")], returnType := none }, accessFlags := 2, code := some k10c5 }
def k10c6 : Code := { maxStack := 1, maxLocals := 1, code := jdk_42_method_152_code, exceptionTable := #[], attributes := #[] }
def k10m6 : Method := { name := "coder", desc := "()B", sig := { parameters := [], returnType := some .byte }, accessFlags := 0, code := some k10c6 }
def k10c7 : Code := { maxStack := 1, maxLocals := 1, code := jdk_42_method_154_code, exceptionTable := #[], attributes := #[] }
def k10m7 : Method := { name := "isLatin1", desc := "()Z", sig := { parameters := [], returnType := some .boolean }, accessFlags := 0, code := some k10c7 }
def k10c8 : Code := { maxStack := 3, maxLocals := 2, code := jdk_42_method_155_code, exceptionTable := #[], attributes := #[] }
def k10m8 : Method := { name := "checkIndex", desc := "(II)V", sig := { parameters := [.int, .int], returnType := none }, accessFlags := 8, code := some k10c8 }
def k10c9 : Code := { maxStack := 4, maxLocals := 3, code := jdk_42_method_157_code, exceptionTable := #[], attributes := #[] }
def k10m9 : Method := { name := "checkBoundsOffCount", desc := "(III)I", sig := { parameters := [.int, .int, .int], returnType := some .int }, accessFlags := 8, code := some k10c9 }
/-- java/lang/String -/
def k10 : Class := { plain "java/lang/String" (some 0) with
  accessFlags := 49
  interfaces := #[5, 6, 7, 8, 9]
  cf := some (fileOf pool10 10 #[.nestMembers #[1103]] #[{ accessFlags := 1, nameIndex := 5, descriptorIndex := 6, attributes := #[] }, { accessFlags := 1, nameIndex := 5, descriptorIndex := 972, attributes := #[] }, { accessFlags := 10, nameIndex := 32, descriptorIndex := 33, attributes := #[] }, { accessFlags := 1, nameIndex := 507, descriptorIndex := 334, attributes := #[] }, { accessFlags := 1, nameIndex := 497, descriptorIndex := 427, attributes := #[] }, { accessFlags := 2, nameIndex := 5, descriptorIndex := 29, attributes := #[] }, { accessFlags := 0, nameIndex := 17, descriptorIndex := 337, attributes := #[] }, { accessFlags := 0, nameIndex := 494, descriptorIndex := 142, attributes := #[] }, { accessFlags := 8, nameIndex := 501, descriptorIndex := 391, attributes := #[] }, { accessFlags := 8, nameIndex := 36, descriptorIndex := 37, attributes := #[] }] 49 2 #[1106, 1108, 575, 1110, 1112] #[{ accessFlags := 18, nameIndex := 13, descriptorIndex := 14, attributes := #[] }, { accessFlags := 18, nameIndex := 17, descriptorIndex := 18, attributes := #[] }, { accessFlags := 2, nameIndex := 21, descriptorIndex := 22, attributes := #[] }, { accessFlags := 2, nameIndex := 25, descriptorIndex := 26, attributes := #[] }, { accessFlags := 26, nameIndex := 1116, descriptorIndex := 1117, attributes := #[] }, { accessFlags := 24, nameIndex := 40, descriptorIndex := 26, attributes := #[] }, { accessFlags := 26, nameIndex := 1101, descriptorIndex := 1102, attributes := #[] }, { accessFlags := 26, nameIndex := 1121, descriptorIndex := 1122, attributes := #[] }, { accessFlags := 25, nameIndex := 599, descriptorIndex := 600, attributes := #[] }, { accessFlags := 24, nameIndex := 1125, descriptorIndex := 18, attributes := #[] }, { accessFlags := 24, nameIndex := 1127, descriptorIndex := 18, attributes := #[] }])
  fields := #[{ name := "value", type := (.array .byte), accessFlags := 18, slot := 0, constantValue := 0 }, { name := "coder", type := .byte, accessFlags := 18, slot := 1, constantValue := 0 }, { name := "hash", type := .int, accessFlags := 2, slot := 2, constantValue := 0 }, { name := "hashIsZero", type := .boolean, accessFlags := 2, slot := 3, constantValue := 0 }, { name := "serialVersionUID", type := .long, accessFlags := 26, slot := 0, constantValue := 0 }, { name := "COMPACT_STRINGS", type := .boolean, accessFlags := 24, slot := 1, constantValue := 0 }, { name := "serialPersistentFields", type := (.array (.object "java/io/ObjectStreamField")), accessFlags := 26, slot := 2, constantValue := 0 }, { name := "REPL", type := .char, accessFlags := 26, slot := 3, constantValue := 0 }, { name := "CASE_INSENSITIVE_ORDER", type := (.object "java/util/Comparator"), accessFlags := 25, slot := 4, constantValue := 0 }, { name := "LATIN1", type := .byte, accessFlags := 24, slot := 5, constantValue := 0 }, { name := "UTF16", type := .byte, accessFlags := 24, slot := 6, constantValue := 0 }]
  methods := #[k10m0, k10m1, k10m2, k10m3, k10m4, k10m5, k10m6, k10m7, k10m8, k10m9]
  instanceTypes := #[(.array .byte), .byte, .int, .boolean]
  staticTypes := #[.long, .boolean, (.array (.object "java/io/ObjectStreamField")), .char, (.object "java/util/Comparator"), .byte, .byte]
  resolved := Array.replicate 1451 none
  statics := some 0 }

def pool11 : Array CpInfo := pool [(2, .class_ 4), (1, u "java/lang/Object"), (0, u "<init>"), (0, u "()V"), (17, .class_ 26), (1, u "jdk/internal/util/Preconditions"), (6, u "checkIndex"), (15, u "checkFromIndexSize"), (5, .class_ 56), (0, u "jdk/internal/util/Preconditions$4"), (57, .class_ 115), (0, u "jdk/internal/util/Preconditions$1"), (7, u "SIOOBE_FORMATTER"), (0, u "Ljava/util/function/BiFunction;"), (0, .class_ 126), (0, u "jdk/internal/util/Preconditions$2"), (3, u "AIOOBE_FORMATTER"), (0, .class_ 132), (0, u "jdk/internal/util/Preconditions$3"), (3, u "IOOBE_FORMATTER"), (41, u "(IILjava/util/function/BiFunction;)I"), (4, u "(IIILjava/util/function/BiFunction;)I")] 10

def k11m0 : Method := { name := "<init>", desc := "()V", sig := { parameters := [], returnType := none }, accessFlags := 1, code := none }
def k11c1 : Code := { maxStack := 3, maxLocals := 3, code := jdk_41_method_11_code, exceptionTable := #[], attributes := #[] }
def k11m1 : Method := { name := "checkIndex", desc := "(IILjava/util/function/BiFunction;)I", sig := { parameters := [.int, .int, (.object "java/util/function/BiFunction")], returnType := some .int }, accessFlags := 9, code := some k11c1 }
def k11c2 : Code := { maxStack := 4, maxLocals := 4, code := jdk_41_method_13_code, exceptionTable := #[], attributes := #[] }
def k11m2 : Method := { name := "checkFromIndexSize", desc := "(IIILjava/util/function/BiFunction;)I", sig := { parameters := [.int, .int, .int, (.object "java/util/function/BiFunction")], returnType := some .int }, accessFlags := 9, code := some k11c2 }
/-- jdk/internal/util/Preconditions -/
def k11 : Class := { plain "jdk/internal/util/Preconditions" (some 0) with
  accessFlags := 33
  interfaces := #[]
  cf := some (fileOf pool11 24 #[.nestMembers #[55, 131, 125, 114]] #[{ accessFlags := 1, nameIndex := 5, descriptorIndex := 6, attributes := #[] }, { accessFlags := 9, nameIndex := 33, descriptorIndex := 178, attributes := #[] }, { accessFlags := 9, nameIndex := 49, descriptorIndex := 183, attributes := #[] }] 33 2 #[] #[{ accessFlags := 25, nameIndex := 123, descriptorIndex := 124, attributes := #[] }, { accessFlags := 25, nameIndex := 130, descriptorIndex := 124, attributes := #[] }, { accessFlags := 25, nameIndex := 136, descriptorIndex := 124, attributes := #[] }])
  fields := #[{ name := "SIOOBE_FORMATTER", type := (.object "java/util/function/BiFunction"), accessFlags := 25, slot := 0, constantValue := 0 }, { name := "AIOOBE_FORMATTER", type := (.object "java/util/function/BiFunction"), accessFlags := 25, slot := 1, constantValue := 0 }, { name := "IOOBE_FORMATTER", type := (.object "java/util/function/BiFunction"), accessFlags := 25, slot := 2, constantValue := 0 }]
  methods := #[k11m0, k11m1, k11m2]
  instanceTypes := #[]
  staticTypes := #[(.object "java/util/function/BiFunction"), (.object "java/util/function/BiFunction"), (.object "java/util/function/BiFunction")]
  resolved := Array.replicate 194 none
  statics := some 1 }

def pool12 : Array CpInfo := pool [(3, .class_ 4), (0, u "java/lang/String"), (1, .class_ 8), (1, u "java/lang/Object"), (0, u "<init>"), (0, u "()V"), (0, .methodref 12 13), (0, .class_ 14), (0, .nameAndType 15 16), (0, u "java/lang/StringUTF16"), (0, u "newBytesLength"), (0, u "(I)I"), (3, .integer 1073741823), (23, .fieldref 12 45), (0, .nameAndType 46 47), (0, u "$assertionsDisabled"), (0, u "Z"), (0, .methodref 12 49), (0, .nameAndType 50 51), (0, u "length"), (0, u "([B)I"), (7, .fieldref 12 60), (0, .nameAndType 61 62), (0, u "HI_BYTE_SHIFT"), (0, u "I"), (0, .fieldref 12 64), (0, .nameAndType 65 62), (0, u "LO_BYTE_SHIFT"), (1, .methodref 12 68), (0, .nameAndType 69 70), (0, u "checkIndex"), (0, u "(I[B)V"), (0, .methodref 12 72), (0, .nameAndType 73 74), (0, u "getChar"), (0, u "([BI)C"), (32, .methodref 12 108), (0, .nameAndType 109 110), (0, u "newBytesFor"), (0, u "(I)[B"), (0, .methodref 12 112), (0, .nameAndType 113 114), (0, u "putChar"), (0, u "([BII)V"), (0, .methodref 12 116), (0, .nameAndType 117 118), (0, u "compress"), (0, u "([CI[BII)I"), (0, .methodref 12 120), (0, .nameAndType 121 122), (0, u "toBytes"), (0, u "([CII)[B"), (138, u "coderFromArrayLen"), (0, u "([BI)B"), (106, .class_ 371), (1, u "java/lang/StringUTF16$LinesSpliterator"), (20, u "charAt"), (21, .methodref 3 415), (0, .nameAndType 69 416), (0, u "(II)V"), (13, u "MAX_LENGTH"), (196, .class_ 628), (0, u "java/lang/StringUTF16$CodePointsSpliterator"), (0, .class_ 630), (0, u "java/lang/StringUTF16$CharsSpliterator")] 4

def k12m0 : Method := { name := "<init>", desc := "()V", sig := { parameters := [], returnType := none }, accessFlags := 0, code := none }
def k12c1 : Code := { maxStack := 1, maxLocals := 1, code := jdk_52_method_2_code, exceptionTable := #[], attributes := #[] }
def k12m1 : Method := { name := "newBytesFor", desc := "(I)[B", sig := { parameters := [.int], returnType := some (.array .byte) }, accessFlags := 9, code := some k12c1 }
def k12c2 : Code := { maxStack := 4, maxLocals := 1, code := jdk_52_method_3_code, exceptionTable := #[], attributes := #[] }
def k12m2 : Method := { name := "newBytesLength", desc := "(I)I", sig := { parameters := [.int], returnType := some .int }, accessFlags := 9, code := some k12c2 }
def k12c3 : Code := { maxStack := 4, maxLocals := 3, code := jdk_52_method_4_code, exceptionTable := #[], attributes := #[] }
def k12m3 : Method := { name := "putChar", desc := "([BII)V", sig := { parameters := [(.array .byte), .int, .int], returnType := none }, accessFlags := 8, code := some k12c3 }
def k12c4 : Code := { maxStack := 3, maxLocals := 2, code := jdk_52_method_5_code, exceptionTable := #[], attributes := #[] }
def k12m4 : Method := { name := "getChar", desc := "([BI)C", sig := { parameters := [(.array .byte), .int], returnType := some .char }, accessFlags := 8, code := some k12c4 }
def k12c5 : Code := { maxStack := 2, maxLocals := 1, code := jdk_52_method_6_code, exceptionTable := #[], attributes := #[] }
def k12m5 : Method := { name := "length", desc := "([B)I", sig := { parameters := [(.array .byte)], returnType := some .int }, accessFlags := 9, code := some k12c5 }
def k12c6 : Code := { maxStack := 4, maxLocals := 5, code := jdk_52_method_14_code, exceptionTable := #[], attributes := #[] }
def k12m6 : Method := { name := "toBytes", desc := "([CII)[B", sig := { parameters := [(.array .char), .int, .int], returnType := some (.array .byte) }, accessFlags := 9, code := some k12c6 }
def k12c7 : Code := { maxStack := 2, maxLocals := 2, code := jdk_52_method_15_code, exceptionTable := #[], attributes := #[] }
def k12m7 : Method := { name := "coderFromArrayLen", desc := "([BI)B", sig := { parameters := [(.array .byte), .int], returnType := some .byte }, accessFlags := 8, code := some k12c7 }
def k12c8 : Code := { maxStack := 5, maxLocals := 6, code := jdk_52_method_16_code, exceptionTable := #[], attributes := #[] }
def k12m8 : Method := { name := "compress", desc := "([CII)[B", sig := { parameters := [(.array .char), .int, .int], returnType := some (.array .byte) }, accessFlags := 9, code := some k12c8 }
def k12c9 : Code := { maxStack := 3, maxLocals := 7, code := jdk_52_method_21_code, exceptionTable := #[], attributes := #[] }
def k12m9 : Method := { name := "compress", desc := "([CI[BII)I", sig := { parameters := [(.array .char), .int, (.array .byte), .int, .int], returnType := some .int }, accessFlags := 9, code := some k12c9 }
def k12c10 : Code := { maxStack := 2, maxLocals := 2, code := jdk_52_method_83_code, exceptionTable := #[], attributes := #[] }
def k12m10 : Method := { name := "charAt", desc := "([BI)C", sig := { parameters := [(.array .byte), .int], returnType := some .char }, accessFlags := 9, code := some k12c10 }
def k12c11 : Code := { maxStack := 2, maxLocals := 2, code := jdk_52_method_91_code, exceptionTable := #[], attributes := #[] }
def k12m11 : Method := { name := "checkIndex", desc := "(I[B)V", sig := { parameters := [.int, (.array .byte)], returnType := none }, accessFlags := 9, code := some k12c11 }
/-- java/lang/StringUTF16 -/
def k12 : Class := { plain "java/lang/StringUTF16" (some 0) with
  accessFlags := 48
  interfaces := #[]
  cf := some (fileOf pool12 12 #[.nestMembers #[627, 629, 369]] #[{ accessFlags := 0, nameIndex := 9, descriptorIndex := 10, attributes := #[] }, { accessFlags := 9, nameIndex := 109, descriptorIndex := 110, attributes := #[] }, { accessFlags := 9, nameIndex := 15, descriptorIndex := 16, attributes := #[] }, { accessFlags := 8, nameIndex := 113, descriptorIndex := 114, attributes := #[] }, { accessFlags := 8, nameIndex := 73, descriptorIndex := 74, attributes := #[] }, { accessFlags := 9, nameIndex := 50, descriptorIndex := 51, attributes := #[] }, { accessFlags := 9, nameIndex := 121, descriptorIndex := 122, attributes := #[] }, { accessFlags := 8, nameIndex := 261, descriptorIndex := 262, attributes := #[] }, { accessFlags := 9, nameIndex := 117, descriptorIndex := 122, attributes := #[] }, { accessFlags := 9, nameIndex := 117, descriptorIndex := 118, attributes := #[] }, { accessFlags := 9, nameIndex := 392, descriptorIndex := 74, attributes := #[] }, { accessFlags := 9, nameIndex := 69, descriptorIndex := 70, attributes := #[] }] 48 6 #[] #[{ accessFlags := 26, nameIndex := 61, descriptorIndex := 62, attributes := #[] }, { accessFlags := 26, nameIndex := 65, descriptorIndex := 62, attributes := #[] }, { accessFlags := 24, nameIndex := 430, descriptorIndex := 62, attributes := #[] }, { accessFlags := 4120, nameIndex := 46, descriptorIndex := 47, attributes := #[] }])
  fields := #[{ name := "HI_BYTE_SHIFT", type := .int, accessFlags := 26, slot := 0, constantValue := 0 }, { name := "LO_BYTE_SHIFT", type := .int, accessFlags := 26, slot := 1, constantValue := 0 }, { name := "MAX_LENGTH", type := .int, accessFlags := 24, slot := 2, constantValue := 0 }, { name := "$assertionsDisabled", type := .boolean, accessFlags := 4120, slot := 3, constantValue := 0 }]
  methods := #[k12m0, k12m1, k12m2, k12m3, k12m4, k12m5, k12m6, k12m7, k12m8, k12m9, k12m10, k12m11]
  instanceTypes := #[]
  staticTypes := #[.int, .int, .int, .boolean]
  resolved := Array.replicate 635 none
  statics := some 2 }

def pool13 : Array CpInfo := pool [(1, .class_ 2), (0, u "java/lang/String"), (1, .class_ 6), (1, u "java/lang/Object"), (0, u "<init>"), (0, u "()V"), (0, .methodref 1 10), (0, .nameAndType 11 12), (0, u "checkIndex"), (0, u "(II)V"), (1, .class_ 16), (1, u "java/lang/StringLatin1"), (36, u "([BI)C"), (67, u "$assertionsDisabled"), (0, u "Z"), (98, .class_ 223), (1, u "java/lang/StringLatin1$LinesSpliterator"), (28, u "charAt"), (137, .class_ 391), (0, u "java/lang/StringLatin1$CharsSpliterator")] 3

def k13m0 : Method := { name := "<init>", desc := "()V", sig := { parameters := [], returnType := none }, accessFlags := 0, code := none }
def k13c1 : Code := { maxStack := 2, maxLocals := 2, code := jdk_43_method_2_code, exceptionTable := #[], attributes := #[] }
def k13m1 : Method := { name := "charAt", desc := "([BI)C", sig := { parameters := [(.array .byte), .int], returnType := some .char }, accessFlags := 9, code := some k13c1 }
/-- java/lang/StringLatin1 -/
def k13 : Class := { plain "java/lang/StringLatin1" (some 0) with
  accessFlags := 48
  interfaces := #[]
  cf := some (fileOf pool13 14 #[.nestMembers #[390, 221]] #[{ accessFlags := 0, nameIndex := 7, descriptorIndex := 8, attributes := #[] }, { accessFlags := 9, nameIndex := 252, descriptorIndex := 53, attributes := #[] }] 48 4 #[] #[{ accessFlags := 4120, nameIndex := 121, descriptorIndex := 122, attributes := #[] }])
  fields := #[{ name := "$assertionsDisabled", type := .boolean, accessFlags := 4120, slot := 0, constantValue := 0 }]
  methods := #[k13m0, k13m1]
  instanceTypes := #[]
  staticTypes := #[.boolean]
  resolved := Array.replicate 395 none
  statics := none }

def pool14 : Array CpInfo := pool [(9, u "<init>"), (6, .class_ 18), (1, u "java/lang/Object"), (0, u "()V"), (1, .class_ 23), (1, u "jdk/internal/util/ArraysSupport"), (0, u "LOG2_ARRAY_LONG_INDEX_SCALE"), (0, u "I"), (2, u "U"), (0, u "Ljdk/internal/misc/Unsafe;"), (8, u "BIG_ENDIAN"), (0, u "Z"), (8, u "LOG2_BYTE_BIT_SIZE"), (4, u "LOG2_ARRAY_INT_INDEX_SCALE"), (54, u "JLA"), (0, u "Ljdk/internal/access/JavaLangAccess;"), (11, u "LOG2_ARRAY_BOOLEAN_INDEX_SCALE"), (9, u "LOG2_ARRAY_BYTE_INDEX_SCALE"), (5, u "LOG2_ARRAY_CHAR_INDEX_SCALE"), (5, u "LOG2_ARRAY_SHORT_INDEX_SCALE"), (18, u "LOG2_ARRAY_FLOAT_INDEX_SCALE"), (24, u "LOG2_ARRAY_DOUBLE_INDEX_SCALE"), (89, u "T_BOOLEAN"), (2, u "T_CHAR"), (1, u "T_FLOAT"), (1, u "T_DOUBLE"), (1, u "T_BYTE"), (1, u "T_SHORT"), (1, u "T_INT"), (1, u "T_LONG"), (1, u "SOFT_MAX_ARRAY_LENGTH")] 83

def k14m0 : Method := { name := "<init>", desc := "()V", sig := { parameters := [], returnType := none }, accessFlags := 2, code := none }
/-- jdk/internal/util/ArraysSupport -/
def k14 : Class := { plain "jdk/internal/util/ArraysSupport" (some 0) with
  accessFlags := 33
  interfaces := #[]
  cf := some (fileOf pool14 21 #[] #[{ accessFlags := 2, nameIndex := 9, descriptorIndex := 19, attributes := #[] }] 33 16 #[] #[{ accessFlags := 24, nameIndex := 28, descriptorIndex := 29, attributes := #[] }, { accessFlags := 26, nameIndex := 38, descriptorIndex := 39, attributes := #[] }, { accessFlags := 25, nameIndex := 121, descriptorIndex := 25, attributes := #[] }, { accessFlags := 25, nameIndex := 131, descriptorIndex := 25, attributes := #[] }, { accessFlags := 25, nameIndex := 137, descriptorIndex := 25, attributes := #[] }, { accessFlags := 25, nameIndex := 143, descriptorIndex := 25, attributes := #[] }, { accessFlags := 25, nameIndex := 53, descriptorIndex := 25, attributes := #[] }, { accessFlags := 25, nameIndex := 24, descriptorIndex := 25, attributes := #[] }, { accessFlags := 25, nameIndex := 162, descriptorIndex := 25, attributes := #[] }, { accessFlags := 25, nameIndex := 187, descriptorIndex := 25, attributes := #[] }, { accessFlags := 26, nameIndex := 48, descriptorIndex := 25, attributes := #[] }, { accessFlags := 25, nameIndex := 277, descriptorIndex := 25, attributes := #[] }, { accessFlags := 25, nameIndex := 280, descriptorIndex := 25, attributes := #[] }, { accessFlags := 25, nameIndex := 282, descriptorIndex := 25, attributes := #[] }, { accessFlags := 25, nameIndex := 284, descriptorIndex := 25, attributes := #[] }, { accessFlags := 25, nameIndex := 286, descriptorIndex := 25, attributes := #[] }, { accessFlags := 25, nameIndex := 288, descriptorIndex := 25, attributes := #[] }, { accessFlags := 25, nameIndex := 290, descriptorIndex := 25, attributes := #[] }, { accessFlags := 25, nameIndex := 292, descriptorIndex := 25, attributes := #[] }, { accessFlags := 26, nameIndex := 108, descriptorIndex := 109, attributes := #[] }, { accessFlags := 25, nameIndex := 294, descriptorIndex := 25, attributes := #[] }])
  fields := #[{ name := "U", type := (.object "jdk/internal/misc/Unsafe"), accessFlags := 24, slot := 0, constantValue := 0 }, { name := "BIG_ENDIAN", type := .boolean, accessFlags := 26, slot := 1, constantValue := 0 }, { name := "LOG2_ARRAY_BOOLEAN_INDEX_SCALE", type := .int, accessFlags := 25, slot := 2, constantValue := 0 }, { name := "LOG2_ARRAY_BYTE_INDEX_SCALE", type := .int, accessFlags := 25, slot := 3, constantValue := 0 }, { name := "LOG2_ARRAY_CHAR_INDEX_SCALE", type := .int, accessFlags := 25, slot := 4, constantValue := 0 }, { name := "LOG2_ARRAY_SHORT_INDEX_SCALE", type := .int, accessFlags := 25, slot := 5, constantValue := 0 }, { name := "LOG2_ARRAY_INT_INDEX_SCALE", type := .int, accessFlags := 25, slot := 6, constantValue := 0 }, { name := "LOG2_ARRAY_LONG_INDEX_SCALE", type := .int, accessFlags := 25, slot := 7, constantValue := 0 }, { name := "LOG2_ARRAY_FLOAT_INDEX_SCALE", type := .int, accessFlags := 25, slot := 8, constantValue := 0 }, { name := "LOG2_ARRAY_DOUBLE_INDEX_SCALE", type := .int, accessFlags := 25, slot := 9, constantValue := 0 }, { name := "LOG2_BYTE_BIT_SIZE", type := .int, accessFlags := 26, slot := 10, constantValue := 0 }, { name := "T_BOOLEAN", type := .int, accessFlags := 25, slot := 11, constantValue := 0 }, { name := "T_CHAR", type := .int, accessFlags := 25, slot := 12, constantValue := 0 }, { name := "T_FLOAT", type := .int, accessFlags := 25, slot := 13, constantValue := 0 }, { name := "T_DOUBLE", type := .int, accessFlags := 25, slot := 14, constantValue := 0 }, { name := "T_BYTE", type := .int, accessFlags := 25, slot := 15, constantValue := 0 }, { name := "T_SHORT", type := .int, accessFlags := 25, slot := 16, constantValue := 0 }, { name := "T_INT", type := .int, accessFlags := 25, slot := 17, constantValue := 0 }, { name := "T_LONG", type := .int, accessFlags := 25, slot := 18, constantValue := 0 }, { name := "JLA", type := (.object "jdk/internal/access/JavaLangAccess"), accessFlags := 26, slot := 19, constantValue := 0 }, { name := "SOFT_MAX_ARRAY_LENGTH", type := .int, accessFlags := 25, slot := 20, constantValue := 0 }]
  methods := #[k14m0]
  instanceTypes := #[]
  staticTypes := #[(.object "jdk/internal/misc/Unsafe"), .boolean, .int, .int, .int, .int, .int, .int, .int, .int, .int, .int, .int, .int, .int, .int, .int, .int, .int, (.object "jdk/internal/access/JavaLangAccess"), .int]
  resolved := Array.replicate 378 none
  statics := none }

def pool15 : Array CpInfo := pool [(1, u "java/lang/Cloneable"), (0, .class_ 1), (0, u "java/lang/Object"), (0, .class_ 3)] 3

/-- java/lang/Cloneable -/
def k15 : Class := { plain "java/lang/Cloneable" (some 0) with
  accessFlags := 1537
  interfaces := #[]
  cf := some (fileOf pool15 2 #[] #[] 1537 4 #[] #[])
  fields := #[]
  methods := #[]
  instanceTypes := #[]
  staticTypes := #[]
  resolved := Array.replicate 8 none
  statics := none }

/-- the primitive byte -/
def k16 : Class := { plain "byte" none with kind := .primitive 'B', accessFlags := 0x411 }
/-- [B -/
def k17 : Class := { plain "[B" (some 0) with kind := .array 16 .byte, interfaces := #[15, 5], accessFlags := 1041 }

/-- the primitive char -/
def k18 : Class := { plain "char" none with kind := .primitive 'C', accessFlags := 0x411 }
/-- [C -/
def k19 : Class := { plain "[C" (some 0) with kind := .array 18 .char, interfaces := #[15, 5], accessFlags := 1041 }

/-- the primitive int -/
def k20 : Class := { plain "int" none with kind := .primitive 'I', accessFlags := 0x411 }
/-- [I -/
def k21 : Class := { plain "[I" (some 0) with kind := .array 20 .int, interfaces := #[15, 5], accessFlags := 1041 }

def heap : Heap := #[{ cls := 10, slots := #[.long 0, .int 1, .null, .int 0, .null, .int 0, .int 0], vm := .statics 10 },
  { cls := 11, slots := #[.null, .null, .null], vm := .statics 11 },
  { cls := 12, slots := #[.int 0, .int 8, .int 0, .int 1], vm := .statics 12 }]
def classes : Array Class := #[k0, k1, k2, k3, k4, k5, k6, k7, k8, k9, k10, k11, k12, k13, k14, k15, k16, k17, k18, k19, k20, k21]
def interned : List (Array UInt16 × Addr) := []
def slotsUsed : Nat := 14
def theMethod : MethodId := ⟨1, 3⟩
def args0 : Array Value := #[.int 5, .int 2, .int 9, .int 1, .int 37]
def aboutOver (below : List Frame) : State where
  vm := { classes := classes, interned := interned.toArray }
  heap := heap
  slotsUsed := slotsUsed
  threads := #[{ frames := .invoking theMethod args0 :: below }]
def below0 : List Frame := [.native { method := ⟨0, 0⟩, args := #[] }]
def about1 : State := aboutOver below0
def p0 : Program := .bare "" "" ""
def e0 : Env := launch0.env 0 0 0
theorem w_frames : about1.frames = Frame.invoking theMethod args0 :: below0 := rfl
set_option maxRecDepth 65536 in
theorem w_args : argsFit about1.vm theMethod args0 = true := by decide +kernel
set_option maxRecDepth 65536 in
theorem w_heap : heapFits about1 = true := by decide +kernel
set_option maxRecDepth 65536 in
theorem w_runnable : about1.curStatus? = some .runnable := by decide +kernel
set_option maxRecDepth 65536 in
theorem w_alone : about1.alone = true := by decide +kernel
set_option maxRecDepth 65536 in
theorem w_named : about1.methodNamed? x = some theMethod := by decide +kernel
set_option maxRecDepth 65536 in
theorem w_hears : about1.hears theMethod below0 = true := by decide +kernel
set_option maxRecDepth 65536 in
theorem w_ripe : about1.ripe theMethod args0 below0 = true := by decide +kernel
theorem w_running : about1.status = .running := rfl
set_option maxRecDepth 65536 in
theorem w_room : about1.hasRoom e0.platform room_1 = true :=
  launch0.hasRoom_least _ room_1 (by decide +kernel) (by decide +kernel) (by decide +kernel) (by decide +kernel) (by decide +kernel) (by decide +kernel)
theorem allAtoms_all (ts : List Jvm.Cond) (a : Array Jvm.Value) (st : Jvm.State) : (allAtoms ts).before a st = ts.all (fun c => c.before a st) := by
  induction ts with
  | nil => rfl
  | cons c t ih =>
    show (Jvm.Cond.and c (allAtoms t)).before a st = _
    rw [Jvm.Cond.before_and, ih, List.all_cons]
def words1 : List Jvm.Cond := Jvm.Cond.code x code maxLocals ret :: tables_1
/-- a 'code' word, met by the world's own term for the bytes: nothing is compared byte by byte -/
theorem code_word {y : MethodName} {bytes : ByteArray} {mx : Nat} {rt : Option FieldType} {a : Array Value} {s : State} {m : MethodId} {meth : Method} {c : Code} (h1 : s.methodNamed? y = some m) (h2 : s.vm.method? m = some meth) (h3 : meth.code = some c) (h4 : c.code = bytes)
    (h5 : (c.maxLocals == mx && c.exceptionTable.isEmpty && decide (c.maxStack ≤ mostOperands) && decide (meth.sig.returnType = rt) && !meth.locks && decide (parseMethodDescriptor y.desc = some meth.sig)) = true) : (Jvm.Cond.code y bytes mx rt).before a s = true := by
  simp only [Bool.and_eq_true, beq_iff_eq, Bool.not_eq_true', decide_eq_true_eq] at h5
  obtain ⟨⟨⟨⟨⟨g1, g2⟩, g3⟩, g4⟩, g5⟩, g6⟩ := h5
  simp [Cond.before, Cond.holds, Cond.value, h1, h2, h3, h4, g1, g2, g3, g4, g5, g6]
def isCode : Jvm.Cond → Bool
  | .code _ _ _ _ => true
  | _ => false
theorem all_split {L : List Jvm.Cond} {P : Jvm.Cond → Bool} (h1 : L.all (fun c => isCode c || P c) = true) (h2 : ∀ c ∈ L.filter isCode, P c = true) : L.all P = true := by
  refine List.all_eq_true.mpr fun c hc => ?_
  have h := List.all_eq_true.mp h1 c hc
  rcases Bool.eq_false_or_eq_true (isCode c) with hi | hi
  · exact h2 c (List.mem_filter.mpr ⟨hc, hi⟩)
  · simpa [hi] using h
set_option maxRecDepth 65536 in
theorem w_c0 : (Jvm.Cond.code x code maxLocals ret).before args0 about1 = true := code_word (m := ⟨1, 3⟩) (meth := k1m3) (c := k1c3) (by decide +kernel) rfl rfl rfl (by decide +kernel)
set_option maxRecDepth 65536 in
theorem w_c1 : (Jvm.Cond.code ({ cls := "com/example/mappa/mappa/core/FieldTextTextPinLaw", name := "ch", desc := "(I)C" } : Jvm.MethodName) method_3_code (2 : Nat) (Option.some Jvm.ClassFile.FieldType.char)).before args0 about1 = true := code_word (m := ⟨1, 2⟩) (meth := k1m2) (c := k1c2) (by decide +kernel) rfl rfl rfl (by decide +kernel)
set_option maxRecDepth 65536 in
theorem w_c2 : (Jvm.Cond.code ({ cls := "com/example/mappa/mappa/core/FieldText", name := "<init>", desc := "(III)V" } : Jvm.MethodName) prog_32_method_1_code (4 : Nat) (Option.none : Option Jvm.ClassFile.FieldType)).before args0 about1 = true := code_word (m := ⟨2, 0⟩) (meth := k2m0) (c := k2c0) (by decide +kernel) rfl rfl rfl (by decide +kernel)
set_option maxRecDepth 65536 in
theorem w_c3 : (Jvm.Cond.code ({ cls := "java/lang/Object", name := "<init>", desc := "()V" } : Jvm.MethodName) object_method_1_code (1 : Nat) (Option.none : Option Jvm.ClassFile.FieldType)).before args0 about1 = true := code_word (m := ⟨0, 0⟩) (meth := k0m0) (c := k0c0) (by decide +kernel) rfl rfl rfl (by decide +kernel)
set_option maxRecDepth 65536 in
theorem w_c4 : (Jvm.Cond.code ({ cls := "com/example/mappa/mappa/core/FieldText", name := "restart", desc := "(III)Lcom/example/mappa/mappa/core/FieldText;" } : Jvm.MethodName) prog_32_method_2_code (4 : Nat) (Option.some (Jvm.ClassFile.FieldType.object "com/example/mappa/mappa/core/FieldText"))).before args0 about1 = true := code_word (m := ⟨2, 1⟩) (meth := k2m1) (c := k2c1) (by decide +kernel) rfl rfl rfl (by decide +kernel)
set_option maxRecDepth 65536 in
theorem w_c5 : (Jvm.Cond.code ({ cls := "com/example/mappa/mappa/core/FieldText", name := "append", desc := "([CII)V" } : Jvm.MethodName) prog_32_method_7_code (4 : Nat) (Option.none : Option Jvm.ClassFile.FieldType)).before args0 about1 = true := code_word (m := ⟨2, 2⟩) (meth := k2m2) (c := k2c2) (by decide +kernel) rfl rfl rfl (by decide +kernel)
set_option maxRecDepth 65536 in
theorem w_c6 : (Jvm.Cond.code ({ cls := "com/example/mappa/mappa/core/FieldText", name := "append", desc := "([CIII)I" } : Jvm.MethodName) prog_32_method_8_code (9 : Nat) (Option.some Jvm.ClassFile.FieldType.int)).before args0 about1 = true := code_word (m := ⟨2, 3⟩) (meth := k2m3) (c := k2c3) (by decide +kernel) rfl rfl rfl (by decide +kernel)
set_option maxRecDepth 65536 in
theorem w_c7 : (Jvm.Cond.code ({ cls := "java/lang/Math", name := "min", desc := "(II)I" } : Jvm.MethodName) jdk_29_method_69_code (2 : Nat) (Option.some Jvm.ClassFile.FieldType.int)).before args0 about1 = true := code_word (m := ⟨3, 1⟩) (meth := k3m1) (c := k3c1) (by decide +kernel) rfl rfl rfl (by decide +kernel)
set_option maxRecDepth 65536 in
theorem w_c8 : (Jvm.Cond.code ({ cls := "com/example/mappa/mappa/core/FieldText", name := "text", desc := "()Ljava/lang/String;" } : Jvm.MethodName) prog_32_method_9_code (2 : Nat) (Option.some (Jvm.ClassFile.FieldType.object "java/lang/String"))).before args0 about1 = true := code_word (m := ⟨2, 4⟩) (meth := k2m4) (c := k2c4) (by decide +kernel) rfl rfl rfl (by decide +kernel)
set_option maxRecDepth 65536 in
theorem w_c9 : (Jvm.Cond.code ({ cls := "java/lang/String", name := "<init>", desc := "([CII)V" } : Jvm.MethodName) jdk_42_method_4_code (4 : Nat) (Option.none : Option Jvm.ClassFile.FieldType)).before args0 about1 = true := code_word (m := ⟨10, 1⟩) (meth := k10m1) (c := k10c1) (by decide +kernel) rfl rfl rfl (by decide +kernel)
set_option maxRecDepth 65536 in
theorem w_c10 : (Jvm.Cond.code ({ cls := "java/lang/String", name := "rangeCheck", desc := "([CII)Ljava/lang/Void;" } : Jvm.MethodName) jdk_42_method_5_code (3 : Nat) (Option.some (Jvm.ClassFile.FieldType.object "java/lang/Void"))).before args0 about1 = true := code_word (m := ⟨10, 2⟩) (meth := k10m2) (c := k10c2) (by decide +kernel) rfl rfl rfl (by decide +kernel)
set_option maxRecDepth 65536 in
theorem w_c11 : (Jvm.Cond.code ({ cls := "java/lang/String", name := "checkBoundsOffCount", desc := "(III)I" } : Jvm.MethodName) jdk_42_method_157_code (3 : Nat) (Option.some Jvm.ClassFile.FieldType.int)).before args0 about1 = true := code_word (m := ⟨10, 9⟩) (meth := k10m9) (c := k10c9) (by decide +kernel) rfl rfl rfl (by decide +kernel)
set_option maxRecDepth 65536 in
theorem w_c12 : (Jvm.Cond.code ({ cls := "jdk/internal/util/Preconditions", name := "checkFromIndexSize", desc := "(IIILjava/util/function/BiFunction;)I" } : Jvm.MethodName) jdk_41_method_13_code (4 : Nat) (Option.some Jvm.ClassFile.FieldType.int)).before args0 about1 = true := code_word (m := ⟨11, 2⟩) (meth := k11m2) (c := k11c2) (by decide +kernel) rfl rfl rfl (by decide +kernel)
set_option maxRecDepth 65536 in
theorem w_c13 : (Jvm.Cond.code ({ cls := "java/lang/String", name := "<init>", desc := "([CIILjava/lang/Void;)V" } : Jvm.MethodName) jdk_42_method_149_code (6 : Nat) (Option.none : Option Jvm.ClassFile.FieldType)).before args0 about1 = true := code_word (m := ⟨10, 5⟩) (meth := k10m5) (c := k10c5) (by decide +kernel) rfl rfl rfl (by decide +kernel)
set_option maxRecDepth 65536 in
theorem w_c14 : (Jvm.Cond.code ({ cls := "java/lang/String", name := "length", desc := "()I" } : Jvm.MethodName) jdk_42_method_54_code (1 : Nat) (Option.some Jvm.ClassFile.FieldType.int)).before args0 about1 = true := code_word (m := ⟨10, 3⟩) (meth := k10m3) (c := k10c3) (by decide +kernel) rfl rfl rfl (by decide +kernel)
set_option maxRecDepth 65536 in
theorem w_c15 : (Jvm.Cond.code ({ cls := "java/lang/String", name := "coder", desc := "()B" } : Jvm.MethodName) jdk_42_method_152_code (1 : Nat) (Option.some Jvm.ClassFile.FieldType.byte)).before args0 about1 = true := code_word (m := ⟨10, 6⟩) (meth := k10m6) (c := k10c6) (by decide +kernel) rfl rfl rfl (by decide +kernel)
set_option maxRecDepth 65536 in
theorem w_c16 : (Jvm.Cond.code ({ cls := "com/example/mappa/mappa/core/FieldText", name := "isXmlSpace", desc := "(C)Z" } : Jvm.MethodName) prog_32_method_11_code (1 : Nat) (Option.some Jvm.ClassFile.FieldType.boolean)).before args0 about1 = true := code_word (m := ⟨2, 5⟩) (meth := k2m5) (c := k2c5) (by decide +kernel) rfl rfl rfl (by decide +kernel)
set_option maxRecDepth 65536 in
theorem w_c17 : (Jvm.Cond.code ({ cls := "java/lang/StringUTF16", name := "compress", desc := "([CII)[B" } : Jvm.MethodName) jdk_52_method_16_code (6 : Nat) (Option.some (Jvm.ClassFile.FieldType.array Jvm.ClassFile.FieldType.byte))).before args0 about1 = true := code_word (m := ⟨12, 8⟩) (meth := k12m8) (c := k12c8) (by decide +kernel) rfl rfl rfl (by decide +kernel)
set_option maxRecDepth 65536 in
theorem w_c18 : (Jvm.Cond.code ({ cls := "java/lang/StringUTF16", name := "compress", desc := "([CI[BII)I" } : Jvm.MethodName) jdk_52_method_21_code (7 : Nat) (Option.some Jvm.ClassFile.FieldType.int)).before args0 about1 = true := code_word (m := ⟨12, 9⟩) (meth := k12m9) (c := k12c9) (by decide +kernel) rfl rfl rfl (by decide +kernel)
set_option maxRecDepth 65536 in
theorem w_c19 : (Jvm.Cond.code ({ cls := "java/lang/StringUTF16", name := "toBytes", desc := "([CII)[B" } : Jvm.MethodName) jdk_52_method_14_code (5 : Nat) (Option.some (Jvm.ClassFile.FieldType.array Jvm.ClassFile.FieldType.byte))).before args0 about1 = true := code_word (m := ⟨12, 6⟩) (meth := k12m6) (c := k12c6) (by decide +kernel) rfl rfl rfl (by decide +kernel)
set_option maxRecDepth 65536 in
theorem w_c20 : (Jvm.Cond.code ({ cls := "java/lang/StringUTF16", name := "newBytesFor", desc := "(I)[B" } : Jvm.MethodName) jdk_52_method_2_code (1 : Nat) (Option.some (Jvm.ClassFile.FieldType.array Jvm.ClassFile.FieldType.byte))).before args0 about1 = true := code_word (m := ⟨12, 1⟩) (meth := k12m1) (c := k12c1) (by decide +kernel) rfl rfl rfl (by decide +kernel)
set_option maxRecDepth 65536 in
theorem w_c21 : (Jvm.Cond.code ({ cls := "java/lang/StringUTF16", name := "newBytesLength", desc := "(I)I" } : Jvm.MethodName) jdk_52_method_3_code (1 : Nat) (Option.some Jvm.ClassFile.FieldType.int)).before args0 about1 = true := code_word (m := ⟨12, 2⟩) (meth := k12m2) (c := k12c2) (by decide +kernel) rfl rfl rfl (by decide +kernel)
set_option maxRecDepth 65536 in
theorem w_c22 : (Jvm.Cond.code ({ cls := "java/lang/StringUTF16", name := "putChar", desc := "([BII)V" } : Jvm.MethodName) jdk_52_method_4_code (3 : Nat) (Option.none : Option Jvm.ClassFile.FieldType)).before args0 about1 = true := code_word (m := ⟨12, 3⟩) (meth := k12m3) (c := k12c3) (by decide +kernel) rfl rfl rfl (by decide +kernel)
set_option maxRecDepth 65536 in
theorem w_c23 : (Jvm.Cond.code ({ cls := "java/lang/StringUTF16", name := "getChar", desc := "([BI)C" } : Jvm.MethodName) jdk_52_method_5_code (2 : Nat) (Option.some Jvm.ClassFile.FieldType.char)).before args0 about1 = true := code_word (m := ⟨12, 4⟩) (meth := k12m4) (c := k12c4) (by decide +kernel) rfl rfl rfl (by decide +kernel)
set_option maxRecDepth 65536 in
theorem w_c24 : (Jvm.Cond.code ({ cls := "java/lang/StringUTF16", name := "coderFromArrayLen", desc := "([BI)B" } : Jvm.MethodName) jdk_52_method_15_code (2 : Nat) (Option.some Jvm.ClassFile.FieldType.byte)).before args0 about1 = true := code_word (m := ⟨12, 7⟩) (meth := k12m7) (c := k12c7) (by decide +kernel) rfl rfl rfl (by decide +kernel)
set_option maxRecDepth 65536 in
theorem w_c25 : (Jvm.Cond.code ({ cls := "com/example/mappa/mappa/core/FieldTextTextPinLaw", name := "sp", desc := "(C)Z" } : Jvm.MethodName) method_2_code (1 : Nat) (Option.some Jvm.ClassFile.FieldType.boolean)).before args0 about1 = true := code_word (m := ⟨1, 1⟩) (meth := k1m1) (c := k1c1) (by decide +kernel) rfl rfl rfl (by decide +kernel)
set_option maxRecDepth 65536 in
theorem w_c26 : (Jvm.Cond.code ({ cls := "java/lang/String", name := "charAt", desc := "(I)C" } : Jvm.MethodName) jdk_42_method_56_code (2 : Nat) (Option.some Jvm.ClassFile.FieldType.char)).before args0 about1 = true := code_word (m := ⟨10, 4⟩) (meth := k10m4) (c := k10c4) (by decide +kernel) rfl rfl rfl (by decide +kernel)
set_option maxRecDepth 65536 in
theorem w_c27 : (Jvm.Cond.code ({ cls := "java/lang/String", name := "isLatin1", desc := "()Z" } : Jvm.MethodName) jdk_42_method_154_code (1 : Nat) (Option.some Jvm.ClassFile.FieldType.boolean)).before args0 about1 = true := code_word (m := ⟨10, 7⟩) (meth := k10m7) (c := k10c7) (by decide +kernel) rfl rfl rfl (by decide +kernel)
set_option maxRecDepth 65536 in
theorem w_c28 : (Jvm.Cond.code ({ cls := "java/lang/StringUTF16", name := "charAt", desc := "([BI)C" } : Jvm.MethodName) jdk_52_method_83_code (2 : Nat) (Option.some Jvm.ClassFile.FieldType.char)).before args0 about1 = true := code_word (m := ⟨12, 10⟩) (meth := k12m10) (c := k12c10) (by decide +kernel) rfl rfl rfl (by decide +kernel)
set_option maxRecDepth 65536 in
theorem w_c29 : (Jvm.Cond.code ({ cls := "java/lang/StringUTF16", name := "checkIndex", desc := "(I[B)V" } : Jvm.MethodName) jdk_52_method_91_code (2 : Nat) (Option.none : Option Jvm.ClassFile.FieldType)).before args0 about1 = true := code_word (m := ⟨12, 11⟩) (meth := k12m11) (c := k12c11) (by decide +kernel) rfl rfl rfl (by decide +kernel)
set_option maxRecDepth 65536 in
theorem w_c30 : (Jvm.Cond.code ({ cls := "java/lang/StringUTF16", name := "length", desc := "([B)I" } : Jvm.MethodName) jdk_52_method_6_code (1 : Nat) (Option.some Jvm.ClassFile.FieldType.int)).before args0 about1 = true := code_word (m := ⟨12, 5⟩) (meth := k12m5) (c := k12c5) (by decide +kernel) rfl rfl rfl (by decide +kernel)
set_option maxRecDepth 65536 in
theorem w_c31 : (Jvm.Cond.code ({ cls := "java/lang/String", name := "checkIndex", desc := "(II)V" } : Jvm.MethodName) jdk_42_method_155_code (2 : Nat) (Option.none : Option Jvm.ClassFile.FieldType)).before args0 about1 = true := code_word (m := ⟨10, 8⟩) (meth := k10m8) (c := k10c8) (by decide +kernel) rfl rfl rfl (by decide +kernel)
set_option maxRecDepth 65536 in
theorem w_c32 : (Jvm.Cond.code ({ cls := "jdk/internal/util/Preconditions", name := "checkIndex", desc := "(IILjava/util/function/BiFunction;)I" } : Jvm.MethodName) jdk_41_method_11_code (3 : Nat) (Option.some Jvm.ClassFile.FieldType.int)).before args0 about1 = true := code_word (m := ⟨11, 1⟩) (meth := k11m1) (c := k11c1) (by decide +kernel) rfl rfl rfl (by decide +kernel)
set_option maxRecDepth 65536 in
theorem w_c33 : (Jvm.Cond.code ({ cls := "java/lang/StringLatin1", name := "charAt", desc := "([BI)C" } : Jvm.MethodName) jdk_43_method_2_code (2 : Nat) (Option.some Jvm.ClassFile.FieldType.char)).before args0 about1 = true := code_word (m := ⟨13, 1⟩) (meth := k13m1) (c := k13c1) (by decide +kernel) rfl rfl rfl (by decide +kernel)
def codes1 : List Jvm.Cond := [Jvm.Cond.code x code maxLocals ret, Jvm.Cond.code ({ cls := "com/example/mappa/mappa/core/FieldTextTextPinLaw", name := "ch", desc := "(I)C" } : Jvm.MethodName) method_3_code (2 : Nat) (Option.some Jvm.ClassFile.FieldType.char), Jvm.Cond.code ({ cls := "com/example/mappa/mappa/core/FieldText", name := "<init>", desc := "(III)V" } : Jvm.MethodName) prog_32_method_1_code (4 : Nat) (Option.none : Option Jvm.ClassFile.FieldType), Jvm.Cond.code ({ cls := "java/lang/Object", name := "<init>", desc := "()V" } : Jvm.MethodName) object_method_1_code (1 : Nat) (Option.none : Option Jvm.ClassFile.FieldType), Jvm.Cond.code ({ cls := "com/example/mappa/mappa/core/FieldText", name := "restart", desc := "(III)Lcom/example/mappa/mappa/core/FieldText;" } : Jvm.MethodName) prog_32_method_2_code (4 : Nat) (Option.some (Jvm.ClassFile.FieldType.object "com/example/mappa/mappa/core/FieldText")), Jvm.Cond.code ({ cls := "com/example/mappa/mappa/core/FieldText", name := "append", desc := "([CII)V" } : Jvm.MethodName) prog_32_method_7_code (4 : Nat) (Option.none : Option Jvm.ClassFile.FieldType), Jvm.Cond.code ({ cls := "com/example/mappa/mappa/core/FieldText", name := "append", desc := "([CIII)I" } : Jvm.MethodName) prog_32_method_8_code (9 : Nat) (Option.some Jvm.ClassFile.FieldType.int), Jvm.Cond.code ({ cls := "java/lang/Math", name := "min", desc := "(II)I" } : Jvm.MethodName) jdk_29_method_69_code (2 : Nat) (Option.some Jvm.ClassFile.FieldType.int), Jvm.Cond.code ({ cls := "com/example/mappa/mappa/core/FieldText", name := "text", desc := "()Ljava/lang/String;" } : Jvm.MethodName) prog_32_method_9_code (2 : Nat) (Option.some (Jvm.ClassFile.FieldType.object "java/lang/String")), Jvm.Cond.code ({ cls := "java/lang/String", name := "<init>", desc := "([CII)V" } : Jvm.MethodName) jdk_42_method_4_code (4 : Nat) (Option.none : Option Jvm.ClassFile.FieldType), Jvm.Cond.code ({ cls := "java/lang/String", name := "rangeCheck", desc := "([CII)Ljava/lang/Void;" } : Jvm.MethodName) jdk_42_method_5_code (3 : Nat) (Option.some (Jvm.ClassFile.FieldType.object "java/lang/Void")), Jvm.Cond.code ({ cls := "java/lang/String", name := "checkBoundsOffCount", desc := "(III)I" } : Jvm.MethodName) jdk_42_method_157_code (3 : Nat) (Option.some Jvm.ClassFile.FieldType.int), Jvm.Cond.code ({ cls := "jdk/internal/util/Preconditions", name := "checkFromIndexSize", desc := "(IIILjava/util/function/BiFunction;)I" } : Jvm.MethodName) jdk_41_method_13_code (4 : Nat) (Option.some Jvm.ClassFile.FieldType.int), Jvm.Cond.code ({ cls := "java/lang/String", name := "<init>", desc := "([CIILjava/lang/Void;)V" } : Jvm.MethodName) jdk_42_method_149_code (6 : Nat) (Option.none : Option Jvm.ClassFile.FieldType), Jvm.Cond.code ({ cls := "java/lang/String", name := "length", desc := "()I" } : Jvm.MethodName) jdk_42_method_54_code (1 : Nat) (Option.some Jvm.ClassFile.FieldType.int), Jvm.Cond.code ({ cls := "java/lang/String", name := "coder", desc := "()B" } : Jvm.MethodName) jdk_42_method_152_code (1 : Nat) (Option.some Jvm.ClassFile.FieldType.byte), Jvm.Cond.code ({ cls := "com/example/mappa/mappa/core/FieldText", name := "isXmlSpace", desc := "(C)Z" } : Jvm.MethodName) prog_32_method_11_code (1 : Nat) (Option.some Jvm.ClassFile.FieldType.boolean), Jvm.Cond.code ({ cls := "java/lang/StringUTF16", name := "compress", desc := "([CII)[B" } : Jvm.MethodName) jdk_52_method_16_code (6 : Nat) (Option.some (Jvm.ClassFile.FieldType.array Jvm.ClassFile.FieldType.byte)), Jvm.Cond.code ({ cls := "java/lang/StringUTF16", name := "compress", desc := "([CI[BII)I" } : Jvm.MethodName) jdk_52_method_21_code (7 : Nat) (Option.some Jvm.ClassFile.FieldType.int), Jvm.Cond.code ({ cls := "java/lang/StringUTF16", name := "toBytes", desc := "([CII)[B" } : Jvm.MethodName) jdk_52_method_14_code (5 : Nat) (Option.some (Jvm.ClassFile.FieldType.array Jvm.ClassFile.FieldType.byte)), Jvm.Cond.code ({ cls := "java/lang/StringUTF16", name := "newBytesFor", desc := "(I)[B" } : Jvm.MethodName) jdk_52_method_2_code (1 : Nat) (Option.some (Jvm.ClassFile.FieldType.array Jvm.ClassFile.FieldType.byte)), Jvm.Cond.code ({ cls := "java/lang/StringUTF16", name := "newBytesLength", desc := "(I)I" } : Jvm.MethodName) jdk_52_method_3_code (1 : Nat) (Option.some Jvm.ClassFile.FieldType.int), Jvm.Cond.code ({ cls := "java/lang/StringUTF16", name := "putChar", desc := "([BII)V" } : Jvm.MethodName) jdk_52_method_4_code (3 : Nat) (Option.none : Option Jvm.ClassFile.FieldType), Jvm.Cond.code ({ cls := "java/lang/StringUTF16", name := "getChar", desc := "([BI)C" } : Jvm.MethodName) jdk_52_method_5_code (2 : Nat) (Option.some Jvm.ClassFile.FieldType.char), Jvm.Cond.code ({ cls := "java/lang/StringUTF16", name := "coderFromArrayLen", desc := "([BI)B" } : Jvm.MethodName) jdk_52_method_15_code (2 : Nat) (Option.some Jvm.ClassFile.FieldType.byte), Jvm.Cond.code ({ cls := "com/example/mappa/mappa/core/FieldTextTextPinLaw", name := "sp", desc := "(C)Z" } : Jvm.MethodName) method_2_code (1 : Nat) (Option.some Jvm.ClassFile.FieldType.boolean), Jvm.Cond.code ({ cls := "java/lang/String", name := "charAt", desc := "(I)C" } : Jvm.MethodName) jdk_42_method_56_code (2 : Nat) (Option.some Jvm.ClassFile.FieldType.char), Jvm.Cond.code ({ cls := "java/lang/String", name := "isLatin1", desc := "()Z" } : Jvm.MethodName) jdk_42_method_154_code (1 : Nat) (Option.some Jvm.ClassFile.FieldType.boolean), Jvm.Cond.code ({ cls := "java/lang/StringUTF16", name := "charAt", desc := "([BI)C" } : Jvm.MethodName) jdk_52_method_83_code (2 : Nat) (Option.some Jvm.ClassFile.FieldType.char), Jvm.Cond.code ({ cls := "java/lang/StringUTF16", name := "checkIndex", desc := "(I[B)V" } : Jvm.MethodName) jdk_52_method_91_code (2 : Nat) (Option.none : Option Jvm.ClassFile.FieldType), Jvm.Cond.code ({ cls := "java/lang/StringUTF16", name := "length", desc := "([B)I" } : Jvm.MethodName) jdk_52_method_6_code (1 : Nat) (Option.some Jvm.ClassFile.FieldType.int), Jvm.Cond.code ({ cls := "java/lang/String", name := "checkIndex", desc := "(II)V" } : Jvm.MethodName) jdk_42_method_155_code (2 : Nat) (Option.none : Option Jvm.ClassFile.FieldType), Jvm.Cond.code ({ cls := "jdk/internal/util/Preconditions", name := "checkIndex", desc := "(IILjava/util/function/BiFunction;)I" } : Jvm.MethodName) jdk_41_method_11_code (3 : Nat) (Option.some Jvm.ClassFile.FieldType.int), Jvm.Cond.code ({ cls := "java/lang/StringLatin1", name := "charAt", desc := "([BI)C" } : Jvm.MethodName) jdk_43_method_2_code (2 : Nat) (Option.some Jvm.ClassFile.FieldType.char)]
set_option maxRecDepth 65536 in
theorem codes_eq : words1.filter isCode = codes1 := rfl
theorem w_codes : ∀ c ∈ words1.filter isCode, c.before args0 about1 = true := by
  rw [codes_eq]
  intro c hc
  simp only [codes1, List.mem_cons, List.not_mem_nil, or_false] at hc
  rcases hc with rfl | rfl | rfl | rfl | rfl | rfl | rfl | rfl | rfl | rfl | rfl | rfl | rfl | rfl | rfl | rfl | rfl | rfl | rfl | rfl | rfl | rfl | rfl | rfl | rfl | rfl | rfl | rfl | rfl | rfl | rfl | rfl | rfl | rfl
  · exact w_c0
  · exact w_c1
  · exact w_c2
  · exact w_c3
  · exact w_c4
  · exact w_c5
  · exact w_c6
  · exact w_c7
  · exact w_c8
  · exact w_c9
  · exact w_c10
  · exact w_c11
  · exact w_c12
  · exact w_c13
  · exact w_c14
  · exact w_c15
  · exact w_c16
  · exact w_c17
  · exact w_c18
  · exact w_c19
  · exact w_c20
  · exact w_c21
  · exact w_c22
  · exact w_c23
  · exact w_c24
  · exact w_c25
  · exact w_c26
  · exact w_c27
  · exact w_c28
  · exact w_c29
  · exact w_c30
  · exact w_c31
  · exact w_c32
  · exact w_c33
set_option maxRecDepth 65536 in
theorem w_t1 : (words1.take 24).all (fun c => isCode c || c.before args0 about1) = true := by decide +kernel
set_option maxRecDepth 65536 in
theorem w_t2 : ((words1.drop 24).take 24).all (fun c => isCode c || c.before args0 about1) = true := by decide +kernel
set_option maxRecDepth 65536 in
theorem w_t3 : (((words1.drop 24).drop 24).take 24).all (fun c => isCode c || c.before args0 about1) = true := by decide +kernel
set_option maxRecDepth 65536 in
theorem w_t4 : ((((words1.drop 24).drop 24).drop 24).take 24).all (fun c => isCode c || c.before args0 about1) = true := by decide +kernel
set_option maxRecDepth 65536 in
theorem w_t5 : (((((words1.drop 24).drop 24).drop 24).drop 24).take 24).all (fun c => isCode c || c.before args0 about1) = true := by decide +kernel
set_option maxRecDepth 65536 in
theorem w_t6 : ((((((words1.drop 24).drop 24).drop 24).drop 24).drop 24).take 24).all (fun c => isCode c || c.before args0 about1) = true := by decide +kernel
set_option maxRecDepth 65536 in
theorem w_t7 : ((((((words1.drop 24).drop 24).drop 24).drop 24).drop 24).drop 24).all (fun c => isCode c || c.before args0 about1) = true := by decide +kernel
theorem w_tables : (allAtoms (Jvm.Cond.code x code maxLocals ret :: tables_1)).before args0 about1 = true := by
  rw [allAtoms_all]
  show words1.all (fun c => c.before args0 about1) = true
  refine all_split ?_ w_codes
  rw [← List.take_append_drop 24 words1, List.all_append, w_t1, ← List.take_append_drop 24 (words1.drop 24), List.all_append, w_t2, ← List.take_append_drop 24 ((words1.drop 24).drop 24), List.all_append, w_t3, ← List.take_append_drop 24 (((words1.drop 24).drop 24).drop 24), List.all_append, w_t4, ← List.take_append_drop 24 ((((words1.drop 24).drop 24).drop 24).drop 24), List.all_append, w_t5, ← List.take_append_drop 24 (((((words1.drop 24).drop 24).drop 24).drop 24).drop 24), List.all_append, w_t6, w_t7]
  rfl
set_option maxRecDepth 65536 in
theorem w_rest : rest_1_c.before args0 about1 = true := by decide +kernel
set_option maxRecDepth 65536 in
theorem w_case : (Jvm.Cond.and given_1 narrow_1).before args0 about1 = true := by decide +kernel
set_option maxRecDepth 65536 in
theorem w_consts : constsHeld consts_1 about1 := Jvm.Lit.constsHeldB_iff.mp (by decide +kernel)
theorem w_applies : (headSpec (Jvm.Cond.code x code maxLocals ret :: tables_1) room_1).applies x e0.platform about1 = true :=
  (Spec.applies_iff w_frames).mpr ⟨w_running, w_runnable, w_alone, w_named, w_hears, w_ripe, w_room, w_tables⟩
theorem atStart : AtStart classFile x code maxLocals ret World_1 tables_1 room_1 Calls_1 rest_1 Pre_1 launch0 p0 e0 about1 theMethod args0 below0 :=
  ⟨lists_1, trivial, launch0.admits_env _ _ _, launch0.least_env, fairChoices_fair.cas, fairChoices_fair.clock, w_frames, w_args, w_heap, w_applies, ⟨w_consts, trivial⟩, w_rest, w_case⟩
end start1
theorem witness_1 : WitnessClaimed_1 := ⟨start1.p0, start1.e0, start1.about1, start1.theMethod, start1.args0, start1.below0, start1.atStart⟩
end Jvm.Pilot.@@N@@
