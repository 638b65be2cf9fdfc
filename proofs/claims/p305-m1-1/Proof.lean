import JvmDerived
import JvmDerived.Pilot.@@N@@Statement
import JvmDerived.Pilot.@@N@@Code
set_option linter.unusedVariables false
set_option linter.unusedSimpArgs false
namespace Jvm.GoKit
open Sem ClassFile Op Lib Jvm.Stand Jvm.Free Jvm.LawKit Jvm.RoadKit
/-! my own layer: a body's run in continuation style, over the library's Stand laws -/
def Val (P : Value → Heap → Prop) (v : Option Value) (h : Heap) : Prop := ∃ w, v = some w ∧ P w h
def Vd (P : Heap → Prop) (v : Option Value) (h : Heap) : Prop := v = none ∧ P h
def PV (w : Value) (h0 : Heap) (w' : Value) (h : Heap) : Prop := w = w' ∧ h0 = h
def Ctx (Z : State) (own : String) (code : ByteArray) (maxL : Nat) (ret : Option FieldType) (nm : String) (p : Program) (s : State) (m : MethodId) (meth : Method) (c : Code) : Prop :=
  p.tables.exec = Jvm.exec ∧ Z.Warmed39 s.vm ∧ s.vm.findClass own = some m.cls ∧ c.code = code ∧ c.maxLocals = maxL ∧ meth.sig.returnType = ret ∧ meth.locks = false ∧ meth.name = nm
def Go (p : Program) (e : Env) (below : List Frame) (s : State) (n0 K N : Nat) (Q : Option Value → Heap → Prop) (S : State) : Prop :=
  ∃ s₂ v L, Steps p.tables e below S s₂ ∧ s₂.status = .running ∧ Ended s₂ below (.returned v) ∧ (Q v s₂.heap ∧ Fr n0 L) ∧ FrameEnd s (.returned v) s₂ L K N
def Run (l : Launch) (Z : State) (n0 : Nat) (own : String) (code : ByteArray) (maxL : Nat) (ret : Option FieldType) (nm : String) (R : Room) (Q : Option Value → Heap → Prop) (pc : Nat) (Ls : Array Slot) (st : List Value) (h : Heap) (k n : Nat) : Prop :=
  ∀ (p : Program) (e : Env) (s : State) (m : MethodId) (args : Array Value) (below : List Frame) (meth : Method) (c : Code) (T : State) (locs : List Loc) (cells slots : Nat),
    Ctx Z own code maxL ret nm p s m meth c → Stand p l e R s m args below meth c T locs cells slots → T.heap = h → Fr n0 locs → cells ≤ k → slots ≤ n →
    Go p e below s n0 R.cells R.slots Q (T.setTop (mkF m pc Ls st))
def Con (l : Launch) (Z : State) (n0 : Nat) (y : MethodName) (bytes : ByteArray) (maxL : Nat) (ret : Option FieldType) (rm : Room) (as : Array Value) (h : Heap) (Q : Option Value → Heap → Prop) : Prop :=
  ∀ ws, MetFree l y (head1 (Cond.code y bytes maxL ret :: ws) rm) (fun a U => a = as ∧ Z.Warmed39 U.vm ∧ U.heap = h) (fun _ _ _ _ _ => True) (fun _ U o U' => ∃ v L, o = .returned v ∧ (Q v U'.heap ∧ Fr n0 L) ∧ FrameEnd U o U' L rm.cells rm.slots)
theorem Con.of_run {l : Launch} {Z : State} {n0 : Nat} {y : MethodName} {bytes : ByteArray} {maxL : Nat} {ret : Option FieldType} {rm : Room} {as : Array Value} {h : Heap} {Q : Option Value → Heap → Prop} {Ls : Array Slot}
    (hp : plainFor y = true) (he : ∀ m, entryFrame m as maxL = mkF m 0 Ls []) (run : Run l Z n0 y.cls bytes maxL ret y.name rm Q 0 Ls [] h 0 0) : Con l Z n0 y bytes maxL ret rm as h Q := by
  intro ws
  refine MetFree.of_bodySF hp hisR ?_
  intro p e s m args below meth c s₁ Bd hml0 hP hK
  obtain ⟨rfl, hZ, hh⟩ := hP
  obtain ⟨s₂, v, L, h1, h2, h3, h4, h5⟩ := run p e s m _ below meth c s₁ [] 0 0 ⟨Bd.exec, hZ, findClass_of_methodNamed Bd.named, Bd.bytes, hml0, Bd.returns, Bd.notSynchronized, (name_of_methodNamed Bd.named Bd.method).1⟩ (Stand.of_body Bd) (by rw [← hh, Bd.state]; rfl) (Fr.nil _) (Nat.zero_le _) (Nat.zero_le _)
  exact ⟨s₂, _, castTop (he m) h1, h2, h3, v, L, rfl, h4, h5⟩
theorem Con.mono {l : Launch} {Z : State} {n0 : Nat} {y : MethodName} {bytes : ByteArray} {maxL : Nat} {ret : Option FieldType} {rm : Room} {as : Array Value} {h : Heap} {Q Q' : Option Value → Heap → Prop}
    (H : Con l Z n0 y bytes maxL ret rm as h Q) (q : ∀ v h', Q v h' → Q' v h') : Con l Z n0 y bytes maxL ret rm as h Q' := by
  intro ws p e ha hc hk s m args below hf happ hP hK
  obtain ⟨n, o, h1, h2, h3, v, L, h4, h5, h6⟩ := H ws p e ha hc hk s m args below hf happ hP hK
  exact ⟨n, o, h1, h2, h3, v, L, h4, ⟨q _ _ h5.1, h5.2⟩, h6⟩
section Walk
variable {l : Launch} {Z : State} {n0 : Nat} {own : String} {code : ByteArray} {maxL : Nat} {ret : Option FieldType} {nm : String} {R : Room} {Q : Option Value → Heap → Prop} {pc pc' : Nat} {Ls : Array Slot} {st : List Value} {h : Heap} {k n k' n' : Nat}
theorem Run.via {Ls' : Array Slot} {st' : List Value} (f : ∀ (p : Program) (e : Env) (s : State) (m : MethodId) (args : Array Value) (below : List Frame) (meth : Method) (c : Code) (T : State) (locs : List Loc) (cells slots : Nat),
      Ctx Z own code maxL ret nm p s m meth c → Stand p l e R s m args below meth c T locs cells slots → T.heap = h → ∃ T', Stand p l e R s m args below meth c T' locs cells slots ∧ T'.heap = h ∧ ∀ t, Steps p.tables e below (T'.setTop (mkF m pc' Ls' st')) t → Steps p.tables e below (T.setTop (mkF m pc Ls st)) t)
    (nxt : Run l Z n0 own code maxL ret nm R Q pc' Ls' st' h k n) : Run l Z n0 own code maxL ret nm R Q pc Ls st h k n := by
  intro p e s m args below meth c T locs cells slots hC X eT hF hk hn
  obtain ⟨T', X', e', stp⟩ := f p e s m args below meth c T locs cells slots hC X eT
  obtain ⟨s₂, v, L, g1, g2⟩ := nxt p e s m args below meth c T' locs cells slots hC X' e' hF hk hn
  exact ⟨s₂, v, L, stp _ g1, g2⟩
theorem Run.stp {Ls' : Array Slot} {st' : List Value} (f : ∀ (p : Program) (e : Env) (below : List Frame) (T : State) (m : MethodId) (c : Code) (t : State), At T m c below → p.tables.exec = Jvm.exec → c.code = code → Steps p.tables e below (T.setTop (mkF m pc' Ls' st')) t → Steps p.tables e below (T.setTop (mkF m pc Ls st)) t)
    (nxt : Run l Z n0 own code maxL ret nm R Q pc' Ls' st' h k n) : Run l Z n0 own code maxL ret nm R Q pc Ls st h k n :=
  Run.via (fun p e s m args below meth c T locs cells slots hC X eT => ⟨T, X, eT, fun t q => f p e below T m c t X.here hC.1 hC.2.2.2.1 q⟩) nxt
theorem Run.more {ka na : Nat} (nxt : Run l Z n0 own code maxL ret nm R Q pc Ls st h k n) (h1 : ka ≤ k) (h2 : na ≤ n) : Run l Z n0 own code maxL ret nm R Q pc Ls st h ka na :=
  fun p e s m args below meth c T locs cells slots hC X eT hF hk hn => nxt p e s m args below meth c T locs cells slots hC X eT hF (Nat.le_trans hk h1) (Nat.le_trans hn h2)

theorem Run.iloadN {x : Fin 4} {v : Int32} (hd : decode code pc = .ok (.iload_n x, 1)) (hl : Ls[x.val]? = some (.val (.int v))) (hp : pc + 1 = pc') (nxt : Run l Z n0 own code maxL ret nm R Q pc' Ls (.int v :: st) h k n) : Run l Z n0 own code maxL ret nm R Q pc Ls st h k n := by
  subst hp
  exact Run.stp (fun p e below T m c t hA hx hc q => XS.iloadN hA hx rfl (hb hc hd) hl q) nxt
theorem Run.iload {x : Nat} {v : Int32} (hd : decode code pc = .ok (.iload x, 2)) (hl : Ls[x]? = some (.val (.int v))) (hp : pc + 2 = pc') (nxt : Run l Z n0 own code maxL ret nm R Q pc' Ls (.int v :: st) h k n) : Run l Z n0 own code maxL ret nm R Q pc Ls st h k n := by
  subst hp
  exact Run.stp (fun p e below T m c t hA hx hc q => XS.iload hA hx rfl (hb hc hd) hl q) nxt
theorem Run.lloadN {x : Fin 4} {v : Int64} (hd : decode code pc = .ok (.lload_n x, 1)) (hl : Ls[x.val]? = some (.val (.long v))) (hp : pc + 1 = pc') (nxt : Run l Z n0 own code maxL ret nm R Q pc' Ls (.long v :: st) h k n) : Run l Z n0 own code maxL ret nm R Q pc Ls st h k n := by
  subst hp
  exact Run.stp (fun p e below T m c t hA hx hc q => XT.lloadN hA hx rfl (hb hc hd) hl q) nxt
theorem Run.lload {x : Nat} {v : Int64} (hd : decode code pc = .ok (.lload x, 2)) (hl : Ls[x]? = some (.val (.long v))) (hp : pc + 2 = pc') (nxt : Run l Z n0 own code maxL ret nm R Q pc' Ls (.long v :: st) h k n) : Run l Z n0 own code maxL ret nm R Q pc Ls st h k n := by
  subst hp
  exact Run.stp (fun p e below T m c t hA hx hc q => XT.lload hA hx rfl (hb hc hd) hl q) nxt
theorem Run.aloadN {x : Fin 4} {v : Value} (hd : decode code pc = .ok (.aload_n x, 1)) (hl : Ls[x.val]? = some (.val v)) (hv : v.isRef = true) (hp : pc + 1 = pc') (nxt : Run l Z n0 own code maxL ret nm R Q pc' Ls (v :: st) h k n) : Run l Z n0 own code maxL ret nm R Q pc Ls st h k n := by
  subst hp
  exact Run.stp (fun p e below T m c t hA hx hc q => XS.aloadN hA hx rfl (hb hc hd) hl hv q) nxt
theorem Run.aload {x : Nat} {v : Value} (hd : decode code pc = .ok (.aload x, 2)) (hl : Ls[x]? = some (.val v)) (hv : v.isRef = true) (hp : pc + 2 = pc') (nxt : Run l Z n0 own code maxL ret nm R Q pc' Ls (v :: st) h k n) : Run l Z n0 own code maxL ret nm R Q pc Ls st h k n := by
  subst hp
  exact Run.stp (fun p e below T m c t hA hx hc q => XS.aload hA hx rfl (hb hc hd) hl hv q) nxt
theorem Run.iconst {i : Int} (v : Int32) (hd : decode code pc = .ok (.iconst i, 1)) (hv : Int32.ofInt i = v) (hp : pc + 1 = pc') (nxt : Run l Z n0 own code maxL ret nm R Q pc' Ls (.int v :: st) h k n) : Run l Z n0 own code maxL ret nm R Q pc Ls st h k n := by
  subst hp
  exact Run.stp (fun p e below T m c t hA hx hc q => XT.iconstV hA hx rfl v (hb hc hd) hv q) nxt
theorem Run.bipush {i : Int} (v : Int32) (hd : decode code pc = .ok (.bipush i, 2)) (hv : (Int8.ofInt i).toInt32 = v) (hp : pc + 2 = pc') (nxt : Run l Z n0 own code maxL ret nm R Q pc' Ls (.int v :: st) h k n) : Run l Z n0 own code maxL ret nm R Q pc Ls st h k n := by
  subst hp
  exact Run.stp (fun p e below T m c t hA hx hc q => XT.bipushV hA hx rfl v (hb hc hd) hv q) nxt
theorem Run.sipush {i : Int} (v : Int32) (hd : decode code pc = .ok (.sipush i, 3)) (hv : (Int16.ofInt i).toInt32 = v) (hp : pc + 3 = pc') (nxt : Run l Z n0 own code maxL ret nm R Q pc' Ls (.int v :: st) h k n) : Run l Z n0 own code maxL ret nm R Q pc Ls st h k n := by
  subst hp
  exact Run.stp (fun p e below T m c t hA hx hc q => XT.sipushV hA hx rfl v (hb hc hd) hv q) nxt
theorem Run.lconst {i : Fin 2} (v : Int64) (hd : decode code pc = .ok (.lconst i, 1)) (hv : Int64.ofNat i = v) (hp : pc + 1 = pc') (nxt : Run l Z n0 own code maxL ret nm R Q pc' Ls (.long v :: st) h k n) : Run l Z n0 own code maxL ret nm R Q pc Ls st h k n := by
  subst hp
  exact Run.stp (fun p e below T m c t hA hx hc q => XT.lconstV hA hx rfl v (hb hc hd) hv q) nxt
theorem Run.aconst  (hd : decode code pc = .ok (.aconst_null, 1))  (hp : pc + 1 = pc') (nxt : Run l Z n0 own code maxL ret nm R Q pc' Ls (.null :: st) h k n) : Run l Z n0 own code maxL ret nm R Q pc Ls st h k n := by
  subst hp
  exact Run.stp (fun p e below T m c t hA hx hc q => XS.aconstNull hA hx rfl (hb hc hd) q) nxt
theorem Run.istoreN {x : Fin 4} {v : Int32} (l' : Array Slot) (hd : decode code pc = .ok (.istore_n x, 1)) (hl : storeLocals Ls x.val (.int v) = some l') (hp : pc + 1 = pc') (nxt : Run l Z n0 own code maxL ret nm R Q pc' l' st h k n) : Run l Z n0 own code maxL ret nm R Q pc Ls (.int v :: st) h k n := by
  subst hp
  exact Run.stp (fun p e below T m c t hA hx hc q => XS.istoreN hA hx rfl (hb hc hd) rfl hl q) nxt
theorem Run.istore {x : Nat} {v : Int32} (l' : Array Slot) (hd : decode code pc = .ok (.istore x, 2)) (hl : storeLocals Ls x (.int v) = some l') (hp : pc + 2 = pc') (nxt : Run l Z n0 own code maxL ret nm R Q pc' l' st h k n) : Run l Z n0 own code maxL ret nm R Q pc Ls (.int v :: st) h k n := by
  subst hp
  exact Run.stp (fun p e below T m c t hA hx hc q => XS.istore hA hx rfl (hb hc hd) rfl hl q) nxt
theorem Run.lstoreN {x : Fin 4} {v : Int64} (l' : Array Slot) (hd : decode code pc = .ok (.lstore_n x, 1)) (hl : storeLocals Ls x.val (.long v) = some l') (hp : pc + 1 = pc') (nxt : Run l Z n0 own code maxL ret nm R Q pc' l' st h k n) : Run l Z n0 own code maxL ret nm R Q pc Ls (.long v :: st) h k n := by
  subst hp
  exact Run.stp (fun p e below T m c t hA hx hc q => XT.lstoreN hA hx rfl (hb hc hd) rfl hl q) nxt
theorem Run.lstore {x : Nat} {v : Int64} (l' : Array Slot) (hd : decode code pc = .ok (.lstore x, 2)) (hl : storeLocals Ls x (.long v) = some l') (hp : pc + 2 = pc') (nxt : Run l Z n0 own code maxL ret nm R Q pc' l' st h k n) : Run l Z n0 own code maxL ret nm R Q pc Ls (.long v :: st) h k n := by
  subst hp
  exact Run.stp (fun p e below T m c t hA hx hc q => XT.lstore hA hx rfl (hb hc hd) rfl hl q) nxt
theorem Run.astoreN {x : Fin 4} {v : Value} (l' : Array Slot) (hd : decode code pc = .ok (.astore_n x, 1)) (hv : v.isRef = true) (hl : storeLocals Ls x.val v = some l') (hp : pc + 1 = pc') (nxt : Run l Z n0 own code maxL ret nm R Q pc' l' st h k n) : Run l Z n0 own code maxL ret nm R Q pc Ls (v :: st) h k n := by
  subst hp
  exact Run.stp (fun p e below T m c t hA hx hc q => XS.astoreN hA hx rfl (hb hc hd) rfl hv hl q) nxt
theorem Run.astore {x : Nat} {v : Value} (l' : Array Slot) (hd : decode code pc = .ok (.astore x, 2)) (hv : v.isRef = true) (hl : storeLocals Ls x v = some l') (hp : pc + 2 = pc') (nxt : Run l Z n0 own code maxL ret nm R Q pc' l' st h k n) : Run l Z n0 own code maxL ret nm R Q pc Ls (v :: st) h k n := by
  subst hp
  exact Run.stp (fun p e below T m c t hA hx hc q => XS.astore hA hx rfl (hb hc hd) rfl hv hl q) nxt
theorem Run.iinc {x : Nat} {i : Int} {u : Int32} (v : Int32) (l' : Array Slot) (hd : decode code pc = .ok (.iinc x i, 3)) (hv : Int32.ofInt i = v) (hg : Ls[x]? = some (.val (.int u))) (hl : storeLocals Ls x (.int (u + v)) = some l') (hp : pc + 3 = pc') (nxt : Run l Z n0 own code maxL ret nm R Q pc' l' st h k n) : Run l Z n0 own code maxL ret nm R Q pc Ls st h k n := by
  subst hp
  exact Run.stp (fun p e below T m c t hA hx hc q => XT.iincV hA hx rfl v (hb hc hd) hv hg hl q) nxt
theorem Run.iadd {x y : Int32} (hd : decode code pc = .ok (.iadd, 1))  (hp : pc + 1 = pc') (nxt : Run l Z n0 own code maxL ret nm R Q pc' Ls (.int (x + y) :: st) h k n) : Run l Z n0 own code maxL ret nm R Q pc Ls (.int y :: .int x :: st) h k n := by
  subst hp
  exact Run.stp (fun p e below T m c t hA hx hc q => XS.iadd hA hx rfl (hb hc hd) rfl q) nxt
theorem Run.isub {x y : Int32} (hd : decode code pc = .ok (.isub, 1))  (hp : pc + 1 = pc') (nxt : Run l Z n0 own code maxL ret nm R Q pc' Ls (.int (x - y) :: st) h k n) : Run l Z n0 own code maxL ret nm R Q pc Ls (.int y :: .int x :: st) h k n := by
  subst hp
  exact Run.stp (fun p e below T m c t hA hx hc q => XS.isub hA hx rfl (hb hc hd) rfl q) nxt
theorem Run.imul {x y : Int32} (hd : decode code pc = .ok (.imul, 1))  (hp : pc + 1 = pc') (nxt : Run l Z n0 own code maxL ret nm R Q pc' Ls (.int (x * y) :: st) h k n) : Run l Z n0 own code maxL ret nm R Q pc Ls (.int y :: .int x :: st) h k n := by
  subst hp
  exact Run.stp (fun p e below T m c t hA hx hc q => XS.imul hA hx rfl (hb hc hd) rfl q) nxt
theorem Run.iand {x y : Int32} (hd : decode code pc = .ok (.iand, 1))  (hp : pc + 1 = pc') (nxt : Run l Z n0 own code maxL ret nm R Q pc' Ls (.int (x &&& y) :: st) h k n) : Run l Z n0 own code maxL ret nm R Q pc Ls (.int y :: .int x :: st) h k n := by
  subst hp
  exact Run.stp (fun p e below T m c t hA hx hc q => XS.iand hA hx rfl (hb hc hd) rfl q) nxt
theorem Run.ior {x y : Int32} (hd : decode code pc = .ok (.ior, 1))  (hp : pc + 1 = pc') (nxt : Run l Z n0 own code maxL ret nm R Q pc' Ls (.int (x ||| y) :: st) h k n) : Run l Z n0 own code maxL ret nm R Q pc Ls (.int y :: .int x :: st) h k n := by
  subst hp
  exact Run.stp (fun p e below T m c t hA hx hc q => XT.ior hA hx rfl (hb hc hd) rfl q) nxt
theorem Run.ixor {x y : Int32} (hd : decode code pc = .ok (.ixor, 1))  (hp : pc + 1 = pc') (nxt : Run l Z n0 own code maxL ret nm R Q pc' Ls (.int (x ^^^ y) :: st) h k n) : Run l Z n0 own code maxL ret nm R Q pc Ls (.int y :: .int x :: st) h k n := by
  subst hp
  exact Run.stp (fun p e below T m c t hA hx hc q => XT.ixor hA hx rfl (hb hc hd) rfl q) nxt
theorem Run.ishl {x y : Int32} (hd : decode code pc = .ok (.ishl, 1))  (hp : pc + 1 = pc') (nxt : Run l Z n0 own code maxL ret nm R Q pc' Ls (.int (x <<< (y &&& 31)) :: st) h k n) : Run l Z n0 own code maxL ret nm R Q pc Ls (.int y :: .int x :: st) h k n := by
  subst hp
  exact Run.stp (fun p e below T m c t hA hx hc q => XT.ishl hA hx rfl (hb hc hd) rfl q) nxt
theorem Run.ishr {x y : Int32} (hd : decode code pc = .ok (.ishr, 1))  (hp : pc + 1 = pc') (nxt : Run l Z n0 own code maxL ret nm R Q pc' Ls (.int (x >>> (y &&& 31)) :: st) h k n) : Run l Z n0 own code maxL ret nm R Q pc Ls (.int y :: .int x :: st) h k n := by
  subst hp
  exact Run.stp (fun p e below T m c t hA hx hc q => XT.ishr hA hx rfl (hb hc hd) rfl q) nxt
theorem Run.iushr {x y : Int32} (hd : decode code pc = .ok (.iushr, 1))  (hp : pc + 1 = pc') (nxt : Run l Z n0 own code maxL ret nm R Q pc' Ls (.int (XT.ushr x y) :: st) h k n) : Run l Z n0 own code maxL ret nm R Q pc Ls (.int y :: .int x :: st) h k n := by
  subst hp
  exact Run.stp (fun p e below T m c t hA hx hc q => XT.iushr hA hx rfl (hb hc hd) rfl q) nxt
theorem Run.ladd {x y : Int64} (hd : decode code pc = .ok (.ladd, 1))  (hp : pc + 1 = pc') (nxt : Run l Z n0 own code maxL ret nm R Q pc' Ls (.long (x + y) :: st) h k n) : Run l Z n0 own code maxL ret nm R Q pc Ls (.long y :: .long x :: st) h k n := by
  subst hp
  exact Run.stp (fun p e below T m c t hA hx hc q => XT.ladd hA hx rfl (hb hc hd) rfl q) nxt
theorem Run.lsub {x y : Int64} (hd : decode code pc = .ok (.lsub, 1))  (hp : pc + 1 = pc') (nxt : Run l Z n0 own code maxL ret nm R Q pc' Ls (.long (x - y) :: st) h k n) : Run l Z n0 own code maxL ret nm R Q pc Ls (.long y :: .long x :: st) h k n := by
  subst hp
  exact Run.stp (fun p e below T m c t hA hx hc q => XT.lsub hA hx rfl (hb hc hd) rfl q) nxt
theorem Run.lmul {x y : Int64} (hd : decode code pc = .ok (.lmul, 1))  (hp : pc + 1 = pc') (nxt : Run l Z n0 own code maxL ret nm R Q pc' Ls (.long (x * y) :: st) h k n) : Run l Z n0 own code maxL ret nm R Q pc Ls (.long y :: .long x :: st) h k n := by
  subst hp
  exact Run.stp (fun p e below T m c t hA hx hc q => XT.lmul hA hx rfl (hb hc hd) rfl q) nxt
theorem Run.land {x y : Int64} (hd : decode code pc = .ok (.land, 1))  (hp : pc + 1 = pc') (nxt : Run l Z n0 own code maxL ret nm R Q pc' Ls (.long (x &&& y) :: st) h k n) : Run l Z n0 own code maxL ret nm R Q pc Ls (.long y :: .long x :: st) h k n := by
  subst hp
  exact Run.stp (fun p e below T m c t hA hx hc q => XT.land hA hx rfl (hb hc hd) rfl q) nxt
theorem Run.lor {x y : Int64} (hd : decode code pc = .ok (.lor, 1))  (hp : pc + 1 = pc') (nxt : Run l Z n0 own code maxL ret nm R Q pc' Ls (.long (x ||| y) :: st) h k n) : Run l Z n0 own code maxL ret nm R Q pc Ls (.long y :: .long x :: st) h k n := by
  subst hp
  exact Run.stp (fun p e below T m c t hA hx hc q => XT.lor hA hx rfl (hb hc hd) rfl q) nxt
theorem Run.lxor {x y : Int64} (hd : decode code pc = .ok (.lxor, 1))  (hp : pc + 1 = pc') (nxt : Run l Z n0 own code maxL ret nm R Q pc' Ls (.long (x ^^^ y) :: st) h k n) : Run l Z n0 own code maxL ret nm R Q pc Ls (.long y :: .long x :: st) h k n := by
  subst hp
  exact Run.stp (fun p e below T m c t hA hx hc q => XT.lxor hA hx rfl (hb hc hd) rfl q) nxt
theorem Run.idiv {x y : Int32} (hd : decode code pc = .ok (.idiv, 1)) (hy : y ≠ 0) (hp : pc + 1 = pc') (nxt : Run l Z n0 own code maxL ret nm R Q pc' Ls (.int (x / y) :: st) h k n) : Run l Z n0 own code maxL ret nm R Q pc Ls (.int y :: .int x :: st) h k n := by
  subst hp
  exact Run.stp (fun p e below T m c t hA hx hc q => XS.idiv hA hx rfl (hb hc hd) rfl hy q) nxt
theorem Run.irem {x y : Int32} (hd : decode code pc = .ok (.irem, 1)) (hy : y ≠ 0) (hp : pc + 1 = pc') (nxt : Run l Z n0 own code maxL ret nm R Q pc' Ls (.int (x % y) :: st) h k n) : Run l Z n0 own code maxL ret nm R Q pc Ls (.int y :: .int x :: st) h k n := by
  subst hp
  exact Run.stp (fun p e below T m c t hA hx hc q => XS.irem hA hx rfl (hb hc hd) rfl hy (by rw [irem_eq_mod]; exact q)) nxt
theorem Run.ldiv {x y : Int64} (hd : decode code pc = .ok (.ldiv, 1)) (hy : y ≠ 0) (hp : pc + 1 = pc') (nxt : Run l Z n0 own code maxL ret nm R Q pc' Ls (.long (x / y) :: st) h k n) : Run l Z n0 own code maxL ret nm R Q pc Ls (.long y :: .long x :: st) h k n := by
  subst hp
  exact Run.stp (fun p e below T m c t hA hx hc q => XT.ldiv hA hx rfl (hb hc hd) rfl hy q) nxt
theorem Run.lrem {x y : Int64} (hd : decode code pc = .ok (.lrem, 1)) (hy : y ≠ 0) (hp : pc + 1 = pc') (nxt : Run l Z n0 own code maxL ret nm R Q pc' Ls (.long (x % y) :: st) h k n) : Run l Z n0 own code maxL ret nm R Q pc Ls (.long y :: .long x :: st) h k n := by
  subst hp
  exact Run.stp (fun p e below T m c t hA hx hc q => XT.lrem hA hx rfl (hb hc hd) rfl hy (by rw [lrem_mod]; exact q)) nxt
theorem Run.ineg {x : Int32} (hd : decode code pc = .ok (.ineg, 1))  (hp : pc + 1 = pc') (nxt : Run l Z n0 own code maxL ret nm R Q pc' Ls (.int (-x) :: st) h k n) : Run l Z n0 own code maxL ret nm R Q pc Ls (.int x :: st) h k n := by
  subst hp
  exact Run.stp (fun p e below T m c t hA hx hc q => XS.ineg hA hx rfl (hb hc hd) rfl q) nxt
theorem Run.lneg {x : Int64} (hd : decode code pc = .ok (.lneg, 1))  (hp : pc + 1 = pc') (nxt : Run l Z n0 own code maxL ret nm R Q pc' Ls (.long (-x) :: st) h k n) : Run l Z n0 own code maxL ret nm R Q pc Ls (.long x :: st) h k n := by
  subst hp
  exact Run.stp (fun p e below T m c t hA hx hc q => XT.lneg hA hx rfl (hb hc hd) rfl q) nxt
theorem Run.i2l {x : Int32} (hd : decode code pc = .ok (.i2l, 1))  (hp : pc + 1 = pc') (nxt : Run l Z n0 own code maxL ret nm R Q pc' Ls (.long x.toInt64 :: st) h k n) : Run l Z n0 own code maxL ret nm R Q pc Ls (.int x :: st) h k n := by
  subst hp
  exact Run.stp (fun p e below T m c t hA hx hc q => XT.i2l hA hx rfl (hb hc hd) rfl q) nxt
theorem Run.l2i {x : Int64} (hd : decode code pc = .ok (.l2i, 1))  (hp : pc + 1 = pc') (nxt : Run l Z n0 own code maxL ret nm R Q pc' Ls (.int x.toInt32 :: st) h k n) : Run l Z n0 own code maxL ret nm R Q pc Ls (.long x :: st) h k n := by
  subst hp
  exact Run.stp (fun p e below T m c t hA hx hc q => XT.l2i hA hx rfl (hb hc hd) rfl q) nxt
theorem Run.i2b {x : Int32} (hd : decode code pc = .ok (.i2b, 1))  (hp : pc + 1 = pc') (nxt : Run l Z n0 own code maxL ret nm R Q pc' Ls (.int (nar .byte x) :: st) h k n) : Run l Z n0 own code maxL ret nm R Q pc Ls (.int x :: st) h k n := by
  subst hp
  exact Run.stp (fun p e below T m c t hA hx hc q => XT.i2b hA hx rfl (hb hc hd) rfl q) nxt
theorem Run.i2c {x : Int32} (hd : decode code pc = .ok (.i2c, 1))  (hp : pc + 1 = pc') (nxt : Run l Z n0 own code maxL ret nm R Q pc' Ls (.int (nar .char x) :: st) h k n) : Run l Z n0 own code maxL ret nm R Q pc Ls (.int x :: st) h k n := by
  subst hp
  exact Run.stp (fun p e below T m c t hA hx hc q => XT.i2c hA hx rfl (hb hc hd) rfl q) nxt
theorem Run.i2s {x : Int32} (hd : decode code pc = .ok (.i2s, 1))  (hp : pc + 1 = pc') (nxt : Run l Z n0 own code maxL ret nm R Q pc' Ls (.int (nar .short x) :: st) h k n) : Run l Z n0 own code maxL ret nm R Q pc Ls (.int x :: st) h k n := by
  subst hp
  exact Run.stp (fun p e below T m c t hA hx hc q => XT.i2s hA hx rfl (hb hc hd) rfl q) nxt
theorem Run.lshl {x : Int64} {y : Int32} (hd : decode code pc = .ok (.lshl, 1))  (hp : pc + 1 = pc') (nxt : Run l Z n0 own code maxL ret nm R Q pc' Ls (.long (x <<< (y.toInt64 &&& 63)) :: st) h k n) : Run l Z n0 own code maxL ret nm R Q pc Ls (.int y :: .long x :: st) h k n := by
  subst hp
  exact Run.stp (fun p e below T m c t hA hx hc q => XT.lshl hA hx rfl (hb hc hd) rfl q) nxt
theorem Run.lshr {x : Int64} {y : Int32} (hd : decode code pc = .ok (.lshr, 1))  (hp : pc + 1 = pc') (nxt : Run l Z n0 own code maxL ret nm R Q pc' Ls (.long (x >>> (y.toInt64 &&& 63)) :: st) h k n) : Run l Z n0 own code maxL ret nm R Q pc Ls (.int y :: .long x :: st) h k n := by
  subst hp
  exact Run.stp (fun p e below T m c t hA hx hc q => XT.lshr hA hx rfl (hb hc hd) rfl q) nxt
theorem Run.lushr {x : Int64} {y : Int32} (hd : decode code pc = .ok (.lushr, 1))  (hp : pc + 1 = pc') (nxt : Run l Z n0 own code maxL ret nm R Q pc' Ls (.long (XT.ushrL x y) :: st) h k n) : Run l Z n0 own code maxL ret nm R Q pc Ls (.int y :: .long x :: st) h k n := by
  subst hp
  exact Run.stp (fun p e below T m c t hA hx hc q => XT.lushr hA hx rfl (hb hc hd) rfl q) nxt
theorem Run.lcmp {x y : Int64} (hd : decode code pc = .ok (.lcmp, 1))  (hp : pc + 1 = pc') (nxt : Run l Z n0 own code maxL ret nm R Q pc' Ls (.int (XT.cmpL x y) :: st) h k n) : Run l Z n0 own code maxL ret nm R Q pc Ls (.long y :: .long x :: st) h k n := by
  subst hp
  exact Run.stp (fun p e below T m c t hA hx hc q => XT.lcmp hA hx rfl (hb hc hd) rfl q) nxt
theorem Run.dup {x : Value} (hd : decode code pc = .ok (.dup, 1)) (hv : x.category = 1) (hp : pc + 1 = pc') (nxt : Run l Z n0 own code maxL ret nm R Q pc' Ls (x :: x :: st) h k n) : Run l Z n0 own code maxL ret nm R Q pc Ls (x :: st) h k n := by
  subst hp
  exact Run.stp (fun p e below T m c t hA hx hc q => XS.dup hA hx rfl (hb hc hd) rfl hv q) nxt
theorem Run.pop {x : Value} (hd : decode code pc = .ok (.pop, 1)) (hv : x.category = 1) (hp : pc + 1 = pc') (nxt : Run l Z n0 own code maxL ret nm R Q pc' Ls st h k n) : Run l Z n0 own code maxL ret nm R Q pc Ls (x :: st) h k n := by
  subst hp
  exact Run.stp (fun p e below T m c t hA hx hc q => XT.pop hA hx rfl (hb hc hd) rfl hv q) nxt
theorem Run.dupX1 {x y : Value} (hd : decode code pc = .ok (.dup_x1, 1)) (hv : x.category = 1) (hv' : y.category = 1) (hp : pc + 1 = pc') (nxt : Run l Z n0 own code maxL ret nm R Q pc' Ls (x :: y :: x :: st) h k n) : Run l Z n0 own code maxL ret nm R Q pc Ls (x :: y :: st) h k n := by
  subst hp
  exact Run.stp (fun p e below T m c t hA hx hc q => XT.dupX1 hA hx rfl (hb hc hd) rfl hv hv' q) nxt
theorem Run.dup2 {x y : Value} (hd : decode code pc = .ok (.dup2, 1)) (hv : x.category = 1) (hv' : y.category = 1) (hp : pc + 1 = pc') (nxt : Run l Z n0 own code maxL ret nm R Q pc' Ls (x :: y :: x :: y :: st) h k n) : Run l Z n0 own code maxL ret nm R Q pc Ls (x :: y :: st) h k n := by
  subst hp
  exact Run.stp (fun p e below T m c t hA hx hc q => XT.dup2 hA hx rfl (hb hc hd) rfl hv hv' q) nxt
theorem Run.dup2L {x : Int64} (hd : decode code pc = .ok (.dup2, 1))  (hp : pc + 1 = pc') (nxt : Run l Z n0 own code maxL ret nm R Q pc' Ls (.long x :: .long x :: st) h k n) : Run l Z n0 own code maxL ret nm R Q pc Ls (.long x :: st) h k n := by
  subst hp
  exact Run.stp (fun p e below T m c t hA hx hc q => XT.dup2L hA hx rfl (hb hc hd) rfl q) nxt
theorem Run.goto {o : Int} (hd : decode code pc = .ok (.goto o, 3)) (ho : 0 ≤ (pc : Int) + o) (hp : ((pc : Int) + o).toNat = pc') (nxt : Run l Z n0 own code maxL ret nm R Q pc' Ls st h k n) : Run l Z n0 own code maxL ret nm R Q pc Ls st h k n :=
  Run.stp (fun p e below T m c t hA hx hc q => XS.goto hA hx rfl rfl (hb hc hd) ho hp q) nxt
theorem Run.if_eq {x : Int32} {o : Int} {pa : Nat} (hd : decode code pc = .ok (.ifCond .eq o, 3)) (ho : 0 ≤ (pc : Int) + o) (hp : ((pc : Int) + o).toNat = pc') (hq : pc + 3 = pa)
    (yes : x = 0 → Run l Z n0 own code maxL ret nm R Q pc' Ls st h k n) (no : ¬ x = 0 → Run l Z n0 own code maxL ret nm R Q pa Ls st h k n) : Run l Z n0 own code maxL ret nm R Q pc Ls (.int x :: st) h k n := by
  subst hq
  by_cases hc : x = 0
  · exact Run.stp (fun p e below T m c t hA hx hb' q => XS.ifYes hA hx rfl rfl (hb hb' hd) rfl (XT.i0_eq_t hc) ho hp q) (yes hc)
  · exact Run.stp (fun p e below T m c t hA hx hb' q => XS.ifNo hA hx rfl (hb hb' hd) rfl (XT.i0_eq_f hc) q) (no hc)
theorem Run.icmp_eq {x y : Int32} {o : Int} {pa : Nat} (hd : decode code pc = .ok (.if_icmp .eq o, 3)) (ho : 0 ≤ (pc : Int) + o) (hp : ((pc : Int) + o).toNat = pc') (hq : pc + 3 = pa)
    (yes : x = y → Run l Z n0 own code maxL ret nm R Q pc' Ls st h k n) (no : ¬ x = y → Run l Z n0 own code maxL ret nm R Q pa Ls st h k n) : Run l Z n0 own code maxL ret nm R Q pc Ls (.int y :: .int x :: st) h k n := by
  subst hq
  by_cases hc : x = y
  · exact Run.stp (fun p e below T m c t hA hx hb' q => XS.icmpYes hA hx rfl rfl (hb hb' hd) rfl (XT.ii_eq_t hc) ho hp q) (yes hc)
  · exact Run.stp (fun p e below T m c t hA hx hb' q => XS.icmpNo hA hx rfl (hb hb' hd) rfl (XT.ii_eq_f hc) q) (no hc)
theorem Run.if_ne {x : Int32} {o : Int} {pa : Nat} (hd : decode code pc = .ok (.ifCond .ne o, 3)) (ho : 0 ≤ (pc : Int) + o) (hp : ((pc : Int) + o).toNat = pc') (hq : pc + 3 = pa)
    (yes : ¬ x = 0 → Run l Z n0 own code maxL ret nm R Q pc' Ls st h k n) (no : x = 0 → Run l Z n0 own code maxL ret nm R Q pa Ls st h k n) : Run l Z n0 own code maxL ret nm R Q pc Ls (.int x :: st) h k n := by
  subst hq
  by_cases hc : x = 0
  · exact Run.stp (fun p e below T m c t hA hx hb' q => XS.ifNo hA hx rfl (hb hb' hd) rfl (XT.i0_ne_f hc) q) (no (by simpa using hc))
  · exact Run.stp (fun p e below T m c t hA hx hb' q => XS.ifYes hA hx rfl rfl (hb hb' hd) rfl (XT.i0_ne_t hc) ho hp q) (yes hc)
theorem Run.icmp_ne {x y : Int32} {o : Int} {pa : Nat} (hd : decode code pc = .ok (.if_icmp .ne o, 3)) (ho : 0 ≤ (pc : Int) + o) (hp : ((pc : Int) + o).toNat = pc') (hq : pc + 3 = pa)
    (yes : ¬ x = y → Run l Z n0 own code maxL ret nm R Q pc' Ls st h k n) (no : x = y → Run l Z n0 own code maxL ret nm R Q pa Ls st h k n) : Run l Z n0 own code maxL ret nm R Q pc Ls (.int y :: .int x :: st) h k n := by
  subst hq
  by_cases hc : x = y
  · exact Run.stp (fun p e below T m c t hA hx hb' q => XS.icmpNo hA hx rfl (hb hb' hd) rfl (XT.ii_ne_f hc) q) (no (by simpa using hc))
  · exact Run.stp (fun p e below T m c t hA hx hb' q => XS.icmpYes hA hx rfl rfl (hb hb' hd) rfl (XT.ii_ne_t hc) ho hp q) (yes hc)
theorem Run.if_lt {x : Int32} {o : Int} {pa : Nat} (hd : decode code pc = .ok (.ifCond .lt o, 3)) (ho : 0 ≤ (pc : Int) + o) (hp : ((pc : Int) + o).toNat = pc') (hq : pc + 3 = pa)
    (yes : x < 0 → Run l Z n0 own code maxL ret nm R Q pc' Ls st h k n) (no : ¬ x < 0 → Run l Z n0 own code maxL ret nm R Q pa Ls st h k n) : Run l Z n0 own code maxL ret nm R Q pc Ls (.int x :: st) h k n := by
  subst hq
  by_cases hc : x < 0
  · exact Run.stp (fun p e below T m c t hA hx hb' q => XS.ifYes hA hx rfl rfl (hb hb' hd) rfl (XT.i0_lt_t hc) ho hp q) (yes hc)
  · exact Run.stp (fun p e below T m c t hA hx hb' q => XS.ifNo hA hx rfl (hb hb' hd) rfl (XT.i0_lt_f hc) q) (no hc)
theorem Run.icmp_lt {x y : Int32} {o : Int} {pa : Nat} (hd : decode code pc = .ok (.if_icmp .lt o, 3)) (ho : 0 ≤ (pc : Int) + o) (hp : ((pc : Int) + o).toNat = pc') (hq : pc + 3 = pa)
    (yes : x < y → Run l Z n0 own code maxL ret nm R Q pc' Ls st h k n) (no : ¬ x < y → Run l Z n0 own code maxL ret nm R Q pa Ls st h k n) : Run l Z n0 own code maxL ret nm R Q pc Ls (.int y :: .int x :: st) h k n := by
  subst hq
  by_cases hc : x < y
  · exact Run.stp (fun p e below T m c t hA hx hb' q => XS.icmpYes hA hx rfl rfl (hb hb' hd) rfl (XT.ii_lt_t hc) ho hp q) (yes hc)
  · exact Run.stp (fun p e below T m c t hA hx hb' q => XS.icmpNo hA hx rfl (hb hb' hd) rfl (XT.ii_lt_f hc) q) (no hc)
theorem Run.if_ge {x : Int32} {o : Int} {pa : Nat} (hd : decode code pc = .ok (.ifCond .ge o, 3)) (ho : 0 ≤ (pc : Int) + o) (hp : ((pc : Int) + o).toNat = pc') (hq : pc + 3 = pa)
    (yes : ¬ x < 0 → Run l Z n0 own code maxL ret nm R Q pc' Ls st h k n) (no : x < 0 → Run l Z n0 own code maxL ret nm R Q pa Ls st h k n) : Run l Z n0 own code maxL ret nm R Q pc Ls (.int x :: st) h k n := by
  subst hq
  by_cases hc : x < 0
  · exact Run.stp (fun p e below T m c t hA hx hb' q => XS.ifNo hA hx rfl (hb hb' hd) rfl (XT.i0_ge_f hc) q) (no (by simpa using hc))
  · exact Run.stp (fun p e below T m c t hA hx hb' q => XS.ifYes hA hx rfl rfl (hb hb' hd) rfl (XT.i0_ge_t hc) ho hp q) (yes hc)
theorem Run.icmp_ge {x y : Int32} {o : Int} {pa : Nat} (hd : decode code pc = .ok (.if_icmp .ge o, 3)) (ho : 0 ≤ (pc : Int) + o) (hp : ((pc : Int) + o).toNat = pc') (hq : pc + 3 = pa)
    (yes : ¬ x < y → Run l Z n0 own code maxL ret nm R Q pc' Ls st h k n) (no : x < y → Run l Z n0 own code maxL ret nm R Q pa Ls st h k n) : Run l Z n0 own code maxL ret nm R Q pc Ls (.int y :: .int x :: st) h k n := by
  subst hq
  by_cases hc : x < y
  · exact Run.stp (fun p e below T m c t hA hx hb' q => XS.icmpNo hA hx rfl (hb hb' hd) rfl (XT.ii_ge_f hc) q) (no (by simpa using hc))
  · exact Run.stp (fun p e below T m c t hA hx hb' q => XS.icmpYes hA hx rfl rfl (hb hb' hd) rfl (XT.ii_ge_t hc) ho hp q) (yes hc)
theorem Run.if_gt {x : Int32} {o : Int} {pa : Nat} (hd : decode code pc = .ok (.ifCond .gt o, 3)) (ho : 0 ≤ (pc : Int) + o) (hp : ((pc : Int) + o).toNat = pc') (hq : pc + 3 = pa)
    (yes : 0 < x → Run l Z n0 own code maxL ret nm R Q pc' Ls st h k n) (no : ¬ 0 < x → Run l Z n0 own code maxL ret nm R Q pa Ls st h k n) : Run l Z n0 own code maxL ret nm R Q pc Ls (.int x :: st) h k n := by
  subst hq
  by_cases hc : 0 < x
  · exact Run.stp (fun p e below T m c t hA hx hb' q => XS.ifYes hA hx rfl rfl (hb hb' hd) rfl (XT.i0_gt_t hc) ho hp q) (yes hc)
  · exact Run.stp (fun p e below T m c t hA hx hb' q => XS.ifNo hA hx rfl (hb hb' hd) rfl (XT.i0_gt_f hc) q) (no hc)
theorem Run.icmp_gt {x y : Int32} {o : Int} {pa : Nat} (hd : decode code pc = .ok (.if_icmp .gt o, 3)) (ho : 0 ≤ (pc : Int) + o) (hp : ((pc : Int) + o).toNat = pc') (hq : pc + 3 = pa)
    (yes : y < x → Run l Z n0 own code maxL ret nm R Q pc' Ls st h k n) (no : ¬ y < x → Run l Z n0 own code maxL ret nm R Q pa Ls st h k n) : Run l Z n0 own code maxL ret nm R Q pc Ls (.int y :: .int x :: st) h k n := by
  subst hq
  by_cases hc : y < x
  · exact Run.stp (fun p e below T m c t hA hx hb' q => XS.icmpYes hA hx rfl rfl (hb hb' hd) rfl (XT.ii_gt_t hc) ho hp q) (yes hc)
  · exact Run.stp (fun p e below T m c t hA hx hb' q => XS.icmpNo hA hx rfl (hb hb' hd) rfl (XT.ii_gt_f hc) q) (no hc)
theorem Run.if_le {x : Int32} {o : Int} {pa : Nat} (hd : decode code pc = .ok (.ifCond .le o, 3)) (ho : 0 ≤ (pc : Int) + o) (hp : ((pc : Int) + o).toNat = pc') (hq : pc + 3 = pa)
    (yes : ¬ 0 < x → Run l Z n0 own code maxL ret nm R Q pc' Ls st h k n) (no : 0 < x → Run l Z n0 own code maxL ret nm R Q pa Ls st h k n) : Run l Z n0 own code maxL ret nm R Q pc Ls (.int x :: st) h k n := by
  subst hq
  by_cases hc : 0 < x
  · exact Run.stp (fun p e below T m c t hA hx hb' q => XS.ifNo hA hx rfl (hb hb' hd) rfl (XT.i0_le_f hc) q) (no (by simpa using hc))
  · exact Run.stp (fun p e below T m c t hA hx hb' q => XS.ifYes hA hx rfl rfl (hb hb' hd) rfl (XT.i0_le_t hc) ho hp q) (yes hc)
theorem Run.icmp_le {x y : Int32} {o : Int} {pa : Nat} (hd : decode code pc = .ok (.if_icmp .le o, 3)) (ho : 0 ≤ (pc : Int) + o) (hp : ((pc : Int) + o).toNat = pc') (hq : pc + 3 = pa)
    (yes : ¬ y < x → Run l Z n0 own code maxL ret nm R Q pc' Ls st h k n) (no : y < x → Run l Z n0 own code maxL ret nm R Q pa Ls st h k n) : Run l Z n0 own code maxL ret nm R Q pc Ls (.int y :: .int x :: st) h k n := by
  subst hq
  by_cases hc : y < x
  · exact Run.stp (fun p e below T m c t hA hx hb' q => XS.icmpNo hA hx rfl (hb hb' hd) rfl (XT.ii_le_f hc) q) (no (by simpa using hc))
  · exact Run.stp (fun p e below T m c t hA hx hb' q => XS.icmpYes hA hx rfl rfl (hb hb' hd) rfl (XT.ii_le_t hc) ho hp q) (yes hc)
theorem Run.lif_eq {x y : Int64} {o : Int} {pa : Nat} (hd : decode code pc = .ok (.ifCond .eq o, 3)) (ho : 0 ≤ (pc : Int) + o) (hp : ((pc : Int) + o).toNat = pc') (hq : pc + 3 = pa)
    (yes : x = y → Run l Z n0 own code maxL ret nm R Q pc' Ls st h k n) (no : ¬ x = y → Run l Z n0 own code maxL ret nm R Q pa Ls st h k n) : Run l Z n0 own code maxL ret nm R Q pc Ls (.int (XT.cmpL x y) :: st) h k n := by
  subst hq
  by_cases hc : x = y
  · exact Run.stp (fun p e below T m c t hA hx hb' q => XS.ifYes hA hx rfl rfl (hb hb' hd) rfl (XT.ll_eq_t hc) ho hp q) (yes hc)
  · exact Run.stp (fun p e below T m c t hA hx hb' q => XS.ifNo hA hx rfl (hb hb' hd) rfl (XT.ll_eq_f hc) q) (no hc)
theorem Run.lif_ne {x y : Int64} {o : Int} {pa : Nat} (hd : decode code pc = .ok (.ifCond .ne o, 3)) (ho : 0 ≤ (pc : Int) + o) (hp : ((pc : Int) + o).toNat = pc') (hq : pc + 3 = pa)
    (yes : ¬ x = y → Run l Z n0 own code maxL ret nm R Q pc' Ls st h k n) (no : x = y → Run l Z n0 own code maxL ret nm R Q pa Ls st h k n) : Run l Z n0 own code maxL ret nm R Q pc Ls (.int (XT.cmpL x y) :: st) h k n := by
  subst hq
  by_cases hc : x = y
  · exact Run.stp (fun p e below T m c t hA hx hb' q => XS.ifNo hA hx rfl (hb hb' hd) rfl (XT.ll_ne_f hc) q) (no (by simpa using hc))
  · exact Run.stp (fun p e below T m c t hA hx hb' q => XS.ifYes hA hx rfl rfl (hb hb' hd) rfl (XT.ll_ne_t hc) ho hp q) (yes hc)
theorem Run.lif_lt {x y : Int64} {o : Int} {pa : Nat} (hd : decode code pc = .ok (.ifCond .lt o, 3)) (ho : 0 ≤ (pc : Int) + o) (hp : ((pc : Int) + o).toNat = pc') (hq : pc + 3 = pa)
    (yes : x < y → Run l Z n0 own code maxL ret nm R Q pc' Ls st h k n) (no : ¬ x < y → Run l Z n0 own code maxL ret nm R Q pa Ls st h k n) : Run l Z n0 own code maxL ret nm R Q pc Ls (.int (XT.cmpL x y) :: st) h k n := by
  subst hq
  by_cases hc : x < y
  · exact Run.stp (fun p e below T m c t hA hx hb' q => XS.ifYes hA hx rfl rfl (hb hb' hd) rfl (XT.ll_lt_t hc) ho hp q) (yes hc)
  · exact Run.stp (fun p e below T m c t hA hx hb' q => XS.ifNo hA hx rfl (hb hb' hd) rfl (XT.ll_lt_f hc) q) (no hc)
theorem Run.lif_ge {x y : Int64} {o : Int} {pa : Nat} (hd : decode code pc = .ok (.ifCond .ge o, 3)) (ho : 0 ≤ (pc : Int) + o) (hp : ((pc : Int) + o).toNat = pc') (hq : pc + 3 = pa)
    (yes : ¬ x < y → Run l Z n0 own code maxL ret nm R Q pc' Ls st h k n) (no : x < y → Run l Z n0 own code maxL ret nm R Q pa Ls st h k n) : Run l Z n0 own code maxL ret nm R Q pc Ls (.int (XT.cmpL x y) :: st) h k n := by
  subst hq
  by_cases hc : x < y
  · exact Run.stp (fun p e below T m c t hA hx hb' q => XS.ifNo hA hx rfl (hb hb' hd) rfl (XT.ll_ge_f hc) q) (no (by simpa using hc))
  · exact Run.stp (fun p e below T m c t hA hx hb' q => XS.ifYes hA hx rfl rfl (hb hb' hd) rfl (XT.ll_ge_t hc) ho hp q) (yes hc)
theorem Run.lif_gt {x y : Int64} {o : Int} {pa : Nat} (hd : decode code pc = .ok (.ifCond .gt o, 3)) (ho : 0 ≤ (pc : Int) + o) (hp : ((pc : Int) + o).toNat = pc') (hq : pc + 3 = pa)
    (yes : y < x → Run l Z n0 own code maxL ret nm R Q pc' Ls st h k n) (no : ¬ y < x → Run l Z n0 own code maxL ret nm R Q pa Ls st h k n) : Run l Z n0 own code maxL ret nm R Q pc Ls (.int (XT.cmpL x y) :: st) h k n := by
  subst hq
  by_cases hc : y < x
  · exact Run.stp (fun p e below T m c t hA hx hb' q => XS.ifYes hA hx rfl rfl (hb hb' hd) rfl (XT.ll_gt_t hc) ho hp q) (yes hc)
  · exact Run.stp (fun p e below T m c t hA hx hb' q => XS.ifNo hA hx rfl (hb hb' hd) rfl (XT.ll_gt_f hc) q) (no hc)
theorem Run.lif_le {x y : Int64} {o : Int} {pa : Nat} (hd : decode code pc = .ok (.ifCond .le o, 3)) (ho : 0 ≤ (pc : Int) + o) (hp : ((pc : Int) + o).toNat = pc') (hq : pc + 3 = pa)
    (yes : ¬ y < x → Run l Z n0 own code maxL ret nm R Q pc' Ls st h k n) (no : y < x → Run l Z n0 own code maxL ret nm R Q pa Ls st h k n) : Run l Z n0 own code maxL ret nm R Q pc Ls (.int (XT.cmpL x y) :: st) h k n := by
  subst hq
  by_cases hc : y < x
  · exact Run.stp (fun p e below T m c t hA hx hb' q => XS.ifNo hA hx rfl (hb hb' hd) rfl (XT.ll_le_f hc) q) (no (by simpa using hc))
  · exact Run.stp (fun p e below T m c t hA hx hb' q => XS.ifYes hA hx rfl rfl (hb hb' hd) rfl (XT.ll_le_t hc) ho hp q) (yes hc)
theorem Run.acmp_eq {x y : Value} {o : Int} {pa : Nat} (hd : decode code pc = .ok (.if_acmp .eq o, 3)) (hv : x.isRef = true) (hv' : y.isRef = true) (ho : 0 ≤ (pc : Int) + o) (hp : ((pc : Int) + o).toNat = pc') (hq : pc + 3 = pa)
    (yes : x = y → Run l Z n0 own code maxL ret nm R Q pc' Ls st h k n) (no : ¬ x = y → Run l Z n0 own code maxL ret nm R Q pa Ls st h k n) : Run l Z n0 own code maxL ret nm R Q pc Ls (y :: x :: st) h k n := by
  subst hq
  by_cases hc : x = y
  · exact Run.stp (fun p e below T m c t hA hx hb' q => XT.acmpYes hA hx rfl rfl (hb hb' hd) rfl hv hv' (XT.aa_eq_t hc) ho hp q) (yes hc)
  · exact Run.stp (fun p e below T m c t hA hx hb' q => XT.acmpNo hA hx rfl (hb hb' hd) rfl hv hv' (XT.aa_eq_f hc) q) (no hc)
theorem Run.acmp_ne {x y : Value} {o : Int} {pa : Nat} (hd : decode code pc = .ok (.if_acmp .ne o, 3)) (hv : x.isRef = true) (hv' : y.isRef = true) (ho : 0 ≤ (pc : Int) + o) (hp : ((pc : Int) + o).toNat = pc') (hq : pc + 3 = pa)
    (yes : ¬ x = y → Run l Z n0 own code maxL ret nm R Q pc' Ls st h k n) (no : x = y → Run l Z n0 own code maxL ret nm R Q pa Ls st h k n) : Run l Z n0 own code maxL ret nm R Q pc Ls (y :: x :: st) h k n := by
  subst hq
  by_cases hc : x = y
  · exact Run.stp (fun p e below T m c t hA hx hb' q => XT.acmpNo hA hx rfl (hb hb' hd) rfl hv hv' (XT.aa_ne_f hc) q) (no (by simpa using hc))
  · exact Run.stp (fun p e below T m c t hA hx hb' q => XT.acmpYes hA hx rfl rfl (hb hb' hd) rfl hv hv' (XT.aa_ne_t hc) ho hp q) (yes hc)
theorem Run.ifnull {v : Value} {o : Int} {pa : Nat} (hd : decode code pc = .ok (.ifnull o, 3)) (hv : v.isRef = true) (ho : 0 ≤ (pc : Int) + o) (hp : ((pc : Int) + o).toNat = pc') (hq : pc + 3 = pa)
    (yes : v = .null → Run l Z n0 own code maxL ret nm R Q pc' Ls st h k n) (no : ¬ v = .null → Run l Z n0 own code maxL ret nm R Q pa Ls st h k n) : Run l Z n0 own code maxL ret nm R Q pc Ls (v :: st) h k n := by
  subst hq
  by_cases hc : v = .null
  · exact Run.stp (fun p e below T m c t hA hx hb' q => XT.nullYes hA hx rfl rfl (hb hb' hd) rfl hc ho hp q) (yes hc)
  · exact Run.stp (fun p e below T m c t hA hx hb' q => XT.nullNo hA hx rfl (hb hb' hd) rfl hv hc q) (no hc)
theorem Run.ifnonnull {v : Value} {o : Int} {pa : Nat} (hd : decode code pc = .ok (.ifnonnull o, 3)) (hv : v.isRef = true) (ho : 0 ≤ (pc : Int) + o) (hp : ((pc : Int) + o).toNat = pc') (hq : pc + 3 = pa)
    (yes : ¬ v = .null → Run l Z n0 own code maxL ret nm R Q pc' Ls st h k n) (no : v = .null → Run l Z n0 own code maxL ret nm R Q pa Ls st h k n) : Run l Z n0 own code maxL ret nm R Q pc Ls (v :: st) h k n := by
  subst hq
  by_cases hc : v = .null
  · exact Run.stp (fun p e below T m c t hA hx hb' q => XT.nonnullNo hA hx rfl (hb hb' hd) rfl hc q) (no hc)
  · exact Run.stp (fun p e below T m c t hA hx hb' q => XT.nonnullYes hA hx rfl rfl (hb hb' hd) rfl hv hc ho hp q) (yes hc)
/-! the pool's constants, fields, statics -/
theorem Run.ldcI {a0 : Array Value} {i : Nat} {v : Int32} (hd : decode code pc = .ok (.ldc i, 2)) (w : (Cond.constant own i v).before a0 Z = true) (hp : pc + 2 = pc') (nxt : Run l Z n0 own code maxL ret nm R Q pc' Ls (.int v :: st) h k n) : Run l Z n0 own code maxL ret nm R Q pc Ls st h k n := by
  subst hp
  exact Run.via (fun p e s m args below meth c T locs cells slots hC X eT => ⟨T, X, eT, fun t q => X.ldcI hC.1 hC.2.2.1 (mvT hC.2.1 w) rfl (hb hC.2.2.2.1 hd) q⟩) nxt
theorem Run.ldcWI {a0 : Array Value} {i : Nat} {v : Int32} (hd : decode code pc = .ok (.ldc_w i, 3)) (w : (Cond.constant own i v).before a0 Z = true) (hp : pc + 3 = pc') (nxt : Run l Z n0 own code maxL ret nm R Q pc' Ls (.int v :: st) h k n) : Run l Z n0 own code maxL ret nm R Q pc Ls st h k n := by
  subst hp
  exact Run.via (fun p e s m args below meth c T locs cells slots hC X eT => ⟨T, X, eT, fun t q => X.ldcWI hC.1 hC.2.2.1 (mvT hC.2.1 w) rfl (hb hC.2.2.2.1 hd) q⟩) nxt
theorem Run.ldc2J {a0 : Array Value} {i : Nat} {v : Int64} (hd : decode code pc = .ok (.ldc2_w i, 3)) (w : (Cond.constantLong own i v).before a0 Z = true) (hp : pc + 3 = pc') (nxt : Run l Z n0 own code maxL ret nm R Q pc' Ls (.long v :: st) h k n) : Run l Z n0 own code maxL ret nm R Q pc Ls st h k n := by
  subst hp
  exact Run.via (fun p e s m args below meth c T locs cells slots hC X eT => ⟨T, X, eT, fun t q => X.ldc2J hC.1 hC.2.2.1 (mvT hC.2.1 w) rfl (hb hC.2.2.2.1 hd) q⟩) nxt
theorem Run.getS {a0 : Array Value} {R0 O f d host : String} {i : Nat} {v : Value} (hd : decode code pc = .ok (.getstatic i, 3)) (w : (Cond.fieldLink own i R0 f d).before a0 Z = true ∨ (Cond.fieldLinkNest own i R0 f d host).before a0 Z = true) (via : Via Z R0 O f d) (F : Sta Z h O f d v) (hp : pc + 3 = pc') (nxt : Run l Z n0 own code maxL ret nm R Q pc' Ls (v :: st) h k n) : Run l Z n0 own code maxL ret nm R Q pc Ls st h k n := by
  subst hp
  exact Run.via (fun p e s m args below meth c T locs cells slots hC X eT => getS2 X hC.1 hC.2.1 hC.2.2.1 w via eT F (g := mkF m pc Ls st) rfl (hb hC.2.2.2.1 hd)) nxt
theorem Run.getF {a0 : Array Value} {R0 O f d host : String} {i : Nat} {a : Addr} {v : Value} (hd : decode code pc = .ok (.getfield i, 3)) (w : (Cond.fieldLink own i R0 f d).before a0 Z = true ∨ (Cond.fieldLinkNest own i R0 f d host).before a0 Z = true) (via : Via Z R0 O f d) (F : Fld Z h a O f d v) (hp : pc + 3 = pc') (nxt : Run l Z n0 own code maxL ret nm R Q pc' Ls (v :: st) h k n) : Run l Z n0 own code maxL ret nm R Q pc Ls (.ref a :: st) h k n := by
  subst hp
  exact Run.via (fun p e s m args below meth c T locs cells slots hC X eT => getF X hC.1 hC.2.1 hC.2.2.1 w via eT F (g := mkF m pc Ls (.ref a :: st)) rfl rfl (hb hC.2.2.2.1 hd)) nxt
/-! the returns -/
theorem Go.fin {p : Program} {e : Env} {s : State} {m : MethodId} {args : Array Value} {below : List Frame} {meth : Method} {c : Code} {T S : State} {locs : List Loc} {cells slots : Nat} {v : Option Value} (X : Stand p l e R s m args below meth c T locs cells slots) (hv : meth.sig.returnType = none → v = none) (hlk : meth.locks = false) (hF : Fr n0 locs) (hk : cells ≤ R.cells) (hn : slots ≤ R.slots) (hQ : Q v T.heap)
    (f : ∀ fs, (∀ (f : JFrame) (acts : List Action), f.method = m → f.locked = none → f.entered = [] → (doReturn e (T.setTop f) acts v).1 = T.setFrames fs) → Steps p.tables e below S (T.setFrames fs)) : Go p e below s n0 R.cells R.slots Q S := by
  obtain ⟨fs, hr, hrun, hended, hW, hsame⟩ := X.leave (v := v) hv hlk
  exact ⟨_, v, locs, f fs hr, hrun, hended, ⟨hQ, hF⟩, ⟨_, rfl⟩, hW, hsame.mono hk hn⟩
theorem Run.ireturn {z : Int32} (hd : decode code pc = .ok (.ireturn, 1)) (hret : ret = some .int) (hk : k ≤ R.cells) (hn : n ≤ R.slots) (hQ : Q (some (.int z)) h) : Run l Z n0 own code maxL ret nm R Q pc Ls (.int z :: st) h k n := by
  intro p e s m args below meth c T locs cells slots hC X eT hF hk' hn'
  subst eT
  have hr := hC.2.2.2.2.2.1
  exact Go.fin X (fun q => by rw [hr, hret] at q; cases q) hC.2.2.2.2.2.2.1 hF (Nat.le_trans hk' hk) (Nat.le_trans hn' hn) hQ (fun fs hl => retOut X hC.1 (hr.trans hret) rfl (Or.inl ⟨rfl, Or.inl rfl, z, rfl⟩) (hb hC.2.2.2.1 hd) hl)
theorem Run.nreturn {z : Int32} {ty : FieldType} (hd : decode code pc = .ok (.ireturn, 1)) (hret : ret = some ty) (ht : ty = .boolean ∨ ty = .byte ∨ ty = .char ∨ ty = .short) (hk : k ≤ R.cells) (hn : n ≤ R.slots) (hQ : Q (some (.int (nar ty z))) h) : Run l Z n0 own code maxL ret nm R Q pc Ls (.int z :: st) h k n := by
  intro p e s m args below meth c T locs cells slots hC X eT hF hk' hn'
  subst eT
  have hr := hC.2.2.2.2.2.1
  exact Go.fin X (fun q => by rw [hr, hret] at q; cases q) hC.2.2.2.2.2.2.1 hF (Nat.le_trans hk' hk) (Nat.le_trans hn' hn) hQ (fun fs hl => retN X hC.1 (hr.trans hret) ht (hb hC.2.2.2.1 hd) hl)
theorem Run.lreturn {z : Int64} (hd : decode code pc = .ok (.lreturn, 1)) (hret : ret = some .long) (hk : k ≤ R.cells) (hn : n ≤ R.slots) (hQ : Q (some (.long z)) h) : Run l Z n0 own code maxL ret nm R Q pc Ls (.long z :: st) h k n := by
  intro p e s m args below meth c T locs cells slots hC X eT hF hk' hn'
  subst eT
  have hr := hC.2.2.2.2.2.1
  exact Go.fin X (fun q => by rw [hr, hret] at q; cases q) hC.2.2.2.2.2.2.1 hF (Nat.le_trans hk' hk) (Nat.le_trans hn' hn) hQ (fun fs hl => retOut X hC.1 (hr.trans hret) rfl (Or.inr (Or.inl ⟨rfl, rfl, z, rfl⟩)) (hb hC.2.2.2.1 hd) hl)
theorem go_narref {t : FieldType} {w : Value} (ht : t.isReference = true) (hw : w.isRef = true) : narrow t w = w := by
  cases t <;> first | rfl | (cases ht; done) | (cases w <;> first | rfl | cases hw)
theorem Run.areturn {w : Value} {ty : FieldType} (hd : decode code pc = .ok (.areturn, 1)) (hret : ret = some ty) (ht : ty.isReference = true) (hw : w.isRef = true) (hk : k ≤ R.cells) (hn : n ≤ R.slots) (hQ : Q (some w) h) : Run l Z n0 own code maxL ret nm R Q pc Ls (w :: st) h k n := by
  intro p e s m args below meth c T locs cells slots hC X eT hF hk' hn'
  subst eT
  have hr := hC.2.2.2.2.2.1
  exact Go.fin X (fun q => by rw [hr, hret] at q; cases q) hC.2.2.2.2.2.2.1 hF (Nat.le_trans hk' hk) (Nat.le_trans hn' hn) hQ (fun fs hl => retOut X hC.1 (hr.trans hret) (go_narref ht hw) (Or.inr (Or.inr (Or.inr (Or.inr ⟨rfl, ht, hw⟩)))) (hb hC.2.2.2.1 hd) hl)
theorem Run.vreturn (hd : decode code pc = .ok (.return_, 1)) (hret : ret = none) (hk : k ≤ R.cells) (hn : n ≤ R.slots) (hQ : Q none h) : Run l Z n0 own code maxL ret nm R Q pc Ls [] h k n := by
  intro p e s m args below meth c T locs cells slots hC X eT hF hk' hn'
  subst eT
  have hr := hC.2.2.2.2.2.1
  exact Go.fin X (fun _ => rfl) hC.2.2.2.2.2.2.1 hF (Nat.le_trans hk' hk) (Nat.le_trans hn' hn) hQ (fun fs hl => X.returnOut hC.1 (hr.trans hret) (hb hC.2.2.2.1 hd) hl)
/-! calls by a contract -/
theorem Run.callS {a0 : Array Value} {y : MethodName} {bytes : ByteArray} {mL : Nat} {rt : Option FieldType} {rm : Room} {as rest : List Value} {Qy : Option Value → Heap → Prop} {i : Nat} {ps : List FieldType} {rr : Option FieldType}
    (hC : Con l Z n0 y bytes mL rt rm as.toArray h Qy) (hd : decode code pc = .ok (.invokestatic i, 3)) (w1 : (Cond.methodLink own i y).before a0 Z = true) (w2 : (Cond.static y).before a0 Z = true) (w3 : (Cond.initialized y.cls).before a0 Z = true) (w4 : (Cond.code y bytes mL rt).before a0 Z = true)
    (hy : y.cls ≠ "java/lang/invoke/MethodHandle" ∧ y.cls ≠ "java/lang/invoke/VarHandle") (hds : parseMethodDescriptor y.desc = some ⟨ps, rr⟩) (hl : as.length = ps.length) (hst : st = as.reverse ++ rest) (hsz : Ls.size = maxL)
    (hf : rm.frames + 1 ≤ R.frames) (hlo : (rest.map fun v => v.category).sum + (mL + 11) + rm.locals ≤ R.locals) (hk : k + rm.cells ≤ k') (hk' : k' ≤ R.cells) (hn : n + rm.slots ≤ n') (hn' : n' ≤ R.slots) (hp : pc + 3 = pc')
    (nxt : ∀ v h', Qy v h' → Run l Z n0 own code maxL ret nm R Q pc' Ls (v.toList ++ rest) h' k' n') : Run l Z n0 own code maxL ret nm R Q pc Ls st h k n := by
  subst hp hst
  intro p e s m args below meth c T locs cells slots hX X eT hF hc hs
  obtain ⟨hx, hZ, hown, hby, hml, -⟩ := id hX
  obtain ⟨v, vm₁, ⟨B, L', cc, ss⟩, -, X', ⟨Lc, hQ, l1, y1, z1⟩, stp⟩ := Jvm.LawKit.callS X hx (y := y) hown (mvT hZ w1) (mvT hZ w2) (mvT hZ w3) (mvT hZ w4) hy (backOf (W := (rest.map fun v => v.category).sum) (Q := fun v h L => Qy v h ∧ Fr n0 L) (hC []) hZ w4 w3 hf hlo) (g := mkF m pc Ls (as.reverse ++ rest)) rfl (hsz.trans hml.symm) (argsL := as) (rest := rest) (lenOf hds hl) rfl (by show 2 * 0 + _ ≤ _; omega) (hb hby hd) (fun _ _ => ⟨rfl, eT, (by show cells + rm.cells ≤ R.cells; omega), (by show slots + rm.slots ≤ R.slots; omega)⟩)
  dsimp only [Pt.U, Pt.locs, Pt.cells, Pt.slots] at X' l1 y1 z1 stp hQ
  subst l1 y1 z1
  obtain ⟨s₂, v', L, g1, g2⟩ := nxt v _ hQ.1 p e s m args below meth c B _ _ _ hX X' rfl (Fr.app hF hQ.2) (by omega) (by omega)
  exact ⟨s₂, v', L, stp _ g1, g2⟩
theorem Run.callV {a0 : Array Value} {C : String} {y z : MethodName} {bytes : ByteArray} {mL : Nat} {rt : Option FieldType} {rm : Room} {a : Addr} {as rest : List Value} {Qy : Option Value → Heap → Prop} {i : Nat} {ps : List FieldType} {rr : Option FieldType}
    (hC : Con l Z n0 z bytes mL rt rm (.ref a :: as).toArray h Qy) (hE : Exa Z h a C) (hd : decode code pc = .ok (.invokevirtual i, 3)) (w1 : (Cond.methodLink own i y).before a0 Z = true) (w2 : (Cond.declares y).before a0 Z = true) (nf : ∀ (s : State), Z.Warmed39 s.vm → NotFace s y) (w3 : (Cond.selects C y z).before a0 Z = true) (w4 : (Cond.instanceMethod z).before a0 Z = true) (w5 : (Cond.initialized z.cls).before a0 Z = true) (w6 : (Cond.code z bytes mL rt).before a0 Z = true)
    (hy : y.cls ≠ "java/lang/invoke/MethodHandle" ∧ y.cls ≠ "java/lang/invoke/VarHandle") (hds : parseMethodDescriptor y.desc = some ⟨ps, rr⟩) (hl : as.length = ps.length) (hst : st = as.reverse ++ .ref a :: rest) (hsz : Ls.size = maxL)
    (hf : rm.frames + 1 ≤ R.frames) (hlo : (rest.map fun v => v.category).sum + (mL + 11) + rm.locals ≤ R.locals) (hk : k + rm.cells ≤ k') (hk' : k' ≤ R.cells) (hn : n + rm.slots ≤ n') (hn' : n' ≤ R.slots) (hp : pc + 3 = pc')
    (nxt : ∀ v h', Qy v h' → Run l Z n0 own code maxL ret nm R Q pc' Ls (v.toList ++ rest) h' k' n') : Run l Z n0 own code maxL ret nm R Q pc Ls st h k n := by
  subst hp hst
  intro p e s m args below meth c T locs cells slots hX X eT hF hc hs
  obtain ⟨hx, hZ, hown, hby, hml, -⟩ := id hX
  obtain ⟨cq, kq, qa, qb, qc⟩ := isOf hZ eT hE
  obtain ⟨v, vm₁, ⟨B, L', cc, ss⟩, -, X', ⟨Lc, hQ, l1, y1, z1⟩, stp⟩ := X.virtualBack hx (y := y) (z := z) hown (mvT hZ w1) (mvT hZ w2) (nf s hZ) (mvT hZ w3) (mvT hZ w4) hy (backOf (W := (rest.map fun v => v.category).sum) (Q := fun v h L => Qy v h ∧ Fr n0 L) (hC []) hZ w6 w5 hf hlo) qa qc (g := mkF m pc Ls (as.reverse ++ .ref a :: rest)) rfl (hsz.trans hml.symm) (Steps.refl _) (argsL := as) (rest := rest) (lenOf hds hl) rfl (by show 2 * 0 + _ ≤ _; omega) (hb hby hd) (fun _ _ => ⟨rfl, eT, (by show cells + rm.cells ≤ R.cells; omega), (by show slots + rm.slots ≤ R.slots; omega)⟩)
  dsimp only [Pt.U, Pt.locs, Pt.cells, Pt.slots] at X' l1 y1 z1 stp hQ
  subst l1 y1 z1
  obtain ⟨s₂, v', L, g1, g2⟩ := nxt v _ hQ.1 p e s m args below meth c B _ _ _ hX X' rfl (Fr.app hF hQ.2) (by omega) (by omega)
  exact ⟨s₂, v', L, stp.trans g1, g2⟩
theorem Run.callN {a0 : Array Value} {y : MethodName} {bytes : ByteArray} {mL : Nat} {rm : Room} {a : Addr} {as rest : List Value} {P : Heap → Prop} {i : Nat} {ps : List FieldType} {rr : Option FieldType}
    (hC : Con l Z n0 y bytes mL none rm (.ref a :: as).toArray h (Vd P)) (hy1 : y.name = "<init>") (hd : decode code pc = .ok (.invokespecial i, 3)) (w1 : (Cond.methodLink own i y).before a0 Z = true) (w2 : (Cond.instanceMethod y).before a0 Z = true) (w3 : (Cond.initialized y.cls).before a0 Z = true) (w4 : (Cond.code y bytes mL none).before a0 Z = true)
    (hy : y.cls ≠ "java/lang/invoke/MethodHandle" ∧ y.cls ≠ "java/lang/invoke/VarHandle") (hds : parseMethodDescriptor y.desc = some ⟨ps, rr⟩) (hl : as.length = ps.length) (hst : st = as.reverse ++ .ref a :: rest) (hsz : Ls.size = maxL)
    (hf : rm.frames + 1 ≤ R.frames) (hlo : (rest.map fun v => v.category).sum + (mL + 11) + rm.locals ≤ R.locals) (hk : k + rm.cells ≤ k') (hk' : k' ≤ R.cells) (hn : n + rm.slots ≤ n') (hn' : n' ≤ R.slots) (hp : pc + 3 = pc')
    (nxt : ∀ h', P h' → Run l Z n0 own code maxL ret nm R Q pc' Ls rest h' k' n') : Run l Z n0 own code maxL ret nm R Q pc Ls st h k n := by
  subst hp hst
  intro p e s m args below meth c T locs cells slots hX X eT hF hc hs
  obtain ⟨hx, hZ, hown, hby, hml, -⟩ := id hX
  obtain ⟨v, vm₁, ⟨B, L', cc, ss⟩, -, X', ⟨Lc, hQ, l1, y1, z1⟩, stp⟩ := X.specialBack hx (y := y) hy1 hown (mvT hZ w1) (mvT hZ w2) (mvT hZ w4) hy (backOf (W := (rest.map fun v => v.category).sum) (Q := fun v h L => Vd P v h ∧ Fr n0 L) (hC []) hZ w4 w3 hf hlo) (g := mkF m pc Ls (as.reverse ++ .ref a :: rest)) rfl (hsz.trans hml.symm) (Steps.refl _) (a := a) (argsL := as) (rest := rest) (lenOf hds hl) rfl (by show 2 * 0 + _ ≤ _; omega) (hb hby hd) (fun _ _ => ⟨rfl, eT, (by show cells + rm.cells ≤ R.cells; omega), (by show slots + rm.slots ≤ R.slots; omega)⟩)
  dsimp only [Pt.U, Pt.locs, Pt.cells, Pt.slots] at X' l1 y1 z1 stp hQ
  subst l1 y1 z1
  obtain ⟨⟨rfl, hP⟩, hL⟩ := hQ
  obtain ⟨s₂, v', L, g1, g2⟩ := nxt _ hP p e s m args below meth c B _ _ _ hX X' rfl (Fr.app hF hL) (by omega) (by omega)
  exact ⟨s₂, v', L, stp.trans g1, g2⟩
/-! the heap: new objects, fields written, arrays -/
theorem Run.wr {a : Addr} {sl : Nat} {v : Value} {Ls' : Array Slot} {st' : List Value} (f : ∀ (p : Program) (e : Env) (s : State) (m : MethodId) (args : Array Value) (below : List Frame) (meth : Method) (c : Code) (T : State) (locs : List Loc) (cells slots : Nat),
      Ctx Z own code maxL ret nm p s m meth c → Stand p l e R s m args below meth c T locs cells slots → T.heap = h → ∃ T' h', Stand p l e R s m args below meth c T' (locs ++ [⟨a, sl⟩]) cells slots ∧ T'.heap = h' ∧ Wr h h' a sl v ∧ ∀ t, Steps p.tables e below (T'.setTop (mkF m pc' Ls' st')) t → Steps p.tables e below (T.setTop (mkF m pc Ls st)) t)
    (ha : n0 ≤ a) (nxt : ∀ h', Wr h h' a sl v → Run l Z n0 own code maxL ret nm R Q pc' Ls' st' h' k n) : Run l Z n0 own code maxL ret nm R Q pc Ls st h k n := by
  intro p e s m args below meth c T locs cells slots hC X eT hF hk hn
  obtain ⟨T', h', X', e', W, stp⟩ := f p e s m args below meth c T locs cells slots hC X eT
  obtain ⟨s₂, v', L, g1, g2⟩ := nxt h' W p e s m args below meth c T' _ cells slots hC X' e' (Fr.snoc X' hF ha) hk hn
  exact ⟨s₂, v', L, stp _ g1, g2⟩
theorem Run.newO {a0 : Array Value} {C : String} {i sl : Nat} (hd : decode code pc = .ok (.new i, 3)) (w : (Cond.classLink own i C).before a0 Z = true) (wi : (Cond.instantiable C sl).before a0 Z = true) (wz : (Cond.initialized C).before a0 Z = true)
    (hk : k + 1 ≤ k') (hk' : k' ≤ R.cells) (hn : n + sl ≤ n') (hn' : n' ≤ R.slots) (hp : pc + 3 = pc')
    (nxt : ∀ h' a, a = h.size → Ext h h' → Exa Z h' a C → (∀ {O f d : String} {ty : FieldType}, Laid Z a0 C O f d → parseFieldDescriptor d = some ty → Fld Z h' a O f d (defaultValue ty)) → Run l Z n0 own code maxL ret nm R Q pc' Ls (.ref a :: st) h' k' n') : Run l Z n0 own code maxL ret nm R Q pc Ls st h k n := by
  subst hp
  intro p e s m args below meth c T locs cells slots hC X eT hF hkk hnn
  obtain ⟨T', h', X', e', E, A, D, -, stp⟩ := newO X hC.1 hC.2.1 hC.2.2.1 w wi wz eT (g := mkF m pc Ls st) rfl (hb hC.2.2.2.1 hd) (by omega) (by omega)
  obtain ⟨s₂, v, L, g1, g2⟩ := nxt h' h.size rfl E A D p e s m args below meth c T' locs _ _ hC X' e' hF (by omega) (by omega)
  exact ⟨s₂, v, L, stp _ g1, g2⟩
theorem Run.initO {a0 : Array Value} {i : Nat} {a : Addr} (hd : decode code pc = .ok (.invokespecial i, 3)) (w1 : (Cond.methodLink own i Lib.objectInit).before a0 Z = true) (w2 : (Cond.instanceMethod Lib.objectInit).before a0 Z = true) (w3 : (Cond.code Lib.objectInit ⟨#[0xb1]⟩ 1 none).before a0 Z = true)
    (hsz : Ls.size = maxL) (hf : 1 ≤ R.frames) (hl : (st.map fun v => v.category).sum + 12 ≤ R.locals) (hp : pc + 3 = pc') (nxt : Run l Z n0 own code maxL ret nm R Q pc' Ls st h k n) : Run l Z n0 own code maxL ret nm R Q pc Ls (.ref a :: st) h k n := by
  subst hp
  exact Run.via (fun p e s m args below meth c T locs cells slots hC X eT => initO X hC.1 hC.2.1 hC.2.2.1 w1 w2 w3 eT (g := mkF m pc Ls (.ref a :: st)) rfl (hsz.trans hC.2.2.2.2.1.symm) rfl (hb hC.2.2.2.1 hd) hf (W := (st.map fun v => v.category).sum) (by show 2 * 0 + _ ≤ _; omega) hl) nxt
theorem Run.putF {a0 : Array Value} {R0 O f d host C : String} {i sl : Nat} {ty : FieldType} {a : Addr} {v old : Value} (hd : decode code pc = .ok (.putfield i, 3)) (w : (Cond.fieldLink own i R0 f d).before a0 Z = true ∨ (Cond.fieldLinkNest own i R0 f d host).before a0 Z = true) (via : Via Z R0 O f d) (F : Fld Z h a O f d old) (E : Exa Z h a C)
    (L : (Cond.lays C O f d).before a0 Z = true ∨ ((Cond.laysFinal C O f d).before a0 Z = true ∧ own = O ∧ nm = "<init>")) (wi : (Cond.instantiable C sl).before a0 Z = true) (hty : parseFieldDescriptor d = some ty) (hnv : narrow ty v = v) (hfv : fits ty v = true) (ha : n0 ≤ a) (hp : pc + 3 = pc')
    (nxt : ∀ h', Wr h h' a (Jvm.RoadKit.slotOf Z O f d) v → Run l Z n0 own code maxL ret nm R Q pc' Ls st h' k n) : Run l Z n0 own code maxL ret nm R Q pc Ls (v :: .ref a :: st) h k n := by
  subst hp
  exact Run.wr (fun p e s m args below meth c T locs cells slots hC X eT => putF X hC.1 hC.2.1 hC.2.2.1 w via eT F E (L.imp id fun q => ⟨q.1, q.2.1, hC.2.2.2.2.2.2.2.trans q.2.2⟩) wi hty hnv hfv (g := mkF m pc Ls (v :: .ref a :: st)) rfl rfl (hb hC.2.2.2.1 hd)) ha nxt
theorem Run.putFN {a0 : Array Value} {R0 O f d C : String} {i sl : Nat} {ty : FieldType} {a : Addr} {v v' old : Value} (hd : decode code pc = .ok (.putfield i, 3)) (w : (Cond.fieldLink own i R0 f d).before a0 Z = true) (via : Via Z R0 O f d) (F : Fld Z h a O f d old) (E : Exa Z h a C)
    (L : (Cond.lays C O f d).before a0 Z = true ∨ ((Cond.laysFinal C O f d).before a0 Z = true ∧ own = O ∧ nm = "<init>")) (wi : (Cond.instantiable C sl).before a0 Z = true) (hty : parseFieldDescriptor d = some ty) (hnv : narrow ty v = v') (hfv : fits ty v' = true) (ha : n0 ≤ a) (hp : pc + 3 = pc')
    (nxt : ∀ h', Wr h h' a (Jvm.RoadKit.slotOf Z O f d) v' → Run l Z n0 own code maxL ret nm R Q pc' Ls st h' k n) : Run l Z n0 own code maxL ret nm R Q pc Ls (v :: .ref a :: st) h k n := by
  subst hp
  exact Run.wr (fun p e s m args below meth c T locs cells slots hC X eT => putFN X hC.1 hC.2.1 hC.2.2.1 w via eT F E (L.imp id fun q => ⟨q.1, q.2.1, hC.2.2.2.2.2.2.2.trans q.2.2⟩) wi hty hnv hfv (g := mkF m pc Ls (v :: .ref a :: st)) rfl rfl (hb hC.2.2.2.1 hd)) ha nxt
theorem Run.castY {a0 : Array Value} {K : String} {i : Nat} {a : Addr} (hd : decode code pc = .ok (.checkcast i, 3)) (w : (Cond.classLink own i K).before a0 Z = true) (F : Ins Z h a K true) (hp : pc + 3 = pc') (nxt : Run l Z n0 own code maxL ret nm R Q pc' Ls (.ref a :: st) h k n) : Run l Z n0 own code maxL ret nm R Q pc Ls (.ref a :: st) h k n := by
  subst hp
  exact Run.via (fun p e s m args below meth c T locs cells slots hC X eT => castY X hC.1 hC.2.1 hC.2.2.1 w eT F (g := mkF m pc Ls (.ref a :: st)) rfl rfl (hb hC.2.2.2.1 hd)) nxt
theorem Run.castNull {i : Nat} (hd : decode code pc = .ok (.checkcast i, 3)) (hp : pc + 3 = pc') (nxt : Run l Z n0 own code maxL ret nm R Q pc' Ls (.null :: st) h k n) : Run l Z n0 own code maxL ret nm R Q pc Ls (.null :: st) h k n := by
  subst hp
  exact Run.via (fun p e s m args below meth c T locs cells slots hC X eT => ⟨T, X, eT, fun t q => X.checkcastNull hC.1 (g := mkF m pc Ls (.null :: st)) rfl rfl (hb hC.2.2.2.1 hd) t q⟩) nxt
theorem Run.instY {a0 : Array Value} {K : String} {i : Nat} {a : Addr} (hd : decode code pc = .ok (.instanceof i, 3)) (w : (Cond.classLink own i K).before a0 Z = true) (F : Ins Z h a K true) (hp : pc + 3 = pc') (nxt : Run l Z n0 own code maxL ret nm R Q pc' Ls (.int 1 :: st) h k n) : Run l Z n0 own code maxL ret nm R Q pc Ls (.ref a :: st) h k n := by
  subst hp
  exact Run.via (fun p e s m args below meth c T locs cells slots hC X eT => instY X hC.1 hC.2.1 hC.2.2.1 w eT F (g := mkF m pc Ls (.ref a :: st)) rfl rfl (hb hC.2.2.2.1 hd)) nxt
theorem Run.instNo {a0 : Array Value} {K C : String} {i : Nat} {a : Addr} (hd : decode code pc = .ok (.instanceof i, 3)) (w : (Cond.classLink own i K).before a0 Z = true) (E : Exa Z h a C) (F : ∃ c t, Z.vm.findClass C = some c ∧ Z.vm.findClass K = some t ∧ Z.vm.assignable c t = false) (hp : pc + 3 = pc') (nxt : Run l Z n0 own code maxL ret nm R Q pc' Ls (.int 0 :: st) h k n) : Run l Z n0 own code maxL ret nm R Q pc Ls (.ref a :: st) h k n := by
  subst hp
  exact Run.via (fun p e s m args below meth c T locs cells slots hC X eT => instNo X hC.1 hC.2.1 hC.2.2.1 w eT E F (g := mkF m pc Ls (.ref a :: st)) rfl rfl (hb hC.2.2.2.1 hd)) nxt
theorem Run.instNull {i : Nat} (hd : decode code pc = .ok (.instanceof i, 3)) (hp : pc + 3 = pc') (nxt : Run l Z n0 own code maxL ret nm R Q pc' Ls (.int 0 :: st) h k n) : Run l Z n0 own code maxL ret nm R Q pc Ls (.null :: st) h k n := by
  subst hp
  exact Run.via (fun p e s m args below meth c T locs cells slots hC X eT => ⟨T, X, eT, fun t q => X.instanceofNull hC.1 (g := mkF m pc Ls (.null :: st)) rfl rfl (hb hC.2.2.2.1 hd) t q⟩) nxt
/-- the array at a holds just the list vs -/
def Ary (Z : State) (h : Heap) (a : Addr) (ty : FieldType) (vs : List Value) : Prop := ∃ c : Cell, Arr Z h a c ty ∧ c.slots.toList = vs
section Ar
variable {h' : Heap} {a b : Addr} {ty : FieldType} {vs : List Value} {sl : Nat} {v : Value} {ws : List Addr}
theorem Ary.lt (F : Ary Z h a ty vs) : a < h.size := by obtain ⟨c, A, -⟩ := F; exact A.lt
theorem Ary.ext (F : Ary Z h a ty vs) (E : Ext h h') : Ary Z h' a ty vs := by obtain ⟨c, A, r⟩ := F; exact ⟨c, A.ext E, r⟩
theorem Ary.other (F : Ary Z h b ty vs) (W : Wr h h' a sl v) (q : b ≠ a) : Ary Z h' b ty vs := by obtain ⟨c, A, r⟩ := F; exact ⟨c, A.other W q, r⟩
theorem Ary.keep (F : Ary Z h a ty vs) (K : Keep h h' ws) (q : a ∉ ws) : Ary Z h' a ty vs := by obtain ⟨c, A, r⟩ := F; exact ⟨c, ⟨K.2.1 a c A.1 q, A.2⟩, r⟩
theorem Ary.set (F : Ary Z h a ty vs) (W : Wr h h' a sl v) : Ary Z h' a ty (vs.set sl v) := by
  obtain ⟨c, A, r⟩ := F
  exact ⟨_, A.same W, by rw [← r]; simp [Cell.setSlot]⟩
theorem Ext.refl (h : Heap) : Ext h h := ⟨Nat.le_refl _, fun _ _ q => q⟩
theorem Ext.trans {h0 : Heap} (E : Ext h0 h) (E' : Ext h h') : Ext h0 h' := ⟨Nat.le_trans E.1 E'.1, fun a c q => E'.2 a c (E.2 a c q)⟩
theorem Ext.wr {h0 : Heap} (E : Ext h0 h) (W : Wr h h' a sl v) (q : h0.size ≤ a) : Ext h0 h' := by
  refine ⟨Nat.le_trans E.1 (Nat.le_of_eq W.size.symm), fun b c hb => ?_⟩
  obtain ⟨c', e1, -, -, -, e5, -⟩ := wr_at W (E.2 b c hb)
  have : b ≠ a := fun z => by subst z; exact absurd (Array.getElem?_eq_some_iff.mp hb).1 (Nat.not_lt.mpr q)
  rw [← e5 this]; exact e1
theorem Ext.keep {h0 : Heap} (E : Ext h0 h) (K : Keep h h' ws) (q : ∀ x ∈ ws, h0.size ≤ x) : Ext h0 h' :=
  ⟨Nat.le_trans E.1 K.1, fun b c hb => K.2.1 b c (E.2 b c hb) fun z => absurd (Array.getElem?_eq_some_iff.mp hb).1 (Nat.not_lt.mpr (q b z))⟩
theorem Keep.toExt (K : Keep h h' []) : Ext h h' := ⟨K.1, fun b c hb => K.2.1 b c hb nin0⟩
theorem own_fitsR {t : FieldType} (ht : refKind t = true) (hv : v.isRef = true) : fits t v = true := by cases t <;> first | (cases ht; done) | (cases v <;> first | rfl | cases hv)
theorem nst_exa {C : String} (E : Exa Z h a C) : ∃ c : Cell, h[a]? = some c ∧ c.vm.isStatics = false := by obtain ⟨c, _, h1, -, -, h4, -⟩ := E; exact ⟨c, h1, h4⟩
theorem nst_ary (A : Ary Z h a ty vs) : ∃ c : Cell, h[a]? = some c ∧ c.vm.isStatics = false := by obtain ⟨c, A, -⟩ := A; exact ⟨c, A.1, A.plain⟩
theorem sta_keep {C f d : String} (F : Sta Z h C f d v) (K : Keep h h' ws) (q : ∀ x ∈ ws, ∃ c : Cell, h[x]? = some c ∧ c.vm.isStatics = false) : Sta Z h' C f d v := by
  obtain ⟨cf, i, k, f, st, cell, h1, h2, h3, h4, h5, h6, h7⟩ := F
  refine ⟨cf, i, k, f, st, cell, h1, h2, h3, h4, K.2.1 st cell h5 fun hx => ?_, h6, h7⟩
  obtain ⟨c, e1, e2⟩ := q st hx
  cases e1.symm.trans h5
  rw [h6] at e2; cases e2
theorem Keep.ofExt (E : Ext h h') : Keep h h' [] := (Keep.refl h []).ext E
theorem idxIn {c : Cell} {j : Int32} {i : Nat} (hj : j.toInt = (i : Int)) (hi : i < c.slots.size) : ¬ (j < 0 ∨ c.slots.size ≤ j.toNatClampNeg) ∧ j.toNatClampNeg = i := by
  have e : j.toNatClampNeg = i := by have : j.toNatClampNeg = j.toInt.toNat := rfl; rw [this, hj]; rfl
  refine ⟨fun q => ?_, e⟩
  rcases q with q | q
  · rw [Int32.lt_iff_toInt_lt, hj] at q; have : (0 : Int32).toInt = 0 := rfl; omega
  · omega
theorem sizeOf {c : Cell} (r : c.slots.toList = vs) : c.slots.size = vs.length := by rw [← r]; simp
theorem getOf {c : Cell} {i : Nat} (r : c.slots.toList = vs) (hv : vs[i]? = some v) : c.slots[i]? = some v := by rw [← r] at hv; simpa using hv
end Ar
theorem ns_root {a0 : Array Value} {O K : String} {m : Nat} (w : (Cond.noSuperclass O).before a0 Z = true) (wk : (Cond.instantiable K m).before a0 Z = true) (hn : O ≠ K) : NS Z O K := by
  obtain ⟨c, k, h1, h2, h3, -, -⟩ := Cond.noSuperclass_spec w
  obtain ⟨t, k2, g1, -⟩ := Cond.instantiable_spec wk
  have ne := ids_ne h1 g1 hn
  refine ⟨c, t, h1, g1, fun fuel => ?_⟩
  cases fuel with
  | zero => rfl
  | succ f => simp [Vm.isSubclassAux, ne, h2, h3]
theorem ns_no {a0 : Array Value} {C S K : String} {m : Nat} (w : (Cond.superclass C S).before a0 Z = true) (wk : (Cond.instantiable K m).before a0 Z = true) (n : NS Z C K) (hn : C ≠ K) : ∃ c t, Z.vm.findClass C = some c ∧ Z.vm.findClass K = some t ∧ Z.vm.assignable c t = false := by
  obtain ⟨c, t, h0, g0, n3⟩ := n
  obtain ⟨p, k, kp, h1, h2, h3, h4, h5, -, h7⟩ := Cond.superclass_spec h0 w
  obtain ⟨t', k', g1, g2, g5, g7, -⟩ := Cond.instantiable_spec wk
  cases g0.symm.trans g1
  have ne := ids_ne h0 g0 hn
  have g8 : k'.isInterface = false := by cases hq : k'.isInterface <;> simp [hq] at g7 ⊢
  refine ⟨c, t, h0, g0, ?_⟩
  show Z.vm.assignableAux (255 + 1) c t = false
  simp [Vm.assignableAux, ne, h2, g2, h5, g5, g8, Vm.isSubclass, n3]
theorem Run.alen {a : Addr} {ty : FieldType} {vs : List Value} {z : Int32} (hd : decode code pc = .ok (.arraylength, 1)) (A : Ary Z h a ty vs) (hz : vs.length.toInt32 = z) (hp : pc + 1 = pc') (nxt : Run l Z n0 own code maxL ret nm R Q pc' Ls (.int z :: st) h k n) : Run l Z n0 own code maxL ret nm R Q pc Ls (.ref a :: st) h k n := by
  subst hp hz
  obtain ⟨c0, A, r⟩ := A
  exact Run.via (fun p e s m args below meth c T locs cells slots hC X eT => ⟨T, X, eT, fun t q => X.arraylength hC.1 (by rw [eT]; exact A.1) (State.isArrayOf_alike hC.2.1.alike A.2.1) (g := mkF m pc Ls (.ref a :: st)) rfl rfl (hb hC.2.2.2.1 hd) t (by rw [sizeOf r]; exact q)⟩) nxt
theorem Run.iaload {a : Addr} {vs : List Value} {j : Int32} {i : Nat} {v : Value} (hd : decode code pc = .ok (.iaload, 1)) (A : Ary Z h a .int vs) (hj : j.toInt = (i : Int)) (hv : vs[i]? = some v) (hp : pc + 1 = pc') (nxt : Run l Z n0 own code maxL ret nm R Q pc' Ls (v :: st) h k n) : Run l Z n0 own code maxL ret nm R Q pc Ls (.int j :: .ref a :: st) h k n := by
  subst hp
  obtain ⟨c0, A, r⟩ := A
  obtain ⟨hin, e0⟩ := idxIn (c := c0) hj (by rw [sizeOf r]; exact (List.getElem?_eq_some_iff.mp hv).1)
  exact Run.via (fun p e s m args below meth c T locs cells slots hC X eT => ⟨T, X, eT, fun t q => X.iaload hC.1 (by rw [eT]; exact A.1) (State.isArrayOf_alike hC.2.1.alike A.2.1) A.2.2 hin (by rw [e0]; exact getOf r hv) (g := mkF m pc Ls (.int j :: .ref a :: st)) rfl rfl (hb hC.2.2.2.1 hd) t q⟩) nxt
theorem Run.laload {a : Addr} {vs : List Value} {j : Int32} {i : Nat} {v : Value} (hd : decode code pc = .ok (.laload, 1)) (A : Ary Z h a .long vs) (hj : j.toInt = (i : Int)) (hv : vs[i]? = some v) (hp : pc + 1 = pc') (nxt : Run l Z n0 own code maxL ret nm R Q pc' Ls (v :: st) h k n) : Run l Z n0 own code maxL ret nm R Q pc Ls (.int j :: .ref a :: st) h k n := by
  subst hp
  obtain ⟨c0, A, r⟩ := A
  obtain ⟨hin, e0⟩ := idxIn (c := c0) hj (by rw [sizeOf r]; exact (List.getElem?_eq_some_iff.mp hv).1)
  exact Run.via (fun p e s m args below meth c T locs cells slots hC X eT => ⟨T, X, eT, fun t q => X.laload hC.1 (by rw [eT]; exact A.1) (State.isArrayOf_alike hC.2.1.alike A.2.1) A.2.2 hin (by rw [e0]; exact getOf r hv) (g := mkF m pc Ls (.int j :: .ref a :: st)) rfl rfl (hb hC.2.2.2.1 hd) t q⟩) nxt
theorem Run.caload {a : Addr} {vs : List Value} {j : Int32} {i : Nat} {v : Value} (hd : decode code pc = .ok (.caload, 1)) (A : Ary Z h a .char vs) (hj : j.toInt = (i : Int)) (hv : vs[i]? = some v) (hp : pc + 1 = pc') (nxt : Run l Z n0 own code maxL ret nm R Q pc' Ls (v :: st) h k n) : Run l Z n0 own code maxL ret nm R Q pc Ls (.int j :: .ref a :: st) h k n := by
  subst hp
  obtain ⟨c0, A, r⟩ := A
  obtain ⟨hin, e0⟩ := idxIn (c := c0) hj (by rw [sizeOf r]; exact (List.getElem?_eq_some_iff.mp hv).1)
  exact Run.via (fun p e s m args below meth c T locs cells slots hC X eT => ⟨T, X, eT, fun t q => X.caload hC.1 (by rw [eT]; exact A.1) (State.isArrayOf_alike hC.2.1.alike A.2.1) A.2.2 hin (by rw [e0]; exact getOf r hv) (g := mkF m pc Ls (.int j :: .ref a :: st)) rfl rfl (hb hC.2.2.2.1 hd) t q⟩) nxt
theorem Run.saload {a : Addr} {vs : List Value} {j : Int32} {i : Nat} {v : Value} (hd : decode code pc = .ok (.saload, 1)) (A : Ary Z h a .short vs) (hj : j.toInt = (i : Int)) (hv : vs[i]? = some v) (hp : pc + 1 = pc') (nxt : Run l Z n0 own code maxL ret nm R Q pc' Ls (v :: st) h k n) : Run l Z n0 own code maxL ret nm R Q pc Ls (.int j :: .ref a :: st) h k n := by
  subst hp
  obtain ⟨c0, A, r⟩ := A
  obtain ⟨hin, e0⟩ := idxIn (c := c0) hj (by rw [sizeOf r]; exact (List.getElem?_eq_some_iff.mp hv).1)
  exact Run.via (fun p e s m args below meth c T locs cells slots hC X eT => ⟨T, X, eT, fun t q => X.saload hC.1 (by rw [eT]; exact A.1) (State.isArrayOf_alike hC.2.1.alike A.2.1) A.2.2 hin (by rw [e0]; exact getOf r hv) (g := mkF m pc Ls (.int j :: .ref a :: st)) rfl rfl (hb hC.2.2.2.1 hd) t q⟩) nxt
theorem Run.baload {a : Addr} {vs : List Value} {j : Int32} {i : Nat} {v : Value} (hd : decode code pc = .ok (.baload, 1)) (A : Ary Z h a .byte vs) (hj : j.toInt = (i : Int)) (hv : vs[i]? = some v) (hp : pc + 1 = pc') (nxt : Run l Z n0 own code maxL ret nm R Q pc' Ls (v :: st) h k n) : Run l Z n0 own code maxL ret nm R Q pc Ls (.int j :: .ref a :: st) h k n := by
  subst hp
  obtain ⟨c0, A, r⟩ := A
  obtain ⟨hin, e0⟩ := idxIn (c := c0) hj (by rw [sizeOf r]; exact (List.getElem?_eq_some_iff.mp hv).1)
  exact Run.via (fun p e s m args below meth c T locs cells slots hC X eT => ⟨T, X, eT, fun t q => X.baloadBytes hC.1 (by rw [eT]; exact A.1) (State.isArrayOf_alike hC.2.1.alike A.2.1) A.2.2 hin (by rw [e0]; exact getOf r hv) (g := mkF m pc Ls (.int j :: .ref a :: st)) rfl rfl (hb hC.2.2.2.1 hd) t q⟩) nxt
theorem Run.aaload {a : Addr} {vs : List Value} {j : Int32} {i : Nat} {v : Value} {ty : FieldType} (hd : decode code pc = .ok (.aaload, 1)) (A : Ary Z h a ty vs) (hty : ty.isReference = true) (hj : j.toInt = (i : Int)) (hv : vs[i]? = some v) (hp : pc + 1 = pc') (nxt : Run l Z n0 own code maxL ret nm R Q pc' Ls (v :: st) h k n) : Run l Z n0 own code maxL ret nm R Q pc Ls (.int j :: .ref a :: st) h k n := by
  subst hp
  obtain ⟨c0, A, r⟩ := A
  obtain ⟨hin, e0⟩ := idxIn (c := c0) hj (by rw [sizeOf r]; exact (List.getElem?_eq_some_iff.mp hv).1)
  exact Run.via (fun p e s m args below meth c T locs cells slots hC X eT => ⟨T, X, eT, fun t q => X.aaload hC.1 (by rw [eT]; exact A.1) (State.isArrayOf_alike hC.2.1.alike A.2.1) hty A.2.2 hin (by rw [e0]; exact getOf r hv) (g := mkF m pc Ls (.int j :: .ref a :: st)) rfl rfl (hb hC.2.2.2.1 hd) t q⟩) nxt
theorem Run.iastore {a : Addr} {vs : List Value} {j : Int32} {i : Nat} {x : Int32} (hd : decode code pc = .ok (.iastore, 1)) (A : Ary Z h a .int vs) (hj : j.toInt = (i : Int)) (hi : i < vs.length) (ha : n0 ≤ a) (hp : pc + 1 = pc') (nxt : ∀ h', Wr h h' a i (.int x) → Ary Z h' a .int (vs.set i (.int x)) → Run l Z n0 own code maxL ret nm R Q pc' Ls st h' k n) : Run l Z n0 own code maxL ret nm R Q pc Ls (.int x :: .int j :: .ref a :: st) h k n := by
  subst hp
  have A' := A
  obtain ⟨c0, A, r⟩ := A
  obtain ⟨hin, e0⟩ := idxIn (c := c0) hj (by rw [sizeOf r]; exact hi)
  refine Run.wr (fun p e s m args below meth c T locs cells slots hC X eT => ?_) ha (fun h' W => nxt h' W (A'.set W))
  have q := stI X hC.1 hC.2.1 eT A hin (g := mkF m pc Ls (.int x :: .int j :: .ref a :: st)) rfl rfl (hb hC.2.2.2.1 hd)
  rw [e0] at q
  exact q
theorem Run.lastore {a : Addr} {vs : List Value} {j : Int32} {i : Nat} {x : Int64} (hd : decode code pc = .ok (.lastore, 1)) (A : Ary Z h a .long vs) (hj : j.toInt = (i : Int)) (hi : i < vs.length) (ha : n0 ≤ a) (hp : pc + 1 = pc') (nxt : ∀ h', Wr h h' a i (.long x) → Ary Z h' a .long (vs.set i (.long x)) → Run l Z n0 own code maxL ret nm R Q pc' Ls st h' k n) : Run l Z n0 own code maxL ret nm R Q pc Ls (.long x :: .int j :: .ref a :: st) h k n := by
  subst hp
  have A' := A
  obtain ⟨c0, A, r⟩ := A
  obtain ⟨hin, e0⟩ := idxIn (c := c0) hj (by rw [sizeOf r]; exact hi)
  refine Run.wr (fun p e s m args below meth c T locs cells slots hC X eT => ?_) ha (fun h' W => nxt h' W (A'.set W))
  have q := stJ X hC.1 hC.2.1 eT A hin (g := mkF m pc Ls (.long x :: .int j :: .ref a :: st)) rfl rfl (hb hC.2.2.2.1 hd)
  rw [e0] at q
  exact q
theorem Run.castore {a : Addr} {vs : List Value} {j : Int32} {i : Nat} {x : Int32} (hd : decode code pc = .ok (.castore, 1)) (A : Ary Z h a .char vs) (hj : j.toInt = (i : Int)) (hi : i < vs.length) (ha : n0 ≤ a) (hp : pc + 1 = pc') (nxt : ∀ h', Wr h h' a i (.int (nar .char x)) → Ary Z h' a .char (vs.set i (.int (nar .char x))) → Run l Z n0 own code maxL ret nm R Q pc' Ls st h' k n) : Run l Z n0 own code maxL ret nm R Q pc Ls (.int x :: .int j :: .ref a :: st) h k n := by
  subst hp
  have A' := A
  obtain ⟨c0, A, r⟩ := A
  obtain ⟨hin, e0⟩ := idxIn (c := c0) hj (by rw [sizeOf r]; exact hi)
  refine Run.wr (fun p e s m args below meth c T locs cells slots hC X eT => ?_) ha (fun h' W => nxt h' W (A'.set W))
  have q := stC X hC.1 hC.2.1 eT A hin (g := mkF m pc Ls (.int x :: .int j :: .ref a :: st)) rfl rfl (hb hC.2.2.2.1 hd)
  rw [e0] at q
  exact q
theorem Run.sastore {a : Addr} {vs : List Value} {j : Int32} {i : Nat} {x : Int32} (hd : decode code pc = .ok (.sastore, 1)) (A : Ary Z h a .short vs) (hj : j.toInt = (i : Int)) (hi : i < vs.length) (ha : n0 ≤ a) (hp : pc + 1 = pc') (nxt : ∀ h', Wr h h' a i (.int (nar .short x)) → Ary Z h' a .short (vs.set i (.int (nar .short x))) → Run l Z n0 own code maxL ret nm R Q pc' Ls st h' k n) : Run l Z n0 own code maxL ret nm R Q pc Ls (.int x :: .int j :: .ref a :: st) h k n := by
  subst hp
  have A' := A
  obtain ⟨c0, A, r⟩ := A
  obtain ⟨hin, e0⟩ := idxIn (c := c0) hj (by rw [sizeOf r]; exact hi)
  refine Run.wr (fun p e s m args below meth c T locs cells slots hC X eT => ?_) ha (fun h' W => nxt h' W (A'.set W))
  have q := stS X hC.1 hC.2.1 eT A hin (g := mkF m pc Ls (.int x :: .int j :: .ref a :: st)) rfl rfl (hb hC.2.2.2.1 hd)
  rw [e0] at q
  exact q
theorem Run.bastore {a : Addr} {vs : List Value} {j : Int32} {i : Nat} {x : Int32} (hd : decode code pc = .ok (.bastore, 1)) (A : Ary Z h a .byte vs) (hj : j.toInt = (i : Int)) (hi : i < vs.length) (ha : n0 ≤ a) (hp : pc + 1 = pc') (nxt : ∀ h', Wr h h' a i (.int (nar .byte x)) → Ary Z h' a .byte (vs.set i (.int (nar .byte x))) → Run l Z n0 own code maxL ret nm R Q pc' Ls st h' k n) : Run l Z n0 own code maxL ret nm R Q pc Ls (.int x :: .int j :: .ref a :: st) h k n := by
  subst hp
  have A' := A
  obtain ⟨c0, A, r⟩ := A
  obtain ⟨hin, e0⟩ := idxIn (c := c0) hj (by rw [sizeOf r]; exact hi)
  refine Run.wr (fun p e s m args below meth c T locs cells slots hC X eT => ?_) ha (fun h' W => nxt h' W (A'.set W))
  have q := stB X hC.1 hC.2.1 eT A hin (g := mkF m pc Ls (.int x :: .int j :: .ref a :: st)) rfl rfl (hb hC.2.2.2.1 hd)
  rw [e0] at q
  exact q
theorem Run.newP {a0 : Array Value} {aty : ArrayType} {ty : FieldType} {z : Int32} {cap m : Nat} {dv : Value} (hd : decode code pc = .ok (.newarray aty, 2)) (hty : newarray.typeOf aty = ty) (w : (Cond.arrayClass ty).before a0 Z = true) (hz : ¬ z < 0) (hcap : z.toNatClampNeg = m) (hm : m ≤ cap) (hdv : defaultValue ty = dv) (hcb : cap * 8 ≤ 536870912)
    (hk : k + 1 ≤ k') (hk' : k' ≤ R.cells) (hn : n + cap ≤ n') (hn' : n' ≤ R.slots) (hp : pc + 2 = pc')
    (nxt : ∀ h' a, a = h.size → Ext h h' → Ary Z h' a ty (List.replicate m dv) → Run l Z n0 own code maxL ret nm R Q pc' Ls (.ref a :: st) h' k' n') : Run l Z n0 own code maxL ret nm R Q pc Ls (.int z :: st) h k n := by
  subst hp hty hdv
  intro p e s m args below meth c T locs cells slots hC X eT hF hkk hnn
  obtain ⟨T', h', cA, X', e', E, A, stp⟩ := newP X hC.1 hC.2.1 w eT (g := mkF m pc Ls (.int z :: st)) rfl (hb hC.2.2.2.1 hd) rfl hz (by omega) hcb (by omega) (by omega)
  obtain ⟨s₂, v, L, g1, g2⟩ := nxt h' h.size rfl E ⟨_, A, by simp [newA, hcap]⟩ p e s m args below meth c T' locs _ _ hC X' e' hF (by omega) (by omega)
  exact ⟨s₂, v, L, stp _ g1, g2⟩
theorem Ary.toArv {h : Heap} {a : Addr} {ty : FieldType} {vs : List Value} {z : Int32} (dv : Value) (F : Ary Z h a ty vs) (hz : z.toInt = (vs.length : Int)) (hf : ∀ v ∈ vs, fits ty v = true) : ∃ kc, Arv Z h a kc ty z vs dv := by
  obtain ⟨c, A, r⟩ := F
  have hsz := sizeOf r
  have e : z.toNatClampNeg = vs.length := by have : z.toNatClampNeg = z.toInt.toNat := rfl; rw [this, hz]; rfl
  refine ⟨c.cls, c, A, rfl, by rw [e, hsz], ?_, fun j hj => ?_, fun j hj => ?_⟩
  · rw [Int32.lt_iff_toInt_lt, hz]; have : (0 : Int32).toInt = 0 := rfl; omega
  · have hj' : j < vs.length := by omega
    rw [getOf r (List.getElem?_eq_getElem hj')]
    simp [List.getD_eq_getElem?_getD, List.getElem?_eq_getElem hj']
  · have hj' : j < vs.length := by omega
    have q := hf _ (List.getElem_mem hj')
    simpa [List.getD_eq_getElem?_getD, List.getElem?_eq_getElem hj'] using q
theorem Ary.ofArv {h : Heap} {a : Addr} {ty : FieldType} {vs : List Value} {z : Int32} {dv : Value} {kc : ClassId} (F : Arv Z h a kc ty z vs dv) (hz : z.toInt = (vs.length : Int)) : Ary Z h a ty vs := by
  obtain ⟨c, A, -, S, -, H, -⟩ := F
  have e : z.toNatClampNeg = vs.length := by have : z.toNatClampNeg = z.toInt.toNat := rfl; rw [this, hz]; rfl
  refine ⟨c, A, List.ext_getElem? fun j => ?_⟩
  by_cases hj : j < vs.length
  · have q := H j (by omega)
    rw [Array.getElem?_toList, q]
    simp [List.getD_eq_getElem?_getD, List.getElem?_eq_getElem hj]
  · rw [List.getElem?_eq_none (l := c.slots.toList) (by rw [Array.length_toList]; omega), List.getElem?_eq_none (l := vs) (by omega)]
/-- System.arraycopy(a, 0, b, 0, a.length) of plain components -/
theorem Run.acopy {a0 : Array Value} {i : Nat} {a b : Addr} {ty : FieldType} {vs us : List Value} {z z' : Int32} (hd : decode code pc = .ok (.invokestatic i, 3)) (w1 : (Cond.methodLink own i Jvm.Stand.acN).before a0 Z = true) (w2 : (Cond.native Jvm.Stand.acN).before a0 Z = true) (w3 : (Cond.static Jvm.Stand.acN).before a0 Z = true) (w4 : (Cond.initialized "java/lang/System").before a0 Z = true)
    (A : Ary Z h a ty vs) (B : Ary Z h b ty us) (hk : refKind ty = false) (hz : z.toInt = (vs.length : Int)) (hz' : z'.toInt = (us.length : Int)) (hle : vs.length ≤ us.length) (fa : ∀ v ∈ vs, fits ty v = true) (fb : ∀ v ∈ us, fits ty v = true) (ge : n0 ≤ b)
    (hsz : Ls.size = maxL) (hf : 1 ≤ R.frames) (hl : (st.map fun v => v.category).sum + (nativeFrameWords "java/lang/System" "arraycopy" 5 + 11) ≤ R.locals) (hp : pc + 3 = pc')
    (nxt : ∀ h', Keep h h' [b] → Ary Z h' b ty (vs ++ us.drop vs.length) → Run l Z n0 own code maxL ret nm R Q pc' Ls st h' k n) : Run l Z n0 own code maxL ret nm R Q pc Ls (.int z :: .int 0 :: .ref b :: .int 0 :: .ref a :: st) h k n := by
  subst hp
  intro p e s m args below meth c T locs cells slots hC X eT hF hkk hnn
  obtain ⟨k1, A1⟩ := A.toArv (z := z) .null hz fa
  obtain ⟨k2, B1⟩ := B.toArv (z := z') .null hz' fb
  have e1 : z.toNatClampNeg = vs.length := by have : z.toNatClampNeg = z.toInt.toNat := rfl; rw [this, hz]; rfl
  have e2 : z'.toNatClampNeg = us.length := by have : z'.toNatClampNeg = z'.toInt.toNat := rfl; rw [this, hz']; rfl
  have e0 : (0 : Int32).toNatClampNeg = 0 := rfl
  have n1 : ¬ z < 0 := by rw [Int32.lt_iff_toInt_lt, hz]; have : (0 : Int32).toInt = 0 := rfl; omega
  have hus : vs = (List.range z.toNatClampNeg).map fun j => vs.getD ((0 : Int32).toNatClampNeg + j) .null := by
    rw [e1, e0]
    apply List.ext_getElem?
    intro j
    by_cases hj : j < vs.length
    · simp [hj, List.getD_eq_getElem?_getD]
    · rw [List.getElem?_eq_none (by omega), List.getElem?_eq_none (by simp; omega)]
  obtain ⟨T', h', L, X', e', N', K, B', stp⟩ := cpA X hC.1 hC.2.1 hC.2.2.1 w1 w2 w3 w4 eT A1 B1 (Or.inl ⟨rfl, hk⟩) (by decide) (by decide) n1 (by rw [e0]; omega) (by rw [e0]; omega) hus (by rw [e0]; omega) hF ge (g := mkF m pc Ls (.int z :: .int 0 :: .ref b :: .int 0 :: .ref a :: st)) rfl (hsz.trans hC.2.2.2.2.1.symm) rfl (hb hC.2.2.2.1 hd) hf (W := (st.map fun v => v.category).sum) (by show 2 * 0 + _ ≤ _; omega) hl
  have hB : Ary Z h' b ty (vs ++ us.drop vs.length) := by
    have q : us.take (0 : Int32).toNatClampNeg ++ vs ++ us.drop ((0 : Int32).toNatClampNeg + z.toNatClampNeg) = vs ++ us.drop vs.length := by rw [e0, e1]; simp
    rw [q] at B'
    exact Ary.ofArv B' (by rw [hz']; simp; omega)
  obtain ⟨s₂, v, L2, g1, g2⟩ := nxt h' K hB p e s m args below meth c T' L cells slots hC X' e' N' hkk hnn
  exact ⟨s₂, v, L2, stp _ g1, g2⟩
/-- clone of an array -/
theorem Run.aclone {a0 : Array Value} {i cap : Nat} {a : Addr} {ty : FieldType} {cl : Cell} {ad : String} (hd : decode code pc = .ok (.invokevirtual i, 3)) (w1 : (Cond.methodLink own i ⟨ad, "clone", "()Ljava/lang/Object;"⟩).before a0 Z = true) (w2 : (Cond.sameMethod ad "java/lang/Object" "clone" "()Ljava/lang/Object;").before a0 Z = true) (w3 : (Cond.native ⟨"java/lang/Object", "clone", "()Ljava/lang/Object;"⟩).before a0 Z = true)
    (w4 : (Cond.instanceMethod ⟨"java/lang/Object", "clone", "()Ljava/lang/Object;"⟩).before a0 Z = true) (w5 : (Cond.selects ad ⟨ad, "clone", "()Ljava/lang/Object;"⟩ ⟨"java/lang/Object", "clone", "()Ljava/lang/Object;"⟩).before a0 Z = true) (w6 : (Cond.castable ad "java/lang/Cloneable").before a0 Z = true)
    (A : Arr Z h a cl ty) (E : Exa Z h a ad) (F : FitC Z cl) (hsz : Ls.size = maxL) (hf : 1 ≤ R.frames) (hl : (st.map fun v => v.category).sum + 14 ≤ R.locals) (hcap : cl.slots.size ≤ cap) (hk : k + 1 ≤ k') (hk' : k' ≤ R.cells) (hn : n + cap ≤ n') (hn' : n' ≤ R.slots) (hp : pc + 3 = pc')
    (nxt : ∀ h' b, b = h.size → Ext h h' → Ary Z h' b ty cl.slots.toList → Exa Z h' b ad → Run l Z n0 own code maxL ret nm R Q pc' Ls (.ref b :: st) h' k' n') : Run l Z n0 own code maxL ret nm R Q pc Ls (.ref a :: st) h k n := by
  subst hp
  intro p e s m args below meth c T locs cells slots hC X eT hF hkk hnn
  obtain ⟨T', h', X', e', E', A', X2, stp⟩ := cloneA X hC.1 hC.2.1 hC.2.2.1 w1 w2 w3 w4 w5 w6 eT A E F (g := mkF m pc Ls (.ref a :: st)) rfl (hsz.trans hC.2.2.2.2.1.symm) rfl (hb hC.2.2.2.1 hd) hf (W := (st.map fun v => v.category).sum) (by show 2 * 0 + _ ≤ _; omega) hl hcap (by omega) (by omega)
  obtain ⟨s₂, v, L, g1, g2⟩ := nxt h' h.size rfl E' ⟨_, A', rfl⟩ X2 p e s m args below meth c T' locs _ _ hC X' e' hF (by omega) (by omega)
  exact ⟨s₂, v, L, stp _ g1, g2⟩
end Walk
end Jvm.GoKit
namespace Jvm.Pilot.@@N@@
open Jvm Jvm.ClassFile Sem Op Lib Jvm.Free Jvm.Stand Jvm.LawKit Jvm.RoadKit Jvm.GoKit Bundle Jvm.Pilot.@@N@@.Jvm.D
def own_rol (p1 : Int32) (p2 : Int32) : Int32 := ((p1 <<< (p2 &&& 31)) ||| (XT.ushr p1 (-p2)))
theorem d6_0 : decode jdk_33_method_50_code 0 = .ok (.iload_n 0, 1) := by decide +kernel
theorem d6_1 : decode jdk_33_method_50_code 1 = .ok (.iload_n 1, 1) := by decide +kernel
theorem d6_2 : decode jdk_33_method_50_code 2 = .ok (.ishl, 1) := by decide +kernel
theorem d6_3 : decode jdk_33_method_50_code 3 = .ok (.iload_n 0, 1) := by decide +kernel
theorem d6_4 : decode jdk_33_method_50_code 4 = .ok (.iload_n 1, 1) := by decide +kernel
theorem d6_5 : decode jdk_33_method_50_code 5 = .ok (.ineg, 1) := by decide +kernel
theorem d6_6 : decode jdk_33_method_50_code 6 = .ok (.iushr, 1) := by decide +kernel
theorem d6_7 : decode jdk_33_method_50_code 7 = .ok (.ior, 1) := by decide +kernel
theorem d6_8 : decode jdk_33_method_50_code 8 = .ok (.ireturn, 1) := by decide +kernel
theorem pn_6 : plainFor (⟨"java/lang/Integer", "rotateLeft", "(II)I"⟩ : MethodName) = true := plainFor_of_name (by first | (simp [plainName, overriddenIn]; done) | decide +kernel)
theorem ef_con_own_rol (m : MethodId) (p1 : Int32) (p2 : Int32)  : entryFrame m #[(.int p1), (.int p2)] 2 = mkF m 0 #[.val (.int p1), .val (.int p2)] [] := by first | (simp [entryFrame, mkF, argsToLocals, Value.category]; done) | rfl
set_option maxRecDepth 65536 in
set_option maxHeartbeats 40000000 in
theorem con_own_rol (l : Launch) (Z : State) (a0 : Array Value) (hw : ∀ d ∈ tables_1, d.before a0 Z = true) (n0 : Nat) (h0 : Heap) (Z0 : n0 ≤ h0.size) (p1 : Int32) (p2 : Int32)  :
    Con l Z n0 (⟨"java/lang/Integer", "rotateLeft", "(II)I"⟩ : MethodName) jdk_33_method_50_code 2 (some .int) ({ frames := 0, cells := 0, slots := 0, locals := 0 } : Room) #[(.int p1), (.int p2)] h0 (Val (PV (.int (own_rol p1 p2)) h0)) := by
  refine Con.of_run pn_6 (fun m => ef_con_own_rol m p1 p2 ) ?_
  refine Run.iloadN d6_0 rfl (pc' := 1) rfl ?_
  refine Run.iloadN d6_1 rfl (pc' := 2) rfl ?_
  refine Run.ishl d6_2 (pc' := 3) rfl ?_
  refine Run.iloadN d6_3 rfl (pc' := 4) rfl ?_
  refine Run.iloadN d6_4 rfl (pc' := 5) rfl ?_
  refine Run.ineg d6_5 (pc' := 6) rfl ?_
  refine Run.iushr d6_6 (pc' := 7) rfl ?_
  refine Run.ior d6_7 (pc' := 8) rfl ?_
  exact Run.ireturn d6_8 rfl (by decide) (by decide) ⟨_, rfl, rfl, rfl⟩
def own_word (mb : List Int32) (o : Nat) : Int32 := (((((mb.getD o 0) &&& (255 : Int32)) <<< ((24 : Int32) &&& 31)) ||| (((mb.getD (o + 1) 0) &&& (255 : Int32)) <<< ((16 : Int32) &&& 31))) ||| (((mb.getD (o + 2) 0) &&& (255 : Int32)) <<< ((8 : Int32) &&& 31))) ||| ((mb.getD (o + 3) 0) &&& (255 : Int32))
def own_l1 (mb : List Int32) (o : Nat) : Nat → Nat → List Int32 → List Int32
  | 0, _, ws => ws
  | t + 1, i, ws => own_l1 mb o t (i + 1) (ws.set i (own_word mb (o + 4 * i)))
def own_nx (ws : List Int32) (i : Nat) : Int32 := own_rol ((((ws.getD (i - 3) 0) ^^^ (ws.getD (i - 8) 0)) ^^^ (ws.getD (i - 14) 0)) ^^^ (ws.getD (i - 16) 0)) (1 : Int32)
def own_l2 : Nat → Nat → List Int32 → List Int32
  | 0, _, ws => ws
  | t + 1, i, ws => own_l2 t (i + 1) (ws.set i (own_nx ws i))
def own_f (i : Nat) (b c d : Int32) : Int32 := if i < 20 then ((b &&& c) ||| ((b ^^^ (-1 : Int32)) &&& d)) else if i < 40 then ((b ^^^ c) ^^^ d) else if i < 60 then (((b &&& c) ||| (b &&& d)) ||| (c &&& d)) else ((b ^^^ c) ^^^ d)
def own_k (i : Nat) : Int32 := if i < 20 then 1518500249 else if i < 40 then 1859775393 else if i < 60 then -1894007588 else -899497514
def own_tm (i : Nat) (a b c d e w : Int32) : Int32 := ((((own_rol a 5) + (own_f i b c d)) + e) + (own_k i)) + w
def own_l3 (ws : List Int32) : Nat → Nat → Int32 → Int32 → Int32 → Int32 → Int32 → List Int32
  | 0, _, a, b, c, d, e => [a, b, c, d, e]
  | t + 1, i, a, b, c, d, e => own_l3 ws t (i + 1) (own_tm i a b c d e (ws.getD i 0)) a (own_rol b 30) c d
theorem own_ofn {i : Nat} (h : i < 2 ^ 31) : (Int32.ofNat i).toInt = (i : Int) := toInt_of rfl h
theorem own_inc (i : Nat) : Int32.ofNat i + (1 : Int32) = Int32.ofNat (i + 1) := (inc_ofNat i).symm
theorem own_lt {i j : Nat} (hi : i < 2 ^ 31) (hj : j < 2 ^ 31) : Int32.ofNat i < Int32.ofNat j ↔ i < j := by rw [Int32.lt_iff_toInt_lt, own_ofn hi, own_ofn hj]; omega
theorem own_ltk {i k : Nat} {kk : Int32} (hk : kk.toInt = (k : Int)) (hi : i < 2 ^ 31) : Int32.ofNat i < kk ↔ i < k := by rw [Int32.lt_iff_toInt_lt, own_ofn hi, hk]; omega
theorem own_klt {i k : Nat} {kk : Int32} (hk : kk.toInt = (k : Int)) (hi : i < 2 ^ 31) : kk < Int32.ofNat i ↔ k < i := by rw [Int32.lt_iff_toInt_lt, own_ofn hi, hk]; omega
theorem own_get {ws : List Int32} {i : Nat} (h : i < ws.length) : (ws.map Value.int)[i]? = some (.int (ws.getD i 0)) := by simp [List.getD_eq_getElem?_getD, h]
theorem own_set {Z : State} {h : Heap} {a : Addr} {ty : FieldType} {ws : List Int32} {i : Nat} {x : Int32} (A : Ary Z h a ty ((ws.map Value.int).set i (.int x))) : Ary Z h a ty ((ws.set i x).map Value.int) := by rw [List.map_set]; exact A
theorem own_s {i k : Nat} {kk : Int32} (hk : kk.toInt = (k : Int)) (h : k ≤ i) (hi : i < 2 ^ 31) : (Int32.ofNat i - kk).toInt = ((i - k : Nat) : Int) := by
  have h1 := c_isub (Int32.ofNat i) kk; have h2 := rng32 (Int32.ofNat i - kk); rw [own_ofn hi, hk] at h1; omega
theorem own_p {o i : Nat} (h : o + 4 * i < 1000000) : (Int32.ofNat o + (4 : Int32) * Int32.ofNat i).toInt = ((o + 4 * i : Nat) : Int) := by
  have h1 := c_imul 4 (Int32.ofNat i); have h2 := rng32 ((4 : Int32) * Int32.ofNat i); have h5 : (4 : Int32).toInt = 4 := rfl
  rw [own_ofn (i := i) (by omega), h5] at h1
  have h3 := c_iadd (Int32.ofNat o) ((4 : Int32) * Int32.ofNat i); have h4 := rng32 (Int32.ofNat o + (4 : Int32) * Int32.ofNat i)
  rw [own_ofn (i := o) (by omega)] at h3
  omega
theorem own_a {p : Int32} {m k : Nat} {kk : Int32} (hp : p.toInt = (m : Int)) (hk : kk.toInt = (k : Int)) (h : m + k < 2 ^ 31) : (p + kk).toInt = ((m + k : Nat) : Int) := by
  have h1 := c_iadd p kk; have h2 := rng32 (p + kk); omega
theorem own_l1len (mb : List Int32) (o : Nat) : ∀ t i ws, (own_l1 mb o t i ws).length = ws.length
  | 0, _, _ => rfl
  | t + 1, i, ws => by rw [own_l1, own_l1len mb o t]; simp
theorem own_l2len : ∀ t i ws, (own_l2 t i ws).length = ws.length
  | 0, _, _ => rfl
  | t + 1, i, ws => by rw [own_l2, own_l2len t]; simp
theorem own_f20 {i : Nat} {b c d : Int32} (h1 : i < 20) : own_f i b c d = ((b &&& c) ||| ((b ^^^ (-1 : Int32)) &&& d)) := by unfold own_f; rw [if_pos h1]
theorem own_k20 {i : Nat} (h1 : i < 20) : own_k i = (1518500249 : Int32) := by unfold own_k; rw [if_pos h1]
theorem own_r20 {ws : List Int32} {t i : Nat} {a b c d e : Int32} (h1 : i < 20) : own_l3 ws (t + 1) i a b c d e = own_l3 ws t (i + 1) (((((own_rol a (5 : Int32)) + ((b &&& c) ||| ((b ^^^ (-1 : Int32)) &&& d))) + e) + (1518500249 : Int32)) + (ws.getD i 0)) a (own_rol b (30 : Int32)) c d := by rw [own_l3, own_tm, own_f20 h1, own_k20 h1]
theorem own_f40 {i : Nat} {b c d : Int32} (h1 : ¬ i < 20) (h2 : i < 40) : own_f i b c d = ((b ^^^ c) ^^^ d) := by unfold own_f; rw [if_neg h1, if_pos h2]
theorem own_k40 {i : Nat} (h1 : ¬ i < 20) (h2 : i < 40) : own_k i = (1859775393 : Int32) := by unfold own_k; rw [if_neg h1, if_pos h2]
theorem own_r40 {ws : List Int32} {t i : Nat} {a b c d e : Int32} (h1 : ¬ i < 20) (h2 : i < 40) : own_l3 ws (t + 1) i a b c d e = own_l3 ws t (i + 1) (((((own_rol a (5 : Int32)) + ((b ^^^ c) ^^^ d)) + e) + (1859775393 : Int32)) + (ws.getD i 0)) a (own_rol b (30 : Int32)) c d := by rw [own_l3, own_tm, own_f40 h1 h2, own_k40 h1 h2]
theorem own_f60 {i : Nat} {b c d : Int32} (h1 : ¬ i < 20) (h2 : ¬ i < 40) (h3 : i < 60) : own_f i b c d = (((b &&& c) ||| (b &&& d)) ||| (c &&& d)) := by unfold own_f; rw [if_neg h1, if_neg h2, if_pos h3]
theorem own_k60 {i : Nat} (h1 : ¬ i < 20) (h2 : ¬ i < 40) (h3 : i < 60) : own_k i = (-1894007588 : Int32) := by unfold own_k; rw [if_neg h1, if_neg h2, if_pos h3]
theorem own_r60 {ws : List Int32} {t i : Nat} {a b c d e : Int32} (h1 : ¬ i < 20) (h2 : ¬ i < 40) (h3 : i < 60) : own_l3 ws (t + 1) i a b c d e = own_l3 ws t (i + 1) (((((own_rol a (5 : Int32)) + (((b &&& c) ||| (b &&& d)) ||| (c &&& d))) + e) + (-1894007588 : Int32)) + (ws.getD i 0)) a (own_rol b (30 : Int32)) c d := by rw [own_l3, own_tm, own_f60 h1 h2 h3, own_k60 h1 h2 h3]
theorem own_f80 {i : Nat} {b c d : Int32} (h1 : ¬ i < 20) (h2 : ¬ i < 40) (h3 : ¬ i < 60) : own_f i b c d = ((b ^^^ c) ^^^ d) := by unfold own_f; rw [if_neg h1, if_neg h2, if_neg h3]
theorem own_k80 {i : Nat} (h1 : ¬ i < 20) (h2 : ¬ i < 40) (h3 : ¬ i < 60) : own_k i = (-899497514 : Int32) := by unfold own_k; rw [if_neg h1, if_neg h2, if_neg h3]
theorem own_r80 {ws : List Int32} {t i : Nat} {a b c d e : Int32} (h1 : ¬ i < 20) (h2 : ¬ i < 40) (h3 : ¬ i < 60) : own_l3 ws (t + 1) i a b c d e = own_l3 ws t (i + 1) (((((own_rol a (5 : Int32)) + ((b ^^^ c) ^^^ d)) + e) + (-899497514 : Int32)) + (ws.getD i 0)) a (own_rol b (30 : Int32)) c d := by rw [own_l3, own_tm, own_f80 h1 h2 h3, own_k80 h1 h2 h3]
theorem d5_0 : decode prog_37_method_8_code 0 = .ok (.iconst 0, 1) := by decide +kernel
theorem d5_1 : decode prog_37_method_8_code 1 = .ok (.istore 4, 2) := by decide +kernel
theorem d5_3 : decode prog_37_method_8_code 3 = .ok (.iload 4, 2) := by decide +kernel
theorem d5_5 : decode prog_37_method_8_code 5 = .ok (.bipush 16, 2) := by decide +kernel
theorem d5_7 : decode prog_37_method_8_code 7 = .ok (.if_icmp .ge 71, 3) := by decide +kernel
theorem d5_10 : decode prog_37_method_8_code 10 = .ok (.iload_n 2, 1) := by decide +kernel
theorem d5_11 : decode prog_37_method_8_code 11 = .ok (.iconst 4, 1) := by decide +kernel
theorem d5_12 : decode prog_37_method_8_code 12 = .ok (.iload 4, 2) := by decide +kernel
theorem d5_14 : decode prog_37_method_8_code 14 = .ok (.imul, 1) := by decide +kernel
theorem d5_15 : decode prog_37_method_8_code 15 = .ok (.iadd, 1) := by decide +kernel
theorem d5_16 : decode prog_37_method_8_code 16 = .ok (.istore 5, 2) := by decide +kernel
theorem d5_18 : decode prog_37_method_8_code 18 = .ok (.aload_n 3, 1) := by decide +kernel
theorem d5_19 : decode prog_37_method_8_code 19 = .ok (.iload 4, 2) := by decide +kernel
theorem d5_21 : decode prog_37_method_8_code 21 = .ok (.aload_n 1, 1) := by decide +kernel
theorem d5_22 : decode prog_37_method_8_code 22 = .ok (.iload 5, 2) := by decide +kernel
theorem d5_24 : decode prog_37_method_8_code 24 = .ok (.baload, 1) := by decide +kernel
theorem d5_25 : decode prog_37_method_8_code 25 = .ok (.sipush 255, 3) := by decide +kernel
theorem d5_28 : decode prog_37_method_8_code 28 = .ok (.iand, 1) := by decide +kernel
theorem d5_29 : decode prog_37_method_8_code 29 = .ok (.bipush 24, 2) := by decide +kernel
theorem d5_31 : decode prog_37_method_8_code 31 = .ok (.ishl, 1) := by decide +kernel
theorem d5_32 : decode prog_37_method_8_code 32 = .ok (.aload_n 1, 1) := by decide +kernel
theorem d5_33 : decode prog_37_method_8_code 33 = .ok (.iload 5, 2) := by decide +kernel
theorem d5_35 : decode prog_37_method_8_code 35 = .ok (.iconst 1, 1) := by decide +kernel
theorem d5_36 : decode prog_37_method_8_code 36 = .ok (.iadd, 1) := by decide +kernel
theorem d5_37 : decode prog_37_method_8_code 37 = .ok (.baload, 1) := by decide +kernel
theorem d5_38 : decode prog_37_method_8_code 38 = .ok (.sipush 255, 3) := by decide +kernel
theorem d5_41 : decode prog_37_method_8_code 41 = .ok (.iand, 1) := by decide +kernel
theorem d5_42 : decode prog_37_method_8_code 42 = .ok (.bipush 16, 2) := by decide +kernel
theorem d5_44 : decode prog_37_method_8_code 44 = .ok (.ishl, 1) := by decide +kernel
theorem d5_45 : decode prog_37_method_8_code 45 = .ok (.ior, 1) := by decide +kernel
theorem d5_46 : decode prog_37_method_8_code 46 = .ok (.aload_n 1, 1) := by decide +kernel
theorem d5_47 : decode prog_37_method_8_code 47 = .ok (.iload 5, 2) := by decide +kernel
theorem d5_49 : decode prog_37_method_8_code 49 = .ok (.iconst 2, 1) := by decide +kernel
theorem d5_50 : decode prog_37_method_8_code 50 = .ok (.iadd, 1) := by decide +kernel
theorem d5_51 : decode prog_37_method_8_code 51 = .ok (.baload, 1) := by decide +kernel
theorem d5_52 : decode prog_37_method_8_code 52 = .ok (.sipush 255, 3) := by decide +kernel
theorem d5_55 : decode prog_37_method_8_code 55 = .ok (.iand, 1) := by decide +kernel
theorem d5_56 : decode prog_37_method_8_code 56 = .ok (.bipush 8, 2) := by decide +kernel
theorem d5_58 : decode prog_37_method_8_code 58 = .ok (.ishl, 1) := by decide +kernel
theorem d5_59 : decode prog_37_method_8_code 59 = .ok (.ior, 1) := by decide +kernel
theorem d5_60 : decode prog_37_method_8_code 60 = .ok (.aload_n 1, 1) := by decide +kernel
theorem d5_61 : decode prog_37_method_8_code 61 = .ok (.iload 5, 2) := by decide +kernel
theorem d5_63 : decode prog_37_method_8_code 63 = .ok (.iconst 3, 1) := by decide +kernel
theorem d5_64 : decode prog_37_method_8_code 64 = .ok (.iadd, 1) := by decide +kernel
theorem d5_65 : decode prog_37_method_8_code 65 = .ok (.baload, 1) := by decide +kernel
theorem d5_66 : decode prog_37_method_8_code 66 = .ok (.sipush 255, 3) := by decide +kernel
theorem d5_69 : decode prog_37_method_8_code 69 = .ok (.iand, 1) := by decide +kernel
theorem d5_70 : decode prog_37_method_8_code 70 = .ok (.ior, 1) := by decide +kernel
theorem d5_71 : decode prog_37_method_8_code 71 = .ok (.iastore, 1) := by decide +kernel
theorem d5_72 : decode prog_37_method_8_code 72 = .ok (.iinc 4 1, 3) := by decide +kernel
theorem d5_75 : decode prog_37_method_8_code 75 = .ok (.goto (-72), 3) := by decide +kernel
theorem d5_78 : decode prog_37_method_8_code 78 = .ok (.bipush 16, 2) := by decide +kernel
theorem d5_80 : decode prog_37_method_8_code 80 = .ok (.istore 4, 2) := by decide +kernel
theorem d5_82 : decode prog_37_method_8_code 82 = .ok (.iload 4, 2) := by decide +kernel
theorem d5_84 : decode prog_37_method_8_code 84 = .ok (.bipush 80, 2) := by decide +kernel
theorem d5_86 : decode prog_37_method_8_code 86 = .ok (.if_icmp .ge 47, 3) := by decide +kernel
theorem d5_89 : decode prog_37_method_8_code 89 = .ok (.aload_n 3, 1) := by decide +kernel
theorem d5_90 : decode prog_37_method_8_code 90 = .ok (.iload 4, 2) := by decide +kernel
theorem d5_92 : decode prog_37_method_8_code 92 = .ok (.aload_n 3, 1) := by decide +kernel
theorem d5_93 : decode prog_37_method_8_code 93 = .ok (.iload 4, 2) := by decide +kernel
theorem d5_95 : decode prog_37_method_8_code 95 = .ok (.iconst 3, 1) := by decide +kernel
theorem d5_96 : decode prog_37_method_8_code 96 = .ok (.isub, 1) := by decide +kernel
theorem d5_97 : decode prog_37_method_8_code 97 = .ok (.iaload, 1) := by decide +kernel
theorem d5_98 : decode prog_37_method_8_code 98 = .ok (.aload_n 3, 1) := by decide +kernel
theorem d5_99 : decode prog_37_method_8_code 99 = .ok (.iload 4, 2) := by decide +kernel
theorem d5_101 : decode prog_37_method_8_code 101 = .ok (.bipush 8, 2) := by decide +kernel
theorem d5_103 : decode prog_37_method_8_code 103 = .ok (.isub, 1) := by decide +kernel
theorem d5_104 : decode prog_37_method_8_code 104 = .ok (.iaload, 1) := by decide +kernel
theorem d5_105 : decode prog_37_method_8_code 105 = .ok (.ixor, 1) := by decide +kernel
theorem d5_106 : decode prog_37_method_8_code 106 = .ok (.aload_n 3, 1) := by decide +kernel
theorem d5_107 : decode prog_37_method_8_code 107 = .ok (.iload 4, 2) := by decide +kernel
theorem d5_109 : decode prog_37_method_8_code 109 = .ok (.bipush 14, 2) := by decide +kernel
theorem d5_111 : decode prog_37_method_8_code 111 = .ok (.isub, 1) := by decide +kernel
theorem d5_112 : decode prog_37_method_8_code 112 = .ok (.iaload, 1) := by decide +kernel
theorem d5_113 : decode prog_37_method_8_code 113 = .ok (.ixor, 1) := by decide +kernel
theorem d5_114 : decode prog_37_method_8_code 114 = .ok (.aload_n 3, 1) := by decide +kernel
theorem d5_115 : decode prog_37_method_8_code 115 = .ok (.iload 4, 2) := by decide +kernel
theorem d5_117 : decode prog_37_method_8_code 117 = .ok (.bipush 16, 2) := by decide +kernel
theorem d5_119 : decode prog_37_method_8_code 119 = .ok (.isub, 1) := by decide +kernel
theorem d5_120 : decode prog_37_method_8_code 120 = .ok (.iaload, 1) := by decide +kernel
theorem d5_121 : decode prog_37_method_8_code 121 = .ok (.ixor, 1) := by decide +kernel
theorem d5_122 : decode prog_37_method_8_code 122 = .ok (.iconst 1, 1) := by decide +kernel
theorem d5_123 : decode prog_37_method_8_code 123 = .ok (.invokestatic 124, 3) := by decide +kernel
theorem d5_126 : decode prog_37_method_8_code 126 = .ok (.iastore, 1) := by decide +kernel
theorem d5_127 : decode prog_37_method_8_code 127 = .ok (.iinc 4 1, 3) := by decide +kernel
theorem d5_130 : decode prog_37_method_8_code 130 = .ok (.goto (-48), 3) := by decide +kernel
theorem d5_133 : decode prog_37_method_8_code 133 = .ok (.aload_n 0, 1) := by decide +kernel
theorem d5_134 : decode prog_37_method_8_code 134 = .ok (.iconst 0, 1) := by decide +kernel
theorem d5_135 : decode prog_37_method_8_code 135 = .ok (.iaload, 1) := by decide +kernel
theorem d5_136 : decode prog_37_method_8_code 136 = .ok (.istore 4, 2) := by decide +kernel
theorem d5_138 : decode prog_37_method_8_code 138 = .ok (.aload_n 0, 1) := by decide +kernel
theorem d5_139 : decode prog_37_method_8_code 139 = .ok (.iconst 1, 1) := by decide +kernel
theorem d5_140 : decode prog_37_method_8_code 140 = .ok (.iaload, 1) := by decide +kernel
theorem d5_141 : decode prog_37_method_8_code 141 = .ok (.istore 5, 2) := by decide +kernel
theorem d5_143 : decode prog_37_method_8_code 143 = .ok (.aload_n 0, 1) := by decide +kernel
theorem d5_144 : decode prog_37_method_8_code 144 = .ok (.iconst 2, 1) := by decide +kernel
theorem d5_145 : decode prog_37_method_8_code 145 = .ok (.iaload, 1) := by decide +kernel
theorem d5_146 : decode prog_37_method_8_code 146 = .ok (.istore 6, 2) := by decide +kernel
theorem d5_148 : decode prog_37_method_8_code 148 = .ok (.aload_n 0, 1) := by decide +kernel
theorem d5_149 : decode prog_37_method_8_code 149 = .ok (.iconst 3, 1) := by decide +kernel
theorem d5_150 : decode prog_37_method_8_code 150 = .ok (.iaload, 1) := by decide +kernel
theorem d5_151 : decode prog_37_method_8_code 151 = .ok (.istore 7, 2) := by decide +kernel
theorem d5_153 : decode prog_37_method_8_code 153 = .ok (.aload_n 0, 1) := by decide +kernel
theorem d5_154 : decode prog_37_method_8_code 154 = .ok (.iconst 4, 1) := by decide +kernel
theorem d5_155 : decode prog_37_method_8_code 155 = .ok (.iaload, 1) := by decide +kernel
theorem d5_156 : decode prog_37_method_8_code 156 = .ok (.istore 8, 2) := by decide +kernel
theorem d5_158 : decode prog_37_method_8_code 158 = .ok (.iconst 0, 1) := by decide +kernel
theorem d5_159 : decode prog_37_method_8_code 159 = .ok (.istore 9, 2) := by decide +kernel
theorem d5_161 : decode prog_37_method_8_code 161 = .ok (.iload 9, 2) := by decide +kernel
theorem d5_163 : decode prog_37_method_8_code 163 = .ok (.bipush 80, 2) := by decide +kernel
theorem d5_165 : decode prog_37_method_8_code 165 = .ok (.if_icmp .ge 156, 3) := by decide +kernel
theorem d5_168 : decode prog_37_method_8_code 168 = .ok (.iload 9, 2) := by decide +kernel
theorem d5_170 : decode prog_37_method_8_code 170 = .ok (.bipush 20, 2) := by decide +kernel
theorem d5_172 : decode prog_37_method_8_code 172 = .ok (.if_icmp .ge 25, 3) := by decide +kernel
theorem d5_175 : decode prog_37_method_8_code 175 = .ok (.iload 5, 2) := by decide +kernel
theorem d5_177 : decode prog_37_method_8_code 177 = .ok (.iload 6, 2) := by decide +kernel
theorem d5_179 : decode prog_37_method_8_code 179 = .ok (.iand, 1) := by decide +kernel
theorem d5_180 : decode prog_37_method_8_code 180 = .ok (.iload 5, 2) := by decide +kernel
theorem d5_182 : decode prog_37_method_8_code 182 = .ok (.iconst (-1), 1) := by decide +kernel
theorem d5_183 : decode prog_37_method_8_code 183 = .ok (.ixor, 1) := by decide +kernel
theorem d5_184 : decode prog_37_method_8_code 184 = .ok (.iload 7, 2) := by decide +kernel
theorem d5_186 : decode prog_37_method_8_code 186 = .ok (.iand, 1) := by decide +kernel
theorem d5_187 : decode prog_37_method_8_code 187 = .ok (.ior, 1) := by decide +kernel
theorem d5_188 : decode prog_37_method_8_code 188 = .ok (.istore 10, 2) := by decide +kernel
theorem d5_190 : decode prog_37_method_8_code 190 = .ok (.ldc 128, 2) := by decide +kernel
theorem d5_192 : decode prog_37_method_8_code 192 = .ok (.istore 11, 2) := by decide +kernel
theorem d5_194 : decode prog_37_method_8_code 194 = .ok (.goto 74, 3) := by decide +kernel
theorem d5_197 : decode prog_37_method_8_code 197 = .ok (.iload 9, 2) := by decide +kernel
theorem d5_199 : decode prog_37_method_8_code 199 = .ok (.bipush 40, 2) := by decide +kernel
theorem d5_201 : decode prog_37_method_8_code 201 = .ok (.if_icmp .ge 20, 3) := by decide +kernel
theorem d5_204 : decode prog_37_method_8_code 204 = .ok (.iload 5, 2) := by decide +kernel
theorem d5_206 : decode prog_37_method_8_code 206 = .ok (.iload 6, 2) := by decide +kernel
theorem d5_208 : decode prog_37_method_8_code 208 = .ok (.ixor, 1) := by decide +kernel
theorem d5_209 : decode prog_37_method_8_code 209 = .ok (.iload 7, 2) := by decide +kernel
theorem d5_211 : decode prog_37_method_8_code 211 = .ok (.ixor, 1) := by decide +kernel
theorem d5_212 : decode prog_37_method_8_code 212 = .ok (.istore 10, 2) := by decide +kernel
theorem d5_214 : decode prog_37_method_8_code 214 = .ok (.ldc 129, 2) := by decide +kernel
theorem d5_216 : decode prog_37_method_8_code 216 = .ok (.istore 11, 2) := by decide +kernel
theorem d5_218 : decode prog_37_method_8_code 218 = .ok (.goto 50, 3) := by decide +kernel
theorem d5_221 : decode prog_37_method_8_code 221 = .ok (.iload 9, 2) := by decide +kernel
theorem d5_223 : decode prog_37_method_8_code 223 = .ok (.bipush 60, 2) := by decide +kernel
theorem d5_225 : decode prog_37_method_8_code 225 = .ok (.if_icmp .ge 29, 3) := by decide +kernel
theorem d5_228 : decode prog_37_method_8_code 228 = .ok (.iload 5, 2) := by decide +kernel
theorem d5_230 : decode prog_37_method_8_code 230 = .ok (.iload 6, 2) := by decide +kernel
theorem d5_232 : decode prog_37_method_8_code 232 = .ok (.iand, 1) := by decide +kernel
theorem d5_233 : decode prog_37_method_8_code 233 = .ok (.iload 5, 2) := by decide +kernel
theorem d5_235 : decode prog_37_method_8_code 235 = .ok (.iload 7, 2) := by decide +kernel
theorem d5_237 : decode prog_37_method_8_code 237 = .ok (.iand, 1) := by decide +kernel
theorem d5_238 : decode prog_37_method_8_code 238 = .ok (.ior, 1) := by decide +kernel
theorem d5_239 : decode prog_37_method_8_code 239 = .ok (.iload 6, 2) := by decide +kernel
theorem d5_241 : decode prog_37_method_8_code 241 = .ok (.iload 7, 2) := by decide +kernel
theorem d5_243 : decode prog_37_method_8_code 243 = .ok (.iand, 1) := by decide +kernel
theorem d5_244 : decode prog_37_method_8_code 244 = .ok (.ior, 1) := by decide +kernel
theorem d5_245 : decode prog_37_method_8_code 245 = .ok (.istore 10, 2) := by decide +kernel
theorem d5_247 : decode prog_37_method_8_code 247 = .ok (.ldc 130, 2) := by decide +kernel
theorem d5_249 : decode prog_37_method_8_code 249 = .ok (.istore 11, 2) := by decide +kernel
theorem d5_251 : decode prog_37_method_8_code 251 = .ok (.goto 17, 3) := by decide +kernel
theorem d5_254 : decode prog_37_method_8_code 254 = .ok (.iload 5, 2) := by decide +kernel
theorem d5_256 : decode prog_37_method_8_code 256 = .ok (.iload 6, 2) := by decide +kernel
theorem d5_258 : decode prog_37_method_8_code 258 = .ok (.ixor, 1) := by decide +kernel
theorem d5_259 : decode prog_37_method_8_code 259 = .ok (.iload 7, 2) := by decide +kernel
theorem d5_261 : decode prog_37_method_8_code 261 = .ok (.ixor, 1) := by decide +kernel
theorem d5_262 : decode prog_37_method_8_code 262 = .ok (.istore 10, 2) := by decide +kernel
theorem d5_264 : decode prog_37_method_8_code 264 = .ok (.ldc 131, 2) := by decide +kernel
theorem d5_266 : decode prog_37_method_8_code 266 = .ok (.istore 11, 2) := by decide +kernel
theorem d5_268 : decode prog_37_method_8_code 268 = .ok (.iload 4, 2) := by decide +kernel
theorem d5_270 : decode prog_37_method_8_code 270 = .ok (.iconst 5, 1) := by decide +kernel
theorem d5_271 : decode prog_37_method_8_code 271 = .ok (.invokestatic 124, 3) := by decide +kernel
theorem d5_274 : decode prog_37_method_8_code 274 = .ok (.iload 10, 2) := by decide +kernel
theorem d5_276 : decode prog_37_method_8_code 276 = .ok (.iadd, 1) := by decide +kernel
theorem d5_277 : decode prog_37_method_8_code 277 = .ok (.iload 8, 2) := by decide +kernel
theorem d5_279 : decode prog_37_method_8_code 279 = .ok (.iadd, 1) := by decide +kernel
theorem d5_280 : decode prog_37_method_8_code 280 = .ok (.iload 11, 2) := by decide +kernel
theorem d5_282 : decode prog_37_method_8_code 282 = .ok (.iadd, 1) := by decide +kernel
theorem d5_283 : decode prog_37_method_8_code 283 = .ok (.aload_n 3, 1) := by decide +kernel
theorem d5_284 : decode prog_37_method_8_code 284 = .ok (.iload 9, 2) := by decide +kernel
theorem d5_286 : decode prog_37_method_8_code 286 = .ok (.iaload, 1) := by decide +kernel
theorem d5_287 : decode prog_37_method_8_code 287 = .ok (.iadd, 1) := by decide +kernel
theorem d5_288 : decode prog_37_method_8_code 288 = .ok (.istore 12, 2) := by decide +kernel
theorem d5_290 : decode prog_37_method_8_code 290 = .ok (.iload 7, 2) := by decide +kernel
theorem d5_292 : decode prog_37_method_8_code 292 = .ok (.istore 8, 2) := by decide +kernel
theorem d5_294 : decode prog_37_method_8_code 294 = .ok (.iload 6, 2) := by decide +kernel
theorem d5_296 : decode prog_37_method_8_code 296 = .ok (.istore 7, 2) := by decide +kernel
theorem d5_298 : decode prog_37_method_8_code 298 = .ok (.iload 5, 2) := by decide +kernel
theorem d5_300 : decode prog_37_method_8_code 300 = .ok (.bipush 30, 2) := by decide +kernel
theorem d5_302 : decode prog_37_method_8_code 302 = .ok (.invokestatic 124, 3) := by decide +kernel
theorem d5_305 : decode prog_37_method_8_code 305 = .ok (.istore 6, 2) := by decide +kernel
theorem d5_307 : decode prog_37_method_8_code 307 = .ok (.iload 4, 2) := by decide +kernel
theorem d5_309 : decode prog_37_method_8_code 309 = .ok (.istore 5, 2) := by decide +kernel
theorem d5_311 : decode prog_37_method_8_code 311 = .ok (.iload 12, 2) := by decide +kernel
theorem d5_313 : decode prog_37_method_8_code 313 = .ok (.istore 4, 2) := by decide +kernel
theorem d5_315 : decode prog_37_method_8_code 315 = .ok (.iinc 9 1, 3) := by decide +kernel
theorem d5_318 : decode prog_37_method_8_code 318 = .ok (.goto (-157), 3) := by decide +kernel
theorem d5_321 : decode prog_37_method_8_code 321 = .ok (.aload_n 0, 1) := by decide +kernel
theorem d5_322 : decode prog_37_method_8_code 322 = .ok (.iconst 0, 1) := by decide +kernel
theorem d5_323 : decode prog_37_method_8_code 323 = .ok (.dup2, 1) := by decide +kernel
theorem d5_324 : decode prog_37_method_8_code 324 = .ok (.iaload, 1) := by decide +kernel
theorem d5_325 : decode prog_37_method_8_code 325 = .ok (.iload 4, 2) := by decide +kernel
theorem d5_327 : decode prog_37_method_8_code 327 = .ok (.iadd, 1) := by decide +kernel
theorem d5_328 : decode prog_37_method_8_code 328 = .ok (.iastore, 1) := by decide +kernel
theorem d5_329 : decode prog_37_method_8_code 329 = .ok (.aload_n 0, 1) := by decide +kernel
theorem d5_330 : decode prog_37_method_8_code 330 = .ok (.iconst 1, 1) := by decide +kernel
theorem d5_331 : decode prog_37_method_8_code 331 = .ok (.dup2, 1) := by decide +kernel
theorem d5_332 : decode prog_37_method_8_code 332 = .ok (.iaload, 1) := by decide +kernel
theorem d5_333 : decode prog_37_method_8_code 333 = .ok (.iload 5, 2) := by decide +kernel
theorem d5_335 : decode prog_37_method_8_code 335 = .ok (.iadd, 1) := by decide +kernel
theorem d5_336 : decode prog_37_method_8_code 336 = .ok (.iastore, 1) := by decide +kernel
theorem d5_337 : decode prog_37_method_8_code 337 = .ok (.aload_n 0, 1) := by decide +kernel
theorem d5_338 : decode prog_37_method_8_code 338 = .ok (.iconst 2, 1) := by decide +kernel
theorem d5_339 : decode prog_37_method_8_code 339 = .ok (.dup2, 1) := by decide +kernel
theorem d5_340 : decode prog_37_method_8_code 340 = .ok (.iaload, 1) := by decide +kernel
theorem d5_341 : decode prog_37_method_8_code 341 = .ok (.iload 6, 2) := by decide +kernel
theorem d5_343 : decode prog_37_method_8_code 343 = .ok (.iadd, 1) := by decide +kernel
theorem d5_344 : decode prog_37_method_8_code 344 = .ok (.iastore, 1) := by decide +kernel
theorem d5_345 : decode prog_37_method_8_code 345 = .ok (.aload_n 0, 1) := by decide +kernel
theorem d5_346 : decode prog_37_method_8_code 346 = .ok (.iconst 3, 1) := by decide +kernel
theorem d5_347 : decode prog_37_method_8_code 347 = .ok (.dup2, 1) := by decide +kernel
theorem d5_348 : decode prog_37_method_8_code 348 = .ok (.iaload, 1) := by decide +kernel
theorem d5_349 : decode prog_37_method_8_code 349 = .ok (.iload 7, 2) := by decide +kernel
theorem d5_351 : decode prog_37_method_8_code 351 = .ok (.iadd, 1) := by decide +kernel
theorem d5_352 : decode prog_37_method_8_code 352 = .ok (.iastore, 1) := by decide +kernel
theorem d5_353 : decode prog_37_method_8_code 353 = .ok (.aload_n 0, 1) := by decide +kernel
theorem d5_354 : decode prog_37_method_8_code 354 = .ok (.iconst 4, 1) := by decide +kernel
theorem d5_355 : decode prog_37_method_8_code 355 = .ok (.dup2, 1) := by decide +kernel
theorem d5_356 : decode prog_37_method_8_code 356 = .ok (.iaload, 1) := by decide +kernel
theorem d5_357 : decode prog_37_method_8_code 357 = .ok (.iload 8, 2) := by decide +kernel
theorem d5_359 : decode prog_37_method_8_code 359 = .ok (.iadd, 1) := by decide +kernel
theorem d5_360 : decode prog_37_method_8_code 360 = .ok (.iastore, 1) := by decide +kernel
theorem d5_361 : decode prog_37_method_8_code 361 = .ok (.return_, 1) := by decide +kernel
theorem pn_5 : plainFor (⟨"com/example/callimachus/callimachus/Uuids", "hashBlock", "([I[BI[I)V"⟩ : MethodName) = true := plainFor_of_name (by first | (simp [plainName, overriddenIn]; done) | decide +kernel)
theorem pd__II_I : parseMethodDescriptor "(II)I" = some ⟨[.int, .int], some .int⟩ := by decide +kernel
theorem ef_con_hb (m : MethodId) (aH aM aW : Addr) (mb : List Int32) (o : Nat) (ws0 : List Int32) (x0 x1 x2 x3 x4 : Int32)  : entryFrame m #[(.ref aH), (.ref aM), (.int (Int32.ofNat o)), (.ref aW)] 13 = mkF m 0 #[.val (.ref aH), .val (.ref aM), .val (.int (Int32.ofNat o)), .val (.ref aW), .unset, .unset, .unset, .unset, .unset, .unset, .unset, .unset, .unset] [] := by first | (simp [entryFrame, mkF, argsToLocals, Value.category]; done) | rfl
set_option maxRecDepth 65536 in
set_option maxHeartbeats 40000000 in
theorem con_hb (l : Launch) (Z : State) (a0 : Array Value) (hw : ∀ d ∈ tables_1, d.before a0 Z = true) (n0 : Nat) (h0 : Heap) (Z0 : n0 ≤ h0.size) (aH aM aW : Addr) (mb : List Int32) (o : Nat) (ws0 : List Int32) (x0 x1 x2 x3 x4 : Int32) (AH : Ary Z h0 aH .int [(.int x0), (.int x1), (.int x2), (.int x3), (.int x4)]) (AM : Ary Z h0 aM .byte (mb.map Value.int)) (AW : Ary Z h0 aW .int (ws0.map Value.int)) (nHM : aH ≠ aM) (nHW : aH ≠ aW) (nMW : aM ≠ aW) (gH : n0 ≤ aH) (gW : n0 ≤ aW) (hwl : ws0.length = 80) (hmo : o + 64 ≤ mb.length) (hmb : mb.length < 100000) :
    Con l Z n0 (⟨"com/example/callimachus/callimachus/Uuids", "hashBlock", "([I[BI[I)V"⟩ : MethodName) prog_37_method_8_code 13 none ({ frames := 1, cells := 0, slots := 0, locals := 32 } : Room) #[(.ref aH), (.ref aM), (.int (Int32.ofNat o)), (.ref aW)] h0 (Vd fun h' => Keep h0 h' [aH, aW] ∧ Ary Z h' aW .int ((own_l2 64 16 (own_l1 mb o 16 0 ws0)).map Value.int) ∧ ∃ a b c d e, own_l3 (own_l2 64 16 (own_l1 mb o 16 0 ws0)) 80 0 x0 x1 x2 x3 x4 = [a, b, c, d, e] ∧ Ary Z h' aH .int [.int (x0 + a), .int (x1 + b), .int (x2 + c), .int (x3 + d), .int (x4 + e)]) := by
  refine Con.of_run pn_5 (fun m => ef_con_hb m aH aM aW mb o ws0 x0 x1 x2 x3 x4 ) ?_
  refine Run.iconst (0 : Int32) d5_0 (by decide) (pc' := 1) rfl ?_
  refine Run.istore (l' := #[.val (.ref aH), .val (.ref aM), .val (.int (Int32.ofNat o)), .val (.ref aW), .val (.int (0 : Int32)), .unset, .unset, .unset, .unset, .unset, .unset, .unset, .unset]) d5_1 rfl (pc' := 3) rfl ?_
  have lp1 : ∀ (t : Nat) (i : Nat) (h : Heap) (ws : List Int32) (s5 : Slot), t + i = 16 → ws.length = 80 → own_l1 mb o t i ws = (own_l1 mb o 16 0 ws0) → One s5 → Ary Z h aH .int [(.int x0), (.int x1), (.int x2), (.int x3), (.int x4)] → Ary Z h aM .byte (mb.map Value.int) → Ary Z h aW .int (ws.map Value.int) → n0 ≤ h.size → Keep h0 h [aH, aW] → Run l Z n0 "com/example/callimachus/callimachus/Uuids" prog_37_method_8_code 13 none "hashBlock" ({ frames := 1, cells := 0, slots := 0, locals := 32 } : Room) (Vd fun h' => Keep h0 h' [aH, aW] ∧ Ary Z h' aW .int ((own_l2 64 16 (own_l1 mb o 16 0 ws0)).map Value.int) ∧ ∃ a b c d e, own_l3 (own_l2 64 16 (own_l1 mb o 16 0 ws0)) 80 0 x0 x1 x2 x3 x4 = [a, b, c, d, e] ∧ Ary Z h' aH .int [.int (x0 + a), .int (x1 + b), .int (x2 + c), .int (x3 + d), .int (x4 + e)]) 3 #[.val (.ref aH), .val (.ref aM), .val (.int (Int32.ofNat o)), .val (.ref aW), .val (.int (Int32.ofNat i)), s5, .unset, .unset, .unset, .unset, .unset, .unset, .unset] [] h 0 0 := by
    intro t
    induction t with
    | zero =>
      intro i h ws s5 hti hl hW h_s5 AHi AMi AWi szi kpi
      have hi : i = 16 := by omega
      have hW' : ws = (own_l1 mb o 16 0 ws0) := hW
      refine Run.iload d5_3 rfl (pc' := 5) rfl ?_
      refine Run.bipush (16 : Int32) d5_5 (by decide) (pc' := 7) rfl ?_
      refine Run.icmp_ge d5_7 (by decide) (pc' := 78) (by decide) (pa := 10) rfl (fun hc7 => ?_) (fun hc7 => ?_)
      · -- pc 7 taken: ¬ (Int32.ofNat i) < (16 : Int32)
        refine Run.bipush (16 : Int32) d5_78 (by decide) (pc' := 80) rfl ?_
        refine Run.istore (l' := #[.val (.ref aH), .val (.ref aM), .val (.int (Int32.ofNat o)), .val (.ref aW), .val (.int (16 : Int32)), s5, .unset, .unset, .unset, .unset, .unset, .unset, .unset]) d5_80 rfl (pc' := 82) rfl ?_
        have lp2 : ∀ (t : Nat) (i : Nat) (h : Heap) (ws : List Int32) (s5 : Slot), t + i = 80 → 16 ≤ i → ws.length = 80 → own_l2 t i ws = (own_l2 64 16 (own_l1 mb o 16 0 ws0)) → One s5 → Ary Z h aH .int [(.int x0), (.int x1), (.int x2), (.int x3), (.int x4)] → Ary Z h aM .byte (mb.map Value.int) → Ary Z h aW .int (ws.map Value.int) → n0 ≤ h.size → Keep h0 h [aH, aW] → Run l Z n0 "com/example/callimachus/callimachus/Uuids" prog_37_method_8_code 13 none "hashBlock" ({ frames := 1, cells := 0, slots := 0, locals := 32 } : Room) (Vd fun h' => Keep h0 h' [aH, aW] ∧ Ary Z h' aW .int ((own_l2 64 16 (own_l1 mb o 16 0 ws0)).map Value.int) ∧ ∃ a b c d e, own_l3 (own_l2 64 16 (own_l1 mb o 16 0 ws0)) 80 0 x0 x1 x2 x3 x4 = [a, b, c, d, e] ∧ Ary Z h' aH .int [.int (x0 + a), .int (x1 + b), .int (x2 + c), .int (x3 + d), .int (x4 + e)]) 82 #[.val (.ref aH), .val (.ref aM), .val (.int (Int32.ofNat o)), .val (.ref aW), .val (.int (Int32.ofNat i)), s5, .unset, .unset, .unset, .unset, .unset, .unset, .unset] [] h 0 0 := by
          intro t
          induction t with
          | zero =>
            intro i h ws s5 hti hlo hl hW h_s5 AHi AMi AWi szi kpi
            have hi : i = 80 := by omega
            have hW' : ws = (own_l2 64 16 (own_l1 mb o 16 0 ws0)) := hW
            refine Run.iload d5_82 rfl (pc' := 84) rfl ?_
            refine Run.bipush (80 : Int32) d5_84 (by decide) (pc' := 86) rfl ?_
            refine Run.icmp_ge d5_86 (by decide) (pc' := 133) (by decide) (pa := 89) rfl (fun hc86 => ?_) (fun hc86 => ?_)
            · -- pc 86 taken: ¬ (Int32.ofNat i) < (80 : Int32)
              refine Run.aloadN d5_133 rfl rfl (pc' := 134) rfl ?_
              refine Run.iconst (0 : Int32) d5_134 (by decide) (pc' := 135) rfl ?_
              refine Run.iaload (i := 0) (v := (.int x0)) d5_135 AHi (by decide) rfl (pc' := 136) rfl ?_
              refine Run.istore (l' := #[.val (.ref aH), .val (.ref aM), .val (.int (Int32.ofNat o)), .val (.ref aW), .val (.int x0), s5, .unset, .unset, .unset, .unset, .unset, .unset, .unset]) d5_136 rfl (pc' := 138) rfl ?_
              refine Run.aloadN d5_138 rfl rfl (pc' := 139) rfl ?_
              refine Run.iconst (1 : Int32) d5_139 (by decide) (pc' := 140) rfl ?_
              refine Run.iaload (i := 1) (v := (.int x1)) d5_140 AHi (by decide) rfl (pc' := 141) rfl ?_
              refine Run.istore (l' := #[.val (.ref aH), .val (.ref aM), .val (.int (Int32.ofNat o)), .val (.ref aW), .val (.int x0), .val (.int x1), .unset, .unset, .unset, .unset, .unset, .unset, .unset]) d5_141 (XS.store1 rfl h_s5 rfl) (pc' := 143) rfl ?_
              refine Run.aloadN d5_143 rfl rfl (pc' := 144) rfl ?_
              refine Run.iconst (2 : Int32) d5_144 (by decide) (pc' := 145) rfl ?_
              refine Run.iaload (i := 2) (v := (.int x2)) d5_145 AHi (by decide) rfl (pc' := 146) rfl ?_
              refine Run.istore (l' := #[.val (.ref aH), .val (.ref aM), .val (.int (Int32.ofNat o)), .val (.ref aW), .val (.int x0), .val (.int x1), .val (.int x2), .unset, .unset, .unset, .unset, .unset, .unset]) d5_146 rfl (pc' := 148) rfl ?_
              refine Run.aloadN d5_148 rfl rfl (pc' := 149) rfl ?_
              refine Run.iconst (3 : Int32) d5_149 (by decide) (pc' := 150) rfl ?_
              refine Run.iaload (i := 3) (v := (.int x3)) d5_150 AHi (by decide) rfl (pc' := 151) rfl ?_
              refine Run.istore (l' := #[.val (.ref aH), .val (.ref aM), .val (.int (Int32.ofNat o)), .val (.ref aW), .val (.int x0), .val (.int x1), .val (.int x2), .val (.int x3), .unset, .unset, .unset, .unset, .unset]) d5_151 rfl (pc' := 153) rfl ?_
              refine Run.aloadN d5_153 rfl rfl (pc' := 154) rfl ?_
              refine Run.iconst (4 : Int32) d5_154 (by decide) (pc' := 155) rfl ?_
              refine Run.iaload (i := 4) (v := (.int x4)) d5_155 AHi (by decide) rfl (pc' := 156) rfl ?_
              refine Run.istore (l' := #[.val (.ref aH), .val (.ref aM), .val (.int (Int32.ofNat o)), .val (.ref aW), .val (.int x0), .val (.int x1), .val (.int x2), .val (.int x3), .val (.int x4), .unset, .unset, .unset, .unset]) d5_156 rfl (pc' := 158) rfl ?_
              refine Run.iconst (0 : Int32) d5_158 (by decide) (pc' := 159) rfl ?_
              refine Run.istore (l' := #[.val (.ref aH), .val (.ref aM), .val (.int (Int32.ofNat o)), .val (.ref aW), .val (.int x0), .val (.int x1), .val (.int x2), .val (.int x3), .val (.int x4), .val (.int (0 : Int32)), .unset, .unset, .unset]) d5_159 rfl (pc' := 161) rfl ?_
              have lp3 : ∀ (t : Nat) (i : Nat) (a b c d e : Int32) (s10 s11 s12 : Slot), t + i = 80 → own_l3 ws t i a b c d e = own_l3 (own_l2 64 16 (own_l1 mb o 16 0 ws0)) 80 0 x0 x1 x2 x3 x4 → One s10 → One s11 → One s12 → Run l Z n0 "com/example/callimachus/callimachus/Uuids" prog_37_method_8_code 13 none "hashBlock" ({ frames := 1, cells := 0, slots := 0, locals := 32 } : Room) (Vd fun h' => Keep h0 h' [aH, aW] ∧ Ary Z h' aW .int ((own_l2 64 16 (own_l1 mb o 16 0 ws0)).map Value.int) ∧ ∃ a b c d e, own_l3 (own_l2 64 16 (own_l1 mb o 16 0 ws0)) 80 0 x0 x1 x2 x3 x4 = [a, b, c, d, e] ∧ Ary Z h' aH .int [.int (x0 + a), .int (x1 + b), .int (x2 + c), .int (x3 + d), .int (x4 + e)]) 161 #[.val (.ref aH), .val (.ref aM), .val (.int (Int32.ofNat o)), .val (.ref aW), .val (.int a), .val (.int b), .val (.int c), .val (.int d), .val (.int e), .val (.int (Int32.ofNat i)), s10, s11, s12] [] h 0 0 := by
                intro t
                induction t with
                | zero =>
                  intro i a b c d e s10 s11 s12 hti hr h_s10 h_s11 h_s12
                  have hi : i = 80 := by omega
                  have hr' : [a, b, c, d, e] = own_l3 (own_l2 64 16 (own_l1 mb o 16 0 ws0)) 80 0 x0 x1 x2 x3 x4 := hr
                  refine Run.iload d5_161 rfl (pc' := 163) rfl ?_
                  refine Run.bipush (80 : Int32) d5_163 (by decide) (pc' := 165) rfl ?_
                  refine Run.icmp_ge d5_165 (by decide) (pc' := 321) (by decide) (pa := 168) rfl (fun hc165 => ?_) (fun hc165 => ?_)
                  · -- pc 165 taken: ¬ (Int32.ofNat i) < (80 : Int32)
                    refine Run.aloadN d5_321 rfl rfl (pc' := 322) rfl ?_
                    refine Run.iconst (0 : Int32) d5_322 (by decide) (pc' := 323) rfl ?_
                    refine Run.dup2 d5_323 rfl rfl (pc' := 324) rfl ?_
                    refine Run.iaload (i := 0) (v := (.int x0)) d5_324 AHi (by decide) rfl (pc' := 325) rfl ?_
                    refine Run.iload d5_325 rfl (pc' := 327) rfl ?_
                    refine Run.iadd d5_327 (pc' := 328) rfl ?_
                    refine Run.iastore (i := 0) d5_328 AHi (by decide) (by show (0 : Nat) < 5; decide) gH (pc' := 329) rfl ?_
                    intro h11 W11 A11
                    replace A11 : Ary Z h11 aH .int [(.int (x0 + a)), (.int x1), (.int x2), (.int x3), (.int x4)] := A11
                    have A_aM_11 := AMi.other W11 (Ne.symm nHM)
                    have A_aW_11 := AWi.other W11 (Ne.symm nHW)
                    have sz11 : n0 ≤ h11.size := by rw [W11.size]; exact szi
                    have kp11 := Keep.wr kpi W11 (Or.inl (List.mem_of_getElem? (i := 0) rfl))
                    refine Run.aloadN d5_329 rfl rfl (pc' := 330) rfl ?_
                    refine Run.iconst (1 : Int32) d5_330 (by decide) (pc' := 331) rfl ?_
                    refine Run.dup2 d5_331 rfl rfl (pc' := 332) rfl ?_
                    refine Run.iaload (i := 1) (v := (.int x1)) d5_332 A11 (by decide) rfl (pc' := 333) rfl ?_
                    refine Run.iload d5_333 rfl (pc' := 335) rfl ?_
                    refine Run.iadd d5_335 (pc' := 336) rfl ?_
                    refine Run.iastore (i := 1) d5_336 A11 (by decide) (by show (1 : Nat) < 5; decide) gH (pc' := 337) rfl ?_
                    intro h12 W12 A12
                    replace A12 : Ary Z h12 aH .int [(.int (x0 + a)), (.int (x1 + b)), (.int x2), (.int x3), (.int x4)] := A12
                    have A_aM_12 := A_aM_11.other W12 (Ne.symm nHM)
                    have A_aW_12 := A_aW_11.other W12 (Ne.symm nHW)
                    have sz12 : n0 ≤ h12.size := by rw [W12.size]; exact sz11
                    have kp12 := Keep.wr kp11 W12 (Or.inl (List.mem_of_getElem? (i := 0) rfl))
                    refine Run.aloadN d5_337 rfl rfl (pc' := 338) rfl ?_
                    refine Run.iconst (2 : Int32) d5_338 (by decide) (pc' := 339) rfl ?_
                    refine Run.dup2 d5_339 rfl rfl (pc' := 340) rfl ?_
                    refine Run.iaload (i := 2) (v := (.int x2)) d5_340 A12 (by decide) rfl (pc' := 341) rfl ?_
                    refine Run.iload d5_341 rfl (pc' := 343) rfl ?_
                    refine Run.iadd d5_343 (pc' := 344) rfl ?_
                    refine Run.iastore (i := 2) d5_344 A12 (by decide) (by show (2 : Nat) < 5; decide) gH (pc' := 345) rfl ?_
                    intro h13 W13 A13
                    replace A13 : Ary Z h13 aH .int [(.int (x0 + a)), (.int (x1 + b)), (.int (x2 + c)), (.int x3), (.int x4)] := A13
                    have A_aM_13 := A_aM_12.other W13 (Ne.symm nHM)
                    have A_aW_13 := A_aW_12.other W13 (Ne.symm nHW)
                    have sz13 : n0 ≤ h13.size := by rw [W13.size]; exact sz12
                    have kp13 := Keep.wr kp12 W13 (Or.inl (List.mem_of_getElem? (i := 0) rfl))
                    refine Run.aloadN d5_345 rfl rfl (pc' := 346) rfl ?_
                    refine Run.iconst (3 : Int32) d5_346 (by decide) (pc' := 347) rfl ?_
                    refine Run.dup2 d5_347 rfl rfl (pc' := 348) rfl ?_
                    refine Run.iaload (i := 3) (v := (.int x3)) d5_348 A13 (by decide) rfl (pc' := 349) rfl ?_
                    refine Run.iload d5_349 rfl (pc' := 351) rfl ?_
                    refine Run.iadd d5_351 (pc' := 352) rfl ?_
                    refine Run.iastore (i := 3) d5_352 A13 (by decide) (by show (3 : Nat) < 5; decide) gH (pc' := 353) rfl ?_
                    intro h14 W14 A14
                    replace A14 : Ary Z h14 aH .int [(.int (x0 + a)), (.int (x1 + b)), (.int (x2 + c)), (.int (x3 + d)), (.int x4)] := A14
                    have A_aM_14 := A_aM_13.other W14 (Ne.symm nHM)
                    have A_aW_14 := A_aW_13.other W14 (Ne.symm nHW)
                    have sz14 : n0 ≤ h14.size := by rw [W14.size]; exact sz13
                    have kp14 := Keep.wr kp13 W14 (Or.inl (List.mem_of_getElem? (i := 0) rfl))
                    refine Run.aloadN d5_353 rfl rfl (pc' := 354) rfl ?_
                    refine Run.iconst (4 : Int32) d5_354 (by decide) (pc' := 355) rfl ?_
                    refine Run.dup2 d5_355 rfl rfl (pc' := 356) rfl ?_
                    refine Run.iaload (i := 4) (v := (.int x4)) d5_356 A14 (by decide) rfl (pc' := 357) rfl ?_
                    refine Run.iload d5_357 rfl (pc' := 359) rfl ?_
                    refine Run.iadd d5_359 (pc' := 360) rfl ?_
                    refine Run.iastore (i := 4) d5_360 A14 (by decide) (by show (4 : Nat) < 5; decide) gH (pc' := 361) rfl ?_
                    intro h15 W15 A15
                    replace A15 : Ary Z h15 aH .int [(.int (x0 + a)), (.int (x1 + b)), (.int (x2 + c)), (.int (x3 + d)), (.int (x4 + e))] := A15
                    have A_aM_15 := A_aM_14.other W15 (Ne.symm nHM)
                    have A_aW_15 := A_aW_14.other W15 (Ne.symm nHW)
                    have sz15 : n0 ≤ h15.size := by rw [W15.size]; exact sz14
                    have kp15 := Keep.wr kp14 W15 (Or.inl (List.mem_of_getElem? (i := 0) rfl))
                    exact Run.vreturn d5_361 rfl (by decide) (by decide) ⟨rfl, kp15, (by rw [← hW']; exact A_aW_15), a, b, c, d, e, hr'.symm, A15⟩
                  · -- pc 165 not taken: (Int32.ofNat i) < (80 : Int32)
                    exact absurd ((own_ltk (k := 80) rfl (by omega)).mp hc165) (by omega)
                | succ t ih =>
                  intro i a b c d e s10 s11 s12 hti hr h_s10 h_s11 h_s12
                  have hi : i < 80 := by omega
                  refine Run.iload d5_161 rfl (pc' := 163) rfl ?_
                  refine Run.bipush (80 : Int32) d5_163 (by decide) (pc' := 165) rfl ?_
                  refine Run.icmp_ge d5_165 (by decide) (pc' := 321) (by decide) (pa := 168) rfl (fun hc165 => ?_) (fun hc165 => ?_)
                  · -- pc 165 taken: ¬ (Int32.ofNat i) < (80 : Int32)
                    exact absurd ((own_ltk (k := 80) rfl (by omega)).mpr hi) hc165
                  · -- pc 165 not taken: (Int32.ofNat i) < (80 : Int32)
                    refine Run.iload d5_168 rfl (pc' := 170) rfl ?_
                    refine Run.bipush (20 : Int32) d5_170 (by decide) (pc' := 172) rfl ?_
                    refine Run.icmp_ge d5_172 (by decide) (pc' := 197) (by decide) (pa := 175) rfl (fun hc172 => ?_) (fun hc172 => ?_)
                    · -- pc 172 taken: ¬ (Int32.ofNat i) < (20 : Int32)
                      refine Run.iload d5_197 rfl (pc' := 199) rfl ?_
                      refine Run.bipush (40 : Int32) d5_199 (by decide) (pc' := 201) rfl ?_
                      refine Run.icmp_ge d5_201 (by decide) (pc' := 221) (by decide) (pa := 204) rfl (fun hc201 => ?_) (fun hc201 => ?_)
                      · -- pc 201 taken: ¬ (Int32.ofNat i) < (40 : Int32)
                        refine Run.iload d5_221 rfl (pc' := 223) rfl ?_
                        refine Run.bipush (60 : Int32) d5_223 (by decide) (pc' := 225) rfl ?_
                        refine Run.icmp_ge d5_225 (by decide) (pc' := 254) (by decide) (pa := 228) rfl (fun hc225 => ?_) (fun hc225 => ?_)
                        · -- pc 225 taken: ¬ (Int32.ofNat i) < (60 : Int32)
                          refine Run.iload d5_254 rfl (pc' := 256) rfl ?_
                          refine Run.iload d5_256 rfl (pc' := 258) rfl ?_
                          refine Run.ixor d5_258 (pc' := 259) rfl ?_
                          refine Run.iload d5_259 rfl (pc' := 261) rfl ?_
                          refine Run.ixor d5_261 (pc' := 262) rfl ?_
                          refine Run.istore (l' := #[.val (.ref aH), .val (.ref aM), .val (.int (Int32.ofNat o)), .val (.ref aW), .val (.int a), .val (.int b), .val (.int c), .val (.int d), .val (.int e), .val (.int (Int32.ofNat i)), .val (.int ((b ^^^ c) ^^^ d)), s11, s12]) d5_262 (XS.store1 rfl h_s10 rfl) (pc' := 264) rfl ?_
                          refine Run.ldcI (v := (-899497514 : Int32)) d5_264 (hw _ (List.mem_of_getElem? (i := 53) rfl)) (pc' := 266) rfl ?_
                          refine Run.istore (l' := #[.val (.ref aH), .val (.ref aM), .val (.int (Int32.ofNat o)), .val (.ref aW), .val (.int a), .val (.int b), .val (.int c), .val (.int d), .val (.int e), .val (.int (Int32.ofNat i)), .val (.int ((b ^^^ c) ^^^ d)), .val (.int (-899497514 : Int32)), s12]) d5_266 (XS.store1 rfl h_s11 rfl) (pc' := 268) rfl ?_
                          have hb20 : ¬ i < 20 := by exact fun z => hc172 ((own_ltk (k := 20) rfl (by omega)).mpr z)
                          have hb40 : ¬ i < 40 := by exact fun z => hc201 ((own_ltk (k := 40) rfl (by omega)).mpr z)
                          have hb60 : ¬ i < 60 := by exact fun z => hc225 ((own_ltk (k := 60) rfl (by omega)).mpr z)
                          refine Run.iload d5_268 rfl (pc' := 270) rfl ?_
                          refine Run.iconst (5 : Int32) d5_270 (by decide) (pc' := 271) rfl ?_
                          refine Run.callS (k' := 0) (n' := 0) (as := [(.int a), (.int (5 : Int32))]) (rest := []) (con_own_rol l Z a0 hw n0 h szi a (5 : Int32) ) d5_271 (hw _ (List.mem_of_getElem? (i := 46) rfl)) (hw _ (List.mem_of_getElem? (i := 47) rfl)) (hw _ (List.mem_of_getElem? (i := 48) rfl)) (hw _ (List.mem_of_getElem? (i := 49) rfl)) (by decide) pd__II_I rfl rfl rfl (by decide) (by show (0 : Nat) + (2 + 11) + 0 ≤ _; decide) (by decide) (by decide) (by decide) (by decide) (pc' := 274) rfl ?_
                          rintro _ _ ⟨_, rfl, rfl, rfl⟩
                          show Run l Z n0 "com/example/callimachus/callimachus/Uuids" prog_37_method_8_code 13 none "hashBlock" ({ frames := 1, cells := 0, slots := 0, locals := 32 } : Room) _ 274 #[.val (.ref aH), .val (.ref aM), .val (.int (Int32.ofNat o)), .val (.ref aW), .val (.int a), .val (.int b), .val (.int c), .val (.int d), .val (.int e), .val (.int (Int32.ofNat i)), .val (.int ((b ^^^ c) ^^^ d)), .val (.int (-899497514 : Int32)), s12] [(.int (own_rol a (5 : Int32)))] h 0 0
                          refine Run.iload d5_274 rfl (pc' := 276) rfl ?_
                          refine Run.iadd d5_276 (pc' := 277) rfl ?_
                          refine Run.iload d5_277 rfl (pc' := 279) rfl ?_
                          refine Run.iadd d5_279 (pc' := 280) rfl ?_
                          refine Run.iload d5_280 rfl (pc' := 282) rfl ?_
                          refine Run.iadd d5_282 (pc' := 283) rfl ?_
                          refine Run.aloadN d5_283 rfl rfl (pc' := 284) rfl ?_
                          refine Run.iload d5_284 rfl (pc' := 286) rfl ?_
                          refine Run.iaload (i := i) (v := (.int (ws.getD i 0))) d5_286 AWi (own_ofn (by omega)) (own_get (by omega)) (pc' := 287) rfl ?_
                          refine Run.iadd d5_287 (pc' := 288) rfl ?_
                          refine Run.istore (l' := #[.val (.ref aH), .val (.ref aM), .val (.int (Int32.ofNat o)), .val (.ref aW), .val (.int a), .val (.int b), .val (.int c), .val (.int d), .val (.int e), .val (.int (Int32.ofNat i)), .val (.int ((b ^^^ c) ^^^ d)), .val (.int (-899497514 : Int32)), .val (.int (((((own_rol a (5 : Int32)) + ((b ^^^ c) ^^^ d)) + e) + (-899497514 : Int32)) + (ws.getD i 0)))]) d5_288 (XS.store1 rfl h_s12 rfl) (pc' := 290) rfl ?_
                          refine Run.iload d5_290 rfl (pc' := 292) rfl ?_
                          refine Run.istore (l' := #[.val (.ref aH), .val (.ref aM), .val (.int (Int32.ofNat o)), .val (.ref aW), .val (.int a), .val (.int b), .val (.int c), .val (.int d), .val (.int d), .val (.int (Int32.ofNat i)), .val (.int ((b ^^^ c) ^^^ d)), .val (.int (-899497514 : Int32)), .val (.int (((((own_rol a (5 : Int32)) + ((b ^^^ c) ^^^ d)) + e) + (-899497514 : Int32)) + (ws.getD i 0)))]) d5_292 rfl (pc' := 294) rfl ?_
                          refine Run.iload d5_294 rfl (pc' := 296) rfl ?_
                          refine Run.istore (l' := #[.val (.ref aH), .val (.ref aM), .val (.int (Int32.ofNat o)), .val (.ref aW), .val (.int a), .val (.int b), .val (.int c), .val (.int c), .val (.int d), .val (.int (Int32.ofNat i)), .val (.int ((b ^^^ c) ^^^ d)), .val (.int (-899497514 : Int32)), .val (.int (((((own_rol a (5 : Int32)) + ((b ^^^ c) ^^^ d)) + e) + (-899497514 : Int32)) + (ws.getD i 0)))]) d5_296 rfl (pc' := 298) rfl ?_
                          refine Run.iload d5_298 rfl (pc' := 300) rfl ?_
                          refine Run.bipush (30 : Int32) d5_300 (by decide) (pc' := 302) rfl ?_
                          refine Run.callS (k' := 0) (n' := 0) (as := [(.int b), (.int (30 : Int32))]) (rest := []) (con_own_rol l Z a0 hw n0 h szi b (30 : Int32) ) d5_302 (hw _ (List.mem_of_getElem? (i := 46) rfl)) (hw _ (List.mem_of_getElem? (i := 47) rfl)) (hw _ (List.mem_of_getElem? (i := 48) rfl)) (hw _ (List.mem_of_getElem? (i := 49) rfl)) (by decide) pd__II_I rfl rfl rfl (by decide) (by show (0 : Nat) + (2 + 11) + 0 ≤ _; decide) (by decide) (by decide) (by decide) (by decide) (pc' := 305) rfl ?_
                          rintro _ _ ⟨_, rfl, rfl, rfl⟩
                          show Run l Z n0 "com/example/callimachus/callimachus/Uuids" prog_37_method_8_code 13 none "hashBlock" ({ frames := 1, cells := 0, slots := 0, locals := 32 } : Room) _ 305 #[.val (.ref aH), .val (.ref aM), .val (.int (Int32.ofNat o)), .val (.ref aW), .val (.int a), .val (.int b), .val (.int c), .val (.int c), .val (.int d), .val (.int (Int32.ofNat i)), .val (.int ((b ^^^ c) ^^^ d)), .val (.int (-899497514 : Int32)), .val (.int (((((own_rol a (5 : Int32)) + ((b ^^^ c) ^^^ d)) + e) + (-899497514 : Int32)) + (ws.getD i 0)))] [(.int (own_rol b (30 : Int32)))] h 0 0
                          refine Run.istore (l' := #[.val (.ref aH), .val (.ref aM), .val (.int (Int32.ofNat o)), .val (.ref aW), .val (.int a), .val (.int b), .val (.int (own_rol b (30 : Int32))), .val (.int c), .val (.int d), .val (.int (Int32.ofNat i)), .val (.int ((b ^^^ c) ^^^ d)), .val (.int (-899497514 : Int32)), .val (.int (((((own_rol a (5 : Int32)) + ((b ^^^ c) ^^^ d)) + e) + (-899497514 : Int32)) + (ws.getD i 0)))]) d5_305 rfl (pc' := 307) rfl ?_
                          refine Run.iload d5_307 rfl (pc' := 309) rfl ?_
                          refine Run.istore (l' := #[.val (.ref aH), .val (.ref aM), .val (.int (Int32.ofNat o)), .val (.ref aW), .val (.int a), .val (.int a), .val (.int (own_rol b (30 : Int32))), .val (.int c), .val (.int d), .val (.int (Int32.ofNat i)), .val (.int ((b ^^^ c) ^^^ d)), .val (.int (-899497514 : Int32)), .val (.int (((((own_rol a (5 : Int32)) + ((b ^^^ c) ^^^ d)) + e) + (-899497514 : Int32)) + (ws.getD i 0)))]) d5_309 rfl (pc' := 311) rfl ?_
                          refine Run.iload d5_311 rfl (pc' := 313) rfl ?_
                          refine Run.istore (l' := #[.val (.ref aH), .val (.ref aM), .val (.int (Int32.ofNat o)), .val (.ref aW), .val (.int (((((own_rol a (5 : Int32)) + ((b ^^^ c) ^^^ d)) + e) + (-899497514 : Int32)) + (ws.getD i 0))), .val (.int a), .val (.int (own_rol b (30 : Int32))), .val (.int c), .val (.int d), .val (.int (Int32.ofNat i)), .val (.int ((b ^^^ c) ^^^ d)), .val (.int (-899497514 : Int32)), .val (.int (((((own_rol a (5 : Int32)) + ((b ^^^ c) ^^^ d)) + e) + (-899497514 : Int32)) + (ws.getD i 0)))]) d5_313 rfl (pc' := 315) rfl ?_
                          refine Run.iinc (1 : Int32) #[.val (.ref aH), .val (.ref aM), .val (.int (Int32.ofNat o)), .val (.ref aW), .val (.int (((((own_rol a (5 : Int32)) + ((b ^^^ c) ^^^ d)) + e) + (-899497514 : Int32)) + (ws.getD i 0))), .val (.int a), .val (.int (own_rol b (30 : Int32))), .val (.int c), .val (.int d), .val (.int ((Int32.ofNat i) + (1 : Int32))), .val (.int ((b ^^^ c) ^^^ d)), .val (.int (-899497514 : Int32)), .val (.int (((((own_rol a (5 : Int32)) + ((b ^^^ c) ^^^ d)) + e) + (-899497514 : Int32)) + (ws.getD i 0)))] d5_315 (by decide) rfl rfl (pc' := 318) rfl ?_
                          rw [own_inc i]
                          refine Run.goto d5_318 (by decide) (pc' := 161) (by decide) ?_
                          exact ih (i + 1) _ _ _ _ _ _ _ _ (by omega) ((own_r80 hb20 hb40 hb60).symm.trans hr) (Or.inr ⟨_, rfl, rfl⟩) (Or.inr ⟨_, rfl, rfl⟩) (Or.inr ⟨_, rfl, rfl⟩)
                        · -- pc 225 not taken: (Int32.ofNat i) < (60 : Int32)
                          refine Run.iload d5_228 rfl (pc' := 230) rfl ?_
                          refine Run.iload d5_230 rfl (pc' := 232) rfl ?_
                          refine Run.iand d5_232 (pc' := 233) rfl ?_
                          refine Run.iload d5_233 rfl (pc' := 235) rfl ?_
                          refine Run.iload d5_235 rfl (pc' := 237) rfl ?_
                          refine Run.iand d5_237 (pc' := 238) rfl ?_
                          refine Run.ior d5_238 (pc' := 239) rfl ?_
                          refine Run.iload d5_239 rfl (pc' := 241) rfl ?_
                          refine Run.iload d5_241 rfl (pc' := 243) rfl ?_
                          refine Run.iand d5_243 (pc' := 244) rfl ?_
                          refine Run.ior d5_244 (pc' := 245) rfl ?_
                          refine Run.istore (l' := #[.val (.ref aH), .val (.ref aM), .val (.int (Int32.ofNat o)), .val (.ref aW), .val (.int a), .val (.int b), .val (.int c), .val (.int d), .val (.int e), .val (.int (Int32.ofNat i)), .val (.int (((b &&& c) ||| (b &&& d)) ||| (c &&& d))), s11, s12]) d5_245 (XS.store1 rfl h_s10 rfl) (pc' := 247) rfl ?_
                          refine Run.ldcI (v := (-1894007588 : Int32)) d5_247 (hw _ (List.mem_of_getElem? (i := 52) rfl)) (pc' := 249) rfl ?_
                          refine Run.istore (l' := #[.val (.ref aH), .val (.ref aM), .val (.int (Int32.ofNat o)), .val (.ref aW), .val (.int a), .val (.int b), .val (.int c), .val (.int d), .val (.int e), .val (.int (Int32.ofNat i)), .val (.int (((b &&& c) ||| (b &&& d)) ||| (c &&& d))), .val (.int (-1894007588 : Int32)), s12]) d5_249 (XS.store1 rfl h_s11 rfl) (pc' := 251) rfl ?_
                          refine Run.goto d5_251 (by decide) (pc' := 268) (by decide) ?_
                          have hb20 : ¬ i < 20 := by exact fun z => hc172 ((own_ltk (k := 20) rfl (by omega)).mpr z)
                          have hb40 : ¬ i < 40 := by exact fun z => hc201 ((own_ltk (k := 40) rfl (by omega)).mpr z)
                          have hb60 : i < 60 := by exact (own_ltk (k := 60) rfl (by omega)).mp hc225
                          refine Run.iload d5_268 rfl (pc' := 270) rfl ?_
                          refine Run.iconst (5 : Int32) d5_270 (by decide) (pc' := 271) rfl ?_
                          refine Run.callS (k' := 0) (n' := 0) (as := [(.int a), (.int (5 : Int32))]) (rest := []) (con_own_rol l Z a0 hw n0 h szi a (5 : Int32) ) d5_271 (hw _ (List.mem_of_getElem? (i := 46) rfl)) (hw _ (List.mem_of_getElem? (i := 47) rfl)) (hw _ (List.mem_of_getElem? (i := 48) rfl)) (hw _ (List.mem_of_getElem? (i := 49) rfl)) (by decide) pd__II_I rfl rfl rfl (by decide) (by show (0 : Nat) + (2 + 11) + 0 ≤ _; decide) (by decide) (by decide) (by decide) (by decide) (pc' := 274) rfl ?_
                          rintro _ _ ⟨_, rfl, rfl, rfl⟩
                          show Run l Z n0 "com/example/callimachus/callimachus/Uuids" prog_37_method_8_code 13 none "hashBlock" ({ frames := 1, cells := 0, slots := 0, locals := 32 } : Room) _ 274 #[.val (.ref aH), .val (.ref aM), .val (.int (Int32.ofNat o)), .val (.ref aW), .val (.int a), .val (.int b), .val (.int c), .val (.int d), .val (.int e), .val (.int (Int32.ofNat i)), .val (.int (((b &&& c) ||| (b &&& d)) ||| (c &&& d))), .val (.int (-1894007588 : Int32)), s12] [(.int (own_rol a (5 : Int32)))] h 0 0
                          refine Run.iload d5_274 rfl (pc' := 276) rfl ?_
                          refine Run.iadd d5_276 (pc' := 277) rfl ?_
                          refine Run.iload d5_277 rfl (pc' := 279) rfl ?_
                          refine Run.iadd d5_279 (pc' := 280) rfl ?_
                          refine Run.iload d5_280 rfl (pc' := 282) rfl ?_
                          refine Run.iadd d5_282 (pc' := 283) rfl ?_
                          refine Run.aloadN d5_283 rfl rfl (pc' := 284) rfl ?_
                          refine Run.iload d5_284 rfl (pc' := 286) rfl ?_
                          refine Run.iaload (i := i) (v := (.int (ws.getD i 0))) d5_286 AWi (own_ofn (by omega)) (own_get (by omega)) (pc' := 287) rfl ?_
                          refine Run.iadd d5_287 (pc' := 288) rfl ?_
                          refine Run.istore (l' := #[.val (.ref aH), .val (.ref aM), .val (.int (Int32.ofNat o)), .val (.ref aW), .val (.int a), .val (.int b), .val (.int c), .val (.int d), .val (.int e), .val (.int (Int32.ofNat i)), .val (.int (((b &&& c) ||| (b &&& d)) ||| (c &&& d))), .val (.int (-1894007588 : Int32)), .val (.int (((((own_rol a (5 : Int32)) + (((b &&& c) ||| (b &&& d)) ||| (c &&& d))) + e) + (-1894007588 : Int32)) + (ws.getD i 0)))]) d5_288 (XS.store1 rfl h_s12 rfl) (pc' := 290) rfl ?_
                          refine Run.iload d5_290 rfl (pc' := 292) rfl ?_
                          refine Run.istore (l' := #[.val (.ref aH), .val (.ref aM), .val (.int (Int32.ofNat o)), .val (.ref aW), .val (.int a), .val (.int b), .val (.int c), .val (.int d), .val (.int d), .val (.int (Int32.ofNat i)), .val (.int (((b &&& c) ||| (b &&& d)) ||| (c &&& d))), .val (.int (-1894007588 : Int32)), .val (.int (((((own_rol a (5 : Int32)) + (((b &&& c) ||| (b &&& d)) ||| (c &&& d))) + e) + (-1894007588 : Int32)) + (ws.getD i 0)))]) d5_292 rfl (pc' := 294) rfl ?_
                          refine Run.iload d5_294 rfl (pc' := 296) rfl ?_
                          refine Run.istore (l' := #[.val (.ref aH), .val (.ref aM), .val (.int (Int32.ofNat o)), .val (.ref aW), .val (.int a), .val (.int b), .val (.int c), .val (.int c), .val (.int d), .val (.int (Int32.ofNat i)), .val (.int (((b &&& c) ||| (b &&& d)) ||| (c &&& d))), .val (.int (-1894007588 : Int32)), .val (.int (((((own_rol a (5 : Int32)) + (((b &&& c) ||| (b &&& d)) ||| (c &&& d))) + e) + (-1894007588 : Int32)) + (ws.getD i 0)))]) d5_296 rfl (pc' := 298) rfl ?_
                          refine Run.iload d5_298 rfl (pc' := 300) rfl ?_
                          refine Run.bipush (30 : Int32) d5_300 (by decide) (pc' := 302) rfl ?_
                          refine Run.callS (k' := 0) (n' := 0) (as := [(.int b), (.int (30 : Int32))]) (rest := []) (con_own_rol l Z a0 hw n0 h szi b (30 : Int32) ) d5_302 (hw _ (List.mem_of_getElem? (i := 46) rfl)) (hw _ (List.mem_of_getElem? (i := 47) rfl)) (hw _ (List.mem_of_getElem? (i := 48) rfl)) (hw _ (List.mem_of_getElem? (i := 49) rfl)) (by decide) pd__II_I rfl rfl rfl (by decide) (by show (0 : Nat) + (2 + 11) + 0 ≤ _; decide) (by decide) (by decide) (by decide) (by decide) (pc' := 305) rfl ?_
                          rintro _ _ ⟨_, rfl, rfl, rfl⟩
                          show Run l Z n0 "com/example/callimachus/callimachus/Uuids" prog_37_method_8_code 13 none "hashBlock" ({ frames := 1, cells := 0, slots := 0, locals := 32 } : Room) _ 305 #[.val (.ref aH), .val (.ref aM), .val (.int (Int32.ofNat o)), .val (.ref aW), .val (.int a), .val (.int b), .val (.int c), .val (.int c), .val (.int d), .val (.int (Int32.ofNat i)), .val (.int (((b &&& c) ||| (b &&& d)) ||| (c &&& d))), .val (.int (-1894007588 : Int32)), .val (.int (((((own_rol a (5 : Int32)) + (((b &&& c) ||| (b &&& d)) ||| (c &&& d))) + e) + (-1894007588 : Int32)) + (ws.getD i 0)))] [(.int (own_rol b (30 : Int32)))] h 0 0
                          refine Run.istore (l' := #[.val (.ref aH), .val (.ref aM), .val (.int (Int32.ofNat o)), .val (.ref aW), .val (.int a), .val (.int b), .val (.int (own_rol b (30 : Int32))), .val (.int c), .val (.int d), .val (.int (Int32.ofNat i)), .val (.int (((b &&& c) ||| (b &&& d)) ||| (c &&& d))), .val (.int (-1894007588 : Int32)), .val (.int (((((own_rol a (5 : Int32)) + (((b &&& c) ||| (b &&& d)) ||| (c &&& d))) + e) + (-1894007588 : Int32)) + (ws.getD i 0)))]) d5_305 rfl (pc' := 307) rfl ?_
                          refine Run.iload d5_307 rfl (pc' := 309) rfl ?_
                          refine Run.istore (l' := #[.val (.ref aH), .val (.ref aM), .val (.int (Int32.ofNat o)), .val (.ref aW), .val (.int a), .val (.int a), .val (.int (own_rol b (30 : Int32))), .val (.int c), .val (.int d), .val (.int (Int32.ofNat i)), .val (.int (((b &&& c) ||| (b &&& d)) ||| (c &&& d))), .val (.int (-1894007588 : Int32)), .val (.int (((((own_rol a (5 : Int32)) + (((b &&& c) ||| (b &&& d)) ||| (c &&& d))) + e) + (-1894007588 : Int32)) + (ws.getD i 0)))]) d5_309 rfl (pc' := 311) rfl ?_
                          refine Run.iload d5_311 rfl (pc' := 313) rfl ?_
                          refine Run.istore (l' := #[.val (.ref aH), .val (.ref aM), .val (.int (Int32.ofNat o)), .val (.ref aW), .val (.int (((((own_rol a (5 : Int32)) + (((b &&& c) ||| (b &&& d)) ||| (c &&& d))) + e) + (-1894007588 : Int32)) + (ws.getD i 0))), .val (.int a), .val (.int (own_rol b (30 : Int32))), .val (.int c), .val (.int d), .val (.int (Int32.ofNat i)), .val (.int (((b &&& c) ||| (b &&& d)) ||| (c &&& d))), .val (.int (-1894007588 : Int32)), .val (.int (((((own_rol a (5 : Int32)) + (((b &&& c) ||| (b &&& d)) ||| (c &&& d))) + e) + (-1894007588 : Int32)) + (ws.getD i 0)))]) d5_313 rfl (pc' := 315) rfl ?_
                          refine Run.iinc (1 : Int32) #[.val (.ref aH), .val (.ref aM), .val (.int (Int32.ofNat o)), .val (.ref aW), .val (.int (((((own_rol a (5 : Int32)) + (((b &&& c) ||| (b &&& d)) ||| (c &&& d))) + e) + (-1894007588 : Int32)) + (ws.getD i 0))), .val (.int a), .val (.int (own_rol b (30 : Int32))), .val (.int c), .val (.int d), .val (.int ((Int32.ofNat i) + (1 : Int32))), .val (.int (((b &&& c) ||| (b &&& d)) ||| (c &&& d))), .val (.int (-1894007588 : Int32)), .val (.int (((((own_rol a (5 : Int32)) + (((b &&& c) ||| (b &&& d)) ||| (c &&& d))) + e) + (-1894007588 : Int32)) + (ws.getD i 0)))] d5_315 (by decide) rfl rfl (pc' := 318) rfl ?_
                          rw [own_inc i]
                          refine Run.goto d5_318 (by decide) (pc' := 161) (by decide) ?_
                          exact ih (i + 1) _ _ _ _ _ _ _ _ (by omega) ((own_r60 hb20 hb40 hb60).symm.trans hr) (Or.inr ⟨_, rfl, rfl⟩) (Or.inr ⟨_, rfl, rfl⟩) (Or.inr ⟨_, rfl, rfl⟩)
                      · -- pc 201 not taken: (Int32.ofNat i) < (40 : Int32)
                        refine Run.iload d5_204 rfl (pc' := 206) rfl ?_
                        refine Run.iload d5_206 rfl (pc' := 208) rfl ?_
                        refine Run.ixor d5_208 (pc' := 209) rfl ?_
                        refine Run.iload d5_209 rfl (pc' := 211) rfl ?_
                        refine Run.ixor d5_211 (pc' := 212) rfl ?_
                        refine Run.istore (l' := #[.val (.ref aH), .val (.ref aM), .val (.int (Int32.ofNat o)), .val (.ref aW), .val (.int a), .val (.int b), .val (.int c), .val (.int d), .val (.int e), .val (.int (Int32.ofNat i)), .val (.int ((b ^^^ c) ^^^ d)), s11, s12]) d5_212 (XS.store1 rfl h_s10 rfl) (pc' := 214) rfl ?_
                        refine Run.ldcI (v := (1859775393 : Int32)) d5_214 (hw _ (List.mem_of_getElem? (i := 51) rfl)) (pc' := 216) rfl ?_
                        refine Run.istore (l' := #[.val (.ref aH), .val (.ref aM), .val (.int (Int32.ofNat o)), .val (.ref aW), .val (.int a), .val (.int b), .val (.int c), .val (.int d), .val (.int e), .val (.int (Int32.ofNat i)), .val (.int ((b ^^^ c) ^^^ d)), .val (.int (1859775393 : Int32)), s12]) d5_216 (XS.store1 rfl h_s11 rfl) (pc' := 218) rfl ?_
                        refine Run.goto d5_218 (by decide) (pc' := 268) (by decide) ?_
                        have hb20 : ¬ i < 20 := by exact fun z => hc172 ((own_ltk (k := 20) rfl (by omega)).mpr z)
                        have hb40 : i < 40 := by exact (own_ltk (k := 40) rfl (by omega)).mp hc201
                        refine Run.iload d5_268 rfl (pc' := 270) rfl ?_
                        refine Run.iconst (5 : Int32) d5_270 (by decide) (pc' := 271) rfl ?_
                        refine Run.callS (k' := 0) (n' := 0) (as := [(.int a), (.int (5 : Int32))]) (rest := []) (con_own_rol l Z a0 hw n0 h szi a (5 : Int32) ) d5_271 (hw _ (List.mem_of_getElem? (i := 46) rfl)) (hw _ (List.mem_of_getElem? (i := 47) rfl)) (hw _ (List.mem_of_getElem? (i := 48) rfl)) (hw _ (List.mem_of_getElem? (i := 49) rfl)) (by decide) pd__II_I rfl rfl rfl (by decide) (by show (0 : Nat) + (2 + 11) + 0 ≤ _; decide) (by decide) (by decide) (by decide) (by decide) (pc' := 274) rfl ?_
                        rintro _ _ ⟨_, rfl, rfl, rfl⟩
                        show Run l Z n0 "com/example/callimachus/callimachus/Uuids" prog_37_method_8_code 13 none "hashBlock" ({ frames := 1, cells := 0, slots := 0, locals := 32 } : Room) _ 274 #[.val (.ref aH), .val (.ref aM), .val (.int (Int32.ofNat o)), .val (.ref aW), .val (.int a), .val (.int b), .val (.int c), .val (.int d), .val (.int e), .val (.int (Int32.ofNat i)), .val (.int ((b ^^^ c) ^^^ d)), .val (.int (1859775393 : Int32)), s12] [(.int (own_rol a (5 : Int32)))] h 0 0
                        refine Run.iload d5_274 rfl (pc' := 276) rfl ?_
                        refine Run.iadd d5_276 (pc' := 277) rfl ?_
                        refine Run.iload d5_277 rfl (pc' := 279) rfl ?_
                        refine Run.iadd d5_279 (pc' := 280) rfl ?_
                        refine Run.iload d5_280 rfl (pc' := 282) rfl ?_
                        refine Run.iadd d5_282 (pc' := 283) rfl ?_
                        refine Run.aloadN d5_283 rfl rfl (pc' := 284) rfl ?_
                        refine Run.iload d5_284 rfl (pc' := 286) rfl ?_
                        refine Run.iaload (i := i) (v := (.int (ws.getD i 0))) d5_286 AWi (own_ofn (by omega)) (own_get (by omega)) (pc' := 287) rfl ?_
                        refine Run.iadd d5_287 (pc' := 288) rfl ?_
                        refine Run.istore (l' := #[.val (.ref aH), .val (.ref aM), .val (.int (Int32.ofNat o)), .val (.ref aW), .val (.int a), .val (.int b), .val (.int c), .val (.int d), .val (.int e), .val (.int (Int32.ofNat i)), .val (.int ((b ^^^ c) ^^^ d)), .val (.int (1859775393 : Int32)), .val (.int (((((own_rol a (5 : Int32)) + ((b ^^^ c) ^^^ d)) + e) + (1859775393 : Int32)) + (ws.getD i 0)))]) d5_288 (XS.store1 rfl h_s12 rfl) (pc' := 290) rfl ?_
                        refine Run.iload d5_290 rfl (pc' := 292) rfl ?_
                        refine Run.istore (l' := #[.val (.ref aH), .val (.ref aM), .val (.int (Int32.ofNat o)), .val (.ref aW), .val (.int a), .val (.int b), .val (.int c), .val (.int d), .val (.int d), .val (.int (Int32.ofNat i)), .val (.int ((b ^^^ c) ^^^ d)), .val (.int (1859775393 : Int32)), .val (.int (((((own_rol a (5 : Int32)) + ((b ^^^ c) ^^^ d)) + e) + (1859775393 : Int32)) + (ws.getD i 0)))]) d5_292 rfl (pc' := 294) rfl ?_
                        refine Run.iload d5_294 rfl (pc' := 296) rfl ?_
                        refine Run.istore (l' := #[.val (.ref aH), .val (.ref aM), .val (.int (Int32.ofNat o)), .val (.ref aW), .val (.int a), .val (.int b), .val (.int c), .val (.int c), .val (.int d), .val (.int (Int32.ofNat i)), .val (.int ((b ^^^ c) ^^^ d)), .val (.int (1859775393 : Int32)), .val (.int (((((own_rol a (5 : Int32)) + ((b ^^^ c) ^^^ d)) + e) + (1859775393 : Int32)) + (ws.getD i 0)))]) d5_296 rfl (pc' := 298) rfl ?_
                        refine Run.iload d5_298 rfl (pc' := 300) rfl ?_
                        refine Run.bipush (30 : Int32) d5_300 (by decide) (pc' := 302) rfl ?_
                        refine Run.callS (k' := 0) (n' := 0) (as := [(.int b), (.int (30 : Int32))]) (rest := []) (con_own_rol l Z a0 hw n0 h szi b (30 : Int32) ) d5_302 (hw _ (List.mem_of_getElem? (i := 46) rfl)) (hw _ (List.mem_of_getElem? (i := 47) rfl)) (hw _ (List.mem_of_getElem? (i := 48) rfl)) (hw _ (List.mem_of_getElem? (i := 49) rfl)) (by decide) pd__II_I rfl rfl rfl (by decide) (by show (0 : Nat) + (2 + 11) + 0 ≤ _; decide) (by decide) (by decide) (by decide) (by decide) (pc' := 305) rfl ?_
                        rintro _ _ ⟨_, rfl, rfl, rfl⟩
                        show Run l Z n0 "com/example/callimachus/callimachus/Uuids" prog_37_method_8_code 13 none "hashBlock" ({ frames := 1, cells := 0, slots := 0, locals := 32 } : Room) _ 305 #[.val (.ref aH), .val (.ref aM), .val (.int (Int32.ofNat o)), .val (.ref aW), .val (.int a), .val (.int b), .val (.int c), .val (.int c), .val (.int d), .val (.int (Int32.ofNat i)), .val (.int ((b ^^^ c) ^^^ d)), .val (.int (1859775393 : Int32)), .val (.int (((((own_rol a (5 : Int32)) + ((b ^^^ c) ^^^ d)) + e) + (1859775393 : Int32)) + (ws.getD i 0)))] [(.int (own_rol b (30 : Int32)))] h 0 0
                        refine Run.istore (l' := #[.val (.ref aH), .val (.ref aM), .val (.int (Int32.ofNat o)), .val (.ref aW), .val (.int a), .val (.int b), .val (.int (own_rol b (30 : Int32))), .val (.int c), .val (.int d), .val (.int (Int32.ofNat i)), .val (.int ((b ^^^ c) ^^^ d)), .val (.int (1859775393 : Int32)), .val (.int (((((own_rol a (5 : Int32)) + ((b ^^^ c) ^^^ d)) + e) + (1859775393 : Int32)) + (ws.getD i 0)))]) d5_305 rfl (pc' := 307) rfl ?_
                        refine Run.iload d5_307 rfl (pc' := 309) rfl ?_
                        refine Run.istore (l' := #[.val (.ref aH), .val (.ref aM), .val (.int (Int32.ofNat o)), .val (.ref aW), .val (.int a), .val (.int a), .val (.int (own_rol b (30 : Int32))), .val (.int c), .val (.int d), .val (.int (Int32.ofNat i)), .val (.int ((b ^^^ c) ^^^ d)), .val (.int (1859775393 : Int32)), .val (.int (((((own_rol a (5 : Int32)) + ((b ^^^ c) ^^^ d)) + e) + (1859775393 : Int32)) + (ws.getD i 0)))]) d5_309 rfl (pc' := 311) rfl ?_
                        refine Run.iload d5_311 rfl (pc' := 313) rfl ?_
                        refine Run.istore (l' := #[.val (.ref aH), .val (.ref aM), .val (.int (Int32.ofNat o)), .val (.ref aW), .val (.int (((((own_rol a (5 : Int32)) + ((b ^^^ c) ^^^ d)) + e) + (1859775393 : Int32)) + (ws.getD i 0))), .val (.int a), .val (.int (own_rol b (30 : Int32))), .val (.int c), .val (.int d), .val (.int (Int32.ofNat i)), .val (.int ((b ^^^ c) ^^^ d)), .val (.int (1859775393 : Int32)), .val (.int (((((own_rol a (5 : Int32)) + ((b ^^^ c) ^^^ d)) + e) + (1859775393 : Int32)) + (ws.getD i 0)))]) d5_313 rfl (pc' := 315) rfl ?_
                        refine Run.iinc (1 : Int32) #[.val (.ref aH), .val (.ref aM), .val (.int (Int32.ofNat o)), .val (.ref aW), .val (.int (((((own_rol a (5 : Int32)) + ((b ^^^ c) ^^^ d)) + e) + (1859775393 : Int32)) + (ws.getD i 0))), .val (.int a), .val (.int (own_rol b (30 : Int32))), .val (.int c), .val (.int d), .val (.int ((Int32.ofNat i) + (1 : Int32))), .val (.int ((b ^^^ c) ^^^ d)), .val (.int (1859775393 : Int32)), .val (.int (((((own_rol a (5 : Int32)) + ((b ^^^ c) ^^^ d)) + e) + (1859775393 : Int32)) + (ws.getD i 0)))] d5_315 (by decide) rfl rfl (pc' := 318) rfl ?_
                        rw [own_inc i]
                        refine Run.goto d5_318 (by decide) (pc' := 161) (by decide) ?_
                        exact ih (i + 1) _ _ _ _ _ _ _ _ (by omega) ((own_r40 hb20 hb40).symm.trans hr) (Or.inr ⟨_, rfl, rfl⟩) (Or.inr ⟨_, rfl, rfl⟩) (Or.inr ⟨_, rfl, rfl⟩)
                    · -- pc 172 not taken: (Int32.ofNat i) < (20 : Int32)
                      refine Run.iload d5_175 rfl (pc' := 177) rfl ?_
                      refine Run.iload d5_177 rfl (pc' := 179) rfl ?_
                      refine Run.iand d5_179 (pc' := 180) rfl ?_
                      refine Run.iload d5_180 rfl (pc' := 182) rfl ?_
                      refine Run.iconst (-1 : Int32) d5_182 (by decide) (pc' := 183) rfl ?_
                      refine Run.ixor d5_183 (pc' := 184) rfl ?_
                      refine Run.iload d5_184 rfl (pc' := 186) rfl ?_
                      refine Run.iand d5_186 (pc' := 187) rfl ?_
                      refine Run.ior d5_187 (pc' := 188) rfl ?_
                      refine Run.istore (l' := #[.val (.ref aH), .val (.ref aM), .val (.int (Int32.ofNat o)), .val (.ref aW), .val (.int a), .val (.int b), .val (.int c), .val (.int d), .val (.int e), .val (.int (Int32.ofNat i)), .val (.int ((b &&& c) ||| ((b ^^^ (-1 : Int32)) &&& d))), s11, s12]) d5_188 (XS.store1 rfl h_s10 rfl) (pc' := 190) rfl ?_
                      refine Run.ldcI (v := (1518500249 : Int32)) d5_190 (hw _ (List.mem_of_getElem? (i := 50) rfl)) (pc' := 192) rfl ?_
                      refine Run.istore (l' := #[.val (.ref aH), .val (.ref aM), .val (.int (Int32.ofNat o)), .val (.ref aW), .val (.int a), .val (.int b), .val (.int c), .val (.int d), .val (.int e), .val (.int (Int32.ofNat i)), .val (.int ((b &&& c) ||| ((b ^^^ (-1 : Int32)) &&& d))), .val (.int (1518500249 : Int32)), s12]) d5_192 (XS.store1 rfl h_s11 rfl) (pc' := 194) rfl ?_
                      refine Run.goto d5_194 (by decide) (pc' := 268) (by decide) ?_
                      have hb20 : i < 20 := by exact (own_ltk (k := 20) rfl (by omega)).mp hc172
                      refine Run.iload d5_268 rfl (pc' := 270) rfl ?_
                      refine Run.iconst (5 : Int32) d5_270 (by decide) (pc' := 271) rfl ?_
                      refine Run.callS (k' := 0) (n' := 0) (as := [(.int a), (.int (5 : Int32))]) (rest := []) (con_own_rol l Z a0 hw n0 h szi a (5 : Int32) ) d5_271 (hw _ (List.mem_of_getElem? (i := 46) rfl)) (hw _ (List.mem_of_getElem? (i := 47) rfl)) (hw _ (List.mem_of_getElem? (i := 48) rfl)) (hw _ (List.mem_of_getElem? (i := 49) rfl)) (by decide) pd__II_I rfl rfl rfl (by decide) (by show (0 : Nat) + (2 + 11) + 0 ≤ _; decide) (by decide) (by decide) (by decide) (by decide) (pc' := 274) rfl ?_
                      rintro _ _ ⟨_, rfl, rfl, rfl⟩
                      show Run l Z n0 "com/example/callimachus/callimachus/Uuids" prog_37_method_8_code 13 none "hashBlock" ({ frames := 1, cells := 0, slots := 0, locals := 32 } : Room) _ 274 #[.val (.ref aH), .val (.ref aM), .val (.int (Int32.ofNat o)), .val (.ref aW), .val (.int a), .val (.int b), .val (.int c), .val (.int d), .val (.int e), .val (.int (Int32.ofNat i)), .val (.int ((b &&& c) ||| ((b ^^^ (-1 : Int32)) &&& d))), .val (.int (1518500249 : Int32)), s12] [(.int (own_rol a (5 : Int32)))] h 0 0
                      refine Run.iload d5_274 rfl (pc' := 276) rfl ?_
                      refine Run.iadd d5_276 (pc' := 277) rfl ?_
                      refine Run.iload d5_277 rfl (pc' := 279) rfl ?_
                      refine Run.iadd d5_279 (pc' := 280) rfl ?_
                      refine Run.iload d5_280 rfl (pc' := 282) rfl ?_
                      refine Run.iadd d5_282 (pc' := 283) rfl ?_
                      refine Run.aloadN d5_283 rfl rfl (pc' := 284) rfl ?_
                      refine Run.iload d5_284 rfl (pc' := 286) rfl ?_
                      refine Run.iaload (i := i) (v := (.int (ws.getD i 0))) d5_286 AWi (own_ofn (by omega)) (own_get (by omega)) (pc' := 287) rfl ?_
                      refine Run.iadd d5_287 (pc' := 288) rfl ?_
                      refine Run.istore (l' := #[.val (.ref aH), .val (.ref aM), .val (.int (Int32.ofNat o)), .val (.ref aW), .val (.int a), .val (.int b), .val (.int c), .val (.int d), .val (.int e), .val (.int (Int32.ofNat i)), .val (.int ((b &&& c) ||| ((b ^^^ (-1 : Int32)) &&& d))), .val (.int (1518500249 : Int32)), .val (.int (((((own_rol a (5 : Int32)) + ((b &&& c) ||| ((b ^^^ (-1 : Int32)) &&& d))) + e) + (1518500249 : Int32)) + (ws.getD i 0)))]) d5_288 (XS.store1 rfl h_s12 rfl) (pc' := 290) rfl ?_
                      refine Run.iload d5_290 rfl (pc' := 292) rfl ?_
                      refine Run.istore (l' := #[.val (.ref aH), .val (.ref aM), .val (.int (Int32.ofNat o)), .val (.ref aW), .val (.int a), .val (.int b), .val (.int c), .val (.int d), .val (.int d), .val (.int (Int32.ofNat i)), .val (.int ((b &&& c) ||| ((b ^^^ (-1 : Int32)) &&& d))), .val (.int (1518500249 : Int32)), .val (.int (((((own_rol a (5 : Int32)) + ((b &&& c) ||| ((b ^^^ (-1 : Int32)) &&& d))) + e) + (1518500249 : Int32)) + (ws.getD i 0)))]) d5_292 rfl (pc' := 294) rfl ?_
                      refine Run.iload d5_294 rfl (pc' := 296) rfl ?_
                      refine Run.istore (l' := #[.val (.ref aH), .val (.ref aM), .val (.int (Int32.ofNat o)), .val (.ref aW), .val (.int a), .val (.int b), .val (.int c), .val (.int c), .val (.int d), .val (.int (Int32.ofNat i)), .val (.int ((b &&& c) ||| ((b ^^^ (-1 : Int32)) &&& d))), .val (.int (1518500249 : Int32)), .val (.int (((((own_rol a (5 : Int32)) + ((b &&& c) ||| ((b ^^^ (-1 : Int32)) &&& d))) + e) + (1518500249 : Int32)) + (ws.getD i 0)))]) d5_296 rfl (pc' := 298) rfl ?_
                      refine Run.iload d5_298 rfl (pc' := 300) rfl ?_
                      refine Run.bipush (30 : Int32) d5_300 (by decide) (pc' := 302) rfl ?_
                      refine Run.callS (k' := 0) (n' := 0) (as := [(.int b), (.int (30 : Int32))]) (rest := []) (con_own_rol l Z a0 hw n0 h szi b (30 : Int32) ) d5_302 (hw _ (List.mem_of_getElem? (i := 46) rfl)) (hw _ (List.mem_of_getElem? (i := 47) rfl)) (hw _ (List.mem_of_getElem? (i := 48) rfl)) (hw _ (List.mem_of_getElem? (i := 49) rfl)) (by decide) pd__II_I rfl rfl rfl (by decide) (by show (0 : Nat) + (2 + 11) + 0 ≤ _; decide) (by decide) (by decide) (by decide) (by decide) (pc' := 305) rfl ?_
                      rintro _ _ ⟨_, rfl, rfl, rfl⟩
                      show Run l Z n0 "com/example/callimachus/callimachus/Uuids" prog_37_method_8_code 13 none "hashBlock" ({ frames := 1, cells := 0, slots := 0, locals := 32 } : Room) _ 305 #[.val (.ref aH), .val (.ref aM), .val (.int (Int32.ofNat o)), .val (.ref aW), .val (.int a), .val (.int b), .val (.int c), .val (.int c), .val (.int d), .val (.int (Int32.ofNat i)), .val (.int ((b &&& c) ||| ((b ^^^ (-1 : Int32)) &&& d))), .val (.int (1518500249 : Int32)), .val (.int (((((own_rol a (5 : Int32)) + ((b &&& c) ||| ((b ^^^ (-1 : Int32)) &&& d))) + e) + (1518500249 : Int32)) + (ws.getD i 0)))] [(.int (own_rol b (30 : Int32)))] h 0 0
                      refine Run.istore (l' := #[.val (.ref aH), .val (.ref aM), .val (.int (Int32.ofNat o)), .val (.ref aW), .val (.int a), .val (.int b), .val (.int (own_rol b (30 : Int32))), .val (.int c), .val (.int d), .val (.int (Int32.ofNat i)), .val (.int ((b &&& c) ||| ((b ^^^ (-1 : Int32)) &&& d))), .val (.int (1518500249 : Int32)), .val (.int (((((own_rol a (5 : Int32)) + ((b &&& c) ||| ((b ^^^ (-1 : Int32)) &&& d))) + e) + (1518500249 : Int32)) + (ws.getD i 0)))]) d5_305 rfl (pc' := 307) rfl ?_
                      refine Run.iload d5_307 rfl (pc' := 309) rfl ?_
                      refine Run.istore (l' := #[.val (.ref aH), .val (.ref aM), .val (.int (Int32.ofNat o)), .val (.ref aW), .val (.int a), .val (.int a), .val (.int (own_rol b (30 : Int32))), .val (.int c), .val (.int d), .val (.int (Int32.ofNat i)), .val (.int ((b &&& c) ||| ((b ^^^ (-1 : Int32)) &&& d))), .val (.int (1518500249 : Int32)), .val (.int (((((own_rol a (5 : Int32)) + ((b &&& c) ||| ((b ^^^ (-1 : Int32)) &&& d))) + e) + (1518500249 : Int32)) + (ws.getD i 0)))]) d5_309 rfl (pc' := 311) rfl ?_
                      refine Run.iload d5_311 rfl (pc' := 313) rfl ?_
                      refine Run.istore (l' := #[.val (.ref aH), .val (.ref aM), .val (.int (Int32.ofNat o)), .val (.ref aW), .val (.int (((((own_rol a (5 : Int32)) + ((b &&& c) ||| ((b ^^^ (-1 : Int32)) &&& d))) + e) + (1518500249 : Int32)) + (ws.getD i 0))), .val (.int a), .val (.int (own_rol b (30 : Int32))), .val (.int c), .val (.int d), .val (.int (Int32.ofNat i)), .val (.int ((b &&& c) ||| ((b ^^^ (-1 : Int32)) &&& d))), .val (.int (1518500249 : Int32)), .val (.int (((((own_rol a (5 : Int32)) + ((b &&& c) ||| ((b ^^^ (-1 : Int32)) &&& d))) + e) + (1518500249 : Int32)) + (ws.getD i 0)))]) d5_313 rfl (pc' := 315) rfl ?_
                      refine Run.iinc (1 : Int32) #[.val (.ref aH), .val (.ref aM), .val (.int (Int32.ofNat o)), .val (.ref aW), .val (.int (((((own_rol a (5 : Int32)) + ((b &&& c) ||| ((b ^^^ (-1 : Int32)) &&& d))) + e) + (1518500249 : Int32)) + (ws.getD i 0))), .val (.int a), .val (.int (own_rol b (30 : Int32))), .val (.int c), .val (.int d), .val (.int ((Int32.ofNat i) + (1 : Int32))), .val (.int ((b &&& c) ||| ((b ^^^ (-1 : Int32)) &&& d))), .val (.int (1518500249 : Int32)), .val (.int (((((own_rol a (5 : Int32)) + ((b &&& c) ||| ((b ^^^ (-1 : Int32)) &&& d))) + e) + (1518500249 : Int32)) + (ws.getD i 0)))] d5_315 (by decide) rfl rfl (pc' := 318) rfl ?_
                      rw [own_inc i]
                      refine Run.goto d5_318 (by decide) (pc' := 161) (by decide) ?_
                      exact ih (i + 1) _ _ _ _ _ _ _ _ (by omega) ((own_r20 hb20).symm.trans hr) (Or.inr ⟨_, rfl, rfl⟩) (Or.inr ⟨_, rfl, rfl⟩) (Or.inr ⟨_, rfl, rfl⟩)
              exact lp3 80 0 x0 x1 x2 x3 x4 _ _ _ rfl (by rw [hW']) (Or.inl rfl) (Or.inl rfl) (Or.inl rfl)
            · -- pc 86 not taken: (Int32.ofNat i) < (80 : Int32)
              exact absurd ((own_ltk (k := 80) rfl (by omega)).mp hc86) (by omega)
          | succ t ih =>
            intro i h ws s5 hti hlo hl hW h_s5 AHi AMi AWi szi kpi
            have hi : i < 80 := by omega
            refine Run.iload d5_82 rfl (pc' := 84) rfl ?_
            refine Run.bipush (80 : Int32) d5_84 (by decide) (pc' := 86) rfl ?_
            refine Run.icmp_ge d5_86 (by decide) (pc' := 133) (by decide) (pa := 89) rfl (fun hc86 => ?_) (fun hc86 => ?_)
            · -- pc 86 taken: ¬ (Int32.ofNat i) < (80 : Int32)
              exact absurd ((own_ltk (k := 80) rfl (by omega)).mpr hi) hc86
            · -- pc 86 not taken: (Int32.ofNat i) < (80 : Int32)
              refine Run.aloadN d5_89 rfl rfl (pc' := 90) rfl ?_
              refine Run.iload d5_90 rfl (pc' := 92) rfl ?_
              refine Run.aloadN d5_92 rfl rfl (pc' := 93) rfl ?_
              refine Run.iload d5_93 rfl (pc' := 95) rfl ?_
              refine Run.iconst (3 : Int32) d5_95 (by decide) (pc' := 96) rfl ?_
              refine Run.isub d5_96 (pc' := 97) rfl ?_
              refine Run.iaload (i := (i - 3)) (v := (.int (ws.getD (i - 3) 0))) d5_97 AWi (own_s (k := 3) rfl (by omega) (by omega)) (own_get (by omega)) (pc' := 98) rfl ?_
              refine Run.aloadN d5_98 rfl rfl (pc' := 99) rfl ?_
              refine Run.iload d5_99 rfl (pc' := 101) rfl ?_
              refine Run.bipush (8 : Int32) d5_101 (by decide) (pc' := 103) rfl ?_
              refine Run.isub d5_103 (pc' := 104) rfl ?_
              refine Run.iaload (i := (i - 8)) (v := (.int (ws.getD (i - 8) 0))) d5_104 AWi (own_s (k := 8) rfl (by omega) (by omega)) (own_get (by omega)) (pc' := 105) rfl ?_
              refine Run.ixor d5_105 (pc' := 106) rfl ?_
              refine Run.aloadN d5_106 rfl rfl (pc' := 107) rfl ?_
              refine Run.iload d5_107 rfl (pc' := 109) rfl ?_
              refine Run.bipush (14 : Int32) d5_109 (by decide) (pc' := 111) rfl ?_
              refine Run.isub d5_111 (pc' := 112) rfl ?_
              refine Run.iaload (i := (i - 14)) (v := (.int (ws.getD (i - 14) 0))) d5_112 AWi (own_s (k := 14) rfl (by omega) (by omega)) (own_get (by omega)) (pc' := 113) rfl ?_
              refine Run.ixor d5_113 (pc' := 114) rfl ?_
              refine Run.aloadN d5_114 rfl rfl (pc' := 115) rfl ?_
              refine Run.iload d5_115 rfl (pc' := 117) rfl ?_
              refine Run.bipush (16 : Int32) d5_117 (by decide) (pc' := 119) rfl ?_
              refine Run.isub d5_119 (pc' := 120) rfl ?_
              refine Run.iaload (i := (i - 16)) (v := (.int (ws.getD (i - 16) 0))) d5_120 AWi (own_s (k := 16) rfl (by omega) (by omega)) (own_get (by omega)) (pc' := 121) rfl ?_
              refine Run.ixor d5_121 (pc' := 122) rfl ?_
              refine Run.iconst (1 : Int32) d5_122 (by decide) (pc' := 123) rfl ?_
              refine Run.callS (k' := 0) (n' := 0) (as := [(.int ((((ws.getD (i - 3) 0) ^^^ (ws.getD (i - 8) 0)) ^^^ (ws.getD (i - 14) 0)) ^^^ (ws.getD (i - 16) 0))), (.int (1 : Int32))]) (rest := [(.int (Int32.ofNat i)), (.ref aW)]) (con_own_rol l Z a0 hw n0 h szi ((((ws.getD (i - 3) 0) ^^^ (ws.getD (i - 8) 0)) ^^^ (ws.getD (i - 14) 0)) ^^^ (ws.getD (i - 16) 0)) (1 : Int32) ) d5_123 (hw _ (List.mem_of_getElem? (i := 46) rfl)) (hw _ (List.mem_of_getElem? (i := 47) rfl)) (hw _ (List.mem_of_getElem? (i := 48) rfl)) (hw _ (List.mem_of_getElem? (i := 49) rfl)) (by decide) pd__II_I rfl rfl rfl (by decide) (by show (2 : Nat) + (2 + 11) + 0 ≤ _; decide) (by decide) (by decide) (by decide) (by decide) (pc' := 126) rfl ?_
              rintro _ _ ⟨_, rfl, rfl, rfl⟩
              show Run l Z n0 "com/example/callimachus/callimachus/Uuids" prog_37_method_8_code 13 none "hashBlock" ({ frames := 1, cells := 0, slots := 0, locals := 32 } : Room) _ 126 #[.val (.ref aH), .val (.ref aM), .val (.int (Int32.ofNat o)), .val (.ref aW), .val (.int (Int32.ofNat i)), s5, .unset, .unset, .unset, .unset, .unset, .unset, .unset] [(.int (own_rol ((((ws.getD (i - 3) 0) ^^^ (ws.getD (i - 8) 0)) ^^^ (ws.getD (i - 14) 0)) ^^^ (ws.getD (i - 16) 0)) (1 : Int32))), (.int (Int32.ofNat i)), (.ref aW)] h 0 0
              refine Run.iastore (i := i) d5_126 AWi (own_ofn (by omega)) (by simp [hl]; omega) gW (pc' := 127) rfl ?_
              intro h16 W16 A16
              have A_aH_16 := AHi.other W16 nHW
              have A_aM_16 := AMi.other W16 nMW
              have sz16 : n0 ≤ h16.size := by rw [W16.size]; exact szi
              have kp16 := Keep.wr kpi W16 (Or.inl (List.mem_of_getElem? (i := 1) rfl))
              have Aw16 := own_set A16
              refine Run.iinc (1 : Int32) #[.val (.ref aH), .val (.ref aM), .val (.int (Int32.ofNat o)), .val (.ref aW), .val (.int ((Int32.ofNat i) + (1 : Int32))), s5, .unset, .unset, .unset, .unset, .unset, .unset, .unset] d5_127 (by decide) rfl rfl (pc' := 130) rfl ?_
              rw [own_inc i]
              refine Run.goto d5_130 (by decide) (pc' := 82) (by decide) ?_
              exact ih (i + 1) h16 _ _ (by omega) (by omega) (by simp [hl]) (by rw [← hW]; rfl) (by assumption) A_aH_16 A_aM_16 Aw16 sz16 kp16
        exact lp2 64 16 h _ s5 rfl (Nat.le_refl _) hl (by rw [hW']) h_s5 AHi AMi AWi szi kpi
      · -- pc 7 not taken: (Int32.ofNat i) < (16 : Int32)
        exact absurd ((own_ltk (k := 16) rfl (by omega)).mp hc7) (by omega)
    | succ t ih =>
      intro i h ws s5 hti hl hW h_s5 AHi AMi AWi szi kpi
      have hi : i < 16 := by omega
      refine Run.iload d5_3 rfl (pc' := 5) rfl ?_
      refine Run.bipush (16 : Int32) d5_5 (by decide) (pc' := 7) rfl ?_
      refine Run.icmp_ge d5_7 (by decide) (pc' := 78) (by decide) (pa := 10) rfl (fun hc7 => ?_) (fun hc7 => ?_)
      · -- pc 7 taken: ¬ (Int32.ofNat i) < (16 : Int32)
        exact absurd ((own_ltk (k := 16) rfl (by omega)).mpr hi) hc7
      · -- pc 7 not taken: (Int32.ofNat i) < (16 : Int32)
        refine Run.iloadN d5_10 rfl (pc' := 11) rfl ?_
        refine Run.iconst (4 : Int32) d5_11 (by decide) (pc' := 12) rfl ?_
        refine Run.iload d5_12 rfl (pc' := 14) rfl ?_
        refine Run.imul d5_14 (pc' := 15) rfl ?_
        refine Run.iadd d5_15 (pc' := 16) rfl ?_
        refine Run.istore (l' := #[.val (.ref aH), .val (.ref aM), .val (.int (Int32.ofNat o)), .val (.ref aW), .val (.int (Int32.ofNat i)), .val (.int ((Int32.ofNat o) + ((4 : Int32) * (Int32.ofNat i)))), .unset, .unset, .unset, .unset, .unset, .unset, .unset]) d5_16 (XS.store1 rfl h_s5 rfl) (pc' := 18) rfl ?_
        have hp5 := own_p (o := o) (i := i) (by omega)
        generalize ((Int32.ofNat o) + ((4 : Int32) * (Int32.ofNat i))) = p5 at hp5 ⊢
        refine Run.aloadN d5_18 rfl rfl (pc' := 19) rfl ?_
        refine Run.iload d5_19 rfl (pc' := 21) rfl ?_
        refine Run.aloadN d5_21 rfl rfl (pc' := 22) rfl ?_
        refine Run.iload d5_22 rfl (pc' := 24) rfl ?_
        refine Run.baload (i := (o + 4 * i)) (v := (.int (mb.getD (o + 4 * i) 0))) d5_24 AMi hp5 (own_get (by omega)) (pc' := 25) rfl ?_
        refine Run.sipush (255 : Int32) d5_25 (by decide) (pc' := 28) rfl ?_
        refine Run.iand d5_28 (pc' := 29) rfl ?_
        refine Run.bipush (24 : Int32) d5_29 (by decide) (pc' := 31) rfl ?_
        refine Run.ishl d5_31 (pc' := 32) rfl ?_
        refine Run.aloadN d5_32 rfl rfl (pc' := 33) rfl ?_
        refine Run.iload d5_33 rfl (pc' := 35) rfl ?_
        refine Run.iconst (1 : Int32) d5_35 (by decide) (pc' := 36) rfl ?_
        refine Run.iadd d5_36 (pc' := 37) rfl ?_
        refine Run.baload (i := (o + 4 * i + 1)) (v := (.int (mb.getD (o + 4 * i + 1) 0))) d5_37 AMi (own_a hp5 (k := 1) rfl (by omega)) (own_get (by omega)) (pc' := 38) rfl ?_
        refine Run.sipush (255 : Int32) d5_38 (by decide) (pc' := 41) rfl ?_
        refine Run.iand d5_41 (pc' := 42) rfl ?_
        refine Run.bipush (16 : Int32) d5_42 (by decide) (pc' := 44) rfl ?_
        refine Run.ishl d5_44 (pc' := 45) rfl ?_
        refine Run.ior d5_45 (pc' := 46) rfl ?_
        refine Run.aloadN d5_46 rfl rfl (pc' := 47) rfl ?_
        refine Run.iload d5_47 rfl (pc' := 49) rfl ?_
        refine Run.iconst (2 : Int32) d5_49 (by decide) (pc' := 50) rfl ?_
        refine Run.iadd d5_50 (pc' := 51) rfl ?_
        refine Run.baload (i := (o + 4 * i + 2)) (v := (.int (mb.getD (o + 4 * i + 2) 0))) d5_51 AMi (own_a hp5 (k := 2) rfl (by omega)) (own_get (by omega)) (pc' := 52) rfl ?_
        refine Run.sipush (255 : Int32) d5_52 (by decide) (pc' := 55) rfl ?_
        refine Run.iand d5_55 (pc' := 56) rfl ?_
        refine Run.bipush (8 : Int32) d5_56 (by decide) (pc' := 58) rfl ?_
        refine Run.ishl d5_58 (pc' := 59) rfl ?_
        refine Run.ior d5_59 (pc' := 60) rfl ?_
        refine Run.aloadN d5_60 rfl rfl (pc' := 61) rfl ?_
        refine Run.iload d5_61 rfl (pc' := 63) rfl ?_
        refine Run.iconst (3 : Int32) d5_63 (by decide) (pc' := 64) rfl ?_
        refine Run.iadd d5_64 (pc' := 65) rfl ?_
        refine Run.baload (i := (o + 4 * i + 3)) (v := (.int (mb.getD (o + 4 * i + 3) 0))) d5_65 AMi (own_a hp5 (k := 3) rfl (by omega)) (own_get (by omega)) (pc' := 66) rfl ?_
        refine Run.sipush (255 : Int32) d5_66 (by decide) (pc' := 69) rfl ?_
        refine Run.iand d5_69 (pc' := 70) rfl ?_
        refine Run.ior d5_70 (pc' := 71) rfl ?_
        refine Run.iastore (i := i) d5_71 AWi (own_ofn (by omega)) (by simp [hl]; omega) gW (pc' := 72) rfl ?_
        intro h17 W17 A17
        have A_aH_17 := AHi.other W17 nHW
        have A_aM_17 := AMi.other W17 nMW
        have sz17 : n0 ≤ h17.size := by rw [W17.size]; exact szi
        have kp17 := Keep.wr kpi W17 (Or.inl (List.mem_of_getElem? (i := 1) rfl))
        have Aw17 := own_set A17
        refine Run.iinc (1 : Int32) #[.val (.ref aH), .val (.ref aM), .val (.int (Int32.ofNat o)), .val (.ref aW), .val (.int ((Int32.ofNat i) + (1 : Int32))), .val (.int p5), .unset, .unset, .unset, .unset, .unset, .unset, .unset] d5_72 (by decide) rfl rfl (pc' := 75) rfl ?_
        rw [own_inc i]
        refine Run.goto d5_75 (by decide) (pc' := 3) (by decide) ?_
        exact ih (i + 1) h17 _ _ (by omega) (by simp [hl]) (by rw [← hW]; rfl) (Or.inr ⟨_, rfl, rfl⟩) A_aH_17 A_aM_17 Aw17 sz17 kp17
  exact lp1 16 0 h0 ws0 .unset rfl hwl rfl (Or.inl rfl) AH AM AW Z0 (Keep.refl h0 [aH, aW])
def own_N (n : Nat) : Nat := ((n + 8) / 64 + 1) * 64
def own_pl (N : Nat) (q : Int64) : Nat → Nat → List Int32 → List Int32
  | 0, _, l => l
  | t + 1, i, l => own_pl N q t (i + 1) (l.set (N - i) (nar .byte (XT.ushrL q ((8 : Int32) * (Int32.ofNat i - (1 : Int32)))).toInt32))
def own_bits (ms : List Int32) : Int64 := (Int32.ofNat ms.length).toInt64 * (8 : Int64)
def own_p0 (ms : List Int32) : List Int32 := ms ++ List.replicate (own_N ms.length - ms.length) 0
def own_pad (ms : List Int32) : List Int32 := own_pl (own_N ms.length) (own_bits ms) 8 1 ((own_p0 ms).set ms.length (-128))
theorem own_nbb (x : Int32) : nar .byte (nar .byte x) = nar .byte x := by simp [nar]
theorem own_pll (N : Nat) (q : Int64) : ∀ t i l, (own_pl N q t i l).length = l.length
  | 0, _, _ => rfl
  | t + 1, i, l => by rw [own_pl, own_pll N q t]; simp
theorem own_Nb {n : Nat} (h : n ≤ 112) : n + 9 ≤ own_N n ∧ own_N n ≤ 128 := by unfold own_N; omega
theorem own_p0l {ms : List Int32} (h : ms.length ≤ 112) : (own_p0 ms).length = own_N ms.length := by have := own_Nb h; simp [own_p0]; omega
theorem own_nb {n : Nat} (h : n ≤ 112) : (((Int32.ofNat n + (8 : Int32)) / (64 : Int32)) + (1 : Int32)).toInt = (((n + 8) / 64 + 1 : Nat) : Int) := by
  have h1 := own_a (own_ofn (i := n) (by omega)) (k := 8) (kk := 8) rfl (by omega)
  have h2 := (c_idiv (Int32.ofNat n + 8) 64 64 rfl (by decide)).1 (by omega)
  rw [h1] at h2
  have h3 := c_iadd ((Int32.ofNat n + 8) / 64) 1; have h4 := rng32 (((Int32.ofNat n + 8) / 64) + 1); have h5 : (1 : Int32).toInt = 1 := rfl
  omega
theorem own_nN {n : Nat} {nb : Int32} (h : n ≤ 112) (hb : nb.toInt = (((n + 8) / 64 + 1 : Nat) : Int)) : (nb * (64 : Int32)).toInt = (own_N n : Int) := by
  have h1 := c_imul nb 64; have h2 := rng32 (nb * 64); have h5 : (64 : Int32).toInt = 64 := rfl
  unfold own_N
  rw [hb, h5] at h1
  omega
theorem own_nn {z : Int32} {m : Nat} (h : z.toInt = (m : Int)) : ¬ z < 0 ∧ z.toNatClampNeg = m := by
  constructor
  · rw [Int32.lt_iff_toInt_lt, h]; have h5 : (0 : Int32).toInt = 0 := rfl; omega
  · have : z.toNatClampNeg = z.toInt.toNat := rfl
    rw [this, h]; rfl
theorem own_ss {m i : Nat} (h : i ≤ m) (hm : m < 2 ^ 31) : (Int32.ofNat m - Int32.ofNat i).toInt = ((m - i : Nat) : Int) := own_s (own_ofn (by omega)) h hm
theorem own_fit {ms : List Int32} (h : ∀ c ∈ ms, fits .byte (.int c) = true) : ∀ v ∈ ms.map Value.int, fits .byte v = true := by
  intro v hv; obtain ⟨c, hc, rfl⟩ := List.mem_map.mp hv; exact h c hc
theorem own_fit0 (m : Nat) : ∀ v ∈ List.replicate m (Value.int (0 : Int32)), fits .byte v = true := by
  intro v hv; rw [List.eq_of_mem_replicate hv]; decide
theorem own_cp {Z : State} {h : Heap} {a : Addr} {ms : List Int32} {N : Nat} (A : Ary Z h a .byte (ms.map Value.int ++ (List.replicate N (Value.int (0 : Int32))).drop (ms.map Value.int).length)) : Ary Z h a .byte ((ms ++ List.replicate (N - ms.length) 0).map Value.int) := by
  simpa using A
theorem d4_0 : decode prog_37_method_7_code 0 = .ok (.aload_n 0, 1) := by decide +kernel
theorem d4_1 : decode prog_37_method_7_code 1 = .ok (.arraylength, 1) := by decide +kernel
theorem d4_2 : decode prog_37_method_7_code 2 = .ok (.bipush 8, 2) := by decide +kernel
theorem d4_4 : decode prog_37_method_7_code 4 = .ok (.iadd, 1) := by decide +kernel
theorem d4_5 : decode prog_37_method_7_code 5 = .ok (.bipush 64, 2) := by decide +kernel
theorem d4_7 : decode prog_37_method_7_code 7 = .ok (.idiv, 1) := by decide +kernel
theorem d4_8 : decode prog_37_method_7_code 8 = .ok (.iconst 1, 1) := by decide +kernel
theorem d4_9 : decode prog_37_method_7_code 9 = .ok (.iadd, 1) := by decide +kernel
theorem d4_10 : decode prog_37_method_7_code 10 = .ok (.istore_n 1, 1) := by decide +kernel
theorem d4_11 : decode prog_37_method_7_code 11 = .ok (.iload_n 1, 1) := by decide +kernel
theorem d4_12 : decode prog_37_method_7_code 12 = .ok (.bipush 64, 2) := by decide +kernel
theorem d4_14 : decode prog_37_method_7_code 14 = .ok (.imul, 1) := by decide +kernel
theorem d4_15 : decode prog_37_method_7_code 15 = .ok (.newarray .byte, 2) := by decide +kernel
theorem d4_17 : decode prog_37_method_7_code 17 = .ok (.astore_n 2, 1) := by decide +kernel
theorem d4_18 : decode prog_37_method_7_code 18 = .ok (.aload_n 0, 1) := by decide +kernel
theorem d4_19 : decode prog_37_method_7_code 19 = .ok (.iconst 0, 1) := by decide +kernel
theorem d4_20 : decode prog_37_method_7_code 20 = .ok (.aload_n 2, 1) := by decide +kernel
theorem d4_21 : decode prog_37_method_7_code 21 = .ok (.iconst 0, 1) := by decide +kernel
theorem d4_22 : decode prog_37_method_7_code 22 = .ok (.aload_n 0, 1) := by decide +kernel
theorem d4_23 : decode prog_37_method_7_code 23 = .ok (.arraylength, 1) := by decide +kernel
theorem d4_24 : decode prog_37_method_7_code 24 = .ok (.invokestatic 114, 3) := by decide +kernel
theorem d4_27 : decode prog_37_method_7_code 27 = .ok (.aload_n 2, 1) := by decide +kernel
theorem d4_28 : decode prog_37_method_7_code 28 = .ok (.aload_n 0, 1) := by decide +kernel
theorem d4_29 : decode prog_37_method_7_code 29 = .ok (.arraylength, 1) := by decide +kernel
theorem d4_30 : decode prog_37_method_7_code 30 = .ok (.bipush (-128), 2) := by decide +kernel
theorem d4_32 : decode prog_37_method_7_code 32 = .ok (.bastore, 1) := by decide +kernel
theorem d4_33 : decode prog_37_method_7_code 33 = .ok (.aload_n 0, 1) := by decide +kernel
theorem d4_34 : decode prog_37_method_7_code 34 = .ok (.arraylength, 1) := by decide +kernel
theorem d4_35 : decode prog_37_method_7_code 35 = .ok (.i2l, 1) := by decide +kernel
theorem d4_36 : decode prog_37_method_7_code 36 = .ok (.ldc2_w 122, 3) := by decide +kernel
theorem d4_39 : decode prog_37_method_7_code 39 = .ok (.lmul, 1) := by decide +kernel
theorem d4_40 : decode prog_37_method_7_code 40 = .ok (.lstore_n 3, 1) := by decide +kernel
theorem d4_41 : decode prog_37_method_7_code 41 = .ok (.iconst 1, 1) := by decide +kernel
theorem d4_42 : decode prog_37_method_7_code 42 = .ok (.istore 5, 2) := by decide +kernel
theorem d4_44 : decode prog_37_method_7_code 44 = .ok (.iload 5, 2) := by decide +kernel
theorem d4_46 : decode prog_37_method_7_code 46 = .ok (.bipush 8, 2) := by decide +kernel
theorem d4_48 : decode prog_37_method_7_code 48 = .ok (.if_icmp .gt 27, 3) := by decide +kernel
theorem d4_51 : decode prog_37_method_7_code 51 = .ok (.aload_n 2, 1) := by decide +kernel
theorem d4_52 : decode prog_37_method_7_code 52 = .ok (.aload_n 2, 1) := by decide +kernel
theorem d4_53 : decode prog_37_method_7_code 53 = .ok (.arraylength, 1) := by decide +kernel
theorem d4_54 : decode prog_37_method_7_code 54 = .ok (.iload 5, 2) := by decide +kernel
theorem d4_56 : decode prog_37_method_7_code 56 = .ok (.isub, 1) := by decide +kernel
theorem d4_57 : decode prog_37_method_7_code 57 = .ok (.lload_n 3, 1) := by decide +kernel
theorem d4_58 : decode prog_37_method_7_code 58 = .ok (.bipush 8, 2) := by decide +kernel
theorem d4_60 : decode prog_37_method_7_code 60 = .ok (.iload 5, 2) := by decide +kernel
theorem d4_62 : decode prog_37_method_7_code 62 = .ok (.iconst 1, 1) := by decide +kernel
theorem d4_63 : decode prog_37_method_7_code 63 = .ok (.isub, 1) := by decide +kernel
theorem d4_64 : decode prog_37_method_7_code 64 = .ok (.imul, 1) := by decide +kernel
theorem d4_65 : decode prog_37_method_7_code 65 = .ok (.lushr, 1) := by decide +kernel
theorem d4_66 : decode prog_37_method_7_code 66 = .ok (.l2i, 1) := by decide +kernel
theorem d4_67 : decode prog_37_method_7_code 67 = .ok (.i2b, 1) := by decide +kernel
theorem d4_68 : decode prog_37_method_7_code 68 = .ok (.bastore, 1) := by decide +kernel
theorem d4_69 : decode prog_37_method_7_code 69 = .ok (.iinc 5 1, 3) := by decide +kernel
theorem d4_72 : decode prog_37_method_7_code 72 = .ok (.goto (-28), 3) := by decide +kernel
theorem d4_75 : decode prog_37_method_7_code 75 = .ok (.aload_n 2, 1) := by decide +kernel
theorem d4_76 : decode prog_37_method_7_code 76 = .ok (.areturn, 1) := by decide +kernel
theorem pn_4 : plainFor (⟨"com/example/callimachus/callimachus/Uuids", "padded", "([B)[B"⟩ : MethodName) = true := plainFor_of_name (by first | (simp [plainName, overriddenIn]; done) | decide +kernel)
theorem ef_con_pad (m : MethodId) (a1 : Addr) (ms : List Int32)  : entryFrame m #[(.ref a1)] 6 = mkF m 0 #[.val (.ref a1), .unset, .unset, .unset, .unset, .unset] [] := by first | (simp [entryFrame, mkF, argsToLocals, Value.category]; done) | rfl
set_option maxRecDepth 65536 in
set_option maxHeartbeats 40000000 in
theorem con_pad (l : Launch) (Z : State) (a0 : Array Value) (hw : ∀ d ∈ tables_1, d.before a0 Z = true) (n0 : Nat) (h0 : Heap) (Z0 : n0 ≤ h0.size) (a1 : Addr) (ms : List Int32) (AM : Ary Z h0 a1 .byte (ms.map Value.int)) (hn : ms.length ≤ 112) (hfb : ∀ c ∈ ms, fits .byte (.int c) = true) :
    Con l Z n0 (⟨"com/example/callimachus/callimachus/Uuids", "padded", "([B)[B"⟩ : MethodName) prog_37_method_7_code 6 (some (.array .byte)) ({ frames := 1, cells := 1, slots := 128, locals := 60 } : Room) #[(.ref a1)] h0 (Val fun w h' => ∃ b, w = .ref b ∧ h0.size ≤ b ∧ Ext h0 h' ∧ Ary Z h' b .byte ((own_pad ms).map Value.int)) := by
  refine Con.of_run pn_4 (fun m => ef_con_pad m a1 ms ) ?_
  refine Run.aloadN d4_0 rfl rfl (pc' := 1) rfl ?_
  refine Run.alen (z := (Int32.ofNat ms.length)) d4_1 AM (by simp) (pc' := 2) rfl ?_
  refine Run.bipush (8 : Int32) d4_2 (by decide) (pc' := 4) rfl ?_
  refine Run.iadd d4_4 (pc' := 5) rfl ?_
  refine Run.bipush (64 : Int32) d4_5 (by decide) (pc' := 7) rfl ?_
  refine Run.idiv d4_7 (by decide) (pc' := 8) rfl ?_
  refine Run.iconst (1 : Int32) d4_8 (by decide) (pc' := 9) rfl ?_
  refine Run.iadd d4_9 (pc' := 10) rfl ?_
  refine Run.istoreN (l' := #[.val (.ref a1), .val (.int ((((Int32.ofNat ms.length) + (8 : Int32)) / (64 : Int32)) + (1 : Int32))), .unset, .unset, .unset, .unset]) d4_10 rfl (pc' := 11) rfl ?_
  have hnb := own_nb hn
  generalize ((((Int32.ofNat ms.length) + (8 : Int32)) / (64 : Int32)) + (1 : Int32)) = nb at hnb ⊢
  have hnN := own_nN hn hnb
  have hNb := own_Nb hn
  refine Run.iloadN d4_11 rfl (pc' := 12) rfl ?_
  refine Run.bipush (64 : Int32) d4_12 (by decide) (pc' := 14) rfl ?_
  refine Run.imul d4_14 (pc' := 15) rfl ?_
  refine Run.newP (ty := .byte) (m := (own_N ms.length)) (cap := 128) (dv := (.int (0 : Int32))) (k' := 1) (n' := 128) d4_15 rfl (hw _ (List.mem_of_getElem? (i := 5) rfl)) (own_nn hnN).1 (own_nn hnN).2 hNb.2 rfl (by decide) (by decide) (by decide) (by decide) (by decide) (pc' := 17) rfl ?_
  intro h11 b11 g11 E11 A11
  have ge_b11 : n0 ≤ b11 := by rw [g11]; exact Z0
  have bo_b11 : h0.size ≤ b11 := by rw [g11]; exact (Keep.refl h0 []).1
  have ne_a1_b11 : a1 ≠ b11 := by rw [g11]; exact Nat.ne_of_lt AM.lt
  have A_a1_11 := AM.ext E11
  have sz11 : n0 ≤ h11.size := Nat.le_trans Z0 E11.1
  have kp11 := Keep.ext (Keep.refl h0 []) E11
  refine Run.astoreN (l' := #[.val (.ref a1), .val (.int nb), .val (.ref b11), .unset, .unset, .unset]) d4_17 rfl rfl (pc' := 18) rfl ?_
  refine Run.aloadN d4_18 rfl rfl (pc' := 19) rfl ?_
  refine Run.iconst (0 : Int32) d4_19 (by decide) (pc' := 20) rfl ?_
  refine Run.aloadN d4_20 rfl rfl (pc' := 21) rfl ?_
  refine Run.iconst (0 : Int32) d4_21 (by decide) (pc' := 22) rfl ?_
  refine Run.aloadN d4_22 rfl rfl (pc' := 23) rfl ?_
  refine Run.alen (z := (Int32.ofNat ms.length)) d4_23 A_a1_11 (by simp) (pc' := 24) rfl ?_
  refine Run.acopy (z' := nb * (64 : Int32)) d4_24 (hw _ (List.mem_of_getElem? (i := 27) rfl)) (hw _ (List.mem_of_getElem? (i := 30) rfl)) (hw _ (List.mem_of_getElem? (i := 28) rfl)) (hw _ (List.mem_of_getElem? (i := 29) rfl)) A_a1_11 A11 rfl (by rw [List.length_map]; exact own_ofn (by omega)) (by rw [List.length_replicate]; exact hnN) (by simp; omega) (own_fit hfb) (own_fit0 _) ge_b11 rfl (by decide) (by decide) (pc' := 27) rfl ?_
  intro h12 K12 P12
  have Q12 := own_cp P12
  have A_a1_12 := A_a1_11.keep K12 (ninS ne_a1_b11 nin0)
  have sz12 : n0 ≤ h12.size := Nat.le_trans sz11 K12.1
  have kp12 := Keep.trans kp11 K12 (allS (Or.inr bo_b11) all0)
  refine Run.aloadN d4_27 rfl rfl (pc' := 28) rfl ?_
  refine Run.aloadN d4_28 rfl rfl (pc' := 29) rfl ?_
  refine Run.alen (z := (Int32.ofNat ms.length)) d4_29 A_a1_12 (by simp) (pc' := 30) rfl ?_
  refine Run.bipush (-128 : Int32) d4_30 (by decide) (pc' := 32) rfl ?_
  refine Run.bastore (i := ms.length) d4_32 Q12 (own_ofn (by omega)) (by simp; omega) ge_b11 (pc' := 33) rfl ?_
  intro h13 W13 A13
  have A_a1_13 := A_a1_12.other W13 ne_a1_b11
  have sz13 : n0 ≤ h13.size := by rw [W13.size]; exact sz12
  have kp13 := Keep.wr kp12 W13 (Or.inr bo_b11)
  have Aw13 : Ary Z h13 b11 .byte (((own_p0 ms).set ms.length (-128)).map Value.int) := own_set A13
  refine Run.aloadN d4_33 rfl rfl (pc' := 34) rfl ?_
  refine Run.alen (z := (Int32.ofNat ms.length)) d4_34 A_a1_13 (by simp) (pc' := 35) rfl ?_
  refine Run.i2l d4_35 (pc' := 36) rfl ?_
  refine Run.ldc2J (v := (8 : Int64)) d4_36 (hw _ (List.mem_of_getElem? (i := 31) rfl)) (pc' := 39) rfl ?_
  refine Run.lmul d4_39 (pc' := 40) rfl ?_
  refine Run.lstoreN (l' := #[.val (.ref a1), .val (.int nb), .val (.ref b11), .val (.long ((Int32.ofNat ms.length).toInt64 * (8 : Int64))), .second, .unset]) d4_40 rfl (pc' := 41) rfl ?_
  refine Run.iconst (1 : Int32) d4_41 (by decide) (pc' := 42) rfl ?_
  refine Run.istore (l' := #[.val (.ref a1), .val (.int nb), .val (.ref b11), .val (.long ((Int32.ofNat ms.length).toInt64 * (8 : Int64))), .second, .val (.int (1 : Int32))]) d4_42 rfl (pc' := 44) rfl ?_
  have lpp : ∀ (t : Nat) (i : Nat) (h : Heap) (l' : List Int32), t + i = 9 → l'.length = own_N ms.length → own_pl (own_N ms.length) (own_bits ms) t i l' = own_pad ms → 1 ≤ i → Ary Z h b11 .byte (l'.map Value.int) → n0 ≤ h.size → Keep h0 h [] → Run l Z n0 "com/example/callimachus/callimachus/Uuids" prog_37_method_7_code 6 (some (.array .byte)) "padded" ({ frames := 1, cells := 1, slots := 128, locals := 60 } : Room) (Val fun w h' => ∃ b, w = .ref b ∧ h0.size ≤ b ∧ Ext h0 h' ∧ Ary Z h' b .byte ((own_pad ms).map Value.int)) 44 #[.val (.ref a1), .val (.int nb), .val (.ref b11), .val (.long (own_bits ms)), .second, .val (.int (Int32.ofNat i))] [] h 1 128 := by
    intro t
    induction t with
    | zero =>
      intro i h l' hti hl hP h1i ABi szi kpi
      have hi : i = 9 := by omega
      have hP' : l' = own_pad ms := hP
      refine Run.iload d4_44 rfl (pc' := 46) rfl ?_
      refine Run.bipush (8 : Int32) d4_46 (by decide) (pc' := 48) rfl ?_
      refine Run.icmp_gt d4_48 (by decide) (pc' := 75) (by decide) (pa := 51) rfl (fun hc48 => ?_) (fun hc48 => ?_)
      · -- pc 48 taken: (8 : Int32) < (Int32.ofNat i)
        refine Run.aloadN d4_75 rfl rfl (pc' := 76) rfl ?_
        exact Run.areturn d4_76 (ty := (.array .byte)) rfl rfl rfl (by decide) (by decide) ⟨_, rfl, b11, rfl, bo_b11, Keep.toExt kpi, (by rw [← hP']; exact ABi)⟩
      · -- pc 48 not taken: ¬ (8 : Int32) < (Int32.ofNat i)
        exact absurd ((own_klt (k := 8) rfl (by omega)).mpr (by omega)) hc48
    | succ t ih =>
      intro i h l' hti hl hP h1i ABi szi kpi
      have hi : i < 9 := by omega
      refine Run.iload d4_44 rfl (pc' := 46) rfl ?_
      refine Run.bipush (8 : Int32) d4_46 (by decide) (pc' := 48) rfl ?_
      refine Run.icmp_gt d4_48 (by decide) (pc' := 75) (by decide) (pa := 51) rfl (fun hc48 => ?_) (fun hc48 => ?_)
      · -- pc 48 taken: (8 : Int32) < (Int32.ofNat i)
        exact absurd ((own_klt (k := 8) rfl (by omega)).mp hc48) (by omega)
      · -- pc 48 not taken: ¬ (8 : Int32) < (Int32.ofNat i)
        refine Run.aloadN d4_51 rfl rfl (pc' := 52) rfl ?_
        refine Run.aloadN d4_52 rfl rfl (pc' := 53) rfl ?_
        refine Run.alen (z := (Int32.ofNat (own_N ms.length))) d4_53 ABi (by rw [List.length_map, hl]) (pc' := 54) rfl ?_
        refine Run.iload d4_54 rfl (pc' := 56) rfl ?_
        refine Run.isub d4_56 (pc' := 57) rfl ?_
        refine Run.lloadN d4_57 rfl (pc' := 58) rfl ?_
        refine Run.bipush (8 : Int32) d4_58 (by decide) (pc' := 60) rfl ?_
        refine Run.iload d4_60 rfl (pc' := 62) rfl ?_
        refine Run.iconst (1 : Int32) d4_62 (by decide) (pc' := 63) rfl ?_
        refine Run.isub d4_63 (pc' := 64) rfl ?_
        refine Run.imul d4_64 (pc' := 65) rfl ?_
        refine Run.lushr d4_65 (pc' := 66) rfl ?_
        refine Run.l2i d4_66 (pc' := 67) rfl ?_
        refine Run.i2b d4_67 (pc' := 68) rfl ?_
        refine Run.bastore (i := (own_N ms.length - i)) d4_68 ABi (own_ss (by omega) (by omega)) (by rw [List.length_map, hl]; omega) ge_b11 (pc' := 69) rfl ?_
        intro h14 W14 A14
        have sz14 : n0 ≤ h14.size := by rw [W14.size]; exact szi
        have kp14 := Keep.wr kpi W14 (Or.inr bo_b11)
        rw [own_nbb] at A14
        have Aw14 := own_set A14
        refine Run.iinc (1 : Int32) #[.val (.ref a1), .val (.int nb), .val (.ref b11), .val (.long (own_bits ms)), .second, .val (.int ((Int32.ofNat i) + (1 : Int32)))] d4_69 (by decide) rfl rfl (pc' := 72) rfl ?_
        rw [own_inc i]
        refine Run.goto d4_72 (by decide) (pc' := 44) (by decide) ?_
        exact ih (i + 1) h14 _ (by omega) (by simp [hl]) (by rw [← hP]; rfl) (by omega) Aw14 sz14 kp14
  exact lpp 8 1 h13 _ rfl (by rw [List.length_set, own_p0l hn]) rfl (Nat.le_refl _) Aw13 sz13 kp13
def own_sb (mb : List Int32) : Nat → Nat → Int32 → Int32 → Int32 → Int32 → Int32 → List Int32 → List Int32
  | 0, _, x0, x1, x2, x3, x4, _ => [x0, x1, x2, x3, x4]
  | t + 1, o, x0, x1, x2, x3, x4, ws => match own_l3 (own_l2 64 16 (own_l1 mb o 16 0 ws)) 80 0 x0 x1 x2 x3 x4 with
    | [a, b, c, d, e] => own_sb mb t (o + 64) (x0 + a) (x1 + b) (x2 + c) (x3 + d) (x4 + e) (own_l2 64 16 (own_l1 mb o 16 0 ws))
    | _ => []
def own_sha (ms : List Int32) : List Int32 := own_sb (own_pad ms) (own_N ms.length / 64) 0 1732584193 (-271733879) (-1732584194) 271733878 (-1009589776) (List.replicate 80 0)
theorem own_sbs {mb ws R : List Int32} {t o : Nat} {x0 x1 x2 x3 x4 a b c d e : Int32} (h : own_sb mb (t + 1) o x0 x1 x2 x3 x4 ws = R) (hr : own_l3 (own_l2 64 16 (own_l1 mb o 16 0 ws)) 80 0 x0 x1 x2 x3 x4 = [a, b, c, d, e]) : own_sb mb t (o + 64) (x0 + a) (x1 + b) (x2 + c) (x3 + d) (x4 + e) (own_l2 64 16 (own_l1 mb o 16 0 ws)) = R := by
  rw [own_sb, hr] at h; exact h
theorem own_padl {ms : List Int32} (h : ms.length ≤ 112) : (own_pad ms).length = own_N ms.length := by rw [own_pad, own_pll, List.length_set, own_p0l h]
theorem own_inc64 (i : Nat) : Int32.ofNat i + (64 : Int32) = Int32.ofNat (i + 64) := by
  apply Int32.toBitVec_inj.mp
  rw [Int32.toBitVec_add]
  apply BitVec.eq_of_toNat_eq
  simp [Int32.toBitVec_ofNat']
theorem own_lt2 {o m : Nat} (ho : o ≤ 128) (hm : m ≤ 128) : Int32.ofNat o < Int32.ofNat m ↔ o < m := own_lt (by omega) (by omega)
theorem d3_0 : decode prog_37_method_6_code 0 = .ok (.aload_n 0, 1) := by decide +kernel
theorem d3_1 : decode prog_37_method_6_code 1 = .ok (.invokestatic 97, 3) := by decide +kernel
theorem d3_4 : decode prog_37_method_6_code 4 = .ok (.astore_n 1, 1) := by decide +kernel
theorem d3_5 : decode prog_37_method_6_code 5 = .ok (.getstatic 101, 3) := by decide +kernel
theorem d3_8 : decode prog_37_method_6_code 8 = .ok (.invokevirtual 105, 3) := by decide +kernel
theorem d3_11 : decode prog_37_method_6_code 11 = .ok (.checkcast 106, 3) := by decide +kernel
theorem d3_14 : decode prog_37_method_6_code 14 = .ok (.astore_n 2, 1) := by decide +kernel
theorem d3_15 : decode prog_37_method_6_code 15 = .ok (.bipush 80, 2) := by decide +kernel
theorem d3_17 : decode prog_37_method_6_code 17 = .ok (.newarray .int, 2) := by decide +kernel
theorem d3_19 : decode prog_37_method_6_code 19 = .ok (.astore_n 3, 1) := by decide +kernel
theorem d3_20 : decode prog_37_method_6_code 20 = .ok (.iconst 0, 1) := by decide +kernel
theorem d3_21 : decode prog_37_method_6_code 21 = .ok (.istore 4, 2) := by decide +kernel
theorem d3_23 : decode prog_37_method_6_code 23 = .ok (.iload 4, 2) := by decide +kernel
theorem d3_25 : decode prog_37_method_6_code 25 = .ok (.aload_n 1, 1) := by decide +kernel
theorem d3_26 : decode prog_37_method_6_code 26 = .ok (.arraylength, 1) := by decide +kernel
theorem d3_27 : decode prog_37_method_6_code 27 = .ok (.if_icmp .ge 17, 3) := by decide +kernel
theorem d3_30 : decode prog_37_method_6_code 30 = .ok (.aload_n 2, 1) := by decide +kernel
theorem d3_31 : decode prog_37_method_6_code 31 = .ok (.aload_n 1, 1) := by decide +kernel
theorem d3_32 : decode prog_37_method_6_code 32 = .ok (.iload 4, 2) := by decide +kernel
theorem d3_34 : decode prog_37_method_6_code 34 = .ok (.aload_n 3, 1) := by decide +kernel
theorem d3_35 : decode prog_37_method_6_code 35 = .ok (.invokestatic 110, 3) := by decide +kernel
theorem d3_38 : decode prog_37_method_6_code 38 = .ok (.iinc 4 64, 3) := by decide +kernel
theorem d3_41 : decode prog_37_method_6_code 41 = .ok (.goto (-18), 3) := by decide +kernel
theorem d3_44 : decode prog_37_method_6_code 44 = .ok (.aload_n 2, 1) := by decide +kernel
theorem d3_45 : decode prog_37_method_6_code 45 = .ok (.areturn, 1) := by decide +kernel
theorem pn_3 : plainFor (⟨"com/example/callimachus/callimachus/Uuids", "sha1", "([B)[I"⟩ : MethodName) = true := plainFor_of_name (by first | (simp [plainName, overriddenIn]; done) | decide +kernel)
theorem pd___B__B : parseMethodDescriptor "([B)[B" = some ⟨[(.array .byte)], some (.array .byte)⟩ := by decide +kernel
theorem pd___I_BI_I_V : parseMethodDescriptor "([I[BI[I)V" = some ⟨[(.array .int), (.array .byte), .int, (.array .int)], none⟩ := by decide +kernel
theorem ef_con_sha (m : MethodId) (a1 : Addr) (ms : List Int32) (ai : Addr) (cI : Cell)  : entryFrame m #[(.ref a1)] 5 = mkF m 0 #[.val (.ref a1), .unset, .unset, .unset, .unset] [] := by first | (simp [entryFrame, mkF, argsToLocals, Value.category]; done) | rfl
set_option maxRecDepth 65536 in
set_option maxHeartbeats 40000000 in
theorem con_sha (l : Launch) (Z : State) (a0 : Array Value) (hw : ∀ d ∈ tables_1, d.before a0 Z = true) (n0 : Nat) (h0 : Heap) (Z0 : n0 ≤ h0.size) (a1 : Addr) (ms : List Int32) (ai : Addr) (cI : Cell) (AM : Ary Z h0 a1 .byte (ms.map Value.int)) (hn : ms.length ≤ 112) (hfb : ∀ c ∈ ms, fits .byte (.int c) = true) (od0 : Old Z n0 h0) (SI : Sta Z Z.heap "com/example/callimachus/callimachus/Uuids" "SHA1_INITIAL" "[I" (.ref ai)) (AI : Jvm.RoadKit.Arr Z Z.heap ai cI .int) (EI : Exa Z Z.heap ai "[I") (FI : FitC Z cI) (hI : cI.slots.toList = [.int (1732584193 : Int32), .int ((-271733879) : Int32), .int ((-1732584194) : Int32), .int (271733878 : Int32), .int ((-1009589776) : Int32)]) :
    Con l Z n0 (⟨"com/example/callimachus/callimachus/Uuids", "sha1", "([B)[I"⟩ : MethodName) prog_37_method_6_code 5 (some (.array .int)) ({ frames := 2, cells := 3, slots := 213, locals := 77 } : Room) #[(.ref a1)] h0 (Val fun w h' => ∃ b, w = .ref b ∧ h0.size ≤ b ∧ Ext h0 h' ∧ Ary Z h' b .int ((own_sha ms).map Value.int)) := by
  refine Con.of_run pn_3 (fun m => ef_con_sha m a1 ms ai cI ) ?_
  have hNb := own_Nb hn
  refine Run.aloadN d3_0 rfl rfl (pc' := 1) rfl ?_
  refine Run.callS (k' := 1) (n' := 128) (as := [(.ref a1)]) (rest := []) (con_pad l Z a0 hw n0 h0 Z0 a1 ms AM hn hfb) d3_1 (hw _ (List.mem_of_getElem? (i := 24) rfl)) (hw _ (List.mem_of_getElem? (i := 25) rfl)) (hw _ (List.mem_of_getElem? (i := 22) rfl)) (hw _ (List.mem_of_getElem? (i := 26) rfl)) (by decide) pd___B__B rfl rfl rfl (by decide) (by show (0 : Nat) + (6 + 11) + 60 ≤ _; decide) (by decide) (by decide) (by decide) (by decide) (pc' := 4) rfl ?_
  rintro _ h11 ⟨_, rfl, b11, rfl, bw11, E11, P11⟩
  show Run l Z n0 "com/example/callimachus/callimachus/Uuids" prog_37_method_6_code 5 (some (.array .int)) "sha1" ({ frames := 2, cells := 3, slots := 213, locals := 77 } : Room) _ 4 #[.val (.ref a1), .unset, .unset, .unset, .unset] [(.ref b11)] h11 1 128
  have ge_b11 : n0 ≤ b11 := Nat.le_trans Z0 bw11
  have bo_b11 : h0.size ≤ b11 := Nat.le_trans (Keep.refl h0 []).1 bw11
  have ne_a1_b11 : a1 ≠ b11 := Nat.ne_of_lt (Nat.lt_of_lt_of_le AM.lt bw11)
  have ne_ai_b11 : ai ≠ b11 := Nat.ne_of_lt (Nat.lt_of_lt_of_le (od0.1 ▸ EI.lt) ge_b11)
  have A_a1_11 := AM.ext E11
  have sz11 : n0 ≤ h11.size := Nat.le_trans Z0 E11.1
  have kp11 := Keep.ext (Keep.refl h0 []) E11
  have od11 := od0.ext E11
  refine Run.astoreN (l' := #[.val (.ref a1), .val (.ref b11), .unset, .unset, .unset]) d3_4 rfl rfl (pc' := 5) rfl ?_
  refine Run.getS d3_5 (host := "") (Or.inl (hw _ (List.mem_of_getElem? (i := 32) rfl))) Via.refl (SI.ext od11.2) (pc' := 8) rfl ?_
  refine Run.aclone (cap := 5) (k' := 2) (n' := 133) d3_8 (hw _ (List.mem_of_getElem? (i := 34) rfl)) (hw _ (List.mem_of_getElem? (i := 35) rfl)) (hw _ (List.mem_of_getElem? (i := 39) rfl)) (hw _ (List.mem_of_getElem? (i := 37) rfl)) (hw _ (List.mem_of_getElem? (i := 38) rfl)) (hw _ (List.mem_of_getElem? (i := 40) rfl)) (AI.ext od11.2) (EI.ext od11.2) FI rfl (by decide) (by show (0 : Nat) + 14 ≤ _; decide) (by have q := congrArg List.length hI; simp at q; omega) (by decide) (by decide) (by decide) (by decide) (pc' := 11) rfl ?_
  intro h12 b12 g12 E12 A12 X12
  rw [hI] at A12
  have ge_b12 : n0 ≤ b12 := by rw [g12]; exact sz11
  have bo_b12 : h0.size ≤ b12 := by rw [g12]; exact kp11.1
  have ne_a1_b12 : a1 ≠ b12 := by rw [g12]; exact Nat.ne_of_lt A_a1_11.lt
  have ne_b11_b12 : b11 ≠ b12 := by rw [g12]; exact Nat.ne_of_lt P11.lt
  have ne_ai_b12 : ai ≠ b12 := Nat.ne_of_lt (Nat.lt_of_lt_of_le (od11.1 ▸ EI.lt) ge_b12)
  have A_a1_12 := A_a1_11.ext E12
  have A_b11_12 := P11.ext E12
  have sz12 : n0 ≤ h12.size := Nat.le_trans sz11 E12.1
  have kp12 := Keep.ext kp11 E12
  have od12 := od11.ext E12
  refine Run.castY d3_11 (hw _ (List.mem_of_getElem? (i := 41) rfl)) (Ins.self X12) (pc' := 14) rfl ?_
  refine Run.astoreN (l' := #[.val (.ref a1), .val (.ref b11), .val (.ref b12), .unset, .unset]) d3_14 rfl rfl (pc' := 15) rfl ?_
  refine Run.bipush (80 : Int32) d3_15 (by decide) (pc' := 17) rfl ?_
  refine Run.newP (ty := .int) (m := 80) (cap := 80) (dv := (.int (0 : Int32))) (k' := 3) (n' := 213) d3_17 rfl (hw _ (List.mem_of_getElem? (i := 9) rfl)) (by decide) (by decide) (Nat.le_refl _) rfl (by decide) (by decide) (by decide) (by decide) (by decide) (pc' := 19) rfl ?_
  intro h13 b13 g13 E13 A13
  have ge_b13 : n0 ≤ b13 := by rw [g13]; exact sz12
  have bo_b13 : h0.size ≤ b13 := by rw [g13]; exact kp12.1
  have ne_a1_b13 : a1 ≠ b13 := by rw [g13]; exact Nat.ne_of_lt A_a1_12.lt
  have ne_b11_b13 : b11 ≠ b13 := by rw [g13]; exact Nat.ne_of_lt A_b11_12.lt
  have ne_b12_b13 : b12 ≠ b13 := by rw [g13]; exact Nat.ne_of_lt A12.lt
  have ne_ai_b13 : ai ≠ b13 := Nat.ne_of_lt (Nat.lt_of_lt_of_le (od12.1 ▸ EI.lt) ge_b13)
  have A_a1_13 := A_a1_12.ext E13
  have A_b11_13 := A_b11_12.ext E13
  have A_b12_13 := A12.ext E13
  have E_b12_13 := X12.ext E13
  have sz13 : n0 ≤ h13.size := Nat.le_trans sz12 E13.1
  have kp13 := Keep.ext kp12 E13
  have od13 := od12.ext E13
  replace A13 : Ary Z h13 b13 .int ((List.replicate 80 (0 : Int32)).map Value.int) := A13
  refine Run.astoreN (l' := #[.val (.ref a1), .val (.ref b11), .val (.ref b12), .val (.ref b13), .unset]) d3_19 rfl rfl (pc' := 20) rfl ?_
  refine Run.iconst (0 : Int32) d3_20 (by decide) (pc' := 21) rfl ?_
  refine Run.istore (l' := #[.val (.ref a1), .val (.ref b11), .val (.ref b12), .val (.ref b13), .val (.int (0 : Int32))]) d3_21 rfl (pc' := 23) rfl ?_
  have lps : ∀ (t : Nat) (o : Nat) (h : Heap) (x0 x1 x2 x3 x4 : Int32) (ws : List Int32), 64 * t + o = own_N ms.length → ws.length = 80 → own_sb (own_pad ms) t o x0 x1 x2 x3 x4 ws = own_sha ms → Ary Z h b11 .byte ((own_pad ms).map Value.int) → Ary Z h b12 .int [.int x0, .int x1, .int x2, .int x3, .int x4] → Ary Z h b13 .int (ws.map Value.int) → n0 ≤ h.size → Keep h0 h [] → Run l Z n0 "com/example/callimachus/callimachus/Uuids" prog_37_method_6_code 5 (some (.array .int)) "sha1" ({ frames := 2, cells := 3, slots := 213, locals := 77 } : Room) (Val fun w h' => ∃ b, w = .ref b ∧ h0.size ≤ b ∧ Ext h0 h' ∧ Ary Z h' b .int ((own_sha ms).map Value.int)) 23 #[.val (.ref a1), .val (.ref b11), .val (.ref b12), .val (.ref b13), .val (.int (Int32.ofNat o))] [] h 3 213 := by
    intro t
    induction t with
    | zero =>
      intro o h x0 x1 x2 x3 x4 ws hto hl hS APi AHi AWi szi kpi
      have hi : o = own_N ms.length := by omega
      have hS' : [x0, x1, x2, x3, x4] = own_sha ms := hS
      refine Run.iload d3_23 rfl (pc' := 25) rfl ?_
      refine Run.aloadN d3_25 rfl rfl (pc' := 26) rfl ?_
      refine Run.alen (z := (Int32.ofNat (own_N ms.length))) d3_26 APi (by rw [List.length_map, own_padl hn]) (pc' := 27) rfl ?_
      refine Run.icmp_ge d3_27 (by decide) (pc' := 44) (by decide) (pa := 30) rfl (fun hc27 => ?_) (fun hc27 => ?_)
      · -- pc 27 taken: ¬ (Int32.ofNat o) < (Int32.ofNat (own_N ms.length))
        refine Run.aloadN d3_44 rfl rfl (pc' := 45) rfl ?_
        exact Run.areturn d3_45 (ty := (.array .int)) rfl rfl rfl (by decide) (by decide) ⟨_, rfl, b12, rfl, bo_b12, Keep.toExt kpi, (by rw [← hS']; exact AHi)⟩
      · -- pc 27 not taken: (Int32.ofNat o) < (Int32.ofNat (own_N ms.length))
        exact absurd ((own_lt2 (by omega) hNb.2).mp hc27) (by omega)
    | succ t ih =>
      intro o h x0 x1 x2 x3 x4 ws hto hl hS APi AHi AWi szi kpi
      have hi : o + 64 ≤ own_N ms.length := by omega
      refine Run.iload d3_23 rfl (pc' := 25) rfl ?_
      refine Run.aloadN d3_25 rfl rfl (pc' := 26) rfl ?_
      refine Run.alen (z := (Int32.ofNat (own_N ms.length))) d3_26 APi (by rw [List.length_map, own_padl hn]) (pc' := 27) rfl ?_
      refine Run.icmp_ge d3_27 (by decide) (pc' := 44) (by decide) (pa := 30) rfl (fun hc27 => ?_) (fun hc27 => ?_)
      · -- pc 27 taken: ¬ (Int32.ofNat o) < (Int32.ofNat (own_N ms.length))
        exact absurd ((own_lt2 (by omega) hNb.2).mpr (by omega)) hc27
      · -- pc 27 not taken: (Int32.ofNat o) < (Int32.ofNat (own_N ms.length))
        refine Run.aloadN d3_30 rfl rfl (pc' := 31) rfl ?_
        refine Run.aloadN d3_31 rfl rfl (pc' := 32) rfl ?_
        refine Run.iload d3_32 rfl (pc' := 34) rfl ?_
        refine Run.aloadN d3_34 rfl rfl (pc' := 35) rfl ?_
        refine Run.callS (k' := 3) (n' := 213) (as := [(.ref b12), (.ref b11), (.int (Int32.ofNat o)), (.ref b13)]) (rest := []) (con_hb l Z a0 hw n0 h szi b12 b11 b13 (own_pad ms) o ws x0 x1 x2 x3 x4 AHi APi AWi (Ne.symm ne_b11_b12) ne_b12_b13 ne_b11_b13 ge_b12 ge_b13 hl (by rw [own_padl hn]; exact hi) (by rw [own_padl hn]; omega)) d3_35 (hw _ (List.mem_of_getElem? (i := 43) rfl)) (hw _ (List.mem_of_getElem? (i := 44) rfl)) (hw _ (List.mem_of_getElem? (i := 22) rfl)) (hw _ (List.mem_of_getElem? (i := 45) rfl)) (by decide) pd___I_BI_I_V rfl rfl rfl (by decide) (by show (0 : Nat) + (13 + 11) + 32 ≤ _; decide) (by decide) (by decide) (by decide) (by decide) (pc' := 38) rfl ?_
        rintro _ h14 ⟨rfl, ⟨K14, PW14, a14, b14, c14, d14, e14, hr14, PH14⟩⟩
        show Run l Z n0 "com/example/callimachus/callimachus/Uuids" prog_37_method_6_code 5 (some (.array .int)) "sha1" ({ frames := 2, cells := 3, slots := 213, locals := 77 } : Room) _ 38 #[.val (.ref a1), .val (.ref b11), .val (.ref b12), .val (.ref b13), .val (.int (Int32.ofNat o))] [] h14 3 213
        have A_b11_14 := APi.keep K14 (ninS ne_b11_b12 (ninS ne_b11_b13 nin0))
        have sz14 : n0 ≤ h14.size := Nat.le_trans szi K14.1
        have kp14 := Keep.trans kpi K14 (allS (Or.inr bo_b12) (allS (Or.inr bo_b13) all0))
        refine Run.iinc (64 : Int32) #[.val (.ref a1), .val (.ref b11), .val (.ref b12), .val (.ref b13), .val (.int ((Int32.ofNat o) + (64 : Int32)))] d3_38 (by decide) rfl rfl (pc' := 41) rfl ?_
        rw [own_inc64 o]
        refine Run.goto d3_41 (by decide) (pc' := 23) (by decide) ?_
        exact ih (o + 64) h14 _ _ _ _ _ _ (by omega) (by rw [own_l2len, own_l1len]; exact hl) (own_sbs hS hr14) A_b11_14 PH14 PW14 sz14 kp14
  exact lps (own_N ms.length / 64) 0 h13 _ _ _ _ _ _ (by unfold own_N; omega) (by simp) rfl A_b11_13 A_b12_13 A13 sz13 kp13
theorem d7_0 : decode method_3_code 0 = .ok (.aload_n 0, 1) := by decide +kernel
theorem d7_1 : decode method_3_code 1 = .ok (.ifnull 9, 3) := by decide +kernel
theorem d7_4 : decode method_3_code 4 = .ok (.aload_n 0, 1) := by decide +kernel
theorem d7_5 : decode method_3_code 5 = .ok (.arraylength, 1) := by decide +kernel
theorem d7_6 : decode method_3_code 6 = .ok (.iconst 5, 1) := by decide +kernel
theorem d7_7 : decode method_3_code 7 = .ok (.if_icmp .eq 5, 3) := by decide +kernel
theorem d7_10 : decode method_3_code 10 = .ok (.iconst 0, 1) := by decide +kernel
theorem d7_11 : decode method_3_code 11 = .ok (.ireturn, 1) := by decide +kernel
theorem d7_12 : decode method_3_code 12 = .ok (.aload_n 0, 1) := by decide +kernel
theorem d7_13 : decode method_3_code 13 = .ok (.iconst 0, 1) := by decide +kernel
theorem d7_14 : decode method_3_code 14 = .ok (.iaload, 1) := by decide +kernel
theorem d7_15 : decode method_3_code 15 = .ok (.aload_n 1, 1) := by decide +kernel
theorem d7_16 : decode method_3_code 16 = .ok (.iconst 0, 1) := by decide +kernel
theorem d7_17 : decode method_3_code 17 = .ok (.iaload, 1) := by decide +kernel
theorem d7_18 : decode method_3_code 18 = .ok (.if_icmp .ne 43, 3) := by decide +kernel
theorem d7_21 : decode method_3_code 21 = .ok (.aload_n 0, 1) := by decide +kernel
theorem d7_22 : decode method_3_code 22 = .ok (.iconst 1, 1) := by decide +kernel
theorem d7_23 : decode method_3_code 23 = .ok (.iaload, 1) := by decide +kernel
theorem d7_24 : decode method_3_code 24 = .ok (.aload_n 1, 1) := by decide +kernel
theorem d7_25 : decode method_3_code 25 = .ok (.iconst 1, 1) := by decide +kernel
theorem d7_26 : decode method_3_code 26 = .ok (.iaload, 1) := by decide +kernel
theorem d7_27 : decode method_3_code 27 = .ok (.if_icmp .ne 34, 3) := by decide +kernel
theorem d7_30 : decode method_3_code 30 = .ok (.aload_n 0, 1) := by decide +kernel
theorem d7_31 : decode method_3_code 31 = .ok (.iconst 2, 1) := by decide +kernel
theorem d7_32 : decode method_3_code 32 = .ok (.iaload, 1) := by decide +kernel
theorem d7_33 : decode method_3_code 33 = .ok (.aload_n 1, 1) := by decide +kernel
theorem d7_34 : decode method_3_code 34 = .ok (.iconst 2, 1) := by decide +kernel
theorem d7_35 : decode method_3_code 35 = .ok (.iaload, 1) := by decide +kernel
theorem d7_36 : decode method_3_code 36 = .ok (.if_icmp .ne 25, 3) := by decide +kernel
theorem d7_39 : decode method_3_code 39 = .ok (.aload_n 0, 1) := by decide +kernel
theorem d7_40 : decode method_3_code 40 = .ok (.iconst 3, 1) := by decide +kernel
theorem d7_41 : decode method_3_code 41 = .ok (.iaload, 1) := by decide +kernel
theorem d7_42 : decode method_3_code 42 = .ok (.aload_n 1, 1) := by decide +kernel
theorem d7_43 : decode method_3_code 43 = .ok (.iconst 3, 1) := by decide +kernel
theorem d7_44 : decode method_3_code 44 = .ok (.iaload, 1) := by decide +kernel
theorem d7_45 : decode method_3_code 45 = .ok (.if_icmp .ne 16, 3) := by decide +kernel
theorem d7_48 : decode method_3_code 48 = .ok (.aload_n 0, 1) := by decide +kernel
theorem d7_49 : decode method_3_code 49 = .ok (.iconst 4, 1) := by decide +kernel
theorem d7_50 : decode method_3_code 50 = .ok (.iaload, 1) := by decide +kernel
theorem d7_51 : decode method_3_code 51 = .ok (.aload_n 1, 1) := by decide +kernel
theorem d7_52 : decode method_3_code 52 = .ok (.iconst 4, 1) := by decide +kernel
theorem d7_53 : decode method_3_code 53 = .ok (.iaload, 1) := by decide +kernel
theorem d7_54 : decode method_3_code 54 = .ok (.if_icmp .ne 7, 3) := by decide +kernel
theorem d7_57 : decode method_3_code 57 = .ok (.iconst 1, 1) := by decide +kernel
theorem d7_58 : decode method_3_code 58 = .ok (.goto 4, 3) := by decide +kernel
theorem d7_61 : decode method_3_code 61 = .ok (.iconst 0, 1) := by decide +kernel
theorem d7_62 : decode method_3_code 62 = .ok (.ireturn, 1) := by decide +kernel
theorem pn_7 : plainFor (⟨"com/example/callimachus/callimachus/UuidsSha1PinLaw", "matches", "([I[I)Z"⟩ : MethodName) = true := plainFor_of_name (by first | (simp [plainName, overriddenIn]; done) | decide +kernel)
theorem ef_con_mt (m : MethodId) (a1 a2 : Addr) (y0 y1 y2 y3 y4 : Int32)  : entryFrame m #[(.ref a1), (.ref a2)] 2 = mkF m 0 #[.val (.ref a1), .val (.ref a2)] [] := by first | (simp [entryFrame, mkF, argsToLocals, Value.category]; done) | rfl
set_option maxRecDepth 65536 in
set_option maxHeartbeats 40000000 in
theorem con_mt (l : Launch) (Z : State) (a0 : Array Value) (hw : ∀ d ∈ tables_1, d.before a0 Z = true) (n0 : Nat) (h0 : Heap) (Z0 : n0 ≤ h0.size) (a1 a2 : Addr) (y0 y1 y2 y3 y4 : Int32) (A_a1 : Ary Z h0 a1 .int [.int y0, .int y1, .int y2, .int y3, .int y4]) (A_a2 : Ary Z h0 a2 .int [.int y0, .int y1, .int y2, .int y3, .int y4]) :
    Con l Z n0 (⟨"com/example/callimachus/callimachus/UuidsSha1PinLaw", "matches", "([I[I)Z"⟩ : MethodName) method_3_code 2 (some .boolean) ({ frames := 0, cells := 0, slots := 0, locals := 0 } : Room) #[(.ref a1), (.ref a2)] h0 (Val (PV (.int (1 : Int32)) h0)) := by
  refine Con.of_run pn_7 (fun m => ef_con_mt m a1 a2 y0 y1 y2 y3 y4 ) ?_
  refine Run.aloadN d7_0 rfl rfl (pc' := 1) rfl ?_
  refine Run.ifnull d7_1 rfl (by decide) (pc' := 10) (by decide) (pa := 4) rfl (fun hc1 => ?_) (fun hc1 => ?_)
  · -- pc 1 taken: (.ref a1) = .null
    exact absurd hc1 (by simp)
  · -- pc 1 not taken: ¬ (.ref a1) = .null
    refine Run.aloadN d7_4 rfl rfl (pc' := 5) rfl ?_
    refine Run.alen (z := (5 : Int32)) d7_5 A_a1 rfl (pc' := 6) rfl ?_
    refine Run.iconst (5 : Int32) d7_6 (by decide) (pc' := 7) rfl ?_
    refine Run.icmp_eq d7_7 (by decide) (pc' := 12) (by decide) (pa := 10) rfl (fun hc7 => ?_) (fun hc7 => ?_)
    · -- pc 7 taken: (5 : Int32) = (5 : Int32)
      refine Run.aloadN d7_12 rfl rfl (pc' := 13) rfl ?_
      refine Run.iconst (0 : Int32) d7_13 (by decide) (pc' := 14) rfl ?_
      refine Run.iaload (i := 0) (v := (.int y0)) d7_14 A_a1 (by decide) rfl (pc' := 15) rfl ?_
      refine Run.aloadN d7_15 rfl rfl (pc' := 16) rfl ?_
      refine Run.iconst (0 : Int32) d7_16 (by decide) (pc' := 17) rfl ?_
      refine Run.iaload (i := 0) (v := (.int y0)) d7_17 A_a2 (by decide) rfl (pc' := 18) rfl ?_
      refine Run.icmp_ne d7_18 (by decide) (pc' := 61) (by decide) (pa := 21) rfl (fun hc18 => ?_) (fun hc18 => ?_)
      · -- pc 18 taken: ¬ y0 = y0
        exact absurd rfl hc18
      · -- pc 18 not taken: y0 = y0
        refine Run.aloadN d7_21 rfl rfl (pc' := 22) rfl ?_
        refine Run.iconst (1 : Int32) d7_22 (by decide) (pc' := 23) rfl ?_
        refine Run.iaload (i := 1) (v := (.int y1)) d7_23 A_a1 (by decide) rfl (pc' := 24) rfl ?_
        refine Run.aloadN d7_24 rfl rfl (pc' := 25) rfl ?_
        refine Run.iconst (1 : Int32) d7_25 (by decide) (pc' := 26) rfl ?_
        refine Run.iaload (i := 1) (v := (.int y1)) d7_26 A_a2 (by decide) rfl (pc' := 27) rfl ?_
        refine Run.icmp_ne d7_27 (by decide) (pc' := 61) (by decide) (pa := 30) rfl (fun hc27 => ?_) (fun hc27 => ?_)
        · -- pc 27 taken: ¬ y1 = y1
          exact absurd rfl hc27
        · -- pc 27 not taken: y1 = y1
          refine Run.aloadN d7_30 rfl rfl (pc' := 31) rfl ?_
          refine Run.iconst (2 : Int32) d7_31 (by decide) (pc' := 32) rfl ?_
          refine Run.iaload (i := 2) (v := (.int y2)) d7_32 A_a1 (by decide) rfl (pc' := 33) rfl ?_
          refine Run.aloadN d7_33 rfl rfl (pc' := 34) rfl ?_
          refine Run.iconst (2 : Int32) d7_34 (by decide) (pc' := 35) rfl ?_
          refine Run.iaload (i := 2) (v := (.int y2)) d7_35 A_a2 (by decide) rfl (pc' := 36) rfl ?_
          refine Run.icmp_ne d7_36 (by decide) (pc' := 61) (by decide) (pa := 39) rfl (fun hc36 => ?_) (fun hc36 => ?_)
          · -- pc 36 taken: ¬ y2 = y2
            exact absurd rfl hc36
          · -- pc 36 not taken: y2 = y2
            refine Run.aloadN d7_39 rfl rfl (pc' := 40) rfl ?_
            refine Run.iconst (3 : Int32) d7_40 (by decide) (pc' := 41) rfl ?_
            refine Run.iaload (i := 3) (v := (.int y3)) d7_41 A_a1 (by decide) rfl (pc' := 42) rfl ?_
            refine Run.aloadN d7_42 rfl rfl (pc' := 43) rfl ?_
            refine Run.iconst (3 : Int32) d7_43 (by decide) (pc' := 44) rfl ?_
            refine Run.iaload (i := 3) (v := (.int y3)) d7_44 A_a2 (by decide) rfl (pc' := 45) rfl ?_
            refine Run.icmp_ne d7_45 (by decide) (pc' := 61) (by decide) (pa := 48) rfl (fun hc45 => ?_) (fun hc45 => ?_)
            · -- pc 45 taken: ¬ y3 = y3
              exact absurd rfl hc45
            · -- pc 45 not taken: y3 = y3
              refine Run.aloadN d7_48 rfl rfl (pc' := 49) rfl ?_
              refine Run.iconst (4 : Int32) d7_49 (by decide) (pc' := 50) rfl ?_
              refine Run.iaload (i := 4) (v := (.int y4)) d7_50 A_a1 (by decide) rfl (pc' := 51) rfl ?_
              refine Run.aloadN d7_51 rfl rfl (pc' := 52) rfl ?_
              refine Run.iconst (4 : Int32) d7_52 (by decide) (pc' := 53) rfl ?_
              refine Run.iaload (i := 4) (v := (.int y4)) d7_53 A_a2 (by decide) rfl (pc' := 54) rfl ?_
              refine Run.icmp_ne d7_54 (by decide) (pc' := 61) (by decide) (pa := 57) rfl (fun hc54 => ?_) (fun hc54 => ?_)
              · -- pc 54 taken: ¬ y4 = y4
                exact absurd rfl hc54
              · -- pc 54 not taken: y4 = y4
                refine Run.iconst (1 : Int32) d7_57 (by decide) (pc' := 58) rfl ?_
                refine Run.goto d7_58 (by decide) (pc' := 62) (by decide) ?_
                exact Run.nreturn d7_62 (ty := .boolean) rfl (by simp) (by decide) (by decide) ⟨_, rfl, rfl, rfl⟩
    · -- pc 7 not taken: ¬ (5 : Int32) = (5 : Int32)
      exact absurd hc7 (by decide)
def own_exp (p1 : Int32) : List Int32 := if p1 = (0 : Int32) then [(-633756690 : Int32), (1584089869 : Int32), (844480495 : Int32), (-1788864368 : Int32), (-1344796919 : Int32)] else if p1 = (1 : Int32) then [(-2030574537 : Int32), (-89806852 : Int32), (-513991204 : Int32), (-1175786774 : Int32), (930506680 : Int32)] else if p1 = (2 : Int32) then [(-1449574858 : Int32), (1191608682 : Int32), (-1170332303 : Int32), (2018558572 : Int32), (-1664034659 : Int32)] else if p1 = (3 : Int32) then [(802480582 : Int32), (2049779964 : Int32), (-310075679 : Int32), (-1149835463 : Int32), (462678802 : Int32)] else if p1 = (4 : Int32) then [(-559993729 : Int32), (-765584582 : Int32), (-86775718 : Int32), (198278555 : Int32), (269333683 : Int32)] else if p1 = (5 : Int32) then [(-2070397372 : Int32), (473682542 : Int32), (-1162982751 : Int32), (-112121371 : Int32), (-448368399 : Int32)] else [(-1533336506 : Int32), (-1607703461 : Int32), (-199624299 : Int32), (-1234136795 : Int32), (973382233 : Int32)]
theorem d2_0 : decode method_5_code 0 = .ok (.iload_n 0, 1) := by decide +kernel
theorem d2_1 : decode method_5_code 1 = .ok (.ifCond .ne 32, 3) := by decide +kernel
theorem d2_4 : decode method_5_code 4 = .ok (.iconst 5, 1) := by decide +kernel
theorem d2_5 : decode method_5_code 5 = .ok (.newarray .int, 2) := by decide +kernel
theorem d2_7 : decode method_5_code 7 = .ok (.dup, 1) := by decide +kernel
theorem d2_8 : decode method_5_code 8 = .ok (.iconst 0, 1) := by decide +kernel
theorem d2_9 : decode method_5_code 9 = .ok (.ldc 28, 2) := by decide +kernel
theorem d2_11 : decode method_5_code 11 = .ok (.iastore, 1) := by decide +kernel
theorem d2_12 : decode method_5_code 12 = .ok (.dup, 1) := by decide +kernel
theorem d2_13 : decode method_5_code 13 = .ok (.iconst 1, 1) := by decide +kernel
theorem d2_14 : decode method_5_code 14 = .ok (.ldc 29, 2) := by decide +kernel
theorem d2_16 : decode method_5_code 16 = .ok (.iastore, 1) := by decide +kernel
theorem d2_17 : decode method_5_code 17 = .ok (.dup, 1) := by decide +kernel
theorem d2_18 : decode method_5_code 18 = .ok (.iconst 2, 1) := by decide +kernel
theorem d2_19 : decode method_5_code 19 = .ok (.ldc 30, 2) := by decide +kernel
theorem d2_21 : decode method_5_code 21 = .ok (.iastore, 1) := by decide +kernel
theorem d2_22 : decode method_5_code 22 = .ok (.dup, 1) := by decide +kernel
theorem d2_23 : decode method_5_code 23 = .ok (.iconst 3, 1) := by decide +kernel
theorem d2_24 : decode method_5_code 24 = .ok (.ldc 31, 2) := by decide +kernel
theorem d2_26 : decode method_5_code 26 = .ok (.iastore, 1) := by decide +kernel
theorem d2_27 : decode method_5_code 27 = .ok (.dup, 1) := by decide +kernel
theorem d2_28 : decode method_5_code 28 = .ok (.iconst 4, 1) := by decide +kernel
theorem d2_29 : decode method_5_code 29 = .ok (.ldc 32, 2) := by decide +kernel
theorem d2_31 : decode method_5_code 31 = .ok (.iastore, 1) := by decide +kernel
theorem d2_32 : decode method_5_code 32 = .ok (.areturn, 1) := by decide +kernel
theorem d2_33 : decode method_5_code 33 = .ok (.iload_n 0, 1) := by decide +kernel
theorem d2_34 : decode method_5_code 34 = .ok (.iconst 1, 1) := by decide +kernel
theorem d2_35 : decode method_5_code 35 = .ok (.if_icmp .ne 32, 3) := by decide +kernel
theorem d2_38 : decode method_5_code 38 = .ok (.iconst 5, 1) := by decide +kernel
theorem d2_39 : decode method_5_code 39 = .ok (.newarray .int, 2) := by decide +kernel
theorem d2_41 : decode method_5_code 41 = .ok (.dup, 1) := by decide +kernel
theorem d2_42 : decode method_5_code 42 = .ok (.iconst 0, 1) := by decide +kernel
theorem d2_43 : decode method_5_code 43 = .ok (.ldc 33, 2) := by decide +kernel
theorem d2_45 : decode method_5_code 45 = .ok (.iastore, 1) := by decide +kernel
theorem d2_46 : decode method_5_code 46 = .ok (.dup, 1) := by decide +kernel
theorem d2_47 : decode method_5_code 47 = .ok (.iconst 1, 1) := by decide +kernel
theorem d2_48 : decode method_5_code 48 = .ok (.ldc 34, 2) := by decide +kernel
theorem d2_50 : decode method_5_code 50 = .ok (.iastore, 1) := by decide +kernel
theorem d2_51 : decode method_5_code 51 = .ok (.dup, 1) := by decide +kernel
theorem d2_52 : decode method_5_code 52 = .ok (.iconst 2, 1) := by decide +kernel
theorem d2_53 : decode method_5_code 53 = .ok (.ldc 35, 2) := by decide +kernel
theorem d2_55 : decode method_5_code 55 = .ok (.iastore, 1) := by decide +kernel
theorem d2_56 : decode method_5_code 56 = .ok (.dup, 1) := by decide +kernel
theorem d2_57 : decode method_5_code 57 = .ok (.iconst 3, 1) := by decide +kernel
theorem d2_58 : decode method_5_code 58 = .ok (.ldc 36, 2) := by decide +kernel
theorem d2_60 : decode method_5_code 60 = .ok (.iastore, 1) := by decide +kernel
theorem d2_61 : decode method_5_code 61 = .ok (.dup, 1) := by decide +kernel
theorem d2_62 : decode method_5_code 62 = .ok (.iconst 4, 1) := by decide +kernel
theorem d2_63 : decode method_5_code 63 = .ok (.ldc 37, 2) := by decide +kernel
theorem d2_65 : decode method_5_code 65 = .ok (.iastore, 1) := by decide +kernel
theorem d2_66 : decode method_5_code 66 = .ok (.areturn, 1) := by decide +kernel
theorem d2_67 : decode method_5_code 67 = .ok (.iload_n 0, 1) := by decide +kernel
theorem d2_68 : decode method_5_code 68 = .ok (.iconst 2, 1) := by decide +kernel
theorem d2_69 : decode method_5_code 69 = .ok (.if_icmp .ne 32, 3) := by decide +kernel
theorem d2_72 : decode method_5_code 72 = .ok (.iconst 5, 1) := by decide +kernel
theorem d2_73 : decode method_5_code 73 = .ok (.newarray .int, 2) := by decide +kernel
theorem d2_75 : decode method_5_code 75 = .ok (.dup, 1) := by decide +kernel
theorem d2_76 : decode method_5_code 76 = .ok (.iconst 0, 1) := by decide +kernel
theorem d2_77 : decode method_5_code 77 = .ok (.ldc 38, 2) := by decide +kernel
theorem d2_79 : decode method_5_code 79 = .ok (.iastore, 1) := by decide +kernel
theorem d2_80 : decode method_5_code 80 = .ok (.dup, 1) := by decide +kernel
theorem d2_81 : decode method_5_code 81 = .ok (.iconst 1, 1) := by decide +kernel
theorem d2_82 : decode method_5_code 82 = .ok (.ldc 39, 2) := by decide +kernel
theorem d2_84 : decode method_5_code 84 = .ok (.iastore, 1) := by decide +kernel
theorem d2_85 : decode method_5_code 85 = .ok (.dup, 1) := by decide +kernel
theorem d2_86 : decode method_5_code 86 = .ok (.iconst 2, 1) := by decide +kernel
theorem d2_87 : decode method_5_code 87 = .ok (.ldc 40, 2) := by decide +kernel
theorem d2_89 : decode method_5_code 89 = .ok (.iastore, 1) := by decide +kernel
theorem d2_90 : decode method_5_code 90 = .ok (.dup, 1) := by decide +kernel
theorem d2_91 : decode method_5_code 91 = .ok (.iconst 3, 1) := by decide +kernel
theorem d2_92 : decode method_5_code 92 = .ok (.ldc 41, 2) := by decide +kernel
theorem d2_94 : decode method_5_code 94 = .ok (.iastore, 1) := by decide +kernel
theorem d2_95 : decode method_5_code 95 = .ok (.dup, 1) := by decide +kernel
theorem d2_96 : decode method_5_code 96 = .ok (.iconst 4, 1) := by decide +kernel
theorem d2_97 : decode method_5_code 97 = .ok (.ldc 42, 2) := by decide +kernel
theorem d2_99 : decode method_5_code 99 = .ok (.iastore, 1) := by decide +kernel
theorem d2_100 : decode method_5_code 100 = .ok (.areturn, 1) := by decide +kernel
theorem d2_101 : decode method_5_code 101 = .ok (.iload_n 0, 1) := by decide +kernel
theorem d2_102 : decode method_5_code 102 = .ok (.iconst 3, 1) := by decide +kernel
theorem d2_103 : decode method_5_code 103 = .ok (.if_icmp .ne 32, 3) := by decide +kernel
theorem d2_106 : decode method_5_code 106 = .ok (.iconst 5, 1) := by decide +kernel
theorem d2_107 : decode method_5_code 107 = .ok (.newarray .int, 2) := by decide +kernel
theorem d2_109 : decode method_5_code 109 = .ok (.dup, 1) := by decide +kernel
theorem d2_110 : decode method_5_code 110 = .ok (.iconst 0, 1) := by decide +kernel
theorem d2_111 : decode method_5_code 111 = .ok (.ldc 43, 2) := by decide +kernel
theorem d2_113 : decode method_5_code 113 = .ok (.iastore, 1) := by decide +kernel
theorem d2_114 : decode method_5_code 114 = .ok (.dup, 1) := by decide +kernel
theorem d2_115 : decode method_5_code 115 = .ok (.iconst 1, 1) := by decide +kernel
theorem d2_116 : decode method_5_code 116 = .ok (.ldc 44, 2) := by decide +kernel
theorem d2_118 : decode method_5_code 118 = .ok (.iastore, 1) := by decide +kernel
theorem d2_119 : decode method_5_code 119 = .ok (.dup, 1) := by decide +kernel
theorem d2_120 : decode method_5_code 120 = .ok (.iconst 2, 1) := by decide +kernel
theorem d2_121 : decode method_5_code 121 = .ok (.ldc 45, 2) := by decide +kernel
theorem d2_123 : decode method_5_code 123 = .ok (.iastore, 1) := by decide +kernel
theorem d2_124 : decode method_5_code 124 = .ok (.dup, 1) := by decide +kernel
theorem d2_125 : decode method_5_code 125 = .ok (.iconst 3, 1) := by decide +kernel
theorem d2_126 : decode method_5_code 126 = .ok (.ldc 46, 2) := by decide +kernel
theorem d2_128 : decode method_5_code 128 = .ok (.iastore, 1) := by decide +kernel
theorem d2_129 : decode method_5_code 129 = .ok (.dup, 1) := by decide +kernel
theorem d2_130 : decode method_5_code 130 = .ok (.iconst 4, 1) := by decide +kernel
theorem d2_131 : decode method_5_code 131 = .ok (.ldc 47, 2) := by decide +kernel
theorem d2_133 : decode method_5_code 133 = .ok (.iastore, 1) := by decide +kernel
theorem d2_134 : decode method_5_code 134 = .ok (.areturn, 1) := by decide +kernel
theorem d2_135 : decode method_5_code 135 = .ok (.iload_n 0, 1) := by decide +kernel
theorem d2_136 : decode method_5_code 136 = .ok (.iconst 4, 1) := by decide +kernel
theorem d2_137 : decode method_5_code 137 = .ok (.if_icmp .ne 32, 3) := by decide +kernel
theorem d2_140 : decode method_5_code 140 = .ok (.iconst 5, 1) := by decide +kernel
theorem d2_141 : decode method_5_code 141 = .ok (.newarray .int, 2) := by decide +kernel
theorem d2_143 : decode method_5_code 143 = .ok (.dup, 1) := by decide +kernel
theorem d2_144 : decode method_5_code 144 = .ok (.iconst 0, 1) := by decide +kernel
theorem d2_145 : decode method_5_code 145 = .ok (.ldc 48, 2) := by decide +kernel
theorem d2_147 : decode method_5_code 147 = .ok (.iastore, 1) := by decide +kernel
theorem d2_148 : decode method_5_code 148 = .ok (.dup, 1) := by decide +kernel
theorem d2_149 : decode method_5_code 149 = .ok (.iconst 1, 1) := by decide +kernel
theorem d2_150 : decode method_5_code 150 = .ok (.ldc 49, 2) := by decide +kernel
theorem d2_152 : decode method_5_code 152 = .ok (.iastore, 1) := by decide +kernel
theorem d2_153 : decode method_5_code 153 = .ok (.dup, 1) := by decide +kernel
theorem d2_154 : decode method_5_code 154 = .ok (.iconst 2, 1) := by decide +kernel
theorem d2_155 : decode method_5_code 155 = .ok (.ldc 50, 2) := by decide +kernel
theorem d2_157 : decode method_5_code 157 = .ok (.iastore, 1) := by decide +kernel
theorem d2_158 : decode method_5_code 158 = .ok (.dup, 1) := by decide +kernel
theorem d2_159 : decode method_5_code 159 = .ok (.iconst 3, 1) := by decide +kernel
theorem d2_160 : decode method_5_code 160 = .ok (.ldc 51, 2) := by decide +kernel
theorem d2_162 : decode method_5_code 162 = .ok (.iastore, 1) := by decide +kernel
theorem d2_163 : decode method_5_code 163 = .ok (.dup, 1) := by decide +kernel
theorem d2_164 : decode method_5_code 164 = .ok (.iconst 4, 1) := by decide +kernel
theorem d2_165 : decode method_5_code 165 = .ok (.ldc 52, 2) := by decide +kernel
theorem d2_167 : decode method_5_code 167 = .ok (.iastore, 1) := by decide +kernel
theorem d2_168 : decode method_5_code 168 = .ok (.areturn, 1) := by decide +kernel
theorem d2_169 : decode method_5_code 169 = .ok (.iload_n 0, 1) := by decide +kernel
theorem d2_170 : decode method_5_code 170 = .ok (.iconst 5, 1) := by decide +kernel
theorem d2_171 : decode method_5_code 171 = .ok (.if_icmp .ne 32, 3) := by decide +kernel
theorem d2_174 : decode method_5_code 174 = .ok (.iconst 5, 1) := by decide +kernel
theorem d2_175 : decode method_5_code 175 = .ok (.newarray .int, 2) := by decide +kernel
theorem d2_177 : decode method_5_code 177 = .ok (.dup, 1) := by decide +kernel
theorem d2_178 : decode method_5_code 178 = .ok (.iconst 0, 1) := by decide +kernel
theorem d2_179 : decode method_5_code 179 = .ok (.ldc 53, 2) := by decide +kernel
theorem d2_181 : decode method_5_code 181 = .ok (.iastore, 1) := by decide +kernel
theorem d2_182 : decode method_5_code 182 = .ok (.dup, 1) := by decide +kernel
theorem d2_183 : decode method_5_code 183 = .ok (.iconst 1, 1) := by decide +kernel
theorem d2_184 : decode method_5_code 184 = .ok (.ldc 54, 2) := by decide +kernel
theorem d2_186 : decode method_5_code 186 = .ok (.iastore, 1) := by decide +kernel
theorem d2_187 : decode method_5_code 187 = .ok (.dup, 1) := by decide +kernel
theorem d2_188 : decode method_5_code 188 = .ok (.iconst 2, 1) := by decide +kernel
theorem d2_189 : decode method_5_code 189 = .ok (.ldc 55, 2) := by decide +kernel
theorem d2_191 : decode method_5_code 191 = .ok (.iastore, 1) := by decide +kernel
theorem d2_192 : decode method_5_code 192 = .ok (.dup, 1) := by decide +kernel
theorem d2_193 : decode method_5_code 193 = .ok (.iconst 3, 1) := by decide +kernel
theorem d2_194 : decode method_5_code 194 = .ok (.ldc 56, 2) := by decide +kernel
theorem d2_196 : decode method_5_code 196 = .ok (.iastore, 1) := by decide +kernel
theorem d2_197 : decode method_5_code 197 = .ok (.dup, 1) := by decide +kernel
theorem d2_198 : decode method_5_code 198 = .ok (.iconst 4, 1) := by decide +kernel
theorem d2_199 : decode method_5_code 199 = .ok (.ldc 57, 2) := by decide +kernel
theorem d2_201 : decode method_5_code 201 = .ok (.iastore, 1) := by decide +kernel
theorem d2_202 : decode method_5_code 202 = .ok (.areturn, 1) := by decide +kernel
theorem d2_203 : decode method_5_code 203 = .ok (.iconst 5, 1) := by decide +kernel
theorem d2_204 : decode method_5_code 204 = .ok (.newarray .int, 2) := by decide +kernel
theorem d2_206 : decode method_5_code 206 = .ok (.dup, 1) := by decide +kernel
theorem d2_207 : decode method_5_code 207 = .ok (.iconst 0, 1) := by decide +kernel
theorem d2_208 : decode method_5_code 208 = .ok (.ldc 58, 2) := by decide +kernel
theorem d2_210 : decode method_5_code 210 = .ok (.iastore, 1) := by decide +kernel
theorem d2_211 : decode method_5_code 211 = .ok (.dup, 1) := by decide +kernel
theorem d2_212 : decode method_5_code 212 = .ok (.iconst 1, 1) := by decide +kernel
theorem d2_213 : decode method_5_code 213 = .ok (.ldc 59, 2) := by decide +kernel
theorem d2_215 : decode method_5_code 215 = .ok (.iastore, 1) := by decide +kernel
theorem d2_216 : decode method_5_code 216 = .ok (.dup, 1) := by decide +kernel
theorem d2_217 : decode method_5_code 217 = .ok (.iconst 2, 1) := by decide +kernel
theorem d2_218 : decode method_5_code 218 = .ok (.ldc 60, 2) := by decide +kernel
theorem d2_220 : decode method_5_code 220 = .ok (.iastore, 1) := by decide +kernel
theorem d2_221 : decode method_5_code 221 = .ok (.dup, 1) := by decide +kernel
theorem d2_222 : decode method_5_code 222 = .ok (.iconst 3, 1) := by decide +kernel
theorem d2_223 : decode method_5_code 223 = .ok (.ldc 61, 2) := by decide +kernel
theorem d2_225 : decode method_5_code 225 = .ok (.iastore, 1) := by decide +kernel
theorem d2_226 : decode method_5_code 226 = .ok (.dup, 1) := by decide +kernel
theorem d2_227 : decode method_5_code 227 = .ok (.iconst 4, 1) := by decide +kernel
theorem d2_228 : decode method_5_code 228 = .ok (.ldc 62, 2) := by decide +kernel
theorem d2_230 : decode method_5_code 230 = .ok (.iastore, 1) := by decide +kernel
theorem d2_231 : decode method_5_code 231 = .ok (.areturn, 1) := by decide +kernel
theorem pn_2 : plainFor (⟨"com/example/callimachus/callimachus/UuidsSha1PinLaw", "expected", "(I)[I"⟩ : MethodName) = true := plainFor_of_name (by first | (simp [plainName, overriddenIn]; done) | decide +kernel)
theorem ef_con_exp (m : MethodId) (p1 : Int32)  : entryFrame m #[(.int p1)] 1 = mkF m 0 #[.val (.int p1)] [] := by first | (simp [entryFrame, mkF, argsToLocals, Value.category]; done) | rfl
set_option maxRecDepth 65536 in
set_option maxHeartbeats 40000000 in
theorem con_exp (l : Launch) (Z : State) (a0 : Array Value) (hw : ∀ d ∈ tables_1, d.before a0 Z = true) (n0 : Nat) (h0 : Heap) (Z0 : n0 ≤ h0.size) (p1 : Int32)  :
    Con l Z n0 (⟨"com/example/callimachus/callimachus/UuidsSha1PinLaw", "expected", "(I)[I"⟩ : MethodName) method_5_code 1 (some (.array .int)) ({ frames := 0, cells := 1, slots := 5, locals := 0 } : Room) #[(.int p1)] h0 (Val fun w h' => ∃ b, w = .ref b ∧ h0.size ≤ b ∧ Ext h0 h' ∧ Ary Z h' b .int ((own_exp p1).map Value.int)) := by
  refine Con.of_run pn_2 (fun m => ef_con_exp m p1 ) ?_
  refine Run.iloadN d2_0 rfl (pc' := 1) rfl ?_
  refine Run.if_ne d2_1 (by decide) (pc' := 33) (by decide) (pa := 4) rfl (fun hc1 => ?_) (fun hc1 => ?_)
  · -- pc 1 taken: ¬ p1 = (0 : Int32)
    refine Run.iloadN d2_33 rfl (pc' := 34) rfl ?_
    refine Run.iconst (1 : Int32) d2_34 (by decide) (pc' := 35) rfl ?_
    refine Run.icmp_ne d2_35 (by decide) (pc' := 67) (by decide) (pa := 38) rfl (fun hc35 => ?_) (fun hc35 => ?_)
    · -- pc 35 taken: ¬ p1 = (1 : Int32)
      refine Run.iloadN d2_67 rfl (pc' := 68) rfl ?_
      refine Run.iconst (2 : Int32) d2_68 (by decide) (pc' := 69) rfl ?_
      refine Run.icmp_ne d2_69 (by decide) (pc' := 101) (by decide) (pa := 72) rfl (fun hc69 => ?_) (fun hc69 => ?_)
      · -- pc 69 taken: ¬ p1 = (2 : Int32)
        refine Run.iloadN d2_101 rfl (pc' := 102) rfl ?_
        refine Run.iconst (3 : Int32) d2_102 (by decide) (pc' := 103) rfl ?_
        refine Run.icmp_ne d2_103 (by decide) (pc' := 135) (by decide) (pa := 106) rfl (fun hc103 => ?_) (fun hc103 => ?_)
        · -- pc 103 taken: ¬ p1 = (3 : Int32)
          refine Run.iloadN d2_135 rfl (pc' := 136) rfl ?_
          refine Run.iconst (4 : Int32) d2_136 (by decide) (pc' := 137) rfl ?_
          refine Run.icmp_ne d2_137 (by decide) (pc' := 169) (by decide) (pa := 140) rfl (fun hc137 => ?_) (fun hc137 => ?_)
          · -- pc 137 taken: ¬ p1 = (4 : Int32)
            refine Run.iloadN d2_169 rfl (pc' := 170) rfl ?_
            refine Run.iconst (5 : Int32) d2_170 (by decide) (pc' := 171) rfl ?_
            refine Run.icmp_ne d2_171 (by decide) (pc' := 203) (by decide) (pa := 174) rfl (fun hc171 => ?_) (fun hc171 => ?_)
            · -- pc 171 taken: ¬ p1 = (5 : Int32)
              refine Run.iconst (5 : Int32) d2_203 (by decide) (pc' := 204) rfl ?_
              refine Run.newP (ty := .int) (m := 5) (cap := 5) (dv := (.int (0 : Int32))) (k' := 1) (n' := 5) d2_204 rfl (hw _ (List.mem_of_getElem? (i := 9) rfl)) (by decide) (by decide) (Nat.le_refl _) rfl (by decide) (by decide) (by decide) (by decide) (by decide) (pc' := 206) rfl ?_
              intro h53 b53 g53 E53 A53
              have ge_b53 : n0 ≤ b53 := by rw [g53]; exact Z0
              have bo_b53 : h0.size ≤ b53 := by rw [g53]; exact (Keep.refl h0 []).1
              have sz53 : n0 ≤ h53.size := Nat.le_trans Z0 E53.1
              have kp53 := Keep.ext (Keep.refl h0 []) E53
              replace A53 : Ary Z h53 b53 .int [(.int (0 : Int32)), (.int (0 : Int32)), (.int (0 : Int32)), (.int (0 : Int32)), (.int (0 : Int32))] := A53
              refine Run.dup d2_206 rfl (pc' := 207) rfl ?_
              refine Run.iconst (0 : Int32) d2_207 (by decide) (pc' := 208) rfl ?_
              refine Run.ldcI (v := (-1533336506 : Int32)) d2_208 (hw _ (List.mem_of_getElem? (i := 77) rfl)) (pc' := 210) rfl ?_
              refine Run.iastore (i := 0) d2_210 A53 (by decide) (by show (0 : Nat) < 5; decide) ge_b53 (pc' := 211) rfl ?_
              intro h54 W54 A54
              replace A54 : Ary Z h54 b53 .int [(.int (-1533336506 : Int32)), (.int (0 : Int32)), (.int (0 : Int32)), (.int (0 : Int32)), (.int (0 : Int32))] := A54
              have sz54 : n0 ≤ h54.size := by rw [W54.size]; exact sz53
              have kp54 := Keep.wr kp53 W54 (Or.inr bo_b53)
              refine Run.dup d2_211 rfl (pc' := 212) rfl ?_
              refine Run.iconst (1 : Int32) d2_212 (by decide) (pc' := 213) rfl ?_
              refine Run.ldcI (v := (-1607703461 : Int32)) d2_213 (hw _ (List.mem_of_getElem? (i := 78) rfl)) (pc' := 215) rfl ?_
              refine Run.iastore (i := 1) d2_215 A54 (by decide) (by show (1 : Nat) < 5; decide) ge_b53 (pc' := 216) rfl ?_
              intro h55 W55 A55
              replace A55 : Ary Z h55 b53 .int [(.int (-1533336506 : Int32)), (.int (-1607703461 : Int32)), (.int (0 : Int32)), (.int (0 : Int32)), (.int (0 : Int32))] := A55
              have sz55 : n0 ≤ h55.size := by rw [W55.size]; exact sz54
              have kp55 := Keep.wr kp54 W55 (Or.inr bo_b53)
              refine Run.dup d2_216 rfl (pc' := 217) rfl ?_
              refine Run.iconst (2 : Int32) d2_217 (by decide) (pc' := 218) rfl ?_
              refine Run.ldcI (v := (-199624299 : Int32)) d2_218 (hw _ (List.mem_of_getElem? (i := 79) rfl)) (pc' := 220) rfl ?_
              refine Run.iastore (i := 2) d2_220 A55 (by decide) (by show (2 : Nat) < 5; decide) ge_b53 (pc' := 221) rfl ?_
              intro h56 W56 A56
              replace A56 : Ary Z h56 b53 .int [(.int (-1533336506 : Int32)), (.int (-1607703461 : Int32)), (.int (-199624299 : Int32)), (.int (0 : Int32)), (.int (0 : Int32))] := A56
              have sz56 : n0 ≤ h56.size := by rw [W56.size]; exact sz55
              have kp56 := Keep.wr kp55 W56 (Or.inr bo_b53)
              refine Run.dup d2_221 rfl (pc' := 222) rfl ?_
              refine Run.iconst (3 : Int32) d2_222 (by decide) (pc' := 223) rfl ?_
              refine Run.ldcI (v := (-1234136795 : Int32)) d2_223 (hw _ (List.mem_of_getElem? (i := 80) rfl)) (pc' := 225) rfl ?_
              refine Run.iastore (i := 3) d2_225 A56 (by decide) (by show (3 : Nat) < 5; decide) ge_b53 (pc' := 226) rfl ?_
              intro h57 W57 A57
              replace A57 : Ary Z h57 b53 .int [(.int (-1533336506 : Int32)), (.int (-1607703461 : Int32)), (.int (-199624299 : Int32)), (.int (-1234136795 : Int32)), (.int (0 : Int32))] := A57
              have sz57 : n0 ≤ h57.size := by rw [W57.size]; exact sz56
              have kp57 := Keep.wr kp56 W57 (Or.inr bo_b53)
              refine Run.dup d2_226 rfl (pc' := 227) rfl ?_
              refine Run.iconst (4 : Int32) d2_227 (by decide) (pc' := 228) rfl ?_
              refine Run.ldcI (v := (973382233 : Int32)) d2_228 (hw _ (List.mem_of_getElem? (i := 81) rfl)) (pc' := 230) rfl ?_
              refine Run.iastore (i := 4) d2_230 A57 (by decide) (by show (4 : Nat) < 5; decide) ge_b53 (pc' := 231) rfl ?_
              intro h58 W58 A58
              replace A58 : Ary Z h58 b53 .int [(.int (-1533336506 : Int32)), (.int (-1607703461 : Int32)), (.int (-199624299 : Int32)), (.int (-1234136795 : Int32)), (.int (973382233 : Int32))] := A58
              have sz58 : n0 ≤ h58.size := by rw [W58.size]; exact sz57
              have kp58 := Keep.wr kp57 W58 (Or.inr bo_b53)
              exact Run.areturn d2_231 (ty := (.array .int)) rfl rfl rfl (by decide) (by decide) ⟨_, rfl, b53, rfl, bo_b53, Keep.toExt kp58, (by unfold own_exp; rw [if_neg hc1, if_neg hc35, if_neg hc69, if_neg hc103, if_neg hc137, if_neg hc171]; exact A58)⟩
            · -- pc 171 not taken: p1 = (5 : Int32)
              refine Run.iconst (5 : Int32) d2_174 (by decide) (pc' := 175) rfl ?_
              refine Run.newP (ty := .int) (m := 5) (cap := 5) (dv := (.int (0 : Int32))) (k' := 1) (n' := 5) d2_175 rfl (hw _ (List.mem_of_getElem? (i := 9) rfl)) (by decide) (by decide) (Nat.le_refl _) rfl (by decide) (by decide) (by decide) (by decide) (by decide) (pc' := 177) rfl ?_
              intro h59 b59 g59 E59 A59
              have ge_b59 : n0 ≤ b59 := by rw [g59]; exact Z0
              have bo_b59 : h0.size ≤ b59 := by rw [g59]; exact (Keep.refl h0 []).1
              have sz59 : n0 ≤ h59.size := Nat.le_trans Z0 E59.1
              have kp59 := Keep.ext (Keep.refl h0 []) E59
              replace A59 : Ary Z h59 b59 .int [(.int (0 : Int32)), (.int (0 : Int32)), (.int (0 : Int32)), (.int (0 : Int32)), (.int (0 : Int32))] := A59
              refine Run.dup d2_177 rfl (pc' := 178) rfl ?_
              refine Run.iconst (0 : Int32) d2_178 (by decide) (pc' := 179) rfl ?_
              refine Run.ldcI (v := (-2070397372 : Int32)) d2_179 (hw _ (List.mem_of_getElem? (i := 62) rfl)) (pc' := 181) rfl ?_
              refine Run.iastore (i := 0) d2_181 A59 (by decide) (by show (0 : Nat) < 5; decide) ge_b59 (pc' := 182) rfl ?_
              intro h60 W60 A60
              replace A60 : Ary Z h60 b59 .int [(.int (-2070397372 : Int32)), (.int (0 : Int32)), (.int (0 : Int32)), (.int (0 : Int32)), (.int (0 : Int32))] := A60
              have sz60 : n0 ≤ h60.size := by rw [W60.size]; exact sz59
              have kp60 := Keep.wr kp59 W60 (Or.inr bo_b59)
              refine Run.dup d2_182 rfl (pc' := 183) rfl ?_
              refine Run.iconst (1 : Int32) d2_183 (by decide) (pc' := 184) rfl ?_
              refine Run.ldcI (v := (473682542 : Int32)) d2_184 (hw _ (List.mem_of_getElem? (i := 63) rfl)) (pc' := 186) rfl ?_
              refine Run.iastore (i := 1) d2_186 A60 (by decide) (by show (1 : Nat) < 5; decide) ge_b59 (pc' := 187) rfl ?_
              intro h61 W61 A61
              replace A61 : Ary Z h61 b59 .int [(.int (-2070397372 : Int32)), (.int (473682542 : Int32)), (.int (0 : Int32)), (.int (0 : Int32)), (.int (0 : Int32))] := A61
              have sz61 : n0 ≤ h61.size := by rw [W61.size]; exact sz60
              have kp61 := Keep.wr kp60 W61 (Or.inr bo_b59)
              refine Run.dup d2_187 rfl (pc' := 188) rfl ?_
              refine Run.iconst (2 : Int32) d2_188 (by decide) (pc' := 189) rfl ?_
              refine Run.ldcI (v := (-1162982751 : Int32)) d2_189 (hw _ (List.mem_of_getElem? (i := 64) rfl)) (pc' := 191) rfl ?_
              refine Run.iastore (i := 2) d2_191 A61 (by decide) (by show (2 : Nat) < 5; decide) ge_b59 (pc' := 192) rfl ?_
              intro h62 W62 A62
              replace A62 : Ary Z h62 b59 .int [(.int (-2070397372 : Int32)), (.int (473682542 : Int32)), (.int (-1162982751 : Int32)), (.int (0 : Int32)), (.int (0 : Int32))] := A62
              have sz62 : n0 ≤ h62.size := by rw [W62.size]; exact sz61
              have kp62 := Keep.wr kp61 W62 (Or.inr bo_b59)
              refine Run.dup d2_192 rfl (pc' := 193) rfl ?_
              refine Run.iconst (3 : Int32) d2_193 (by decide) (pc' := 194) rfl ?_
              refine Run.ldcI (v := (-112121371 : Int32)) d2_194 (hw _ (List.mem_of_getElem? (i := 65) rfl)) (pc' := 196) rfl ?_
              refine Run.iastore (i := 3) d2_196 A62 (by decide) (by show (3 : Nat) < 5; decide) ge_b59 (pc' := 197) rfl ?_
              intro h63 W63 A63
              replace A63 : Ary Z h63 b59 .int [(.int (-2070397372 : Int32)), (.int (473682542 : Int32)), (.int (-1162982751 : Int32)), (.int (-112121371 : Int32)), (.int (0 : Int32))] := A63
              have sz63 : n0 ≤ h63.size := by rw [W63.size]; exact sz62
              have kp63 := Keep.wr kp62 W63 (Or.inr bo_b59)
              refine Run.dup d2_197 rfl (pc' := 198) rfl ?_
              refine Run.iconst (4 : Int32) d2_198 (by decide) (pc' := 199) rfl ?_
              refine Run.ldcI (v := (-448368399 : Int32)) d2_199 (hw _ (List.mem_of_getElem? (i := 66) rfl)) (pc' := 201) rfl ?_
              refine Run.iastore (i := 4) d2_201 A63 (by decide) (by show (4 : Nat) < 5; decide) ge_b59 (pc' := 202) rfl ?_
              intro h64 W64 A64
              replace A64 : Ary Z h64 b59 .int [(.int (-2070397372 : Int32)), (.int (473682542 : Int32)), (.int (-1162982751 : Int32)), (.int (-112121371 : Int32)), (.int (-448368399 : Int32))] := A64
              have sz64 : n0 ≤ h64.size := by rw [W64.size]; exact sz63
              have kp64 := Keep.wr kp63 W64 (Or.inr bo_b59)
              exact Run.areturn d2_202 (ty := (.array .int)) rfl rfl rfl (by decide) (by decide) ⟨_, rfl, b59, rfl, bo_b59, Keep.toExt kp64, (by unfold own_exp; rw [if_neg hc1, if_neg hc35, if_neg hc69, if_neg hc103, if_neg hc137, if_pos hc171]; exact A64)⟩
          · -- pc 137 not taken: p1 = (4 : Int32)
            refine Run.iconst (5 : Int32) d2_140 (by decide) (pc' := 141) rfl ?_
            refine Run.newP (ty := .int) (m := 5) (cap := 5) (dv := (.int (0 : Int32))) (k' := 1) (n' := 5) d2_141 rfl (hw _ (List.mem_of_getElem? (i := 9) rfl)) (by decide) (by decide) (Nat.le_refl _) rfl (by decide) (by decide) (by decide) (by decide) (by decide) (pc' := 143) rfl ?_
            intro h65 b65 g65 E65 A65
            have ge_b65 : n0 ≤ b65 := by rw [g65]; exact Z0
            have bo_b65 : h0.size ≤ b65 := by rw [g65]; exact (Keep.refl h0 []).1
            have sz65 : n0 ≤ h65.size := Nat.le_trans Z0 E65.1
            have kp65 := Keep.ext (Keep.refl h0 []) E65
            replace A65 : Ary Z h65 b65 .int [(.int (0 : Int32)), (.int (0 : Int32)), (.int (0 : Int32)), (.int (0 : Int32)), (.int (0 : Int32))] := A65
            refine Run.dup d2_143 rfl (pc' := 144) rfl ?_
            refine Run.iconst (0 : Int32) d2_144 (by decide) (pc' := 145) rfl ?_
            refine Run.ldcI (v := (-559993729 : Int32)) d2_145 (hw _ (List.mem_of_getElem? (i := 72) rfl)) (pc' := 147) rfl ?_
            refine Run.iastore (i := 0) d2_147 A65 (by decide) (by show (0 : Nat) < 5; decide) ge_b65 (pc' := 148) rfl ?_
            intro h66 W66 A66
            replace A66 : Ary Z h66 b65 .int [(.int (-559993729 : Int32)), (.int (0 : Int32)), (.int (0 : Int32)), (.int (0 : Int32)), (.int (0 : Int32))] := A66
            have sz66 : n0 ≤ h66.size := by rw [W66.size]; exact sz65
            have kp66 := Keep.wr kp65 W66 (Or.inr bo_b65)
            refine Run.dup d2_148 rfl (pc' := 149) rfl ?_
            refine Run.iconst (1 : Int32) d2_149 (by decide) (pc' := 150) rfl ?_
            refine Run.ldcI (v := (-765584582 : Int32)) d2_150 (hw _ (List.mem_of_getElem? (i := 73) rfl)) (pc' := 152) rfl ?_
            refine Run.iastore (i := 1) d2_152 A66 (by decide) (by show (1 : Nat) < 5; decide) ge_b65 (pc' := 153) rfl ?_
            intro h67 W67 A67
            replace A67 : Ary Z h67 b65 .int [(.int (-559993729 : Int32)), (.int (-765584582 : Int32)), (.int (0 : Int32)), (.int (0 : Int32)), (.int (0 : Int32))] := A67
            have sz67 : n0 ≤ h67.size := by rw [W67.size]; exact sz66
            have kp67 := Keep.wr kp66 W67 (Or.inr bo_b65)
            refine Run.dup d2_153 rfl (pc' := 154) rfl ?_
            refine Run.iconst (2 : Int32) d2_154 (by decide) (pc' := 155) rfl ?_
            refine Run.ldcI (v := (-86775718 : Int32)) d2_155 (hw _ (List.mem_of_getElem? (i := 74) rfl)) (pc' := 157) rfl ?_
            refine Run.iastore (i := 2) d2_157 A67 (by decide) (by show (2 : Nat) < 5; decide) ge_b65 (pc' := 158) rfl ?_
            intro h68 W68 A68
            replace A68 : Ary Z h68 b65 .int [(.int (-559993729 : Int32)), (.int (-765584582 : Int32)), (.int (-86775718 : Int32)), (.int (0 : Int32)), (.int (0 : Int32))] := A68
            have sz68 : n0 ≤ h68.size := by rw [W68.size]; exact sz67
            have kp68 := Keep.wr kp67 W68 (Or.inr bo_b65)
            refine Run.dup d2_158 rfl (pc' := 159) rfl ?_
            refine Run.iconst (3 : Int32) d2_159 (by decide) (pc' := 160) rfl ?_
            refine Run.ldcI (v := (198278555 : Int32)) d2_160 (hw _ (List.mem_of_getElem? (i := 75) rfl)) (pc' := 162) rfl ?_
            refine Run.iastore (i := 3) d2_162 A68 (by decide) (by show (3 : Nat) < 5; decide) ge_b65 (pc' := 163) rfl ?_
            intro h69 W69 A69
            replace A69 : Ary Z h69 b65 .int [(.int (-559993729 : Int32)), (.int (-765584582 : Int32)), (.int (-86775718 : Int32)), (.int (198278555 : Int32)), (.int (0 : Int32))] := A69
            have sz69 : n0 ≤ h69.size := by rw [W69.size]; exact sz68
            have kp69 := Keep.wr kp68 W69 (Or.inr bo_b65)
            refine Run.dup d2_163 rfl (pc' := 164) rfl ?_
            refine Run.iconst (4 : Int32) d2_164 (by decide) (pc' := 165) rfl ?_
            refine Run.ldcI (v := (269333683 : Int32)) d2_165 (hw _ (List.mem_of_getElem? (i := 76) rfl)) (pc' := 167) rfl ?_
            refine Run.iastore (i := 4) d2_167 A69 (by decide) (by show (4 : Nat) < 5; decide) ge_b65 (pc' := 168) rfl ?_
            intro h70 W70 A70
            replace A70 : Ary Z h70 b65 .int [(.int (-559993729 : Int32)), (.int (-765584582 : Int32)), (.int (-86775718 : Int32)), (.int (198278555 : Int32)), (.int (269333683 : Int32))] := A70
            have sz70 : n0 ≤ h70.size := by rw [W70.size]; exact sz69
            have kp70 := Keep.wr kp69 W70 (Or.inr bo_b65)
            exact Run.areturn d2_168 (ty := (.array .int)) rfl rfl rfl (by decide) (by decide) ⟨_, rfl, b65, rfl, bo_b65, Keep.toExt kp70, (by unfold own_exp; rw [if_neg hc1, if_neg hc35, if_neg hc69, if_neg hc103, if_pos hc137]; exact A70)⟩
        · -- pc 103 not taken: p1 = (3 : Int32)
          refine Run.iconst (5 : Int32) d2_106 (by decide) (pc' := 107) rfl ?_
          refine Run.newP (ty := .int) (m := 5) (cap := 5) (dv := (.int (0 : Int32))) (k' := 1) (n' := 5) d2_107 rfl (hw _ (List.mem_of_getElem? (i := 9) rfl)) (by decide) (by decide) (Nat.le_refl _) rfl (by decide) (by decide) (by decide) (by decide) (by decide) (pc' := 109) rfl ?_
          intro h71 b71 g71 E71 A71
          have ge_b71 : n0 ≤ b71 := by rw [g71]; exact Z0
          have bo_b71 : h0.size ≤ b71 := by rw [g71]; exact (Keep.refl h0 []).1
          have sz71 : n0 ≤ h71.size := Nat.le_trans Z0 E71.1
          have kp71 := Keep.ext (Keep.refl h0 []) E71
          replace A71 : Ary Z h71 b71 .int [(.int (0 : Int32)), (.int (0 : Int32)), (.int (0 : Int32)), (.int (0 : Int32)), (.int (0 : Int32))] := A71
          refine Run.dup d2_109 rfl (pc' := 110) rfl ?_
          refine Run.iconst (0 : Int32) d2_110 (by decide) (pc' := 111) rfl ?_
          refine Run.ldcI (v := (802480582 : Int32)) d2_111 (hw _ (List.mem_of_getElem? (i := 15) rfl)) (pc' := 113) rfl ?_
          refine Run.iastore (i := 0) d2_113 A71 (by decide) (by show (0 : Nat) < 5; decide) ge_b71 (pc' := 114) rfl ?_
          intro h72 W72 A72
          replace A72 : Ary Z h72 b71 .int [(.int (802480582 : Int32)), (.int (0 : Int32)), (.int (0 : Int32)), (.int (0 : Int32)), (.int (0 : Int32))] := A72
          have sz72 : n0 ≤ h72.size := by rw [W72.size]; exact sz71
          have kp72 := Keep.wr kp71 W72 (Or.inr bo_b71)
          refine Run.dup d2_114 rfl (pc' := 115) rfl ?_
          refine Run.iconst (1 : Int32) d2_115 (by decide) (pc' := 116) rfl ?_
          refine Run.ldcI (v := (2049779964 : Int32)) d2_116 (hw _ (List.mem_of_getElem? (i := 16) rfl)) (pc' := 118) rfl ?_
          refine Run.iastore (i := 1) d2_118 A72 (by decide) (by show (1 : Nat) < 5; decide) ge_b71 (pc' := 119) rfl ?_
          intro h73 W73 A73
          replace A73 : Ary Z h73 b71 .int [(.int (802480582 : Int32)), (.int (2049779964 : Int32)), (.int (0 : Int32)), (.int (0 : Int32)), (.int (0 : Int32))] := A73
          have sz73 : n0 ≤ h73.size := by rw [W73.size]; exact sz72
          have kp73 := Keep.wr kp72 W73 (Or.inr bo_b71)
          refine Run.dup d2_119 rfl (pc' := 120) rfl ?_
          refine Run.iconst (2 : Int32) d2_120 (by decide) (pc' := 121) rfl ?_
          refine Run.ldcI (v := (-310075679 : Int32)) d2_121 (hw _ (List.mem_of_getElem? (i := 17) rfl)) (pc' := 123) rfl ?_
          refine Run.iastore (i := 2) d2_123 A73 (by decide) (by show (2 : Nat) < 5; decide) ge_b71 (pc' := 124) rfl ?_
          intro h74 W74 A74
          replace A74 : Ary Z h74 b71 .int [(.int (802480582 : Int32)), (.int (2049779964 : Int32)), (.int (-310075679 : Int32)), (.int (0 : Int32)), (.int (0 : Int32))] := A74
          have sz74 : n0 ≤ h74.size := by rw [W74.size]; exact sz73
          have kp74 := Keep.wr kp73 W74 (Or.inr bo_b71)
          refine Run.dup d2_124 rfl (pc' := 125) rfl ?_
          refine Run.iconst (3 : Int32) d2_125 (by decide) (pc' := 126) rfl ?_
          refine Run.ldcI (v := (-1149835463 : Int32)) d2_126 (hw _ (List.mem_of_getElem? (i := 18) rfl)) (pc' := 128) rfl ?_
          refine Run.iastore (i := 3) d2_128 A74 (by decide) (by show (3 : Nat) < 5; decide) ge_b71 (pc' := 129) rfl ?_
          intro h75 W75 A75
          replace A75 : Ary Z h75 b71 .int [(.int (802480582 : Int32)), (.int (2049779964 : Int32)), (.int (-310075679 : Int32)), (.int (-1149835463 : Int32)), (.int (0 : Int32))] := A75
          have sz75 : n0 ≤ h75.size := by rw [W75.size]; exact sz74
          have kp75 := Keep.wr kp74 W75 (Or.inr bo_b71)
          refine Run.dup d2_129 rfl (pc' := 130) rfl ?_
          refine Run.iconst (4 : Int32) d2_130 (by decide) (pc' := 131) rfl ?_
          refine Run.ldcI (v := (462678802 : Int32)) d2_131 (hw _ (List.mem_of_getElem? (i := 19) rfl)) (pc' := 133) rfl ?_
          refine Run.iastore (i := 4) d2_133 A75 (by decide) (by show (4 : Nat) < 5; decide) ge_b71 (pc' := 134) rfl ?_
          intro h76 W76 A76
          replace A76 : Ary Z h76 b71 .int [(.int (802480582 : Int32)), (.int (2049779964 : Int32)), (.int (-310075679 : Int32)), (.int (-1149835463 : Int32)), (.int (462678802 : Int32))] := A76
          have sz76 : n0 ≤ h76.size := by rw [W76.size]; exact sz75
          have kp76 := Keep.wr kp75 W76 (Or.inr bo_b71)
          exact Run.areturn d2_134 (ty := (.array .int)) rfl rfl rfl (by decide) (by decide) ⟨_, rfl, b71, rfl, bo_b71, Keep.toExt kp76, (by unfold own_exp; rw [if_neg hc1, if_neg hc35, if_neg hc69, if_pos hc103]; exact A76)⟩
      · -- pc 69 not taken: p1 = (2 : Int32)
        refine Run.iconst (5 : Int32) d2_72 (by decide) (pc' := 73) rfl ?_
        refine Run.newP (ty := .int) (m := 5) (cap := 5) (dv := (.int (0 : Int32))) (k' := 1) (n' := 5) d2_73 rfl (hw _ (List.mem_of_getElem? (i := 9) rfl)) (by decide) (by decide) (Nat.le_refl _) rfl (by decide) (by decide) (by decide) (by decide) (by decide) (pc' := 75) rfl ?_
        intro h77 b77 g77 E77 A77
        have ge_b77 : n0 ≤ b77 := by rw [g77]; exact Z0
        have bo_b77 : h0.size ≤ b77 := by rw [g77]; exact (Keep.refl h0 []).1
        have sz77 : n0 ≤ h77.size := Nat.le_trans Z0 E77.1
        have kp77 := Keep.ext (Keep.refl h0 []) E77
        replace A77 : Ary Z h77 b77 .int [(.int (0 : Int32)), (.int (0 : Int32)), (.int (0 : Int32)), (.int (0 : Int32)), (.int (0 : Int32))] := A77
        refine Run.dup d2_75 rfl (pc' := 76) rfl ?_
        refine Run.iconst (0 : Int32) d2_76 (by decide) (pc' := 77) rfl ?_
        refine Run.ldcI (v := (-1449574858 : Int32)) d2_77 (hw _ (List.mem_of_getElem? (i := 67) rfl)) (pc' := 79) rfl ?_
        refine Run.iastore (i := 0) d2_79 A77 (by decide) (by show (0 : Nat) < 5; decide) ge_b77 (pc' := 80) rfl ?_
        intro h78 W78 A78
        replace A78 : Ary Z h78 b77 .int [(.int (-1449574858 : Int32)), (.int (0 : Int32)), (.int (0 : Int32)), (.int (0 : Int32)), (.int (0 : Int32))] := A78
        have sz78 : n0 ≤ h78.size := by rw [W78.size]; exact sz77
        have kp78 := Keep.wr kp77 W78 (Or.inr bo_b77)
        refine Run.dup d2_80 rfl (pc' := 81) rfl ?_
        refine Run.iconst (1 : Int32) d2_81 (by decide) (pc' := 82) rfl ?_
        refine Run.ldcI (v := (1191608682 : Int32)) d2_82 (hw _ (List.mem_of_getElem? (i := 68) rfl)) (pc' := 84) rfl ?_
        refine Run.iastore (i := 1) d2_84 A78 (by decide) (by show (1 : Nat) < 5; decide) ge_b77 (pc' := 85) rfl ?_
        intro h79 W79 A79
        replace A79 : Ary Z h79 b77 .int [(.int (-1449574858 : Int32)), (.int (1191608682 : Int32)), (.int (0 : Int32)), (.int (0 : Int32)), (.int (0 : Int32))] := A79
        have sz79 : n0 ≤ h79.size := by rw [W79.size]; exact sz78
        have kp79 := Keep.wr kp78 W79 (Or.inr bo_b77)
        refine Run.dup d2_85 rfl (pc' := 86) rfl ?_
        refine Run.iconst (2 : Int32) d2_86 (by decide) (pc' := 87) rfl ?_
        refine Run.ldcI (v := (-1170332303 : Int32)) d2_87 (hw _ (List.mem_of_getElem? (i := 69) rfl)) (pc' := 89) rfl ?_
        refine Run.iastore (i := 2) d2_89 A79 (by decide) (by show (2 : Nat) < 5; decide) ge_b77 (pc' := 90) rfl ?_
        intro h80 W80 A80
        replace A80 : Ary Z h80 b77 .int [(.int (-1449574858 : Int32)), (.int (1191608682 : Int32)), (.int (-1170332303 : Int32)), (.int (0 : Int32)), (.int (0 : Int32))] := A80
        have sz80 : n0 ≤ h80.size := by rw [W80.size]; exact sz79
        have kp80 := Keep.wr kp79 W80 (Or.inr bo_b77)
        refine Run.dup d2_90 rfl (pc' := 91) rfl ?_
        refine Run.iconst (3 : Int32) d2_91 (by decide) (pc' := 92) rfl ?_
        refine Run.ldcI (v := (2018558572 : Int32)) d2_92 (hw _ (List.mem_of_getElem? (i := 70) rfl)) (pc' := 94) rfl ?_
        refine Run.iastore (i := 3) d2_94 A80 (by decide) (by show (3 : Nat) < 5; decide) ge_b77 (pc' := 95) rfl ?_
        intro h81 W81 A81
        replace A81 : Ary Z h81 b77 .int [(.int (-1449574858 : Int32)), (.int (1191608682 : Int32)), (.int (-1170332303 : Int32)), (.int (2018558572 : Int32)), (.int (0 : Int32))] := A81
        have sz81 : n0 ≤ h81.size := by rw [W81.size]; exact sz80
        have kp81 := Keep.wr kp80 W81 (Or.inr bo_b77)
        refine Run.dup d2_95 rfl (pc' := 96) rfl ?_
        refine Run.iconst (4 : Int32) d2_96 (by decide) (pc' := 97) rfl ?_
        refine Run.ldcI (v := (-1664034659 : Int32)) d2_97 (hw _ (List.mem_of_getElem? (i := 71) rfl)) (pc' := 99) rfl ?_
        refine Run.iastore (i := 4) d2_99 A81 (by decide) (by show (4 : Nat) < 5; decide) ge_b77 (pc' := 100) rfl ?_
        intro h82 W82 A82
        replace A82 : Ary Z h82 b77 .int [(.int (-1449574858 : Int32)), (.int (1191608682 : Int32)), (.int (-1170332303 : Int32)), (.int (2018558572 : Int32)), (.int (-1664034659 : Int32))] := A82
        have sz82 : n0 ≤ h82.size := by rw [W82.size]; exact sz81
        have kp82 := Keep.wr kp81 W82 (Or.inr bo_b77)
        exact Run.areturn d2_100 (ty := (.array .int)) rfl rfl rfl (by decide) (by decide) ⟨_, rfl, b77, rfl, bo_b77, Keep.toExt kp82, (by unfold own_exp; rw [if_neg hc1, if_neg hc35, if_pos hc69]; exact A82)⟩
    · -- pc 35 not taken: p1 = (1 : Int32)
      refine Run.iconst (5 : Int32) d2_38 (by decide) (pc' := 39) rfl ?_
      refine Run.newP (ty := .int) (m := 5) (cap := 5) (dv := (.int (0 : Int32))) (k' := 1) (n' := 5) d2_39 rfl (hw _ (List.mem_of_getElem? (i := 9) rfl)) (by decide) (by decide) (Nat.le_refl _) rfl (by decide) (by decide) (by decide) (by decide) (by decide) (pc' := 41) rfl ?_
      intro h83 b83 g83 E83 A83
      have ge_b83 : n0 ≤ b83 := by rw [g83]; exact Z0
      have bo_b83 : h0.size ≤ b83 := by rw [g83]; exact (Keep.refl h0 []).1
      have sz83 : n0 ≤ h83.size := Nat.le_trans Z0 E83.1
      have kp83 := Keep.ext (Keep.refl h0 []) E83
      replace A83 : Ary Z h83 b83 .int [(.int (0 : Int32)), (.int (0 : Int32)), (.int (0 : Int32)), (.int (0 : Int32)), (.int (0 : Int32))] := A83
      refine Run.dup d2_41 rfl (pc' := 42) rfl ?_
      refine Run.iconst (0 : Int32) d2_42 (by decide) (pc' := 43) rfl ?_
      refine Run.ldcI (v := (-2030574537 : Int32)) d2_43 (hw _ (List.mem_of_getElem? (i := 57) rfl)) (pc' := 45) rfl ?_
      refine Run.iastore (i := 0) d2_45 A83 (by decide) (by show (0 : Nat) < 5; decide) ge_b83 (pc' := 46) rfl ?_
      intro h84 W84 A84
      replace A84 : Ary Z h84 b83 .int [(.int (-2030574537 : Int32)), (.int (0 : Int32)), (.int (0 : Int32)), (.int (0 : Int32)), (.int (0 : Int32))] := A84
      have sz84 : n0 ≤ h84.size := by rw [W84.size]; exact sz83
      have kp84 := Keep.wr kp83 W84 (Or.inr bo_b83)
      refine Run.dup d2_46 rfl (pc' := 47) rfl ?_
      refine Run.iconst (1 : Int32) d2_47 (by decide) (pc' := 48) rfl ?_
      refine Run.ldcI (v := (-89806852 : Int32)) d2_48 (hw _ (List.mem_of_getElem? (i := 58) rfl)) (pc' := 50) rfl ?_
      refine Run.iastore (i := 1) d2_50 A84 (by decide) (by show (1 : Nat) < 5; decide) ge_b83 (pc' := 51) rfl ?_
      intro h85 W85 A85
      replace A85 : Ary Z h85 b83 .int [(.int (-2030574537 : Int32)), (.int (-89806852 : Int32)), (.int (0 : Int32)), (.int (0 : Int32)), (.int (0 : Int32))] := A85
      have sz85 : n0 ≤ h85.size := by rw [W85.size]; exact sz84
      have kp85 := Keep.wr kp84 W85 (Or.inr bo_b83)
      refine Run.dup d2_51 rfl (pc' := 52) rfl ?_
      refine Run.iconst (2 : Int32) d2_52 (by decide) (pc' := 53) rfl ?_
      refine Run.ldcI (v := (-513991204 : Int32)) d2_53 (hw _ (List.mem_of_getElem? (i := 59) rfl)) (pc' := 55) rfl ?_
      refine Run.iastore (i := 2) d2_55 A85 (by decide) (by show (2 : Nat) < 5; decide) ge_b83 (pc' := 56) rfl ?_
      intro h86 W86 A86
      replace A86 : Ary Z h86 b83 .int [(.int (-2030574537 : Int32)), (.int (-89806852 : Int32)), (.int (-513991204 : Int32)), (.int (0 : Int32)), (.int (0 : Int32))] := A86
      have sz86 : n0 ≤ h86.size := by rw [W86.size]; exact sz85
      have kp86 := Keep.wr kp85 W86 (Or.inr bo_b83)
      refine Run.dup d2_56 rfl (pc' := 57) rfl ?_
      refine Run.iconst (3 : Int32) d2_57 (by decide) (pc' := 58) rfl ?_
      refine Run.ldcI (v := (-1175786774 : Int32)) d2_58 (hw _ (List.mem_of_getElem? (i := 60) rfl)) (pc' := 60) rfl ?_
      refine Run.iastore (i := 3) d2_60 A86 (by decide) (by show (3 : Nat) < 5; decide) ge_b83 (pc' := 61) rfl ?_
      intro h87 W87 A87
      replace A87 : Ary Z h87 b83 .int [(.int (-2030574537 : Int32)), (.int (-89806852 : Int32)), (.int (-513991204 : Int32)), (.int (-1175786774 : Int32)), (.int (0 : Int32))] := A87
      have sz87 : n0 ≤ h87.size := by rw [W87.size]; exact sz86
      have kp87 := Keep.wr kp86 W87 (Or.inr bo_b83)
      refine Run.dup d2_61 rfl (pc' := 62) rfl ?_
      refine Run.iconst (4 : Int32) d2_62 (by decide) (pc' := 63) rfl ?_
      refine Run.ldcI (v := (930506680 : Int32)) d2_63 (hw _ (List.mem_of_getElem? (i := 61) rfl)) (pc' := 65) rfl ?_
      refine Run.iastore (i := 4) d2_65 A87 (by decide) (by show (4 : Nat) < 5; decide) ge_b83 (pc' := 66) rfl ?_
      intro h88 W88 A88
      replace A88 : Ary Z h88 b83 .int [(.int (-2030574537 : Int32)), (.int (-89806852 : Int32)), (.int (-513991204 : Int32)), (.int (-1175786774 : Int32)), (.int (930506680 : Int32))] := A88
      have sz88 : n0 ≤ h88.size := by rw [W88.size]; exact sz87
      have kp88 := Keep.wr kp87 W88 (Or.inr bo_b83)
      exact Run.areturn d2_66 (ty := (.array .int)) rfl rfl rfl (by decide) (by decide) ⟨_, rfl, b83, rfl, bo_b83, Keep.toExt kp88, (by unfold own_exp; rw [if_neg hc1, if_pos hc35]; exact A88)⟩
  · -- pc 1 not taken: p1 = (0 : Int32)
    refine Run.iconst (5 : Int32) d2_4 (by decide) (pc' := 5) rfl ?_
    refine Run.newP (ty := .int) (m := 5) (cap := 5) (dv := (.int (0 : Int32))) (k' := 1) (n' := 5) d2_5 rfl (hw _ (List.mem_of_getElem? (i := 9) rfl)) (by decide) (by decide) (Nat.le_refl _) rfl (by decide) (by decide) (by decide) (by decide) (by decide) (pc' := 7) rfl ?_
    intro h89 b89 g89 E89 A89
    have ge_b89 : n0 ≤ b89 := by rw [g89]; exact Z0
    have bo_b89 : h0.size ≤ b89 := by rw [g89]; exact (Keep.refl h0 []).1
    have sz89 : n0 ≤ h89.size := Nat.le_trans Z0 E89.1
    have kp89 := Keep.ext (Keep.refl h0 []) E89
    replace A89 : Ary Z h89 b89 .int [(.int (0 : Int32)), (.int (0 : Int32)), (.int (0 : Int32)), (.int (0 : Int32)), (.int (0 : Int32))] := A89
    refine Run.dup d2_7 rfl (pc' := 8) rfl ?_
    refine Run.iconst (0 : Int32) d2_8 (by decide) (pc' := 9) rfl ?_
    refine Run.ldcI (v := (-633756690 : Int32)) d2_9 (hw _ (List.mem_of_getElem? (i := 10) rfl)) (pc' := 11) rfl ?_
    refine Run.iastore (i := 0) d2_11 A89 (by decide) (by show (0 : Nat) < 5; decide) ge_b89 (pc' := 12) rfl ?_
    intro h90 W90 A90
    replace A90 : Ary Z h90 b89 .int [(.int (-633756690 : Int32)), (.int (0 : Int32)), (.int (0 : Int32)), (.int (0 : Int32)), (.int (0 : Int32))] := A90
    have sz90 : n0 ≤ h90.size := by rw [W90.size]; exact sz89
    have kp90 := Keep.wr kp89 W90 (Or.inr bo_b89)
    refine Run.dup d2_12 rfl (pc' := 13) rfl ?_
    refine Run.iconst (1 : Int32) d2_13 (by decide) (pc' := 14) rfl ?_
    refine Run.ldcI (v := (1584089869 : Int32)) d2_14 (hw _ (List.mem_of_getElem? (i := 11) rfl)) (pc' := 16) rfl ?_
    refine Run.iastore (i := 1) d2_16 A90 (by decide) (by show (1 : Nat) < 5; decide) ge_b89 (pc' := 17) rfl ?_
    intro h91 W91 A91
    replace A91 : Ary Z h91 b89 .int [(.int (-633756690 : Int32)), (.int (1584089869 : Int32)), (.int (0 : Int32)), (.int (0 : Int32)), (.int (0 : Int32))] := A91
    have sz91 : n0 ≤ h91.size := by rw [W91.size]; exact sz90
    have kp91 := Keep.wr kp90 W91 (Or.inr bo_b89)
    refine Run.dup d2_17 rfl (pc' := 18) rfl ?_
    refine Run.iconst (2 : Int32) d2_18 (by decide) (pc' := 19) rfl ?_
    refine Run.ldcI (v := (844480495 : Int32)) d2_19 (hw _ (List.mem_of_getElem? (i := 12) rfl)) (pc' := 21) rfl ?_
    refine Run.iastore (i := 2) d2_21 A91 (by decide) (by show (2 : Nat) < 5; decide) ge_b89 (pc' := 22) rfl ?_
    intro h92 W92 A92
    replace A92 : Ary Z h92 b89 .int [(.int (-633756690 : Int32)), (.int (1584089869 : Int32)), (.int (844480495 : Int32)), (.int (0 : Int32)), (.int (0 : Int32))] := A92
    have sz92 : n0 ≤ h92.size := by rw [W92.size]; exact sz91
    have kp92 := Keep.wr kp91 W92 (Or.inr bo_b89)
    refine Run.dup d2_22 rfl (pc' := 23) rfl ?_
    refine Run.iconst (3 : Int32) d2_23 (by decide) (pc' := 24) rfl ?_
    refine Run.ldcI (v := (-1788864368 : Int32)) d2_24 (hw _ (List.mem_of_getElem? (i := 13) rfl)) (pc' := 26) rfl ?_
    refine Run.iastore (i := 3) d2_26 A92 (by decide) (by show (3 : Nat) < 5; decide) ge_b89 (pc' := 27) rfl ?_
    intro h93 W93 A93
    replace A93 : Ary Z h93 b89 .int [(.int (-633756690 : Int32)), (.int (1584089869 : Int32)), (.int (844480495 : Int32)), (.int (-1788864368 : Int32)), (.int (0 : Int32))] := A93
    have sz93 : n0 ≤ h93.size := by rw [W93.size]; exact sz92
    have kp93 := Keep.wr kp92 W93 (Or.inr bo_b89)
    refine Run.dup d2_27 rfl (pc' := 28) rfl ?_
    refine Run.iconst (4 : Int32) d2_28 (by decide) (pc' := 29) rfl ?_
    refine Run.ldcI (v := (-1344796919 : Int32)) d2_29 (hw _ (List.mem_of_getElem? (i := 14) rfl)) (pc' := 31) rfl ?_
    refine Run.iastore (i := 4) d2_31 A93 (by decide) (by show (4 : Nat) < 5; decide) ge_b89 (pc' := 32) rfl ?_
    intro h94 W94 A94
    replace A94 : Ary Z h94 b89 .int [(.int (-633756690 : Int32)), (.int (1584089869 : Int32)), (.int (844480495 : Int32)), (.int (-1788864368 : Int32)), (.int (-1344796919 : Int32))] := A94
    have sz94 : n0 ≤ h94.size := by rw [W94.size]; exact sz93
    have kp94 := Keep.wr kp93 W94 (Or.inr bo_b89)
    exact Run.areturn d2_32 (ty := (.array .int)) rfl rfl rfl (by decide) (by decide) ⟨_, rfl, b89, rfl, bo_b89, Keep.toExt kp94, (by unfold own_exp; rw [if_pos hc1]; exact A94)⟩
def own_fill (L : List Int32) (i : Nat) : List Value := (L.take i).map Value.int ++ List.replicate (L.length - i) (.int (0 : Int32))
theorem own_fs {L : List Int32} {i : Nat} {c : Int32} (h : L[i]? = some c) : (own_fill L i).set i (.int c) = own_fill L (i + 1) := by
  have hi : i < L.length := (List.getElem?_eq_some_iff.mp h).1
  have e2 : L[i] = c := (List.getElem?_eq_some_iff.mp h).2
  have e1 : L.length - i = (L.length - (i + 1)) + 1 := by omega
  unfold own_fill
  rw [e1, List.replicate_succ]
  have l1 : ((L.take i).map Value.int).length = i := by simp; omega
  rw [List.set_append_right _ _ (by omega), l1, Nat.sub_self, List.set_cons_zero, List.take_succ_eq_append_getElem hi]
  simp [e2]
section Fill
variable {l : Launch} {Z : State} {n0 : Nat} {own : String} {code : ByteArray} {maxL : Nat} {ret : Option FieldType} {nm : String} {R : Room} {Q : Option Value → Heap → Prop} {pc pc' : Nat} {Ls : Array Slot} {st : List Value} {k n : Nat} {a : Addr} {h0 : Heap} {L : List Int32} {i j : Nat} {ii c : Int32} {i' c' : Int}
theorem own_bf {h : Heap} (d4 : decode code pc = .ok (.bastore, 1)) (hii : ii.toInt = (i : Int)) (hcb : nar .byte c = c) (hL : L[i]? = some c) (ga : n0 ≤ a) (ba : h0.size ≤ a) (hj : i + 1 = j) (hp : pc + 1 = pc')
    (nxt : ∀ h, Ary Z h a .byte (own_fill L j) → n0 ≤ h.size → Ext h0 h → Run l Z n0 own code maxL ret nm R Q pc' Ls st h k n)
    (A : Ary Z h a .byte (own_fill L i)) (sz : n0 ≤ h.size) (E : Ext h0 h) : Run l Z n0 own code maxL ret nm R Q pc Ls (.int c :: .int ii :: .ref a :: st) h k n := by
  subst hj
  have hi : i < L.length := (List.getElem?_eq_some_iff.mp hL).1
  refine Run.bastore (i := i) d4 A hii (by simp [own_fill]; omega) ga hp (fun h' W A' => ?_)
  rw [hcb, own_fs hL] at A'
  exact nxt h' A' (by rw [W.size]; exact sz) (Ext.wr E W ba)
theorem own_bfB (d1 : decode code pc = .ok (.dup, 1)) (d2 : decode code (pc + 1) = .ok (.bipush i', 2)) (d3 : decode code (pc + 3) = .ok (.bipush c', 2)) (d4 : decode code (pc + 5) = .ok (.bastore, 1)) (hi : (Int8.ofInt i').toInt32 = ii) (hii : ii.toInt = (i : Int)) (hc : (Int8.ofInt c').toInt32 = c) (hcb : nar .byte c = c) (hL : L[i]? = some c) (ga : n0 ≤ a) (ba : h0.size ≤ a) (hj : i + 1 = j) (hp : pc + 6 = pc')
    (nxt : ∀ h, Ary Z h a .byte (own_fill L j) → n0 ≤ h.size → Ext h0 h → Run l Z n0 own code maxL ret nm R Q pc' Ls (.ref a :: st) h k n) :
    ∀ h, Ary Z h a .byte (own_fill L i) → n0 ≤ h.size → Ext h0 h → Run l Z n0 own code maxL ret nm R Q pc Ls (.ref a :: st) h k n := fun h A sz E =>
  Run.dup d1 rfl rfl (Run.bipush ii d2 hi rfl (Run.bipush c d3 hc rfl (own_bf d4 hii hcb hL ga ba hj hp nxt A sz E)))
theorem own_bfI (d1 : decode code pc = .ok (.dup, 1)) (d2 : decode code (pc + 1) = .ok (.iconst i', 1)) (d3 : decode code (pc + 2) = .ok (.bipush c', 2)) (d4 : decode code (pc + 4) = .ok (.bastore, 1)) (hi : Int32.ofInt i' = ii) (hii : ii.toInt = (i : Int)) (hc : (Int8.ofInt c').toInt32 = c) (hcb : nar .byte c = c) (hL : L[i]? = some c) (ga : n0 ≤ a) (ba : h0.size ≤ a) (hj : i + 1 = j) (hp : pc + 5 = pc')
    (nxt : ∀ h, Ary Z h a .byte (own_fill L j) → n0 ≤ h.size → Ext h0 h → Run l Z n0 own code maxL ret nm R Q pc' Ls (.ref a :: st) h k n) :
    ∀ h, Ary Z h a .byte (own_fill L i) → n0 ≤ h.size → Ext h0 h → Run l Z n0 own code maxL ret nm R Q pc Ls (.ref a :: st) h k n := fun h A sz E =>
  Run.dup d1 rfl rfl (Run.iconst ii d2 hi rfl (Run.bipush c d3 hc rfl (own_bf d4 hii hcb hL ga ba hj hp nxt A sz E)))
end Fill
def own_m914 : List Int32 := [97, 98, 99, 100, 101, 102, 103, 104, 98, 99, 100, 101, 102, 103, 104, 105, 99, 100, 101, 102, 103, 104, 105, 106, 100, 101, 102, 103, 104, 105, 106, 107, 101, 102, 103, 104, 105, 106, 107, 108, 102, 103, 104, 105, 106, 107, 108, 109, 103, 104, 105, 106, 107, 108, 109, 110, 104, 105, 106, 107, 108, 109, 110, 111, 105, 106, 107, 108, 109, 110, 111, 112, 106, 107, 108, 109, 110, 111, 112, 113, 107, 108, 109, 110, 111, 112, 113, 114, 108, 109, 110, 111, 112, 113, 114, 115, 109, 110, 111, 112, 113, 114, 115, 116, 110, 111, 112, 113, 114, 115, 116, 117]
def own_m579 : List Int32 := [97, 98, 99, 100, 98, 99, 100, 101, 99, 100, 101, 102, 100, 101, 102, 103, 101, 102, 103, 104, 102, 103, 104, 105, 103, 104, 105, 106, 104, 105, 106, 107, 105, 106, 107, 108, 106, 107, 108, 109, 107, 108, 109, 110, 108, 109, 110, 111, 109, 110, 111, 112, 110, 111, 112, 113]
def own_m317 : List Int32 := [84, 104, 101, 32, 113, 117, 105, 99, 107, 32, 98, 114, 111, 119, 110, 32, 102, 111, 120, 32, 106, 117, 109, 112, 115, 32, 111, 118, 101, 114, 32, 116, 104, 101, 32, 108, 97, 122, 121, 32, 99, 111, 103]
def own_m55 : List Int32 := [84, 104, 101, 32, 113, 117, 105, 99, 107, 32, 98, 114, 111, 119, 110, 32, 102, 111, 120, 32, 106, 117, 109, 112, 115, 32, 111, 118, 101, 114, 32, 116, 104, 101, 32, 108, 97, 122, 121, 32, 100, 111, 103]
def own_m30 : List Int32 := [97, 98, 99]
def own_m16 : List Int32 := [97]
def own_msg (p1 : Int32) : List Int32 := if p1 = (0 : Int32) then [] else if p1 = (1 : Int32) then own_m16 else if p1 = (2 : Int32) then own_m30 else if p1 = (3 : Int32) then own_m55 else if p1 = (4 : Int32) then own_m317 else if p1 = (5 : Int32) then own_m579 else own_m914
theorem d1_0 : decode method_4_code 0 = .ok (.iload_n 0, 1) := by decide +kernel
theorem d1_1 : decode method_4_code 1 = .ok (.ifCond .ne 7, 3) := by decide +kernel
theorem d1_4 : decode method_4_code 4 = .ok (.iconst 0, 1) := by decide +kernel
theorem d1_5 : decode method_4_code 5 = .ok (.newarray .byte, 2) := by decide +kernel
theorem d1_7 : decode method_4_code 7 = .ok (.areturn, 1) := by decide +kernel
theorem d1_8 : decode method_4_code 8 = .ok (.iload_n 0, 1) := by decide +kernel
theorem d1_9 : decode method_4_code 9 = .ok (.iconst 1, 1) := by decide +kernel
theorem d1_10 : decode method_4_code 10 = .ok (.if_icmp .ne 12, 3) := by decide +kernel
theorem d1_13 : decode method_4_code 13 = .ok (.iconst 1, 1) := by decide +kernel
theorem d1_14 : decode method_4_code 14 = .ok (.newarray .byte, 2) := by decide +kernel
theorem d1_16 : decode method_4_code 16 = .ok (.dup, 1) := by decide +kernel
theorem d1_17 : decode method_4_code 17 = .ok (.iconst 0, 1) := by decide +kernel
theorem d1_18 : decode method_4_code 18 = .ok (.bipush 97, 2) := by decide +kernel
theorem d1_20 : decode method_4_code 20 = .ok (.bastore, 1) := by decide +kernel
theorem d1_21 : decode method_4_code 21 = .ok (.areturn, 1) := by decide +kernel
theorem d1_22 : decode method_4_code 22 = .ok (.iload_n 0, 1) := by decide +kernel
theorem d1_23 : decode method_4_code 23 = .ok (.iconst 2, 1) := by decide +kernel
theorem d1_24 : decode method_4_code 24 = .ok (.if_icmp .ne 22, 3) := by decide +kernel
theorem d1_27 : decode method_4_code 27 = .ok (.iconst 3, 1) := by decide +kernel
theorem d1_28 : decode method_4_code 28 = .ok (.newarray .byte, 2) := by decide +kernel
theorem d1_30 : decode method_4_code 30 = .ok (.dup, 1) := by decide +kernel
theorem d1_31 : decode method_4_code 31 = .ok (.iconst 0, 1) := by decide +kernel
theorem d1_32 : decode method_4_code 32 = .ok (.bipush 97, 2) := by decide +kernel
theorem d1_34 : decode method_4_code 34 = .ok (.bastore, 1) := by decide +kernel
theorem d1_35 : decode method_4_code 35 = .ok (.dup, 1) := by decide +kernel
theorem d1_36 : decode method_4_code 36 = .ok (.iconst 1, 1) := by decide +kernel
theorem d1_37 : decode method_4_code 37 = .ok (.bipush 98, 2) := by decide +kernel
theorem d1_39 : decode method_4_code 39 = .ok (.bastore, 1) := by decide +kernel
theorem d1_40 : decode method_4_code 40 = .ok (.dup, 1) := by decide +kernel
theorem d1_41 : decode method_4_code 41 = .ok (.iconst 2, 1) := by decide +kernel
theorem d1_42 : decode method_4_code 42 = .ok (.bipush 99, 2) := by decide +kernel
theorem d1_44 : decode method_4_code 44 = .ok (.bastore, 1) := by decide +kernel
theorem d1_45 : decode method_4_code 45 = .ok (.areturn, 1) := by decide +kernel
theorem d1_46 : decode method_4_code 46 = .ok (.iload_n 0, 1) := by decide +kernel
theorem d1_47 : decode method_4_code 47 = .ok (.iconst 3, 1) := by decide +kernel
theorem d1_48 : decode method_4_code 48 = .ok (.if_icmp .ne 260, 3) := by decide +kernel
theorem d1_51 : decode method_4_code 51 = .ok (.bipush 43, 2) := by decide +kernel
theorem d1_53 : decode method_4_code 53 = .ok (.newarray .byte, 2) := by decide +kernel
theorem d1_55 : decode method_4_code 55 = .ok (.dup, 1) := by decide +kernel
theorem d1_56 : decode method_4_code 56 = .ok (.iconst 0, 1) := by decide +kernel
theorem d1_57 : decode method_4_code 57 = .ok (.bipush 84, 2) := by decide +kernel
theorem d1_59 : decode method_4_code 59 = .ok (.bastore, 1) := by decide +kernel
theorem d1_60 : decode method_4_code 60 = .ok (.dup, 1) := by decide +kernel
theorem d1_61 : decode method_4_code 61 = .ok (.iconst 1, 1) := by decide +kernel
theorem d1_62 : decode method_4_code 62 = .ok (.bipush 104, 2) := by decide +kernel
theorem d1_64 : decode method_4_code 64 = .ok (.bastore, 1) := by decide +kernel
theorem d1_65 : decode method_4_code 65 = .ok (.dup, 1) := by decide +kernel
theorem d1_66 : decode method_4_code 66 = .ok (.iconst 2, 1) := by decide +kernel
theorem d1_67 : decode method_4_code 67 = .ok (.bipush 101, 2) := by decide +kernel
theorem d1_69 : decode method_4_code 69 = .ok (.bastore, 1) := by decide +kernel
theorem d1_70 : decode method_4_code 70 = .ok (.dup, 1) := by decide +kernel
theorem d1_71 : decode method_4_code 71 = .ok (.iconst 3, 1) := by decide +kernel
theorem d1_72 : decode method_4_code 72 = .ok (.bipush 32, 2) := by decide +kernel
theorem d1_74 : decode method_4_code 74 = .ok (.bastore, 1) := by decide +kernel
theorem d1_75 : decode method_4_code 75 = .ok (.dup, 1) := by decide +kernel
theorem d1_76 : decode method_4_code 76 = .ok (.iconst 4, 1) := by decide +kernel
theorem d1_77 : decode method_4_code 77 = .ok (.bipush 113, 2) := by decide +kernel
theorem d1_79 : decode method_4_code 79 = .ok (.bastore, 1) := by decide +kernel
theorem d1_80 : decode method_4_code 80 = .ok (.dup, 1) := by decide +kernel
theorem d1_81 : decode method_4_code 81 = .ok (.iconst 5, 1) := by decide +kernel
theorem d1_82 : decode method_4_code 82 = .ok (.bipush 117, 2) := by decide +kernel
theorem d1_84 : decode method_4_code 84 = .ok (.bastore, 1) := by decide +kernel
theorem d1_85 : decode method_4_code 85 = .ok (.dup, 1) := by decide +kernel
theorem d1_86 : decode method_4_code 86 = .ok (.bipush 6, 2) := by decide +kernel
theorem d1_88 : decode method_4_code 88 = .ok (.bipush 105, 2) := by decide +kernel
theorem d1_90 : decode method_4_code 90 = .ok (.bastore, 1) := by decide +kernel
theorem d1_91 : decode method_4_code 91 = .ok (.dup, 1) := by decide +kernel
theorem d1_92 : decode method_4_code 92 = .ok (.bipush 7, 2) := by decide +kernel
theorem d1_94 : decode method_4_code 94 = .ok (.bipush 99, 2) := by decide +kernel
theorem d1_96 : decode method_4_code 96 = .ok (.bastore, 1) := by decide +kernel
theorem d1_97 : decode method_4_code 97 = .ok (.dup, 1) := by decide +kernel
theorem d1_98 : decode method_4_code 98 = .ok (.bipush 8, 2) := by decide +kernel
theorem d1_100 : decode method_4_code 100 = .ok (.bipush 107, 2) := by decide +kernel
theorem d1_102 : decode method_4_code 102 = .ok (.bastore, 1) := by decide +kernel
theorem d1_103 : decode method_4_code 103 = .ok (.dup, 1) := by decide +kernel
theorem d1_104 : decode method_4_code 104 = .ok (.bipush 9, 2) := by decide +kernel
theorem d1_106 : decode method_4_code 106 = .ok (.bipush 32, 2) := by decide +kernel
theorem d1_108 : decode method_4_code 108 = .ok (.bastore, 1) := by decide +kernel
theorem d1_109 : decode method_4_code 109 = .ok (.dup, 1) := by decide +kernel
theorem d1_110 : decode method_4_code 110 = .ok (.bipush 10, 2) := by decide +kernel
theorem d1_112 : decode method_4_code 112 = .ok (.bipush 98, 2) := by decide +kernel
theorem d1_114 : decode method_4_code 114 = .ok (.bastore, 1) := by decide +kernel
theorem d1_115 : decode method_4_code 115 = .ok (.dup, 1) := by decide +kernel
theorem d1_116 : decode method_4_code 116 = .ok (.bipush 11, 2) := by decide +kernel
theorem d1_118 : decode method_4_code 118 = .ok (.bipush 114, 2) := by decide +kernel
theorem d1_120 : decode method_4_code 120 = .ok (.bastore, 1) := by decide +kernel
theorem d1_121 : decode method_4_code 121 = .ok (.dup, 1) := by decide +kernel
theorem d1_122 : decode method_4_code 122 = .ok (.bipush 12, 2) := by decide +kernel
theorem d1_124 : decode method_4_code 124 = .ok (.bipush 111, 2) := by decide +kernel
theorem d1_126 : decode method_4_code 126 = .ok (.bastore, 1) := by decide +kernel
theorem d1_127 : decode method_4_code 127 = .ok (.dup, 1) := by decide +kernel
theorem d1_128 : decode method_4_code 128 = .ok (.bipush 13, 2) := by decide +kernel
theorem d1_130 : decode method_4_code 130 = .ok (.bipush 119, 2) := by decide +kernel
theorem d1_132 : decode method_4_code 132 = .ok (.bastore, 1) := by decide +kernel
theorem d1_133 : decode method_4_code 133 = .ok (.dup, 1) := by decide +kernel
theorem d1_134 : decode method_4_code 134 = .ok (.bipush 14, 2) := by decide +kernel
theorem d1_136 : decode method_4_code 136 = .ok (.bipush 110, 2) := by decide +kernel
theorem d1_138 : decode method_4_code 138 = .ok (.bastore, 1) := by decide +kernel
theorem d1_139 : decode method_4_code 139 = .ok (.dup, 1) := by decide +kernel
theorem d1_140 : decode method_4_code 140 = .ok (.bipush 15, 2) := by decide +kernel
theorem d1_142 : decode method_4_code 142 = .ok (.bipush 32, 2) := by decide +kernel
theorem d1_144 : decode method_4_code 144 = .ok (.bastore, 1) := by decide +kernel
theorem d1_145 : decode method_4_code 145 = .ok (.dup, 1) := by decide +kernel
theorem d1_146 : decode method_4_code 146 = .ok (.bipush 16, 2) := by decide +kernel
theorem d1_148 : decode method_4_code 148 = .ok (.bipush 102, 2) := by decide +kernel
theorem d1_150 : decode method_4_code 150 = .ok (.bastore, 1) := by decide +kernel
theorem d1_151 : decode method_4_code 151 = .ok (.dup, 1) := by decide +kernel
theorem d1_152 : decode method_4_code 152 = .ok (.bipush 17, 2) := by decide +kernel
theorem d1_154 : decode method_4_code 154 = .ok (.bipush 111, 2) := by decide +kernel
theorem d1_156 : decode method_4_code 156 = .ok (.bastore, 1) := by decide +kernel
theorem d1_157 : decode method_4_code 157 = .ok (.dup, 1) := by decide +kernel
theorem d1_158 : decode method_4_code 158 = .ok (.bipush 18, 2) := by decide +kernel
theorem d1_160 : decode method_4_code 160 = .ok (.bipush 120, 2) := by decide +kernel
theorem d1_162 : decode method_4_code 162 = .ok (.bastore, 1) := by decide +kernel
theorem d1_163 : decode method_4_code 163 = .ok (.dup, 1) := by decide +kernel
theorem d1_164 : decode method_4_code 164 = .ok (.bipush 19, 2) := by decide +kernel
theorem d1_166 : decode method_4_code 166 = .ok (.bipush 32, 2) := by decide +kernel
theorem d1_168 : decode method_4_code 168 = .ok (.bastore, 1) := by decide +kernel
theorem d1_169 : decode method_4_code 169 = .ok (.dup, 1) := by decide +kernel
theorem d1_170 : decode method_4_code 170 = .ok (.bipush 20, 2) := by decide +kernel
theorem d1_172 : decode method_4_code 172 = .ok (.bipush 106, 2) := by decide +kernel
theorem d1_174 : decode method_4_code 174 = .ok (.bastore, 1) := by decide +kernel
theorem d1_175 : decode method_4_code 175 = .ok (.dup, 1) := by decide +kernel
theorem d1_176 : decode method_4_code 176 = .ok (.bipush 21, 2) := by decide +kernel
theorem d1_178 : decode method_4_code 178 = .ok (.bipush 117, 2) := by decide +kernel
theorem d1_180 : decode method_4_code 180 = .ok (.bastore, 1) := by decide +kernel
theorem d1_181 : decode method_4_code 181 = .ok (.dup, 1) := by decide +kernel
theorem d1_182 : decode method_4_code 182 = .ok (.bipush 22, 2) := by decide +kernel
theorem d1_184 : decode method_4_code 184 = .ok (.bipush 109, 2) := by decide +kernel
theorem d1_186 : decode method_4_code 186 = .ok (.bastore, 1) := by decide +kernel
theorem d1_187 : decode method_4_code 187 = .ok (.dup, 1) := by decide +kernel
theorem d1_188 : decode method_4_code 188 = .ok (.bipush 23, 2) := by decide +kernel
theorem d1_190 : decode method_4_code 190 = .ok (.bipush 112, 2) := by decide +kernel
theorem d1_192 : decode method_4_code 192 = .ok (.bastore, 1) := by decide +kernel
theorem d1_193 : decode method_4_code 193 = .ok (.dup, 1) := by decide +kernel
theorem d1_194 : decode method_4_code 194 = .ok (.bipush 24, 2) := by decide +kernel
theorem d1_196 : decode method_4_code 196 = .ok (.bipush 115, 2) := by decide +kernel
theorem d1_198 : decode method_4_code 198 = .ok (.bastore, 1) := by decide +kernel
theorem d1_199 : decode method_4_code 199 = .ok (.dup, 1) := by decide +kernel
theorem d1_200 : decode method_4_code 200 = .ok (.bipush 25, 2) := by decide +kernel
theorem d1_202 : decode method_4_code 202 = .ok (.bipush 32, 2) := by decide +kernel
theorem d1_204 : decode method_4_code 204 = .ok (.bastore, 1) := by decide +kernel
theorem d1_205 : decode method_4_code 205 = .ok (.dup, 1) := by decide +kernel
theorem d1_206 : decode method_4_code 206 = .ok (.bipush 26, 2) := by decide +kernel
theorem d1_208 : decode method_4_code 208 = .ok (.bipush 111, 2) := by decide +kernel
theorem d1_210 : decode method_4_code 210 = .ok (.bastore, 1) := by decide +kernel
theorem d1_211 : decode method_4_code 211 = .ok (.dup, 1) := by decide +kernel
theorem d1_212 : decode method_4_code 212 = .ok (.bipush 27, 2) := by decide +kernel
theorem d1_214 : decode method_4_code 214 = .ok (.bipush 118, 2) := by decide +kernel
theorem d1_216 : decode method_4_code 216 = .ok (.bastore, 1) := by decide +kernel
theorem d1_217 : decode method_4_code 217 = .ok (.dup, 1) := by decide +kernel
theorem d1_218 : decode method_4_code 218 = .ok (.bipush 28, 2) := by decide +kernel
theorem d1_220 : decode method_4_code 220 = .ok (.bipush 101, 2) := by decide +kernel
theorem d1_222 : decode method_4_code 222 = .ok (.bastore, 1) := by decide +kernel
theorem d1_223 : decode method_4_code 223 = .ok (.dup, 1) := by decide +kernel
theorem d1_224 : decode method_4_code 224 = .ok (.bipush 29, 2) := by decide +kernel
theorem d1_226 : decode method_4_code 226 = .ok (.bipush 114, 2) := by decide +kernel
theorem d1_228 : decode method_4_code 228 = .ok (.bastore, 1) := by decide +kernel
theorem d1_229 : decode method_4_code 229 = .ok (.dup, 1) := by decide +kernel
theorem d1_230 : decode method_4_code 230 = .ok (.bipush 30, 2) := by decide +kernel
theorem d1_232 : decode method_4_code 232 = .ok (.bipush 32, 2) := by decide +kernel
theorem d1_234 : decode method_4_code 234 = .ok (.bastore, 1) := by decide +kernel
theorem d1_235 : decode method_4_code 235 = .ok (.dup, 1) := by decide +kernel
theorem d1_236 : decode method_4_code 236 = .ok (.bipush 31, 2) := by decide +kernel
theorem d1_238 : decode method_4_code 238 = .ok (.bipush 116, 2) := by decide +kernel
theorem d1_240 : decode method_4_code 240 = .ok (.bastore, 1) := by decide +kernel
theorem d1_241 : decode method_4_code 241 = .ok (.dup, 1) := by decide +kernel
theorem d1_242 : decode method_4_code 242 = .ok (.bipush 32, 2) := by decide +kernel
theorem d1_244 : decode method_4_code 244 = .ok (.bipush 104, 2) := by decide +kernel
theorem d1_246 : decode method_4_code 246 = .ok (.bastore, 1) := by decide +kernel
theorem d1_247 : decode method_4_code 247 = .ok (.dup, 1) := by decide +kernel
theorem d1_248 : decode method_4_code 248 = .ok (.bipush 33, 2) := by decide +kernel
theorem d1_250 : decode method_4_code 250 = .ok (.bipush 101, 2) := by decide +kernel
theorem d1_252 : decode method_4_code 252 = .ok (.bastore, 1) := by decide +kernel
theorem d1_253 : decode method_4_code 253 = .ok (.dup, 1) := by decide +kernel
theorem d1_254 : decode method_4_code 254 = .ok (.bipush 34, 2) := by decide +kernel
theorem d1_256 : decode method_4_code 256 = .ok (.bipush 32, 2) := by decide +kernel
theorem d1_258 : decode method_4_code 258 = .ok (.bastore, 1) := by decide +kernel
theorem d1_259 : decode method_4_code 259 = .ok (.dup, 1) := by decide +kernel
theorem d1_260 : decode method_4_code 260 = .ok (.bipush 35, 2) := by decide +kernel
theorem d1_262 : decode method_4_code 262 = .ok (.bipush 108, 2) := by decide +kernel
theorem d1_264 : decode method_4_code 264 = .ok (.bastore, 1) := by decide +kernel
theorem d1_265 : decode method_4_code 265 = .ok (.dup, 1) := by decide +kernel
theorem d1_266 : decode method_4_code 266 = .ok (.bipush 36, 2) := by decide +kernel
theorem d1_268 : decode method_4_code 268 = .ok (.bipush 97, 2) := by decide +kernel
theorem d1_270 : decode method_4_code 270 = .ok (.bastore, 1) := by decide +kernel
theorem d1_271 : decode method_4_code 271 = .ok (.dup, 1) := by decide +kernel
theorem d1_272 : decode method_4_code 272 = .ok (.bipush 37, 2) := by decide +kernel
theorem d1_274 : decode method_4_code 274 = .ok (.bipush 122, 2) := by decide +kernel
theorem d1_276 : decode method_4_code 276 = .ok (.bastore, 1) := by decide +kernel
theorem d1_277 : decode method_4_code 277 = .ok (.dup, 1) := by decide +kernel
theorem d1_278 : decode method_4_code 278 = .ok (.bipush 38, 2) := by decide +kernel
theorem d1_280 : decode method_4_code 280 = .ok (.bipush 121, 2) := by decide +kernel
theorem d1_282 : decode method_4_code 282 = .ok (.bastore, 1) := by decide +kernel
theorem d1_283 : decode method_4_code 283 = .ok (.dup, 1) := by decide +kernel
theorem d1_284 : decode method_4_code 284 = .ok (.bipush 39, 2) := by decide +kernel
theorem d1_286 : decode method_4_code 286 = .ok (.bipush 32, 2) := by decide +kernel
theorem d1_288 : decode method_4_code 288 = .ok (.bastore, 1) := by decide +kernel
theorem d1_289 : decode method_4_code 289 = .ok (.dup, 1) := by decide +kernel
theorem d1_290 : decode method_4_code 290 = .ok (.bipush 40, 2) := by decide +kernel
theorem d1_292 : decode method_4_code 292 = .ok (.bipush 100, 2) := by decide +kernel
theorem d1_294 : decode method_4_code 294 = .ok (.bastore, 1) := by decide +kernel
theorem d1_295 : decode method_4_code 295 = .ok (.dup, 1) := by decide +kernel
theorem d1_296 : decode method_4_code 296 = .ok (.bipush 41, 2) := by decide +kernel
theorem d1_298 : decode method_4_code 298 = .ok (.bipush 111, 2) := by decide +kernel
theorem d1_300 : decode method_4_code 300 = .ok (.bastore, 1) := by decide +kernel
theorem d1_301 : decode method_4_code 301 = .ok (.dup, 1) := by decide +kernel
theorem d1_302 : decode method_4_code 302 = .ok (.bipush 42, 2) := by decide +kernel
theorem d1_304 : decode method_4_code 304 = .ok (.bipush 103, 2) := by decide +kernel
theorem d1_306 : decode method_4_code 306 = .ok (.bastore, 1) := by decide +kernel
theorem d1_307 : decode method_4_code 307 = .ok (.areturn, 1) := by decide +kernel
theorem d1_308 : decode method_4_code 308 = .ok (.iload_n 0, 1) := by decide +kernel
theorem d1_309 : decode method_4_code 309 = .ok (.iconst 4, 1) := by decide +kernel
theorem d1_310 : decode method_4_code 310 = .ok (.if_icmp .ne 260, 3) := by decide +kernel
theorem d1_313 : decode method_4_code 313 = .ok (.bipush 43, 2) := by decide +kernel
theorem d1_315 : decode method_4_code 315 = .ok (.newarray .byte, 2) := by decide +kernel
theorem d1_317 : decode method_4_code 317 = .ok (.dup, 1) := by decide +kernel
theorem d1_318 : decode method_4_code 318 = .ok (.iconst 0, 1) := by decide +kernel
theorem d1_319 : decode method_4_code 319 = .ok (.bipush 84, 2) := by decide +kernel
theorem d1_321 : decode method_4_code 321 = .ok (.bastore, 1) := by decide +kernel
theorem d1_322 : decode method_4_code 322 = .ok (.dup, 1) := by decide +kernel
theorem d1_323 : decode method_4_code 323 = .ok (.iconst 1, 1) := by decide +kernel
theorem d1_324 : decode method_4_code 324 = .ok (.bipush 104, 2) := by decide +kernel
theorem d1_326 : decode method_4_code 326 = .ok (.bastore, 1) := by decide +kernel
theorem d1_327 : decode method_4_code 327 = .ok (.dup, 1) := by decide +kernel
theorem d1_328 : decode method_4_code 328 = .ok (.iconst 2, 1) := by decide +kernel
theorem d1_329 : decode method_4_code 329 = .ok (.bipush 101, 2) := by decide +kernel
theorem d1_331 : decode method_4_code 331 = .ok (.bastore, 1) := by decide +kernel
theorem d1_332 : decode method_4_code 332 = .ok (.dup, 1) := by decide +kernel
theorem d1_333 : decode method_4_code 333 = .ok (.iconst 3, 1) := by decide +kernel
theorem d1_334 : decode method_4_code 334 = .ok (.bipush 32, 2) := by decide +kernel
theorem d1_336 : decode method_4_code 336 = .ok (.bastore, 1) := by decide +kernel
theorem d1_337 : decode method_4_code 337 = .ok (.dup, 1) := by decide +kernel
theorem d1_338 : decode method_4_code 338 = .ok (.iconst 4, 1) := by decide +kernel
theorem d1_339 : decode method_4_code 339 = .ok (.bipush 113, 2) := by decide +kernel
theorem d1_341 : decode method_4_code 341 = .ok (.bastore, 1) := by decide +kernel
theorem d1_342 : decode method_4_code 342 = .ok (.dup, 1) := by decide +kernel
theorem d1_343 : decode method_4_code 343 = .ok (.iconst 5, 1) := by decide +kernel
theorem d1_344 : decode method_4_code 344 = .ok (.bipush 117, 2) := by decide +kernel
theorem d1_346 : decode method_4_code 346 = .ok (.bastore, 1) := by decide +kernel
theorem d1_347 : decode method_4_code 347 = .ok (.dup, 1) := by decide +kernel
theorem d1_348 : decode method_4_code 348 = .ok (.bipush 6, 2) := by decide +kernel
theorem d1_350 : decode method_4_code 350 = .ok (.bipush 105, 2) := by decide +kernel
theorem d1_352 : decode method_4_code 352 = .ok (.bastore, 1) := by decide +kernel
theorem d1_353 : decode method_4_code 353 = .ok (.dup, 1) := by decide +kernel
theorem d1_354 : decode method_4_code 354 = .ok (.bipush 7, 2) := by decide +kernel
theorem d1_356 : decode method_4_code 356 = .ok (.bipush 99, 2) := by decide +kernel
theorem d1_358 : decode method_4_code 358 = .ok (.bastore, 1) := by decide +kernel
theorem d1_359 : decode method_4_code 359 = .ok (.dup, 1) := by decide +kernel
theorem d1_360 : decode method_4_code 360 = .ok (.bipush 8, 2) := by decide +kernel
theorem d1_362 : decode method_4_code 362 = .ok (.bipush 107, 2) := by decide +kernel
theorem d1_364 : decode method_4_code 364 = .ok (.bastore, 1) := by decide +kernel
theorem d1_365 : decode method_4_code 365 = .ok (.dup, 1) := by decide +kernel
theorem d1_366 : decode method_4_code 366 = .ok (.bipush 9, 2) := by decide +kernel
theorem d1_368 : decode method_4_code 368 = .ok (.bipush 32, 2) := by decide +kernel
theorem d1_370 : decode method_4_code 370 = .ok (.bastore, 1) := by decide +kernel
theorem d1_371 : decode method_4_code 371 = .ok (.dup, 1) := by decide +kernel
theorem d1_372 : decode method_4_code 372 = .ok (.bipush 10, 2) := by decide +kernel
theorem d1_374 : decode method_4_code 374 = .ok (.bipush 98, 2) := by decide +kernel
theorem d1_376 : decode method_4_code 376 = .ok (.bastore, 1) := by decide +kernel
theorem d1_377 : decode method_4_code 377 = .ok (.dup, 1) := by decide +kernel
theorem d1_378 : decode method_4_code 378 = .ok (.bipush 11, 2) := by decide +kernel
theorem d1_380 : decode method_4_code 380 = .ok (.bipush 114, 2) := by decide +kernel
theorem d1_382 : decode method_4_code 382 = .ok (.bastore, 1) := by decide +kernel
theorem d1_383 : decode method_4_code 383 = .ok (.dup, 1) := by decide +kernel
theorem d1_384 : decode method_4_code 384 = .ok (.bipush 12, 2) := by decide +kernel
theorem d1_386 : decode method_4_code 386 = .ok (.bipush 111, 2) := by decide +kernel
theorem d1_388 : decode method_4_code 388 = .ok (.bastore, 1) := by decide +kernel
theorem d1_389 : decode method_4_code 389 = .ok (.dup, 1) := by decide +kernel
theorem d1_390 : decode method_4_code 390 = .ok (.bipush 13, 2) := by decide +kernel
theorem d1_392 : decode method_4_code 392 = .ok (.bipush 119, 2) := by decide +kernel
theorem d1_394 : decode method_4_code 394 = .ok (.bastore, 1) := by decide +kernel
theorem d1_395 : decode method_4_code 395 = .ok (.dup, 1) := by decide +kernel
theorem d1_396 : decode method_4_code 396 = .ok (.bipush 14, 2) := by decide +kernel
theorem d1_398 : decode method_4_code 398 = .ok (.bipush 110, 2) := by decide +kernel
theorem d1_400 : decode method_4_code 400 = .ok (.bastore, 1) := by decide +kernel
theorem d1_401 : decode method_4_code 401 = .ok (.dup, 1) := by decide +kernel
theorem d1_402 : decode method_4_code 402 = .ok (.bipush 15, 2) := by decide +kernel
theorem d1_404 : decode method_4_code 404 = .ok (.bipush 32, 2) := by decide +kernel
theorem d1_406 : decode method_4_code 406 = .ok (.bastore, 1) := by decide +kernel
theorem d1_407 : decode method_4_code 407 = .ok (.dup, 1) := by decide +kernel
theorem d1_408 : decode method_4_code 408 = .ok (.bipush 16, 2) := by decide +kernel
theorem d1_410 : decode method_4_code 410 = .ok (.bipush 102, 2) := by decide +kernel
theorem d1_412 : decode method_4_code 412 = .ok (.bastore, 1) := by decide +kernel
theorem d1_413 : decode method_4_code 413 = .ok (.dup, 1) := by decide +kernel
theorem d1_414 : decode method_4_code 414 = .ok (.bipush 17, 2) := by decide +kernel
theorem d1_416 : decode method_4_code 416 = .ok (.bipush 111, 2) := by decide +kernel
theorem d1_418 : decode method_4_code 418 = .ok (.bastore, 1) := by decide +kernel
theorem d1_419 : decode method_4_code 419 = .ok (.dup, 1) := by decide +kernel
theorem d1_420 : decode method_4_code 420 = .ok (.bipush 18, 2) := by decide +kernel
theorem d1_422 : decode method_4_code 422 = .ok (.bipush 120, 2) := by decide +kernel
theorem d1_424 : decode method_4_code 424 = .ok (.bastore, 1) := by decide +kernel
theorem d1_425 : decode method_4_code 425 = .ok (.dup, 1) := by decide +kernel
theorem d1_426 : decode method_4_code 426 = .ok (.bipush 19, 2) := by decide +kernel
theorem d1_428 : decode method_4_code 428 = .ok (.bipush 32, 2) := by decide +kernel
theorem d1_430 : decode method_4_code 430 = .ok (.bastore, 1) := by decide +kernel
theorem d1_431 : decode method_4_code 431 = .ok (.dup, 1) := by decide +kernel
theorem d1_432 : decode method_4_code 432 = .ok (.bipush 20, 2) := by decide +kernel
theorem d1_434 : decode method_4_code 434 = .ok (.bipush 106, 2) := by decide +kernel
theorem d1_436 : decode method_4_code 436 = .ok (.bastore, 1) := by decide +kernel
theorem d1_437 : decode method_4_code 437 = .ok (.dup, 1) := by decide +kernel
theorem d1_438 : decode method_4_code 438 = .ok (.bipush 21, 2) := by decide +kernel
theorem d1_440 : decode method_4_code 440 = .ok (.bipush 117, 2) := by decide +kernel
theorem d1_442 : decode method_4_code 442 = .ok (.bastore, 1) := by decide +kernel
theorem d1_443 : decode method_4_code 443 = .ok (.dup, 1) := by decide +kernel
theorem d1_444 : decode method_4_code 444 = .ok (.bipush 22, 2) := by decide +kernel
theorem d1_446 : decode method_4_code 446 = .ok (.bipush 109, 2) := by decide +kernel
theorem d1_448 : decode method_4_code 448 = .ok (.bastore, 1) := by decide +kernel
theorem d1_449 : decode method_4_code 449 = .ok (.dup, 1) := by decide +kernel
theorem d1_450 : decode method_4_code 450 = .ok (.bipush 23, 2) := by decide +kernel
theorem d1_452 : decode method_4_code 452 = .ok (.bipush 112, 2) := by decide +kernel
theorem d1_454 : decode method_4_code 454 = .ok (.bastore, 1) := by decide +kernel
theorem d1_455 : decode method_4_code 455 = .ok (.dup, 1) := by decide +kernel
theorem d1_456 : decode method_4_code 456 = .ok (.bipush 24, 2) := by decide +kernel
theorem d1_458 : decode method_4_code 458 = .ok (.bipush 115, 2) := by decide +kernel
theorem d1_460 : decode method_4_code 460 = .ok (.bastore, 1) := by decide +kernel
theorem d1_461 : decode method_4_code 461 = .ok (.dup, 1) := by decide +kernel
theorem d1_462 : decode method_4_code 462 = .ok (.bipush 25, 2) := by decide +kernel
theorem d1_464 : decode method_4_code 464 = .ok (.bipush 32, 2) := by decide +kernel
theorem d1_466 : decode method_4_code 466 = .ok (.bastore, 1) := by decide +kernel
theorem d1_467 : decode method_4_code 467 = .ok (.dup, 1) := by decide +kernel
theorem d1_468 : decode method_4_code 468 = .ok (.bipush 26, 2) := by decide +kernel
theorem d1_470 : decode method_4_code 470 = .ok (.bipush 111, 2) := by decide +kernel
theorem d1_472 : decode method_4_code 472 = .ok (.bastore, 1) := by decide +kernel
theorem d1_473 : decode method_4_code 473 = .ok (.dup, 1) := by decide +kernel
theorem d1_474 : decode method_4_code 474 = .ok (.bipush 27, 2) := by decide +kernel
theorem d1_476 : decode method_4_code 476 = .ok (.bipush 118, 2) := by decide +kernel
theorem d1_478 : decode method_4_code 478 = .ok (.bastore, 1) := by decide +kernel
theorem d1_479 : decode method_4_code 479 = .ok (.dup, 1) := by decide +kernel
theorem d1_480 : decode method_4_code 480 = .ok (.bipush 28, 2) := by decide +kernel
theorem d1_482 : decode method_4_code 482 = .ok (.bipush 101, 2) := by decide +kernel
theorem d1_484 : decode method_4_code 484 = .ok (.bastore, 1) := by decide +kernel
theorem d1_485 : decode method_4_code 485 = .ok (.dup, 1) := by decide +kernel
theorem d1_486 : decode method_4_code 486 = .ok (.bipush 29, 2) := by decide +kernel
theorem d1_488 : decode method_4_code 488 = .ok (.bipush 114, 2) := by decide +kernel
theorem d1_490 : decode method_4_code 490 = .ok (.bastore, 1) := by decide +kernel
theorem d1_491 : decode method_4_code 491 = .ok (.dup, 1) := by decide +kernel
theorem d1_492 : decode method_4_code 492 = .ok (.bipush 30, 2) := by decide +kernel
theorem d1_494 : decode method_4_code 494 = .ok (.bipush 32, 2) := by decide +kernel
theorem d1_496 : decode method_4_code 496 = .ok (.bastore, 1) := by decide +kernel
theorem d1_497 : decode method_4_code 497 = .ok (.dup, 1) := by decide +kernel
theorem d1_498 : decode method_4_code 498 = .ok (.bipush 31, 2) := by decide +kernel
theorem d1_500 : decode method_4_code 500 = .ok (.bipush 116, 2) := by decide +kernel
theorem d1_502 : decode method_4_code 502 = .ok (.bastore, 1) := by decide +kernel
theorem d1_503 : decode method_4_code 503 = .ok (.dup, 1) := by decide +kernel
theorem d1_504 : decode method_4_code 504 = .ok (.bipush 32, 2) := by decide +kernel
theorem d1_506 : decode method_4_code 506 = .ok (.bipush 104, 2) := by decide +kernel
theorem d1_508 : decode method_4_code 508 = .ok (.bastore, 1) := by decide +kernel
theorem d1_509 : decode method_4_code 509 = .ok (.dup, 1) := by decide +kernel
theorem d1_510 : decode method_4_code 510 = .ok (.bipush 33, 2) := by decide +kernel
theorem d1_512 : decode method_4_code 512 = .ok (.bipush 101, 2) := by decide +kernel
theorem d1_514 : decode method_4_code 514 = .ok (.bastore, 1) := by decide +kernel
theorem d1_515 : decode method_4_code 515 = .ok (.dup, 1) := by decide +kernel
theorem d1_516 : decode method_4_code 516 = .ok (.bipush 34, 2) := by decide +kernel
theorem d1_518 : decode method_4_code 518 = .ok (.bipush 32, 2) := by decide +kernel
theorem d1_520 : decode method_4_code 520 = .ok (.bastore, 1) := by decide +kernel
theorem d1_521 : decode method_4_code 521 = .ok (.dup, 1) := by decide +kernel
theorem d1_522 : decode method_4_code 522 = .ok (.bipush 35, 2) := by decide +kernel
theorem d1_524 : decode method_4_code 524 = .ok (.bipush 108, 2) := by decide +kernel
theorem d1_526 : decode method_4_code 526 = .ok (.bastore, 1) := by decide +kernel
theorem d1_527 : decode method_4_code 527 = .ok (.dup, 1) := by decide +kernel
theorem d1_528 : decode method_4_code 528 = .ok (.bipush 36, 2) := by decide +kernel
theorem d1_530 : decode method_4_code 530 = .ok (.bipush 97, 2) := by decide +kernel
theorem d1_532 : decode method_4_code 532 = .ok (.bastore, 1) := by decide +kernel
theorem d1_533 : decode method_4_code 533 = .ok (.dup, 1) := by decide +kernel
theorem d1_534 : decode method_4_code 534 = .ok (.bipush 37, 2) := by decide +kernel
theorem d1_536 : decode method_4_code 536 = .ok (.bipush 122, 2) := by decide +kernel
theorem d1_538 : decode method_4_code 538 = .ok (.bastore, 1) := by decide +kernel
theorem d1_539 : decode method_4_code 539 = .ok (.dup, 1) := by decide +kernel
theorem d1_540 : decode method_4_code 540 = .ok (.bipush 38, 2) := by decide +kernel
theorem d1_542 : decode method_4_code 542 = .ok (.bipush 121, 2) := by decide +kernel
theorem d1_544 : decode method_4_code 544 = .ok (.bastore, 1) := by decide +kernel
theorem d1_545 : decode method_4_code 545 = .ok (.dup, 1) := by decide +kernel
theorem d1_546 : decode method_4_code 546 = .ok (.bipush 39, 2) := by decide +kernel
theorem d1_548 : decode method_4_code 548 = .ok (.bipush 32, 2) := by decide +kernel
theorem d1_550 : decode method_4_code 550 = .ok (.bastore, 1) := by decide +kernel
theorem d1_551 : decode method_4_code 551 = .ok (.dup, 1) := by decide +kernel
theorem d1_552 : decode method_4_code 552 = .ok (.bipush 40, 2) := by decide +kernel
theorem d1_554 : decode method_4_code 554 = .ok (.bipush 99, 2) := by decide +kernel
theorem d1_556 : decode method_4_code 556 = .ok (.bastore, 1) := by decide +kernel
theorem d1_557 : decode method_4_code 557 = .ok (.dup, 1) := by decide +kernel
theorem d1_558 : decode method_4_code 558 = .ok (.bipush 41, 2) := by decide +kernel
theorem d1_560 : decode method_4_code 560 = .ok (.bipush 111, 2) := by decide +kernel
theorem d1_562 : decode method_4_code 562 = .ok (.bastore, 1) := by decide +kernel
theorem d1_563 : decode method_4_code 563 = .ok (.dup, 1) := by decide +kernel
theorem d1_564 : decode method_4_code 564 = .ok (.bipush 42, 2) := by decide +kernel
theorem d1_566 : decode method_4_code 566 = .ok (.bipush 103, 2) := by decide +kernel
theorem d1_568 : decode method_4_code 568 = .ok (.bastore, 1) := by decide +kernel
theorem d1_569 : decode method_4_code 569 = .ok (.areturn, 1) := by decide +kernel
theorem d1_570 : decode method_4_code 570 = .ok (.iload_n 0, 1) := by decide +kernel
theorem d1_571 : decode method_4_code 571 = .ok (.iconst 5, 1) := by decide +kernel
theorem d1_572 : decode method_4_code 572 = .ok (.if_icmp .ne 338, 3) := by decide +kernel
theorem d1_575 : decode method_4_code 575 = .ok (.bipush 56, 2) := by decide +kernel
theorem d1_577 : decode method_4_code 577 = .ok (.newarray .byte, 2) := by decide +kernel
theorem d1_579 : decode method_4_code 579 = .ok (.dup, 1) := by decide +kernel
theorem d1_580 : decode method_4_code 580 = .ok (.iconst 0, 1) := by decide +kernel
theorem d1_581 : decode method_4_code 581 = .ok (.bipush 97, 2) := by decide +kernel
theorem d1_583 : decode method_4_code 583 = .ok (.bastore, 1) := by decide +kernel
theorem d1_584 : decode method_4_code 584 = .ok (.dup, 1) := by decide +kernel
theorem d1_585 : decode method_4_code 585 = .ok (.iconst 1, 1) := by decide +kernel
theorem d1_586 : decode method_4_code 586 = .ok (.bipush 98, 2) := by decide +kernel
theorem d1_588 : decode method_4_code 588 = .ok (.bastore, 1) := by decide +kernel
theorem d1_589 : decode method_4_code 589 = .ok (.dup, 1) := by decide +kernel
theorem d1_590 : decode method_4_code 590 = .ok (.iconst 2, 1) := by decide +kernel
theorem d1_591 : decode method_4_code 591 = .ok (.bipush 99, 2) := by decide +kernel
theorem d1_593 : decode method_4_code 593 = .ok (.bastore, 1) := by decide +kernel
theorem d1_594 : decode method_4_code 594 = .ok (.dup, 1) := by decide +kernel
theorem d1_595 : decode method_4_code 595 = .ok (.iconst 3, 1) := by decide +kernel
theorem d1_596 : decode method_4_code 596 = .ok (.bipush 100, 2) := by decide +kernel
theorem d1_598 : decode method_4_code 598 = .ok (.bastore, 1) := by decide +kernel
theorem d1_599 : decode method_4_code 599 = .ok (.dup, 1) := by decide +kernel
theorem d1_600 : decode method_4_code 600 = .ok (.iconst 4, 1) := by decide +kernel
theorem d1_601 : decode method_4_code 601 = .ok (.bipush 98, 2) := by decide +kernel
theorem d1_603 : decode method_4_code 603 = .ok (.bastore, 1) := by decide +kernel
theorem d1_604 : decode method_4_code 604 = .ok (.dup, 1) := by decide +kernel
theorem d1_605 : decode method_4_code 605 = .ok (.iconst 5, 1) := by decide +kernel
theorem d1_606 : decode method_4_code 606 = .ok (.bipush 99, 2) := by decide +kernel
theorem d1_608 : decode method_4_code 608 = .ok (.bastore, 1) := by decide +kernel
theorem d1_609 : decode method_4_code 609 = .ok (.dup, 1) := by decide +kernel
theorem d1_610 : decode method_4_code 610 = .ok (.bipush 6, 2) := by decide +kernel
theorem d1_612 : decode method_4_code 612 = .ok (.bipush 100, 2) := by decide +kernel
theorem d1_614 : decode method_4_code 614 = .ok (.bastore, 1) := by decide +kernel
theorem d1_615 : decode method_4_code 615 = .ok (.dup, 1) := by decide +kernel
theorem d1_616 : decode method_4_code 616 = .ok (.bipush 7, 2) := by decide +kernel
theorem d1_618 : decode method_4_code 618 = .ok (.bipush 101, 2) := by decide +kernel
theorem d1_620 : decode method_4_code 620 = .ok (.bastore, 1) := by decide +kernel
theorem d1_621 : decode method_4_code 621 = .ok (.dup, 1) := by decide +kernel
theorem d1_622 : decode method_4_code 622 = .ok (.bipush 8, 2) := by decide +kernel
theorem d1_624 : decode method_4_code 624 = .ok (.bipush 99, 2) := by decide +kernel
theorem d1_626 : decode method_4_code 626 = .ok (.bastore, 1) := by decide +kernel
theorem d1_627 : decode method_4_code 627 = .ok (.dup, 1) := by decide +kernel
theorem d1_628 : decode method_4_code 628 = .ok (.bipush 9, 2) := by decide +kernel
theorem d1_630 : decode method_4_code 630 = .ok (.bipush 100, 2) := by decide +kernel
theorem d1_632 : decode method_4_code 632 = .ok (.bastore, 1) := by decide +kernel
theorem d1_633 : decode method_4_code 633 = .ok (.dup, 1) := by decide +kernel
theorem d1_634 : decode method_4_code 634 = .ok (.bipush 10, 2) := by decide +kernel
theorem d1_636 : decode method_4_code 636 = .ok (.bipush 101, 2) := by decide +kernel
theorem d1_638 : decode method_4_code 638 = .ok (.bastore, 1) := by decide +kernel
theorem d1_639 : decode method_4_code 639 = .ok (.dup, 1) := by decide +kernel
theorem d1_640 : decode method_4_code 640 = .ok (.bipush 11, 2) := by decide +kernel
theorem d1_642 : decode method_4_code 642 = .ok (.bipush 102, 2) := by decide +kernel
theorem d1_644 : decode method_4_code 644 = .ok (.bastore, 1) := by decide +kernel
theorem d1_645 : decode method_4_code 645 = .ok (.dup, 1) := by decide +kernel
theorem d1_646 : decode method_4_code 646 = .ok (.bipush 12, 2) := by decide +kernel
theorem d1_648 : decode method_4_code 648 = .ok (.bipush 100, 2) := by decide +kernel
theorem d1_650 : decode method_4_code 650 = .ok (.bastore, 1) := by decide +kernel
theorem d1_651 : decode method_4_code 651 = .ok (.dup, 1) := by decide +kernel
theorem d1_652 : decode method_4_code 652 = .ok (.bipush 13, 2) := by decide +kernel
theorem d1_654 : decode method_4_code 654 = .ok (.bipush 101, 2) := by decide +kernel
theorem d1_656 : decode method_4_code 656 = .ok (.bastore, 1) := by decide +kernel
theorem d1_657 : decode method_4_code 657 = .ok (.dup, 1) := by decide +kernel
theorem d1_658 : decode method_4_code 658 = .ok (.bipush 14, 2) := by decide +kernel
theorem d1_660 : decode method_4_code 660 = .ok (.bipush 102, 2) := by decide +kernel
theorem d1_662 : decode method_4_code 662 = .ok (.bastore, 1) := by decide +kernel
theorem d1_663 : decode method_4_code 663 = .ok (.dup, 1) := by decide +kernel
theorem d1_664 : decode method_4_code 664 = .ok (.bipush 15, 2) := by decide +kernel
theorem d1_666 : decode method_4_code 666 = .ok (.bipush 103, 2) := by decide +kernel
theorem d1_668 : decode method_4_code 668 = .ok (.bastore, 1) := by decide +kernel
theorem d1_669 : decode method_4_code 669 = .ok (.dup, 1) := by decide +kernel
theorem d1_670 : decode method_4_code 670 = .ok (.bipush 16, 2) := by decide +kernel
theorem d1_672 : decode method_4_code 672 = .ok (.bipush 101, 2) := by decide +kernel
theorem d1_674 : decode method_4_code 674 = .ok (.bastore, 1) := by decide +kernel
theorem d1_675 : decode method_4_code 675 = .ok (.dup, 1) := by decide +kernel
theorem d1_676 : decode method_4_code 676 = .ok (.bipush 17, 2) := by decide +kernel
theorem d1_678 : decode method_4_code 678 = .ok (.bipush 102, 2) := by decide +kernel
theorem d1_680 : decode method_4_code 680 = .ok (.bastore, 1) := by decide +kernel
theorem d1_681 : decode method_4_code 681 = .ok (.dup, 1) := by decide +kernel
theorem d1_682 : decode method_4_code 682 = .ok (.bipush 18, 2) := by decide +kernel
theorem d1_684 : decode method_4_code 684 = .ok (.bipush 103, 2) := by decide +kernel
theorem d1_686 : decode method_4_code 686 = .ok (.bastore, 1) := by decide +kernel
theorem d1_687 : decode method_4_code 687 = .ok (.dup, 1) := by decide +kernel
theorem d1_688 : decode method_4_code 688 = .ok (.bipush 19, 2) := by decide +kernel
theorem d1_690 : decode method_4_code 690 = .ok (.bipush 104, 2) := by decide +kernel
theorem d1_692 : decode method_4_code 692 = .ok (.bastore, 1) := by decide +kernel
theorem d1_693 : decode method_4_code 693 = .ok (.dup, 1) := by decide +kernel
theorem d1_694 : decode method_4_code 694 = .ok (.bipush 20, 2) := by decide +kernel
theorem d1_696 : decode method_4_code 696 = .ok (.bipush 102, 2) := by decide +kernel
theorem d1_698 : decode method_4_code 698 = .ok (.bastore, 1) := by decide +kernel
theorem d1_699 : decode method_4_code 699 = .ok (.dup, 1) := by decide +kernel
theorem d1_700 : decode method_4_code 700 = .ok (.bipush 21, 2) := by decide +kernel
theorem d1_702 : decode method_4_code 702 = .ok (.bipush 103, 2) := by decide +kernel
theorem d1_704 : decode method_4_code 704 = .ok (.bastore, 1) := by decide +kernel
theorem d1_705 : decode method_4_code 705 = .ok (.dup, 1) := by decide +kernel
theorem d1_706 : decode method_4_code 706 = .ok (.bipush 22, 2) := by decide +kernel
theorem d1_708 : decode method_4_code 708 = .ok (.bipush 104, 2) := by decide +kernel
theorem d1_710 : decode method_4_code 710 = .ok (.bastore, 1) := by decide +kernel
theorem d1_711 : decode method_4_code 711 = .ok (.dup, 1) := by decide +kernel
theorem d1_712 : decode method_4_code 712 = .ok (.bipush 23, 2) := by decide +kernel
theorem d1_714 : decode method_4_code 714 = .ok (.bipush 105, 2) := by decide +kernel
theorem d1_716 : decode method_4_code 716 = .ok (.bastore, 1) := by decide +kernel
theorem d1_717 : decode method_4_code 717 = .ok (.dup, 1) := by decide +kernel
theorem d1_718 : decode method_4_code 718 = .ok (.bipush 24, 2) := by decide +kernel
theorem d1_720 : decode method_4_code 720 = .ok (.bipush 103, 2) := by decide +kernel
theorem d1_722 : decode method_4_code 722 = .ok (.bastore, 1) := by decide +kernel
theorem d1_723 : decode method_4_code 723 = .ok (.dup, 1) := by decide +kernel
theorem d1_724 : decode method_4_code 724 = .ok (.bipush 25, 2) := by decide +kernel
theorem d1_726 : decode method_4_code 726 = .ok (.bipush 104, 2) := by decide +kernel
theorem d1_728 : decode method_4_code 728 = .ok (.bastore, 1) := by decide +kernel
theorem d1_729 : decode method_4_code 729 = .ok (.dup, 1) := by decide +kernel
theorem d1_730 : decode method_4_code 730 = .ok (.bipush 26, 2) := by decide +kernel
theorem d1_732 : decode method_4_code 732 = .ok (.bipush 105, 2) := by decide +kernel
theorem d1_734 : decode method_4_code 734 = .ok (.bastore, 1) := by decide +kernel
theorem d1_735 : decode method_4_code 735 = .ok (.dup, 1) := by decide +kernel
theorem d1_736 : decode method_4_code 736 = .ok (.bipush 27, 2) := by decide +kernel
theorem d1_738 : decode method_4_code 738 = .ok (.bipush 106, 2) := by decide +kernel
theorem d1_740 : decode method_4_code 740 = .ok (.bastore, 1) := by decide +kernel
theorem d1_741 : decode method_4_code 741 = .ok (.dup, 1) := by decide +kernel
theorem d1_742 : decode method_4_code 742 = .ok (.bipush 28, 2) := by decide +kernel
theorem d1_744 : decode method_4_code 744 = .ok (.bipush 104, 2) := by decide +kernel
theorem d1_746 : decode method_4_code 746 = .ok (.bastore, 1) := by decide +kernel
theorem d1_747 : decode method_4_code 747 = .ok (.dup, 1) := by decide +kernel
theorem d1_748 : decode method_4_code 748 = .ok (.bipush 29, 2) := by decide +kernel
theorem d1_750 : decode method_4_code 750 = .ok (.bipush 105, 2) := by decide +kernel
theorem d1_752 : decode method_4_code 752 = .ok (.bastore, 1) := by decide +kernel
theorem d1_753 : decode method_4_code 753 = .ok (.dup, 1) := by decide +kernel
theorem d1_754 : decode method_4_code 754 = .ok (.bipush 30, 2) := by decide +kernel
theorem d1_756 : decode method_4_code 756 = .ok (.bipush 106, 2) := by decide +kernel
theorem d1_758 : decode method_4_code 758 = .ok (.bastore, 1) := by decide +kernel
theorem d1_759 : decode method_4_code 759 = .ok (.dup, 1) := by decide +kernel
theorem d1_760 : decode method_4_code 760 = .ok (.bipush 31, 2) := by decide +kernel
theorem d1_762 : decode method_4_code 762 = .ok (.bipush 107, 2) := by decide +kernel
theorem d1_764 : decode method_4_code 764 = .ok (.bastore, 1) := by decide +kernel
theorem d1_765 : decode method_4_code 765 = .ok (.dup, 1) := by decide +kernel
theorem d1_766 : decode method_4_code 766 = .ok (.bipush 32, 2) := by decide +kernel
theorem d1_768 : decode method_4_code 768 = .ok (.bipush 105, 2) := by decide +kernel
theorem d1_770 : decode method_4_code 770 = .ok (.bastore, 1) := by decide +kernel
theorem d1_771 : decode method_4_code 771 = .ok (.dup, 1) := by decide +kernel
theorem d1_772 : decode method_4_code 772 = .ok (.bipush 33, 2) := by decide +kernel
theorem d1_774 : decode method_4_code 774 = .ok (.bipush 106, 2) := by decide +kernel
theorem d1_776 : decode method_4_code 776 = .ok (.bastore, 1) := by decide +kernel
theorem d1_777 : decode method_4_code 777 = .ok (.dup, 1) := by decide +kernel
theorem d1_778 : decode method_4_code 778 = .ok (.bipush 34, 2) := by decide +kernel
theorem d1_780 : decode method_4_code 780 = .ok (.bipush 107, 2) := by decide +kernel
theorem d1_782 : decode method_4_code 782 = .ok (.bastore, 1) := by decide +kernel
theorem d1_783 : decode method_4_code 783 = .ok (.dup, 1) := by decide +kernel
theorem d1_784 : decode method_4_code 784 = .ok (.bipush 35, 2) := by decide +kernel
theorem d1_786 : decode method_4_code 786 = .ok (.bipush 108, 2) := by decide +kernel
theorem d1_788 : decode method_4_code 788 = .ok (.bastore, 1) := by decide +kernel
theorem d1_789 : decode method_4_code 789 = .ok (.dup, 1) := by decide +kernel
theorem d1_790 : decode method_4_code 790 = .ok (.bipush 36, 2) := by decide +kernel
theorem d1_792 : decode method_4_code 792 = .ok (.bipush 106, 2) := by decide +kernel
theorem d1_794 : decode method_4_code 794 = .ok (.bastore, 1) := by decide +kernel
theorem d1_795 : decode method_4_code 795 = .ok (.dup, 1) := by decide +kernel
theorem d1_796 : decode method_4_code 796 = .ok (.bipush 37, 2) := by decide +kernel
theorem d1_798 : decode method_4_code 798 = .ok (.bipush 107, 2) := by decide +kernel
theorem d1_800 : decode method_4_code 800 = .ok (.bastore, 1) := by decide +kernel
theorem d1_801 : decode method_4_code 801 = .ok (.dup, 1) := by decide +kernel
theorem d1_802 : decode method_4_code 802 = .ok (.bipush 38, 2) := by decide +kernel
theorem d1_804 : decode method_4_code 804 = .ok (.bipush 108, 2) := by decide +kernel
theorem d1_806 : decode method_4_code 806 = .ok (.bastore, 1) := by decide +kernel
theorem d1_807 : decode method_4_code 807 = .ok (.dup, 1) := by decide +kernel
theorem d1_808 : decode method_4_code 808 = .ok (.bipush 39, 2) := by decide +kernel
theorem d1_810 : decode method_4_code 810 = .ok (.bipush 109, 2) := by decide +kernel
theorem d1_812 : decode method_4_code 812 = .ok (.bastore, 1) := by decide +kernel
theorem d1_813 : decode method_4_code 813 = .ok (.dup, 1) := by decide +kernel
theorem d1_814 : decode method_4_code 814 = .ok (.bipush 40, 2) := by decide +kernel
theorem d1_816 : decode method_4_code 816 = .ok (.bipush 107, 2) := by decide +kernel
theorem d1_818 : decode method_4_code 818 = .ok (.bastore, 1) := by decide +kernel
theorem d1_819 : decode method_4_code 819 = .ok (.dup, 1) := by decide +kernel
theorem d1_820 : decode method_4_code 820 = .ok (.bipush 41, 2) := by decide +kernel
theorem d1_822 : decode method_4_code 822 = .ok (.bipush 108, 2) := by decide +kernel
theorem d1_824 : decode method_4_code 824 = .ok (.bastore, 1) := by decide +kernel
theorem d1_825 : decode method_4_code 825 = .ok (.dup, 1) := by decide +kernel
theorem d1_826 : decode method_4_code 826 = .ok (.bipush 42, 2) := by decide +kernel
theorem d1_828 : decode method_4_code 828 = .ok (.bipush 109, 2) := by decide +kernel
theorem d1_830 : decode method_4_code 830 = .ok (.bastore, 1) := by decide +kernel
theorem d1_831 : decode method_4_code 831 = .ok (.dup, 1) := by decide +kernel
theorem d1_832 : decode method_4_code 832 = .ok (.bipush 43, 2) := by decide +kernel
theorem d1_834 : decode method_4_code 834 = .ok (.bipush 110, 2) := by decide +kernel
theorem d1_836 : decode method_4_code 836 = .ok (.bastore, 1) := by decide +kernel
theorem d1_837 : decode method_4_code 837 = .ok (.dup, 1) := by decide +kernel
theorem d1_838 : decode method_4_code 838 = .ok (.bipush 44, 2) := by decide +kernel
theorem d1_840 : decode method_4_code 840 = .ok (.bipush 108, 2) := by decide +kernel
theorem d1_842 : decode method_4_code 842 = .ok (.bastore, 1) := by decide +kernel
theorem d1_843 : decode method_4_code 843 = .ok (.dup, 1) := by decide +kernel
theorem d1_844 : decode method_4_code 844 = .ok (.bipush 45, 2) := by decide +kernel
theorem d1_846 : decode method_4_code 846 = .ok (.bipush 109, 2) := by decide +kernel
theorem d1_848 : decode method_4_code 848 = .ok (.bastore, 1) := by decide +kernel
theorem d1_849 : decode method_4_code 849 = .ok (.dup, 1) := by decide +kernel
theorem d1_850 : decode method_4_code 850 = .ok (.bipush 46, 2) := by decide +kernel
theorem d1_852 : decode method_4_code 852 = .ok (.bipush 110, 2) := by decide +kernel
theorem d1_854 : decode method_4_code 854 = .ok (.bastore, 1) := by decide +kernel
theorem d1_855 : decode method_4_code 855 = .ok (.dup, 1) := by decide +kernel
theorem d1_856 : decode method_4_code 856 = .ok (.bipush 47, 2) := by decide +kernel
theorem d1_858 : decode method_4_code 858 = .ok (.bipush 111, 2) := by decide +kernel
theorem d1_860 : decode method_4_code 860 = .ok (.bastore, 1) := by decide +kernel
theorem d1_861 : decode method_4_code 861 = .ok (.dup, 1) := by decide +kernel
theorem d1_862 : decode method_4_code 862 = .ok (.bipush 48, 2) := by decide +kernel
theorem d1_864 : decode method_4_code 864 = .ok (.bipush 109, 2) := by decide +kernel
theorem d1_866 : decode method_4_code 866 = .ok (.bastore, 1) := by decide +kernel
theorem d1_867 : decode method_4_code 867 = .ok (.dup, 1) := by decide +kernel
theorem d1_868 : decode method_4_code 868 = .ok (.bipush 49, 2) := by decide +kernel
theorem d1_870 : decode method_4_code 870 = .ok (.bipush 110, 2) := by decide +kernel
theorem d1_872 : decode method_4_code 872 = .ok (.bastore, 1) := by decide +kernel
theorem d1_873 : decode method_4_code 873 = .ok (.dup, 1) := by decide +kernel
theorem d1_874 : decode method_4_code 874 = .ok (.bipush 50, 2) := by decide +kernel
theorem d1_876 : decode method_4_code 876 = .ok (.bipush 111, 2) := by decide +kernel
theorem d1_878 : decode method_4_code 878 = .ok (.bastore, 1) := by decide +kernel
theorem d1_879 : decode method_4_code 879 = .ok (.dup, 1) := by decide +kernel
theorem d1_880 : decode method_4_code 880 = .ok (.bipush 51, 2) := by decide +kernel
theorem d1_882 : decode method_4_code 882 = .ok (.bipush 112, 2) := by decide +kernel
theorem d1_884 : decode method_4_code 884 = .ok (.bastore, 1) := by decide +kernel
theorem d1_885 : decode method_4_code 885 = .ok (.dup, 1) := by decide +kernel
theorem d1_886 : decode method_4_code 886 = .ok (.bipush 52, 2) := by decide +kernel
theorem d1_888 : decode method_4_code 888 = .ok (.bipush 110, 2) := by decide +kernel
theorem d1_890 : decode method_4_code 890 = .ok (.bastore, 1) := by decide +kernel
theorem d1_891 : decode method_4_code 891 = .ok (.dup, 1) := by decide +kernel
theorem d1_892 : decode method_4_code 892 = .ok (.bipush 53, 2) := by decide +kernel
theorem d1_894 : decode method_4_code 894 = .ok (.bipush 111, 2) := by decide +kernel
theorem d1_896 : decode method_4_code 896 = .ok (.bastore, 1) := by decide +kernel
theorem d1_897 : decode method_4_code 897 = .ok (.dup, 1) := by decide +kernel
theorem d1_898 : decode method_4_code 898 = .ok (.bipush 54, 2) := by decide +kernel
theorem d1_900 : decode method_4_code 900 = .ok (.bipush 112, 2) := by decide +kernel
theorem d1_902 : decode method_4_code 902 = .ok (.bastore, 1) := by decide +kernel
theorem d1_903 : decode method_4_code 903 = .ok (.dup, 1) := by decide +kernel
theorem d1_904 : decode method_4_code 904 = .ok (.bipush 55, 2) := by decide +kernel
theorem d1_906 : decode method_4_code 906 = .ok (.bipush 113, 2) := by decide +kernel
theorem d1_908 : decode method_4_code 908 = .ok (.bastore, 1) := by decide +kernel
theorem d1_909 : decode method_4_code 909 = .ok (.areturn, 1) := by decide +kernel
theorem d1_910 : decode method_4_code 910 = .ok (.bipush 112, 2) := by decide +kernel
theorem d1_912 : decode method_4_code 912 = .ok (.newarray .byte, 2) := by decide +kernel
theorem d1_914 : decode method_4_code 914 = .ok (.dup, 1) := by decide +kernel
theorem d1_915 : decode method_4_code 915 = .ok (.iconst 0, 1) := by decide +kernel
theorem d1_916 : decode method_4_code 916 = .ok (.bipush 97, 2) := by decide +kernel
theorem d1_918 : decode method_4_code 918 = .ok (.bastore, 1) := by decide +kernel
theorem d1_919 : decode method_4_code 919 = .ok (.dup, 1) := by decide +kernel
theorem d1_920 : decode method_4_code 920 = .ok (.iconst 1, 1) := by decide +kernel
theorem d1_921 : decode method_4_code 921 = .ok (.bipush 98, 2) := by decide +kernel
theorem d1_923 : decode method_4_code 923 = .ok (.bastore, 1) := by decide +kernel
theorem d1_924 : decode method_4_code 924 = .ok (.dup, 1) := by decide +kernel
theorem d1_925 : decode method_4_code 925 = .ok (.iconst 2, 1) := by decide +kernel
theorem d1_926 : decode method_4_code 926 = .ok (.bipush 99, 2) := by decide +kernel
theorem d1_928 : decode method_4_code 928 = .ok (.bastore, 1) := by decide +kernel
theorem d1_929 : decode method_4_code 929 = .ok (.dup, 1) := by decide +kernel
theorem d1_930 : decode method_4_code 930 = .ok (.iconst 3, 1) := by decide +kernel
theorem d1_931 : decode method_4_code 931 = .ok (.bipush 100, 2) := by decide +kernel
theorem d1_933 : decode method_4_code 933 = .ok (.bastore, 1) := by decide +kernel
theorem d1_934 : decode method_4_code 934 = .ok (.dup, 1) := by decide +kernel
theorem d1_935 : decode method_4_code 935 = .ok (.iconst 4, 1) := by decide +kernel
theorem d1_936 : decode method_4_code 936 = .ok (.bipush 101, 2) := by decide +kernel
theorem d1_938 : decode method_4_code 938 = .ok (.bastore, 1) := by decide +kernel
theorem d1_939 : decode method_4_code 939 = .ok (.dup, 1) := by decide +kernel
theorem d1_940 : decode method_4_code 940 = .ok (.iconst 5, 1) := by decide +kernel
theorem d1_941 : decode method_4_code 941 = .ok (.bipush 102, 2) := by decide +kernel
theorem d1_943 : decode method_4_code 943 = .ok (.bastore, 1) := by decide +kernel
theorem d1_944 : decode method_4_code 944 = .ok (.dup, 1) := by decide +kernel
theorem d1_945 : decode method_4_code 945 = .ok (.bipush 6, 2) := by decide +kernel
theorem d1_947 : decode method_4_code 947 = .ok (.bipush 103, 2) := by decide +kernel
theorem d1_949 : decode method_4_code 949 = .ok (.bastore, 1) := by decide +kernel
theorem d1_950 : decode method_4_code 950 = .ok (.dup, 1) := by decide +kernel
theorem d1_951 : decode method_4_code 951 = .ok (.bipush 7, 2) := by decide +kernel
theorem d1_953 : decode method_4_code 953 = .ok (.bipush 104, 2) := by decide +kernel
theorem d1_955 : decode method_4_code 955 = .ok (.bastore, 1) := by decide +kernel
theorem d1_956 : decode method_4_code 956 = .ok (.dup, 1) := by decide +kernel
theorem d1_957 : decode method_4_code 957 = .ok (.bipush 8, 2) := by decide +kernel
theorem d1_959 : decode method_4_code 959 = .ok (.bipush 98, 2) := by decide +kernel
theorem d1_961 : decode method_4_code 961 = .ok (.bastore, 1) := by decide +kernel
theorem d1_962 : decode method_4_code 962 = .ok (.dup, 1) := by decide +kernel
theorem d1_963 : decode method_4_code 963 = .ok (.bipush 9, 2) := by decide +kernel
theorem d1_965 : decode method_4_code 965 = .ok (.bipush 99, 2) := by decide +kernel
theorem d1_967 : decode method_4_code 967 = .ok (.bastore, 1) := by decide +kernel
theorem d1_968 : decode method_4_code 968 = .ok (.dup, 1) := by decide +kernel
theorem d1_969 : decode method_4_code 969 = .ok (.bipush 10, 2) := by decide +kernel
theorem d1_971 : decode method_4_code 971 = .ok (.bipush 100, 2) := by decide +kernel
theorem d1_973 : decode method_4_code 973 = .ok (.bastore, 1) := by decide +kernel
theorem d1_974 : decode method_4_code 974 = .ok (.dup, 1) := by decide +kernel
theorem d1_975 : decode method_4_code 975 = .ok (.bipush 11, 2) := by decide +kernel
theorem d1_977 : decode method_4_code 977 = .ok (.bipush 101, 2) := by decide +kernel
theorem d1_979 : decode method_4_code 979 = .ok (.bastore, 1) := by decide +kernel
theorem d1_980 : decode method_4_code 980 = .ok (.dup, 1) := by decide +kernel
theorem d1_981 : decode method_4_code 981 = .ok (.bipush 12, 2) := by decide +kernel
theorem d1_983 : decode method_4_code 983 = .ok (.bipush 102, 2) := by decide +kernel
theorem d1_985 : decode method_4_code 985 = .ok (.bastore, 1) := by decide +kernel
theorem d1_986 : decode method_4_code 986 = .ok (.dup, 1) := by decide +kernel
theorem d1_987 : decode method_4_code 987 = .ok (.bipush 13, 2) := by decide +kernel
theorem d1_989 : decode method_4_code 989 = .ok (.bipush 103, 2) := by decide +kernel
theorem d1_991 : decode method_4_code 991 = .ok (.bastore, 1) := by decide +kernel
theorem d1_992 : decode method_4_code 992 = .ok (.dup, 1) := by decide +kernel
theorem d1_993 : decode method_4_code 993 = .ok (.bipush 14, 2) := by decide +kernel
theorem d1_995 : decode method_4_code 995 = .ok (.bipush 104, 2) := by decide +kernel
theorem d1_997 : decode method_4_code 997 = .ok (.bastore, 1) := by decide +kernel
theorem d1_998 : decode method_4_code 998 = .ok (.dup, 1) := by decide +kernel
theorem d1_999 : decode method_4_code 999 = .ok (.bipush 15, 2) := by decide +kernel
theorem d1_1001 : decode method_4_code 1001 = .ok (.bipush 105, 2) := by decide +kernel
theorem d1_1003 : decode method_4_code 1003 = .ok (.bastore, 1) := by decide +kernel
theorem d1_1004 : decode method_4_code 1004 = .ok (.dup, 1) := by decide +kernel
theorem d1_1005 : decode method_4_code 1005 = .ok (.bipush 16, 2) := by decide +kernel
theorem d1_1007 : decode method_4_code 1007 = .ok (.bipush 99, 2) := by decide +kernel
theorem d1_1009 : decode method_4_code 1009 = .ok (.bastore, 1) := by decide +kernel
theorem d1_1010 : decode method_4_code 1010 = .ok (.dup, 1) := by decide +kernel
theorem d1_1011 : decode method_4_code 1011 = .ok (.bipush 17, 2) := by decide +kernel
theorem d1_1013 : decode method_4_code 1013 = .ok (.bipush 100, 2) := by decide +kernel
theorem d1_1015 : decode method_4_code 1015 = .ok (.bastore, 1) := by decide +kernel
theorem d1_1016 : decode method_4_code 1016 = .ok (.dup, 1) := by decide +kernel
theorem d1_1017 : decode method_4_code 1017 = .ok (.bipush 18, 2) := by decide +kernel
theorem d1_1019 : decode method_4_code 1019 = .ok (.bipush 101, 2) := by decide +kernel
theorem d1_1021 : decode method_4_code 1021 = .ok (.bastore, 1) := by decide +kernel
theorem d1_1022 : decode method_4_code 1022 = .ok (.dup, 1) := by decide +kernel
theorem d1_1023 : decode method_4_code 1023 = .ok (.bipush 19, 2) := by decide +kernel
theorem d1_1025 : decode method_4_code 1025 = .ok (.bipush 102, 2) := by decide +kernel
theorem d1_1027 : decode method_4_code 1027 = .ok (.bastore, 1) := by decide +kernel
theorem d1_1028 : decode method_4_code 1028 = .ok (.dup, 1) := by decide +kernel
theorem d1_1029 : decode method_4_code 1029 = .ok (.bipush 20, 2) := by decide +kernel
theorem d1_1031 : decode method_4_code 1031 = .ok (.bipush 103, 2) := by decide +kernel
theorem d1_1033 : decode method_4_code 1033 = .ok (.bastore, 1) := by decide +kernel
theorem d1_1034 : decode method_4_code 1034 = .ok (.dup, 1) := by decide +kernel
theorem d1_1035 : decode method_4_code 1035 = .ok (.bipush 21, 2) := by decide +kernel
theorem d1_1037 : decode method_4_code 1037 = .ok (.bipush 104, 2) := by decide +kernel
theorem d1_1039 : decode method_4_code 1039 = .ok (.bastore, 1) := by decide +kernel
theorem d1_1040 : decode method_4_code 1040 = .ok (.dup, 1) := by decide +kernel
theorem d1_1041 : decode method_4_code 1041 = .ok (.bipush 22, 2) := by decide +kernel
theorem d1_1043 : decode method_4_code 1043 = .ok (.bipush 105, 2) := by decide +kernel
theorem d1_1045 : decode method_4_code 1045 = .ok (.bastore, 1) := by decide +kernel
theorem d1_1046 : decode method_4_code 1046 = .ok (.dup, 1) := by decide +kernel
theorem d1_1047 : decode method_4_code 1047 = .ok (.bipush 23, 2) := by decide +kernel
theorem d1_1049 : decode method_4_code 1049 = .ok (.bipush 106, 2) := by decide +kernel
theorem d1_1051 : decode method_4_code 1051 = .ok (.bastore, 1) := by decide +kernel
theorem d1_1052 : decode method_4_code 1052 = .ok (.dup, 1) := by decide +kernel
theorem d1_1053 : decode method_4_code 1053 = .ok (.bipush 24, 2) := by decide +kernel
theorem d1_1055 : decode method_4_code 1055 = .ok (.bipush 100, 2) := by decide +kernel
theorem d1_1057 : decode method_4_code 1057 = .ok (.bastore, 1) := by decide +kernel
theorem d1_1058 : decode method_4_code 1058 = .ok (.dup, 1) := by decide +kernel
theorem d1_1059 : decode method_4_code 1059 = .ok (.bipush 25, 2) := by decide +kernel
theorem d1_1061 : decode method_4_code 1061 = .ok (.bipush 101, 2) := by decide +kernel
theorem d1_1063 : decode method_4_code 1063 = .ok (.bastore, 1) := by decide +kernel
theorem d1_1064 : decode method_4_code 1064 = .ok (.dup, 1) := by decide +kernel
theorem d1_1065 : decode method_4_code 1065 = .ok (.bipush 26, 2) := by decide +kernel
theorem d1_1067 : decode method_4_code 1067 = .ok (.bipush 102, 2) := by decide +kernel
theorem d1_1069 : decode method_4_code 1069 = .ok (.bastore, 1) := by decide +kernel
theorem d1_1070 : decode method_4_code 1070 = .ok (.dup, 1) := by decide +kernel
theorem d1_1071 : decode method_4_code 1071 = .ok (.bipush 27, 2) := by decide +kernel
theorem d1_1073 : decode method_4_code 1073 = .ok (.bipush 103, 2) := by decide +kernel
theorem d1_1075 : decode method_4_code 1075 = .ok (.bastore, 1) := by decide +kernel
theorem d1_1076 : decode method_4_code 1076 = .ok (.dup, 1) := by decide +kernel
theorem d1_1077 : decode method_4_code 1077 = .ok (.bipush 28, 2) := by decide +kernel
theorem d1_1079 : decode method_4_code 1079 = .ok (.bipush 104, 2) := by decide +kernel
theorem d1_1081 : decode method_4_code 1081 = .ok (.bastore, 1) := by decide +kernel
theorem d1_1082 : decode method_4_code 1082 = .ok (.dup, 1) := by decide +kernel
theorem d1_1083 : decode method_4_code 1083 = .ok (.bipush 29, 2) := by decide +kernel
theorem d1_1085 : decode method_4_code 1085 = .ok (.bipush 105, 2) := by decide +kernel
theorem d1_1087 : decode method_4_code 1087 = .ok (.bastore, 1) := by decide +kernel
theorem d1_1088 : decode method_4_code 1088 = .ok (.dup, 1) := by decide +kernel
theorem d1_1089 : decode method_4_code 1089 = .ok (.bipush 30, 2) := by decide +kernel
theorem d1_1091 : decode method_4_code 1091 = .ok (.bipush 106, 2) := by decide +kernel
theorem d1_1093 : decode method_4_code 1093 = .ok (.bastore, 1) := by decide +kernel
theorem d1_1094 : decode method_4_code 1094 = .ok (.dup, 1) := by decide +kernel
theorem d1_1095 : decode method_4_code 1095 = .ok (.bipush 31, 2) := by decide +kernel
theorem d1_1097 : decode method_4_code 1097 = .ok (.bipush 107, 2) := by decide +kernel
theorem d1_1099 : decode method_4_code 1099 = .ok (.bastore, 1) := by decide +kernel
theorem d1_1100 : decode method_4_code 1100 = .ok (.dup, 1) := by decide +kernel
theorem d1_1101 : decode method_4_code 1101 = .ok (.bipush 32, 2) := by decide +kernel
theorem d1_1103 : decode method_4_code 1103 = .ok (.bipush 101, 2) := by decide +kernel
theorem d1_1105 : decode method_4_code 1105 = .ok (.bastore, 1) := by decide +kernel
theorem d1_1106 : decode method_4_code 1106 = .ok (.dup, 1) := by decide +kernel
theorem d1_1107 : decode method_4_code 1107 = .ok (.bipush 33, 2) := by decide +kernel
theorem d1_1109 : decode method_4_code 1109 = .ok (.bipush 102, 2) := by decide +kernel
theorem d1_1111 : decode method_4_code 1111 = .ok (.bastore, 1) := by decide +kernel
theorem d1_1112 : decode method_4_code 1112 = .ok (.dup, 1) := by decide +kernel
theorem d1_1113 : decode method_4_code 1113 = .ok (.bipush 34, 2) := by decide +kernel
theorem d1_1115 : decode method_4_code 1115 = .ok (.bipush 103, 2) := by decide +kernel
theorem d1_1117 : decode method_4_code 1117 = .ok (.bastore, 1) := by decide +kernel
theorem d1_1118 : decode method_4_code 1118 = .ok (.dup, 1) := by decide +kernel
theorem d1_1119 : decode method_4_code 1119 = .ok (.bipush 35, 2) := by decide +kernel
theorem d1_1121 : decode method_4_code 1121 = .ok (.bipush 104, 2) := by decide +kernel
theorem d1_1123 : decode method_4_code 1123 = .ok (.bastore, 1) := by decide +kernel
theorem d1_1124 : decode method_4_code 1124 = .ok (.dup, 1) := by decide +kernel
theorem d1_1125 : decode method_4_code 1125 = .ok (.bipush 36, 2) := by decide +kernel
theorem d1_1127 : decode method_4_code 1127 = .ok (.bipush 105, 2) := by decide +kernel
theorem d1_1129 : decode method_4_code 1129 = .ok (.bastore, 1) := by decide +kernel
theorem d1_1130 : decode method_4_code 1130 = .ok (.dup, 1) := by decide +kernel
theorem d1_1131 : decode method_4_code 1131 = .ok (.bipush 37, 2) := by decide +kernel
theorem d1_1133 : decode method_4_code 1133 = .ok (.bipush 106, 2) := by decide +kernel
theorem d1_1135 : decode method_4_code 1135 = .ok (.bastore, 1) := by decide +kernel
theorem d1_1136 : decode method_4_code 1136 = .ok (.dup, 1) := by decide +kernel
theorem d1_1137 : decode method_4_code 1137 = .ok (.bipush 38, 2) := by decide +kernel
theorem d1_1139 : decode method_4_code 1139 = .ok (.bipush 107, 2) := by decide +kernel
theorem d1_1141 : decode method_4_code 1141 = .ok (.bastore, 1) := by decide +kernel
theorem d1_1142 : decode method_4_code 1142 = .ok (.dup, 1) := by decide +kernel
theorem d1_1143 : decode method_4_code 1143 = .ok (.bipush 39, 2) := by decide +kernel
theorem d1_1145 : decode method_4_code 1145 = .ok (.bipush 108, 2) := by decide +kernel
theorem d1_1147 : decode method_4_code 1147 = .ok (.bastore, 1) := by decide +kernel
theorem d1_1148 : decode method_4_code 1148 = .ok (.dup, 1) := by decide +kernel
theorem d1_1149 : decode method_4_code 1149 = .ok (.bipush 40, 2) := by decide +kernel
theorem d1_1151 : decode method_4_code 1151 = .ok (.bipush 102, 2) := by decide +kernel
theorem d1_1153 : decode method_4_code 1153 = .ok (.bastore, 1) := by decide +kernel
theorem d1_1154 : decode method_4_code 1154 = .ok (.dup, 1) := by decide +kernel
theorem d1_1155 : decode method_4_code 1155 = .ok (.bipush 41, 2) := by decide +kernel
theorem d1_1157 : decode method_4_code 1157 = .ok (.bipush 103, 2) := by decide +kernel
theorem d1_1159 : decode method_4_code 1159 = .ok (.bastore, 1) := by decide +kernel
theorem d1_1160 : decode method_4_code 1160 = .ok (.dup, 1) := by decide +kernel
theorem d1_1161 : decode method_4_code 1161 = .ok (.bipush 42, 2) := by decide +kernel
theorem d1_1163 : decode method_4_code 1163 = .ok (.bipush 104, 2) := by decide +kernel
theorem d1_1165 : decode method_4_code 1165 = .ok (.bastore, 1) := by decide +kernel
theorem d1_1166 : decode method_4_code 1166 = .ok (.dup, 1) := by decide +kernel
theorem d1_1167 : decode method_4_code 1167 = .ok (.bipush 43, 2) := by decide +kernel
theorem d1_1169 : decode method_4_code 1169 = .ok (.bipush 105, 2) := by decide +kernel
theorem d1_1171 : decode method_4_code 1171 = .ok (.bastore, 1) := by decide +kernel
theorem d1_1172 : decode method_4_code 1172 = .ok (.dup, 1) := by decide +kernel
theorem d1_1173 : decode method_4_code 1173 = .ok (.bipush 44, 2) := by decide +kernel
theorem d1_1175 : decode method_4_code 1175 = .ok (.bipush 106, 2) := by decide +kernel
theorem d1_1177 : decode method_4_code 1177 = .ok (.bastore, 1) := by decide +kernel
theorem d1_1178 : decode method_4_code 1178 = .ok (.dup, 1) := by decide +kernel
theorem d1_1179 : decode method_4_code 1179 = .ok (.bipush 45, 2) := by decide +kernel
theorem d1_1181 : decode method_4_code 1181 = .ok (.bipush 107, 2) := by decide +kernel
theorem d1_1183 : decode method_4_code 1183 = .ok (.bastore, 1) := by decide +kernel
theorem d1_1184 : decode method_4_code 1184 = .ok (.dup, 1) := by decide +kernel
theorem d1_1185 : decode method_4_code 1185 = .ok (.bipush 46, 2) := by decide +kernel
theorem d1_1187 : decode method_4_code 1187 = .ok (.bipush 108, 2) := by decide +kernel
theorem d1_1189 : decode method_4_code 1189 = .ok (.bastore, 1) := by decide +kernel
theorem d1_1190 : decode method_4_code 1190 = .ok (.dup, 1) := by decide +kernel
theorem d1_1191 : decode method_4_code 1191 = .ok (.bipush 47, 2) := by decide +kernel
theorem d1_1193 : decode method_4_code 1193 = .ok (.bipush 109, 2) := by decide +kernel
theorem d1_1195 : decode method_4_code 1195 = .ok (.bastore, 1) := by decide +kernel
theorem d1_1196 : decode method_4_code 1196 = .ok (.dup, 1) := by decide +kernel
theorem d1_1197 : decode method_4_code 1197 = .ok (.bipush 48, 2) := by decide +kernel
theorem d1_1199 : decode method_4_code 1199 = .ok (.bipush 103, 2) := by decide +kernel
theorem d1_1201 : decode method_4_code 1201 = .ok (.bastore, 1) := by decide +kernel
theorem d1_1202 : decode method_4_code 1202 = .ok (.dup, 1) := by decide +kernel
theorem d1_1203 : decode method_4_code 1203 = .ok (.bipush 49, 2) := by decide +kernel
theorem d1_1205 : decode method_4_code 1205 = .ok (.bipush 104, 2) := by decide +kernel
theorem d1_1207 : decode method_4_code 1207 = .ok (.bastore, 1) := by decide +kernel
theorem d1_1208 : decode method_4_code 1208 = .ok (.dup, 1) := by decide +kernel
theorem d1_1209 : decode method_4_code 1209 = .ok (.bipush 50, 2) := by decide +kernel
theorem d1_1211 : decode method_4_code 1211 = .ok (.bipush 105, 2) := by decide +kernel
theorem d1_1213 : decode method_4_code 1213 = .ok (.bastore, 1) := by decide +kernel
theorem d1_1214 : decode method_4_code 1214 = .ok (.dup, 1) := by decide +kernel
theorem d1_1215 : decode method_4_code 1215 = .ok (.bipush 51, 2) := by decide +kernel
theorem d1_1217 : decode method_4_code 1217 = .ok (.bipush 106, 2) := by decide +kernel
theorem d1_1219 : decode method_4_code 1219 = .ok (.bastore, 1) := by decide +kernel
theorem d1_1220 : decode method_4_code 1220 = .ok (.dup, 1) := by decide +kernel
theorem d1_1221 : decode method_4_code 1221 = .ok (.bipush 52, 2) := by decide +kernel
theorem d1_1223 : decode method_4_code 1223 = .ok (.bipush 107, 2) := by decide +kernel
theorem d1_1225 : decode method_4_code 1225 = .ok (.bastore, 1) := by decide +kernel
theorem d1_1226 : decode method_4_code 1226 = .ok (.dup, 1) := by decide +kernel
theorem d1_1227 : decode method_4_code 1227 = .ok (.bipush 53, 2) := by decide +kernel
theorem d1_1229 : decode method_4_code 1229 = .ok (.bipush 108, 2) := by decide +kernel
theorem d1_1231 : decode method_4_code 1231 = .ok (.bastore, 1) := by decide +kernel
theorem d1_1232 : decode method_4_code 1232 = .ok (.dup, 1) := by decide +kernel
theorem d1_1233 : decode method_4_code 1233 = .ok (.bipush 54, 2) := by decide +kernel
theorem d1_1235 : decode method_4_code 1235 = .ok (.bipush 109, 2) := by decide +kernel
theorem d1_1237 : decode method_4_code 1237 = .ok (.bastore, 1) := by decide +kernel
theorem d1_1238 : decode method_4_code 1238 = .ok (.dup, 1) := by decide +kernel
theorem d1_1239 : decode method_4_code 1239 = .ok (.bipush 55, 2) := by decide +kernel
theorem d1_1241 : decode method_4_code 1241 = .ok (.bipush 110, 2) := by decide +kernel
theorem d1_1243 : decode method_4_code 1243 = .ok (.bastore, 1) := by decide +kernel
theorem d1_1244 : decode method_4_code 1244 = .ok (.dup, 1) := by decide +kernel
theorem d1_1245 : decode method_4_code 1245 = .ok (.bipush 56, 2) := by decide +kernel
theorem d1_1247 : decode method_4_code 1247 = .ok (.bipush 104, 2) := by decide +kernel
theorem d1_1249 : decode method_4_code 1249 = .ok (.bastore, 1) := by decide +kernel
theorem d1_1250 : decode method_4_code 1250 = .ok (.dup, 1) := by decide +kernel
theorem d1_1251 : decode method_4_code 1251 = .ok (.bipush 57, 2) := by decide +kernel
theorem d1_1253 : decode method_4_code 1253 = .ok (.bipush 105, 2) := by decide +kernel
theorem d1_1255 : decode method_4_code 1255 = .ok (.bastore, 1) := by decide +kernel
theorem d1_1256 : decode method_4_code 1256 = .ok (.dup, 1) := by decide +kernel
theorem d1_1257 : decode method_4_code 1257 = .ok (.bipush 58, 2) := by decide +kernel
theorem d1_1259 : decode method_4_code 1259 = .ok (.bipush 106, 2) := by decide +kernel
theorem d1_1261 : decode method_4_code 1261 = .ok (.bastore, 1) := by decide +kernel
theorem d1_1262 : decode method_4_code 1262 = .ok (.dup, 1) := by decide +kernel
theorem d1_1263 : decode method_4_code 1263 = .ok (.bipush 59, 2) := by decide +kernel
theorem d1_1265 : decode method_4_code 1265 = .ok (.bipush 107, 2) := by decide +kernel
theorem d1_1267 : decode method_4_code 1267 = .ok (.bastore, 1) := by decide +kernel
theorem d1_1268 : decode method_4_code 1268 = .ok (.dup, 1) := by decide +kernel
theorem d1_1269 : decode method_4_code 1269 = .ok (.bipush 60, 2) := by decide +kernel
theorem d1_1271 : decode method_4_code 1271 = .ok (.bipush 108, 2) := by decide +kernel
theorem d1_1273 : decode method_4_code 1273 = .ok (.bastore, 1) := by decide +kernel
theorem d1_1274 : decode method_4_code 1274 = .ok (.dup, 1) := by decide +kernel
theorem d1_1275 : decode method_4_code 1275 = .ok (.bipush 61, 2) := by decide +kernel
theorem d1_1277 : decode method_4_code 1277 = .ok (.bipush 109, 2) := by decide +kernel
theorem d1_1279 : decode method_4_code 1279 = .ok (.bastore, 1) := by decide +kernel
theorem d1_1280 : decode method_4_code 1280 = .ok (.dup, 1) := by decide +kernel
theorem d1_1281 : decode method_4_code 1281 = .ok (.bipush 62, 2) := by decide +kernel
theorem d1_1283 : decode method_4_code 1283 = .ok (.bipush 110, 2) := by decide +kernel
theorem d1_1285 : decode method_4_code 1285 = .ok (.bastore, 1) := by decide +kernel
theorem d1_1286 : decode method_4_code 1286 = .ok (.dup, 1) := by decide +kernel
theorem d1_1287 : decode method_4_code 1287 = .ok (.bipush 63, 2) := by decide +kernel
theorem d1_1289 : decode method_4_code 1289 = .ok (.bipush 111, 2) := by decide +kernel
theorem d1_1291 : decode method_4_code 1291 = .ok (.bastore, 1) := by decide +kernel
theorem d1_1292 : decode method_4_code 1292 = .ok (.dup, 1) := by decide +kernel
theorem d1_1293 : decode method_4_code 1293 = .ok (.bipush 64, 2) := by decide +kernel
theorem d1_1295 : decode method_4_code 1295 = .ok (.bipush 105, 2) := by decide +kernel
theorem d1_1297 : decode method_4_code 1297 = .ok (.bastore, 1) := by decide +kernel
theorem d1_1298 : decode method_4_code 1298 = .ok (.dup, 1) := by decide +kernel
theorem d1_1299 : decode method_4_code 1299 = .ok (.bipush 65, 2) := by decide +kernel
theorem d1_1301 : decode method_4_code 1301 = .ok (.bipush 106, 2) := by decide +kernel
theorem d1_1303 : decode method_4_code 1303 = .ok (.bastore, 1) := by decide +kernel
theorem d1_1304 : decode method_4_code 1304 = .ok (.dup, 1) := by decide +kernel
theorem d1_1305 : decode method_4_code 1305 = .ok (.bipush 66, 2) := by decide +kernel
theorem d1_1307 : decode method_4_code 1307 = .ok (.bipush 107, 2) := by decide +kernel
theorem d1_1309 : decode method_4_code 1309 = .ok (.bastore, 1) := by decide +kernel
theorem d1_1310 : decode method_4_code 1310 = .ok (.dup, 1) := by decide +kernel
theorem d1_1311 : decode method_4_code 1311 = .ok (.bipush 67, 2) := by decide +kernel
theorem d1_1313 : decode method_4_code 1313 = .ok (.bipush 108, 2) := by decide +kernel
theorem d1_1315 : decode method_4_code 1315 = .ok (.bastore, 1) := by decide +kernel
theorem d1_1316 : decode method_4_code 1316 = .ok (.dup, 1) := by decide +kernel
theorem d1_1317 : decode method_4_code 1317 = .ok (.bipush 68, 2) := by decide +kernel
theorem d1_1319 : decode method_4_code 1319 = .ok (.bipush 109, 2) := by decide +kernel
theorem d1_1321 : decode method_4_code 1321 = .ok (.bastore, 1) := by decide +kernel
theorem d1_1322 : decode method_4_code 1322 = .ok (.dup, 1) := by decide +kernel
theorem d1_1323 : decode method_4_code 1323 = .ok (.bipush 69, 2) := by decide +kernel
theorem d1_1325 : decode method_4_code 1325 = .ok (.bipush 110, 2) := by decide +kernel
theorem d1_1327 : decode method_4_code 1327 = .ok (.bastore, 1) := by decide +kernel
theorem d1_1328 : decode method_4_code 1328 = .ok (.dup, 1) := by decide +kernel
theorem d1_1329 : decode method_4_code 1329 = .ok (.bipush 70, 2) := by decide +kernel
theorem d1_1331 : decode method_4_code 1331 = .ok (.bipush 111, 2) := by decide +kernel
theorem d1_1333 : decode method_4_code 1333 = .ok (.bastore, 1) := by decide +kernel
theorem d1_1334 : decode method_4_code 1334 = .ok (.dup, 1) := by decide +kernel
theorem d1_1335 : decode method_4_code 1335 = .ok (.bipush 71, 2) := by decide +kernel
theorem d1_1337 : decode method_4_code 1337 = .ok (.bipush 112, 2) := by decide +kernel
theorem d1_1339 : decode method_4_code 1339 = .ok (.bastore, 1) := by decide +kernel
theorem d1_1340 : decode method_4_code 1340 = .ok (.dup, 1) := by decide +kernel
theorem d1_1341 : decode method_4_code 1341 = .ok (.bipush 72, 2) := by decide +kernel
theorem d1_1343 : decode method_4_code 1343 = .ok (.bipush 106, 2) := by decide +kernel
theorem d1_1345 : decode method_4_code 1345 = .ok (.bastore, 1) := by decide +kernel
theorem d1_1346 : decode method_4_code 1346 = .ok (.dup, 1) := by decide +kernel
theorem d1_1347 : decode method_4_code 1347 = .ok (.bipush 73, 2) := by decide +kernel
theorem d1_1349 : decode method_4_code 1349 = .ok (.bipush 107, 2) := by decide +kernel
theorem d1_1351 : decode method_4_code 1351 = .ok (.bastore, 1) := by decide +kernel
theorem d1_1352 : decode method_4_code 1352 = .ok (.dup, 1) := by decide +kernel
theorem d1_1353 : decode method_4_code 1353 = .ok (.bipush 74, 2) := by decide +kernel
theorem d1_1355 : decode method_4_code 1355 = .ok (.bipush 108, 2) := by decide +kernel
theorem d1_1357 : decode method_4_code 1357 = .ok (.bastore, 1) := by decide +kernel
theorem d1_1358 : decode method_4_code 1358 = .ok (.dup, 1) := by decide +kernel
theorem d1_1359 : decode method_4_code 1359 = .ok (.bipush 75, 2) := by decide +kernel
theorem d1_1361 : decode method_4_code 1361 = .ok (.bipush 109, 2) := by decide +kernel
theorem d1_1363 : decode method_4_code 1363 = .ok (.bastore, 1) := by decide +kernel
theorem d1_1364 : decode method_4_code 1364 = .ok (.dup, 1) := by decide +kernel
theorem d1_1365 : decode method_4_code 1365 = .ok (.bipush 76, 2) := by decide +kernel
theorem d1_1367 : decode method_4_code 1367 = .ok (.bipush 110, 2) := by decide +kernel
theorem d1_1369 : decode method_4_code 1369 = .ok (.bastore, 1) := by decide +kernel
theorem d1_1370 : decode method_4_code 1370 = .ok (.dup, 1) := by decide +kernel
theorem d1_1371 : decode method_4_code 1371 = .ok (.bipush 77, 2) := by decide +kernel
theorem d1_1373 : decode method_4_code 1373 = .ok (.bipush 111, 2) := by decide +kernel
theorem d1_1375 : decode method_4_code 1375 = .ok (.bastore, 1) := by decide +kernel
theorem d1_1376 : decode method_4_code 1376 = .ok (.dup, 1) := by decide +kernel
theorem d1_1377 : decode method_4_code 1377 = .ok (.bipush 78, 2) := by decide +kernel
theorem d1_1379 : decode method_4_code 1379 = .ok (.bipush 112, 2) := by decide +kernel
theorem d1_1381 : decode method_4_code 1381 = .ok (.bastore, 1) := by decide +kernel
theorem d1_1382 : decode method_4_code 1382 = .ok (.dup, 1) := by decide +kernel
theorem d1_1383 : decode method_4_code 1383 = .ok (.bipush 79, 2) := by decide +kernel
theorem d1_1385 : decode method_4_code 1385 = .ok (.bipush 113, 2) := by decide +kernel
theorem d1_1387 : decode method_4_code 1387 = .ok (.bastore, 1) := by decide +kernel
theorem d1_1388 : decode method_4_code 1388 = .ok (.dup, 1) := by decide +kernel
theorem d1_1389 : decode method_4_code 1389 = .ok (.bipush 80, 2) := by decide +kernel
theorem d1_1391 : decode method_4_code 1391 = .ok (.bipush 107, 2) := by decide +kernel
theorem d1_1393 : decode method_4_code 1393 = .ok (.bastore, 1) := by decide +kernel
theorem d1_1394 : decode method_4_code 1394 = .ok (.dup, 1) := by decide +kernel
theorem d1_1395 : decode method_4_code 1395 = .ok (.bipush 81, 2) := by decide +kernel
theorem d1_1397 : decode method_4_code 1397 = .ok (.bipush 108, 2) := by decide +kernel
theorem d1_1399 : decode method_4_code 1399 = .ok (.bastore, 1) := by decide +kernel
theorem d1_1400 : decode method_4_code 1400 = .ok (.dup, 1) := by decide +kernel
theorem d1_1401 : decode method_4_code 1401 = .ok (.bipush 82, 2) := by decide +kernel
theorem d1_1403 : decode method_4_code 1403 = .ok (.bipush 109, 2) := by decide +kernel
theorem d1_1405 : decode method_4_code 1405 = .ok (.bastore, 1) := by decide +kernel
theorem d1_1406 : decode method_4_code 1406 = .ok (.dup, 1) := by decide +kernel
theorem d1_1407 : decode method_4_code 1407 = .ok (.bipush 83, 2) := by decide +kernel
theorem d1_1409 : decode method_4_code 1409 = .ok (.bipush 110, 2) := by decide +kernel
theorem d1_1411 : decode method_4_code 1411 = .ok (.bastore, 1) := by decide +kernel
theorem d1_1412 : decode method_4_code 1412 = .ok (.dup, 1) := by decide +kernel
theorem d1_1413 : decode method_4_code 1413 = .ok (.bipush 84, 2) := by decide +kernel
theorem d1_1415 : decode method_4_code 1415 = .ok (.bipush 111, 2) := by decide +kernel
theorem d1_1417 : decode method_4_code 1417 = .ok (.bastore, 1) := by decide +kernel
theorem d1_1418 : decode method_4_code 1418 = .ok (.dup, 1) := by decide +kernel
theorem d1_1419 : decode method_4_code 1419 = .ok (.bipush 85, 2) := by decide +kernel
theorem d1_1421 : decode method_4_code 1421 = .ok (.bipush 112, 2) := by decide +kernel
theorem d1_1423 : decode method_4_code 1423 = .ok (.bastore, 1) := by decide +kernel
theorem d1_1424 : decode method_4_code 1424 = .ok (.dup, 1) := by decide +kernel
theorem d1_1425 : decode method_4_code 1425 = .ok (.bipush 86, 2) := by decide +kernel
theorem d1_1427 : decode method_4_code 1427 = .ok (.bipush 113, 2) := by decide +kernel
theorem d1_1429 : decode method_4_code 1429 = .ok (.bastore, 1) := by decide +kernel
theorem d1_1430 : decode method_4_code 1430 = .ok (.dup, 1) := by decide +kernel
theorem d1_1431 : decode method_4_code 1431 = .ok (.bipush 87, 2) := by decide +kernel
theorem d1_1433 : decode method_4_code 1433 = .ok (.bipush 114, 2) := by decide +kernel
theorem d1_1435 : decode method_4_code 1435 = .ok (.bastore, 1) := by decide +kernel
theorem d1_1436 : decode method_4_code 1436 = .ok (.dup, 1) := by decide +kernel
theorem d1_1437 : decode method_4_code 1437 = .ok (.bipush 88, 2) := by decide +kernel
theorem d1_1439 : decode method_4_code 1439 = .ok (.bipush 108, 2) := by decide +kernel
theorem d1_1441 : decode method_4_code 1441 = .ok (.bastore, 1) := by decide +kernel
theorem d1_1442 : decode method_4_code 1442 = .ok (.dup, 1) := by decide +kernel
theorem d1_1443 : decode method_4_code 1443 = .ok (.bipush 89, 2) := by decide +kernel
theorem d1_1445 : decode method_4_code 1445 = .ok (.bipush 109, 2) := by decide +kernel
theorem d1_1447 : decode method_4_code 1447 = .ok (.bastore, 1) := by decide +kernel
theorem d1_1448 : decode method_4_code 1448 = .ok (.dup, 1) := by decide +kernel
theorem d1_1449 : decode method_4_code 1449 = .ok (.bipush 90, 2) := by decide +kernel
theorem d1_1451 : decode method_4_code 1451 = .ok (.bipush 110, 2) := by decide +kernel
theorem d1_1453 : decode method_4_code 1453 = .ok (.bastore, 1) := by decide +kernel
theorem d1_1454 : decode method_4_code 1454 = .ok (.dup, 1) := by decide +kernel
theorem d1_1455 : decode method_4_code 1455 = .ok (.bipush 91, 2) := by decide +kernel
theorem d1_1457 : decode method_4_code 1457 = .ok (.bipush 111, 2) := by decide +kernel
theorem d1_1459 : decode method_4_code 1459 = .ok (.bastore, 1) := by decide +kernel
theorem d1_1460 : decode method_4_code 1460 = .ok (.dup, 1) := by decide +kernel
theorem d1_1461 : decode method_4_code 1461 = .ok (.bipush 92, 2) := by decide +kernel
theorem d1_1463 : decode method_4_code 1463 = .ok (.bipush 112, 2) := by decide +kernel
theorem d1_1465 : decode method_4_code 1465 = .ok (.bastore, 1) := by decide +kernel
theorem d1_1466 : decode method_4_code 1466 = .ok (.dup, 1) := by decide +kernel
theorem d1_1467 : decode method_4_code 1467 = .ok (.bipush 93, 2) := by decide +kernel
theorem d1_1469 : decode method_4_code 1469 = .ok (.bipush 113, 2) := by decide +kernel
theorem d1_1471 : decode method_4_code 1471 = .ok (.bastore, 1) := by decide +kernel
theorem d1_1472 : decode method_4_code 1472 = .ok (.dup, 1) := by decide +kernel
theorem d1_1473 : decode method_4_code 1473 = .ok (.bipush 94, 2) := by decide +kernel
theorem d1_1475 : decode method_4_code 1475 = .ok (.bipush 114, 2) := by decide +kernel
theorem d1_1477 : decode method_4_code 1477 = .ok (.bastore, 1) := by decide +kernel
theorem d1_1478 : decode method_4_code 1478 = .ok (.dup, 1) := by decide +kernel
theorem d1_1479 : decode method_4_code 1479 = .ok (.bipush 95, 2) := by decide +kernel
theorem d1_1481 : decode method_4_code 1481 = .ok (.bipush 115, 2) := by decide +kernel
theorem d1_1483 : decode method_4_code 1483 = .ok (.bastore, 1) := by decide +kernel
theorem d1_1484 : decode method_4_code 1484 = .ok (.dup, 1) := by decide +kernel
theorem d1_1485 : decode method_4_code 1485 = .ok (.bipush 96, 2) := by decide +kernel
theorem d1_1487 : decode method_4_code 1487 = .ok (.bipush 109, 2) := by decide +kernel
theorem d1_1489 : decode method_4_code 1489 = .ok (.bastore, 1) := by decide +kernel
theorem d1_1490 : decode method_4_code 1490 = .ok (.dup, 1) := by decide +kernel
theorem d1_1491 : decode method_4_code 1491 = .ok (.bipush 97, 2) := by decide +kernel
theorem d1_1493 : decode method_4_code 1493 = .ok (.bipush 110, 2) := by decide +kernel
theorem d1_1495 : decode method_4_code 1495 = .ok (.bastore, 1) := by decide +kernel
theorem d1_1496 : decode method_4_code 1496 = .ok (.dup, 1) := by decide +kernel
theorem d1_1497 : decode method_4_code 1497 = .ok (.bipush 98, 2) := by decide +kernel
theorem d1_1499 : decode method_4_code 1499 = .ok (.bipush 111, 2) := by decide +kernel
theorem d1_1501 : decode method_4_code 1501 = .ok (.bastore, 1) := by decide +kernel
theorem d1_1502 : decode method_4_code 1502 = .ok (.dup, 1) := by decide +kernel
theorem d1_1503 : decode method_4_code 1503 = .ok (.bipush 99, 2) := by decide +kernel
theorem d1_1505 : decode method_4_code 1505 = .ok (.bipush 112, 2) := by decide +kernel
theorem d1_1507 : decode method_4_code 1507 = .ok (.bastore, 1) := by decide +kernel
theorem d1_1508 : decode method_4_code 1508 = .ok (.dup, 1) := by decide +kernel
theorem d1_1509 : decode method_4_code 1509 = .ok (.bipush 100, 2) := by decide +kernel
theorem d1_1511 : decode method_4_code 1511 = .ok (.bipush 113, 2) := by decide +kernel
theorem d1_1513 : decode method_4_code 1513 = .ok (.bastore, 1) := by decide +kernel
theorem d1_1514 : decode method_4_code 1514 = .ok (.dup, 1) := by decide +kernel
theorem d1_1515 : decode method_4_code 1515 = .ok (.bipush 101, 2) := by decide +kernel
theorem d1_1517 : decode method_4_code 1517 = .ok (.bipush 114, 2) := by decide +kernel
theorem d1_1519 : decode method_4_code 1519 = .ok (.bastore, 1) := by decide +kernel
theorem d1_1520 : decode method_4_code 1520 = .ok (.dup, 1) := by decide +kernel
theorem d1_1521 : decode method_4_code 1521 = .ok (.bipush 102, 2) := by decide +kernel
theorem d1_1523 : decode method_4_code 1523 = .ok (.bipush 115, 2) := by decide +kernel
theorem d1_1525 : decode method_4_code 1525 = .ok (.bastore, 1) := by decide +kernel
theorem d1_1526 : decode method_4_code 1526 = .ok (.dup, 1) := by decide +kernel
theorem d1_1527 : decode method_4_code 1527 = .ok (.bipush 103, 2) := by decide +kernel
theorem d1_1529 : decode method_4_code 1529 = .ok (.bipush 116, 2) := by decide +kernel
theorem d1_1531 : decode method_4_code 1531 = .ok (.bastore, 1) := by decide +kernel
theorem d1_1532 : decode method_4_code 1532 = .ok (.dup, 1) := by decide +kernel
theorem d1_1533 : decode method_4_code 1533 = .ok (.bipush 104, 2) := by decide +kernel
theorem d1_1535 : decode method_4_code 1535 = .ok (.bipush 110, 2) := by decide +kernel
theorem d1_1537 : decode method_4_code 1537 = .ok (.bastore, 1) := by decide +kernel
theorem d1_1538 : decode method_4_code 1538 = .ok (.dup, 1) := by decide +kernel
theorem d1_1539 : decode method_4_code 1539 = .ok (.bipush 105, 2) := by decide +kernel
theorem d1_1541 : decode method_4_code 1541 = .ok (.bipush 111, 2) := by decide +kernel
theorem d1_1543 : decode method_4_code 1543 = .ok (.bastore, 1) := by decide +kernel
theorem d1_1544 : decode method_4_code 1544 = .ok (.dup, 1) := by decide +kernel
theorem d1_1545 : decode method_4_code 1545 = .ok (.bipush 106, 2) := by decide +kernel
theorem d1_1547 : decode method_4_code 1547 = .ok (.bipush 112, 2) := by decide +kernel
theorem d1_1549 : decode method_4_code 1549 = .ok (.bastore, 1) := by decide +kernel
theorem d1_1550 : decode method_4_code 1550 = .ok (.dup, 1) := by decide +kernel
theorem d1_1551 : decode method_4_code 1551 = .ok (.bipush 107, 2) := by decide +kernel
theorem d1_1553 : decode method_4_code 1553 = .ok (.bipush 113, 2) := by decide +kernel
theorem d1_1555 : decode method_4_code 1555 = .ok (.bastore, 1) := by decide +kernel
theorem d1_1556 : decode method_4_code 1556 = .ok (.dup, 1) := by decide +kernel
theorem d1_1557 : decode method_4_code 1557 = .ok (.bipush 108, 2) := by decide +kernel
theorem d1_1559 : decode method_4_code 1559 = .ok (.bipush 114, 2) := by decide +kernel
theorem d1_1561 : decode method_4_code 1561 = .ok (.bastore, 1) := by decide +kernel
theorem d1_1562 : decode method_4_code 1562 = .ok (.dup, 1) := by decide +kernel
theorem d1_1563 : decode method_4_code 1563 = .ok (.bipush 109, 2) := by decide +kernel
theorem d1_1565 : decode method_4_code 1565 = .ok (.bipush 115, 2) := by decide +kernel
theorem d1_1567 : decode method_4_code 1567 = .ok (.bastore, 1) := by decide +kernel
theorem d1_1568 : decode method_4_code 1568 = .ok (.dup, 1) := by decide +kernel
theorem d1_1569 : decode method_4_code 1569 = .ok (.bipush 110, 2) := by decide +kernel
theorem d1_1571 : decode method_4_code 1571 = .ok (.bipush 116, 2) := by decide +kernel
theorem d1_1573 : decode method_4_code 1573 = .ok (.bastore, 1) := by decide +kernel
theorem d1_1574 : decode method_4_code 1574 = .ok (.dup, 1) := by decide +kernel
theorem d1_1575 : decode method_4_code 1575 = .ok (.bipush 111, 2) := by decide +kernel
theorem d1_1577 : decode method_4_code 1577 = .ok (.bipush 117, 2) := by decide +kernel
theorem d1_1579 : decode method_4_code 1579 = .ok (.bastore, 1) := by decide +kernel
theorem d1_1580 : decode method_4_code 1580 = .ok (.areturn, 1) := by decide +kernel
theorem pn_1 : plainFor (⟨"com/example/callimachus/callimachus/UuidsSha1PinLaw", "message", "(I)[B"⟩ : MethodName) = true := plainFor_of_name (by first | (simp [plainName, overriddenIn]; done) | decide +kernel)
theorem ef_con_msg (m : MethodId) (p1 : Int32)  : entryFrame m #[(.int p1)] 1 = mkF m 0 #[.val (.int p1)] [] := by first | (simp [entryFrame, mkF, argsToLocals, Value.category]; done) | rfl
set_option maxRecDepth 65536 in
set_option maxHeartbeats 40000000 in
theorem con_msg (l : Launch) (Z : State) (a0 : Array Value) (hw : ∀ d ∈ tables_1, d.before a0 Z = true) (n0 : Nat) (h0 : Heap) (Z0 : n0 ≤ h0.size) (p1 : Int32)  :
    Con l Z n0 (⟨"com/example/callimachus/callimachus/UuidsSha1PinLaw", "message", "(I)[B"⟩ : MethodName) method_4_code 1 (some (.array .byte)) ({ frames := 0, cells := 1, slots := 112, locals := 0 } : Room) #[(.int p1)] h0 (Val fun w h' => ∃ b, w = .ref b ∧ h0.size ≤ b ∧ Ext h0 h' ∧ Ary Z h' b .byte ((own_msg p1).map Value.int)) := by
  refine Con.of_run pn_1 (fun m => ef_con_msg m p1 ) ?_
  refine Run.iloadN d1_0 rfl (pc' := 1) rfl ?_
  refine Run.if_ne d1_1 (by decide) (pc' := 8) (by decide) (pa := 4) rfl (fun hc1 => ?_) (fun hc1 => ?_)
  · -- pc 1 taken: ¬ p1 = (0 : Int32)
    refine Run.iloadN d1_8 rfl (pc' := 9) rfl ?_
    refine Run.iconst (1 : Int32) d1_9 (by decide) (pc' := 10) rfl ?_
    refine Run.icmp_ne d1_10 (by decide) (pc' := 22) (by decide) (pa := 13) rfl (fun hc10 => ?_) (fun hc10 => ?_)
    · -- pc 10 taken: ¬ p1 = (1 : Int32)
      refine Run.iloadN d1_22 rfl (pc' := 23) rfl ?_
      refine Run.iconst (2 : Int32) d1_23 (by decide) (pc' := 24) rfl ?_
      refine Run.icmp_ne d1_24 (by decide) (pc' := 46) (by decide) (pa := 27) rfl (fun hc24 => ?_) (fun hc24 => ?_)
      · -- pc 24 taken: ¬ p1 = (2 : Int32)
        refine Run.iloadN d1_46 rfl (pc' := 47) rfl ?_
        refine Run.iconst (3 : Int32) d1_47 (by decide) (pc' := 48) rfl ?_
        refine Run.icmp_ne d1_48 (by decide) (pc' := 308) (by decide) (pa := 51) rfl (fun hc48 => ?_) (fun hc48 => ?_)
        · -- pc 48 taken: ¬ p1 = (3 : Int32)
          refine Run.iloadN d1_308 rfl (pc' := 309) rfl ?_
          refine Run.iconst (4 : Int32) d1_309 (by decide) (pc' := 310) rfl ?_
          refine Run.icmp_ne d1_310 (by decide) (pc' := 570) (by decide) (pa := 313) rfl (fun hc310 => ?_) (fun hc310 => ?_)
          · -- pc 310 taken: ¬ p1 = (4 : Int32)
            refine Run.iloadN d1_570 rfl (pc' := 571) rfl ?_
            refine Run.iconst (5 : Int32) d1_571 (by decide) (pc' := 572) rfl ?_
            refine Run.icmp_ne d1_572 (by decide) (pc' := 910) (by decide) (pa := 575) rfl (fun hc572 => ?_) (fun hc572 => ?_)
            · -- pc 572 taken: ¬ p1 = (5 : Int32)
              refine Run.bipush (112 : Int32) d1_910 (by decide) (pc' := 912) rfl ?_
              refine Run.newP (ty := .byte) (m := 112) (cap := 112) (dv := (.int (0 : Int32))) (k' := 1) (n' := 112) d1_912 rfl (hw _ (List.mem_of_getElem? (i := 5) rfl)) (by decide) (by decide) (Nat.le_refl _) rfl (by decide) (by decide) (by decide) (by decide) (by decide) (pc' := 914) rfl ?_
              intro h11 b11 g11 E11 A11
              have ge_b11 : n0 ≤ b11 := by rw [g11]; exact Z0
              have bo_b11 : h0.size ≤ b11 := by rw [g11]; exact (Keep.refl h0 []).1
              have sz11 : n0 ≤ h11.size := Nat.le_trans Z0 E11.1
              have kp11 := Keep.ext (Keep.refl h0 []) E11
              have AF : Ary Z h11 b11 .byte (own_fill own_m914 0) := A11
              have EF : Ext h0 h11 := Keep.toExt kp11
              refine (?_ : ∀ h, Ary Z h b11 .byte (own_fill own_m914 0) → n0 ≤ h.size → Ext h0 h → Run l Z n0 "com/example/callimachus/callimachus/UuidsSha1PinLaw" method_4_code 1 (some (.array .byte)) "message" ({ frames := 0, cells := 1, slots := 112, locals := 0 } : Room) (Val fun w h' => ∃ b, w = .ref b ∧ h0.size ≤ b ∧ Ext h0 h' ∧ Ary Z h' b .byte ((own_msg p1).map Value.int)) 914 #[.val (.int p1)] [(.ref b11)] h 1 112) h11 AF sz11 EF
              refine own_bfI (ii := (0 : Int32)) (c := (97 : Int32)) (j := 1) (pc' := 919) d1_914 d1_915 d1_916 d1_918 (by decide) (by decide) (by decide) (by decide) rfl ge_b11 bo_b11 rfl rfl ?_
              refine own_bfI (ii := (1 : Int32)) (c := (98 : Int32)) (j := 2) (pc' := 924) d1_919 d1_920 d1_921 d1_923 (by decide) (by decide) (by decide) (by decide) rfl ge_b11 bo_b11 rfl rfl ?_
              refine own_bfI (ii := (2 : Int32)) (c := (99 : Int32)) (j := 3) (pc' := 929) d1_924 d1_925 d1_926 d1_928 (by decide) (by decide) (by decide) (by decide) rfl ge_b11 bo_b11 rfl rfl ?_
              refine own_bfI (ii := (3 : Int32)) (c := (100 : Int32)) (j := 4) (pc' := 934) d1_929 d1_930 d1_931 d1_933 (by decide) (by decide) (by decide) (by decide) rfl ge_b11 bo_b11 rfl rfl ?_
              refine own_bfI (ii := (4 : Int32)) (c := (101 : Int32)) (j := 5) (pc' := 939) d1_934 d1_935 d1_936 d1_938 (by decide) (by decide) (by decide) (by decide) rfl ge_b11 bo_b11 rfl rfl ?_
              refine own_bfI (ii := (5 : Int32)) (c := (102 : Int32)) (j := 6) (pc' := 944) d1_939 d1_940 d1_941 d1_943 (by decide) (by decide) (by decide) (by decide) rfl ge_b11 bo_b11 rfl rfl ?_
              refine own_bfB (ii := (6 : Int32)) (c := (103 : Int32)) (j := 7) (pc' := 950) d1_944 d1_945 d1_947 d1_949 (by decide) (by decide) (by decide) (by decide) rfl ge_b11 bo_b11 rfl rfl ?_
              refine own_bfB (ii := (7 : Int32)) (c := (104 : Int32)) (j := 8) (pc' := 956) d1_950 d1_951 d1_953 d1_955 (by decide) (by decide) (by decide) (by decide) rfl ge_b11 bo_b11 rfl rfl ?_
              refine own_bfB (ii := (8 : Int32)) (c := (98 : Int32)) (j := 9) (pc' := 962) d1_956 d1_957 d1_959 d1_961 (by decide) (by decide) (by decide) (by decide) rfl ge_b11 bo_b11 rfl rfl ?_
              refine own_bfB (ii := (9 : Int32)) (c := (99 : Int32)) (j := 10) (pc' := 968) d1_962 d1_963 d1_965 d1_967 (by decide) (by decide) (by decide) (by decide) rfl ge_b11 bo_b11 rfl rfl ?_
              refine own_bfB (ii := (10 : Int32)) (c := (100 : Int32)) (j := 11) (pc' := 974) d1_968 d1_969 d1_971 d1_973 (by decide) (by decide) (by decide) (by decide) rfl ge_b11 bo_b11 rfl rfl ?_
              refine own_bfB (ii := (11 : Int32)) (c := (101 : Int32)) (j := 12) (pc' := 980) d1_974 d1_975 d1_977 d1_979 (by decide) (by decide) (by decide) (by decide) rfl ge_b11 bo_b11 rfl rfl ?_
              refine own_bfB (ii := (12 : Int32)) (c := (102 : Int32)) (j := 13) (pc' := 986) d1_980 d1_981 d1_983 d1_985 (by decide) (by decide) (by decide) (by decide) rfl ge_b11 bo_b11 rfl rfl ?_
              refine own_bfB (ii := (13 : Int32)) (c := (103 : Int32)) (j := 14) (pc' := 992) d1_986 d1_987 d1_989 d1_991 (by decide) (by decide) (by decide) (by decide) rfl ge_b11 bo_b11 rfl rfl ?_
              refine own_bfB (ii := (14 : Int32)) (c := (104 : Int32)) (j := 15) (pc' := 998) d1_992 d1_993 d1_995 d1_997 (by decide) (by decide) (by decide) (by decide) rfl ge_b11 bo_b11 rfl rfl ?_
              refine own_bfB (ii := (15 : Int32)) (c := (105 : Int32)) (j := 16) (pc' := 1004) d1_998 d1_999 d1_1001 d1_1003 (by decide) (by decide) (by decide) (by decide) rfl ge_b11 bo_b11 rfl rfl ?_
              refine own_bfB (ii := (16 : Int32)) (c := (99 : Int32)) (j := 17) (pc' := 1010) d1_1004 d1_1005 d1_1007 d1_1009 (by decide) (by decide) (by decide) (by decide) rfl ge_b11 bo_b11 rfl rfl ?_
              refine own_bfB (ii := (17 : Int32)) (c := (100 : Int32)) (j := 18) (pc' := 1016) d1_1010 d1_1011 d1_1013 d1_1015 (by decide) (by decide) (by decide) (by decide) rfl ge_b11 bo_b11 rfl rfl ?_
              refine own_bfB (ii := (18 : Int32)) (c := (101 : Int32)) (j := 19) (pc' := 1022) d1_1016 d1_1017 d1_1019 d1_1021 (by decide) (by decide) (by decide) (by decide) rfl ge_b11 bo_b11 rfl rfl ?_
              refine own_bfB (ii := (19 : Int32)) (c := (102 : Int32)) (j := 20) (pc' := 1028) d1_1022 d1_1023 d1_1025 d1_1027 (by decide) (by decide) (by decide) (by decide) rfl ge_b11 bo_b11 rfl rfl ?_
              refine own_bfB (ii := (20 : Int32)) (c := (103 : Int32)) (j := 21) (pc' := 1034) d1_1028 d1_1029 d1_1031 d1_1033 (by decide) (by decide) (by decide) (by decide) rfl ge_b11 bo_b11 rfl rfl ?_
              refine own_bfB (ii := (21 : Int32)) (c := (104 : Int32)) (j := 22) (pc' := 1040) d1_1034 d1_1035 d1_1037 d1_1039 (by decide) (by decide) (by decide) (by decide) rfl ge_b11 bo_b11 rfl rfl ?_
              refine own_bfB (ii := (22 : Int32)) (c := (105 : Int32)) (j := 23) (pc' := 1046) d1_1040 d1_1041 d1_1043 d1_1045 (by decide) (by decide) (by decide) (by decide) rfl ge_b11 bo_b11 rfl rfl ?_
              refine own_bfB (ii := (23 : Int32)) (c := (106 : Int32)) (j := 24) (pc' := 1052) d1_1046 d1_1047 d1_1049 d1_1051 (by decide) (by decide) (by decide) (by decide) rfl ge_b11 bo_b11 rfl rfl ?_
              refine own_bfB (ii := (24 : Int32)) (c := (100 : Int32)) (j := 25) (pc' := 1058) d1_1052 d1_1053 d1_1055 d1_1057 (by decide) (by decide) (by decide) (by decide) rfl ge_b11 bo_b11 rfl rfl ?_
              refine own_bfB (ii := (25 : Int32)) (c := (101 : Int32)) (j := 26) (pc' := 1064) d1_1058 d1_1059 d1_1061 d1_1063 (by decide) (by decide) (by decide) (by decide) rfl ge_b11 bo_b11 rfl rfl ?_
              refine own_bfB (ii := (26 : Int32)) (c := (102 : Int32)) (j := 27) (pc' := 1070) d1_1064 d1_1065 d1_1067 d1_1069 (by decide) (by decide) (by decide) (by decide) rfl ge_b11 bo_b11 rfl rfl ?_
              refine own_bfB (ii := (27 : Int32)) (c := (103 : Int32)) (j := 28) (pc' := 1076) d1_1070 d1_1071 d1_1073 d1_1075 (by decide) (by decide) (by decide) (by decide) rfl ge_b11 bo_b11 rfl rfl ?_
              refine own_bfB (ii := (28 : Int32)) (c := (104 : Int32)) (j := 29) (pc' := 1082) d1_1076 d1_1077 d1_1079 d1_1081 (by decide) (by decide) (by decide) (by decide) rfl ge_b11 bo_b11 rfl rfl ?_
              refine own_bfB (ii := (29 : Int32)) (c := (105 : Int32)) (j := 30) (pc' := 1088) d1_1082 d1_1083 d1_1085 d1_1087 (by decide) (by decide) (by decide) (by decide) rfl ge_b11 bo_b11 rfl rfl ?_
              refine own_bfB (ii := (30 : Int32)) (c := (106 : Int32)) (j := 31) (pc' := 1094) d1_1088 d1_1089 d1_1091 d1_1093 (by decide) (by decide) (by decide) (by decide) rfl ge_b11 bo_b11 rfl rfl ?_
              refine own_bfB (ii := (31 : Int32)) (c := (107 : Int32)) (j := 32) (pc' := 1100) d1_1094 d1_1095 d1_1097 d1_1099 (by decide) (by decide) (by decide) (by decide) rfl ge_b11 bo_b11 rfl rfl ?_
              refine own_bfB (ii := (32 : Int32)) (c := (101 : Int32)) (j := 33) (pc' := 1106) d1_1100 d1_1101 d1_1103 d1_1105 (by decide) (by decide) (by decide) (by decide) rfl ge_b11 bo_b11 rfl rfl ?_
              refine own_bfB (ii := (33 : Int32)) (c := (102 : Int32)) (j := 34) (pc' := 1112) d1_1106 d1_1107 d1_1109 d1_1111 (by decide) (by decide) (by decide) (by decide) rfl ge_b11 bo_b11 rfl rfl ?_
              refine own_bfB (ii := (34 : Int32)) (c := (103 : Int32)) (j := 35) (pc' := 1118) d1_1112 d1_1113 d1_1115 d1_1117 (by decide) (by decide) (by decide) (by decide) rfl ge_b11 bo_b11 rfl rfl ?_
              refine own_bfB (ii := (35 : Int32)) (c := (104 : Int32)) (j := 36) (pc' := 1124) d1_1118 d1_1119 d1_1121 d1_1123 (by decide) (by decide) (by decide) (by decide) rfl ge_b11 bo_b11 rfl rfl ?_
              refine own_bfB (ii := (36 : Int32)) (c := (105 : Int32)) (j := 37) (pc' := 1130) d1_1124 d1_1125 d1_1127 d1_1129 (by decide) (by decide) (by decide) (by decide) rfl ge_b11 bo_b11 rfl rfl ?_
              refine own_bfB (ii := (37 : Int32)) (c := (106 : Int32)) (j := 38) (pc' := 1136) d1_1130 d1_1131 d1_1133 d1_1135 (by decide) (by decide) (by decide) (by decide) rfl ge_b11 bo_b11 rfl rfl ?_
              refine own_bfB (ii := (38 : Int32)) (c := (107 : Int32)) (j := 39) (pc' := 1142) d1_1136 d1_1137 d1_1139 d1_1141 (by decide) (by decide) (by decide) (by decide) rfl ge_b11 bo_b11 rfl rfl ?_
              refine own_bfB (ii := (39 : Int32)) (c := (108 : Int32)) (j := 40) (pc' := 1148) d1_1142 d1_1143 d1_1145 d1_1147 (by decide) (by decide) (by decide) (by decide) rfl ge_b11 bo_b11 rfl rfl ?_
              refine own_bfB (ii := (40 : Int32)) (c := (102 : Int32)) (j := 41) (pc' := 1154) d1_1148 d1_1149 d1_1151 d1_1153 (by decide) (by decide) (by decide) (by decide) rfl ge_b11 bo_b11 rfl rfl ?_
              refine own_bfB (ii := (41 : Int32)) (c := (103 : Int32)) (j := 42) (pc' := 1160) d1_1154 d1_1155 d1_1157 d1_1159 (by decide) (by decide) (by decide) (by decide) rfl ge_b11 bo_b11 rfl rfl ?_
              refine own_bfB (ii := (42 : Int32)) (c := (104 : Int32)) (j := 43) (pc' := 1166) d1_1160 d1_1161 d1_1163 d1_1165 (by decide) (by decide) (by decide) (by decide) rfl ge_b11 bo_b11 rfl rfl ?_
              refine own_bfB (ii := (43 : Int32)) (c := (105 : Int32)) (j := 44) (pc' := 1172) d1_1166 d1_1167 d1_1169 d1_1171 (by decide) (by decide) (by decide) (by decide) rfl ge_b11 bo_b11 rfl rfl ?_
              refine own_bfB (ii := (44 : Int32)) (c := (106 : Int32)) (j := 45) (pc' := 1178) d1_1172 d1_1173 d1_1175 d1_1177 (by decide) (by decide) (by decide) (by decide) rfl ge_b11 bo_b11 rfl rfl ?_
              refine own_bfB (ii := (45 : Int32)) (c := (107 : Int32)) (j := 46) (pc' := 1184) d1_1178 d1_1179 d1_1181 d1_1183 (by decide) (by decide) (by decide) (by decide) rfl ge_b11 bo_b11 rfl rfl ?_
              refine own_bfB (ii := (46 : Int32)) (c := (108 : Int32)) (j := 47) (pc' := 1190) d1_1184 d1_1185 d1_1187 d1_1189 (by decide) (by decide) (by decide) (by decide) rfl ge_b11 bo_b11 rfl rfl ?_
              refine own_bfB (ii := (47 : Int32)) (c := (109 : Int32)) (j := 48) (pc' := 1196) d1_1190 d1_1191 d1_1193 d1_1195 (by decide) (by decide) (by decide) (by decide) rfl ge_b11 bo_b11 rfl rfl ?_
              refine own_bfB (ii := (48 : Int32)) (c := (103 : Int32)) (j := 49) (pc' := 1202) d1_1196 d1_1197 d1_1199 d1_1201 (by decide) (by decide) (by decide) (by decide) rfl ge_b11 bo_b11 rfl rfl ?_
              refine own_bfB (ii := (49 : Int32)) (c := (104 : Int32)) (j := 50) (pc' := 1208) d1_1202 d1_1203 d1_1205 d1_1207 (by decide) (by decide) (by decide) (by decide) rfl ge_b11 bo_b11 rfl rfl ?_
              refine own_bfB (ii := (50 : Int32)) (c := (105 : Int32)) (j := 51) (pc' := 1214) d1_1208 d1_1209 d1_1211 d1_1213 (by decide) (by decide) (by decide) (by decide) rfl ge_b11 bo_b11 rfl rfl ?_
              refine own_bfB (ii := (51 : Int32)) (c := (106 : Int32)) (j := 52) (pc' := 1220) d1_1214 d1_1215 d1_1217 d1_1219 (by decide) (by decide) (by decide) (by decide) rfl ge_b11 bo_b11 rfl rfl ?_
              refine own_bfB (ii := (52 : Int32)) (c := (107 : Int32)) (j := 53) (pc' := 1226) d1_1220 d1_1221 d1_1223 d1_1225 (by decide) (by decide) (by decide) (by decide) rfl ge_b11 bo_b11 rfl rfl ?_
              refine own_bfB (ii := (53 : Int32)) (c := (108 : Int32)) (j := 54) (pc' := 1232) d1_1226 d1_1227 d1_1229 d1_1231 (by decide) (by decide) (by decide) (by decide) rfl ge_b11 bo_b11 rfl rfl ?_
              refine own_bfB (ii := (54 : Int32)) (c := (109 : Int32)) (j := 55) (pc' := 1238) d1_1232 d1_1233 d1_1235 d1_1237 (by decide) (by decide) (by decide) (by decide) rfl ge_b11 bo_b11 rfl rfl ?_
              refine own_bfB (ii := (55 : Int32)) (c := (110 : Int32)) (j := 56) (pc' := 1244) d1_1238 d1_1239 d1_1241 d1_1243 (by decide) (by decide) (by decide) (by decide) rfl ge_b11 bo_b11 rfl rfl ?_
              refine own_bfB (ii := (56 : Int32)) (c := (104 : Int32)) (j := 57) (pc' := 1250) d1_1244 d1_1245 d1_1247 d1_1249 (by decide) (by decide) (by decide) (by decide) rfl ge_b11 bo_b11 rfl rfl ?_
              refine own_bfB (ii := (57 : Int32)) (c := (105 : Int32)) (j := 58) (pc' := 1256) d1_1250 d1_1251 d1_1253 d1_1255 (by decide) (by decide) (by decide) (by decide) rfl ge_b11 bo_b11 rfl rfl ?_
              refine own_bfB (ii := (58 : Int32)) (c := (106 : Int32)) (j := 59) (pc' := 1262) d1_1256 d1_1257 d1_1259 d1_1261 (by decide) (by decide) (by decide) (by decide) rfl ge_b11 bo_b11 rfl rfl ?_
              refine own_bfB (ii := (59 : Int32)) (c := (107 : Int32)) (j := 60) (pc' := 1268) d1_1262 d1_1263 d1_1265 d1_1267 (by decide) (by decide) (by decide) (by decide) rfl ge_b11 bo_b11 rfl rfl ?_
              refine own_bfB (ii := (60 : Int32)) (c := (108 : Int32)) (j := 61) (pc' := 1274) d1_1268 d1_1269 d1_1271 d1_1273 (by decide) (by decide) (by decide) (by decide) rfl ge_b11 bo_b11 rfl rfl ?_
              refine own_bfB (ii := (61 : Int32)) (c := (109 : Int32)) (j := 62) (pc' := 1280) d1_1274 d1_1275 d1_1277 d1_1279 (by decide) (by decide) (by decide) (by decide) rfl ge_b11 bo_b11 rfl rfl ?_
              refine own_bfB (ii := (62 : Int32)) (c := (110 : Int32)) (j := 63) (pc' := 1286) d1_1280 d1_1281 d1_1283 d1_1285 (by decide) (by decide) (by decide) (by decide) rfl ge_b11 bo_b11 rfl rfl ?_
              refine own_bfB (ii := (63 : Int32)) (c := (111 : Int32)) (j := 64) (pc' := 1292) d1_1286 d1_1287 d1_1289 d1_1291 (by decide) (by decide) (by decide) (by decide) rfl ge_b11 bo_b11 rfl rfl ?_
              refine own_bfB (ii := (64 : Int32)) (c := (105 : Int32)) (j := 65) (pc' := 1298) d1_1292 d1_1293 d1_1295 d1_1297 (by decide) (by decide) (by decide) (by decide) rfl ge_b11 bo_b11 rfl rfl ?_
              refine own_bfB (ii := (65 : Int32)) (c := (106 : Int32)) (j := 66) (pc' := 1304) d1_1298 d1_1299 d1_1301 d1_1303 (by decide) (by decide) (by decide) (by decide) rfl ge_b11 bo_b11 rfl rfl ?_
              refine own_bfB (ii := (66 : Int32)) (c := (107 : Int32)) (j := 67) (pc' := 1310) d1_1304 d1_1305 d1_1307 d1_1309 (by decide) (by decide) (by decide) (by decide) rfl ge_b11 bo_b11 rfl rfl ?_
              refine own_bfB (ii := (67 : Int32)) (c := (108 : Int32)) (j := 68) (pc' := 1316) d1_1310 d1_1311 d1_1313 d1_1315 (by decide) (by decide) (by decide) (by decide) rfl ge_b11 bo_b11 rfl rfl ?_
              refine own_bfB (ii := (68 : Int32)) (c := (109 : Int32)) (j := 69) (pc' := 1322) d1_1316 d1_1317 d1_1319 d1_1321 (by decide) (by decide) (by decide) (by decide) rfl ge_b11 bo_b11 rfl rfl ?_
              refine own_bfB (ii := (69 : Int32)) (c := (110 : Int32)) (j := 70) (pc' := 1328) d1_1322 d1_1323 d1_1325 d1_1327 (by decide) (by decide) (by decide) (by decide) rfl ge_b11 bo_b11 rfl rfl ?_
              refine own_bfB (ii := (70 : Int32)) (c := (111 : Int32)) (j := 71) (pc' := 1334) d1_1328 d1_1329 d1_1331 d1_1333 (by decide) (by decide) (by decide) (by decide) rfl ge_b11 bo_b11 rfl rfl ?_
              refine own_bfB (ii := (71 : Int32)) (c := (112 : Int32)) (j := 72) (pc' := 1340) d1_1334 d1_1335 d1_1337 d1_1339 (by decide) (by decide) (by decide) (by decide) rfl ge_b11 bo_b11 rfl rfl ?_
              refine own_bfB (ii := (72 : Int32)) (c := (106 : Int32)) (j := 73) (pc' := 1346) d1_1340 d1_1341 d1_1343 d1_1345 (by decide) (by decide) (by decide) (by decide) rfl ge_b11 bo_b11 rfl rfl ?_
              refine own_bfB (ii := (73 : Int32)) (c := (107 : Int32)) (j := 74) (pc' := 1352) d1_1346 d1_1347 d1_1349 d1_1351 (by decide) (by decide) (by decide) (by decide) rfl ge_b11 bo_b11 rfl rfl ?_
              refine own_bfB (ii := (74 : Int32)) (c := (108 : Int32)) (j := 75) (pc' := 1358) d1_1352 d1_1353 d1_1355 d1_1357 (by decide) (by decide) (by decide) (by decide) rfl ge_b11 bo_b11 rfl rfl ?_
              refine own_bfB (ii := (75 : Int32)) (c := (109 : Int32)) (j := 76) (pc' := 1364) d1_1358 d1_1359 d1_1361 d1_1363 (by decide) (by decide) (by decide) (by decide) rfl ge_b11 bo_b11 rfl rfl ?_
              refine own_bfB (ii := (76 : Int32)) (c := (110 : Int32)) (j := 77) (pc' := 1370) d1_1364 d1_1365 d1_1367 d1_1369 (by decide) (by decide) (by decide) (by decide) rfl ge_b11 bo_b11 rfl rfl ?_
              refine own_bfB (ii := (77 : Int32)) (c := (111 : Int32)) (j := 78) (pc' := 1376) d1_1370 d1_1371 d1_1373 d1_1375 (by decide) (by decide) (by decide) (by decide) rfl ge_b11 bo_b11 rfl rfl ?_
              refine own_bfB (ii := (78 : Int32)) (c := (112 : Int32)) (j := 79) (pc' := 1382) d1_1376 d1_1377 d1_1379 d1_1381 (by decide) (by decide) (by decide) (by decide) rfl ge_b11 bo_b11 rfl rfl ?_
              refine own_bfB (ii := (79 : Int32)) (c := (113 : Int32)) (j := 80) (pc' := 1388) d1_1382 d1_1383 d1_1385 d1_1387 (by decide) (by decide) (by decide) (by decide) rfl ge_b11 bo_b11 rfl rfl ?_
              refine own_bfB (ii := (80 : Int32)) (c := (107 : Int32)) (j := 81) (pc' := 1394) d1_1388 d1_1389 d1_1391 d1_1393 (by decide) (by decide) (by decide) (by decide) rfl ge_b11 bo_b11 rfl rfl ?_
              refine own_bfB (ii := (81 : Int32)) (c := (108 : Int32)) (j := 82) (pc' := 1400) d1_1394 d1_1395 d1_1397 d1_1399 (by decide) (by decide) (by decide) (by decide) rfl ge_b11 bo_b11 rfl rfl ?_
              refine own_bfB (ii := (82 : Int32)) (c := (109 : Int32)) (j := 83) (pc' := 1406) d1_1400 d1_1401 d1_1403 d1_1405 (by decide) (by decide) (by decide) (by decide) rfl ge_b11 bo_b11 rfl rfl ?_
              refine own_bfB (ii := (83 : Int32)) (c := (110 : Int32)) (j := 84) (pc' := 1412) d1_1406 d1_1407 d1_1409 d1_1411 (by decide) (by decide) (by decide) (by decide) rfl ge_b11 bo_b11 rfl rfl ?_
              refine own_bfB (ii := (84 : Int32)) (c := (111 : Int32)) (j := 85) (pc' := 1418) d1_1412 d1_1413 d1_1415 d1_1417 (by decide) (by decide) (by decide) (by decide) rfl ge_b11 bo_b11 rfl rfl ?_
              refine own_bfB (ii := (85 : Int32)) (c := (112 : Int32)) (j := 86) (pc' := 1424) d1_1418 d1_1419 d1_1421 d1_1423 (by decide) (by decide) (by decide) (by decide) rfl ge_b11 bo_b11 rfl rfl ?_
              refine own_bfB (ii := (86 : Int32)) (c := (113 : Int32)) (j := 87) (pc' := 1430) d1_1424 d1_1425 d1_1427 d1_1429 (by decide) (by decide) (by decide) (by decide) rfl ge_b11 bo_b11 rfl rfl ?_
              refine own_bfB (ii := (87 : Int32)) (c := (114 : Int32)) (j := 88) (pc' := 1436) d1_1430 d1_1431 d1_1433 d1_1435 (by decide) (by decide) (by decide) (by decide) rfl ge_b11 bo_b11 rfl rfl ?_
              refine own_bfB (ii := (88 : Int32)) (c := (108 : Int32)) (j := 89) (pc' := 1442) d1_1436 d1_1437 d1_1439 d1_1441 (by decide) (by decide) (by decide) (by decide) rfl ge_b11 bo_b11 rfl rfl ?_
              refine own_bfB (ii := (89 : Int32)) (c := (109 : Int32)) (j := 90) (pc' := 1448) d1_1442 d1_1443 d1_1445 d1_1447 (by decide) (by decide) (by decide) (by decide) rfl ge_b11 bo_b11 rfl rfl ?_
              refine own_bfB (ii := (90 : Int32)) (c := (110 : Int32)) (j := 91) (pc' := 1454) d1_1448 d1_1449 d1_1451 d1_1453 (by decide) (by decide) (by decide) (by decide) rfl ge_b11 bo_b11 rfl rfl ?_
              refine own_bfB (ii := (91 : Int32)) (c := (111 : Int32)) (j := 92) (pc' := 1460) d1_1454 d1_1455 d1_1457 d1_1459 (by decide) (by decide) (by decide) (by decide) rfl ge_b11 bo_b11 rfl rfl ?_
              refine own_bfB (ii := (92 : Int32)) (c := (112 : Int32)) (j := 93) (pc' := 1466) d1_1460 d1_1461 d1_1463 d1_1465 (by decide) (by decide) (by decide) (by decide) rfl ge_b11 bo_b11 rfl rfl ?_
              refine own_bfB (ii := (93 : Int32)) (c := (113 : Int32)) (j := 94) (pc' := 1472) d1_1466 d1_1467 d1_1469 d1_1471 (by decide) (by decide) (by decide) (by decide) rfl ge_b11 bo_b11 rfl rfl ?_
              refine own_bfB (ii := (94 : Int32)) (c := (114 : Int32)) (j := 95) (pc' := 1478) d1_1472 d1_1473 d1_1475 d1_1477 (by decide) (by decide) (by decide) (by decide) rfl ge_b11 bo_b11 rfl rfl ?_
              refine own_bfB (ii := (95 : Int32)) (c := (115 : Int32)) (j := 96) (pc' := 1484) d1_1478 d1_1479 d1_1481 d1_1483 (by decide) (by decide) (by decide) (by decide) rfl ge_b11 bo_b11 rfl rfl ?_
              refine own_bfB (ii := (96 : Int32)) (c := (109 : Int32)) (j := 97) (pc' := 1490) d1_1484 d1_1485 d1_1487 d1_1489 (by decide) (by decide) (by decide) (by decide) rfl ge_b11 bo_b11 rfl rfl ?_
              refine own_bfB (ii := (97 : Int32)) (c := (110 : Int32)) (j := 98) (pc' := 1496) d1_1490 d1_1491 d1_1493 d1_1495 (by decide) (by decide) (by decide) (by decide) rfl ge_b11 bo_b11 rfl rfl ?_
              refine own_bfB (ii := (98 : Int32)) (c := (111 : Int32)) (j := 99) (pc' := 1502) d1_1496 d1_1497 d1_1499 d1_1501 (by decide) (by decide) (by decide) (by decide) rfl ge_b11 bo_b11 rfl rfl ?_
              refine own_bfB (ii := (99 : Int32)) (c := (112 : Int32)) (j := 100) (pc' := 1508) d1_1502 d1_1503 d1_1505 d1_1507 (by decide) (by decide) (by decide) (by decide) rfl ge_b11 bo_b11 rfl rfl ?_
              refine own_bfB (ii := (100 : Int32)) (c := (113 : Int32)) (j := 101) (pc' := 1514) d1_1508 d1_1509 d1_1511 d1_1513 (by decide) (by decide) (by decide) (by decide) rfl ge_b11 bo_b11 rfl rfl ?_
              refine own_bfB (ii := (101 : Int32)) (c := (114 : Int32)) (j := 102) (pc' := 1520) d1_1514 d1_1515 d1_1517 d1_1519 (by decide) (by decide) (by decide) (by decide) rfl ge_b11 bo_b11 rfl rfl ?_
              refine own_bfB (ii := (102 : Int32)) (c := (115 : Int32)) (j := 103) (pc' := 1526) d1_1520 d1_1521 d1_1523 d1_1525 (by decide) (by decide) (by decide) (by decide) rfl ge_b11 bo_b11 rfl rfl ?_
              refine own_bfB (ii := (103 : Int32)) (c := (116 : Int32)) (j := 104) (pc' := 1532) d1_1526 d1_1527 d1_1529 d1_1531 (by decide) (by decide) (by decide) (by decide) rfl ge_b11 bo_b11 rfl rfl ?_
              refine own_bfB (ii := (104 : Int32)) (c := (110 : Int32)) (j := 105) (pc' := 1538) d1_1532 d1_1533 d1_1535 d1_1537 (by decide) (by decide) (by decide) (by decide) rfl ge_b11 bo_b11 rfl rfl ?_
              refine own_bfB (ii := (105 : Int32)) (c := (111 : Int32)) (j := 106) (pc' := 1544) d1_1538 d1_1539 d1_1541 d1_1543 (by decide) (by decide) (by decide) (by decide) rfl ge_b11 bo_b11 rfl rfl ?_
              refine own_bfB (ii := (106 : Int32)) (c := (112 : Int32)) (j := 107) (pc' := 1550) d1_1544 d1_1545 d1_1547 d1_1549 (by decide) (by decide) (by decide) (by decide) rfl ge_b11 bo_b11 rfl rfl ?_
              refine own_bfB (ii := (107 : Int32)) (c := (113 : Int32)) (j := 108) (pc' := 1556) d1_1550 d1_1551 d1_1553 d1_1555 (by decide) (by decide) (by decide) (by decide) rfl ge_b11 bo_b11 rfl rfl ?_
              refine own_bfB (ii := (108 : Int32)) (c := (114 : Int32)) (j := 109) (pc' := 1562) d1_1556 d1_1557 d1_1559 d1_1561 (by decide) (by decide) (by decide) (by decide) rfl ge_b11 bo_b11 rfl rfl ?_
              refine own_bfB (ii := (109 : Int32)) (c := (115 : Int32)) (j := 110) (pc' := 1568) d1_1562 d1_1563 d1_1565 d1_1567 (by decide) (by decide) (by decide) (by decide) rfl ge_b11 bo_b11 rfl rfl ?_
              refine own_bfB (ii := (110 : Int32)) (c := (116 : Int32)) (j := 111) (pc' := 1574) d1_1568 d1_1569 d1_1571 d1_1573 (by decide) (by decide) (by decide) (by decide) rfl ge_b11 bo_b11 rfl rfl ?_
              refine own_bfB (ii := (111 : Int32)) (c := (117 : Int32)) (j := 112) (pc' := 1580) d1_1574 d1_1575 d1_1577 d1_1579 (by decide) (by decide) (by decide) (by decide) rfl ge_b11 bo_b11 rfl rfl ?_
              intro h AF2 sz2 EF2
              exact Run.areturn d1_1580 (ty := (.array .byte)) rfl rfl rfl (by decide) (by decide) ⟨_, rfl, b11, rfl, bo_b11, EF2, (by unfold own_msg; rw [if_neg hc1, if_neg hc10, if_neg hc24, if_neg hc48, if_neg hc310, if_neg hc572]; exact AF2)⟩
            · -- pc 572 not taken: p1 = (5 : Int32)
              refine Run.bipush (56 : Int32) d1_575 (by decide) (pc' := 577) rfl ?_
              refine Run.newP (ty := .byte) (m := 56) (cap := 56) (dv := (.int (0 : Int32))) (k' := 1) (n' := 56) d1_577 rfl (hw _ (List.mem_of_getElem? (i := 5) rfl)) (by decide) (by decide) (Nat.le_refl _) rfl (by decide) (by decide) (by decide) (by decide) (by decide) (pc' := 579) rfl ?_
              intro h12 b12 g12 E12 A12
              have ge_b12 : n0 ≤ b12 := by rw [g12]; exact Z0
              have bo_b12 : h0.size ≤ b12 := by rw [g12]; exact (Keep.refl h0 []).1
              have sz12 : n0 ≤ h12.size := Nat.le_trans Z0 E12.1
              have kp12 := Keep.ext (Keep.refl h0 []) E12
              have AF : Ary Z h12 b12 .byte (own_fill own_m579 0) := A12
              have EF : Ext h0 h12 := Keep.toExt kp12
              refine (?_ : ∀ h, Ary Z h b12 .byte (own_fill own_m579 0) → n0 ≤ h.size → Ext h0 h → Run l Z n0 "com/example/callimachus/callimachus/UuidsSha1PinLaw" method_4_code 1 (some (.array .byte)) "message" ({ frames := 0, cells := 1, slots := 112, locals := 0 } : Room) (Val fun w h' => ∃ b, w = .ref b ∧ h0.size ≤ b ∧ Ext h0 h' ∧ Ary Z h' b .byte ((own_msg p1).map Value.int)) 579 #[.val (.int p1)] [(.ref b12)] h 1 56) h12 AF sz12 EF
              refine own_bfI (ii := (0 : Int32)) (c := (97 : Int32)) (j := 1) (pc' := 584) d1_579 d1_580 d1_581 d1_583 (by decide) (by decide) (by decide) (by decide) rfl ge_b12 bo_b12 rfl rfl ?_
              refine own_bfI (ii := (1 : Int32)) (c := (98 : Int32)) (j := 2) (pc' := 589) d1_584 d1_585 d1_586 d1_588 (by decide) (by decide) (by decide) (by decide) rfl ge_b12 bo_b12 rfl rfl ?_
              refine own_bfI (ii := (2 : Int32)) (c := (99 : Int32)) (j := 3) (pc' := 594) d1_589 d1_590 d1_591 d1_593 (by decide) (by decide) (by decide) (by decide) rfl ge_b12 bo_b12 rfl rfl ?_
              refine own_bfI (ii := (3 : Int32)) (c := (100 : Int32)) (j := 4) (pc' := 599) d1_594 d1_595 d1_596 d1_598 (by decide) (by decide) (by decide) (by decide) rfl ge_b12 bo_b12 rfl rfl ?_
              refine own_bfI (ii := (4 : Int32)) (c := (98 : Int32)) (j := 5) (pc' := 604) d1_599 d1_600 d1_601 d1_603 (by decide) (by decide) (by decide) (by decide) rfl ge_b12 bo_b12 rfl rfl ?_
              refine own_bfI (ii := (5 : Int32)) (c := (99 : Int32)) (j := 6) (pc' := 609) d1_604 d1_605 d1_606 d1_608 (by decide) (by decide) (by decide) (by decide) rfl ge_b12 bo_b12 rfl rfl ?_
              refine own_bfB (ii := (6 : Int32)) (c := (100 : Int32)) (j := 7) (pc' := 615) d1_609 d1_610 d1_612 d1_614 (by decide) (by decide) (by decide) (by decide) rfl ge_b12 bo_b12 rfl rfl ?_
              refine own_bfB (ii := (7 : Int32)) (c := (101 : Int32)) (j := 8) (pc' := 621) d1_615 d1_616 d1_618 d1_620 (by decide) (by decide) (by decide) (by decide) rfl ge_b12 bo_b12 rfl rfl ?_
              refine own_bfB (ii := (8 : Int32)) (c := (99 : Int32)) (j := 9) (pc' := 627) d1_621 d1_622 d1_624 d1_626 (by decide) (by decide) (by decide) (by decide) rfl ge_b12 bo_b12 rfl rfl ?_
              refine own_bfB (ii := (9 : Int32)) (c := (100 : Int32)) (j := 10) (pc' := 633) d1_627 d1_628 d1_630 d1_632 (by decide) (by decide) (by decide) (by decide) rfl ge_b12 bo_b12 rfl rfl ?_
              refine own_bfB (ii := (10 : Int32)) (c := (101 : Int32)) (j := 11) (pc' := 639) d1_633 d1_634 d1_636 d1_638 (by decide) (by decide) (by decide) (by decide) rfl ge_b12 bo_b12 rfl rfl ?_
              refine own_bfB (ii := (11 : Int32)) (c := (102 : Int32)) (j := 12) (pc' := 645) d1_639 d1_640 d1_642 d1_644 (by decide) (by decide) (by decide) (by decide) rfl ge_b12 bo_b12 rfl rfl ?_
              refine own_bfB (ii := (12 : Int32)) (c := (100 : Int32)) (j := 13) (pc' := 651) d1_645 d1_646 d1_648 d1_650 (by decide) (by decide) (by decide) (by decide) rfl ge_b12 bo_b12 rfl rfl ?_
              refine own_bfB (ii := (13 : Int32)) (c := (101 : Int32)) (j := 14) (pc' := 657) d1_651 d1_652 d1_654 d1_656 (by decide) (by decide) (by decide) (by decide) rfl ge_b12 bo_b12 rfl rfl ?_
              refine own_bfB (ii := (14 : Int32)) (c := (102 : Int32)) (j := 15) (pc' := 663) d1_657 d1_658 d1_660 d1_662 (by decide) (by decide) (by decide) (by decide) rfl ge_b12 bo_b12 rfl rfl ?_
              refine own_bfB (ii := (15 : Int32)) (c := (103 : Int32)) (j := 16) (pc' := 669) d1_663 d1_664 d1_666 d1_668 (by decide) (by decide) (by decide) (by decide) rfl ge_b12 bo_b12 rfl rfl ?_
              refine own_bfB (ii := (16 : Int32)) (c := (101 : Int32)) (j := 17) (pc' := 675) d1_669 d1_670 d1_672 d1_674 (by decide) (by decide) (by decide) (by decide) rfl ge_b12 bo_b12 rfl rfl ?_
              refine own_bfB (ii := (17 : Int32)) (c := (102 : Int32)) (j := 18) (pc' := 681) d1_675 d1_676 d1_678 d1_680 (by decide) (by decide) (by decide) (by decide) rfl ge_b12 bo_b12 rfl rfl ?_
              refine own_bfB (ii := (18 : Int32)) (c := (103 : Int32)) (j := 19) (pc' := 687) d1_681 d1_682 d1_684 d1_686 (by decide) (by decide) (by decide) (by decide) rfl ge_b12 bo_b12 rfl rfl ?_
              refine own_bfB (ii := (19 : Int32)) (c := (104 : Int32)) (j := 20) (pc' := 693) d1_687 d1_688 d1_690 d1_692 (by decide) (by decide) (by decide) (by decide) rfl ge_b12 bo_b12 rfl rfl ?_
              refine own_bfB (ii := (20 : Int32)) (c := (102 : Int32)) (j := 21) (pc' := 699) d1_693 d1_694 d1_696 d1_698 (by decide) (by decide) (by decide) (by decide) rfl ge_b12 bo_b12 rfl rfl ?_
              refine own_bfB (ii := (21 : Int32)) (c := (103 : Int32)) (j := 22) (pc' := 705) d1_699 d1_700 d1_702 d1_704 (by decide) (by decide) (by decide) (by decide) rfl ge_b12 bo_b12 rfl rfl ?_
              refine own_bfB (ii := (22 : Int32)) (c := (104 : Int32)) (j := 23) (pc' := 711) d1_705 d1_706 d1_708 d1_710 (by decide) (by decide) (by decide) (by decide) rfl ge_b12 bo_b12 rfl rfl ?_
              refine own_bfB (ii := (23 : Int32)) (c := (105 : Int32)) (j := 24) (pc' := 717) d1_711 d1_712 d1_714 d1_716 (by decide) (by decide) (by decide) (by decide) rfl ge_b12 bo_b12 rfl rfl ?_
              refine own_bfB (ii := (24 : Int32)) (c := (103 : Int32)) (j := 25) (pc' := 723) d1_717 d1_718 d1_720 d1_722 (by decide) (by decide) (by decide) (by decide) rfl ge_b12 bo_b12 rfl rfl ?_
              refine own_bfB (ii := (25 : Int32)) (c := (104 : Int32)) (j := 26) (pc' := 729) d1_723 d1_724 d1_726 d1_728 (by decide) (by decide) (by decide) (by decide) rfl ge_b12 bo_b12 rfl rfl ?_
              refine own_bfB (ii := (26 : Int32)) (c := (105 : Int32)) (j := 27) (pc' := 735) d1_729 d1_730 d1_732 d1_734 (by decide) (by decide) (by decide) (by decide) rfl ge_b12 bo_b12 rfl rfl ?_
              refine own_bfB (ii := (27 : Int32)) (c := (106 : Int32)) (j := 28) (pc' := 741) d1_735 d1_736 d1_738 d1_740 (by decide) (by decide) (by decide) (by decide) rfl ge_b12 bo_b12 rfl rfl ?_
              refine own_bfB (ii := (28 : Int32)) (c := (104 : Int32)) (j := 29) (pc' := 747) d1_741 d1_742 d1_744 d1_746 (by decide) (by decide) (by decide) (by decide) rfl ge_b12 bo_b12 rfl rfl ?_
              refine own_bfB (ii := (29 : Int32)) (c := (105 : Int32)) (j := 30) (pc' := 753) d1_747 d1_748 d1_750 d1_752 (by decide) (by decide) (by decide) (by decide) rfl ge_b12 bo_b12 rfl rfl ?_
              refine own_bfB (ii := (30 : Int32)) (c := (106 : Int32)) (j := 31) (pc' := 759) d1_753 d1_754 d1_756 d1_758 (by decide) (by decide) (by decide) (by decide) rfl ge_b12 bo_b12 rfl rfl ?_
              refine own_bfB (ii := (31 : Int32)) (c := (107 : Int32)) (j := 32) (pc' := 765) d1_759 d1_760 d1_762 d1_764 (by decide) (by decide) (by decide) (by decide) rfl ge_b12 bo_b12 rfl rfl ?_
              refine own_bfB (ii := (32 : Int32)) (c := (105 : Int32)) (j := 33) (pc' := 771) d1_765 d1_766 d1_768 d1_770 (by decide) (by decide) (by decide) (by decide) rfl ge_b12 bo_b12 rfl rfl ?_
              refine own_bfB (ii := (33 : Int32)) (c := (106 : Int32)) (j := 34) (pc' := 777) d1_771 d1_772 d1_774 d1_776 (by decide) (by decide) (by decide) (by decide) rfl ge_b12 bo_b12 rfl rfl ?_
              refine own_bfB (ii := (34 : Int32)) (c := (107 : Int32)) (j := 35) (pc' := 783) d1_777 d1_778 d1_780 d1_782 (by decide) (by decide) (by decide) (by decide) rfl ge_b12 bo_b12 rfl rfl ?_
              refine own_bfB (ii := (35 : Int32)) (c := (108 : Int32)) (j := 36) (pc' := 789) d1_783 d1_784 d1_786 d1_788 (by decide) (by decide) (by decide) (by decide) rfl ge_b12 bo_b12 rfl rfl ?_
              refine own_bfB (ii := (36 : Int32)) (c := (106 : Int32)) (j := 37) (pc' := 795) d1_789 d1_790 d1_792 d1_794 (by decide) (by decide) (by decide) (by decide) rfl ge_b12 bo_b12 rfl rfl ?_
              refine own_bfB (ii := (37 : Int32)) (c := (107 : Int32)) (j := 38) (pc' := 801) d1_795 d1_796 d1_798 d1_800 (by decide) (by decide) (by decide) (by decide) rfl ge_b12 bo_b12 rfl rfl ?_
              refine own_bfB (ii := (38 : Int32)) (c := (108 : Int32)) (j := 39) (pc' := 807) d1_801 d1_802 d1_804 d1_806 (by decide) (by decide) (by decide) (by decide) rfl ge_b12 bo_b12 rfl rfl ?_
              refine own_bfB (ii := (39 : Int32)) (c := (109 : Int32)) (j := 40) (pc' := 813) d1_807 d1_808 d1_810 d1_812 (by decide) (by decide) (by decide) (by decide) rfl ge_b12 bo_b12 rfl rfl ?_
              refine own_bfB (ii := (40 : Int32)) (c := (107 : Int32)) (j := 41) (pc' := 819) d1_813 d1_814 d1_816 d1_818 (by decide) (by decide) (by decide) (by decide) rfl ge_b12 bo_b12 rfl rfl ?_
              refine own_bfB (ii := (41 : Int32)) (c := (108 : Int32)) (j := 42) (pc' := 825) d1_819 d1_820 d1_822 d1_824 (by decide) (by decide) (by decide) (by decide) rfl ge_b12 bo_b12 rfl rfl ?_
              refine own_bfB (ii := (42 : Int32)) (c := (109 : Int32)) (j := 43) (pc' := 831) d1_825 d1_826 d1_828 d1_830 (by decide) (by decide) (by decide) (by decide) rfl ge_b12 bo_b12 rfl rfl ?_
              refine own_bfB (ii := (43 : Int32)) (c := (110 : Int32)) (j := 44) (pc' := 837) d1_831 d1_832 d1_834 d1_836 (by decide) (by decide) (by decide) (by decide) rfl ge_b12 bo_b12 rfl rfl ?_
              refine own_bfB (ii := (44 : Int32)) (c := (108 : Int32)) (j := 45) (pc' := 843) d1_837 d1_838 d1_840 d1_842 (by decide) (by decide) (by decide) (by decide) rfl ge_b12 bo_b12 rfl rfl ?_
              refine own_bfB (ii := (45 : Int32)) (c := (109 : Int32)) (j := 46) (pc' := 849) d1_843 d1_844 d1_846 d1_848 (by decide) (by decide) (by decide) (by decide) rfl ge_b12 bo_b12 rfl rfl ?_
              refine own_bfB (ii := (46 : Int32)) (c := (110 : Int32)) (j := 47) (pc' := 855) d1_849 d1_850 d1_852 d1_854 (by decide) (by decide) (by decide) (by decide) rfl ge_b12 bo_b12 rfl rfl ?_
              refine own_bfB (ii := (47 : Int32)) (c := (111 : Int32)) (j := 48) (pc' := 861) d1_855 d1_856 d1_858 d1_860 (by decide) (by decide) (by decide) (by decide) rfl ge_b12 bo_b12 rfl rfl ?_
              refine own_bfB (ii := (48 : Int32)) (c := (109 : Int32)) (j := 49) (pc' := 867) d1_861 d1_862 d1_864 d1_866 (by decide) (by decide) (by decide) (by decide) rfl ge_b12 bo_b12 rfl rfl ?_
              refine own_bfB (ii := (49 : Int32)) (c := (110 : Int32)) (j := 50) (pc' := 873) d1_867 d1_868 d1_870 d1_872 (by decide) (by decide) (by decide) (by decide) rfl ge_b12 bo_b12 rfl rfl ?_
              refine own_bfB (ii := (50 : Int32)) (c := (111 : Int32)) (j := 51) (pc' := 879) d1_873 d1_874 d1_876 d1_878 (by decide) (by decide) (by decide) (by decide) rfl ge_b12 bo_b12 rfl rfl ?_
              refine own_bfB (ii := (51 : Int32)) (c := (112 : Int32)) (j := 52) (pc' := 885) d1_879 d1_880 d1_882 d1_884 (by decide) (by decide) (by decide) (by decide) rfl ge_b12 bo_b12 rfl rfl ?_
              refine own_bfB (ii := (52 : Int32)) (c := (110 : Int32)) (j := 53) (pc' := 891) d1_885 d1_886 d1_888 d1_890 (by decide) (by decide) (by decide) (by decide) rfl ge_b12 bo_b12 rfl rfl ?_
              refine own_bfB (ii := (53 : Int32)) (c := (111 : Int32)) (j := 54) (pc' := 897) d1_891 d1_892 d1_894 d1_896 (by decide) (by decide) (by decide) (by decide) rfl ge_b12 bo_b12 rfl rfl ?_
              refine own_bfB (ii := (54 : Int32)) (c := (112 : Int32)) (j := 55) (pc' := 903) d1_897 d1_898 d1_900 d1_902 (by decide) (by decide) (by decide) (by decide) rfl ge_b12 bo_b12 rfl rfl ?_
              refine own_bfB (ii := (55 : Int32)) (c := (113 : Int32)) (j := 56) (pc' := 909) d1_903 d1_904 d1_906 d1_908 (by decide) (by decide) (by decide) (by decide) rfl ge_b12 bo_b12 rfl rfl ?_
              intro h AF2 sz2 EF2
              exact Run.areturn d1_909 (ty := (.array .byte)) rfl rfl rfl (by decide) (by decide) ⟨_, rfl, b12, rfl, bo_b12, EF2, (by unfold own_msg; rw [if_neg hc1, if_neg hc10, if_neg hc24, if_neg hc48, if_neg hc310, if_pos hc572]; exact AF2)⟩
          · -- pc 310 not taken: p1 = (4 : Int32)
            refine Run.bipush (43 : Int32) d1_313 (by decide) (pc' := 315) rfl ?_
            refine Run.newP (ty := .byte) (m := 43) (cap := 43) (dv := (.int (0 : Int32))) (k' := 1) (n' := 43) d1_315 rfl (hw _ (List.mem_of_getElem? (i := 5) rfl)) (by decide) (by decide) (Nat.le_refl _) rfl (by decide) (by decide) (by decide) (by decide) (by decide) (pc' := 317) rfl ?_
            intro h13 b13 g13 E13 A13
            have ge_b13 : n0 ≤ b13 := by rw [g13]; exact Z0
            have bo_b13 : h0.size ≤ b13 := by rw [g13]; exact (Keep.refl h0 []).1
            have sz13 : n0 ≤ h13.size := Nat.le_trans Z0 E13.1
            have kp13 := Keep.ext (Keep.refl h0 []) E13
            have AF : Ary Z h13 b13 .byte (own_fill own_m317 0) := A13
            have EF : Ext h0 h13 := Keep.toExt kp13
            refine (?_ : ∀ h, Ary Z h b13 .byte (own_fill own_m317 0) → n0 ≤ h.size → Ext h0 h → Run l Z n0 "com/example/callimachus/callimachus/UuidsSha1PinLaw" method_4_code 1 (some (.array .byte)) "message" ({ frames := 0, cells := 1, slots := 112, locals := 0 } : Room) (Val fun w h' => ∃ b, w = .ref b ∧ h0.size ≤ b ∧ Ext h0 h' ∧ Ary Z h' b .byte ((own_msg p1).map Value.int)) 317 #[.val (.int p1)] [(.ref b13)] h 1 43) h13 AF sz13 EF
            refine own_bfI (ii := (0 : Int32)) (c := (84 : Int32)) (j := 1) (pc' := 322) d1_317 d1_318 d1_319 d1_321 (by decide) (by decide) (by decide) (by decide) rfl ge_b13 bo_b13 rfl rfl ?_
            refine own_bfI (ii := (1 : Int32)) (c := (104 : Int32)) (j := 2) (pc' := 327) d1_322 d1_323 d1_324 d1_326 (by decide) (by decide) (by decide) (by decide) rfl ge_b13 bo_b13 rfl rfl ?_
            refine own_bfI (ii := (2 : Int32)) (c := (101 : Int32)) (j := 3) (pc' := 332) d1_327 d1_328 d1_329 d1_331 (by decide) (by decide) (by decide) (by decide) rfl ge_b13 bo_b13 rfl rfl ?_
            refine own_bfI (ii := (3 : Int32)) (c := (32 : Int32)) (j := 4) (pc' := 337) d1_332 d1_333 d1_334 d1_336 (by decide) (by decide) (by decide) (by decide) rfl ge_b13 bo_b13 rfl rfl ?_
            refine own_bfI (ii := (4 : Int32)) (c := (113 : Int32)) (j := 5) (pc' := 342) d1_337 d1_338 d1_339 d1_341 (by decide) (by decide) (by decide) (by decide) rfl ge_b13 bo_b13 rfl rfl ?_
            refine own_bfI (ii := (5 : Int32)) (c := (117 : Int32)) (j := 6) (pc' := 347) d1_342 d1_343 d1_344 d1_346 (by decide) (by decide) (by decide) (by decide) rfl ge_b13 bo_b13 rfl rfl ?_
            refine own_bfB (ii := (6 : Int32)) (c := (105 : Int32)) (j := 7) (pc' := 353) d1_347 d1_348 d1_350 d1_352 (by decide) (by decide) (by decide) (by decide) rfl ge_b13 bo_b13 rfl rfl ?_
            refine own_bfB (ii := (7 : Int32)) (c := (99 : Int32)) (j := 8) (pc' := 359) d1_353 d1_354 d1_356 d1_358 (by decide) (by decide) (by decide) (by decide) rfl ge_b13 bo_b13 rfl rfl ?_
            refine own_bfB (ii := (8 : Int32)) (c := (107 : Int32)) (j := 9) (pc' := 365) d1_359 d1_360 d1_362 d1_364 (by decide) (by decide) (by decide) (by decide) rfl ge_b13 bo_b13 rfl rfl ?_
            refine own_bfB (ii := (9 : Int32)) (c := (32 : Int32)) (j := 10) (pc' := 371) d1_365 d1_366 d1_368 d1_370 (by decide) (by decide) (by decide) (by decide) rfl ge_b13 bo_b13 rfl rfl ?_
            refine own_bfB (ii := (10 : Int32)) (c := (98 : Int32)) (j := 11) (pc' := 377) d1_371 d1_372 d1_374 d1_376 (by decide) (by decide) (by decide) (by decide) rfl ge_b13 bo_b13 rfl rfl ?_
            refine own_bfB (ii := (11 : Int32)) (c := (114 : Int32)) (j := 12) (pc' := 383) d1_377 d1_378 d1_380 d1_382 (by decide) (by decide) (by decide) (by decide) rfl ge_b13 bo_b13 rfl rfl ?_
            refine own_bfB (ii := (12 : Int32)) (c := (111 : Int32)) (j := 13) (pc' := 389) d1_383 d1_384 d1_386 d1_388 (by decide) (by decide) (by decide) (by decide) rfl ge_b13 bo_b13 rfl rfl ?_
            refine own_bfB (ii := (13 : Int32)) (c := (119 : Int32)) (j := 14) (pc' := 395) d1_389 d1_390 d1_392 d1_394 (by decide) (by decide) (by decide) (by decide) rfl ge_b13 bo_b13 rfl rfl ?_
            refine own_bfB (ii := (14 : Int32)) (c := (110 : Int32)) (j := 15) (pc' := 401) d1_395 d1_396 d1_398 d1_400 (by decide) (by decide) (by decide) (by decide) rfl ge_b13 bo_b13 rfl rfl ?_
            refine own_bfB (ii := (15 : Int32)) (c := (32 : Int32)) (j := 16) (pc' := 407) d1_401 d1_402 d1_404 d1_406 (by decide) (by decide) (by decide) (by decide) rfl ge_b13 bo_b13 rfl rfl ?_
            refine own_bfB (ii := (16 : Int32)) (c := (102 : Int32)) (j := 17) (pc' := 413) d1_407 d1_408 d1_410 d1_412 (by decide) (by decide) (by decide) (by decide) rfl ge_b13 bo_b13 rfl rfl ?_
            refine own_bfB (ii := (17 : Int32)) (c := (111 : Int32)) (j := 18) (pc' := 419) d1_413 d1_414 d1_416 d1_418 (by decide) (by decide) (by decide) (by decide) rfl ge_b13 bo_b13 rfl rfl ?_
            refine own_bfB (ii := (18 : Int32)) (c := (120 : Int32)) (j := 19) (pc' := 425) d1_419 d1_420 d1_422 d1_424 (by decide) (by decide) (by decide) (by decide) rfl ge_b13 bo_b13 rfl rfl ?_
            refine own_bfB (ii := (19 : Int32)) (c := (32 : Int32)) (j := 20) (pc' := 431) d1_425 d1_426 d1_428 d1_430 (by decide) (by decide) (by decide) (by decide) rfl ge_b13 bo_b13 rfl rfl ?_
            refine own_bfB (ii := (20 : Int32)) (c := (106 : Int32)) (j := 21) (pc' := 437) d1_431 d1_432 d1_434 d1_436 (by decide) (by decide) (by decide) (by decide) rfl ge_b13 bo_b13 rfl rfl ?_
            refine own_bfB (ii := (21 : Int32)) (c := (117 : Int32)) (j := 22) (pc' := 443) d1_437 d1_438 d1_440 d1_442 (by decide) (by decide) (by decide) (by decide) rfl ge_b13 bo_b13 rfl rfl ?_
            refine own_bfB (ii := (22 : Int32)) (c := (109 : Int32)) (j := 23) (pc' := 449) d1_443 d1_444 d1_446 d1_448 (by decide) (by decide) (by decide) (by decide) rfl ge_b13 bo_b13 rfl rfl ?_
            refine own_bfB (ii := (23 : Int32)) (c := (112 : Int32)) (j := 24) (pc' := 455) d1_449 d1_450 d1_452 d1_454 (by decide) (by decide) (by decide) (by decide) rfl ge_b13 bo_b13 rfl rfl ?_
            refine own_bfB (ii := (24 : Int32)) (c := (115 : Int32)) (j := 25) (pc' := 461) d1_455 d1_456 d1_458 d1_460 (by decide) (by decide) (by decide) (by decide) rfl ge_b13 bo_b13 rfl rfl ?_
            refine own_bfB (ii := (25 : Int32)) (c := (32 : Int32)) (j := 26) (pc' := 467) d1_461 d1_462 d1_464 d1_466 (by decide) (by decide) (by decide) (by decide) rfl ge_b13 bo_b13 rfl rfl ?_
            refine own_bfB (ii := (26 : Int32)) (c := (111 : Int32)) (j := 27) (pc' := 473) d1_467 d1_468 d1_470 d1_472 (by decide) (by decide) (by decide) (by decide) rfl ge_b13 bo_b13 rfl rfl ?_
            refine own_bfB (ii := (27 : Int32)) (c := (118 : Int32)) (j := 28) (pc' := 479) d1_473 d1_474 d1_476 d1_478 (by decide) (by decide) (by decide) (by decide) rfl ge_b13 bo_b13 rfl rfl ?_
            refine own_bfB (ii := (28 : Int32)) (c := (101 : Int32)) (j := 29) (pc' := 485) d1_479 d1_480 d1_482 d1_484 (by decide) (by decide) (by decide) (by decide) rfl ge_b13 bo_b13 rfl rfl ?_
            refine own_bfB (ii := (29 : Int32)) (c := (114 : Int32)) (j := 30) (pc' := 491) d1_485 d1_486 d1_488 d1_490 (by decide) (by decide) (by decide) (by decide) rfl ge_b13 bo_b13 rfl rfl ?_
            refine own_bfB (ii := (30 : Int32)) (c := (32 : Int32)) (j := 31) (pc' := 497) d1_491 d1_492 d1_494 d1_496 (by decide) (by decide) (by decide) (by decide) rfl ge_b13 bo_b13 rfl rfl ?_
            refine own_bfB (ii := (31 : Int32)) (c := (116 : Int32)) (j := 32) (pc' := 503) d1_497 d1_498 d1_500 d1_502 (by decide) (by decide) (by decide) (by decide) rfl ge_b13 bo_b13 rfl rfl ?_
            refine own_bfB (ii := (32 : Int32)) (c := (104 : Int32)) (j := 33) (pc' := 509) d1_503 d1_504 d1_506 d1_508 (by decide) (by decide) (by decide) (by decide) rfl ge_b13 bo_b13 rfl rfl ?_
            refine own_bfB (ii := (33 : Int32)) (c := (101 : Int32)) (j := 34) (pc' := 515) d1_509 d1_510 d1_512 d1_514 (by decide) (by decide) (by decide) (by decide) rfl ge_b13 bo_b13 rfl rfl ?_
            refine own_bfB (ii := (34 : Int32)) (c := (32 : Int32)) (j := 35) (pc' := 521) d1_515 d1_516 d1_518 d1_520 (by decide) (by decide) (by decide) (by decide) rfl ge_b13 bo_b13 rfl rfl ?_
            refine own_bfB (ii := (35 : Int32)) (c := (108 : Int32)) (j := 36) (pc' := 527) d1_521 d1_522 d1_524 d1_526 (by decide) (by decide) (by decide) (by decide) rfl ge_b13 bo_b13 rfl rfl ?_
            refine own_bfB (ii := (36 : Int32)) (c := (97 : Int32)) (j := 37) (pc' := 533) d1_527 d1_528 d1_530 d1_532 (by decide) (by decide) (by decide) (by decide) rfl ge_b13 bo_b13 rfl rfl ?_
            refine own_bfB (ii := (37 : Int32)) (c := (122 : Int32)) (j := 38) (pc' := 539) d1_533 d1_534 d1_536 d1_538 (by decide) (by decide) (by decide) (by decide) rfl ge_b13 bo_b13 rfl rfl ?_
            refine own_bfB (ii := (38 : Int32)) (c := (121 : Int32)) (j := 39) (pc' := 545) d1_539 d1_540 d1_542 d1_544 (by decide) (by decide) (by decide) (by decide) rfl ge_b13 bo_b13 rfl rfl ?_
            refine own_bfB (ii := (39 : Int32)) (c := (32 : Int32)) (j := 40) (pc' := 551) d1_545 d1_546 d1_548 d1_550 (by decide) (by decide) (by decide) (by decide) rfl ge_b13 bo_b13 rfl rfl ?_
            refine own_bfB (ii := (40 : Int32)) (c := (99 : Int32)) (j := 41) (pc' := 557) d1_551 d1_552 d1_554 d1_556 (by decide) (by decide) (by decide) (by decide) rfl ge_b13 bo_b13 rfl rfl ?_
            refine own_bfB (ii := (41 : Int32)) (c := (111 : Int32)) (j := 42) (pc' := 563) d1_557 d1_558 d1_560 d1_562 (by decide) (by decide) (by decide) (by decide) rfl ge_b13 bo_b13 rfl rfl ?_
            refine own_bfB (ii := (42 : Int32)) (c := (103 : Int32)) (j := 43) (pc' := 569) d1_563 d1_564 d1_566 d1_568 (by decide) (by decide) (by decide) (by decide) rfl ge_b13 bo_b13 rfl rfl ?_
            intro h AF2 sz2 EF2
            exact Run.areturn d1_569 (ty := (.array .byte)) rfl rfl rfl (by decide) (by decide) ⟨_, rfl, b13, rfl, bo_b13, EF2, (by unfold own_msg; rw [if_neg hc1, if_neg hc10, if_neg hc24, if_neg hc48, if_pos hc310]; exact AF2)⟩
        · -- pc 48 not taken: p1 = (3 : Int32)
          refine Run.bipush (43 : Int32) d1_51 (by decide) (pc' := 53) rfl ?_
          refine Run.newP (ty := .byte) (m := 43) (cap := 43) (dv := (.int (0 : Int32))) (k' := 1) (n' := 43) d1_53 rfl (hw _ (List.mem_of_getElem? (i := 5) rfl)) (by decide) (by decide) (Nat.le_refl _) rfl (by decide) (by decide) (by decide) (by decide) (by decide) (pc' := 55) rfl ?_
          intro h14 b14 g14 E14 A14
          have ge_b14 : n0 ≤ b14 := by rw [g14]; exact Z0
          have bo_b14 : h0.size ≤ b14 := by rw [g14]; exact (Keep.refl h0 []).1
          have sz14 : n0 ≤ h14.size := Nat.le_trans Z0 E14.1
          have kp14 := Keep.ext (Keep.refl h0 []) E14
          have AF : Ary Z h14 b14 .byte (own_fill own_m55 0) := A14
          have EF : Ext h0 h14 := Keep.toExt kp14
          refine (?_ : ∀ h, Ary Z h b14 .byte (own_fill own_m55 0) → n0 ≤ h.size → Ext h0 h → Run l Z n0 "com/example/callimachus/callimachus/UuidsSha1PinLaw" method_4_code 1 (some (.array .byte)) "message" ({ frames := 0, cells := 1, slots := 112, locals := 0 } : Room) (Val fun w h' => ∃ b, w = .ref b ∧ h0.size ≤ b ∧ Ext h0 h' ∧ Ary Z h' b .byte ((own_msg p1).map Value.int)) 55 #[.val (.int p1)] [(.ref b14)] h 1 43) h14 AF sz14 EF
          refine own_bfI (ii := (0 : Int32)) (c := (84 : Int32)) (j := 1) (pc' := 60) d1_55 d1_56 d1_57 d1_59 (by decide) (by decide) (by decide) (by decide) rfl ge_b14 bo_b14 rfl rfl ?_
          refine own_bfI (ii := (1 : Int32)) (c := (104 : Int32)) (j := 2) (pc' := 65) d1_60 d1_61 d1_62 d1_64 (by decide) (by decide) (by decide) (by decide) rfl ge_b14 bo_b14 rfl rfl ?_
          refine own_bfI (ii := (2 : Int32)) (c := (101 : Int32)) (j := 3) (pc' := 70) d1_65 d1_66 d1_67 d1_69 (by decide) (by decide) (by decide) (by decide) rfl ge_b14 bo_b14 rfl rfl ?_
          refine own_bfI (ii := (3 : Int32)) (c := (32 : Int32)) (j := 4) (pc' := 75) d1_70 d1_71 d1_72 d1_74 (by decide) (by decide) (by decide) (by decide) rfl ge_b14 bo_b14 rfl rfl ?_
          refine own_bfI (ii := (4 : Int32)) (c := (113 : Int32)) (j := 5) (pc' := 80) d1_75 d1_76 d1_77 d1_79 (by decide) (by decide) (by decide) (by decide) rfl ge_b14 bo_b14 rfl rfl ?_
          refine own_bfI (ii := (5 : Int32)) (c := (117 : Int32)) (j := 6) (pc' := 85) d1_80 d1_81 d1_82 d1_84 (by decide) (by decide) (by decide) (by decide) rfl ge_b14 bo_b14 rfl rfl ?_
          refine own_bfB (ii := (6 : Int32)) (c := (105 : Int32)) (j := 7) (pc' := 91) d1_85 d1_86 d1_88 d1_90 (by decide) (by decide) (by decide) (by decide) rfl ge_b14 bo_b14 rfl rfl ?_
          refine own_bfB (ii := (7 : Int32)) (c := (99 : Int32)) (j := 8) (pc' := 97) d1_91 d1_92 d1_94 d1_96 (by decide) (by decide) (by decide) (by decide) rfl ge_b14 bo_b14 rfl rfl ?_
          refine own_bfB (ii := (8 : Int32)) (c := (107 : Int32)) (j := 9) (pc' := 103) d1_97 d1_98 d1_100 d1_102 (by decide) (by decide) (by decide) (by decide) rfl ge_b14 bo_b14 rfl rfl ?_
          refine own_bfB (ii := (9 : Int32)) (c := (32 : Int32)) (j := 10) (pc' := 109) d1_103 d1_104 d1_106 d1_108 (by decide) (by decide) (by decide) (by decide) rfl ge_b14 bo_b14 rfl rfl ?_
          refine own_bfB (ii := (10 : Int32)) (c := (98 : Int32)) (j := 11) (pc' := 115) d1_109 d1_110 d1_112 d1_114 (by decide) (by decide) (by decide) (by decide) rfl ge_b14 bo_b14 rfl rfl ?_
          refine own_bfB (ii := (11 : Int32)) (c := (114 : Int32)) (j := 12) (pc' := 121) d1_115 d1_116 d1_118 d1_120 (by decide) (by decide) (by decide) (by decide) rfl ge_b14 bo_b14 rfl rfl ?_
          refine own_bfB (ii := (12 : Int32)) (c := (111 : Int32)) (j := 13) (pc' := 127) d1_121 d1_122 d1_124 d1_126 (by decide) (by decide) (by decide) (by decide) rfl ge_b14 bo_b14 rfl rfl ?_
          refine own_bfB (ii := (13 : Int32)) (c := (119 : Int32)) (j := 14) (pc' := 133) d1_127 d1_128 d1_130 d1_132 (by decide) (by decide) (by decide) (by decide) rfl ge_b14 bo_b14 rfl rfl ?_
          refine own_bfB (ii := (14 : Int32)) (c := (110 : Int32)) (j := 15) (pc' := 139) d1_133 d1_134 d1_136 d1_138 (by decide) (by decide) (by decide) (by decide) rfl ge_b14 bo_b14 rfl rfl ?_
          refine own_bfB (ii := (15 : Int32)) (c := (32 : Int32)) (j := 16) (pc' := 145) d1_139 d1_140 d1_142 d1_144 (by decide) (by decide) (by decide) (by decide) rfl ge_b14 bo_b14 rfl rfl ?_
          refine own_bfB (ii := (16 : Int32)) (c := (102 : Int32)) (j := 17) (pc' := 151) d1_145 d1_146 d1_148 d1_150 (by decide) (by decide) (by decide) (by decide) rfl ge_b14 bo_b14 rfl rfl ?_
          refine own_bfB (ii := (17 : Int32)) (c := (111 : Int32)) (j := 18) (pc' := 157) d1_151 d1_152 d1_154 d1_156 (by decide) (by decide) (by decide) (by decide) rfl ge_b14 bo_b14 rfl rfl ?_
          refine own_bfB (ii := (18 : Int32)) (c := (120 : Int32)) (j := 19) (pc' := 163) d1_157 d1_158 d1_160 d1_162 (by decide) (by decide) (by decide) (by decide) rfl ge_b14 bo_b14 rfl rfl ?_
          refine own_bfB (ii := (19 : Int32)) (c := (32 : Int32)) (j := 20) (pc' := 169) d1_163 d1_164 d1_166 d1_168 (by decide) (by decide) (by decide) (by decide) rfl ge_b14 bo_b14 rfl rfl ?_
          refine own_bfB (ii := (20 : Int32)) (c := (106 : Int32)) (j := 21) (pc' := 175) d1_169 d1_170 d1_172 d1_174 (by decide) (by decide) (by decide) (by decide) rfl ge_b14 bo_b14 rfl rfl ?_
          refine own_bfB (ii := (21 : Int32)) (c := (117 : Int32)) (j := 22) (pc' := 181) d1_175 d1_176 d1_178 d1_180 (by decide) (by decide) (by decide) (by decide) rfl ge_b14 bo_b14 rfl rfl ?_
          refine own_bfB (ii := (22 : Int32)) (c := (109 : Int32)) (j := 23) (pc' := 187) d1_181 d1_182 d1_184 d1_186 (by decide) (by decide) (by decide) (by decide) rfl ge_b14 bo_b14 rfl rfl ?_
          refine own_bfB (ii := (23 : Int32)) (c := (112 : Int32)) (j := 24) (pc' := 193) d1_187 d1_188 d1_190 d1_192 (by decide) (by decide) (by decide) (by decide) rfl ge_b14 bo_b14 rfl rfl ?_
          refine own_bfB (ii := (24 : Int32)) (c := (115 : Int32)) (j := 25) (pc' := 199) d1_193 d1_194 d1_196 d1_198 (by decide) (by decide) (by decide) (by decide) rfl ge_b14 bo_b14 rfl rfl ?_
          refine own_bfB (ii := (25 : Int32)) (c := (32 : Int32)) (j := 26) (pc' := 205) d1_199 d1_200 d1_202 d1_204 (by decide) (by decide) (by decide) (by decide) rfl ge_b14 bo_b14 rfl rfl ?_
          refine own_bfB (ii := (26 : Int32)) (c := (111 : Int32)) (j := 27) (pc' := 211) d1_205 d1_206 d1_208 d1_210 (by decide) (by decide) (by decide) (by decide) rfl ge_b14 bo_b14 rfl rfl ?_
          refine own_bfB (ii := (27 : Int32)) (c := (118 : Int32)) (j := 28) (pc' := 217) d1_211 d1_212 d1_214 d1_216 (by decide) (by decide) (by decide) (by decide) rfl ge_b14 bo_b14 rfl rfl ?_
          refine own_bfB (ii := (28 : Int32)) (c := (101 : Int32)) (j := 29) (pc' := 223) d1_217 d1_218 d1_220 d1_222 (by decide) (by decide) (by decide) (by decide) rfl ge_b14 bo_b14 rfl rfl ?_
          refine own_bfB (ii := (29 : Int32)) (c := (114 : Int32)) (j := 30) (pc' := 229) d1_223 d1_224 d1_226 d1_228 (by decide) (by decide) (by decide) (by decide) rfl ge_b14 bo_b14 rfl rfl ?_
          refine own_bfB (ii := (30 : Int32)) (c := (32 : Int32)) (j := 31) (pc' := 235) d1_229 d1_230 d1_232 d1_234 (by decide) (by decide) (by decide) (by decide) rfl ge_b14 bo_b14 rfl rfl ?_
          refine own_bfB (ii := (31 : Int32)) (c := (116 : Int32)) (j := 32) (pc' := 241) d1_235 d1_236 d1_238 d1_240 (by decide) (by decide) (by decide) (by decide) rfl ge_b14 bo_b14 rfl rfl ?_
          refine own_bfB (ii := (32 : Int32)) (c := (104 : Int32)) (j := 33) (pc' := 247) d1_241 d1_242 d1_244 d1_246 (by decide) (by decide) (by decide) (by decide) rfl ge_b14 bo_b14 rfl rfl ?_
          refine own_bfB (ii := (33 : Int32)) (c := (101 : Int32)) (j := 34) (pc' := 253) d1_247 d1_248 d1_250 d1_252 (by decide) (by decide) (by decide) (by decide) rfl ge_b14 bo_b14 rfl rfl ?_
          refine own_bfB (ii := (34 : Int32)) (c := (32 : Int32)) (j := 35) (pc' := 259) d1_253 d1_254 d1_256 d1_258 (by decide) (by decide) (by decide) (by decide) rfl ge_b14 bo_b14 rfl rfl ?_
          refine own_bfB (ii := (35 : Int32)) (c := (108 : Int32)) (j := 36) (pc' := 265) d1_259 d1_260 d1_262 d1_264 (by decide) (by decide) (by decide) (by decide) rfl ge_b14 bo_b14 rfl rfl ?_
          refine own_bfB (ii := (36 : Int32)) (c := (97 : Int32)) (j := 37) (pc' := 271) d1_265 d1_266 d1_268 d1_270 (by decide) (by decide) (by decide) (by decide) rfl ge_b14 bo_b14 rfl rfl ?_
          refine own_bfB (ii := (37 : Int32)) (c := (122 : Int32)) (j := 38) (pc' := 277) d1_271 d1_272 d1_274 d1_276 (by decide) (by decide) (by decide) (by decide) rfl ge_b14 bo_b14 rfl rfl ?_
          refine own_bfB (ii := (38 : Int32)) (c := (121 : Int32)) (j := 39) (pc' := 283) d1_277 d1_278 d1_280 d1_282 (by decide) (by decide) (by decide) (by decide) rfl ge_b14 bo_b14 rfl rfl ?_
          refine own_bfB (ii := (39 : Int32)) (c := (32 : Int32)) (j := 40) (pc' := 289) d1_283 d1_284 d1_286 d1_288 (by decide) (by decide) (by decide) (by decide) rfl ge_b14 bo_b14 rfl rfl ?_
          refine own_bfB (ii := (40 : Int32)) (c := (100 : Int32)) (j := 41) (pc' := 295) d1_289 d1_290 d1_292 d1_294 (by decide) (by decide) (by decide) (by decide) rfl ge_b14 bo_b14 rfl rfl ?_
          refine own_bfB (ii := (41 : Int32)) (c := (111 : Int32)) (j := 42) (pc' := 301) d1_295 d1_296 d1_298 d1_300 (by decide) (by decide) (by decide) (by decide) rfl ge_b14 bo_b14 rfl rfl ?_
          refine own_bfB (ii := (42 : Int32)) (c := (103 : Int32)) (j := 43) (pc' := 307) d1_301 d1_302 d1_304 d1_306 (by decide) (by decide) (by decide) (by decide) rfl ge_b14 bo_b14 rfl rfl ?_
          intro h AF2 sz2 EF2
          exact Run.areturn d1_307 (ty := (.array .byte)) rfl rfl rfl (by decide) (by decide) ⟨_, rfl, b14, rfl, bo_b14, EF2, (by unfold own_msg; rw [if_neg hc1, if_neg hc10, if_neg hc24, if_pos hc48]; exact AF2)⟩
      · -- pc 24 not taken: p1 = (2 : Int32)
        refine Run.iconst (3 : Int32) d1_27 (by decide) (pc' := 28) rfl ?_
        refine Run.newP (ty := .byte) (m := 3) (cap := 3) (dv := (.int (0 : Int32))) (k' := 1) (n' := 3) d1_28 rfl (hw _ (List.mem_of_getElem? (i := 5) rfl)) (by decide) (by decide) (Nat.le_refl _) rfl (by decide) (by decide) (by decide) (by decide) (by decide) (pc' := 30) rfl ?_
        intro h15 b15 g15 E15 A15
        have ge_b15 : n0 ≤ b15 := by rw [g15]; exact Z0
        have bo_b15 : h0.size ≤ b15 := by rw [g15]; exact (Keep.refl h0 []).1
        have sz15 : n0 ≤ h15.size := Nat.le_trans Z0 E15.1
        have kp15 := Keep.ext (Keep.refl h0 []) E15
        replace A15 : Ary Z h15 b15 .byte [(.int (0 : Int32)), (.int (0 : Int32)), (.int (0 : Int32))] := A15
        have AF : Ary Z h15 b15 .byte (own_fill own_m30 0) := A15
        have EF : Ext h0 h15 := Keep.toExt kp15
        refine (?_ : ∀ h, Ary Z h b15 .byte (own_fill own_m30 0) → n0 ≤ h.size → Ext h0 h → Run l Z n0 "com/example/callimachus/callimachus/UuidsSha1PinLaw" method_4_code 1 (some (.array .byte)) "message" ({ frames := 0, cells := 1, slots := 112, locals := 0 } : Room) (Val fun w h' => ∃ b, w = .ref b ∧ h0.size ≤ b ∧ Ext h0 h' ∧ Ary Z h' b .byte ((own_msg p1).map Value.int)) 30 #[.val (.int p1)] [(.ref b15)] h 1 3) h15 AF sz15 EF
        refine own_bfI (ii := (0 : Int32)) (c := (97 : Int32)) (j := 1) (pc' := 35) d1_30 d1_31 d1_32 d1_34 (by decide) (by decide) (by decide) (by decide) rfl ge_b15 bo_b15 rfl rfl ?_
        refine own_bfI (ii := (1 : Int32)) (c := (98 : Int32)) (j := 2) (pc' := 40) d1_35 d1_36 d1_37 d1_39 (by decide) (by decide) (by decide) (by decide) rfl ge_b15 bo_b15 rfl rfl ?_
        refine own_bfI (ii := (2 : Int32)) (c := (99 : Int32)) (j := 3) (pc' := 45) d1_40 d1_41 d1_42 d1_44 (by decide) (by decide) (by decide) (by decide) rfl ge_b15 bo_b15 rfl rfl ?_
        intro h AF2 sz2 EF2
        exact Run.areturn d1_45 (ty := (.array .byte)) rfl rfl rfl (by decide) (by decide) ⟨_, rfl, b15, rfl, bo_b15, EF2, (by unfold own_msg; rw [if_neg hc1, if_neg hc10, if_pos hc24]; exact AF2)⟩
    · -- pc 10 not taken: p1 = (1 : Int32)
      refine Run.iconst (1 : Int32) d1_13 (by decide) (pc' := 14) rfl ?_
      refine Run.newP (ty := .byte) (m := 1) (cap := 1) (dv := (.int (0 : Int32))) (k' := 1) (n' := 1) d1_14 rfl (hw _ (List.mem_of_getElem? (i := 5) rfl)) (by decide) (by decide) (Nat.le_refl _) rfl (by decide) (by decide) (by decide) (by decide) (by decide) (pc' := 16) rfl ?_
      intro h16 b16 g16 E16 A16
      have ge_b16 : n0 ≤ b16 := by rw [g16]; exact Z0
      have bo_b16 : h0.size ≤ b16 := by rw [g16]; exact (Keep.refl h0 []).1
      have sz16 : n0 ≤ h16.size := Nat.le_trans Z0 E16.1
      have kp16 := Keep.ext (Keep.refl h0 []) E16
      replace A16 : Ary Z h16 b16 .byte [(.int (0 : Int32))] := A16
      have AF : Ary Z h16 b16 .byte (own_fill own_m16 0) := A16
      have EF : Ext h0 h16 := Keep.toExt kp16
      refine (?_ : ∀ h, Ary Z h b16 .byte (own_fill own_m16 0) → n0 ≤ h.size → Ext h0 h → Run l Z n0 "com/example/callimachus/callimachus/UuidsSha1PinLaw" method_4_code 1 (some (.array .byte)) "message" ({ frames := 0, cells := 1, slots := 112, locals := 0 } : Room) (Val fun w h' => ∃ b, w = .ref b ∧ h0.size ≤ b ∧ Ext h0 h' ∧ Ary Z h' b .byte ((own_msg p1).map Value.int)) 16 #[.val (.int p1)] [(.ref b16)] h 1 1) h16 AF sz16 EF
      refine own_bfI (ii := (0 : Int32)) (c := (97 : Int32)) (j := 1) (pc' := 21) d1_16 d1_17 d1_18 d1_20 (by decide) (by decide) (by decide) (by decide) rfl ge_b16 bo_b16 rfl rfl ?_
      intro h AF2 sz2 EF2
      exact Run.areturn d1_21 (ty := (.array .byte)) rfl rfl rfl (by decide) (by decide) ⟨_, rfl, b16, rfl, bo_b16, EF2, (by unfold own_msg; rw [if_neg hc1, if_pos hc10]; exact AF2)⟩
  · -- pc 1 not taken: p1 = (0 : Int32)
    refine Run.iconst (0 : Int32) d1_4 (by decide) (pc' := 5) rfl ?_
    refine Run.newP (ty := .byte) (m := 0) (cap := 0) (dv := (.int (0 : Int32))) (k' := 1) (n' := 0) d1_5 rfl (hw _ (List.mem_of_getElem? (i := 5) rfl)) (by decide) (by decide) (Nat.le_refl _) rfl (by decide) (by decide) (by decide) (by decide) (by decide) (pc' := 7) rfl ?_
    intro h17 b17 g17 E17 A17
    have ge_b17 : n0 ≤ b17 := by rw [g17]; exact Z0
    have bo_b17 : h0.size ≤ b17 := by rw [g17]; exact (Keep.refl h0 []).1
    have sz17 : n0 ≤ h17.size := Nat.le_trans Z0 E17.1
    have kp17 := Keep.ext (Keep.refl h0 []) E17
    replace A17 : Ary Z h17 b17 .byte [] := A17
    exact Run.areturn d1_7 (ty := (.array .byte)) rfl rfl rfl (by decide) (by decide) ⟨_, rfl, b17, rfl, bo_b17, Keep.toExt kp17, (by unfold own_msg; rw [if_pos hc1]; exact A17)⟩
set_option maxRecDepth 65536 in
theorem own_v0 : own_sha ([] : List Int32) = own_exp 0 := by decide +kernel
set_option maxRecDepth 65536 in
theorem own_v1 : own_sha own_m16 = own_exp 1 := by decide +kernel
set_option maxRecDepth 65536 in
theorem own_v2 : own_sha own_m30 = own_exp 2 := by decide +kernel
set_option maxRecDepth 65536 in
theorem own_v3 : own_sha own_m55 = own_exp 3 := by decide +kernel
set_option maxRecDepth 65536 in
theorem own_v4 : own_sha own_m317 = own_exp 4 := by decide +kernel
set_option maxRecDepth 65536 in
theorem own_v5 : own_sha own_m579 = own_exp 5 := by decide +kernel
set_option maxRecDepth 65536 in
theorem own_v6 : own_sha own_m914 = own_exp 6 := by decide +kernel
theorem own_all (p : Int32) : own_sha (own_msg p) = own_exp p := by
  by_cases h0 : p = 0
  · subst h0; exact own_v0
  by_cases h1 : p = 1
  · subst h1; exact own_v1
  by_cases h2 : p = 2
  · subst h2; exact own_v2
  by_cases h3 : p = 3
  · subst h3; exact own_v3
  by_cases h4 : p = 4
  · subst h4; exact own_v4
  by_cases h5 : p = 5
  · subst h5; exact own_v5
  have e1 : own_msg p = own_msg 6 := by unfold own_msg; rw [if_neg h0, if_neg h1, if_neg h2, if_neg h3, if_neg h4, if_neg h5]; rfl
  have e2 : own_exp p = own_exp 6 := by unfold own_exp; rw [if_neg h0, if_neg h1, if_neg h2, if_neg h3, if_neg h4, if_neg h5]; rfl
  rw [e1, e2]; exact own_v6
theorem own_mln (p : Int32) : (own_msg p).length ≤ 112 ∧ ∀ c ∈ own_msg p, fits .byte (.int c) = true := by
  unfold own_msg
  split
  · decide
  split
  · decide
  split
  · decide
  split
  · decide
  split
  · decide
  split
  · decide
  decide
theorem own_e5 (p : Int32) : ∃ y0 y1 y2 y3 y4, own_exp p = [y0, y1, y2, y3, y4] := by
  unfold own_exp
  repeat' split
  all_goals exact ⟨_, _, _, _, _, rfl⟩
theorem pn_0 : plainFor x = true := plainFor_of_name (by first | (simp [plainName, overriddenIn]; done) | decide +kernel)
theorem pd__I__B : parseMethodDescriptor "(I)[B" = some ⟨[.int], some (.array .byte)⟩ := by decide +kernel
theorem pd__I__I : parseMethodDescriptor "(I)[I" = some ⟨[.int], some (.array .int)⟩ := by decide +kernel
theorem pd___B__I : parseMethodDescriptor "([B)[I" = some ⟨[(.array .byte)], some (.array .int)⟩ := by decide +kernel
theorem pd___I_I_Z : parseMethodDescriptor "([I[I)Z" = some ⟨[(.array .int), (.array .int)], some .boolean⟩ := by decide +kernel
theorem ef_con0 (m : MethodId) (p1 : Int32) (p2 : Int32) (ai : Addr) (cI : Cell)  : entryFrame m #[(.int p1), (.int p2)] maxLocals = mkF m 0 #[.val (.int p1), .val (.int p2), .unset, .unset, .unset, .unset, .unset, .unset, .unset, .unset] [] := by first | (simp [entryFrame, mkF, argsToLocals, Value.category, maxLocals]; done) | rfl
set_option maxRecDepth 65536 in
set_option maxHeartbeats 40000000 in
theorem con0 (l : Launch) (Z : State) (a0 : Array Value) (hw : ∀ d ∈ tables_1, d.before a0 Z = true) (n0 : Nat) (h0 : Heap) (Z0 : n0 ≤ h0.size) (p1 : Int32) (p2 : Int32) (ai : Addr) (cI : Cell) (od0 : Old Z n0 h0) (SI : Sta Z Z.heap "com/example/callimachus/callimachus/Uuids" "SHA1_INITIAL" "[I" (.ref ai)) (AI : Jvm.RoadKit.Arr Z Z.heap ai cI .int) (EI : Exa Z Z.heap ai "[I") (FI : FitC Z cI) (hI : cI.slots.toList = [.int (1732584193 : Int32), .int ((-271733879) : Int32), .int ((-1732584194) : Int32), .int (271733878 : Int32), .int ((-1009589776) : Int32)]) :
    Con l Z n0 x code maxLocals ret room_1 #[(.int p1), (.int p2)] h0 (Val fun w _ => w = .int 1) := by
  refine Con.of_run pn_0 (fun m => ef_con0 m p1 p2 ai cI ) ?_
  refine Run.iloadN at_0 rfl (pc' := 1) rfl ?_
  refine Run.ldcI (v := (2147483647 : Int32)) at_1 (hw _ (List.mem_of_getElem? (i := 0) rfl)) (pc' := 3) rfl ?_
  refine Run.iand at_3 (pc' := 4) rfl ?_
  refine Run.bipush (7 : Int32) at_4 (by decide) (pc' := 6) rfl ?_
  refine Run.irem at_6 (by decide) (pc' := 7) rfl ?_
  refine Run.istoreN (l' := #[.val (.int p1), .val (.int p2), .val (.int ((p1 &&& (2147483647 : Int32)) % (7 : Int32))), .unset, .unset, .unset, .unset, .unset, .unset, .unset]) at_7 rfl (pc' := 8) rfl ?_
  refine Run.iloadN at_8 rfl (pc' := 9) rfl ?_
  refine Run.ldcI (v := (2147483647 : Int32)) at_9 (hw _ (List.mem_of_getElem? (i := 0) rfl)) (pc' := 11) rfl ?_
  refine Run.iand at_11 (pc' := 12) rfl ?_
  refine Run.bipush (7 : Int32) at_12 (by decide) (pc' := 14) rfl ?_
  refine Run.irem at_14 (by decide) (pc' := 15) rfl ?_
  refine Run.istoreN (l' := #[.val (.int p1), .val (.int p2), .val (.int ((p1 &&& (2147483647 : Int32)) % (7 : Int32))), .val (.int ((p2 &&& (2147483647 : Int32)) % (7 : Int32))), .unset, .unset, .unset, .unset, .unset, .unset]) at_15 rfl (pc' := 16) rfl ?_
  generalize ((p1 &&& (2147483647 : Int32)) % (7 : Int32)) = ki
  generalize ((p2 &&& (2147483647 : Int32)) % (7 : Int32)) = kj
  refine Run.iloadN at_16 rfl (pc' := 17) rfl ?_
  refine Run.callS (k' := 1) (n' := 112) (as := [(.int ki)]) (rest := []) (con_msg l Z a0 hw n0 h0 Z0 ki) at_17 (hw _ (List.mem_of_getElem? (i := 1) rfl)) (hw _ (List.mem_of_getElem? (i := 2) rfl)) (hw _ (List.mem_of_getElem? (i := 3) rfl)) (hw _ (List.mem_of_getElem? (i := 4) rfl)) (by decide) pd__I__B rfl rfl rfl (by decide) (by show (0 : Nat) + (1 + 11) + 0 ≤ _; decide) (by decide) (by decide) (by decide) (by decide) (pc' := 20) rfl ?_
  rintro _ h11 ⟨_, rfl, b11, rfl, bw11, E11, P11⟩
  show Run l Z n0 x.cls code maxLocals ret x.name room_1 _ 20 #[.val (.int p1), .val (.int p2), .val (.int ki), .val (.int kj), .unset, .unset, .unset, .unset, .unset, .unset] [(.ref b11)] h11 1 112
  have ge_b11 : n0 ≤ b11 := Nat.le_trans Z0 bw11
  have bo_b11 : h0.size ≤ b11 := Nat.le_trans (Keep.refl h0 []).1 bw11
  have ne_ai_b11 : ai ≠ b11 := Nat.ne_of_lt (Nat.lt_of_lt_of_le (od0.1 ▸ EI.lt) ge_b11)
  have sz11 : n0 ≤ h11.size := Nat.le_trans Z0 E11.1
  have kp11 := Keep.ext (Keep.refl h0 []) E11
  have od11 := od0.ext E11
  refine Run.astore (l' := #[.val (.int p1), .val (.int p2), .val (.int ki), .val (.int kj), .val (.ref b11), .unset, .unset, .unset, .unset, .unset]) at_20 rfl rfl (pc' := 22) rfl ?_
  refine Run.iloadN at_22 rfl (pc' := 23) rfl ?_
  refine Run.callS (k' := 2) (n' := 224) (as := [(.int kj)]) (rest := []) (con_msg l Z a0 hw n0 h11 sz11 kj) at_23 (hw _ (List.mem_of_getElem? (i := 1) rfl)) (hw _ (List.mem_of_getElem? (i := 2) rfl)) (hw _ (List.mem_of_getElem? (i := 3) rfl)) (hw _ (List.mem_of_getElem? (i := 4) rfl)) (by decide) pd__I__B rfl rfl rfl (by decide) (by show (0 : Nat) + (1 + 11) + 0 ≤ _; decide) (by decide) (by decide) (by decide) (by decide) (pc' := 26) rfl ?_
  rintro _ h12 ⟨_, rfl, b12, rfl, bw12, E12, P12⟩
  show Run l Z n0 x.cls code maxLocals ret x.name room_1 _ 26 #[.val (.int p1), .val (.int p2), .val (.int ki), .val (.int kj), .val (.ref b11), .unset, .unset, .unset, .unset, .unset] [(.ref b12)] h12 2 224
  have ge_b12 : n0 ≤ b12 := Nat.le_trans sz11 bw12
  have bo_b12 : h0.size ≤ b12 := Nat.le_trans kp11.1 bw12
  have ne_b11_b12 : b11 ≠ b12 := Nat.ne_of_lt (Nat.lt_of_lt_of_le P11.lt bw12)
  have ne_ai_b12 : ai ≠ b12 := Nat.ne_of_lt (Nat.lt_of_lt_of_le (od11.1 ▸ EI.lt) ge_b12)
  have A_b11_12 := P11.ext E12
  have sz12 : n0 ≤ h12.size := Nat.le_trans sz11 E12.1
  have kp12 := Keep.ext kp11 E12
  have od12 := od11.ext E12
  refine Run.astore (l' := #[.val (.int p1), .val (.int p2), .val (.int ki), .val (.int kj), .val (.ref b11), .val (.ref b12), .unset, .unset, .unset, .unset]) at_26 rfl rfl (pc' := 28) rfl ?_
  refine Run.iloadN at_28 rfl (pc' := 29) rfl ?_
  refine Run.callS (k' := 3) (n' := 229) (as := [(.int ki)]) (rest := []) (con_exp l Z a0 hw n0 h12 sz12 ki) at_29 (hw _ (List.mem_of_getElem? (i := 6) rfl)) (hw _ (List.mem_of_getElem? (i := 7) rfl)) (hw _ (List.mem_of_getElem? (i := 3) rfl)) (hw _ (List.mem_of_getElem? (i := 8) rfl)) (by decide) pd__I__I rfl rfl rfl (by decide) (by show (0 : Nat) + (1 + 11) + 0 ≤ _; decide) (by decide) (by decide) (by decide) (by decide) (pc' := 32) rfl ?_
  rintro _ h13 ⟨_, rfl, b13, rfl, bw13, E13, P13⟩
  show Run l Z n0 x.cls code maxLocals ret x.name room_1 _ 32 #[.val (.int p1), .val (.int p2), .val (.int ki), .val (.int kj), .val (.ref b11), .val (.ref b12), .unset, .unset, .unset, .unset] [(.ref b13)] h13 3 229
  have ge_b13 : n0 ≤ b13 := Nat.le_trans sz12 bw13
  have bo_b13 : h0.size ≤ b13 := Nat.le_trans kp12.1 bw13
  have ne_b11_b13 : b11 ≠ b13 := Nat.ne_of_lt (Nat.lt_of_lt_of_le A_b11_12.lt bw13)
  have ne_b12_b13 : b12 ≠ b13 := Nat.ne_of_lt (Nat.lt_of_lt_of_le P12.lt bw13)
  have ne_ai_b13 : ai ≠ b13 := Nat.ne_of_lt (Nat.lt_of_lt_of_le (od12.1 ▸ EI.lt) ge_b13)
  have A_b11_13 := A_b11_12.ext E13
  have A_b12_13 := P12.ext E13
  have sz13 : n0 ≤ h13.size := Nat.le_trans sz12 E13.1
  have kp13 := Keep.ext kp12 E13
  have od13 := od12.ext E13
  refine Run.astore (l' := #[.val (.int p1), .val (.int p2), .val (.int ki), .val (.int kj), .val (.ref b11), .val (.ref b12), .val (.ref b13), .unset, .unset, .unset]) at_32 rfl rfl (pc' := 34) rfl ?_
  refine Run.iloadN at_34 rfl (pc' := 35) rfl ?_
  refine Run.callS (k' := 4) (n' := 234) (as := [(.int kj)]) (rest := []) (con_exp l Z a0 hw n0 h13 sz13 kj) at_35 (hw _ (List.mem_of_getElem? (i := 6) rfl)) (hw _ (List.mem_of_getElem? (i := 7) rfl)) (hw _ (List.mem_of_getElem? (i := 3) rfl)) (hw _ (List.mem_of_getElem? (i := 8) rfl)) (by decide) pd__I__I rfl rfl rfl (by decide) (by show (0 : Nat) + (1 + 11) + 0 ≤ _; decide) (by decide) (by decide) (by decide) (by decide) (pc' := 38) rfl ?_
  rintro _ h14 ⟨_, rfl, b14, rfl, bw14, E14, P14⟩
  show Run l Z n0 x.cls code maxLocals ret x.name room_1 _ 38 #[.val (.int p1), .val (.int p2), .val (.int ki), .val (.int kj), .val (.ref b11), .val (.ref b12), .val (.ref b13), .unset, .unset, .unset] [(.ref b14)] h14 4 234
  have ge_b14 : n0 ≤ b14 := Nat.le_trans sz13 bw14
  have bo_b14 : h0.size ≤ b14 := Nat.le_trans kp13.1 bw14
  have ne_b11_b14 : b11 ≠ b14 := Nat.ne_of_lt (Nat.lt_of_lt_of_le A_b11_13.lt bw14)
  have ne_b12_b14 : b12 ≠ b14 := Nat.ne_of_lt (Nat.lt_of_lt_of_le A_b12_13.lt bw14)
  have ne_b13_b14 : b13 ≠ b14 := Nat.ne_of_lt (Nat.lt_of_lt_of_le P13.lt bw14)
  have ne_ai_b14 : ai ≠ b14 := Nat.ne_of_lt (Nat.lt_of_lt_of_le (od13.1 ▸ EI.lt) ge_b14)
  have A_b11_14 := A_b11_13.ext E14
  have A_b12_14 := A_b12_13.ext E14
  have A_b13_14 := P13.ext E14
  have sz14 : n0 ≤ h14.size := Nat.le_trans sz13 E14.1
  have kp14 := Keep.ext kp13 E14
  have od14 := od13.ext E14
  refine Run.astore (l' := #[.val (.int p1), .val (.int p2), .val (.int ki), .val (.int kj), .val (.ref b11), .val (.ref b12), .val (.ref b13), .val (.ref b14), .unset, .unset]) at_38 rfl rfl (pc' := 40) rfl ?_
  refine Run.aload at_40 rfl rfl (pc' := 42) rfl ?_
  refine Run.callS (k' := 7) (n' := 447) (as := [(.ref b11)]) (rest := []) (con_sha l Z a0 hw n0 h14 sz14 b11 (own_msg ki) ai cI A_b11_14 (own_mln ki).1 (own_mln ki).2 od14 SI AI EI FI hI) at_42 (hw _ (List.mem_of_getElem? (i := 20) rfl)) (hw _ (List.mem_of_getElem? (i := 21) rfl)) (hw _ (List.mem_of_getElem? (i := 22) rfl)) (hw _ (List.mem_of_getElem? (i := 23) rfl)) (by decide) pd___B__I rfl rfl rfl (by decide) (by show (0 : Nat) + (5 + 11) + 77 ≤ _; decide) (by decide) (by decide) (by decide) (by decide) (pc' := 45) rfl ?_
  rintro _ h15 ⟨_, rfl, b15, rfl, bw15, E15, P15⟩
  show Run l Z n0 x.cls code maxLocals ret x.name room_1 _ 45 #[.val (.int p1), .val (.int p2), .val (.int ki), .val (.int kj), .val (.ref b11), .val (.ref b12), .val (.ref b13), .val (.ref b14), .unset, .unset] [(.ref b15)] h15 7 447
  have ge_b15 : n0 ≤ b15 := Nat.le_trans sz14 bw15
  have bo_b15 : h0.size ≤ b15 := Nat.le_trans kp14.1 bw15
  have ne_b11_b15 : b11 ≠ b15 := Nat.ne_of_lt (Nat.lt_of_lt_of_le A_b11_14.lt bw15)
  have ne_b12_b15 : b12 ≠ b15 := Nat.ne_of_lt (Nat.lt_of_lt_of_le A_b12_14.lt bw15)
  have ne_b13_b15 : b13 ≠ b15 := Nat.ne_of_lt (Nat.lt_of_lt_of_le A_b13_14.lt bw15)
  have ne_b14_b15 : b14 ≠ b15 := Nat.ne_of_lt (Nat.lt_of_lt_of_le P14.lt bw15)
  have ne_ai_b15 : ai ≠ b15 := Nat.ne_of_lt (Nat.lt_of_lt_of_le (od14.1 ▸ EI.lt) ge_b15)
  have A_b11_15 := A_b11_14.ext E15
  have A_b12_15 := A_b12_14.ext E15
  have A_b13_15 := A_b13_14.ext E15
  have A_b14_15 := P14.ext E15
  have sz15 : n0 ≤ h15.size := Nat.le_trans sz14 E15.1
  have kp15 := Keep.ext kp14 E15
  have od15 := od14.ext E15
  refine Run.astore (l' := #[.val (.int p1), .val (.int p2), .val (.int ki), .val (.int kj), .val (.ref b11), .val (.ref b12), .val (.ref b13), .val (.ref b14), .val (.ref b15), .unset]) at_45 rfl rfl (pc' := 47) rfl ?_
  refine Run.aload at_47 rfl rfl (pc' := 49) rfl ?_
  refine Run.callS (k' := 10) (n' := 660) (as := [(.ref b12)]) (rest := []) (con_sha l Z a0 hw n0 h15 sz15 b12 (own_msg kj) ai cI A_b12_15 (own_mln kj).1 (own_mln kj).2 od15 SI AI EI FI hI) at_49 (hw _ (List.mem_of_getElem? (i := 20) rfl)) (hw _ (List.mem_of_getElem? (i := 21) rfl)) (hw _ (List.mem_of_getElem? (i := 22) rfl)) (hw _ (List.mem_of_getElem? (i := 23) rfl)) (by decide) pd___B__I rfl rfl rfl (by decide) (by show (0 : Nat) + (5 + 11) + 77 ≤ _; decide) (by decide) (by decide) (by decide) (by decide) (pc' := 52) rfl ?_
  rintro _ h16 ⟨_, rfl, b16, rfl, bw16, E16, P16⟩
  show Run l Z n0 x.cls code maxLocals ret x.name room_1 _ 52 #[.val (.int p1), .val (.int p2), .val (.int ki), .val (.int kj), .val (.ref b11), .val (.ref b12), .val (.ref b13), .val (.ref b14), .val (.ref b15), .unset] [(.ref b16)] h16 10 660
  have ge_b16 : n0 ≤ b16 := Nat.le_trans sz15 bw16
  have bo_b16 : h0.size ≤ b16 := Nat.le_trans kp15.1 bw16
  have ne_b11_b16 : b11 ≠ b16 := Nat.ne_of_lt (Nat.lt_of_lt_of_le A_b11_15.lt bw16)
  have ne_b12_b16 : b12 ≠ b16 := Nat.ne_of_lt (Nat.lt_of_lt_of_le A_b12_15.lt bw16)
  have ne_b13_b16 : b13 ≠ b16 := Nat.ne_of_lt (Nat.lt_of_lt_of_le A_b13_15.lt bw16)
  have ne_b14_b16 : b14 ≠ b16 := Nat.ne_of_lt (Nat.lt_of_lt_of_le A_b14_15.lt bw16)
  have ne_b15_b16 : b15 ≠ b16 := Nat.ne_of_lt (Nat.lt_of_lt_of_le P15.lt bw16)
  have ne_ai_b16 : ai ≠ b16 := Nat.ne_of_lt (Nat.lt_of_lt_of_le (od15.1 ▸ EI.lt) ge_b16)
  have A_b11_16 := A_b11_15.ext E16
  have A_b12_16 := A_b12_15.ext E16
  have A_b13_16 := A_b13_15.ext E16
  have A_b14_16 := A_b14_15.ext E16
  have A_b15_16 := P15.ext E16
  have sz16 : n0 ≤ h16.size := Nat.le_trans sz15 E16.1
  have kp16 := Keep.ext kp15 E16
  have od16 := od15.ext E16
  refine Run.astore (l' := #[.val (.int p1), .val (.int p2), .val (.int ki), .val (.int kj), .val (.ref b11), .val (.ref b12), .val (.ref b13), .val (.ref b14), .val (.ref b15), .val (.ref b16)]) at_52 rfl rfl (pc' := 54) rfl ?_
  refine Run.aload at_54 rfl rfl (pc' := 56) rfl ?_
  refine Run.aload at_56 rfl rfl (pc' := 58) rfl ?_
  obtain ⟨y0_17, y1_17, y2_17, y3_17, y4_17, hy17⟩ := own_e5 ki
  have M17 : Ary Z h16 b15 .int [.int y0_17, .int y1_17, .int y2_17, .int y3_17, .int y4_17] := by have q := A_b15_16; rw [own_all, hy17] at q; exact q
  have N17 : Ary Z h16 b13 .int [.int y0_17, .int y1_17, .int y2_17, .int y3_17, .int y4_17] := by have q := A_b13_16; rw [hy17] at q; exact q
  refine Run.callS (k' := 10) (n' := 660) (as := [(.ref b15), (.ref b13)]) (rest := []) (con_mt l Z a0 hw n0 h16 sz16 b15 b13 y0_17 y1_17 y2_17 y3_17 y4_17 M17 N17 ) at_58 (hw _ (List.mem_of_getElem? (i := 54) rfl)) (hw _ (List.mem_of_getElem? (i := 55) rfl)) (hw _ (List.mem_of_getElem? (i := 3) rfl)) (hw _ (List.mem_of_getElem? (i := 56) rfl)) (by decide) pd___I_I_Z rfl rfl rfl (by decide) (by show (0 : Nat) + (2 + 11) + 0 ≤ _; decide) (by decide) (by decide) (by decide) (by decide) (pc' := 61) rfl ?_
  rintro _ _ ⟨_, rfl, rfl, rfl⟩
  show Run l Z n0 x.cls code maxLocals ret x.name room_1 _ 61 #[.val (.int p1), .val (.int p2), .val (.int ki), .val (.int kj), .val (.ref b11), .val (.ref b12), .val (.ref b13), .val (.ref b14), .val (.ref b15), .val (.ref b16)] [(.int (1 : Int32))] h16 10 660
  refine Run.if_eq at_61 (by decide) (pc' := 78) (by decide) (pa := 64) rfl (fun hc61 => ?_) (fun hc61 => ?_)
  · -- pc 61 taken: (1 : Int32) = (0 : Int32)
    exact absurd hc61 (by decide)
  · -- pc 61 not taken: ¬ (1 : Int32) = (0 : Int32)
    refine Run.aload at_64 rfl rfl (pc' := 66) rfl ?_
    refine Run.aload at_66 rfl rfl (pc' := 68) rfl ?_
    obtain ⟨y0_18, y1_18, y2_18, y3_18, y4_18, hy18⟩ := own_e5 kj
    have M18 : Ary Z h16 b16 .int [.int y0_18, .int y1_18, .int y2_18, .int y3_18, .int y4_18] := by have q := P16; rw [own_all, hy18] at q; exact q
    have N18 : Ary Z h16 b14 .int [.int y0_18, .int y1_18, .int y2_18, .int y3_18, .int y4_18] := by have q := A_b14_16; rw [hy18] at q; exact q
    refine Run.callS (k' := 10) (n' := 660) (as := [(.ref b16), (.ref b14)]) (rest := []) (con_mt l Z a0 hw n0 h16 sz16 b16 b14 y0_18 y1_18 y2_18 y3_18 y4_18 M18 N18 ) at_68 (hw _ (List.mem_of_getElem? (i := 54) rfl)) (hw _ (List.mem_of_getElem? (i := 55) rfl)) (hw _ (List.mem_of_getElem? (i := 3) rfl)) (hw _ (List.mem_of_getElem? (i := 56) rfl)) (by decide) pd___I_I_Z rfl rfl rfl (by decide) (by show (0 : Nat) + (2 + 11) + 0 ≤ _; decide) (by decide) (by decide) (by decide) (by decide) (pc' := 71) rfl ?_
    rintro _ _ ⟨_, rfl, rfl, rfl⟩
    show Run l Z n0 x.cls code maxLocals ret x.name room_1 _ 71 #[.val (.int p1), .val (.int p2), .val (.int ki), .val (.int kj), .val (.ref b11), .val (.ref b12), .val (.ref b13), .val (.ref b14), .val (.ref b15), .val (.ref b16)] [(.int (1 : Int32))] h16 10 660
    refine Run.if_eq at_71 (by decide) (pc' := 78) (by decide) (pa := 74) rfl (fun hc71 => ?_) (fun hc71 => ?_)
    · -- pc 71 taken: (1 : Int32) = (0 : Int32)
      exact absurd hc71 (by decide)
    · -- pc 71 not taken: ¬ (1 : Int32) = (0 : Int32)
      refine Run.iconst (1 : Int32) at_74 (by decide) (pc' := 75) rfl ?_
      refine Run.goto at_75 (by decide) (pc' := 79) (by decide) ?_
      exact Run.nreturn at_79 (ty := .boolean) rfl (by simp) (by decide) (by decide) ⟨_, rfl, rfl⟩
theorem own_lenE {args : Array Value} {s : State} {t : Term} {a : Addr} {cl : Cell} (ht : t.eval args s none [] s = some (.ref a)) (hc : s.arrayAt? a = some cl) (h : (Term.length t).eval args s none [] s = some (.int 5)) : cl.slots.size = 5 := by
  simp only [Term.eval, ht, hc, Option.bind_eq_bind, Option.bind_some] at h
  by_cases q : cl.slots.size < 2 ^ 31
  · simp only [q, if_true] at h
    have e : cl.slots.size.toInt32 = 5 := by simpa using h
    have := len_toInt q
    rw [e] at this
    have h5 : (5 : Int32).toInt = 5 := rfl
    omega
  · simp [q] at h
theorem own_elE {args : Array Value} {s : State} {t : Term} {a : Addr} {cl : Cell} {j v : Int32} {i : Nat} (ht : t.eval args s none [] s = some (.ref a)) (hc : s.arrayAt? a = some cl) (hj : ¬ j < 0) (hi : j.toNatClampNeg = i) (h : (Term.elem t (.int j)).eval args s none [] s = some (.int v)) : cl.slots[i]? = some (.int v) := by
  rw [← hi]; exact (elem_f ht (Term.int_eval j) hc hj).symm.trans h
theorem own_ini {args : Array Value} {s : State} {t : Term} {a : Addr} {cl : Cell} {v0 v1 v2 v3 v4 : Int32} (ht : t.eval args s none [] s = some (.ref a)) (hc : s.arrayAt? a = some cl) (hl : (Term.length t).eval args s none [] s = some (.int 5)) (h0 : (Term.elem t (.int 0)).eval args s none [] s = some (.int v0)) (h1 : (Term.elem t (.int 1)).eval args s none [] s = some (.int v1)) (h2 : (Term.elem t (.int 2)).eval args s none [] s = some (.int v2)) (h3 : (Term.elem t (.int 3)).eval args s none [] s = some (.int v3)) (h4 : (Term.elem t (.int 4)).eval args s none [] s = some (.int v4)) : cl.slots.toList = [.int v0, .int v1, .int v2, .int v3, .int v4] := by
  have e0 := own_elE (i := 0) ht hc (by decide) (by decide) h0
  have e1 := own_elE (i := 1) ht hc (by decide) (by decide) h1
  have e2 := own_elE (i := 2) ht hc (by decide) (by decide) h2
  have e3 := own_elE (i := 3) ht hc (by decide) (by decide) h3
  have e4 := own_elE (i := 4) ht hc (by decide) (by decide) h4
  have hs := own_lenE ht hc hl
  apply List.ext_getElem?
  intro j
  rw [Array.getElem?_toList]
  match j with
  | 0 => exact e0
  | 1 => exact e1
  | 2 => exact e2
  | 3 => exact e3
  | 4 => exact e4
  | j + 5 => rw [Array.getElem?_eq_none (by omega)]; simp
set_option maxRecDepth 65536 in
set_option maxHeartbeats 40000000 in
theorem comes_1 {Post : Tables → Env → Array Value → State → Outcome → State → Prop} (hpost : ∀ tb e args s v u, (limb_1_1.after args s (.returned v) u = true ∧ limb_1_2.after args s (.returned v) u = true ∧ True) → FrameEnd s (.returned v) u (Jvm.fieldLocs frame_1_writes args s ++ Jvm.arrayLocs frame_1_arrays args s ++ Jvm.staticLocs frame_1_statics s) 32 1408 → Post tb e args s (.returned v) u) :
    ArmFor flags0 classFile x code maxLocals ret World_1 tables_1 room_1 Calls_1 rest_1 Pre_1 Post := by
  intro l hfl _ _ p e ha hc hk s m args below hf hA hF happ hP
  obtain ⟨hcalls, hrest, hpre⟩ := hP
  obtain ⟨-, -, -, hnamed, -, -, -, hat⟩ := (Spec.applies_iff hf).mp happ
  obtain ⟨hg, hn⟩ := and_e (Cond.before_iff.mp (show (Jvm.Cond.and given_1 narrow_1).before args s = true from hpre))
  obtain ⟨hcnt, g0⟩ := and_e hg
  obtain ⟨ga0, g1⟩ := and_e g0
  obtain ⟨w0, w1, rfl⟩ : ∃ w0 w1 : Value, args = #[w0, w1] := by
    have hs : args.size = 2 := by simpa [Cond.value, given_1] using hcnt
    obtain ⟨L⟩ := args
    match L, hs with
    | [w0, w1], _ => exact ⟨w0, w1, rfl⟩
  have hw := fun d (hd : d ∈ tables_1) => atoms_spec (ws := Jvm.Cond.code x code maxLocals ret :: tables_1) hat d (List.mem_cons_of_mem _ hd)
  have hfit : Fit s := fun {y c} hc i hi => by
    obtain ⟨ha, rfl⟩ := Array.getElem?_eq_some_iff.mp hc
    have q := List.all_eq_true.mp ((Array.all_eq_true_iff_forall_mem.mp hF) _ (Array.getElem_mem ha)) i (List.mem_range.mpr hi)
    simpa [Array.getElem?_eq_getElem hi] using q
  obtain ⟨i0, e0⟩ := is_v ga0
  obtain rfl : w0 = (.int i0) := Option.some.inj e0
  obtain ⟨i1, e1⟩ := is_v g1
  obtain rfl : w1 = (.int i1) := Option.some.inj e1
  obtain ⟨n1, t1⟩ := and_e hn
  obtain ⟨n2, t2⟩ := and_e t1
  obtain ⟨n3, t3⟩ := and_e t2
  obtain ⟨m0, t4⟩ := and_e t3
  obtain ⟨m1, t5⟩ := and_e t4
  obtain ⟨m2, t6⟩ := and_e t5
  obtain ⟨m3, m4⟩ := and_e t6
  obtain ⟨ai, ev⟩ := arr_v n1
  have SI := Sta.start ev (Or.inr ⟨(hw _ (List.mem_of_getElem? (i := 22) rfl)), (hw _ (List.mem_of_getElem? (i := 33) rfl))⟩)
  obtain ⟨cI, AI⟩ := Arr.start ev n1
  have EI := Exa.start ev n2
  have FI := FitC.start hfit AI
  have hI := own_ini ev (AI.fin (Vm.Alike.refl _)) (eqv_i (Term.int_eval (5)) n3) (eqv_i (Term.int_eval _) m0) (eqv_i (Term.int_eval _) m1) (eqv_i (Term.int_eval _) m2) (eqv_i (Term.int_eval _) m3) (eqv_i (Term.int_eval _) m4)
  obtain ⟨n, o, h1, h2, h3, _, L, rfl, ⟨⟨_, rfl, rfl⟩, N⟩, hq⟩ := con0 l s _ hw s.heap.size s.heap (Nat.le_refl _) i0 i1 ai cI (Old.start s) SI AI EI FI hI tables_1 p e ha hc hk s m _ below hf ((Spec.applies_iff_loose hf).mp happ).1 ⟨rfl, State.Warmed39.refl s, rfl⟩ trivial
  refine ⟨n, _, h1, h2, h3, hpost _ _ _ _ _ _ ⟨Cond.after_iff.mpr rfl, Cond.after_iff.mpr (eq_i res_at (Term.int_eval (1)) rfl), trivial⟩ ⟨hq.1, hq.2.1, (hq.2.2.sift fun y hy => Or.inr (N y hy)).mono (by decide) (by decide)⟩⟩
theorem main_1_1 : Claimed_1_1 := comes_1 fun _ _ _ _ _ _ h hF => ⟨h.1, hF⟩
theorem main_1_2 : Claimed_1_2 := comes_1 fun _ _ _ _ _ _ h hF => ⟨h.2.1, hF⟩
end Jvm.Pilot.@@N@@
namespace Jvm.Pilot.@@N@@
open Jvm Jvm.ClassFile Sem Op Lib Jvm.Free Jvm.Stand Jvm.Pilot.@@N@@.Jvm.D
/-! MADE BY PROGRAM (witnessworld.py) out of the Statement's table words and the real class files: 15 classes; the members and pool entries that the words name. The judged class is class 1, her method 1. -/
namespace start1
open Jvm.ClassFile
def u (s : String) : CpInfo := .utf8 (stringToUtf16 s)
/-- a pool by its gaps: so many unusable entries, then the entry; so many at the end -/
def gap : Nat → List CpInfo → List CpInfo
  | 0, r => r
  | n + 1, r => .unusable :: gap n r
def poolList (es : List (Nat × CpInfo)) (last : Nat) : List CpInfo := es.foldr (fun e r => gap e.1 (e.2 :: r)) (gap last [])
def pool (es : List (Nat × CpInfo)) (last : Nat) : Array CpInfo := ⟨poolList es last⟩
def fileOf (pool : Array CpInfo) (this : Nat) (attrs : Array Attribute := #[]) (ms : Array MethodInfo := #[]) (fl : Nat := 33) (sup : Nat := 0) (ifs : Array Nat := #[]) (fds : Array FieldInfo := #[]) : ClassFile where
  minorVersion := 0
  majorVersion := 65
  constantPool := pool
  accessFlags := fl
  thisClass := this
  superClass := sup
  interfaces := ifs
  fields := fds
  methods := ms
  attributes := attrs
def plain (name : String) (sup : Option ClassId) : Class where
  name := name
  kind := .ordinary
  loader := none
  accessFlags := 33
  super := sup
  interfaces := #[]
  cf := none
  fields := #[]
  methods := #[]
  instanceTypes := #[]
  staticTypes := #[]
  resolved := #[]
  callSites := []
  init := .initialized
  statics := none
  mirror := none

def pool0 : Array CpInfo := pool [(5, u "<init>"), (0, u "()V"), (1, .class_ 10), (1, u "java/lang/Object"), (85, u "clone"), (0, u "()Ljava/lang/Object;")] 26

def k0m0 : Method := { name := "<init>", desc := "()V", sig := { parameters := [], returnType := none }, accessFlags := 1, code := none }
def k0m1 : Method := { name := "clone", desc := "()Ljava/lang/Object;", sig := { parameters := [], returnType := some (.object "java/lang/Object") }, accessFlags := 260, code := none }
/-- java/lang/Object -/
def k0 : Class := { plain "java/lang/Object" none with
  accessFlags := 33
  interfaces := #[]
  cf := some (fileOf pool0 8 #[] #[{ accessFlags := 1, nameIndex := 5, descriptorIndex := 6, attributes := #[] }, { accessFlags := 260, nameIndex := 96, descriptorIndex := 97, attributes := #[] }] 33 0 #[] #[])
  fields := #[]
  methods := #[k0m0, k0m1]
  instanceTypes := #[]
  staticTypes := #[]
  resolved := Array.replicate 124 none
  statics := none }

def pool1 : Array CpInfo := pool [(2, .class_ 4), (1, u "java/lang/Object"), (0, u "<init>"), (0, u "()V"), (0, .integer 2147483647), (0, .methodref 9 10), (0, .class_ 11), (0, .nameAndType 12 13), (0, u "com/example/callimachus/callimachus/UuidsSha1PinLaw"), (0, u "message"), (0, u "(I)[B"), (0, .methodref 9 15), (0, .nameAndType 16 17), (0, u "expected"), (0, u "(I)[I"), (0, .methodref 19 20), (0, .class_ 21), (0, .nameAndType 22 23), (0, u "com/example/callimachus/callimachus/Uuids"), (0, u "sha1"), (0, u "([B)[I"), (0, .methodref 9 25), (0, .nameAndType 26 27), (0, u "matches"), (0, u "([I[I)Z"), (0, .integer 3661210606), (0, .integer 1584089869), (0, .integer 844480495), (0, .integer 2506102928), (0, .integer 2950170377), (0, .integer 2264392759), (0, .integer 4205160444), (0, .integer 3780976092), (0, .integer 3119180522), (0, .integer 930506680), (0, .integer 2845392438), (0, .integer 1191608682), (0, .integer 3124634993), (0, .integer 2018558572), (0, .integer 2630932637), (0, .integer 802480582), (0, .integer 2049779964), (0, .integer 3984891617), (0, .integer 3145131833), (0, .integer 462678802), (0, .integer 3734973567), (0, .integer 3529382714), (0, .integer 4208191578), (0, .integer 198278555), (0, .integer 269333683), (0, .integer 2224569924), (0, .integer 473682542), (0, .integer 3131984545), (0, .integer 4182845925), (0, .integer 3846598897), (0, .integer 2761630790), (0, .integer 2687263835), (0, .integer 4095342997), (0, .integer 3060830501), (0, .integer 973382233), (2, u "law"), (0, u "(II)Z")] 7

def k1m0 : Method := { name := "<init>", desc := "()V", sig := { parameters := [], returnType := none }, accessFlags := 1, code := none }
def k1c1 : Code := { maxStack := 2, maxLocals := 10, code := code, exceptionTable := #[], attributes := #[] }
def k1m1 : Method := { name := "law", desc := "(II)Z", sig := { parameters := [.int, .int], returnType := some .boolean }, accessFlags := 9, code := some k1c1 }
def k1c2 : Code := { maxStack := 3, maxLocals := 2, code := method_3_code, exceptionTable := #[], attributes := #[] }
def k1m2 : Method := { name := "matches", desc := "([I[I)Z", sig := { parameters := [(.array .int), (.array .int)], returnType := some .boolean }, accessFlags := 10, code := some k1c2 }
def k1c3 : Code := { maxStack := 4, maxLocals := 1, code := method_4_code, exceptionTable := #[], attributes := #[] }
def k1m3 : Method := { name := "message", desc := "(I)[B", sig := { parameters := [.int], returnType := some (.array .byte) }, accessFlags := 10, code := some k1c3 }
def k1c4 : Code := { maxStack := 4, maxLocals := 1, code := method_5_code, exceptionTable := #[], attributes := #[] }
def k1m4 : Method := { name := "expected", desc := "(I)[I", sig := { parameters := [.int], returnType := some (.array .int) }, accessFlags := 10, code := some k1c4 }
/-- com/example/callimachus/callimachus/UuidsSha1PinLaw -/
def k1 : Class := { plain "com/example/callimachus/callimachus/UuidsSha1PinLaw" (some 0) with
  accessFlags := 49
  interfaces := #[]
  cf := some (fileOf pool1 9 #[] #[{ accessFlags := 1, nameIndex := 5, descriptorIndex := 6, attributes := #[] }, { accessFlags := 9, nameIndex := 65, descriptorIndex := 66, attributes := #[] }, { accessFlags := 10, nameIndex := 26, descriptorIndex := 27, attributes := #[] }, { accessFlags := 10, nameIndex := 12, descriptorIndex := 13, attributes := #[] }, { accessFlags := 10, nameIndex := 16, descriptorIndex := 17, attributes := #[] }] 49 2 #[] #[])
  fields := #[]
  methods := #[k1m0, k1m1, k1m2, k1m3, k1m4]
  instanceTypes := #[]
  staticTypes := #[]
  resolved := Array.replicate 74 none
  statics := none }

def pool2 : Array CpInfo := pool [(2, .class_ 4), (1, u "java/lang/Object"), (0, u "<init>"), (0, u "()V"), (6, .class_ 14), (0, u "com/example/callimachus/callimachus/Uuids"), (68, u "sha1"), (0, u "([B)[I"), (0, .class_ 86), (0, u "java/lang/Integer"), (10, .methodref 13 98), (0, .nameAndType 99 100), (0, u "padded"), (0, u "([B)[B"), (0, .fieldref 13 102), (0, .nameAndType 103 104), (0, u "SHA1_INITIAL"), (0, u "[I"), (0, .methodref 106 107), (0, .class_ 104), (0, .nameAndType 108 109), (0, u "clone"), (0, u "()Ljava/lang/Object;"), (0, .methodref 13 111), (0, .nameAndType 112 113), (0, u "hashBlock"), (0, u "([I[BI[I)V"), (0, .methodref 115 116), (0, .class_ 117), (0, .nameAndType 118 119), (0, u "java/lang/System"), (0, u "arraycopy"), (0, u "(Ljava/lang/Object;ILjava/lang/Object;II)V"), (2, .long 8), (1, .methodref 85 125), (0, .nameAndType 126 127), (0, u "rotateLeft"), (0, u "(II)I"), (0, .integer 1518500249), (0, .integer 1859775393), (0, .integer 2400959708), (0, .integer 3395469782), (5, u "CANONICAL_LENGTH"), (0, u "I"), (2, u "WORD"), (0, u "J"), (0, u "SHA1_BLOCK"), (1, u "SHA1_ROUNDS")] 15

def k2m0 : Method := { name := "<init>", desc := "()V", sig := { parameters := [], returnType := none }, accessFlags := 2, code := none }
def k2c1 : Code := { maxStack := 4, maxLocals := 5, code := prog_37_method_6_code, exceptionTable := #[], attributes := #[] }
def k2m1 : Method := { name := "sha1", desc := "([B)[I", sig := { parameters := [(.array .byte)], returnType := some (.array .int) }, accessFlags := 8, code := some k2c1 }
def k2c2 : Code := { maxStack := 7, maxLocals := 6, code := prog_37_method_7_code, exceptionTable := #[], attributes := #[] }
def k2m2 : Method := { name := "padded", desc := "([B)[B", sig := { parameters := [(.array .byte)], returnType := some (.array .byte) }, accessFlags := 10, code := some k2c2 }
def k2c3 : Code := { maxStack := 6, maxLocals := 13, code := prog_37_method_8_code, exceptionTable := #[], attributes := #[] }
def k2m3 : Method := { name := "hashBlock", desc := "([I[BI[I)V", sig := { parameters := [(.array .int), (.array .byte), .int, (.array .int)], returnType := none }, accessFlags := 10, code := some k2c3 }
/-- com/example/callimachus/callimachus/Uuids -/
def k2 : Class := { plain "com/example/callimachus/callimachus/Uuids" (some 0) with
  accessFlags := 32
  interfaces := #[]
  cf := some (fileOf pool2 13 #[] #[{ accessFlags := 2, nameIndex := 5, descriptorIndex := 6, attributes := #[] }, { accessFlags := 8, nameIndex := 83, descriptorIndex := 84, attributes := #[] }, { accessFlags := 10, nameIndex := 99, descriptorIndex := 100, attributes := #[] }, { accessFlags := 10, nameIndex := 112, descriptorIndex := 113, attributes := #[] }] 32 2 #[] #[{ accessFlags := 26, nameIndex := 137, descriptorIndex := 138, attributes := #[] }, { accessFlags := 26, nameIndex := 141, descriptorIndex := 142, attributes := #[] }, { accessFlags := 26, nameIndex := 143, descriptorIndex := 138, attributes := #[] }, { accessFlags := 26, nameIndex := 145, descriptorIndex := 138, attributes := #[] }, { accessFlags := 26, nameIndex := 103, descriptorIndex := 104, attributes := #[] }])
  fields := #[{ name := "CANONICAL_LENGTH", type := .int, accessFlags := 26, slot := 0, constantValue := 0 }, { name := "WORD", type := .long, accessFlags := 26, slot := 1, constantValue := 0 }, { name := "SHA1_BLOCK", type := .int, accessFlags := 26, slot := 2, constantValue := 0 }, { name := "SHA1_ROUNDS", type := .int, accessFlags := 26, slot := 3, constantValue := 0 }, { name := "SHA1_INITIAL", type := (.array .int), accessFlags := 26, slot := 4, constantValue := 0 }]
  methods := #[k2m0, k2m1, k2m2, k2m3]
  instanceTypes := #[]
  staticTypes := #[.int, .long, .int, .int, (.array .int)]
  resolved := Array.replicate 161 none
  statics := some 0 }

def pool3 : Array CpInfo := pool [(2, .class_ 4), (1, u "java/lang/Object"), (0, u "<init>"), (0, u "()V"), (1, .class_ 10), (1, u "java/lang/System"), (0, u "allowSecurityManager"), (0, u "I"), (16, u "cons"), (0, u "Ljava/io/Console;"), (77, .class_ 110), (1, u "java/lang/System$CallersHolder"), (43, u "initialErrStream"), (0, u "Ljava/io/PrintStream;"), (19, u "security"), (0, u "Ljava/lang/SecurityManager;"), (31, .class_ 209), (0, u "java/lang/System$1"), (7, u "props"), (0, u "Ljava/util/Properties;"), (2, u "lineSeparator"), (0, u "Ljava/lang/String;"), (96, .class_ 321), (1, u "java/lang/System$LoggerFinder"), (5, .class_ 328), (0, u "java/lang/System$Logger"), (67, u "err"), (2, u "out"), (91, u "notSupportedJnuEncoding"), (15, u "in"), (17, u "initialIn"), (0, u "Ljava/io/InputStream;"), (35, u "bootLayer"), (0, u "Ljava/lang/ModuleLayer;"), (99, .class_ 664), (0, u "java/lang/System$2"), (9, u "NEVER"), (2, u "MAYBE"), (49, u "arraycopy"), (0, u "(Ljava/lang/Object;ILjava/lang/Object;II)V"), (72, .class_ 802), (0, u "java/lang/System$Logger$Level")] 31

def k3m0 : Method := { name := "<init>", desc := "()V", sig := { parameters := [], returnType := none }, accessFlags := 2, code := none }
def k3m1 : Method := { name := "arraycopy", desc := "(Ljava/lang/Object;ILjava/lang/Object;II)V", sig := { parameters := [(.object "java/lang/Object"), .int, (.object "java/lang/Object"), .int, .int], returnType := none }, accessFlags := 265, code := none }
/-- java/lang/System -/
def k3 : Class := { plain "java/lang/System" (some 0) with
  accessFlags := 49
  interfaces := #[]
  cf := some (fileOf pool3 8 #[.nestMembers #[319, 327, 801, 108, 663, 208]] #[{ accessFlags := 2, nameIndex := 5, descriptorIndex := 6, attributes := #[] }, { accessFlags := 265, nameIndex := 727, descriptorIndex := 728, attributes := #[] }] 49 2 #[] #[{ accessFlags := 25, nameIndex := 507, descriptorIndex := 526, attributes := #[] }, { accessFlags := 25, nameIndex := 399, descriptorIndex := 155, attributes := #[] }, { accessFlags := 25, nameIndex := 396, descriptorIndex := 155, attributes := #[] }, { accessFlags := 10, nameIndex := 525, descriptorIndex := 526, attributes := #[] }, { accessFlags := 26, nameIndex := 674, descriptorIndex := 12, attributes := #[] }, { accessFlags := 26, nameIndex := 677, descriptorIndex := 12, attributes := #[] }, { accessFlags := 10, nameIndex := 11, descriptorIndex := 12, attributes := #[] }, { accessFlags := 74, nameIndex := 175, descriptorIndex := 176, attributes := #[] }, { accessFlags := 10, nameIndex := 491, descriptorIndex := 222, attributes := #[] }, { accessFlags := 74, nameIndex := 29, descriptorIndex := 30, attributes := #[] }, { accessFlags := 74, nameIndex := 154, descriptorIndex := 155, attributes := #[] }, { accessFlags := 10, nameIndex := 217, descriptorIndex := 218, attributes := #[] }, { accessFlags := 10, nameIndex := 221, descriptorIndex := 222, attributes := #[] }, { accessFlags := 8, nameIndex := 562, descriptorIndex := 563, attributes := #[] }])
  fields := #[{ name := "in", type := (.object "java/io/InputStream"), accessFlags := 25, slot := 0, constantValue := 0 }, { name := "out", type := (.object "java/io/PrintStream"), accessFlags := 25, slot := 1, constantValue := 0 }, { name := "err", type := (.object "java/io/PrintStream"), accessFlags := 25, slot := 2, constantValue := 0 }, { name := "initialIn", type := (.object "java/io/InputStream"), accessFlags := 10, slot := 3, constantValue := 0 }, { name := "NEVER", type := .int, accessFlags := 26, slot := 4, constantValue := 0 }, { name := "MAYBE", type := .int, accessFlags := 26, slot := 5, constantValue := 0 }, { name := "allowSecurityManager", type := .int, accessFlags := 10, slot := 6, constantValue := 0 }, { name := "security", type := (.object "java/lang/SecurityManager"), accessFlags := 74, slot := 7, constantValue := 0 }, { name := "notSupportedJnuEncoding", type := (.object "java/lang/String"), accessFlags := 10, slot := 8, constantValue := 0 }, { name := "cons", type := (.object "java/io/Console"), accessFlags := 74, slot := 9, constantValue := 0 }, { name := "initialErrStream", type := (.object "java/io/PrintStream"), accessFlags := 74, slot := 10, constantValue := 0 }, { name := "props", type := (.object "java/util/Properties"), accessFlags := 10, slot := 11, constantValue := 0 }, { name := "lineSeparator", type := (.object "java/lang/String"), accessFlags := 10, slot := 12, constantValue := 0 }, { name := "bootLayer", type := (.object "java/lang/ModuleLayer"), accessFlags := 8, slot := 13, constantValue := 0 }]
  methods := #[k3m0, k3m1]
  instanceTypes := #[]
  staticTypes := #[(.object "java/io/InputStream"), (.object "java/io/PrintStream"), (.object "java/io/PrintStream"), (.object "java/io/InputStream"), .int, .int, .int, (.object "java/lang/SecurityManager"), (.object "java/lang/String"), (.object "java/io/Console"), (.object "java/io/PrintStream"), (.object "java/util/Properties"), (.object "java/lang/String"), (.object "java/lang/ModuleLayer")]
  resolved := Array.replicate 834 none
  statics := none }

def pool4 : Array CpInfo := pool [(1, .class_ 2), (0, u "java/lang/Cloneable"), (0, .class_ 4), (0, u "java/lang/Object")] 2

/-- java/lang/Cloneable -/
def k4 : Class := { plain "java/lang/Cloneable" (some 0) with
  accessFlags := 1537
  interfaces := #[]
  cf := some (fileOf pool4 1 #[] #[] 1537 3 #[] #[])
  fields := #[]
  methods := #[]
  instanceTypes := #[]
  staticTypes := #[]
  resolved := Array.replicate 7 none
  statics := none }

def pool5 : Array CpInfo := pool [(1, .class_ 2), (0, u "java/io/Serializable"), (0, .class_ 4), (0, u "java/lang/Object")] 2

/-- java/io/Serializable -/
def k5 : Class := { plain "java/io/Serializable" (some 0) with
  accessFlags := 1537
  interfaces := #[]
  cf := some (fileOf pool5 1 #[] #[] 1537 3 #[] #[])
  fields := #[]
  methods := #[]
  instanceTypes := #[]
  staticTypes := #[]
  resolved := Array.replicate 7 none
  statics := none }

def pool6 : Array CpInfo := pool [(2, .class_ 4), (1, u "java/lang/Object"), (0, u "<init>"), (0, u "()V"), (1, .class_ 10), (1, u "java/lang/Number"), (2, .class_ 14), (0, u "java/io/Serializable"), (0, u "serialVersionUID"), (0, u "J")] 20

def k6m0 : Method := { name := "<init>", desc := "()V", sig := { parameters := [], returnType := none }, accessFlags := 1, code := none }
/-- java/lang/Number -/
def k6 : Class := { plain "java/lang/Number" (some 0) with
  accessFlags := 1057
  interfaces := #[5]
  cf := some (fileOf pool6 8 #[] #[{ accessFlags := 1, nameIndex := 5, descriptorIndex := 6, attributes := #[] }] 1057 2 #[13] #[{ accessFlags := 26, nameIndex := 15, descriptorIndex := 16, attributes := #[] }])
  fields := #[{ name := "serialVersionUID", type := .long, accessFlags := 26, slot := 0, constantValue := 0 }]
  methods := #[k6m0]
  instanceTypes := #[]
  staticTypes := #[.long]
  resolved := Array.replicate 37 none
  statics := none }

def pool7 : Array CpInfo := pool [(1, .class_ 2), (0, u "java/lang/Comparable"), (0, .class_ 4), (0, u "java/lang/Object")] 7

/-- java/lang/Comparable -/
def k7 : Class := { plain "java/lang/Comparable" (some 0) with
  accessFlags := 1537
  interfaces := #[]
  cf := some (fileOf pool7 1 #[] #[] 1537 3 #[] #[])
  fields := #[]
  methods := #[]
  instanceTypes := #[]
  staticTypes := #[]
  resolved := Array.replicate 12 none
  statics := none }

def pool8 : Array CpInfo := pool [(1, .class_ 2), (0, u "java/lang/constant/Constable"), (0, .class_ 4), (0, u "java/lang/Object")] 6

/-- java/lang/constant/Constable -/
def k8 : Class := { plain "java/lang/constant/Constable" (some 0) with
  accessFlags := 1537
  interfaces := #[]
  cf := some (fileOf pool8 1 #[] #[] 1537 3 #[] #[])
  fields := #[]
  methods := #[]
  instanceTypes := #[]
  staticTypes := #[]
  resolved := Array.replicate 11 none
  statics := none }

def pool9 : Array CpInfo := pool [(1, .class_ 2), (0, u "java/lang/constant/ConstantDesc"), (0, .class_ 4), (0, u "java/lang/Object")] 32

/-- java/lang/constant/ConstantDesc -/
def k9 : Class := { plain "java/lang/constant/ConstantDesc" (some 0) with
  accessFlags := 1537
  interfaces := #[]
  cf := some (fileOf pool9 1 #[] #[] 1537 3 #[] #[])
  fields := #[]
  methods := #[]
  instanceTypes := #[]
  staticTypes := #[]
  resolved := Array.replicate 37 none
  statics := none }

def pool10 : Array CpInfo := pool [(1, .class_ 2), (0, u "java/lang/Integer"), (16, u "digits"), (0, u "[C"), (39, u "(II)I"), (24, u "DigitOnes"), (0, u "[B"), (2, u "DigitTens"), (99, .class_ 190), (0, u "java/lang/Integer$IntegerCache"), (3, u "I"), (8, .class_ 204), (0, u "java/lang/Number"), (2, u "value"), (94, u "TYPE"), (0, u "Ljava/lang/Class;"), (0, .class_ 305), (0, u "java/lang/Comparable"), (0, .class_ 307), (0, u "java/lang/constant/Constable"), (0, .class_ 309), (0, u "java/lang/constant/ConstantDesc"), (0, u "MIN_VALUE"), (1, u "MAX_VALUE"), (3, u "SIZE"), (1, u "BYTES"), (1, u "serialVersionUID"), (0, u "J"), (86, u "rotateLeft")] 44

def k10c0 : Code := { maxStack := 3, maxLocals := 2, code := jdk_33_method_50_code, exceptionTable := #[], attributes := #[] }
def k10m0 : Method := { name := "rotateLeft", desc := "(II)I", sig := { parameters := [.int, .int], returnType := some .int }, accessFlags := 9, code := some k10c0 }
/-- java/lang/Integer -/
def k10 : Class := { plain "java/lang/Integer" (some 6) with
  accessFlags := 49
  interfaces := #[7, 8, 9]
  cf := some (fileOf pool10 1 #[.nestMembers #[189]] #[{ accessFlags := 9, nameIndex := 408, descriptorIndex := 60, attributes := #[] }] 49 203 #[304, 306, 308] #[{ accessFlags := 25, nameIndex := 310, descriptorIndex := 194, attributes := #[] }, { accessFlags := 25, nameIndex := 312, descriptorIndex := 194, attributes := #[] }, { accessFlags := 25, nameIndex := 302, descriptorIndex := 303, attributes := #[] }, { accessFlags := 24, nameIndex := 19, descriptorIndex := 20, attributes := #[] }, { accessFlags := 24, nameIndex := 89, descriptorIndex := 86, attributes := #[] }, { accessFlags := 24, nameIndex := 85, descriptorIndex := 86, attributes := #[] }, { accessFlags := 18, nameIndex := 207, descriptorIndex := 194, attributes := #[] }, { accessFlags := 25, nameIndex := 316, descriptorIndex := 194, attributes := #[] }, { accessFlags := 25, nameIndex := 318, descriptorIndex := 194, attributes := #[] }, { accessFlags := 26, nameIndex := 320, descriptorIndex := 321, attributes := #[] }])
  fields := #[{ name := "MIN_VALUE", type := .int, accessFlags := 25, slot := 0, constantValue := 0 }, { name := "MAX_VALUE", type := .int, accessFlags := 25, slot := 1, constantValue := 0 }, { name := "TYPE", type := (.object "java/lang/Class"), accessFlags := 25, slot := 2, constantValue := 0 }, { name := "digits", type := (.array .char), accessFlags := 24, slot := 3, constantValue := 0 }, { name := "DigitTens", type := (.array .byte), accessFlags := 24, slot := 4, constantValue := 0 }, { name := "DigitOnes", type := (.array .byte), accessFlags := 24, slot := 5, constantValue := 0 }, { name := "value", type := .int, accessFlags := 18, slot := 0, constantValue := 0 }, { name := "SIZE", type := .int, accessFlags := 25, slot := 6, constantValue := 0 }, { name := "BYTES", type := .int, accessFlags := 25, slot := 7, constantValue := 0 }, { name := "serialVersionUID", type := .long, accessFlags := 26, slot := 8, constantValue := 0 }]
  methods := #[k10m0]
  instanceTypes := #[.int]
  staticTypes := #[.int, .int, (.object "java/lang/Class"), (.array .char), (.array .byte), (.array .byte), .int, .int, .long]
  resolved := Array.replicate 453 none
  statics := none }

/-- the primitive byte -/
def k11 : Class := { plain "byte" none with kind := .primitive 'B', accessFlags := 0x411 }
/-- [B -/
def k12 : Class := { plain "[B" (some 0) with kind := .array 11 .byte, interfaces := #[4, 5], accessFlags := 1041 }

/-- the primitive int -/
def k13 : Class := { plain "int" none with kind := .primitive 'I', accessFlags := 0x411 }
/-- [I -/
def k14 : Class := { plain "[I" (some 0) with kind := .array 13 .int, interfaces := #[4, 5], accessFlags := 1041 }

def heap : Heap := #[{ cls := 2, slots := #[.int 0, .long 0, .int 0, .int 0, .ref 1], vm := .statics 2 },
  { cls := 14, slots := #[.int (1732584193), .int (-271733879), .int (-1732584194), .int (271733878), .int (-1009589776)], vm := .none }]
def classes : Array Class := #[k0, k1, k2, k3, k4, k5, k6, k7, k8, k9, k10, k11, k12, k13, k14]
def interned : List (Array UInt16 × Addr) := []
def slotsUsed : Nat := 10
def theMethod : MethodId := ⟨1, 1⟩
def args0 : Array Value := #[.int 5, .int 3]
def aboutOver (below : List Frame) : State where
  vm := { classes := classes, interned := interned.toArray }
  heap := heap
  slotsUsed := slotsUsed
  threads := #[{ frames := .invoking theMethod args0 :: below }]
def below0 : List Frame := [.native { method := ⟨0, 0⟩, args := #[] }]
def about1 : State := aboutOver below0
def p0 : Program := .bare "" "" ""
def e0 : Env := launch0.env 0 0 0
theorem w_frames : about1.frames = Frame.invoking theMethod args0 :: below0 := rfl
set_option maxRecDepth 65536 in
theorem w_args : argsFit about1.vm theMethod args0 = true := by decide +kernel
set_option maxRecDepth 65536 in
theorem w_heap : heapFits about1 = true := by decide +kernel
set_option maxRecDepth 65536 in
theorem w_runnable : about1.curStatus? = some .runnable := by decide +kernel
set_option maxRecDepth 65536 in
theorem w_alone : about1.alone = true := by decide +kernel
set_option maxRecDepth 65536 in
theorem w_named : about1.methodNamed? x = some theMethod := by decide +kernel
set_option maxRecDepth 65536 in
theorem w_hears : about1.hears theMethod below0 = true := by decide +kernel
set_option maxRecDepth 65536 in
theorem w_ripe : about1.ripe theMethod args0 below0 = true := by decide +kernel
theorem w_running : about1.status = .running := rfl
set_option maxRecDepth 65536 in
theorem w_room : about1.hasRoom e0.platform room_1 = true :=
  launch0.hasRoom_least _ room_1 (by decide +kernel) (by decide +kernel) (by decide +kernel) (by decide +kernel) (by decide +kernel) (by decide +kernel)
theorem allAtoms_all (ts : List Jvm.Cond) (a : Array Jvm.Value) (st : Jvm.State) : (allAtoms ts).before a st = ts.all (fun c => c.before a st) := by
  induction ts with
  | nil => rfl
  | cons c t ih =>
    show (Jvm.Cond.and c (allAtoms t)).before a st = _
    rw [Jvm.Cond.before_and, ih, List.all_cons]
def words1 : List Jvm.Cond := Jvm.Cond.code x code maxLocals ret :: tables_1
/-- a 'code' word, met by the world's own term for the bytes: nothing is compared byte by byte -/
theorem code_word {y : MethodName} {bytes : ByteArray} {mx : Nat} {rt : Option FieldType} {a : Array Value} {s : State} {m : MethodId} {meth : Method} {c : Code} (h1 : s.methodNamed? y = some m) (h2 : s.vm.method? m = some meth) (h3 : meth.code = some c) (h4 : c.code = bytes)
    (h5 : (c.maxLocals == mx && c.exceptionTable.isEmpty && decide (c.maxStack ≤ mostOperands) && decide (meth.sig.returnType = rt) && !meth.locks && decide (parseMethodDescriptor y.desc = some meth.sig)) = true) : (Jvm.Cond.code y bytes mx rt).before a s = true := by
  simp only [Bool.and_eq_true, beq_iff_eq, Bool.not_eq_true', decide_eq_true_eq] at h5
  obtain ⟨⟨⟨⟨⟨g1, g2⟩, g3⟩, g4⟩, g5⟩, g6⟩ := h5
  simp [Cond.before, Cond.holds, Cond.value, h1, h2, h3, h4, g1, g2, g3, g4, g5, g6]
def isCode : Jvm.Cond → Bool
  | .code _ _ _ _ => true
  | _ => false
theorem all_split {L : List Jvm.Cond} {P : Jvm.Cond → Bool} (h1 : L.all (fun c => isCode c || P c) = true) (h2 : ∀ c ∈ L.filter isCode, P c = true) : L.all P = true := by
  refine List.all_eq_true.mpr fun c hc => ?_
  have h := List.all_eq_true.mp h1 c hc
  rcases Bool.eq_false_or_eq_true (isCode c) with hi | hi
  · exact h2 c (List.mem_filter.mpr ⟨hc, hi⟩)
  · simpa [hi] using h
set_option maxRecDepth 65536 in
theorem w_c0 : (Jvm.Cond.code x code maxLocals ret).before args0 about1 = true := code_word (m := ⟨1, 1⟩) (meth := k1m1) (c := k1c1) (by decide +kernel) rfl rfl rfl (by decide +kernel)
set_option maxRecDepth 65536 in
theorem w_c1 : (Jvm.Cond.code ({ cls := "com/example/callimachus/callimachus/UuidsSha1PinLaw", name := "message", desc := "(I)[B" } : Jvm.MethodName) method_4_code (1 : Nat) (Option.some (Jvm.ClassFile.FieldType.array Jvm.ClassFile.FieldType.byte))).before args0 about1 = true := code_word (m := ⟨1, 3⟩) (meth := k1m3) (c := k1c3) (by decide +kernel) rfl rfl rfl (by decide +kernel)
set_option maxRecDepth 65536 in
theorem w_c2 : (Jvm.Cond.code ({ cls := "com/example/callimachus/callimachus/UuidsSha1PinLaw", name := "expected", desc := "(I)[I" } : Jvm.MethodName) method_5_code (1 : Nat) (Option.some (Jvm.ClassFile.FieldType.array Jvm.ClassFile.FieldType.int))).before args0 about1 = true := code_word (m := ⟨1, 4⟩) (meth := k1m4) (c := k1c4) (by decide +kernel) rfl rfl rfl (by decide +kernel)
set_option maxRecDepth 65536 in
theorem w_c3 : (Jvm.Cond.code ({ cls := "com/example/callimachus/callimachus/Uuids", name := "sha1", desc := "([B)[I" } : Jvm.MethodName) prog_37_method_6_code (5 : Nat) (Option.some (Jvm.ClassFile.FieldType.array Jvm.ClassFile.FieldType.int))).before args0 about1 = true := code_word (m := ⟨2, 1⟩) (meth := k2m1) (c := k2c1) (by decide +kernel) rfl rfl rfl (by decide +kernel)
set_option maxRecDepth 65536 in
theorem w_c4 : (Jvm.Cond.code ({ cls := "com/example/callimachus/callimachus/Uuids", name := "padded", desc := "([B)[B" } : Jvm.MethodName) prog_37_method_7_code (6 : Nat) (Option.some (Jvm.ClassFile.FieldType.array Jvm.ClassFile.FieldType.byte))).before args0 about1 = true := code_word (m := ⟨2, 2⟩) (meth := k2m2) (c := k2c2) (by decide +kernel) rfl rfl rfl (by decide +kernel)
set_option maxRecDepth 65536 in
theorem w_c5 : (Jvm.Cond.code ({ cls := "com/example/callimachus/callimachus/Uuids", name := "hashBlock", desc := "([I[BI[I)V" } : Jvm.MethodName) prog_37_method_8_code (13 : Nat) (Option.none : Option Jvm.ClassFile.FieldType)).before args0 about1 = true := code_word (m := ⟨2, 3⟩) (meth := k2m3) (c := k2c3) (by decide +kernel) rfl rfl rfl (by decide +kernel)
set_option maxRecDepth 65536 in
theorem w_c6 : (Jvm.Cond.code ({ cls := "java/lang/Integer", name := "rotateLeft", desc := "(II)I" } : Jvm.MethodName) jdk_33_method_50_code (2 : Nat) (Option.some Jvm.ClassFile.FieldType.int)).before args0 about1 = true := code_word (m := ⟨10, 0⟩) (meth := k10m0) (c := k10c0) (by decide +kernel) rfl rfl rfl (by decide +kernel)
set_option maxRecDepth 65536 in
theorem w_c7 : (Jvm.Cond.code ({ cls := "com/example/callimachus/callimachus/UuidsSha1PinLaw", name := "matches", desc := "([I[I)Z" } : Jvm.MethodName) method_3_code (2 : Nat) (Option.some Jvm.ClassFile.FieldType.boolean)).before args0 about1 = true := code_word (m := ⟨1, 2⟩) (meth := k1m2) (c := k1c2) (by decide +kernel) rfl rfl rfl (by decide +kernel)
def codes1 : List Jvm.Cond := [Jvm.Cond.code x code maxLocals ret, Jvm.Cond.code ({ cls := "com/example/callimachus/callimachus/UuidsSha1PinLaw", name := "message", desc := "(I)[B" } : Jvm.MethodName) method_4_code (1 : Nat) (Option.some (Jvm.ClassFile.FieldType.array Jvm.ClassFile.FieldType.byte)), Jvm.Cond.code ({ cls := "com/example/callimachus/callimachus/UuidsSha1PinLaw", name := "expected", desc := "(I)[I" } : Jvm.MethodName) method_5_code (1 : Nat) (Option.some (Jvm.ClassFile.FieldType.array Jvm.ClassFile.FieldType.int)), Jvm.Cond.code ({ cls := "com/example/callimachus/callimachus/Uuids", name := "sha1", desc := "([B)[I" } : Jvm.MethodName) prog_37_method_6_code (5 : Nat) (Option.some (Jvm.ClassFile.FieldType.array Jvm.ClassFile.FieldType.int)), Jvm.Cond.code ({ cls := "com/example/callimachus/callimachus/Uuids", name := "padded", desc := "([B)[B" } : Jvm.MethodName) prog_37_method_7_code (6 : Nat) (Option.some (Jvm.ClassFile.FieldType.array Jvm.ClassFile.FieldType.byte)), Jvm.Cond.code ({ cls := "com/example/callimachus/callimachus/Uuids", name := "hashBlock", desc := "([I[BI[I)V" } : Jvm.MethodName) prog_37_method_8_code (13 : Nat) (Option.none : Option Jvm.ClassFile.FieldType), Jvm.Cond.code ({ cls := "java/lang/Integer", name := "rotateLeft", desc := "(II)I" } : Jvm.MethodName) jdk_33_method_50_code (2 : Nat) (Option.some Jvm.ClassFile.FieldType.int), Jvm.Cond.code ({ cls := "com/example/callimachus/callimachus/UuidsSha1PinLaw", name := "matches", desc := "([I[I)Z" } : Jvm.MethodName) method_3_code (2 : Nat) (Option.some Jvm.ClassFile.FieldType.boolean)]
set_option maxRecDepth 65536 in
theorem codes_eq : words1.filter isCode = codes1 := rfl
theorem w_codes : ∀ c ∈ words1.filter isCode, c.before args0 about1 = true := by
  rw [codes_eq]
  intro c hc
  simp only [codes1, List.mem_cons, List.not_mem_nil, or_false] at hc
  rcases hc with rfl | rfl | rfl | rfl | rfl | rfl | rfl | rfl
  · exact w_c0
  · exact w_c1
  · exact w_c2
  · exact w_c3
  · exact w_c4
  · exact w_c5
  · exact w_c6
  · exact w_c7
set_option maxRecDepth 65536 in
theorem w_t1 : (words1.take 24).all (fun c => isCode c || c.before args0 about1) = true := by decide +kernel
set_option maxRecDepth 65536 in
theorem w_t2 : ((words1.drop 24).take 24).all (fun c => isCode c || c.before args0 about1) = true := by decide +kernel
set_option maxRecDepth 65536 in
theorem w_t3 : (((words1.drop 24).drop 24).take 24).all (fun c => isCode c || c.before args0 about1) = true := by decide +kernel
set_option maxRecDepth 65536 in
theorem w_t4 : (((words1.drop 24).drop 24).drop 24).all (fun c => isCode c || c.before args0 about1) = true := by decide +kernel
theorem w_tables : (allAtoms (Jvm.Cond.code x code maxLocals ret :: tables_1)).before args0 about1 = true := by
  rw [allAtoms_all]
  show words1.all (fun c => c.before args0 about1) = true
  refine all_split ?_ w_codes
  rw [← List.take_append_drop 24 words1, List.all_append, w_t1, ← List.take_append_drop 24 (words1.drop 24), List.all_append, w_t2, ← List.take_append_drop 24 ((words1.drop 24).drop 24), List.all_append, w_t3, w_t4]
  rfl
set_option maxRecDepth 65536 in
theorem w_case : (Jvm.Cond.and given_1 narrow_1).before args0 about1 = true := by decide +kernel
theorem w_applies : (headSpec (Jvm.Cond.code x code maxLocals ret :: tables_1) room_1).applies x e0.platform about1 = true :=
  (Spec.applies_iff w_frames).mpr ⟨w_running, w_runnable, w_alone, w_named, w_hears, w_ripe, w_room, w_tables⟩
theorem atStart : AtStart classFile x code maxLocals ret World_1 tables_1 room_1 Calls_1 rest_1 Pre_1 launch0 p0 e0 about1 theMethod args0 below0 :=
  ⟨lists_1, trivial, launch0.admits_env _ _ _, launch0.least_env, fairChoices_fair.cas, fairChoices_fair.clock, w_frames, w_args, w_heap, w_applies, trivial, trivial, w_case⟩
end start1
theorem witness_1 : WitnessClaimed_1 := ⟨start1.p0, start1.e0, start1.about1, start1.theMethod, start1.args0, start1.below0, start1.atStart⟩
end Jvm.Pilot.@@N@@
