import JvmDerived
import JvmDerived.Pilot.@@N@@Statement
import JvmDerived.Pilot.@@N@@Code
set_option linter.unusedVariables false
set_option linter.unusedSimpArgs false
namespace Jvm.GoKit
open Sem ClassFile Op Lib Jvm.Stand Jvm.Free Jvm.LawKit Jvm.RoadKit
/-! my own layer: a body's run in continuation style, over the library's Stand laws -/
def Val (P : Value → Heap → Prop) (v : Option Value) (h : Heap) : Prop := ∃ w, v = some w ∧ P w h
def Vd (P : Heap → Prop) (v : Option Value) (h : Heap) : Prop := v = none ∧ P h
def PV (w : Value) (h0 : Heap) (w' : Value) (h : Heap) : Prop := w = w' ∧ h0 = h
def Ctx (Z : State) (own : String) (code : ByteArray) (maxL : Nat) (ret : Option FieldType) (nm : String) (p : Program) (s : State) (m : MethodId) (meth : Method) (c : Code) : Prop :=
  p.tables.exec = Jvm.exec ∧ Z.Warmed39 s.vm ∧ s.vm.findClass own = some m.cls ∧ c.code = code ∧ c.maxLocals = maxL ∧ meth.sig.returnType = ret ∧ meth.locks = false ∧ meth.name = nm
def Go (p : Program) (e : Env) (below : List Frame) (s : State) (n0 K N : Nat) (Q : Option Value → Heap → Prop) (S : State) : Prop :=
  ∃ s₂ v L, Steps p.tables e below S s₂ ∧ s₂.status = .running ∧ Ended s₂ below (.returned v) ∧ (Q v s₂.heap ∧ Fr n0 L) ∧ FrameEnd s (.returned v) s₂ L K N
def Run (l : Launch) (Z : State) (n0 : Nat) (own : String) (code : ByteArray) (maxL : Nat) (ret : Option FieldType) (nm : String) (R : Room) (Q : Option Value → Heap → Prop) (pc : Nat) (Ls : Array Slot) (st : List Value) (h : Heap) (k n : Nat) : Prop :=
  ∀ (p : Program) (e : Env) (s : State) (m : MethodId) (args : Array Value) (below : List Frame) (meth : Method) (c : Code) (T : State) (locs : List Loc) (cells slots : Nat),
    Ctx Z own code maxL ret nm p s m meth c → Stand p l e R s m args below meth c T locs cells slots → T.heap = h → Fr n0 locs → cells ≤ k → slots ≤ n →
    Go p e below s n0 R.cells R.slots Q (T.setTop (mkF m pc Ls st))
def Con (l : Launch) (Z : State) (n0 : Nat) (y : MethodName) (bytes : ByteArray) (maxL : Nat) (ret : Option FieldType) (rm : Room) (as : Array Value) (h : Heap) (Q : Option Value → Heap → Prop) : Prop :=
  ∀ ws, MetFree l y (head1 (Cond.code y bytes maxL ret :: ws) rm) (fun a U => a = as ∧ Z.Warmed39 U.vm ∧ U.heap = h) (fun _ _ _ _ _ => True) (fun _ U o U' => ∃ v L, o = .returned v ∧ (Q v U'.heap ∧ Fr n0 L) ∧ FrameEnd U o U' L rm.cells rm.slots)
theorem Con.of_run {l : Launch} {Z : State} {n0 : Nat} {y : MethodName} {bytes : ByteArray} {maxL : Nat} {ret : Option FieldType} {rm : Room} {as : Array Value} {h : Heap} {Q : Option Value → Heap → Prop} {Ls : Array Slot}
    (hp : plainFor y = true) (he : ∀ m, entryFrame m as maxL = mkF m 0 Ls []) (run : Run l Z n0 y.cls bytes maxL ret y.name rm Q 0 Ls [] h 0 0) : Con l Z n0 y bytes maxL ret rm as h Q := by
  intro ws
  refine MetFree.of_bodySF hp hisR ?_
  intro p e s m args below meth c s₁ Bd hml0 hP hK
  obtain ⟨rfl, hZ, hh⟩ := hP
  obtain ⟨s₂, v, L, h1, h2, h3, h4, h5⟩ := run p e s m _ below meth c s₁ [] 0 0 ⟨Bd.exec, hZ, findClass_of_methodNamed Bd.named, Bd.bytes, hml0, Bd.returns, Bd.notSynchronized, (name_of_methodNamed Bd.named Bd.method).1⟩ (Stand.of_body Bd) (by rw [← hh, Bd.state]; rfl) (Fr.nil _) (Nat.zero_le _) (Nat.zero_le _)
  exact ⟨s₂, _, castTop (he m) h1, h2, h3, v, L, rfl, h4, h5⟩
theorem Con.mono {l : Launch} {Z : State} {n0 : Nat} {y : MethodName} {bytes : ByteArray} {maxL : Nat} {ret : Option FieldType} {rm : Room} {as : Array Value} {h : Heap} {Q Q' : Option Value → Heap → Prop}
    (H : Con l Z n0 y bytes maxL ret rm as h Q) (q : ∀ v h', Q v h' → Q' v h') : Con l Z n0 y bytes maxL ret rm as h Q' := by
  intro ws p e ha hc hk s m args below hf happ hP hK
  obtain ⟨n, o, h1, h2, h3, v, L, h4, h5, h6⟩ := H ws p e ha hc hk s m args below hf happ hP hK
  exact ⟨n, o, h1, h2, h3, v, L, h4, ⟨q _ _ h5.1, h5.2⟩, h6⟩
section Walk
variable {l : Launch} {Z : State} {n0 : Nat} {own : String} {code : ByteArray} {maxL : Nat} {ret : Option FieldType} {nm : String} {R : Room} {Q : Option Value → Heap → Prop} {pc pc' : Nat} {Ls : Array Slot} {st : List Value} {h : Heap} {k n k' n' : Nat}
theorem Run.via {Ls' : Array Slot} {st' : List Value} (f : ∀ (p : Program) (e : Env) (s : State) (m : MethodId) (args : Array Value) (below : List Frame) (meth : Method) (c : Code) (T : State) (locs : List Loc) (cells slots : Nat),
      Ctx Z own code maxL ret nm p s m meth c → Stand p l e R s m args below meth c T locs cells slots → T.heap = h → ∃ T', Stand p l e R s m args below meth c T' locs cells slots ∧ T'.heap = h ∧ ∀ t, Steps p.tables e below (T'.setTop (mkF m pc' Ls' st')) t → Steps p.tables e below (T.setTop (mkF m pc Ls st)) t)
    (nxt : Run l Z n0 own code maxL ret nm R Q pc' Ls' st' h k n) : Run l Z n0 own code maxL ret nm R Q pc Ls st h k n := by
  intro p e s m args below meth c T locs cells slots hC X eT hF hk hn
  obtain ⟨T', X', e', stp⟩ := f p e s m args below meth c T locs cells slots hC X eT
  obtain ⟨s₂, v, L, g1, g2⟩ := nxt p e s m args below meth c T' locs cells slots hC X' e' hF hk hn
  exact ⟨s₂, v, L, stp _ g1, g2⟩
theorem Run.stp {Ls' : Array Slot} {st' : List Value} (f : ∀ (p : Program) (e : Env) (below : List Frame) (T : State) (m : MethodId) (c : Code) (t : State), At T m c below → p.tables.exec = Jvm.exec → c.code = code → Steps p.tables e below (T.setTop (mkF m pc' Ls' st')) t → Steps p.tables e below (T.setTop (mkF m pc Ls st)) t)
    (nxt : Run l Z n0 own code maxL ret nm R Q pc' Ls' st' h k n) : Run l Z n0 own code maxL ret nm R Q pc Ls st h k n :=
  Run.via (fun p e s m args below meth c T locs cells slots hC X eT => ⟨T, X, eT, fun t q => f p e below T m c t X.here hC.1 hC.2.2.2.1 q⟩) nxt
theorem Run.more {ka na : Nat} (nxt : Run l Z n0 own code maxL ret nm R Q pc Ls st h k n) (h1 : ka ≤ k) (h2 : na ≤ n) : Run l Z n0 own code maxL ret nm R Q pc Ls st h ka na :=
  fun p e s m args below meth c T locs cells slots hC X eT hF hk hn => nxt p e s m args below meth c T locs cells slots hC X eT hF (Nat.le_trans hk h1) (Nat.le_trans hn h2)

theorem Run.iloadN {x : Fin 4} {v : Int32} (hd : decode code pc = .ok (.iload_n x, 1)) (hl : Ls[x.val]? = some (.val (.int v))) (hp : pc + 1 = pc') (nxt : Run l Z n0 own code maxL ret nm R Q pc' Ls (.int v :: st) h k n) : Run l Z n0 own code maxL ret nm R Q pc Ls st h k n := by
  subst hp
  exact Run.stp (fun p e below T m c t hA hx hc q => XS.iloadN hA hx rfl (hb hc hd) hl q) nxt
theorem Run.iload {x : Nat} {v : Int32} (hd : decode code pc = .ok (.iload x, 2)) (hl : Ls[x]? = some (.val (.int v))) (hp : pc + 2 = pc') (nxt : Run l Z n0 own code maxL ret nm R Q pc' Ls (.int v :: st) h k n) : Run l Z n0 own code maxL ret nm R Q pc Ls st h k n := by
  subst hp
  exact Run.stp (fun p e below T m c t hA hx hc q => XS.iload hA hx rfl (hb hc hd) hl q) nxt
theorem Run.lloadN {x : Fin 4} {v : Int64} (hd : decode code pc = .ok (.lload_n x, 1)) (hl : Ls[x.val]? = some (.val (.long v))) (hp : pc + 1 = pc') (nxt : Run l Z n0 own code maxL ret nm R Q pc' Ls (.long v :: st) h k n) : Run l Z n0 own code maxL ret nm R Q pc Ls st h k n := by
  subst hp
  exact Run.stp (fun p e below T m c t hA hx hc q => XT.lloadN hA hx rfl (hb hc hd) hl q) nxt
theorem Run.lload {x : Nat} {v : Int64} (hd : decode code pc = .ok (.lload x, 2)) (hl : Ls[x]? = some (.val (.long v))) (hp : pc + 2 = pc') (nxt : Run l Z n0 own code maxL ret nm R Q pc' Ls (.long v :: st) h k n) : Run l Z n0 own code maxL ret nm R Q pc Ls st h k n := by
  subst hp
  exact Run.stp (fun p e below T m c t hA hx hc q => XT.lload hA hx rfl (hb hc hd) hl q) nxt
theorem Run.aloadN {x : Fin 4} {v : Value} (hd : decode code pc = .ok (.aload_n x, 1)) (hl : Ls[x.val]? = some (.val v)) (hv : v.isRef = true) (hp : pc + 1 = pc') (nxt : Run l Z n0 own code maxL ret nm R Q pc' Ls (v :: st) h k n) : Run l Z n0 own code maxL ret nm R Q pc Ls st h k n := by
  subst hp
  exact Run.stp (fun p e below T m c t hA hx hc q => XS.aloadN hA hx rfl (hb hc hd) hl hv q) nxt
theorem Run.aload {x : Nat} {v : Value} (hd : decode code pc = .ok (.aload x, 2)) (hl : Ls[x]? = some (.val v)) (hv : v.isRef = true) (hp : pc + 2 = pc') (nxt : Run l Z n0 own code maxL ret nm R Q pc' Ls (v :: st) h k n) : Run l Z n0 own code maxL ret nm R Q pc Ls st h k n := by
  subst hp
  exact Run.stp (fun p e below T m c t hA hx hc q => XS.aload hA hx rfl (hb hc hd) hl hv q) nxt
theorem Run.iconst {i : Int} (v : Int32) (hd : decode code pc = .ok (.iconst i, 1)) (hv : Int32.ofInt i = v) (hp : pc + 1 = pc') (nxt : Run l Z n0 own code maxL ret nm R Q pc' Ls (.int v :: st) h k n) : Run l Z n0 own code maxL ret nm R Q pc Ls st h k n := by
  subst hp
  exact Run.stp (fun p e below T m c t hA hx hc q => XT.iconstV hA hx rfl v (hb hc hd) hv q) nxt
theorem Run.bipush {i : Int} (v : Int32) (hd : decode code pc = .ok (.bipush i, 2)) (hv : (Int8.ofInt i).toInt32 = v) (hp : pc + 2 = pc') (nxt : Run l Z n0 own code maxL ret nm R Q pc' Ls (.int v :: st) h k n) : Run l Z n0 own code maxL ret nm R Q pc Ls st h k n := by
  subst hp
  exact Run.stp (fun p e below T m c t hA hx hc q => XT.bipushV hA hx rfl v (hb hc hd) hv q) nxt
theorem Run.sipush {i : Int} (v : Int32) (hd : decode code pc = .ok (.sipush i, 3)) (hv : (Int16.ofInt i).toInt32 = v) (hp : pc + 3 = pc') (nxt : Run l Z n0 own code maxL ret nm R Q pc' Ls (.int v :: st) h k n) : Run l Z n0 own code maxL ret nm R Q pc Ls st h k n := by
  subst hp
  exact Run.stp (fun p e below T m c t hA hx hc q => XT.sipushV hA hx rfl v (hb hc hd) hv q) nxt
theorem Run.lconst {i : Fin 2} (v : Int64) (hd : decode code pc = .ok (.lconst i, 1)) (hv : Int64.ofNat i = v) (hp : pc + 1 = pc') (nxt : Run l Z n0 own code maxL ret nm R Q pc' Ls (.long v :: st) h k n) : Run l Z n0 own code maxL ret nm R Q pc Ls st h k n := by
  subst hp
  exact Run.stp (fun p e below T m c t hA hx hc q => XT.lconstV hA hx rfl v (hb hc hd) hv q) nxt
theorem Run.aconst  (hd : decode code pc = .ok (.aconst_null, 1))  (hp : pc + 1 = pc') (nxt : Run l Z n0 own code maxL ret nm R Q pc' Ls (.null :: st) h k n) : Run l Z n0 own code maxL ret nm R Q pc Ls st h k n := by
  subst hp
  exact Run.stp (fun p e below T m c t hA hx hc q => XS.aconstNull hA hx rfl (hb hc hd) q) nxt
theorem Run.istoreN {x : Fin 4} {v : Int32} (l' : Array Slot) (hd : decode code pc = .ok (.istore_n x, 1)) (hl : storeLocals Ls x.val (.int v) = some l') (hp : pc + 1 = pc') (nxt : Run l Z n0 own code maxL ret nm R Q pc' l' st h k n) : Run l Z n0 own code maxL ret nm R Q pc Ls (.int v :: st) h k n := by
  subst hp
  exact Run.stp (fun p e below T m c t hA hx hc q => XS.istoreN hA hx rfl (hb hc hd) rfl hl q) nxt
theorem Run.istore {x : Nat} {v : Int32} (l' : Array Slot) (hd : decode code pc = .ok (.istore x, 2)) (hl : storeLocals Ls x (.int v) = some l') (hp : pc + 2 = pc') (nxt : Run l Z n0 own code maxL ret nm R Q pc' l' st h k n) : Run l Z n0 own code maxL ret nm R Q pc Ls (.int v :: st) h k n := by
  subst hp
  exact Run.stp (fun p e below T m c t hA hx hc q => XS.istore hA hx rfl (hb hc hd) rfl hl q) nxt
theorem Run.lstoreN {x : Fin 4} {v : Int64} (l' : Array Slot) (hd : decode code pc = .ok (.lstore_n x, 1)) (hl : storeLocals Ls x.val (.long v) = some l') (hp : pc + 1 = pc') (nxt : Run l Z n0 own code maxL ret nm R Q pc' l' st h k n) : Run l Z n0 own code maxL ret nm R Q pc Ls (.long v :: st) h k n := by
  subst hp
  exact Run.stp (fun p e below T m c t hA hx hc q => XT.lstoreN hA hx rfl (hb hc hd) rfl hl q) nxt
theorem Run.lstore {x : Nat} {v : Int64} (l' : Array Slot) (hd : decode code pc = .ok (.lstore x, 2)) (hl : storeLocals Ls x (.long v) = some l') (hp : pc + 2 = pc') (nxt : Run l Z n0 own code maxL ret nm R Q pc' l' st h k n) : Run l Z n0 own code maxL ret nm R Q pc Ls (.long v :: st) h k n := by
  subst hp
  exact Run.stp (fun p e below T m c t hA hx hc q => XT.lstore hA hx rfl (hb hc hd) rfl hl q) nxt
theorem Run.astoreN {x : Fin 4} {v : Value} (l' : Array Slot) (hd : decode code pc = .ok (.astore_n x, 1)) (hv : v.isRef = true) (hl : storeLocals Ls x.val v = some l') (hp : pc + 1 = pc') (nxt : Run l Z n0 own code maxL ret nm R Q pc' l' st h k n) : Run l Z n0 own code maxL ret nm R Q pc Ls (v :: st) h k n := by
  subst hp
  exact Run.stp (fun p e below T m c t hA hx hc q => XS.astoreN hA hx rfl (hb hc hd) rfl hv hl q) nxt
theorem Run.astore {x : Nat} {v : Value} (l' : Array Slot) (hd : decode code pc = .ok (.astore x, 2)) (hv : v.isRef = true) (hl : storeLocals Ls x v = some l') (hp : pc + 2 = pc') (nxt : Run l Z n0 own code maxL ret nm R Q pc' l' st h k n) : Run l Z n0 own code maxL ret nm R Q pc Ls (v :: st) h k n := by
  subst hp
  exact Run.stp (fun p e below T m c t hA hx hc q => XS.astore hA hx rfl (hb hc hd) rfl hv hl q) nxt
theorem Run.iinc {x : Nat} {i : Int} {u : Int32} (v : Int32) (l' : Array Slot) (hd : decode code pc = .ok (.iinc x i, 3)) (hv : Int32.ofInt i = v) (hg : Ls[x]? = some (.val (.int u))) (hl : storeLocals Ls x (.int (u + v)) = some l') (hp : pc + 3 = pc') (nxt : Run l Z n0 own code maxL ret nm R Q pc' l' st h k n) : Run l Z n0 own code maxL ret nm R Q pc Ls st h k n := by
  subst hp
  exact Run.stp (fun p e below T m c t hA hx hc q => XT.iincV hA hx rfl v (hb hc hd) hv hg hl q) nxt
theorem Run.iadd {x y : Int32} (hd : decode code pc = .ok (.iadd, 1))  (hp : pc + 1 = pc') (nxt : Run l Z n0 own code maxL ret nm R Q pc' Ls (.int (x + y) :: st) h k n) : Run l Z n0 own code maxL ret nm R Q pc Ls (.int y :: .int x :: st) h k n := by
  subst hp
  exact Run.stp (fun p e below T m c t hA hx hc q => XS.iadd hA hx rfl (hb hc hd) rfl q) nxt
theorem Run.isub {x y : Int32} (hd : decode code pc = .ok (.isub, 1))  (hp : pc + 1 = pc') (nxt : Run l Z n0 own code maxL ret nm R Q pc' Ls (.int (x - y) :: st) h k n) : Run l Z n0 own code maxL ret nm R Q pc Ls (.int y :: .int x :: st) h k n := by
  subst hp
  exact Run.stp (fun p e below T m c t hA hx hc q => XS.isub hA hx rfl (hb hc hd) rfl q) nxt
theorem Run.imul {x y : Int32} (hd : decode code pc = .ok (.imul, 1))  (hp : pc + 1 = pc') (nxt : Run l Z n0 own code maxL ret nm R Q pc' Ls (.int (x * y) :: st) h k n) : Run l Z n0 own code maxL ret nm R Q pc Ls (.int y :: .int x :: st) h k n := by
  subst hp
  exact Run.stp (fun p e below T m c t hA hx hc q => XS.imul hA hx rfl (hb hc hd) rfl q) nxt
theorem Run.iand {x y : Int32} (hd : decode code pc = .ok (.iand, 1))  (hp : pc + 1 = pc') (nxt : Run l Z n0 own code maxL ret nm R Q pc' Ls (.int (x &&& y) :: st) h k n) : Run l Z n0 own code maxL ret nm R Q pc Ls (.int y :: .int x :: st) h k n := by
  subst hp
  exact Run.stp (fun p e below T m c t hA hx hc q => XS.iand hA hx rfl (hb hc hd) rfl q) nxt
theorem Run.ior {x y : Int32} (hd : decode code pc = .ok (.ior, 1))  (hp : pc + 1 = pc') (nxt : Run l Z n0 own code maxL ret nm R Q pc' Ls (.int (x ||| y) :: st) h k n) : Run l Z n0 own code maxL ret nm R Q pc Ls (.int y :: .int x :: st) h k n := by
  subst hp
  exact Run.stp (fun p e below T m c t hA hx hc q => XT.ior hA hx rfl (hb hc hd) rfl q) nxt
theorem Run.ixor {x y : Int32} (hd : decode code pc = .ok (.ixor, 1))  (hp : pc + 1 = pc') (nxt : Run l Z n0 own code maxL ret nm R Q pc' Ls (.int (x ^^^ y) :: st) h k n) : Run l Z n0 own code maxL ret nm R Q pc Ls (.int y :: .int x :: st) h k n := by
  subst hp
  exact Run.stp (fun p e below T m c t hA hx hc q => XT.ixor hA hx rfl (hb hc hd) rfl q) nxt
theorem Run.ishl {x y : Int32} (hd : decode code pc = .ok (.ishl, 1))  (hp : pc + 1 = pc') (nxt : Run l Z n0 own code maxL ret nm R Q pc' Ls (.int (x <<< (y &&& 31)) :: st) h k n) : Run l Z n0 own code maxL ret nm R Q pc Ls (.int y :: .int x :: st) h k n := by
  subst hp
  exact Run.stp (fun p e below T m c t hA hx hc q => XT.ishl hA hx rfl (hb hc hd) rfl q) nxt
theorem Run.ishr {x y : Int32} (hd : decode code pc = .ok (.ishr, 1))  (hp : pc + 1 = pc') (nxt : Run l Z n0 own code maxL ret nm R Q pc' Ls (.int (x >>> (y &&& 31)) :: st) h k n) : Run l Z n0 own code maxL ret nm R Q pc Ls (.int y :: .int x :: st) h k n := by
  subst hp
  exact Run.stp (fun p e below T m c t hA hx hc q => XT.ishr hA hx rfl (hb hc hd) rfl q) nxt
theorem Run.iushr {x y : Int32} (hd : decode code pc = .ok (.iushr, 1))  (hp : pc + 1 = pc') (nxt : Run l Z n0 own code maxL ret nm R Q pc' Ls (.int (XT.ushr x y) :: st) h k n) : Run l Z n0 own code maxL ret nm R Q pc Ls (.int y :: .int x :: st) h k n := by
  subst hp
  exact Run.stp (fun p e below T m c t hA hx hc q => XT.iushr hA hx rfl (hb hc hd) rfl q) nxt
theorem Run.ladd {x y : Int64} (hd : decode code pc = .ok (.ladd, 1))  (hp : pc + 1 = pc') (nxt : Run l Z n0 own code maxL ret nm R Q pc' Ls (.long (x + y) :: st) h k n) : Run l Z n0 own code maxL ret nm R Q pc Ls (.long y :: .long x :: st) h k n := by
  subst hp
  exact Run.stp (fun p e below T m c t hA hx hc q => XT.ladd hA hx rfl (hb hc hd) rfl q) nxt
theorem Run.lsub {x y : Int64} (hd : decode code pc = .ok (.lsub, 1))  (hp : pc + 1 = pc') (nxt : Run l Z n0 own code maxL ret nm R Q pc' Ls (.long (x - y) :: st) h k n) : Run l Z n0 own code maxL ret nm R Q pc Ls (.long y :: .long x :: st) h k n := by
  subst hp
  exact Run.stp (fun p e below T m c t hA hx hc q => XT.lsub hA hx rfl (hb hc hd) rfl q) nxt
theorem Run.lmul {x y : Int64} (hd : decode code pc = .ok (.lmul, 1))  (hp : pc + 1 = pc') (nxt : Run l Z n0 own code maxL ret nm R Q pc' Ls (.long (x * y) :: st) h k n) : Run l Z n0 own code maxL ret nm R Q pc Ls (.long y :: .long x :: st) h k n := by
  subst hp
  exact Run.stp (fun p e below T m c t hA hx hc q => XT.lmul hA hx rfl (hb hc hd) rfl q) nxt
theorem Run.land {x y : Int64} (hd : decode code pc = .ok (.land, 1))  (hp : pc + 1 = pc') (nxt : Run l Z n0 own code maxL ret nm R Q pc' Ls (.long (x &&& y) :: st) h k n) : Run l Z n0 own code maxL ret nm R Q pc Ls (.long y :: .long x :: st) h k n := by
  subst hp
  exact Run.stp (fun p e below T m c t hA hx hc q => XT.land hA hx rfl (hb hc hd) rfl q) nxt
theorem Run.lor {x y : Int64} (hd : decode code pc = .ok (.lor, 1))  (hp : pc + 1 = pc') (nxt : Run l Z n0 own code maxL ret nm R Q pc' Ls (.long (x ||| y) :: st) h k n) : Run l Z n0 own code maxL ret nm R Q pc Ls (.long y :: .long x :: st) h k n := by
  subst hp
  exact Run.stp (fun p e below T m c t hA hx hc q => XT.lor hA hx rfl (hb hc hd) rfl q) nxt
theorem Run.lxor {x y : Int64} (hd : decode code pc = .ok (.lxor, 1))  (hp : pc + 1 = pc') (nxt : Run l Z n0 own code maxL ret nm R Q pc' Ls (.long (x ^^^ y) :: st) h k n) : Run l Z n0 own code maxL ret nm R Q pc Ls (.long y :: .long x :: st) h k n := by
  subst hp
  exact Run.stp (fun p e below T m c t hA hx hc q => XT.lxor hA hx rfl (hb hc hd) rfl q) nxt
theorem Run.idiv {x y : Int32} (hd : decode code pc = .ok (.idiv, 1)) (hy : y ≠ 0) (hp : pc + 1 = pc') (nxt : Run l Z n0 own code maxL ret nm R Q pc' Ls (.int (x / y) :: st) h k n) : Run l Z n0 own code maxL ret nm R Q pc Ls (.int y :: .int x :: st) h k n := by
  subst hp
  exact Run.stp (fun p e below T m c t hA hx hc q => XS.idiv hA hx rfl (hb hc hd) rfl hy q) nxt
theorem Run.irem {x y : Int32} (hd : decode code pc = .ok (.irem, 1)) (hy : y ≠ 0) (hp : pc + 1 = pc') (nxt : Run l Z n0 own code maxL ret nm R Q pc' Ls (.int (x % y) :: st) h k n) : Run l Z n0 own code maxL ret nm R Q pc Ls (.int y :: .int x :: st) h k n := by
  subst hp
  exact Run.stp (fun p e below T m c t hA hx hc q => XS.irem hA hx rfl (hb hc hd) rfl hy (by rw [irem_eq_mod]; exact q)) nxt
theorem Run.ldiv {x y : Int64} (hd : decode code pc = .ok (.ldiv, 1)) (hy : y ≠ 0) (hp : pc + 1 = pc') (nxt : Run l Z n0 own code maxL ret nm R Q pc' Ls (.long (x / y) :: st) h k n) : Run l Z n0 own code maxL ret nm R Q pc Ls (.long y :: .long x :: st) h k n := by
  subst hp
  exact Run.stp (fun p e below T m c t hA hx hc q => XT.ldiv hA hx rfl (hb hc hd) rfl hy q) nxt
theorem Run.lrem {x y : Int64} (hd : decode code pc = .ok (.lrem, 1)) (hy : y ≠ 0) (hp : pc + 1 = pc') (nxt : Run l Z n0 own code maxL ret nm R Q pc' Ls (.long (x % y) :: st) h k n) : Run l Z n0 own code maxL ret nm R Q pc Ls (.long y :: .long x :: st) h k n := by
  subst hp
  exact Run.stp (fun p e below T m c t hA hx hc q => XT.lrem hA hx rfl (hb hc hd) rfl hy (by rw [lrem_mod]; exact q)) nxt
theorem Run.ineg {x : Int32} (hd : decode code pc = .ok (.ineg, 1))  (hp : pc + 1 = pc') (nxt : Run l Z n0 own code maxL ret nm R Q pc' Ls (.int (-x) :: st) h k n) : Run l Z n0 own code maxL ret nm R Q pc Ls (.int x :: st) h k n := by
  subst hp
  exact Run.stp (fun p e below T m c t hA hx hc q => XS.ineg hA hx rfl (hb hc hd) rfl q) nxt
theorem Run.lneg {x : Int64} (hd : decode code pc = .ok (.lneg, 1))  (hp : pc + 1 = pc') (nxt : Run l Z n0 own code maxL ret nm R Q pc' Ls (.long (-x) :: st) h k n) : Run l Z n0 own code maxL ret nm R Q pc Ls (.long x :: st) h k n := by
  subst hp
  exact Run.stp (fun p e below T m c t hA hx hc q => XT.lneg hA hx rfl (hb hc hd) rfl q) nxt
theorem Run.i2l {x : Int32} (hd : decode code pc = .ok (.i2l, 1))  (hp : pc + 1 = pc') (nxt : Run l Z n0 own code maxL ret nm R Q pc' Ls (.long x.toInt64 :: st) h k n) : Run l Z n0 own code maxL ret nm R Q pc Ls (.int x :: st) h k n := by
  subst hp
  exact Run.stp (fun p e below T m c t hA hx hc q => XT.i2l hA hx rfl (hb hc hd) rfl q) nxt
theorem Run.l2i {x : Int64} (hd : decode code pc = .ok (.l2i, 1))  (hp : pc + 1 = pc') (nxt : Run l Z n0 own code maxL ret nm R Q pc' Ls (.int x.toInt32 :: st) h k n) : Run l Z n0 own code maxL ret nm R Q pc Ls (.long x :: st) h k n := by
  subst hp
  exact Run.stp (fun p e below T m c t hA hx hc q => XT.l2i hA hx rfl (hb hc hd) rfl q) nxt
theorem Run.i2b {x : Int32} (hd : decode code pc = .ok (.i2b, 1))  (hp : pc + 1 = pc') (nxt : Run l Z n0 own code maxL ret nm R Q pc' Ls (.int (nar .byte x) :: st) h k n) : Run l Z n0 own code maxL ret nm R Q pc Ls (.int x :: st) h k n := by
  subst hp
  exact Run.stp (fun p e below T m c t hA hx hc q => XT.i2b hA hx rfl (hb hc hd) rfl q) nxt
theorem Run.i2c {x : Int32} (hd : decode code pc = .ok (.i2c, 1))  (hp : pc + 1 = pc') (nxt : Run l Z n0 own code maxL ret nm R Q pc' Ls (.int (nar .char x) :: st) h k n) : Run l Z n0 own code maxL ret nm R Q pc Ls (.int x :: st) h k n := by
  subst hp
  exact Run.stp (fun p e below T m c t hA hx hc q => XT.i2c hA hx rfl (hb hc hd) rfl q) nxt
theorem Run.i2s {x : Int32} (hd : decode code pc = .ok (.i2s, 1))  (hp : pc + 1 = pc') (nxt : Run l Z n0 own code maxL ret nm R Q pc' Ls (.int (nar .short x) :: st) h k n) : Run l Z n0 own code maxL ret nm R Q pc Ls (.int x :: st) h k n := by
  subst hp
  exact Run.stp (fun p e below T m c t hA hx hc q => XT.i2s hA hx rfl (hb hc hd) rfl q) nxt
theorem Run.lshl {x : Int64} {y : Int32} (hd : decode code pc = .ok (.lshl, 1))  (hp : pc + 1 = pc') (nxt : Run l Z n0 own code maxL ret nm R Q pc' Ls (.long (x <<< (y.toInt64 &&& 63)) :: st) h k n) : Run l Z n0 own code maxL ret nm R Q pc Ls (.int y :: .long x :: st) h k n := by
  subst hp
  exact Run.stp (fun p e below T m c t hA hx hc q => XT.lshl hA hx rfl (hb hc hd) rfl q) nxt
theorem Run.lshr {x : Int64} {y : Int32} (hd : decode code pc = .ok (.lshr, 1))  (hp : pc + 1 = pc') (nxt : Run l Z n0 own code maxL ret nm R Q pc' Ls (.long (x >>> (y.toInt64 &&& 63)) :: st) h k n) : Run l Z n0 own code maxL ret nm R Q pc Ls (.int y :: .long x :: st) h k n := by
  subst hp
  exact Run.stp (fun p e below T m c t hA hx hc q => XT.lshr hA hx rfl (hb hc hd) rfl q) nxt
theorem Run.lushr {x : Int64} {y : Int32} (hd : decode code pc = .ok (.lushr, 1))  (hp : pc + 1 = pc') (nxt : Run l Z n0 own code maxL ret nm R Q pc' Ls (.long (XT.ushrL x y) :: st) h k n) : Run l Z n0 own code maxL ret nm R Q pc Ls (.int y :: .long x :: st) h k n := by
  subst hp
  exact Run.stp (fun p e below T m c t hA hx hc q => XT.lushr hA hx rfl (hb hc hd) rfl q) nxt
theorem Run.lcmp {x y : Int64} (hd : decode code pc = .ok (.lcmp, 1))  (hp : pc + 1 = pc') (nxt : Run l Z n0 own code maxL ret nm R Q pc' Ls (.int (XT.cmpL x y) :: st) h k n) : Run l Z n0 own code maxL ret nm R Q pc Ls (.long y :: .long x :: st) h k n := by
  subst hp
  exact Run.stp (fun p e below T m c t hA hx hc q => XT.lcmp hA hx rfl (hb hc hd) rfl q) nxt
theorem Run.dup {x : Value} (hd : decode code pc = .ok (.dup, 1)) (hv : x.category = 1) (hp : pc + 1 = pc') (nxt : Run l Z n0 own code maxL ret nm R Q pc' Ls (x :: x :: st) h k n) : Run l Z n0 own code maxL ret nm R Q pc Ls (x :: st) h k n := by
  subst hp
  exact Run.stp (fun p e below T m c t hA hx hc q => XS.dup hA hx rfl (hb hc hd) rfl hv q) nxt
theorem Run.pop {x : Value} (hd : decode code pc = .ok (.pop, 1)) (hv : x.category = 1) (hp : pc + 1 = pc') (nxt : Run l Z n0 own code maxL ret nm R Q pc' Ls st h k n) : Run l Z n0 own code maxL ret nm R Q pc Ls (x :: st) h k n := by
  subst hp
  exact Run.stp (fun p e below T m c t hA hx hc q => XT.pop hA hx rfl (hb hc hd) rfl hv q) nxt
theorem Run.dupX1 {x y : Value} (hd : decode code pc = .ok (.dup_x1, 1)) (hv : x.category = 1) (hv' : y.category = 1) (hp : pc + 1 = pc') (nxt : Run l Z n0 own code maxL ret nm R Q pc' Ls (x :: y :: x :: st) h k n) : Run l Z n0 own code maxL ret nm R Q pc Ls (x :: y :: st) h k n := by
  subst hp
  exact Run.stp (fun p e below T m c t hA hx hc q => XT.dupX1 hA hx rfl (hb hc hd) rfl hv hv' q) nxt
theorem Run.dup2 {x y : Value} (hd : decode code pc = .ok (.dup2, 1)) (hv : x.category = 1) (hv' : y.category = 1) (hp : pc + 1 = pc') (nxt : Run l Z n0 own code maxL ret nm R Q pc' Ls (x :: y :: x :: y :: st) h k n) : Run l Z n0 own code maxL ret nm R Q pc Ls (x :: y :: st) h k n := by
  subst hp
  exact Run.stp (fun p e below T m c t hA hx hc q => XT.dup2 hA hx rfl (hb hc hd) rfl hv hv' q) nxt
theorem Run.dup2L {x : Int64} (hd : decode code pc = .ok (.dup2, 1))  (hp : pc + 1 = pc') (nxt : Run l Z n0 own code maxL ret nm R Q pc' Ls (.long x :: .long x :: st) h k n) : Run l Z n0 own code maxL ret nm R Q pc Ls (.long x :: st) h k n := by
  subst hp
  exact Run.stp (fun p e below T m c t hA hx hc q => XT.dup2L hA hx rfl (hb hc hd) rfl q) nxt
theorem Run.goto {o : Int} (hd : decode code pc = .ok (.goto o, 3)) (ho : 0 ≤ (pc : Int) + o) (hp : ((pc : Int) + o).toNat = pc') (nxt : Run l Z n0 own code maxL ret nm R Q pc' Ls st h k n) : Run l Z n0 own code maxL ret nm R Q pc Ls st h k n :=
  Run.stp (fun p e below T m c t hA hx hc q => XS.goto hA hx rfl rfl (hb hc hd) ho hp q) nxt
theorem Run.if_eq {x : Int32} {o : Int} {pa : Nat} (hd : decode code pc = .ok (.ifCond .eq o, 3)) (ho : 0 ≤ (pc : Int) + o) (hp : ((pc : Int) + o).toNat = pc') (hq : pc + 3 = pa)
    (yes : x = 0 → Run l Z n0 own code maxL ret nm R Q pc' Ls st h k n) (no : ¬ x = 0 → Run l Z n0 own code maxL ret nm R Q pa Ls st h k n) : Run l Z n0 own code maxL ret nm R Q pc Ls (.int x :: st) h k n := by
  subst hq
  by_cases hc : x = 0
  · exact Run.stp (fun p e below T m c t hA hx hb' q => XS.ifYes hA hx rfl rfl (hb hb' hd) rfl (XT.i0_eq_t hc) ho hp q) (yes hc)
  · exact Run.stp (fun p e below T m c t hA hx hb' q => XS.ifNo hA hx rfl (hb hb' hd) rfl (XT.i0_eq_f hc) q) (no hc)
theorem Run.icmp_eq {x y : Int32} {o : Int} {pa : Nat} (hd : decode code pc = .ok (.if_icmp .eq o, 3)) (ho : 0 ≤ (pc : Int) + o) (hp : ((pc : Int) + o).toNat = pc') (hq : pc + 3 = pa)
    (yes : x = y → Run l Z n0 own code maxL ret nm R Q pc' Ls st h k n) (no : ¬ x = y → Run l Z n0 own code maxL ret nm R Q pa Ls st h k n) : Run l Z n0 own code maxL ret nm R Q pc Ls (.int y :: .int x :: st) h k n := by
  subst hq
  by_cases hc : x = y
  · exact Run.stp (fun p e below T m c t hA hx hb' q => XS.icmpYes hA hx rfl rfl (hb hb' hd) rfl (XT.ii_eq_t hc) ho hp q) (yes hc)
  · exact Run.stp (fun p e below T m c t hA hx hb' q => XS.icmpNo hA hx rfl (hb hb' hd) rfl (XT.ii_eq_f hc) q) (no hc)
theorem Run.if_ne {x : Int32} {o : Int} {pa : Nat} (hd : decode code pc = .ok (.ifCond .ne o, 3)) (ho : 0 ≤ (pc : Int) + o) (hp : ((pc : Int) + o).toNat = pc') (hq : pc + 3 = pa)
    (yes : ¬ x = 0 → Run l Z n0 own code maxL ret nm R Q pc' Ls st h k n) (no : x = 0 → Run l Z n0 own code maxL ret nm R Q pa Ls st h k n) : Run l Z n0 own code maxL ret nm R Q pc Ls (.int x :: st) h k n := by
  subst hq
  by_cases hc : x = 0
  · exact Run.stp (fun p e below T m c t hA hx hb' q => XS.ifNo hA hx rfl (hb hb' hd) rfl (XT.i0_ne_f hc) q) (no (by simpa using hc))
  · exact Run.stp (fun p e below T m c t hA hx hb' q => XS.ifYes hA hx rfl rfl (hb hb' hd) rfl (XT.i0_ne_t hc) ho hp q) (yes hc)
theorem Run.icmp_ne {x y : Int32} {o : Int} {pa : Nat} (hd : decode code pc = .ok (.if_icmp .ne o, 3)) (ho : 0 ≤ (pc : Int) + o) (hp : ((pc : Int) + o).toNat = pc') (hq : pc + 3 = pa)
    (yes : ¬ x = y → Run l Z n0 own code maxL ret nm R Q pc' Ls st h k n) (no : x = y → Run l Z n0 own code maxL ret nm R Q pa Ls st h k n) : Run l Z n0 own code maxL ret nm R Q pc Ls (.int y :: .int x :: st) h k n := by
  subst hq
  by_cases hc : x = y
  · exact Run.stp (fun p e below T m c t hA hx hb' q => XS.icmpNo hA hx rfl (hb hb' hd) rfl (XT.ii_ne_f hc) q) (no (by simpa using hc))
  · exact Run.stp (fun p e below T m c t hA hx hb' q => XS.icmpYes hA hx rfl rfl (hb hb' hd) rfl (XT.ii_ne_t hc) ho hp q) (yes hc)
theorem Run.if_lt {x : Int32} {o : Int} {pa : Nat} (hd : decode code pc = .ok (.ifCond .lt o, 3)) (ho : 0 ≤ (pc : Int) + o) (hp : ((pc : Int) + o).toNat = pc') (hq : pc + 3 = pa)
    (yes : x < 0 → Run l Z n0 own code maxL ret nm R Q pc' Ls st h k n) (no : ¬ x < 0 → Run l Z n0 own code maxL ret nm R Q pa Ls st h k n) : Run l Z n0 own code maxL ret nm R Q pc Ls (.int x :: st) h k n := by
  subst hq
  by_cases hc : x < 0
  · exact Run.stp (fun p e below T m c t hA hx hb' q => XS.ifYes hA hx rfl rfl (hb hb' hd) rfl (XT.i0_lt_t hc) ho hp q) (yes hc)
  · exact Run.stp (fun p e below T m c t hA hx hb' q => XS.ifNo hA hx rfl (hb hb' hd) rfl (XT.i0_lt_f hc) q) (no hc)
theorem Run.icmp_lt {x y : Int32} {o : Int} {pa : Nat} (hd : decode code pc = .ok (.if_icmp .lt o, 3)) (ho : 0 ≤ (pc : Int) + o) (hp : ((pc : Int) + o).toNat = pc') (hq : pc + 3 = pa)
    (yes : x < y → Run l Z n0 own code maxL ret nm R Q pc' Ls st h k n) (no : ¬ x < y → Run l Z n0 own code maxL ret nm R Q pa Ls st h k n) : Run l Z n0 own code maxL ret nm R Q pc Ls (.int y :: .int x :: st) h k n := by
  subst hq
  by_cases hc : x < y
  · exact Run.stp (fun p e below T m c t hA hx hb' q => XS.icmpYes hA hx rfl rfl (hb hb' hd) rfl (XT.ii_lt_t hc) ho hp q) (yes hc)
  · exact Run.stp (fun p e below T m c t hA hx hb' q => XS.icmpNo hA hx rfl (hb hb' hd) rfl (XT.ii_lt_f hc) q) (no hc)
theorem Run.if_ge {x : Int32} {o : Int} {pa : Nat} (hd : decode code pc = .ok (.ifCond .ge o, 3)) (ho : 0 ≤ (pc : Int) + o) (hp : ((pc : Int) + o).toNat = pc') (hq : pc + 3 = pa)
    (yes : ¬ x < 0 → Run l Z n0 own code maxL ret nm R Q pc' Ls st h k n) (no : x < 0 → Run l Z n0 own code maxL ret nm R Q pa Ls st h k n) : Run l Z n0 own code maxL ret nm R Q pc Ls (.int x :: st) h k n := by
  subst hq
  by_cases hc : x < 0
  · exact Run.stp (fun p e below T m c t hA hx hb' q => XS.ifNo hA hx rfl (hb hb' hd) rfl (XT.i0_ge_f hc) q) (no (by simpa using hc))
  · exact Run.stp (fun p e below T m c t hA hx hb' q => XS.ifYes hA hx rfl rfl (hb hb' hd) rfl (XT.i0_ge_t hc) ho hp q) (yes hc)
theorem Run.icmp_ge {x y : Int32} {o : Int} {pa : Nat} (hd : decode code pc = .ok (.if_icmp .ge o, 3)) (ho : 0 ≤ (pc : Int) + o) (hp : ((pc : Int) + o).toNat = pc') (hq : pc + 3 = pa)
    (yes : ¬ x < y → Run l Z n0 own code maxL ret nm R Q pc' Ls st h k n) (no : x < y → Run l Z n0 own code maxL ret nm R Q pa Ls st h k n) : Run l Z n0 own code maxL ret nm R Q pc Ls (.int y :: .int x :: st) h k n := by
  subst hq
  by_cases hc : x < y
  · exact Run.stp (fun p e below T m c t hA hx hb' q => XS.icmpNo hA hx rfl (hb hb' hd) rfl (XT.ii_ge_f hc) q) (no (by simpa using hc))
  · exact Run.stp (fun p e below T m c t hA hx hb' q => XS.icmpYes hA hx rfl rfl (hb hb' hd) rfl (XT.ii_ge_t hc) ho hp q) (yes hc)
theorem Run.if_gt {x : Int32} {o : Int} {pa : Nat} (hd : decode code pc = .ok (.ifCond .gt o, 3)) (ho : 0 ≤ (pc : Int) + o) (hp : ((pc : Int) + o).toNat = pc') (hq : pc + 3 = pa)
    (yes : 0 < x → Run l Z n0 own code maxL ret nm R Q pc' Ls st h k n) (no : ¬ 0 < x → Run l Z n0 own code maxL ret nm R Q pa Ls st h k n) : Run l Z n0 own code maxL ret nm R Q pc Ls (.int x :: st) h k n := by
  subst hq
  by_cases hc : 0 < x
  · exact Run.stp (fun p e below T m c t hA hx hb' q => XS.ifYes hA hx rfl rfl (hb hb' hd) rfl (XT.i0_gt_t hc) ho hp q) (yes hc)
  · exact Run.stp (fun p e below T m c t hA hx hb' q => XS.ifNo hA hx rfl (hb hb' hd) rfl (XT.i0_gt_f hc) q) (no hc)
theorem Run.icmp_gt {x y : Int32} {o : Int} {pa : Nat} (hd : decode code pc = .ok (.if_icmp .gt o, 3)) (ho : 0 ≤ (pc : Int) + o) (hp : ((pc : Int) + o).toNat = pc') (hq : pc + 3 = pa)
    (yes : y < x → Run l Z n0 own code maxL ret nm R Q pc' Ls st h k n) (no : ¬ y < x → Run l Z n0 own code maxL ret nm R Q pa Ls st h k n) : Run l Z n0 own code maxL ret nm R Q pc Ls (.int y :: .int x :: st) h k n := by
  subst hq
  by_cases hc : y < x
  · exact Run.stp (fun p e below T m c t hA hx hb' q => XS.icmpYes hA hx rfl rfl (hb hb' hd) rfl (XT.ii_gt_t hc) ho hp q) (yes hc)
  · exact Run.stp (fun p e below T m c t hA hx hb' q => XS.icmpNo hA hx rfl (hb hb' hd) rfl (XT.ii_gt_f hc) q) (no hc)
theorem Run.if_le {x : Int32} {o : Int} {pa : Nat} (hd : decode code pc = .ok (.ifCond .le o, 3)) (ho : 0 ≤ (pc : Int) + o) (hp : ((pc : Int) + o).toNat = pc') (hq : pc + 3 = pa)
    (yes : ¬ 0 < x → Run l Z n0 own code maxL ret nm R Q pc' Ls st h k n) (no : 0 < x → Run l Z n0 own code maxL ret nm R Q pa Ls st h k n) : Run l Z n0 own code maxL ret nm R Q pc Ls (.int x :: st) h k n := by
  subst hq
  by_cases hc : 0 < x
  · exact Run.stp (fun p e below T m c t hA hx hb' q => XS.ifNo hA hx rfl (hb hb' hd) rfl (XT.i0_le_f hc) q) (no (by simpa using hc))
  · exact Run.stp (fun p e below T m c t hA hx hb' q => XS.ifYes hA hx rfl rfl (hb hb' hd) rfl (XT.i0_le_t hc) ho hp q) (yes hc)
theorem Run.icmp_le {x y : Int32} {o : Int} {pa : Nat} (hd : decode code pc = .ok (.if_icmp .le o, 3)) (ho : 0 ≤ (pc : Int) + o) (hp : ((pc : Int) + o).toNat = pc') (hq : pc + 3 = pa)
    (yes : ¬ y < x → Run l Z n0 own code maxL ret nm R Q pc' Ls st h k n) (no : y < x → Run l Z n0 own code maxL ret nm R Q pa Ls st h k n) : Run l Z n0 own code maxL ret nm R Q pc Ls (.int y :: .int x :: st) h k n := by
  subst hq
  by_cases hc : y < x
  · exact Run.stp (fun p e below T m c t hA hx hb' q => XS.icmpNo hA hx rfl (hb hb' hd) rfl (XT.ii_le_f hc) q) (no (by simpa using hc))
  · exact Run.stp (fun p e below T m c t hA hx hb' q => XS.icmpYes hA hx rfl rfl (hb hb' hd) rfl (XT.ii_le_t hc) ho hp q) (yes hc)
theorem Run.lif_eq {x y : Int64} {o : Int} {pa : Nat} (hd : decode code pc = .ok (.ifCond .eq o, 3)) (ho : 0 ≤ (pc : Int) + o) (hp : ((pc : Int) + o).toNat = pc') (hq : pc + 3 = pa)
    (yes : x = y → Run l Z n0 own code maxL ret nm R Q pc' Ls st h k n) (no : ¬ x = y → Run l Z n0 own code maxL ret nm R Q pa Ls st h k n) : Run l Z n0 own code maxL ret nm R Q pc Ls (.int (XT.cmpL x y) :: st) h k n := by
  subst hq
  by_cases hc : x = y
  · exact Run.stp (fun p e below T m c t hA hx hb' q => XS.ifYes hA hx rfl rfl (hb hb' hd) rfl (XT.ll_eq_t hc) ho hp q) (yes hc)
  · exact Run.stp (fun p e below T m c t hA hx hb' q => XS.ifNo hA hx rfl (hb hb' hd) rfl (XT.ll_eq_f hc) q) (no hc)
theorem Run.lif_ne {x y : Int64} {o : Int} {pa : Nat} (hd : decode code pc = .ok (.ifCond .ne o, 3)) (ho : 0 ≤ (pc : Int) + o) (hp : ((pc : Int) + o).toNat = pc') (hq : pc + 3 = pa)
    (yes : ¬ x = y → Run l Z n0 own code maxL ret nm R Q pc' Ls st h k n) (no : x = y → Run l Z n0 own code maxL ret nm R Q pa Ls st h k n) : Run l Z n0 own code maxL ret nm R Q pc Ls (.int (XT.cmpL x y) :: st) h k n := by
  subst hq
  by_cases hc : x = y
  · exact Run.stp (fun p e below T m c t hA hx hb' q => XS.ifNo hA hx rfl (hb hb' hd) rfl (XT.ll_ne_f hc) q) (no (by simpa using hc))
  · exact Run.stp (fun p e below T m c t hA hx hb' q => XS.ifYes hA hx rfl rfl (hb hb' hd) rfl (XT.ll_ne_t hc) ho hp q) (yes hc)
theorem Run.lif_lt {x y : Int64} {o : Int} {pa : Nat} (hd : decode code pc = .ok (.ifCond .lt o, 3)) (ho : 0 ≤ (pc : Int) + o) (hp : ((pc : Int) + o).toNat = pc') (hq : pc + 3 = pa)
    (yes : x < y → Run l Z n0 own code maxL ret nm R Q pc' Ls st h k n) (no : ¬ x < y → Run l Z n0 own code maxL ret nm R Q pa Ls st h k n) : Run l Z n0 own code maxL ret nm R Q pc Ls (.int (XT.cmpL x y) :: st) h k n := by
  subst hq
  by_cases hc : x < y
  · exact Run.stp (fun p e below T m c t hA hx hb' q => XS.ifYes hA hx rfl rfl (hb hb' hd) rfl (XT.ll_lt_t hc) ho hp q) (yes hc)
  · exact Run.stp (fun p e below T m c t hA hx hb' q => XS.ifNo hA hx rfl (hb hb' hd) rfl (XT.ll_lt_f hc) q) (no hc)
theorem Run.lif_ge {x y : Int64} {o : Int} {pa : Nat} (hd : decode code pc = .ok (.ifCond .ge o, 3)) (ho : 0 ≤ (pc : Int) + o) (hp : ((pc : Int) + o).toNat = pc') (hq : pc + 3 = pa)
    (yes : ¬ x < y → Run l Z n0 own code maxL ret nm R Q pc' Ls st h k n) (no : x < y → Run l Z n0 own code maxL ret nm R Q pa Ls st h k n) : Run l Z n0 own code maxL ret nm R Q pc Ls (.int (XT.cmpL x y) :: st) h k n := by
  subst hq
  by_cases hc : x < y
  · exact Run.stp (fun p e below T m c t hA hx hb' q => XS.ifNo hA hx rfl (hb hb' hd) rfl (XT.ll_ge_f hc) q) (no (by simpa using hc))
  · exact Run.stp (fun p e below T m c t hA hx hb' q => XS.ifYes hA hx rfl rfl (hb hb' hd) rfl (XT.ll_ge_t hc) ho hp q) (yes hc)
theorem Run.lif_gt {x y : Int64} {o : Int} {pa : Nat} (hd : decode code pc = .ok (.ifCond .gt o, 3)) (ho : 0 ≤ (pc : Int) + o) (hp : ((pc : Int) + o).toNat = pc') (hq : pc + 3 = pa)
    (yes : y < x → Run l Z n0 own code maxL ret nm R Q pc' Ls st h k n) (no : ¬ y < x → Run l Z n0 own code maxL ret nm R Q pa Ls st h k n) : Run l Z n0 own code maxL ret nm R Q pc Ls (.int (XT.cmpL x y) :: st) h k n := by
  subst hq
  by_cases hc : y < x
  · exact Run.stp (fun p e below T m c t hA hx hb' q => XS.ifYes hA hx rfl rfl (hb hb' hd) rfl (XT.ll_gt_t hc) ho hp q) (yes hc)
  · exact Run.stp (fun p e below T m c t hA hx hb' q => XS.ifNo hA hx rfl (hb hb' hd) rfl (XT.ll_gt_f hc) q) (no hc)
theorem Run.lif_le {x y : Int64} {o : Int} {pa : Nat} (hd : decode code pc = .ok (.ifCond .le o, 3)) (ho : 0 ≤ (pc : Int) + o) (hp : ((pc : Int) + o).toNat = pc') (hq : pc + 3 = pa)
    (yes : ¬ y < x → Run l Z n0 own code maxL ret nm R Q pc' Ls st h k n) (no : y < x → Run l Z n0 own code maxL ret nm R Q pa Ls st h k n) : Run l Z n0 own code maxL ret nm R Q pc Ls (.int (XT.cmpL x y) :: st) h k n := by
  subst hq
  by_cases hc : y < x
  · exact Run.stp (fun p e below T m c t hA hx hb' q => XS.ifNo hA hx rfl (hb hb' hd) rfl (XT.ll_le_f hc) q) (no (by simpa using hc))
  · exact Run.stp (fun p e below T m c t hA hx hb' q => XS.ifYes hA hx rfl rfl (hb hb' hd) rfl (XT.ll_le_t hc) ho hp q) (yes hc)
theorem Run.acmp_eq {x y : Value} {o : Int} {pa : Nat} (hd : decode code pc = .ok (.if_acmp .eq o, 3)) (hv : x.isRef = true) (hv' : y.isRef = true) (ho : 0 ≤ (pc : Int) + o) (hp : ((pc : Int) + o).toNat = pc') (hq : pc + 3 = pa)
    (yes : x = y → Run l Z n0 own code maxL ret nm R Q pc' Ls st h k n) (no : ¬ x = y → Run l Z n0 own code maxL ret nm R Q pa Ls st h k n) : Run l Z n0 own code maxL ret nm R Q pc Ls (y :: x :: st) h k n := by
  subst hq
  by_cases hc : x = y
  · exact Run.stp (fun p e below T m c t hA hx hb' q => XT.acmpYes hA hx rfl rfl (hb hb' hd) rfl hv hv' (XT.aa_eq_t hc) ho hp q) (yes hc)
  · exact Run.stp (fun p e below T m c t hA hx hb' q => XT.acmpNo hA hx rfl (hb hb' hd) rfl hv hv' (XT.aa_eq_f hc) q) (no hc)
theorem Run.acmp_ne {x y : Value} {o : Int} {pa : Nat} (hd : decode code pc = .ok (.if_acmp .ne o, 3)) (hv : x.isRef = true) (hv' : y.isRef = true) (ho : 0 ≤ (pc : Int) + o) (hp : ((pc : Int) + o).toNat = pc') (hq : pc + 3 = pa)
    (yes : ¬ x = y → Run l Z n0 own code maxL ret nm R Q pc' Ls st h k n) (no : x = y → Run l Z n0 own code maxL ret nm R Q pa Ls st h k n) : Run l Z n0 own code maxL ret nm R Q pc Ls (y :: x :: st) h k n := by
  subst hq
  by_cases hc : x = y
  · exact Run.stp (fun p e below T m c t hA hx hb' q => XT.acmpNo hA hx rfl (hb hb' hd) rfl hv hv' (XT.aa_ne_f hc) q) (no (by simpa using hc))
  · exact Run.stp (fun p e below T m c t hA hx hb' q => XT.acmpYes hA hx rfl rfl (hb hb' hd) rfl hv hv' (XT.aa_ne_t hc) ho hp q) (yes hc)
theorem Run.ifnull {v : Value} {o : Int} {pa : Nat} (hd : decode code pc = .ok (.ifnull o, 3)) (hv : v.isRef = true) (ho : 0 ≤ (pc : Int) + o) (hp : ((pc : Int) + o).toNat = pc') (hq : pc + 3 = pa)
    (yes : v = .null → Run l Z n0 own code maxL ret nm R Q pc' Ls st h k n) (no : ¬ v = .null → Run l Z n0 own code maxL ret nm R Q pa Ls st h k n) : Run l Z n0 own code maxL ret nm R Q pc Ls (v :: st) h k n := by
  subst hq
  by_cases hc : v = .null
  · exact Run.stp (fun p e below T m c t hA hx hb' q => XT.nullYes hA hx rfl rfl (hb hb' hd) rfl hc ho hp q) (yes hc)
  · exact Run.stp (fun p e below T m c t hA hx hb' q => XT.nullNo hA hx rfl (hb hb' hd) rfl hv hc q) (no hc)
theorem Run.ifnonnull {v : Value} {o : Int} {pa : Nat} (hd : decode code pc = .ok (.ifnonnull o, 3)) (hv : v.isRef = true) (ho : 0 ≤ (pc : Int) + o) (hp : ((pc : Int) + o).toNat = pc') (hq : pc + 3 = pa)
    (yes : ¬ v = .null → Run l Z n0 own code maxL ret nm R Q pc' Ls st h k n) (no : v = .null → Run l Z n0 own code maxL ret nm R Q pa Ls st h k n) : Run l Z n0 own code maxL ret nm R Q pc Ls (v :: st) h k n := by
  subst hq
  by_cases hc : v = .null
  · exact Run.stp (fun p e below T m c t hA hx hb' q => XT.nonnullNo hA hx rfl (hb hb' hd) rfl hc q) (no hc)
  · exact Run.stp (fun p e below T m c t hA hx hb' q => XT.nonnullYes hA hx rfl rfl (hb hb' hd) rfl hv hc ho hp q) (yes hc)
/-! the pool's constants, fields, statics -/
theorem Run.ldcI {a0 : Array Value} {i : Nat} {v : Int32} (hd : decode code pc = .ok (.ldc i, 2)) (w : (Cond.constant own i v).before a0 Z = true) (hp : pc + 2 = pc') (nxt : Run l Z n0 own code maxL ret nm R Q pc' Ls (.int v :: st) h k n) : Run l Z n0 own code maxL ret nm R Q pc Ls st h k n := by
  subst hp
  exact Run.via (fun p e s m args below meth c T locs cells slots hC X eT => ⟨T, X, eT, fun t q => X.ldcI hC.1 hC.2.2.1 (mvT hC.2.1 w) rfl (hb hC.2.2.2.1 hd) q⟩) nxt
theorem Run.ldcWI {a0 : Array Value} {i : Nat} {v : Int32} (hd : decode code pc = .ok (.ldc_w i, 3)) (w : (Cond.constant own i v).before a0 Z = true) (hp : pc + 3 = pc') (nxt : Run l Z n0 own code maxL ret nm R Q pc' Ls (.int v :: st) h k n) : Run l Z n0 own code maxL ret nm R Q pc Ls st h k n := by
  subst hp
  exact Run.via (fun p e s m args below meth c T locs cells slots hC X eT => ⟨T, X, eT, fun t q => X.ldcWI hC.1 hC.2.2.1 (mvT hC.2.1 w) rfl (hb hC.2.2.2.1 hd) q⟩) nxt
theorem Run.ldc2J {a0 : Array Value} {i : Nat} {v : Int64} (hd : decode code pc = .ok (.ldc2_w i, 3)) (w : (Cond.constantLong own i v).before a0 Z = true) (hp : pc + 3 = pc') (nxt : Run l Z n0 own code maxL ret nm R Q pc' Ls (.long v :: st) h k n) : Run l Z n0 own code maxL ret nm R Q pc Ls st h k n := by
  subst hp
  exact Run.via (fun p e s m args below meth c T locs cells slots hC X eT => ⟨T, X, eT, fun t q => X.ldc2J hC.1 hC.2.2.1 (mvT hC.2.1 w) rfl (hb hC.2.2.2.1 hd) q⟩) nxt
theorem Run.getS {a0 : Array Value} {R0 O f d host : String} {i : Nat} {v : Value} (hd : decode code pc = .ok (.getstatic i, 3)) (w : (Cond.fieldLink own i R0 f d).before a0 Z = true ∨ (Cond.fieldLinkNest own i R0 f d host).before a0 Z = true) (via : Via Z R0 O f d) (F : Sta Z h O f d v) (hp : pc + 3 = pc') (nxt : Run l Z n0 own code maxL ret nm R Q pc' Ls (v :: st) h k n) : Run l Z n0 own code maxL ret nm R Q pc Ls st h k n := by
  subst hp
  exact Run.via (fun p e s m args below meth c T locs cells slots hC X eT => getS2 X hC.1 hC.2.1 hC.2.2.1 w via eT F (g := mkF m pc Ls st) rfl (hb hC.2.2.2.1 hd)) nxt
theorem Run.getF {a0 : Array Value} {R0 O f d host : String} {i : Nat} {a : Addr} {v : Value} (hd : decode code pc = .ok (.getfield i, 3)) (w : (Cond.fieldLink own i R0 f d).before a0 Z = true ∨ (Cond.fieldLinkNest own i R0 f d host).before a0 Z = true) (via : Via Z R0 O f d) (F : Fld Z h a O f d v) (hp : pc + 3 = pc') (nxt : Run l Z n0 own code maxL ret nm R Q pc' Ls (v :: st) h k n) : Run l Z n0 own code maxL ret nm R Q pc Ls (.ref a :: st) h k n := by
  subst hp
  exact Run.via (fun p e s m args below meth c T locs cells slots hC X eT => getF X hC.1 hC.2.1 hC.2.2.1 w via eT F (g := mkF m pc Ls (.ref a :: st)) rfl rfl (hb hC.2.2.2.1 hd)) nxt
/-! the returns -/
theorem Go.fin {p : Program} {e : Env} {s : State} {m : MethodId} {args : Array Value} {below : List Frame} {meth : Method} {c : Code} {T S : State} {locs : List Loc} {cells slots : Nat} {v : Option Value} (X : Stand p l e R s m args below meth c T locs cells slots) (hv : meth.sig.returnType = none → v = none) (hlk : meth.locks = false) (hF : Fr n0 locs) (hk : cells ≤ R.cells) (hn : slots ≤ R.slots) (hQ : Q v T.heap)
    (f : ∀ fs, (∀ (f : JFrame) (acts : List Action), f.method = m → f.locked = none → f.entered = [] → (doReturn e (T.setTop f) acts v).1 = T.setFrames fs) → Steps p.tables e below S (T.setFrames fs)) : Go p e below s n0 R.cells R.slots Q S := by
  obtain ⟨fs, hr, hrun, hended, hW, hsame⟩ := X.leave (v := v) hv hlk
  exact ⟨_, v, locs, f fs hr, hrun, hended, ⟨hQ, hF⟩, ⟨_, rfl⟩, hW, hsame.mono hk hn⟩
theorem Run.ireturn {z : Int32} (hd : decode code pc = .ok (.ireturn, 1)) (hret : ret = some .int) (hk : k ≤ R.cells) (hn : n ≤ R.slots) (hQ : Q (some (.int z)) h) : Run l Z n0 own code maxL ret nm R Q pc Ls (.int z :: st) h k n := by
  intro p e s m args below meth c T locs cells slots hC X eT hF hk' hn'
  subst eT
  have hr := hC.2.2.2.2.2.1
  exact Go.fin X (fun q => by rw [hr, hret] at q; cases q) hC.2.2.2.2.2.2.1 hF (Nat.le_trans hk' hk) (Nat.le_trans hn' hn) hQ (fun fs hl => retOut X hC.1 (hr.trans hret) rfl (Or.inl ⟨rfl, Or.inl rfl, z, rfl⟩) (hb hC.2.2.2.1 hd) hl)
theorem Run.nreturn {z : Int32} {ty : FieldType} (hd : decode code pc = .ok (.ireturn, 1)) (hret : ret = some ty) (ht : ty = .boolean ∨ ty = .byte ∨ ty = .char ∨ ty = .short) (hk : k ≤ R.cells) (hn : n ≤ R.slots) (hQ : Q (some (.int (nar ty z))) h) : Run l Z n0 own code maxL ret nm R Q pc Ls (.int z :: st) h k n := by
  intro p e s m args below meth c T locs cells slots hC X eT hF hk' hn'
  subst eT
  have hr := hC.2.2.2.2.2.1
  exact Go.fin X (fun q => by rw [hr, hret] at q; cases q) hC.2.2.2.2.2.2.1 hF (Nat.le_trans hk' hk) (Nat.le_trans hn' hn) hQ (fun fs hl => retN X hC.1 (hr.trans hret) ht (hb hC.2.2.2.1 hd) hl)
theorem Run.lreturn {z : Int64} (hd : decode code pc = .ok (.lreturn, 1)) (hret : ret = some .long) (hk : k ≤ R.cells) (hn : n ≤ R.slots) (hQ : Q (some (.long z)) h) : Run l Z n0 own code maxL ret nm R Q pc Ls (.long z :: st) h k n := by
  intro p e s m args below meth c T locs cells slots hC X eT hF hk' hn'
  subst eT
  have hr := hC.2.2.2.2.2.1
  exact Go.fin X (fun q => by rw [hr, hret] at q; cases q) hC.2.2.2.2.2.2.1 hF (Nat.le_trans hk' hk) (Nat.le_trans hn' hn) hQ (fun fs hl => retOut X hC.1 (hr.trans hret) rfl (Or.inr (Or.inl ⟨rfl, rfl, z, rfl⟩)) (hb hC.2.2.2.1 hd) hl)
theorem go_narref {t : FieldType} {w : Value} (ht : t.isReference = true) (hw : w.isRef = true) : narrow t w = w := by
  cases t <;> first | rfl | (cases ht; done) | (cases w <;> first | rfl | cases hw)
theorem Run.areturn {w : Value} {ty : FieldType} (hd : decode code pc = .ok (.areturn, 1)) (hret : ret = some ty) (ht : ty.isReference = true) (hw : w.isRef = true) (hk : k ≤ R.cells) (hn : n ≤ R.slots) (hQ : Q (some w) h) : Run l Z n0 own code maxL ret nm R Q pc Ls (w :: st) h k n := by
  intro p e s m args below meth c T locs cells slots hC X eT hF hk' hn'
  subst eT
  have hr := hC.2.2.2.2.2.1
  exact Go.fin X (fun q => by rw [hr, hret] at q; cases q) hC.2.2.2.2.2.2.1 hF (Nat.le_trans hk' hk) (Nat.le_trans hn' hn) hQ (fun fs hl => retOut X hC.1 (hr.trans hret) (go_narref ht hw) (Or.inr (Or.inr (Or.inr (Or.inr ⟨rfl, ht, hw⟩)))) (hb hC.2.2.2.1 hd) hl)
theorem Run.vreturn (hd : decode code pc = .ok (.return_, 1)) (hret : ret = none) (hk : k ≤ R.cells) (hn : n ≤ R.slots) (hQ : Q none h) : Run l Z n0 own code maxL ret nm R Q pc Ls [] h k n := by
  intro p e s m args below meth c T locs cells slots hC X eT hF hk' hn'
  subst eT
  have hr := hC.2.2.2.2.2.1
  exact Go.fin X (fun _ => rfl) hC.2.2.2.2.2.2.1 hF (Nat.le_trans hk' hk) (Nat.le_trans hn' hn) hQ (fun fs hl => X.returnOut hC.1 (hr.trans hret) (hb hC.2.2.2.1 hd) hl)
/-! calls by a contract -/
theorem Run.callS {a0 : Array Value} {y : MethodName} {bytes : ByteArray} {mL : Nat} {rt : Option FieldType} {rm : Room} {as rest : List Value} {Qy : Option Value → Heap → Prop} {i : Nat} {ps : List FieldType} {rr : Option FieldType}
    (hC : Con l Z n0 y bytes mL rt rm as.toArray h Qy) (hd : decode code pc = .ok (.invokestatic i, 3)) (w1 : (Cond.methodLink own i y).before a0 Z = true) (w2 : (Cond.static y).before a0 Z = true) (w3 : (Cond.initialized y.cls).before a0 Z = true) (w4 : (Cond.code y bytes mL rt).before a0 Z = true)
    (hy : y.cls ≠ "java/lang/invoke/MethodHandle" ∧ y.cls ≠ "java/lang/invoke/VarHandle") (hds : parseMethodDescriptor y.desc = some ⟨ps, rr⟩) (hl : as.length = ps.length) (hst : st = as.reverse ++ rest) (hsz : Ls.size = maxL)
    (hf : rm.frames + 1 ≤ R.frames) (hlo : (rest.map fun v => v.category).sum + (mL + 11) + rm.locals ≤ R.locals) (hk : k + rm.cells ≤ k') (hk' : k' ≤ R.cells) (hn : n + rm.slots ≤ n') (hn' : n' ≤ R.slots) (hp : pc + 3 = pc')
    (nxt : ∀ v h', Qy v h' → Run l Z n0 own code maxL ret nm R Q pc' Ls (v.toList ++ rest) h' k' n') : Run l Z n0 own code maxL ret nm R Q pc Ls st h k n := by
  subst hp hst
  intro p e s m args below meth c T locs cells slots hX X eT hF hc hs
  obtain ⟨hx, hZ, hown, hby, hml, -⟩ := id hX
  obtain ⟨v, vm₁, ⟨B, L', cc, ss⟩, -, X', ⟨Lc, hQ, l1, y1, z1⟩, stp⟩ := Jvm.LawKit.callS X hx (y := y) hown (mvT hZ w1) (mvT hZ w2) (mvT hZ w3) (mvT hZ w4) hy (backOf (W := (rest.map fun v => v.category).sum) (Q := fun v h L => Qy v h ∧ Fr n0 L) (hC []) hZ w4 w3 hf hlo) (g := mkF m pc Ls (as.reverse ++ rest)) rfl (hsz.trans hml.symm) (argsL := as) (rest := rest) (lenOf hds hl) rfl (by show 2 * 0 + _ ≤ _; omega) (hb hby hd) (fun _ _ => ⟨rfl, eT, (by show cells + rm.cells ≤ R.cells; omega), (by show slots + rm.slots ≤ R.slots; omega)⟩)
  dsimp only [Pt.U, Pt.locs, Pt.cells, Pt.slots] at X' l1 y1 z1 stp hQ
  subst l1 y1 z1
  obtain ⟨s₂, v', L, g1, g2⟩ := nxt v _ hQ.1 p e s m args below meth c B _ _ _ hX X' rfl (Fr.app hF hQ.2) (by omega) (by omega)
  exact ⟨s₂, v', L, stp _ g1, g2⟩
theorem Run.callV {a0 : Array Value} {C : String} {y z : MethodName} {bytes : ByteArray} {mL : Nat} {rt : Option FieldType} {rm : Room} {a : Addr} {as rest : List Value} {Qy : Option Value → Heap → Prop} {i : Nat} {ps : List FieldType} {rr : Option FieldType}
    (hC : Con l Z n0 z bytes mL rt rm (.ref a :: as).toArray h Qy) (hE : Exa Z h a C) (hd : decode code pc = .ok (.invokevirtual i, 3)) (w1 : (Cond.methodLink own i y).before a0 Z = true) (w2 : (Cond.declares y).before a0 Z = true) (nf : ∀ (s : State), Z.Warmed39 s.vm → NotFace s y) (w3 : (Cond.selects C y z).before a0 Z = true) (w4 : (Cond.instanceMethod z).before a0 Z = true) (w5 : (Cond.initialized z.cls).before a0 Z = true) (w6 : (Cond.code z bytes mL rt).before a0 Z = true)
    (hy : y.cls ≠ "java/lang/invoke/MethodHandle" ∧ y.cls ≠ "java/lang/invoke/VarHandle") (hds : parseMethodDescriptor y.desc = some ⟨ps, rr⟩) (hl : as.length = ps.length) (hst : st = as.reverse ++ .ref a :: rest) (hsz : Ls.size = maxL)
    (hf : rm.frames + 1 ≤ R.frames) (hlo : (rest.map fun v => v.category).sum + (mL + 11) + rm.locals ≤ R.locals) (hk : k + rm.cells ≤ k') (hk' : k' ≤ R.cells) (hn : n + rm.slots ≤ n') (hn' : n' ≤ R.slots) (hp : pc + 3 = pc')
    (nxt : ∀ v h', Qy v h' → Run l Z n0 own code maxL ret nm R Q pc' Ls (v.toList ++ rest) h' k' n') : Run l Z n0 own code maxL ret nm R Q pc Ls st h k n := by
  subst hp hst
  intro p e s m args below meth c T locs cells slots hX X eT hF hc hs
  obtain ⟨hx, hZ, hown, hby, hml, -⟩ := id hX
  obtain ⟨cq, kq, qa, qb, qc⟩ := isOf hZ eT hE
  obtain ⟨v, vm₁, ⟨B, L', cc, ss⟩, -, X', ⟨Lc, hQ, l1, y1, z1⟩, stp⟩ := X.virtualBack hx (y := y) (z := z) hown (mvT hZ w1) (mvT hZ w2) (nf s hZ) (mvT hZ w3) (mvT hZ w4) hy (backOf (W := (rest.map fun v => v.category).sum) (Q := fun v h L => Qy v h ∧ Fr n0 L) (hC []) hZ w6 w5 hf hlo) qa qc (g := mkF m pc Ls (as.reverse ++ .ref a :: rest)) rfl (hsz.trans hml.symm) (Steps.refl _) (argsL := as) (rest := rest) (lenOf hds hl) rfl (by show 2 * 0 + _ ≤ _; omega) (hb hby hd) (fun _ _ => ⟨rfl, eT, (by show cells + rm.cells ≤ R.cells; omega), (by show slots + rm.slots ≤ R.slots; omega)⟩)
  dsimp only [Pt.U, Pt.locs, Pt.cells, Pt.slots] at X' l1 y1 z1 stp hQ
  subst l1 y1 z1
  obtain ⟨s₂, v', L, g1, g2⟩ := nxt v _ hQ.1 p e s m args below meth c B _ _ _ hX X' rfl (Fr.app hF hQ.2) (by omega) (by omega)
  exact ⟨s₂, v', L, stp.trans g1, g2⟩
theorem Run.callN {a0 : Array Value} {y : MethodName} {bytes : ByteArray} {mL : Nat} {rm : Room} {a : Addr} {as rest : List Value} {P : Heap → Prop} {i : Nat} {ps : List FieldType} {rr : Option FieldType}
    (hC : Con l Z n0 y bytes mL none rm (.ref a :: as).toArray h (Vd P)) (hy1 : y.name = "<init>") (hd : decode code pc = .ok (.invokespecial i, 3)) (w1 : (Cond.methodLink own i y).before a0 Z = true) (w2 : (Cond.instanceMethod y).before a0 Z = true) (w3 : (Cond.initialized y.cls).before a0 Z = true) (w4 : (Cond.code y bytes mL none).before a0 Z = true)
    (hy : y.cls ≠ "java/lang/invoke/MethodHandle" ∧ y.cls ≠ "java/lang/invoke/VarHandle") (hds : parseMethodDescriptor y.desc = some ⟨ps, rr⟩) (hl : as.length = ps.length) (hst : st = as.reverse ++ .ref a :: rest) (hsz : Ls.size = maxL)
    (hf : rm.frames + 1 ≤ R.frames) (hlo : (rest.map fun v => v.category).sum + (mL + 11) + rm.locals ≤ R.locals) (hk : k + rm.cells ≤ k') (hk' : k' ≤ R.cells) (hn : n + rm.slots ≤ n') (hn' : n' ≤ R.slots) (hp : pc + 3 = pc')
    (nxt : ∀ h', P h' → Run l Z n0 own code maxL ret nm R Q pc' Ls rest h' k' n') : Run l Z n0 own code maxL ret nm R Q pc Ls st h k n := by
  subst hp hst
  intro p e s m args below meth c T locs cells slots hX X eT hF hc hs
  obtain ⟨hx, hZ, hown, hby, hml, -⟩ := id hX
  obtain ⟨v, vm₁, ⟨B, L', cc, ss⟩, -, X', ⟨Lc, hQ, l1, y1, z1⟩, stp⟩ := X.specialBack hx (y := y) hy1 hown (mvT hZ w1) (mvT hZ w2) (mvT hZ w4) hy (backOf (W := (rest.map fun v => v.category).sum) (Q := fun v h L => Vd P v h ∧ Fr n0 L) (hC []) hZ w4 w3 hf hlo) (g := mkF m pc Ls (as.reverse ++ .ref a :: rest)) rfl (hsz.trans hml.symm) (Steps.refl _) (a := a) (argsL := as) (rest := rest) (lenOf hds hl) rfl (by show 2 * 0 + _ ≤ _; omega) (hb hby hd) (fun _ _ => ⟨rfl, eT, (by show cells + rm.cells ≤ R.cells; omega), (by show slots + rm.slots ≤ R.slots; omega)⟩)
  dsimp only [Pt.U, Pt.locs, Pt.cells, Pt.slots] at X' l1 y1 z1 stp hQ
  subst l1 y1 z1
  obtain ⟨⟨rfl, hP⟩, hL⟩ := hQ
  obtain ⟨s₂, v', L, g1, g2⟩ := nxt _ hP p e s m args below meth c B _ _ _ hX X' rfl (Fr.app hF hL) (by omega) (by omega)
  exact ⟨s₂, v', L, stp.trans g1, g2⟩
/-! the heap: new objects, fields written, arrays -/
theorem Run.wr {a : Addr} {sl : Nat} {v : Value} {Ls' : Array Slot} {st' : List Value} (f : ∀ (p : Program) (e : Env) (s : State) (m : MethodId) (args : Array Value) (below : List Frame) (meth : Method) (c : Code) (T : State) (locs : List Loc) (cells slots : Nat),
      Ctx Z own code maxL ret nm p s m meth c → Stand p l e R s m args below meth c T locs cells slots → T.heap = h → ∃ T' h', Stand p l e R s m args below meth c T' (locs ++ [⟨a, sl⟩]) cells slots ∧ T'.heap = h' ∧ Wr h h' a sl v ∧ ∀ t, Steps p.tables e below (T'.setTop (mkF m pc' Ls' st')) t → Steps p.tables e below (T.setTop (mkF m pc Ls st)) t)
    (ha : n0 ≤ a) (nxt : ∀ h', Wr h h' a sl v → Run l Z n0 own code maxL ret nm R Q pc' Ls' st' h' k n) : Run l Z n0 own code maxL ret nm R Q pc Ls st h k n := by
  intro p e s m args below meth c T locs cells slots hC X eT hF hk hn
  obtain ⟨T', h', X', e', W, stp⟩ := f p e s m args below meth c T locs cells slots hC X eT
  obtain ⟨s₂, v', L, g1, g2⟩ := nxt h' W p e s m args below meth c T' _ cells slots hC X' e' (Fr.snoc X' hF ha) hk hn
  exact ⟨s₂, v', L, stp _ g1, g2⟩
theorem Run.newO {a0 : Array Value} {C : String} {i sl : Nat} (hd : decode code pc = .ok (.new i, 3)) (w : (Cond.classLink own i C).before a0 Z = true) (wi : (Cond.instantiable C sl).before a0 Z = true) (wz : (Cond.initialized C).before a0 Z = true)
    (hk : k + 1 ≤ k') (hk' : k' ≤ R.cells) (hn : n + sl ≤ n') (hn' : n' ≤ R.slots) (hp : pc + 3 = pc')
    (nxt : ∀ h' a, a = h.size → Ext h h' → Exa Z h' a C → (∀ {O f d : String} {ty : FieldType}, Laid Z a0 C O f d → parseFieldDescriptor d = some ty → Fld Z h' a O f d (defaultValue ty)) → Run l Z n0 own code maxL ret nm R Q pc' Ls (.ref a :: st) h' k' n') : Run l Z n0 own code maxL ret nm R Q pc Ls st h k n := by
  subst hp
  intro p e s m args below meth c T locs cells slots hC X eT hF hkk hnn
  obtain ⟨T', h', X', e', E, A, D, -, stp⟩ := newO X hC.1 hC.2.1 hC.2.2.1 w wi wz eT (g := mkF m pc Ls st) rfl (hb hC.2.2.2.1 hd) (by omega) (by omega)
  obtain ⟨s₂, v, L, g1, g2⟩ := nxt h' h.size rfl E A D p e s m args below meth c T' locs _ _ hC X' e' hF (by omega) (by omega)
  exact ⟨s₂, v, L, stp _ g1, g2⟩
theorem Run.initO {a0 : Array Value} {i : Nat} {a : Addr} (hd : decode code pc = .ok (.invokespecial i, 3)) (w1 : (Cond.methodLink own i Lib.objectInit).before a0 Z = true) (w2 : (Cond.instanceMethod Lib.objectInit).before a0 Z = true) (w3 : (Cond.code Lib.objectInit ⟨#[0xb1]⟩ 1 none).before a0 Z = true)
    (hsz : Ls.size = maxL) (hf : 1 ≤ R.frames) (hl : (st.map fun v => v.category).sum + 12 ≤ R.locals) (hp : pc + 3 = pc') (nxt : Run l Z n0 own code maxL ret nm R Q pc' Ls st h k n) : Run l Z n0 own code maxL ret nm R Q pc Ls (.ref a :: st) h k n := by
  subst hp
  exact Run.via (fun p e s m args below meth c T locs cells slots hC X eT => initO X hC.1 hC.2.1 hC.2.2.1 w1 w2 w3 eT (g := mkF m pc Ls (.ref a :: st)) rfl (hsz.trans hC.2.2.2.2.1.symm) rfl (hb hC.2.2.2.1 hd) hf (W := (st.map fun v => v.category).sum) (by show 2 * 0 + _ ≤ _; omega) hl) nxt
theorem Run.putF {a0 : Array Value} {R0 O f d host C : String} {i sl : Nat} {ty : FieldType} {a : Addr} {v old : Value} (hd : decode code pc = .ok (.putfield i, 3)) (w : (Cond.fieldLink own i R0 f d).before a0 Z = true ∨ (Cond.fieldLinkNest own i R0 f d host).before a0 Z = true) (via : Via Z R0 O f d) (F : Fld Z h a O f d old) (E : Exa Z h a C)
    (L : (Cond.lays C O f d).before a0 Z = true ∨ ((Cond.laysFinal C O f d).before a0 Z = true ∧ own = O ∧ nm = "<init>")) (wi : (Cond.instantiable C sl).before a0 Z = true) (hty : parseFieldDescriptor d = some ty) (hnv : narrow ty v = v) (hfv : fits ty v = true) (ha : n0 ≤ a) (hp : pc + 3 = pc')
    (nxt : ∀ h', Wr h h' a (Jvm.RoadKit.slotOf Z O f d) v → Run l Z n0 own code maxL ret nm R Q pc' Ls st h' k n) : Run l Z n0 own code maxL ret nm R Q pc Ls (v :: .ref a :: st) h k n := by
  subst hp
  exact Run.wr (fun p e s m args below meth c T locs cells slots hC X eT => putF X hC.1 hC.2.1 hC.2.2.1 w via eT F E (L.imp id fun q => ⟨q.1, q.2.1, hC.2.2.2.2.2.2.2.trans q.2.2⟩) wi hty hnv hfv (g := mkF m pc Ls (v :: .ref a :: st)) rfl rfl (hb hC.2.2.2.1 hd)) ha nxt
theorem Run.putFN {a0 : Array Value} {R0 O f d C : String} {i sl : Nat} {ty : FieldType} {a : Addr} {v v' old : Value} (hd : decode code pc = .ok (.putfield i, 3)) (w : (Cond.fieldLink own i R0 f d).before a0 Z = true) (via : Via Z R0 O f d) (F : Fld Z h a O f d old) (E : Exa Z h a C)
    (L : (Cond.lays C O f d).before a0 Z = true ∨ ((Cond.laysFinal C O f d).before a0 Z = true ∧ own = O ∧ nm = "<init>")) (wi : (Cond.instantiable C sl).before a0 Z = true) (hty : parseFieldDescriptor d = some ty) (hnv : narrow ty v = v') (hfv : fits ty v' = true) (ha : n0 ≤ a) (hp : pc + 3 = pc')
    (nxt : ∀ h', Wr h h' a (Jvm.RoadKit.slotOf Z O f d) v' → Run l Z n0 own code maxL ret nm R Q pc' Ls st h' k n) : Run l Z n0 own code maxL ret nm R Q pc Ls (v :: .ref a :: st) h k n := by
  subst hp
  exact Run.wr (fun p e s m args below meth c T locs cells slots hC X eT => putFN X hC.1 hC.2.1 hC.2.2.1 w via eT F E (L.imp id fun q => ⟨q.1, q.2.1, hC.2.2.2.2.2.2.2.trans q.2.2⟩) wi hty hnv hfv (g := mkF m pc Ls (v :: .ref a :: st)) rfl rfl (hb hC.2.2.2.1 hd)) ha nxt
theorem Run.castY {a0 : Array Value} {K : String} {i : Nat} {a : Addr} (hd : decode code pc = .ok (.checkcast i, 3)) (w : (Cond.classLink own i K).before a0 Z = true) (F : Ins Z h a K true) (hp : pc + 3 = pc') (nxt : Run l Z n0 own code maxL ret nm R Q pc' Ls (.ref a :: st) h k n) : Run l Z n0 own code maxL ret nm R Q pc Ls (.ref a :: st) h k n := by
  subst hp
  exact Run.via (fun p e s m args below meth c T locs cells slots hC X eT => castY X hC.1 hC.2.1 hC.2.2.1 w eT F (g := mkF m pc Ls (.ref a :: st)) rfl rfl (hb hC.2.2.2.1 hd)) nxt
theorem Run.castNull {i : Nat} (hd : decode code pc = .ok (.checkcast i, 3)) (hp : pc + 3 = pc') (nxt : Run l Z n0 own code maxL ret nm R Q pc' Ls (.null :: st) h k n) : Run l Z n0 own code maxL ret nm R Q pc Ls (.null :: st) h k n := by
  subst hp
  exact Run.via (fun p e s m args below meth c T locs cells slots hC X eT => ⟨T, X, eT, fun t q => X.checkcastNull hC.1 (g := mkF m pc Ls (.null :: st)) rfl rfl (hb hC.2.2.2.1 hd) t q⟩) nxt
theorem Run.instY {a0 : Array Value} {K : String} {i : Nat} {a : Addr} (hd : decode code pc = .ok (.instanceof i, 3)) (w : (Cond.classLink own i K).before a0 Z = true) (F : Ins Z h a K true) (hp : pc + 3 = pc') (nxt : Run l Z n0 own code maxL ret nm R Q pc' Ls (.int 1 :: st) h k n) : Run l Z n0 own code maxL ret nm R Q pc Ls (.ref a :: st) h k n := by
  subst hp
  exact Run.via (fun p e s m args below meth c T locs cells slots hC X eT => instY X hC.1 hC.2.1 hC.2.2.1 w eT F (g := mkF m pc Ls (.ref a :: st)) rfl rfl (hb hC.2.2.2.1 hd)) nxt
theorem Run.instNo {a0 : Array Value} {K C : String} {i : Nat} {a : Addr} (hd : decode code pc = .ok (.instanceof i, 3)) (w : (Cond.classLink own i K).before a0 Z = true) (E : Exa Z h a C) (F : ∃ c t, Z.vm.findClass C = some c ∧ Z.vm.findClass K = some t ∧ Z.vm.assignable c t = false) (hp : pc + 3 = pc') (nxt : Run l Z n0 own code maxL ret nm R Q pc' Ls (.int 0 :: st) h k n) : Run l Z n0 own code maxL ret nm R Q pc Ls (.ref a :: st) h k n := by
  subst hp
  exact Run.via (fun p e s m args below meth c T locs cells slots hC X eT => instNo X hC.1 hC.2.1 hC.2.2.1 w eT E F (g := mkF m pc Ls (.ref a :: st)) rfl rfl (hb hC.2.2.2.1 hd)) nxt
theorem Run.instNull {i : Nat} (hd : decode code pc = .ok (.instanceof i, 3)) (hp : pc + 3 = pc') (nxt : Run l Z n0 own code maxL ret nm R Q pc' Ls (.int 0 :: st) h k n) : Run l Z n0 own code maxL ret nm R Q pc Ls (.null :: st) h k n := by
  subst hp
  exact Run.via (fun p e s m args below meth c T locs cells slots hC X eT => ⟨T, X, eT, fun t q => X.instanceofNull hC.1 (g := mkF m pc Ls (.null :: st)) rfl rfl (hb hC.2.2.2.1 hd) t q⟩) nxt
/-- the array at a holds just the list vs -/
def Ary (Z : State) (h : Heap) (a : Addr) (ty : FieldType) (vs : List Value) : Prop := ∃ c : Cell, Arr Z h a c ty ∧ c.slots.toList = vs
section Ar
variable {h' : Heap} {a b : Addr} {ty : FieldType} {vs : List Value} {sl : Nat} {v : Value} {ws : List Addr}
theorem Ary.lt (F : Ary Z h a ty vs) : a < h.size := by obtain ⟨c, A, -⟩ := F; exact A.lt
theorem Ary.ext (F : Ary Z h a ty vs) (E : Ext h h') : Ary Z h' a ty vs := by obtain ⟨c, A, r⟩ := F; exact ⟨c, A.ext E, r⟩
theorem Ary.other (F : Ary Z h b ty vs) (W : Wr h h' a sl v) (q : b ≠ a) : Ary Z h' b ty vs := by obtain ⟨c, A, r⟩ := F; exact ⟨c, A.other W q, r⟩
theorem Ary.keep (F : Ary Z h a ty vs) (K : Keep h h' ws) (q : a ∉ ws) : Ary Z h' a ty vs := by obtain ⟨c, A, r⟩ := F; exact ⟨c, ⟨K.2.1 a c A.1 q, A.2⟩, r⟩
theorem Ary.set (F : Ary Z h a ty vs) (W : Wr h h' a sl v) : Ary Z h' a ty (vs.set sl v) := by
  obtain ⟨c, A, r⟩ := F
  exact ⟨_, A.same W, by rw [← r]; simp [Cell.setSlot]⟩
theorem Ext.refl (h : Heap) : Ext h h := ⟨Nat.le_refl _, fun _ _ q => q⟩
theorem Ext.trans {h0 : Heap} (E : Ext h0 h) (E' : Ext h h') : Ext h0 h' := ⟨Nat.le_trans E.1 E'.1, fun a c q => E'.2 a c (E.2 a c q)⟩
theorem Ext.wr {h0 : Heap} (E : Ext h0 h) (W : Wr h h' a sl v) (q : h0.size ≤ a) : Ext h0 h' := by
  refine ⟨Nat.le_trans E.1 (Nat.le_of_eq W.size.symm), fun b c hb => ?_⟩
  obtain ⟨c', e1, -, -, -, e5, -⟩ := wr_at W (E.2 b c hb)
  have : b ≠ a := fun z => by subst z; exact absurd (Array.getElem?_eq_some_iff.mp hb).1 (Nat.not_lt.mpr q)
  rw [← e5 this]; exact e1
theorem Ext.keep {h0 : Heap} (E : Ext h0 h) (K : Keep h h' ws) (q : ∀ x ∈ ws, h0.size ≤ x) : Ext h0 h' :=
  ⟨Nat.le_trans E.1 K.1, fun b c hb => K.2.1 b c (E.2 b c hb) fun z => absurd (Array.getElem?_eq_some_iff.mp hb).1 (Nat.not_lt.mpr (q b z))⟩
theorem Keep.toExt (K : Keep h h' []) : Ext h h' := ⟨K.1, fun b c hb => K.2.1 b c hb nin0⟩
theorem own_fitsR {t : FieldType} (ht : refKind t = true) (hv : v.isRef = true) : fits t v = true := by cases t <;> first | (cases ht; done) | (cases v <;> first | rfl | cases hv)
theorem nst_exa {C : String} (E : Exa Z h a C) : ∃ c : Cell, h[a]? = some c ∧ c.vm.isStatics = false := by obtain ⟨c, _, h1, -, -, h4, -⟩ := E; exact ⟨c, h1, h4⟩
theorem nst_ary (A : Ary Z h a ty vs) : ∃ c : Cell, h[a]? = some c ∧ c.vm.isStatics = false := by obtain ⟨c, A, -⟩ := A; exact ⟨c, A.1, A.plain⟩
theorem sta_keep {C f d : String} (F : Sta Z h C f d v) (K : Keep h h' ws) (q : ∀ x ∈ ws, ∃ c : Cell, h[x]? = some c ∧ c.vm.isStatics = false) : Sta Z h' C f d v := by
  obtain ⟨cf, i, k, f, st, cell, h1, h2, h3, h4, h5, h6, h7⟩ := F
  refine ⟨cf, i, k, f, st, cell, h1, h2, h3, h4, K.2.1 st cell h5 fun hx => ?_, h6, h7⟩
  obtain ⟨c, e1, e2⟩ := q st hx
  cases e1.symm.trans h5
  rw [h6] at e2; cases e2
theorem Keep.ofExt (E : Ext h h') : Keep h h' [] := (Keep.refl h []).ext E
theorem idxIn {c : Cell} {j : Int32} {i : Nat} (hj : j.toInt = (i : Int)) (hi : i < c.slots.size) : ¬ (j < 0 ∨ c.slots.size ≤ j.toNatClampNeg) ∧ j.toNatClampNeg = i := by
  have e : j.toNatClampNeg = i := by have : j.toNatClampNeg = j.toInt.toNat := rfl; rw [this, hj]; rfl
  refine ⟨fun q => ?_, e⟩
  rcases q with q | q
  · rw [Int32.lt_iff_toInt_lt, hj] at q; have : (0 : Int32).toInt = 0 := rfl; omega
  · omega
theorem sizeOf {c : Cell} (r : c.slots.toList = vs) : c.slots.size = vs.length := by rw [← r]; simp
theorem getOf {c : Cell} {i : Nat} (r : c.slots.toList = vs) (hv : vs[i]? = some v) : c.slots[i]? = some v := by rw [← r] at hv; simpa using hv
end Ar
theorem ns_root {a0 : Array Value} {O K : String} {m : Nat} (w : (Cond.noSuperclass O).before a0 Z = true) (wk : (Cond.instantiable K m).before a0 Z = true) (hn : O ≠ K) : NS Z O K := by
  obtain ⟨c, k, h1, h2, h3, -, -⟩ := Cond.noSuperclass_spec w
  obtain ⟨t, k2, g1, -⟩ := Cond.instantiable_spec wk
  have ne := ids_ne h1 g1 hn
  refine ⟨c, t, h1, g1, fun fuel => ?_⟩
  cases fuel with
  | zero => rfl
  | succ f => simp [Vm.isSubclassAux, ne, h2, h3]
theorem ns_no {a0 : Array Value} {C S K : String} {m : Nat} (w : (Cond.superclass C S).before a0 Z = true) (wk : (Cond.instantiable K m).before a0 Z = true) (n : NS Z C K) (hn : C ≠ K) : ∃ c t, Z.vm.findClass C = some c ∧ Z.vm.findClass K = some t ∧ Z.vm.assignable c t = false := by
  obtain ⟨c, t, h0, g0, n3⟩ := n
  obtain ⟨p, k, kp, h1, h2, h3, h4, h5, -, h7⟩ := Cond.superclass_spec h0 w
  obtain ⟨t', k', g1, g2, g5, g7, -⟩ := Cond.instantiable_spec wk
  cases g0.symm.trans g1
  have ne := ids_ne h0 g0 hn
  have g8 : k'.isInterface = false := by cases hq : k'.isInterface <;> simp [hq] at g7 ⊢
  refine ⟨c, t, h0, g0, ?_⟩
  show Z.vm.assignableAux (255 + 1) c t = false
  simp [Vm.assignableAux, ne, h2, g2, h5, g5, g8, Vm.isSubclass, n3]
theorem Run.alen {a : Addr} {ty : FieldType} {vs : List Value} {z : Int32} (hd : decode code pc = .ok (.arraylength, 1)) (A : Ary Z h a ty vs) (hz : vs.length.toInt32 = z) (hp : pc + 1 = pc') (nxt : Run l Z n0 own code maxL ret nm R Q pc' Ls (.int z :: st) h k n) : Run l Z n0 own code maxL ret nm R Q pc Ls (.ref a :: st) h k n := by
  subst hp hz
  obtain ⟨c0, A, r⟩ := A
  exact Run.via (fun p e s m args below meth c T locs cells slots hC X eT => ⟨T, X, eT, fun t q => X.arraylength hC.1 (by rw [eT]; exact A.1) (State.isArrayOf_alike hC.2.1.alike A.2.1) (g := mkF m pc Ls (.ref a :: st)) rfl rfl (hb hC.2.2.2.1 hd) t (by rw [sizeOf r]; exact q)⟩) nxt
theorem Run.iaload {a : Addr} {vs : List Value} {j : Int32} {i : Nat} {v : Value} (hd : decode code pc = .ok (.iaload, 1)) (A : Ary Z h a .int vs) (hj : j.toInt = (i : Int)) (hv : vs[i]? = some v) (hp : pc + 1 = pc') (nxt : Run l Z n0 own code maxL ret nm R Q pc' Ls (v :: st) h k n) : Run l Z n0 own code maxL ret nm R Q pc Ls (.int j :: .ref a :: st) h k n := by
  subst hp
  obtain ⟨c0, A, r⟩ := A
  obtain ⟨hin, e0⟩ := idxIn (c := c0) hj (by rw [sizeOf r]; exact (List.getElem?_eq_some_iff.mp hv).1)
  exact Run.via (fun p e s m args below meth c T locs cells slots hC X eT => ⟨T, X, eT, fun t q => X.iaload hC.1 (by rw [eT]; exact A.1) (State.isArrayOf_alike hC.2.1.alike A.2.1) A.2.2 hin (by rw [e0]; exact getOf r hv) (g := mkF m pc Ls (.int j :: .ref a :: st)) rfl rfl (hb hC.2.2.2.1 hd) t q⟩) nxt
theorem Run.laload {a : Addr} {vs : List Value} {j : Int32} {i : Nat} {v : Value} (hd : decode code pc = .ok (.laload, 1)) (A : Ary Z h a .long vs) (hj : j.toInt = (i : Int)) (hv : vs[i]? = some v) (hp : pc + 1 = pc') (nxt : Run l Z n0 own code maxL ret nm R Q pc' Ls (v :: st) h k n) : Run l Z n0 own code maxL ret nm R Q pc Ls (.int j :: .ref a :: st) h k n := by
  subst hp
  obtain ⟨c0, A, r⟩ := A
  obtain ⟨hin, e0⟩ := idxIn (c := c0) hj (by rw [sizeOf r]; exact (List.getElem?_eq_some_iff.mp hv).1)
  exact Run.via (fun p e s m args below meth c T locs cells slots hC X eT => ⟨T, X, eT, fun t q => X.laload hC.1 (by rw [eT]; exact A.1) (State.isArrayOf_alike hC.2.1.alike A.2.1) A.2.2 hin (by rw [e0]; exact getOf r hv) (g := mkF m pc Ls (.int j :: .ref a :: st)) rfl rfl (hb hC.2.2.2.1 hd) t q⟩) nxt
theorem Run.caload {a : Addr} {vs : List Value} {j : Int32} {i : Nat} {v : Value} (hd : decode code pc = .ok (.caload, 1)) (A : Ary Z h a .char vs) (hj : j.toInt = (i : Int)) (hv : vs[i]? = some v) (hp : pc + 1 = pc') (nxt : Run l Z n0 own code maxL ret nm R Q pc' Ls (v :: st) h k n) : Run l Z n0 own code maxL ret nm R Q pc Ls (.int j :: .ref a :: st) h k n := by
  subst hp
  obtain ⟨c0, A, r⟩ := A
  obtain ⟨hin, e0⟩ := idxIn (c := c0) hj (by rw [sizeOf r]; exact (List.getElem?_eq_some_iff.mp hv).1)
  exact Run.via (fun p e s m args below meth c T locs cells slots hC X eT => ⟨T, X, eT, fun t q => X.caload hC.1 (by rw [eT]; exact A.1) (State.isArrayOf_alike hC.2.1.alike A.2.1) A.2.2 hin (by rw [e0]; exact getOf r hv) (g := mkF m pc Ls (.int j :: .ref a :: st)) rfl rfl (hb hC.2.2.2.1 hd) t q⟩) nxt
theorem Run.saload {a : Addr} {vs : List Value} {j : Int32} {i : Nat} {v : Value} (hd : decode code pc = .ok (.saload, 1)) (A : Ary Z h a .short vs) (hj : j.toInt = (i : Int)) (hv : vs[i]? = some v) (hp : pc + 1 = pc') (nxt : Run l Z n0 own code maxL ret nm R Q pc' Ls (v :: st) h k n) : Run l Z n0 own code maxL ret nm R Q pc Ls (.int j :: .ref a :: st) h k n := by
  subst hp
  obtain ⟨c0, A, r⟩ := A
  obtain ⟨hin, e0⟩ := idxIn (c := c0) hj (by rw [sizeOf r]; exact (List.getElem?_eq_some_iff.mp hv).1)
  exact Run.via (fun p e s m args below meth c T locs cells slots hC X eT => ⟨T, X, eT, fun t q => X.saload hC.1 (by rw [eT]; exact A.1) (State.isArrayOf_alike hC.2.1.alike A.2.1) A.2.2 hin (by rw [e0]; exact getOf r hv) (g := mkF m pc Ls (.int j :: .ref a :: st)) rfl rfl (hb hC.2.2.2.1 hd) t q⟩) nxt
theorem Run.baload {a : Addr} {vs : List Value} {j : Int32} {i : Nat} {v : Value} (hd : decode code pc = .ok (.baload, 1)) (A : Ary Z h a .byte vs) (hj : j.toInt = (i : Int)) (hv : vs[i]? = some v) (hp : pc + 1 = pc') (nxt : Run l Z n0 own code maxL ret nm R Q pc' Ls (v :: st) h k n) : Run l Z n0 own code maxL ret nm R Q pc Ls (.int j :: .ref a :: st) h k n := by
  subst hp
  obtain ⟨c0, A, r⟩ := A
  obtain ⟨hin, e0⟩ := idxIn (c := c0) hj (by rw [sizeOf r]; exact (List.getElem?_eq_some_iff.mp hv).1)
  exact Run.via (fun p e s m args below meth c T locs cells slots hC X eT => ⟨T, X, eT, fun t q => X.baloadBytes hC.1 (by rw [eT]; exact A.1) (State.isArrayOf_alike hC.2.1.alike A.2.1) A.2.2 hin (by rw [e0]; exact getOf r hv) (g := mkF m pc Ls (.int j :: .ref a :: st)) rfl rfl (hb hC.2.2.2.1 hd) t q⟩) nxt
theorem Run.aaload {a : Addr} {vs : List Value} {j : Int32} {i : Nat} {v : Value} {ty : FieldType} (hd : decode code pc = .ok (.aaload, 1)) (A : Ary Z h a ty vs) (hty : ty.isReference = true) (hj : j.toInt = (i : Int)) (hv : vs[i]? = some v) (hp : pc + 1 = pc') (nxt : Run l Z n0 own code maxL ret nm R Q pc' Ls (v :: st) h k n) : Run l Z n0 own code maxL ret nm R Q pc Ls (.int j :: .ref a :: st) h k n := by
  subst hp
  obtain ⟨c0, A, r⟩ := A
  obtain ⟨hin, e0⟩ := idxIn (c := c0) hj (by rw [sizeOf r]; exact (List.getElem?_eq_some_iff.mp hv).1)
  exact Run.via (fun p e s m args below meth c T locs cells slots hC X eT => ⟨T, X, eT, fun t q => X.aaload hC.1 (by rw [eT]; exact A.1) (State.isArrayOf_alike hC.2.1.alike A.2.1) hty A.2.2 hin (by rw [e0]; exact getOf r hv) (g := mkF m pc Ls (.int j :: .ref a :: st)) rfl rfl (hb hC.2.2.2.1 hd) t q⟩) nxt
theorem Run.iastore {a : Addr} {vs : List Value} {j : Int32} {i : Nat} {x : Int32} (hd : decode code pc = .ok (.iastore, 1)) (A : Ary Z h a .int vs) (hj : j.toInt = (i : Int)) (hi : i < vs.length) (ha : n0 ≤ a) (hp : pc + 1 = pc') (nxt : ∀ h', Wr h h' a i (.int x) → Ary Z h' a .int (vs.set i (.int x)) → Run l Z n0 own code maxL ret nm R Q pc' Ls st h' k n) : Run l Z n0 own code maxL ret nm R Q pc Ls (.int x :: .int j :: .ref a :: st) h k n := by
  subst hp
  have A' := A
  obtain ⟨c0, A, r⟩ := A
  obtain ⟨hin, e0⟩ := idxIn (c := c0) hj (by rw [sizeOf r]; exact hi)
  refine Run.wr (fun p e s m args below meth c T locs cells slots hC X eT => ?_) ha (fun h' W => nxt h' W (A'.set W))
  have q := stI X hC.1 hC.2.1 eT A hin (g := mkF m pc Ls (.int x :: .int j :: .ref a :: st)) rfl rfl (hb hC.2.2.2.1 hd)
  rw [e0] at q
  exact q
theorem Run.lastore {a : Addr} {vs : List Value} {j : Int32} {i : Nat} {x : Int64} (hd : decode code pc = .ok (.lastore, 1)) (A : Ary Z h a .long vs) (hj : j.toInt = (i : Int)) (hi : i < vs.length) (ha : n0 ≤ a) (hp : pc + 1 = pc') (nxt : ∀ h', Wr h h' a i (.long x) → Ary Z h' a .long (vs.set i (.long x)) → Run l Z n0 own code maxL ret nm R Q pc' Ls st h' k n) : Run l Z n0 own code maxL ret nm R Q pc Ls (.long x :: .int j :: .ref a :: st) h k n := by
  subst hp
  have A' := A
  obtain ⟨c0, A, r⟩ := A
  obtain ⟨hin, e0⟩ := idxIn (c := c0) hj (by rw [sizeOf r]; exact hi)
  refine Run.wr (fun p e s m args below meth c T locs cells slots hC X eT => ?_) ha (fun h' W => nxt h' W (A'.set W))
  have q := stJ X hC.1 hC.2.1 eT A hin (g := mkF m pc Ls (.long x :: .int j :: .ref a :: st)) rfl rfl (hb hC.2.2.2.1 hd)
  rw [e0] at q
  exact q
theorem Run.castore {a : Addr} {vs : List Value} {j : Int32} {i : Nat} {x : Int32} (hd : decode code pc = .ok (.castore, 1)) (A : Ary Z h a .char vs) (hj : j.toInt = (i : Int)) (hi : i < vs.length) (ha : n0 ≤ a) (hp : pc + 1 = pc') (nxt : ∀ h', Wr h h' a i (.int (nar .char x)) → Ary Z h' a .char (vs.set i (.int (nar .char x))) → Run l Z n0 own code maxL ret nm R Q pc' Ls st h' k n) : Run l Z n0 own code maxL ret nm R Q pc Ls (.int x :: .int j :: .ref a :: st) h k n := by
  subst hp
  have A' := A
  obtain ⟨c0, A, r⟩ := A
  obtain ⟨hin, e0⟩ := idxIn (c := c0) hj (by rw [sizeOf r]; exact hi)
  refine Run.wr (fun p e s m args below meth c T locs cells slots hC X eT => ?_) ha (fun h' W => nxt h' W (A'.set W))
  have q := stC X hC.1 hC.2.1 eT A hin (g := mkF m pc Ls (.int x :: .int j :: .ref a :: st)) rfl rfl (hb hC.2.2.2.1 hd)
  rw [e0] at q
  exact q
theorem Run.sastore {a : Addr} {vs : List Value} {j : Int32} {i : Nat} {x : Int32} (hd : decode code pc = .ok (.sastore, 1)) (A : Ary Z h a .short vs) (hj : j.toInt = (i : Int)) (hi : i < vs.length) (ha : n0 ≤ a) (hp : pc + 1 = pc') (nxt : ∀ h', Wr h h' a i (.int (nar .short x)) → Ary Z h' a .short (vs.set i (.int (nar .short x))) → Run l Z n0 own code maxL ret nm R Q pc' Ls st h' k n) : Run l Z n0 own code maxL ret nm R Q pc Ls (.int x :: .int j :: .ref a :: st) h k n := by
  subst hp
  have A' := A
  obtain ⟨c0, A, r⟩ := A
  obtain ⟨hin, e0⟩ := idxIn (c := c0) hj (by rw [sizeOf r]; exact hi)
  refine Run.wr (fun p e s m args below meth c T locs cells slots hC X eT => ?_) ha (fun h' W => nxt h' W (A'.set W))
  have q := stS X hC.1 hC.2.1 eT A hin (g := mkF m pc Ls (.int x :: .int j :: .ref a :: st)) rfl rfl (hb hC.2.2.2.1 hd)
  rw [e0] at q
  exact q
theorem Run.bastore {a : Addr} {vs : List Value} {j : Int32} {i : Nat} {x : Int32} (hd : decode code pc = .ok (.bastore, 1)) (A : Ary Z h a .byte vs) (hj : j.toInt = (i : Int)) (hi : i < vs.length) (ha : n0 ≤ a) (hp : pc + 1 = pc') (nxt : ∀ h', Wr h h' a i (.int (nar .byte x)) → Ary Z h' a .byte (vs.set i (.int (nar .byte x))) → Run l Z n0 own code maxL ret nm R Q pc' Ls st h' k n) : Run l Z n0 own code maxL ret nm R Q pc Ls (.int x :: .int j :: .ref a :: st) h k n := by
  subst hp
  have A' := A
  obtain ⟨c0, A, r⟩ := A
  obtain ⟨hin, e0⟩ := idxIn (c := c0) hj (by rw [sizeOf r]; exact hi)
  refine Run.wr (fun p e s m args below meth c T locs cells slots hC X eT => ?_) ha (fun h' W => nxt h' W (A'.set W))
  have q := stB X hC.1 hC.2.1 eT A hin (g := mkF m pc Ls (.int x :: .int j :: .ref a :: st)) rfl rfl (hb hC.2.2.2.1 hd)
  rw [e0] at q
  exact q
theorem Run.newP {a0 : Array Value} {aty : ArrayType} {ty : FieldType} {z : Int32} {cap m : Nat} {dv : Value} (hd : decode code pc = .ok (.newarray aty, 2)) (hty : newarray.typeOf aty = ty) (w : (Cond.arrayClass ty).before a0 Z = true) (hz : ¬ z < 0) (hcap : z.toNatClampNeg = m) (hm : m ≤ cap) (hdv : defaultValue ty = dv) (hcb : cap * 8 ≤ 536870912)
    (hk : k + 1 ≤ k') (hk' : k' ≤ R.cells) (hn : n + cap ≤ n') (hn' : n' ≤ R.slots) (hp : pc + 2 = pc')
    (nxt : ∀ h' a, a = h.size → Ext h h' → Ary Z h' a ty (List.replicate m dv) → Run l Z n0 own code maxL ret nm R Q pc' Ls (.ref a :: st) h' k' n') : Run l Z n0 own code maxL ret nm R Q pc Ls (.int z :: st) h k n := by
  subst hp hty hdv
  intro p e s m args below meth c T locs cells slots hC X eT hF hkk hnn
  obtain ⟨T', h', cA, X', e', E, A, stp⟩ := newP X hC.1 hC.2.1 w eT (g := mkF m pc Ls (.int z :: st)) rfl (hb hC.2.2.2.1 hd) rfl hz (by omega) hcb (by omega) (by omega)
  obtain ⟨s₂, v, L, g1, g2⟩ := nxt h' h.size rfl E ⟨_, A, by simp [newA, hcap]⟩ p e s m args below meth c T' locs _ _ hC X' e' hF (by omega) (by omega)
  exact ⟨s₂, v, L, stp _ g1, g2⟩
theorem Ary.toArv {h : Heap} {a : Addr} {ty : FieldType} {vs : List Value} {z : Int32} (dv : Value) (F : Ary Z h a ty vs) (hz : z.toInt = (vs.length : Int)) (hf : ∀ v ∈ vs, fits ty v = true) : ∃ kc, Arv Z h a kc ty z vs dv := by
  obtain ⟨c, A, r⟩ := F
  have hsz := sizeOf r
  have e : z.toNatClampNeg = vs.length := by have : z.toNatClampNeg = z.toInt.toNat := rfl; rw [this, hz]; rfl
  refine ⟨c.cls, c, A, rfl, by rw [e, hsz], ?_, fun j hj => ?_, fun j hj => ?_⟩
  · rw [Int32.lt_iff_toInt_lt, hz]; have : (0 : Int32).toInt = 0 := rfl; omega
  · have hj' : j < vs.length := by omega
    rw [getOf r (List.getElem?_eq_getElem hj')]
    simp [List.getD_eq_getElem?_getD, List.getElem?_eq_getElem hj']
  · have hj' : j < vs.length := by omega
    have q := hf _ (List.getElem_mem hj')
    simpa [List.getD_eq_getElem?_getD, List.getElem?_eq_getElem hj'] using q
theorem Ary.ofArv {h : Heap} {a : Addr} {ty : FieldType} {vs : List Value} {z : Int32} {dv : Value} {kc : ClassId} (F : Arv Z h a kc ty z vs dv) (hz : z.toInt = (vs.length : Int)) : Ary Z h a ty vs := by
  obtain ⟨c, A, -, S, -, H, -⟩ := F
  have e : z.toNatClampNeg = vs.length := by have : z.toNatClampNeg = z.toInt.toNat := rfl; rw [this, hz]; rfl
  refine ⟨c, A, List.ext_getElem? fun j => ?_⟩
  by_cases hj : j < vs.length
  · have q := H j (by omega)
    rw [Array.getElem?_toList, q]
    simp [List.getD_eq_getElem?_getD, List.getElem?_eq_getElem hj]
  · rw [List.getElem?_eq_none (l := c.slots.toList) (by rw [Array.length_toList]; omega), List.getElem?_eq_none (l := vs) (by omega)]
/-- System.arraycopy(a, 0, b, 0, a.length) of plain components -/
theorem Run.acopy {a0 : Array Value} {i : Nat} {a b : Addr} {ty : FieldType} {vs us : List Value} {z z' : Int32} (hd : decode code pc = .ok (.invokestatic i, 3)) (w1 : (Cond.methodLink own i Jvm.Stand.acN).before a0 Z = true) (w2 : (Cond.native Jvm.Stand.acN).before a0 Z = true) (w3 : (Cond.static Jvm.Stand.acN).before a0 Z = true) (w4 : (Cond.initialized "java/lang/System").before a0 Z = true)
    (A : Ary Z h a ty vs) (B : Ary Z h b ty us) (hk : refKind ty = false) (hz : z.toInt = (vs.length : Int)) (hz' : z'.toInt = (us.length : Int)) (hle : vs.length ≤ us.length) (fa : ∀ v ∈ vs, fits ty v = true) (fb : ∀ v ∈ us, fits ty v = true) (ge : n0 ≤ b)
    (hsz : Ls.size = maxL) (hf : 1 ≤ R.frames) (hl : (st.map fun v => v.category).sum + (nativeFrameWords "java/lang/System" "arraycopy" 5 + 11) ≤ R.locals) (hp : pc + 3 = pc')
    (nxt : ∀ h', Keep h h' [b] → Ary Z h' b ty (vs ++ us.drop vs.length) → Run l Z n0 own code maxL ret nm R Q pc' Ls st h' k n) : Run l Z n0 own code maxL ret nm R Q pc Ls (.int z :: .int 0 :: .ref b :: .int 0 :: .ref a :: st) h k n := by
  subst hp
  intro p e s m args below meth c T locs cells slots hC X eT hF hkk hnn
  obtain ⟨k1, A1⟩ := A.toArv (z := z) .null hz fa
  obtain ⟨k2, B1⟩ := B.toArv (z := z') .null hz' fb
  have e1 : z.toNatClampNeg = vs.length := by have : z.toNatClampNeg = z.toInt.toNat := rfl; rw [this, hz]; rfl
  have e2 : z'.toNatClampNeg = us.length := by have : z'.toNatClampNeg = z'.toInt.toNat := rfl; rw [this, hz']; rfl
  have e0 : (0 : Int32).toNatClampNeg = 0 := rfl
  have n1 : ¬ z < 0 := by rw [Int32.lt_iff_toInt_lt, hz]; have : (0 : Int32).toInt = 0 := rfl; omega
  have hus : vs = (List.range z.toNatClampNeg).map fun j => vs.getD ((0 : Int32).toNatClampNeg + j) .null := by
    rw [e1, e0]
    apply List.ext_getElem?
    intro j
    by_cases hj : j < vs.length
    · simp [hj, List.getD_eq_getElem?_getD]
    · rw [List.getElem?_eq_none (by omega), List.getElem?_eq_none (by simp; omega)]
  obtain ⟨T', h', L, X', e', N', K, B', stp⟩ := cpA X hC.1 hC.2.1 hC.2.2.1 w1 w2 w3 w4 eT A1 B1 (Or.inl ⟨rfl, hk⟩) (by decide) (by decide) n1 (by rw [e0]; omega) (by rw [e0]; omega) hus (by rw [e0]; omega) hF ge (g := mkF m pc Ls (.int z :: .int 0 :: .ref b :: .int 0 :: .ref a :: st)) rfl (hsz.trans hC.2.2.2.2.1.symm) rfl (hb hC.2.2.2.1 hd) hf (W := (st.map fun v => v.category).sum) (by show 2 * 0 + _ ≤ _; omega) hl
  have hB : Ary Z h' b ty (vs ++ us.drop vs.length) := by
    have q : us.take (0 : Int32).toNatClampNeg ++ vs ++ us.drop ((0 : Int32).toNatClampNeg + z.toNatClampNeg) = vs ++ us.drop vs.length := by rw [e0, e1]; simp
    rw [q] at B'
    exact Ary.ofArv B' (by rw [hz']; simp; omega)
  obtain ⟨s₂, v, L2, g1, g2⟩ := nxt h' K hB p e s m args below meth c T' L cells slots hC X' e' N' hkk hnn
  exact ⟨s₂, v, L2, stp _ g1, g2⟩
/-- System.arraycopy of a part -/
theorem Run.acopyG {a0 : Array Value} {ix i j m : Nat} {a b : Addr} {ty : FieldType} {vs us : List Value} {z z1 z' sp dp : Int32} (hd : decode code pc = .ok (.invokestatic ix, 3)) (w1 : (Cond.methodLink own ix Jvm.Stand.acN).before a0 Z = true) (w2 : (Cond.native Jvm.Stand.acN).before a0 Z = true) (w3 : (Cond.static Jvm.Stand.acN).before a0 Z = true) (w4 : (Cond.initialized "java/lang/System").before a0 Z = true)
    (A : Ary Z h a ty vs) (B : Ary Z h b ty us) (hk : refKind ty = false) (hz1 : z1.toInt = (vs.length : Int)) (hz' : z'.toInt = (us.length : Int)) (hz : z.toInt = (m : Int)) (hsp : sp.toInt = (i : Int)) (hdp : dp.toInt = (j : Int)) (hle : i + m ≤ vs.length) (hle' : j + m ≤ us.length) (fa : ∀ v ∈ vs, fits ty v = true) (fb : ∀ v ∈ us, fits ty v = true) (ge : n0 ≤ b)
    (hsz : Ls.size = maxL) (hf : 1 ≤ R.frames) (hl : (st.map fun v => v.category).sum + (nativeFrameWords "java/lang/System" "arraycopy" 5 + 11) ≤ R.locals) (hp : pc + 3 = pc')
    (nxt : ∀ h', Keep h h' [b] → Ary Z h' b ty (us.take j ++ (vs.drop i).take m ++ us.drop (j + m)) → Run l Z n0 own code maxL ret nm R Q pc' Ls st h' k n) : Run l Z n0 own code maxL ret nm R Q pc Ls (.int z :: .int dp :: .ref b :: .int sp :: .ref a :: st) h k n := by
  subst hp
  intro p e s m' args below meth c T locs cells slots hC X eT hF hkk hnn
  obtain ⟨k1, A1⟩ := A.toArv (z := z1) .null hz1 fa
  obtain ⟨k2, B1⟩ := B.toArv (z := z') .null hz' fb
  have cl : ∀ {x : Int32} {q : Nat}, x.toInt = (q : Int) → x.toNatClampNeg = q ∧ ¬ x < 0 := fun {x q} hx => ⟨by have : x.toNatClampNeg = x.toInt.toNat := rfl; rw [this, hx]; rfl, by rw [Int32.lt_iff_toInt_lt, hx]; have : (0 : Int32).toInt = 0 := rfl; omega⟩
  have e0 := cl hz; have e1 := cl hz1; have e2 := cl hz'; have e3 := cl hsp; have e4 := cl hdp
  have hus : (vs.drop i).take m = (List.range z.toNatClampNeg).map fun q => vs.getD (sp.toNatClampNeg + q) .null := by
    rw [e0.1, e3.1]
    apply List.ext_getElem?
    intro q
    by_cases hj : q < m
    · rw [List.getElem?_take_of_lt hj, List.getElem?_drop]; simp [hj, List.getD_eq_getElem?_getD, show i + q < vs.length by omega]
    · rw [List.getElem?_eq_none (by simp; omega), List.getElem?_eq_none (by simp; omega)]
  obtain ⟨T', h', L, X', e', N', K, B', stp⟩ := cpA X hC.1 hC.2.1 hC.2.2.1 w1 w2 w3 w4 eT A1 B1 (Or.inl ⟨rfl, hk⟩) e3.2 e4.2 e0.2 (by rw [e0.1, e1.1, e3.1]; exact hle) (by rw [e0.1, e2.1, e4.1]; exact hle') hus (by rw [e0.1, e4.1]; exact hle') hF ge (g := mkF m' pc Ls (.int z :: .int dp :: .ref b :: .int sp :: .ref a :: st)) rfl (hsz.trans hC.2.2.2.2.1.symm) rfl (hb hC.2.2.2.1 hd) hf (W := (st.map fun v => v.category).sum) (by show 2 * 0 + _ ≤ _; omega) hl
  rw [e4.1, e0.1] at B'
  have hB := Ary.ofArv B' (by rw [hz']; simp; omega)
  obtain ⟨s₂, v, L2, g1, g2⟩ := nxt h' K hB p e s m' args below meth c T' L cells slots hC X' e' N' hkk hnn
  exact ⟨s₂, v, L2, stp _ g1, g2⟩
/-- clone of an array -/
theorem Run.aclone {a0 : Array Value} {i cap : Nat} {a : Addr} {ty : FieldType} {cl : Cell} {ad : String} (hd : decode code pc = .ok (.invokevirtual i, 3)) (w1 : (Cond.methodLink own i ⟨ad, "clone", "()Ljava/lang/Object;"⟩).before a0 Z = true) (w2 : (Cond.sameMethod ad "java/lang/Object" "clone" "()Ljava/lang/Object;").before a0 Z = true) (w3 : (Cond.native ⟨"java/lang/Object", "clone", "()Ljava/lang/Object;"⟩).before a0 Z = true)
    (w4 : (Cond.instanceMethod ⟨"java/lang/Object", "clone", "()Ljava/lang/Object;"⟩).before a0 Z = true) (w5 : (Cond.selects ad ⟨ad, "clone", "()Ljava/lang/Object;"⟩ ⟨"java/lang/Object", "clone", "()Ljava/lang/Object;"⟩).before a0 Z = true) (w6 : (Cond.castable ad "java/lang/Cloneable").before a0 Z = true)
    (A : Arr Z h a cl ty) (E : Exa Z h a ad) (F : FitC Z cl) (hsz : Ls.size = maxL) (hf : 1 ≤ R.frames) (hl : (st.map fun v => v.category).sum + 14 ≤ R.locals) (hcap : cl.slots.size ≤ cap) (hk : k + 1 ≤ k') (hk' : k' ≤ R.cells) (hn : n + cap ≤ n') (hn' : n' ≤ R.slots) (hp : pc + 3 = pc')
    (nxt : ∀ h' b, b = h.size → Ext h h' → Ary Z h' b ty cl.slots.toList → Exa Z h' b ad → Run l Z n0 own code maxL ret nm R Q pc' Ls (.ref b :: st) h' k' n') : Run l Z n0 own code maxL ret nm R Q pc Ls (.ref a :: st) h k n := by
  subst hp
  intro p e s m args below meth c T locs cells slots hC X eT hF hkk hnn
  obtain ⟨T', h', X', e', E', A', X2, stp⟩ := cloneA X hC.1 hC.2.1 hC.2.2.1 w1 w2 w3 w4 w5 w6 eT A E F (g := mkF m pc Ls (.ref a :: st)) rfl (hsz.trans hC.2.2.2.2.1.symm) rfl (hb hC.2.2.2.1 hd) hf (W := (st.map fun v => v.category).sum) (by show 2 * 0 + _ ≤ _; omega) hl hcap (by omega) (by omega)
  obtain ⟨s₂, v, L, g1, g2⟩ := nxt h' h.size rfl E' ⟨_, A', rfl⟩ X2 p e s m args below meth c T' locs _ _ hC X' e' hF (by omega) (by omega)
  exact ⟨s₂, v, L, stp _ g1, g2⟩
end Walk
end Jvm.GoKit
namespace Jvm.GoKit
open Sem ClassFile Op Lib Jvm.Stand Jvm.Free Jvm.LawKit Jvm.RoadKit
/-! the wide twin: walks that may load String constants cold; vm: the tables as they stand but for what is warmed narrowly -/
def GoW (p : Program) (e : Env) (below : List Frame) (Z s : State) (EL : List (String × Nat)) (n0 K N : Nat) (Q : Option Value → Heap → Prop) (S : State) : Prop :=
  ∃ s₂ v L, Steps p.tables e below S s₂ ∧ s₂.status = .running ∧ Ended s₂ below (.returned v) ∧ (Q v s₂.heap ∧ Fr n0 L) ∧ CHr Z EL s.vm s.heap s₂.vm s₂.heap ∧ ReturnedEndW s (.returned v) s₂ L K N
def RunW (l : Launch) (Z : State) (EL : List (String × Nat)) (n0 : Nat) (own : String) (code : ByteArray) (maxL : Nat) (ret : Option FieldType) (nm : String) (R : Room) (Q : Option Value → Heap → Prop) (pc : Nat) (Ls : Array Slot) (st : List Value) (h : Heap) (vm : Vm) (k n : Nat) : Prop :=
  ∀ (p : Program) (e : Env) (s : State) (m : MethodId) (args : Array Value) (below : List Frame) (meth : Method) (c : Code) (T : State) (locs : List Loc) (cells slots k0 : Nat),
    Ctx Z own code maxL ret nm p (s.setVm vm) m meth c → Stand p l e R (s.setVm vm) m args below meth c T locs cells slots → s.Since vm k0 → k0 ≤ h.size → CHr Z EL s.vm s.heap vm h → (∃ a0, EW Z a0 EL) → T.heap = h → Fr n0 locs → cells ≤ k → slots ≤ n →
    GoW p e below Z s EL n0 R.cells R.slots Q (T.setTop (mkF m pc Ls st))
def ConW (l : Launch) (Z : State) (EL : List (String × Nat)) (n0 : Nat) (y : MethodName) (bytes : ByteArray) (maxL : Nat) (ret : Option FieldType) (rm : Room) (as : Array Value) (h : Heap) (sf : List Addr) (Q : Option Value → Heap → Prop) : Prop :=
  ∀ ws, MetFree l y (head1 (Cond.code y bytes maxL ret :: ws) rm) (fun a U => a = as ∧ Z.Warmed39 U.vm ∧ U.heap = h ∧ CHv Z EL U.vm h ∧ ∀ x ∈ sf, Safe Z EL U.vm h x) (fun _ _ _ _ _ => True) (fun _ U o U' => ∃ v L, o = .returned v ∧ (Q v U'.heap ∧ Fr n0 L) ∧ CHr Z EL U.vm U.heap U'.vm U'.heap ∧ ReturnedEndW U o U' L rm.cells rm.slots)
theorem since_refl (s : State) : s.Since s.vm s.heap.size := ⟨State.Warmed39.refl s, fun j p hj hp => absurd (Array.getElem?_eq_some_iff.mp hp).1 (Nat.not_lt.mpr hj)⟩
theorem setVm_self (s : State) : s.setVm s.vm = s := rfl
section WalkW
variable {l : Launch} {Z : State} {EL : List (String × Nat)} {n0 : Nat} {own : String} {code : ByteArray} {maxL : Nat} {ret : Option FieldType} {nm : String} {R : Room} {Q : Option Value → Heap → Prop} {pc pc' : Nat} {Ls : Array Slot} {st : List Value} {h : Heap} {vm : Vm} {k n k' n' : Nat}
theorem ConW.of_run {y : MethodName} {bytes : ByteArray} {rm : Room} {as : Array Value} {sf : List Addr} {a0 : Array Value} (hEL : EW Z a0 EL)
    (hp : plainFor y = true) (he : ∀ m, entryFrame m as maxL = mkF m 0 Ls []) (run : ∀ vm, Z.vm.Alike vm → (∀ x ∈ sf, Safe Z EL vm h x) → RunW l Z EL n0 y.cls bytes maxL ret y.name rm Q 0 Ls [] h vm 0 0) : ConW l Z EL n0 y bytes maxL ret rm as h sf Q := by
  intro ws
  refine MetFree.of_bodySF hp hisR ?_
  intro p e s m args below meth c s₁ Bd hml0 hP hK
  obtain ⟨rfl, hZ, hh, hC, hsf⟩ := hP
  have hh2 : s₁.heap = h := by rw [← hh, Bd.state]; rfl
  obtain ⟨s₂, v, L, h1, h2, h3, h4, h5, h6⟩ := run s.vm hZ.alike hsf p e s m _ below meth c s₁ [] 0 0 s.heap.size ⟨Bd.exec, hZ, findClass_of_methodNamed Bd.named, Bd.bytes, hml0, Bd.returns, Bd.notSynchronized, (name_of_methodNamed Bd.named Bd.method).1⟩ (Stand.of_body Bd) (since_refl s) (by rw [hh]; exact Nat.le_refl _) (by rw [hh]; exact CHr.refl hC) ⟨a0, hEL⟩ hh2 (Fr.nil _) (Nat.zero_le _) (Nat.zero_le _)
  exact ⟨s₂, _, castTop (he m) h1, h2, h3, v, L, rfl, h4, h5, h6⟩
theorem RunW.via {Ls' : Array Slot} {st' : List Value} (f : ∀ (p : Program) (e : Env) (s : State) (m : MethodId) (args : Array Value) (below : List Frame) (meth : Method) (c : Code) (T : State) (locs : List Loc) (cells slots : Nat),
      Ctx Z own code maxL ret nm p s m meth c → Stand p l e R s m args below meth c T locs cells slots → T.heap = h → ∃ T', Stand p l e R s m args below meth c T' locs cells slots ∧ T'.heap = h ∧ ∀ t, Steps p.tables e below (T'.setTop (mkF m pc' Ls' st')) t → Steps p.tables e below (T.setTop (mkF m pc Ls st)) t)
    (nxt : RunW l Z EL n0 own code maxL ret nm R Q pc' Ls' st' h vm k n) : RunW l Z EL n0 own code maxL ret nm R Q pc Ls st h vm k n := by
  intro p e s m args below meth c T locs cells slots k0 hC X hS hk0 hR hE eT hF hk hn
  obtain ⟨T', X', e', stp⟩ := f p e (s.setVm vm) m args below meth c T locs cells slots hC X eT
  obtain ⟨s₂, v, L, g1, g2⟩ := nxt p e s m args below meth c T' locs cells slots k0 hC X' hS hk0 hR hE e' hF hk hn
  exact ⟨s₂, v, L, stp _ g1, g2⟩
theorem RunW.stp {Ls' : Array Slot} {st' : List Value} (f : ∀ (p : Program) (e : Env) (below : List Frame) (T : State) (m : MethodId) (c : Code) (t : State), At T m c below → p.tables.exec = Jvm.exec → c.code = code → Steps p.tables e below (T.setTop (mkF m pc' Ls' st')) t → Steps p.tables e below (T.setTop (mkF m pc Ls st)) t)
    (nxt : RunW l Z EL n0 own code maxL ret nm R Q pc' Ls' st' h vm k n) : RunW l Z EL n0 own code maxL ret nm R Q pc Ls st h vm k n :=
  RunW.via (fun p e s m args below meth c T locs cells slots hC X eT => ⟨T, X, eT, fun t q => f p e below T m c t X.here hC.1 hC.2.2.2.1 q⟩) nxt
theorem RunW.more {ka na : Nat} (nxt : RunW l Z EL n0 own code maxL ret nm R Q pc Ls st h vm k n) (h1 : ka ≤ k) (h2 : na ≤ n) : RunW l Z EL n0 own code maxL ret nm R Q pc Ls st h vm ka na :=
  fun p e s m args below meth c T locs cells slots k0 hC X hS hk0 hR hE eT hF hk hn => nxt p e s m args below meth c T locs cells slots k0 hC X hS hk0 hR hE eT hF (Nat.le_trans hk h1) (Nat.le_trans hn h2)
theorem RunW.alike (f : Z.vm.Alike vm → RunW l Z EL n0 own code maxL ret nm R Q pc Ls st h vm k n) : RunW l Z EL n0 own code maxL ret nm R Q pc Ls st h vm k n :=
  fun p e s m args below meth c T locs cells slots k0 hC X hS hk0 hR hE eT hF hk hn => f hC.2.1.alike p e s m args below meth c T locs cells slots k0 hC X hS hk0 hR hE eT hF hk hn

theorem RunW.iloadN {x : Fin 4} {v : Int32} (hd : decode code pc = .ok (.iload_n x, 1)) (hl : Ls[x.val]? = some (.val (.int v))) (hp : pc + 1 = pc') (nxt : RunW l Z EL n0 own code maxL ret nm R Q pc' Ls (.int v :: st) h vm k n) : RunW l Z EL n0 own code maxL ret nm R Q pc Ls st h vm k n := by
  subst hp
  exact RunW.stp (fun p e below T m c t hA hx hc q => XS.iloadN hA hx rfl (hb hc hd) hl q) nxt
theorem RunW.iload {x : Nat} {v : Int32} (hd : decode code pc = .ok (.iload x, 2)) (hl : Ls[x]? = some (.val (.int v))) (hp : pc + 2 = pc') (nxt : RunW l Z EL n0 own code maxL ret nm R Q pc' Ls (.int v :: st) h vm k n) : RunW l Z EL n0 own code maxL ret nm R Q pc Ls st h vm k n := by
  subst hp
  exact RunW.stp (fun p e below T m c t hA hx hc q => XS.iload hA hx rfl (hb hc hd) hl q) nxt
theorem RunW.lloadN {x : Fin 4} {v : Int64} (hd : decode code pc = .ok (.lload_n x, 1)) (hl : Ls[x.val]? = some (.val (.long v))) (hp : pc + 1 = pc') (nxt : RunW l Z EL n0 own code maxL ret nm R Q pc' Ls (.long v :: st) h vm k n) : RunW l Z EL n0 own code maxL ret nm R Q pc Ls st h vm k n := by
  subst hp
  exact RunW.stp (fun p e below T m c t hA hx hc q => XT.lloadN hA hx rfl (hb hc hd) hl q) nxt
theorem RunW.lload {x : Nat} {v : Int64} (hd : decode code pc = .ok (.lload x, 2)) (hl : Ls[x]? = some (.val (.long v))) (hp : pc + 2 = pc') (nxt : RunW l Z EL n0 own code maxL ret nm R Q pc' Ls (.long v :: st) h vm k n) : RunW l Z EL n0 own code maxL ret nm R Q pc Ls st h vm k n := by
  subst hp
  exact RunW.stp (fun p e below T m c t hA hx hc q => XT.lload hA hx rfl (hb hc hd) hl q) nxt
theorem RunW.aloadN {x : Fin 4} {v : Value} (hd : decode code pc = .ok (.aload_n x, 1)) (hl : Ls[x.val]? = some (.val v)) (hv : v.isRef = true) (hp : pc + 1 = pc') (nxt : RunW l Z EL n0 own code maxL ret nm R Q pc' Ls (v :: st) h vm k n) : RunW l Z EL n0 own code maxL ret nm R Q pc Ls st h vm k n := by
  subst hp
  exact RunW.stp (fun p e below T m c t hA hx hc q => XS.aloadN hA hx rfl (hb hc hd) hl hv q) nxt
theorem RunW.aload {x : Nat} {v : Value} (hd : decode code pc = .ok (.aload x, 2)) (hl : Ls[x]? = some (.val v)) (hv : v.isRef = true) (hp : pc + 2 = pc') (nxt : RunW l Z EL n0 own code maxL ret nm R Q pc' Ls (v :: st) h vm k n) : RunW l Z EL n0 own code maxL ret nm R Q pc Ls st h vm k n := by
  subst hp
  exact RunW.stp (fun p e below T m c t hA hx hc q => XS.aload hA hx rfl (hb hc hd) hl hv q) nxt
theorem RunW.iconst {i : Int} (v : Int32) (hd : decode code pc = .ok (.iconst i, 1)) (hv : Int32.ofInt i = v) (hp : pc + 1 = pc') (nxt : RunW l Z EL n0 own code maxL ret nm R Q pc' Ls (.int v :: st) h vm k n) : RunW l Z EL n0 own code maxL ret nm R Q pc Ls st h vm k n := by
  subst hp
  exact RunW.stp (fun p e below T m c t hA hx hc q => XT.iconstV hA hx rfl v (hb hc hd) hv q) nxt
theorem RunW.bipush {i : Int} (v : Int32) (hd : decode code pc = .ok (.bipush i, 2)) (hv : (Int8.ofInt i).toInt32 = v) (hp : pc + 2 = pc') (nxt : RunW l Z EL n0 own code maxL ret nm R Q pc' Ls (.int v :: st) h vm k n) : RunW l Z EL n0 own code maxL ret nm R Q pc Ls st h vm k n := by
  subst hp
  exact RunW.stp (fun p e below T m c t hA hx hc q => XT.bipushV hA hx rfl v (hb hc hd) hv q) nxt
theorem RunW.sipush {i : Int} (v : Int32) (hd : decode code pc = .ok (.sipush i, 3)) (hv : (Int16.ofInt i).toInt32 = v) (hp : pc + 3 = pc') (nxt : RunW l Z EL n0 own code maxL ret nm R Q pc' Ls (.int v :: st) h vm k n) : RunW l Z EL n0 own code maxL ret nm R Q pc Ls st h vm k n := by
  subst hp
  exact RunW.stp (fun p e below T m c t hA hx hc q => XT.sipushV hA hx rfl v (hb hc hd) hv q) nxt
theorem RunW.lconst {i : Fin 2} (v : Int64) (hd : decode code pc = .ok (.lconst i, 1)) (hv : Int64.ofNat i = v) (hp : pc + 1 = pc') (nxt : RunW l Z EL n0 own code maxL ret nm R Q pc' Ls (.long v :: st) h vm k n) : RunW l Z EL n0 own code maxL ret nm R Q pc Ls st h vm k n := by
  subst hp
  exact RunW.stp (fun p e below T m c t hA hx hc q => XT.lconstV hA hx rfl v (hb hc hd) hv q) nxt
theorem RunW.aconst  (hd : decode code pc = .ok (.aconst_null, 1))  (hp : pc + 1 = pc') (nxt : RunW l Z EL n0 own code maxL ret nm R Q pc' Ls (.null :: st) h vm k n) : RunW l Z EL n0 own code maxL ret nm R Q pc Ls st h vm k n := by
  subst hp
  exact RunW.stp (fun p e below T m c t hA hx hc q => XS.aconstNull hA hx rfl (hb hc hd) q) nxt
theorem RunW.istoreN {x : Fin 4} {v : Int32} (l' : Array Slot) (hd : decode code pc = .ok (.istore_n x, 1)) (hl : storeLocals Ls x.val (.int v) = some l') (hp : pc + 1 = pc') (nxt : RunW l Z EL n0 own code maxL ret nm R Q pc' l' st h vm k n) : RunW l Z EL n0 own code maxL ret nm R Q pc Ls (.int v :: st) h vm k n := by
  subst hp
  exact RunW.stp (fun p e below T m c t hA hx hc q => XS.istoreN hA hx rfl (hb hc hd) rfl hl q) nxt
theorem RunW.istore {x : Nat} {v : Int32} (l' : Array Slot) (hd : decode code pc = .ok (.istore x, 2)) (hl : storeLocals Ls x (.int v) = some l') (hp : pc + 2 = pc') (nxt : RunW l Z EL n0 own code maxL ret nm R Q pc' l' st h vm k n) : RunW l Z EL n0 own code maxL ret nm R Q pc Ls (.int v :: st) h vm k n := by
  subst hp
  exact RunW.stp (fun p e below T m c t hA hx hc q => XS.istore hA hx rfl (hb hc hd) rfl hl q) nxt
theorem RunW.lstoreN {x : Fin 4} {v : Int64} (l' : Array Slot) (hd : decode code pc = .ok (.lstore_n x, 1)) (hl : storeLocals Ls x.val (.long v) = some l') (hp : pc + 1 = pc') (nxt : RunW l Z EL n0 own code maxL ret nm R Q pc' l' st h vm k n) : RunW l Z EL n0 own code maxL ret nm R Q pc Ls (.long v :: st) h vm k n := by
  subst hp
  exact RunW.stp (fun p e below T m c t hA hx hc q => XT.lstoreN hA hx rfl (hb hc hd) rfl hl q) nxt
theorem RunW.lstore {x : Nat} {v : Int64} (l' : Array Slot) (hd : decode code pc = .ok (.lstore x, 2)) (hl : storeLocals Ls x (.long v) = some l') (hp : pc + 2 = pc') (nxt : RunW l Z EL n0 own code maxL ret nm R Q pc' l' st h vm k n) : RunW l Z EL n0 own code maxL ret nm R Q pc Ls (.long v :: st) h vm k n := by
  subst hp
  exact RunW.stp (fun p e below T m c t hA hx hc q => XT.lstore hA hx rfl (hb hc hd) rfl hl q) nxt
theorem RunW.astoreN {x : Fin 4} {v : Value} (l' : Array Slot) (hd : decode code pc = .ok (.astore_n x, 1)) (hv : v.isRef = true) (hl : storeLocals Ls x.val v = some l') (hp : pc + 1 = pc') (nxt : RunW l Z EL n0 own code maxL ret nm R Q pc' l' st h vm k n) : RunW l Z EL n0 own code maxL ret nm R Q pc Ls (v :: st) h vm k n := by
  subst hp
  exact RunW.stp (fun p e below T m c t hA hx hc q => XS.astoreN hA hx rfl (hb hc hd) rfl hv hl q) nxt
theorem RunW.astore {x : Nat} {v : Value} (l' : Array Slot) (hd : decode code pc = .ok (.astore x, 2)) (hv : v.isRef = true) (hl : storeLocals Ls x v = some l') (hp : pc + 2 = pc') (nxt : RunW l Z EL n0 own code maxL ret nm R Q pc' l' st h vm k n) : RunW l Z EL n0 own code maxL ret nm R Q pc Ls (v :: st) h vm k n := by
  subst hp
  exact RunW.stp (fun p e below T m c t hA hx hc q => XS.astore hA hx rfl (hb hc hd) rfl hv hl q) nxt
theorem RunW.iinc {x : Nat} {i : Int} {u : Int32} (v : Int32) (l' : Array Slot) (hd : decode code pc = .ok (.iinc x i, 3)) (hv : Int32.ofInt i = v) (hg : Ls[x]? = some (.val (.int u))) (hl : storeLocals Ls x (.int (u + v)) = some l') (hp : pc + 3 = pc') (nxt : RunW l Z EL n0 own code maxL ret nm R Q pc' l' st h vm k n) : RunW l Z EL n0 own code maxL ret nm R Q pc Ls st h vm k n := by
  subst hp
  exact RunW.stp (fun p e below T m c t hA hx hc q => XT.iincV hA hx rfl v (hb hc hd) hv hg hl q) nxt
theorem RunW.iadd {x y : Int32} (hd : decode code pc = .ok (.iadd, 1))  (hp : pc + 1 = pc') (nxt : RunW l Z EL n0 own code maxL ret nm R Q pc' Ls (.int (x + y) :: st) h vm k n) : RunW l Z EL n0 own code maxL ret nm R Q pc Ls (.int y :: .int x :: st) h vm k n := by
  subst hp
  exact RunW.stp (fun p e below T m c t hA hx hc q => XS.iadd hA hx rfl (hb hc hd) rfl q) nxt
theorem RunW.isub {x y : Int32} (hd : decode code pc = .ok (.isub, 1))  (hp : pc + 1 = pc') (nxt : RunW l Z EL n0 own code maxL ret nm R Q pc' Ls (.int (x - y) :: st) h vm k n) : RunW l Z EL n0 own code maxL ret nm R Q pc Ls (.int y :: .int x :: st) h vm k n := by
  subst hp
  exact RunW.stp (fun p e below T m c t hA hx hc q => XS.isub hA hx rfl (hb hc hd) rfl q) nxt
theorem RunW.imul {x y : Int32} (hd : decode code pc = .ok (.imul, 1))  (hp : pc + 1 = pc') (nxt : RunW l Z EL n0 own code maxL ret nm R Q pc' Ls (.int (x * y) :: st) h vm k n) : RunW l Z EL n0 own code maxL ret nm R Q pc Ls (.int y :: .int x :: st) h vm k n := by
  subst hp
  exact RunW.stp (fun p e below T m c t hA hx hc q => XS.imul hA hx rfl (hb hc hd) rfl q) nxt
theorem RunW.iand {x y : Int32} (hd : decode code pc = .ok (.iand, 1))  (hp : pc + 1 = pc') (nxt : RunW l Z EL n0 own code maxL ret nm R Q pc' Ls (.int (x &&& y) :: st) h vm k n) : RunW l Z EL n0 own code maxL ret nm R Q pc Ls (.int y :: .int x :: st) h vm k n := by
  subst hp
  exact RunW.stp (fun p e below T m c t hA hx hc q => XS.iand hA hx rfl (hb hc hd) rfl q) nxt
theorem RunW.ior {x y : Int32} (hd : decode code pc = .ok (.ior, 1))  (hp : pc + 1 = pc') (nxt : RunW l Z EL n0 own code maxL ret nm R Q pc' Ls (.int (x ||| y) :: st) h vm k n) : RunW l Z EL n0 own code maxL ret nm R Q pc Ls (.int y :: .int x :: st) h vm k n := by
  subst hp
  exact RunW.stp (fun p e below T m c t hA hx hc q => XT.ior hA hx rfl (hb hc hd) rfl q) nxt
theorem RunW.ixor {x y : Int32} (hd : decode code pc = .ok (.ixor, 1))  (hp : pc + 1 = pc') (nxt : RunW l Z EL n0 own code maxL ret nm R Q pc' Ls (.int (x ^^^ y) :: st) h vm k n) : RunW l Z EL n0 own code maxL ret nm R Q pc Ls (.int y :: .int x :: st) h vm k n := by
  subst hp
  exact RunW.stp (fun p e below T m c t hA hx hc q => XT.ixor hA hx rfl (hb hc hd) rfl q) nxt
theorem RunW.ishl {x y : Int32} (hd : decode code pc = .ok (.ishl, 1))  (hp : pc + 1 = pc') (nxt : RunW l Z EL n0 own code maxL ret nm R Q pc' Ls (.int (x <<< (y &&& 31)) :: st) h vm k n) : RunW l Z EL n0 own code maxL ret nm R Q pc Ls (.int y :: .int x :: st) h vm k n := by
  subst hp
  exact RunW.stp (fun p e below T m c t hA hx hc q => XT.ishl hA hx rfl (hb hc hd) rfl q) nxt
theorem RunW.ishr {x y : Int32} (hd : decode code pc = .ok (.ishr, 1))  (hp : pc + 1 = pc') (nxt : RunW l Z EL n0 own code maxL ret nm R Q pc' Ls (.int (x >>> (y &&& 31)) :: st) h vm k n) : RunW l Z EL n0 own code maxL ret nm R Q pc Ls (.int y :: .int x :: st) h vm k n := by
  subst hp
  exact RunW.stp (fun p e below T m c t hA hx hc q => XT.ishr hA hx rfl (hb hc hd) rfl q) nxt
theorem RunW.iushr {x y : Int32} (hd : decode code pc = .ok (.iushr, 1))  (hp : pc + 1 = pc') (nxt : RunW l Z EL n0 own code maxL ret nm R Q pc' Ls (.int (XT.ushr x y) :: st) h vm k n) : RunW l Z EL n0 own code maxL ret nm R Q pc Ls (.int y :: .int x :: st) h vm k n := by
  subst hp
  exact RunW.stp (fun p e below T m c t hA hx hc q => XT.iushr hA hx rfl (hb hc hd) rfl q) nxt
theorem RunW.ladd {x y : Int64} (hd : decode code pc = .ok (.ladd, 1))  (hp : pc + 1 = pc') (nxt : RunW l Z EL n0 own code maxL ret nm R Q pc' Ls (.long (x + y) :: st) h vm k n) : RunW l Z EL n0 own code maxL ret nm R Q pc Ls (.long y :: .long x :: st) h vm k n := by
  subst hp
  exact RunW.stp (fun p e below T m c t hA hx hc q => XT.ladd hA hx rfl (hb hc hd) rfl q) nxt
theorem RunW.lsub {x y : Int64} (hd : decode code pc = .ok (.lsub, 1))  (hp : pc + 1 = pc') (nxt : RunW l Z EL n0 own code maxL ret nm R Q pc' Ls (.long (x - y) :: st) h vm k n) : RunW l Z EL n0 own code maxL ret nm R Q pc Ls (.long y :: .long x :: st) h vm k n := by
  subst hp
  exact RunW.stp (fun p e below T m c t hA hx hc q => XT.lsub hA hx rfl (hb hc hd) rfl q) nxt
theorem RunW.lmul {x y : Int64} (hd : decode code pc = .ok (.lmul, 1))  (hp : pc + 1 = pc') (nxt : RunW l Z EL n0 own code maxL ret nm R Q pc' Ls (.long (x * y) :: st) h vm k n) : RunW l Z EL n0 own code maxL ret nm R Q pc Ls (.long y :: .long x :: st) h vm k n := by
  subst hp
  exact RunW.stp (fun p e below T m c t hA hx hc q => XT.lmul hA hx rfl (hb hc hd) rfl q) nxt
theorem RunW.land {x y : Int64} (hd : decode code pc = .ok (.land, 1))  (hp : pc + 1 = pc') (nxt : RunW l Z EL n0 own code maxL ret nm R Q pc' Ls (.long (x &&& y) :: st) h vm k n) : RunW l Z EL n0 own code maxL ret nm R Q pc Ls (.long y :: .long x :: st) h vm k n := by
  subst hp
  exact RunW.stp (fun p e below T m c t hA hx hc q => XT.land hA hx rfl (hb hc hd) rfl q) nxt
theorem RunW.lor {x y : Int64} (hd : decode code pc = .ok (.lor, 1))  (hp : pc + 1 = pc') (nxt : RunW l Z EL n0 own code maxL ret nm R Q pc' Ls (.long (x ||| y) :: st) h vm k n) : RunW l Z EL n0 own code maxL ret nm R Q pc Ls (.long y :: .long x :: st) h vm k n := by
  subst hp
  exact RunW.stp (fun p e below T m c t hA hx hc q => XT.lor hA hx rfl (hb hc hd) rfl q) nxt
theorem RunW.lxor {x y : Int64} (hd : decode code pc = .ok (.lxor, 1))  (hp : pc + 1 = pc') (nxt : RunW l Z EL n0 own code maxL ret nm R Q pc' Ls (.long (x ^^^ y) :: st) h vm k n) : RunW l Z EL n0 own code maxL ret nm R Q pc Ls (.long y :: .long x :: st) h vm k n := by
  subst hp
  exact RunW.stp (fun p e below T m c t hA hx hc q => XT.lxor hA hx rfl (hb hc hd) rfl q) nxt
theorem RunW.idiv {x y : Int32} (hd : decode code pc = .ok (.idiv, 1)) (hy : y ≠ 0) (hp : pc + 1 = pc') (nxt : RunW l Z EL n0 own code maxL ret nm R Q pc' Ls (.int (x / y) :: st) h vm k n) : RunW l Z EL n0 own code maxL ret nm R Q pc Ls (.int y :: .int x :: st) h vm k n := by
  subst hp
  exact RunW.stp (fun p e below T m c t hA hx hc q => XS.idiv hA hx rfl (hb hc hd) rfl hy q) nxt
theorem RunW.irem {x y : Int32} (hd : decode code pc = .ok (.irem, 1)) (hy : y ≠ 0) (hp : pc + 1 = pc') (nxt : RunW l Z EL n0 own code maxL ret nm R Q pc' Ls (.int (x % y) :: st) h vm k n) : RunW l Z EL n0 own code maxL ret nm R Q pc Ls (.int y :: .int x :: st) h vm k n := by
  subst hp
  exact RunW.stp (fun p e below T m c t hA hx hc q => XS.irem hA hx rfl (hb hc hd) rfl hy (by rw [irem_eq_mod]; exact q)) nxt
theorem RunW.ldiv {x y : Int64} (hd : decode code pc = .ok (.ldiv, 1)) (hy : y ≠ 0) (hp : pc + 1 = pc') (nxt : RunW l Z EL n0 own code maxL ret nm R Q pc' Ls (.long (x / y) :: st) h vm k n) : RunW l Z EL n0 own code maxL ret nm R Q pc Ls (.long y :: .long x :: st) h vm k n := by
  subst hp
  exact RunW.stp (fun p e below T m c t hA hx hc q => XT.ldiv hA hx rfl (hb hc hd) rfl hy q) nxt
theorem RunW.lrem {x y : Int64} (hd : decode code pc = .ok (.lrem, 1)) (hy : y ≠ 0) (hp : pc + 1 = pc') (nxt : RunW l Z EL n0 own code maxL ret nm R Q pc' Ls (.long (x % y) :: st) h vm k n) : RunW l Z EL n0 own code maxL ret nm R Q pc Ls (.long y :: .long x :: st) h vm k n := by
  subst hp
  exact RunW.stp (fun p e below T m c t hA hx hc q => XT.lrem hA hx rfl (hb hc hd) rfl hy (by rw [lrem_mod]; exact q)) nxt
theorem RunW.ineg {x : Int32} (hd : decode code pc = .ok (.ineg, 1))  (hp : pc + 1 = pc') (nxt : RunW l Z EL n0 own code maxL ret nm R Q pc' Ls (.int (-x) :: st) h vm k n) : RunW l Z EL n0 own code maxL ret nm R Q pc Ls (.int x :: st) h vm k n := by
  subst hp
  exact RunW.stp (fun p e below T m c t hA hx hc q => XS.ineg hA hx rfl (hb hc hd) rfl q) nxt
theorem RunW.lneg {x : Int64} (hd : decode code pc = .ok (.lneg, 1))  (hp : pc + 1 = pc') (nxt : RunW l Z EL n0 own code maxL ret nm R Q pc' Ls (.long (-x) :: st) h vm k n) : RunW l Z EL n0 own code maxL ret nm R Q pc Ls (.long x :: st) h vm k n := by
  subst hp
  exact RunW.stp (fun p e below T m c t hA hx hc q => XT.lneg hA hx rfl (hb hc hd) rfl q) nxt
theorem RunW.i2l {x : Int32} (hd : decode code pc = .ok (.i2l, 1))  (hp : pc + 1 = pc') (nxt : RunW l Z EL n0 own code maxL ret nm R Q pc' Ls (.long x.toInt64 :: st) h vm k n) : RunW l Z EL n0 own code maxL ret nm R Q pc Ls (.int x :: st) h vm k n := by
  subst hp
  exact RunW.stp (fun p e below T m c t hA hx hc q => XT.i2l hA hx rfl (hb hc hd) rfl q) nxt
theorem RunW.l2i {x : Int64} (hd : decode code pc = .ok (.l2i, 1))  (hp : pc + 1 = pc') (nxt : RunW l Z EL n0 own code maxL ret nm R Q pc' Ls (.int x.toInt32 :: st) h vm k n) : RunW l Z EL n0 own code maxL ret nm R Q pc Ls (.long x :: st) h vm k n := by
  subst hp
  exact RunW.stp (fun p e below T m c t hA hx hc q => XT.l2i hA hx rfl (hb hc hd) rfl q) nxt
theorem RunW.i2b {x : Int32} (hd : decode code pc = .ok (.i2b, 1))  (hp : pc + 1 = pc') (nxt : RunW l Z EL n0 own code maxL ret nm R Q pc' Ls (.int (nar .byte x) :: st) h vm k n) : RunW l Z EL n0 own code maxL ret nm R Q pc Ls (.int x :: st) h vm k n := by
  subst hp
  exact RunW.stp (fun p e below T m c t hA hx hc q => XT.i2b hA hx rfl (hb hc hd) rfl q) nxt
theorem RunW.i2c {x : Int32} (hd : decode code pc = .ok (.i2c, 1))  (hp : pc + 1 = pc') (nxt : RunW l Z EL n0 own code maxL ret nm R Q pc' Ls (.int (nar .char x) :: st) h vm k n) : RunW l Z EL n0 own code maxL ret nm R Q pc Ls (.int x :: st) h vm k n := by
  subst hp
  exact RunW.stp (fun p e below T m c t hA hx hc q => XT.i2c hA hx rfl (hb hc hd) rfl q) nxt
theorem RunW.i2s {x : Int32} (hd : decode code pc = .ok (.i2s, 1))  (hp : pc + 1 = pc') (nxt : RunW l Z EL n0 own code maxL ret nm R Q pc' Ls (.int (nar .short x) :: st) h vm k n) : RunW l Z EL n0 own code maxL ret nm R Q pc Ls (.int x :: st) h vm k n := by
  subst hp
  exact RunW.stp (fun p e below T m c t hA hx hc q => XT.i2s hA hx rfl (hb hc hd) rfl q) nxt
theorem RunW.lshl {x : Int64} {y : Int32} (hd : decode code pc = .ok (.lshl, 1))  (hp : pc + 1 = pc') (nxt : RunW l Z EL n0 own code maxL ret nm R Q pc' Ls (.long (x <<< (y.toInt64 &&& 63)) :: st) h vm k n) : RunW l Z EL n0 own code maxL ret nm R Q pc Ls (.int y :: .long x :: st) h vm k n := by
  subst hp
  exact RunW.stp (fun p e below T m c t hA hx hc q => XT.lshl hA hx rfl (hb hc hd) rfl q) nxt
theorem RunW.lshr {x : Int64} {y : Int32} (hd : decode code pc = .ok (.lshr, 1))  (hp : pc + 1 = pc') (nxt : RunW l Z EL n0 own code maxL ret nm R Q pc' Ls (.long (x >>> (y.toInt64 &&& 63)) :: st) h vm k n) : RunW l Z EL n0 own code maxL ret nm R Q pc Ls (.int y :: .long x :: st) h vm k n := by
  subst hp
  exact RunW.stp (fun p e below T m c t hA hx hc q => XT.lshr hA hx rfl (hb hc hd) rfl q) nxt
theorem RunW.lushr {x : Int64} {y : Int32} (hd : decode code pc = .ok (.lushr, 1))  (hp : pc + 1 = pc') (nxt : RunW l Z EL n0 own code maxL ret nm R Q pc' Ls (.long (XT.ushrL x y) :: st) h vm k n) : RunW l Z EL n0 own code maxL ret nm R Q pc Ls (.int y :: .long x :: st) h vm k n := by
  subst hp
  exact RunW.stp (fun p e below T m c t hA hx hc q => XT.lushr hA hx rfl (hb hc hd) rfl q) nxt
theorem RunW.lcmp {x y : Int64} (hd : decode code pc = .ok (.lcmp, 1))  (hp : pc + 1 = pc') (nxt : RunW l Z EL n0 own code maxL ret nm R Q pc' Ls (.int (XT.cmpL x y) :: st) h vm k n) : RunW l Z EL n0 own code maxL ret nm R Q pc Ls (.long y :: .long x :: st) h vm k n := by
  subst hp
  exact RunW.stp (fun p e below T m c t hA hx hc q => XT.lcmp hA hx rfl (hb hc hd) rfl q) nxt
theorem RunW.dup {x : Value} (hd : decode code pc = .ok (.dup, 1)) (hv : x.category = 1) (hp : pc + 1 = pc') (nxt : RunW l Z EL n0 own code maxL ret nm R Q pc' Ls (x :: x :: st) h vm k n) : RunW l Z EL n0 own code maxL ret nm R Q pc Ls (x :: st) h vm k n := by
  subst hp
  exact RunW.stp (fun p e below T m c t hA hx hc q => XS.dup hA hx rfl (hb hc hd) rfl hv q) nxt
theorem RunW.pop {x : Value} (hd : decode code pc = .ok (.pop, 1)) (hv : x.category = 1) (hp : pc + 1 = pc') (nxt : RunW l Z EL n0 own code maxL ret nm R Q pc' Ls st h vm k n) : RunW l Z EL n0 own code maxL ret nm R Q pc Ls (x :: st) h vm k n := by
  subst hp
  exact RunW.stp (fun p e below T m c t hA hx hc q => XT.pop hA hx rfl (hb hc hd) rfl hv q) nxt
theorem RunW.dupX1 {x y : Value} (hd : decode code pc = .ok (.dup_x1, 1)) (hv : x.category = 1) (hv' : y.category = 1) (hp : pc + 1 = pc') (nxt : RunW l Z EL n0 own code maxL ret nm R Q pc' Ls (x :: y :: x :: st) h vm k n) : RunW l Z EL n0 own code maxL ret nm R Q pc Ls (x :: y :: st) h vm k n := by
  subst hp
  exact RunW.stp (fun p e below T m c t hA hx hc q => XT.dupX1 hA hx rfl (hb hc hd) rfl hv hv' q) nxt
theorem RunW.dup2 {x y : Value} (hd : decode code pc = .ok (.dup2, 1)) (hv : x.category = 1) (hv' : y.category = 1) (hp : pc + 1 = pc') (nxt : RunW l Z EL n0 own code maxL ret nm R Q pc' Ls (x :: y :: x :: y :: st) h vm k n) : RunW l Z EL n0 own code maxL ret nm R Q pc Ls (x :: y :: st) h vm k n := by
  subst hp
  exact RunW.stp (fun p e below T m c t hA hx hc q => XT.dup2 hA hx rfl (hb hc hd) rfl hv hv' q) nxt
theorem RunW.dup2L {x : Int64} (hd : decode code pc = .ok (.dup2, 1))  (hp : pc + 1 = pc') (nxt : RunW l Z EL n0 own code maxL ret nm R Q pc' Ls (.long x :: .long x :: st) h vm k n) : RunW l Z EL n0 own code maxL ret nm R Q pc Ls (.long x :: st) h vm k n := by
  subst hp
  exact RunW.stp (fun p e below T m c t hA hx hc q => XT.dup2L hA hx rfl (hb hc hd) rfl q) nxt
theorem RunW.goto {o : Int} (hd : decode code pc = .ok (.goto o, 3)) (ho : 0 ≤ (pc : Int) + o) (hp : ((pc : Int) + o).toNat = pc') (nxt : RunW l Z EL n0 own code maxL ret nm R Q pc' Ls st h vm k n) : RunW l Z EL n0 own code maxL ret nm R Q pc Ls st h vm k n :=
  RunW.stp (fun p e below T m c t hA hx hc q => XS.goto hA hx rfl rfl (hb hc hd) ho hp q) nxt
theorem RunW.if_eq {x : Int32} {o : Int} {pa : Nat} (hd : decode code pc = .ok (.ifCond .eq o, 3)) (ho : 0 ≤ (pc : Int) + o) (hp : ((pc : Int) + o).toNat = pc') (hq : pc + 3 = pa)
    (yes : x = 0 → RunW l Z EL n0 own code maxL ret nm R Q pc' Ls st h vm k n) (no : ¬ x = 0 → RunW l Z EL n0 own code maxL ret nm R Q pa Ls st h vm k n) : RunW l Z EL n0 own code maxL ret nm R Q pc Ls (.int x :: st) h vm k n := by
  subst hq
  by_cases hc : x = 0
  · exact RunW.stp (fun p e below T m c t hA hx hb' q => XS.ifYes hA hx rfl rfl (hb hb' hd) rfl (XT.i0_eq_t hc) ho hp q) (yes hc)
  · exact RunW.stp (fun p e below T m c t hA hx hb' q => XS.ifNo hA hx rfl (hb hb' hd) rfl (XT.i0_eq_f hc) q) (no hc)
theorem RunW.icmp_eq {x y : Int32} {o : Int} {pa : Nat} (hd : decode code pc = .ok (.if_icmp .eq o, 3)) (ho : 0 ≤ (pc : Int) + o) (hp : ((pc : Int) + o).toNat = pc') (hq : pc + 3 = pa)
    (yes : x = y → RunW l Z EL n0 own code maxL ret nm R Q pc' Ls st h vm k n) (no : ¬ x = y → RunW l Z EL n0 own code maxL ret nm R Q pa Ls st h vm k n) : RunW l Z EL n0 own code maxL ret nm R Q pc Ls (.int y :: .int x :: st) h vm k n := by
  subst hq
  by_cases hc : x = y
  · exact RunW.stp (fun p e below T m c t hA hx hb' q => XS.icmpYes hA hx rfl rfl (hb hb' hd) rfl (XT.ii_eq_t hc) ho hp q) (yes hc)
  · exact RunW.stp (fun p e below T m c t hA hx hb' q => XS.icmpNo hA hx rfl (hb hb' hd) rfl (XT.ii_eq_f hc) q) (no hc)
theorem RunW.if_ne {x : Int32} {o : Int} {pa : Nat} (hd : decode code pc = .ok (.ifCond .ne o, 3)) (ho : 0 ≤ (pc : Int) + o) (hp : ((pc : Int) + o).toNat = pc') (hq : pc + 3 = pa)
    (yes : ¬ x = 0 → RunW l Z EL n0 own code maxL ret nm R Q pc' Ls st h vm k n) (no : x = 0 → RunW l Z EL n0 own code maxL ret nm R Q pa Ls st h vm k n) : RunW l Z EL n0 own code maxL ret nm R Q pc Ls (.int x :: st) h vm k n := by
  subst hq
  by_cases hc : x = 0
  · exact RunW.stp (fun p e below T m c t hA hx hb' q => XS.ifNo hA hx rfl (hb hb' hd) rfl (XT.i0_ne_f hc) q) (no (by simpa using hc))
  · exact RunW.stp (fun p e below T m c t hA hx hb' q => XS.ifYes hA hx rfl rfl (hb hb' hd) rfl (XT.i0_ne_t hc) ho hp q) (yes hc)
theorem RunW.icmp_ne {x y : Int32} {o : Int} {pa : Nat} (hd : decode code pc = .ok (.if_icmp .ne o, 3)) (ho : 0 ≤ (pc : Int) + o) (hp : ((pc : Int) + o).toNat = pc') (hq : pc + 3 = pa)
    (yes : ¬ x = y → RunW l Z EL n0 own code maxL ret nm R Q pc' Ls st h vm k n) (no : x = y → RunW l Z EL n0 own code maxL ret nm R Q pa Ls st h vm k n) : RunW l Z EL n0 own code maxL ret nm R Q pc Ls (.int y :: .int x :: st) h vm k n := by
  subst hq
  by_cases hc : x = y
  · exact RunW.stp (fun p e below T m c t hA hx hb' q => XS.icmpNo hA hx rfl (hb hb' hd) rfl (XT.ii_ne_f hc) q) (no (by simpa using hc))
  · exact RunW.stp (fun p e below T m c t hA hx hb' q => XS.icmpYes hA hx rfl rfl (hb hb' hd) rfl (XT.ii_ne_t hc) ho hp q) (yes hc)
theorem RunW.if_lt {x : Int32} {o : Int} {pa : Nat} (hd : decode code pc = .ok (.ifCond .lt o, 3)) (ho : 0 ≤ (pc : Int) + o) (hp : ((pc : Int) + o).toNat = pc') (hq : pc + 3 = pa)
    (yes : x < 0 → RunW l Z EL n0 own code maxL ret nm R Q pc' Ls st h vm k n) (no : ¬ x < 0 → RunW l Z EL n0 own code maxL ret nm R Q pa Ls st h vm k n) : RunW l Z EL n0 own code maxL ret nm R Q pc Ls (.int x :: st) h vm k n := by
  subst hq
  by_cases hc : x < 0
  · exact RunW.stp (fun p e below T m c t hA hx hb' q => XS.ifYes hA hx rfl rfl (hb hb' hd) rfl (XT.i0_lt_t hc) ho hp q) (yes hc)
  · exact RunW.stp (fun p e below T m c t hA hx hb' q => XS.ifNo hA hx rfl (hb hb' hd) rfl (XT.i0_lt_f hc) q) (no hc)
theorem RunW.icmp_lt {x y : Int32} {o : Int} {pa : Nat} (hd : decode code pc = .ok (.if_icmp .lt o, 3)) (ho : 0 ≤ (pc : Int) + o) (hp : ((pc : Int) + o).toNat = pc') (hq : pc + 3 = pa)
    (yes : x < y → RunW l Z EL n0 own code maxL ret nm R Q pc' Ls st h vm k n) (no : ¬ x < y → RunW l Z EL n0 own code maxL ret nm R Q pa Ls st h vm k n) : RunW l Z EL n0 own code maxL ret nm R Q pc Ls (.int y :: .int x :: st) h vm k n := by
  subst hq
  by_cases hc : x < y
  · exact RunW.stp (fun p e below T m c t hA hx hb' q => XS.icmpYes hA hx rfl rfl (hb hb' hd) rfl (XT.ii_lt_t hc) ho hp q) (yes hc)
  · exact RunW.stp (fun p e below T m c t hA hx hb' q => XS.icmpNo hA hx rfl (hb hb' hd) rfl (XT.ii_lt_f hc) q) (no hc)
theorem RunW.if_ge {x : Int32} {o : Int} {pa : Nat} (hd : decode code pc = .ok (.ifCond .ge o, 3)) (ho : 0 ≤ (pc : Int) + o) (hp : ((pc : Int) + o).toNat = pc') (hq : pc + 3 = pa)
    (yes : ¬ x < 0 → RunW l Z EL n0 own code maxL ret nm R Q pc' Ls st h vm k n) (no : x < 0 → RunW l Z EL n0 own code maxL ret nm R Q pa Ls st h vm k n) : RunW l Z EL n0 own code maxL ret nm R Q pc Ls (.int x :: st) h vm k n := by
  subst hq
  by_cases hc : x < 0
  · exact RunW.stp (fun p e below T m c t hA hx hb' q => XS.ifNo hA hx rfl (hb hb' hd) rfl (XT.i0_ge_f hc) q) (no (by simpa using hc))
  · exact RunW.stp (fun p e below T m c t hA hx hb' q => XS.ifYes hA hx rfl rfl (hb hb' hd) rfl (XT.i0_ge_t hc) ho hp q) (yes hc)
theorem RunW.icmp_ge {x y : Int32} {o : Int} {pa : Nat} (hd : decode code pc = .ok (.if_icmp .ge o, 3)) (ho : 0 ≤ (pc : Int) + o) (hp : ((pc : Int) + o).toNat = pc') (hq : pc + 3 = pa)
    (yes : ¬ x < y → RunW l Z EL n0 own code maxL ret nm R Q pc' Ls st h vm k n) (no : x < y → RunW l Z EL n0 own code maxL ret nm R Q pa Ls st h vm k n) : RunW l Z EL n0 own code maxL ret nm R Q pc Ls (.int y :: .int x :: st) h vm k n := by
  subst hq
  by_cases hc : x < y
  · exact RunW.stp (fun p e below T m c t hA hx hb' q => XS.icmpNo hA hx rfl (hb hb' hd) rfl (XT.ii_ge_f hc) q) (no (by simpa using hc))
  · exact RunW.stp (fun p e below T m c t hA hx hb' q => XS.icmpYes hA hx rfl rfl (hb hb' hd) rfl (XT.ii_ge_t hc) ho hp q) (yes hc)
theorem RunW.if_gt {x : Int32} {o : Int} {pa : Nat} (hd : decode code pc = .ok (.ifCond .gt o, 3)) (ho : 0 ≤ (pc : Int) + o) (hp : ((pc : Int) + o).toNat = pc') (hq : pc + 3 = pa)
    (yes : 0 < x → RunW l Z EL n0 own code maxL ret nm R Q pc' Ls st h vm k n) (no : ¬ 0 < x → RunW l Z EL n0 own code maxL ret nm R Q pa Ls st h vm k n) : RunW l Z EL n0 own code maxL ret nm R Q pc Ls (.int x :: st) h vm k n := by
  subst hq
  by_cases hc : 0 < x
  · exact RunW.stp (fun p e below T m c t hA hx hb' q => XS.ifYes hA hx rfl rfl (hb hb' hd) rfl (XT.i0_gt_t hc) ho hp q) (yes hc)
  · exact RunW.stp (fun p e below T m c t hA hx hb' q => XS.ifNo hA hx rfl (hb hb' hd) rfl (XT.i0_gt_f hc) q) (no hc)
theorem RunW.icmp_gt {x y : Int32} {o : Int} {pa : Nat} (hd : decode code pc = .ok (.if_icmp .gt o, 3)) (ho : 0 ≤ (pc : Int) + o) (hp : ((pc : Int) + o).toNat = pc') (hq : pc + 3 = pa)
    (yes : y < x → RunW l Z EL n0 own code maxL ret nm R Q pc' Ls st h vm k n) (no : ¬ y < x → RunW l Z EL n0 own code maxL ret nm R Q pa Ls st h vm k n) : RunW l Z EL n0 own code maxL ret nm R Q pc Ls (.int y :: .int x :: st) h vm k n := by
  subst hq
  by_cases hc : y < x
  · exact RunW.stp (fun p e below T m c t hA hx hb' q => XS.icmpYes hA hx rfl rfl (hb hb' hd) rfl (XT.ii_gt_t hc) ho hp q) (yes hc)
  · exact RunW.stp (fun p e below T m c t hA hx hb' q => XS.icmpNo hA hx rfl (hb hb' hd) rfl (XT.ii_gt_f hc) q) (no hc)
theorem RunW.if_le {x : Int32} {o : Int} {pa : Nat} (hd : decode code pc = .ok (.ifCond .le o, 3)) (ho : 0 ≤ (pc : Int) + o) (hp : ((pc : Int) + o).toNat = pc') (hq : pc + 3 = pa)
    (yes : ¬ 0 < x → RunW l Z EL n0 own code maxL ret nm R Q pc' Ls st h vm k n) (no : 0 < x → RunW l Z EL n0 own code maxL ret nm R Q pa Ls st h vm k n) : RunW l Z EL n0 own code maxL ret nm R Q pc Ls (.int x :: st) h vm k n := by
  subst hq
  by_cases hc : 0 < x
  · exact RunW.stp (fun p e below T m c t hA hx hb' q => XS.ifNo hA hx rfl (hb hb' hd) rfl (XT.i0_le_f hc) q) (no (by simpa using hc))
  · exact RunW.stp (fun p e below T m c t hA hx hb' q => XS.ifYes hA hx rfl rfl (hb hb' hd) rfl (XT.i0_le_t hc) ho hp q) (yes hc)
theorem RunW.icmp_le {x y : Int32} {o : Int} {pa : Nat} (hd : decode code pc = .ok (.if_icmp .le o, 3)) (ho : 0 ≤ (pc : Int) + o) (hp : ((pc : Int) + o).toNat = pc') (hq : pc + 3 = pa)
    (yes : ¬ y < x → RunW l Z EL n0 own code maxL ret nm R Q pc' Ls st h vm k n) (no : y < x → RunW l Z EL n0 own code maxL ret nm R Q pa Ls st h vm k n) : RunW l Z EL n0 own code maxL ret nm R Q pc Ls (.int y :: .int x :: st) h vm k n := by
  subst hq
  by_cases hc : y < x
  · exact RunW.stp (fun p e below T m c t hA hx hb' q => XS.icmpNo hA hx rfl (hb hb' hd) rfl (XT.ii_le_f hc) q) (no (by simpa using hc))
  · exact RunW.stp (fun p e below T m c t hA hx hb' q => XS.icmpYes hA hx rfl rfl (hb hb' hd) rfl (XT.ii_le_t hc) ho hp q) (yes hc)
theorem RunW.lif_eq {x y : Int64} {o : Int} {pa : Nat} (hd : decode code pc = .ok (.ifCond .eq o, 3)) (ho : 0 ≤ (pc : Int) + o) (hp : ((pc : Int) + o).toNat = pc') (hq : pc + 3 = pa)
    (yes : x = y → RunW l Z EL n0 own code maxL ret nm R Q pc' Ls st h vm k n) (no : ¬ x = y → RunW l Z EL n0 own code maxL ret nm R Q pa Ls st h vm k n) : RunW l Z EL n0 own code maxL ret nm R Q pc Ls (.int (XT.cmpL x y) :: st) h vm k n := by
  subst hq
  by_cases hc : x = y
  · exact RunW.stp (fun p e below T m c t hA hx hb' q => XS.ifYes hA hx rfl rfl (hb hb' hd) rfl (XT.ll_eq_t hc) ho hp q) (yes hc)
  · exact RunW.stp (fun p e below T m c t hA hx hb' q => XS.ifNo hA hx rfl (hb hb' hd) rfl (XT.ll_eq_f hc) q) (no hc)
theorem RunW.lif_ne {x y : Int64} {o : Int} {pa : Nat} (hd : decode code pc = .ok (.ifCond .ne o, 3)) (ho : 0 ≤ (pc : Int) + o) (hp : ((pc : Int) + o).toNat = pc') (hq : pc + 3 = pa)
    (yes : ¬ x = y → RunW l Z EL n0 own code maxL ret nm R Q pc' Ls st h vm k n) (no : x = y → RunW l Z EL n0 own code maxL ret nm R Q pa Ls st h vm k n) : RunW l Z EL n0 own code maxL ret nm R Q pc Ls (.int (XT.cmpL x y) :: st) h vm k n := by
  subst hq
  by_cases hc : x = y
  · exact RunW.stp (fun p e below T m c t hA hx hb' q => XS.ifNo hA hx rfl (hb hb' hd) rfl (XT.ll_ne_f hc) q) (no (by simpa using hc))
  · exact RunW.stp (fun p e below T m c t hA hx hb' q => XS.ifYes hA hx rfl rfl (hb hb' hd) rfl (XT.ll_ne_t hc) ho hp q) (yes hc)
theorem RunW.lif_lt {x y : Int64} {o : Int} {pa : Nat} (hd : decode code pc = .ok (.ifCond .lt o, 3)) (ho : 0 ≤ (pc : Int) + o) (hp : ((pc : Int) + o).toNat = pc') (hq : pc + 3 = pa)
    (yes : x < y → RunW l Z EL n0 own code maxL ret nm R Q pc' Ls st h vm k n) (no : ¬ x < y → RunW l Z EL n0 own code maxL ret nm R Q pa Ls st h vm k n) : RunW l Z EL n0 own code maxL ret nm R Q pc Ls (.int (XT.cmpL x y) :: st) h vm k n := by
  subst hq
  by_cases hc : x < y
  · exact RunW.stp (fun p e below T m c t hA hx hb' q => XS.ifYes hA hx rfl rfl (hb hb' hd) rfl (XT.ll_lt_t hc) ho hp q) (yes hc)
  · exact RunW.stp (fun p e below T m c t hA hx hb' q => XS.ifNo hA hx rfl (hb hb' hd) rfl (XT.ll_lt_f hc) q) (no hc)
theorem RunW.lif_ge {x y : Int64} {o : Int} {pa : Nat} (hd : decode code pc = .ok (.ifCond .ge o, 3)) (ho : 0 ≤ (pc : Int) + o) (hp : ((pc : Int) + o).toNat = pc') (hq : pc + 3 = pa)
    (yes : ¬ x < y → RunW l Z EL n0 own code maxL ret nm R Q pc' Ls st h vm k n) (no : x < y → RunW l Z EL n0 own code maxL ret nm R Q pa Ls st h vm k n) : RunW l Z EL n0 own code maxL ret nm R Q pc Ls (.int (XT.cmpL x y) :: st) h vm k n := by
  subst hq
  by_cases hc : x < y
  · exact RunW.stp (fun p e below T m c t hA hx hb' q => XS.ifNo hA hx rfl (hb hb' hd) rfl (XT.ll_ge_f hc) q) (no (by simpa using hc))
  · exact RunW.stp (fun p e below T m c t hA hx hb' q => XS.ifYes hA hx rfl rfl (hb hb' hd) rfl (XT.ll_ge_t hc) ho hp q) (yes hc)
theorem RunW.lif_gt {x y : Int64} {o : Int} {pa : Nat} (hd : decode code pc = .ok (.ifCond .gt o, 3)) (ho : 0 ≤ (pc : Int) + o) (hp : ((pc : Int) + o).toNat = pc') (hq : pc + 3 = pa)
    (yes : y < x → RunW l Z EL n0 own code maxL ret nm R Q pc' Ls st h vm k n) (no : ¬ y < x → RunW l Z EL n0 own code maxL ret nm R Q pa Ls st h vm k n) : RunW l Z EL n0 own code maxL ret nm R Q pc Ls (.int (XT.cmpL x y) :: st) h vm k n := by
  subst hq
  by_cases hc : y < x
  · exact RunW.stp (fun p e below T m c t hA hx hb' q => XS.ifYes hA hx rfl rfl (hb hb' hd) rfl (XT.ll_gt_t hc) ho hp q) (yes hc)
  · exact RunW.stp (fun p e below T m c t hA hx hb' q => XS.ifNo hA hx rfl (hb hb' hd) rfl (XT.ll_gt_f hc) q) (no hc)
theorem RunW.lif_le {x y : Int64} {o : Int} {pa : Nat} (hd : decode code pc = .ok (.ifCond .le o, 3)) (ho : 0 ≤ (pc : Int) + o) (hp : ((pc : Int) + o).toNat = pc') (hq : pc + 3 = pa)
    (yes : ¬ y < x → RunW l Z EL n0 own code maxL ret nm R Q pc' Ls st h vm k n) (no : y < x → RunW l Z EL n0 own code maxL ret nm R Q pa Ls st h vm k n) : RunW l Z EL n0 own code maxL ret nm R Q pc Ls (.int (XT.cmpL x y) :: st) h vm k n := by
  subst hq
  by_cases hc : y < x
  · exact RunW.stp (fun p e below T m c t hA hx hb' q => XS.ifNo hA hx rfl (hb hb' hd) rfl (XT.ll_le_f hc) q) (no (by simpa using hc))
  · exact RunW.stp (fun p e below T m c t hA hx hb' q => XS.ifYes hA hx rfl rfl (hb hb' hd) rfl (XT.ll_le_t hc) ho hp q) (yes hc)
theorem RunW.acmp_eq {x y : Value} {o : Int} {pa : Nat} (hd : decode code pc = .ok (.if_acmp .eq o, 3)) (hv : x.isRef = true) (hv' : y.isRef = true) (ho : 0 ≤ (pc : Int) + o) (hp : ((pc : Int) + o).toNat = pc') (hq : pc + 3 = pa)
    (yes : x = y → RunW l Z EL n0 own code maxL ret nm R Q pc' Ls st h vm k n) (no : ¬ x = y → RunW l Z EL n0 own code maxL ret nm R Q pa Ls st h vm k n) : RunW l Z EL n0 own code maxL ret nm R Q pc Ls (y :: x :: st) h vm k n := by
  subst hq
  by_cases hc : x = y
  · exact RunW.stp (fun p e below T m c t hA hx hb' q => XT.acmpYes hA hx rfl rfl (hb hb' hd) rfl hv hv' (XT.aa_eq_t hc) ho hp q) (yes hc)
  · exact RunW.stp (fun p e below T m c t hA hx hb' q => XT.acmpNo hA hx rfl (hb hb' hd) rfl hv hv' (XT.aa_eq_f hc) q) (no hc)
theorem RunW.acmp_ne {x y : Value} {o : Int} {pa : Nat} (hd : decode code pc = .ok (.if_acmp .ne o, 3)) (hv : x.isRef = true) (hv' : y.isRef = true) (ho : 0 ≤ (pc : Int) + o) (hp : ((pc : Int) + o).toNat = pc') (hq : pc + 3 = pa)
    (yes : ¬ x = y → RunW l Z EL n0 own code maxL ret nm R Q pc' Ls st h vm k n) (no : x = y → RunW l Z EL n0 own code maxL ret nm R Q pa Ls st h vm k n) : RunW l Z EL n0 own code maxL ret nm R Q pc Ls (y :: x :: st) h vm k n := by
  subst hq
  by_cases hc : x = y
  · exact RunW.stp (fun p e below T m c t hA hx hb' q => XT.acmpNo hA hx rfl (hb hb' hd) rfl hv hv' (XT.aa_ne_f hc) q) (no (by simpa using hc))
  · exact RunW.stp (fun p e below T m c t hA hx hb' q => XT.acmpYes hA hx rfl rfl (hb hb' hd) rfl hv hv' (XT.aa_ne_t hc) ho hp q) (yes hc)
theorem RunW.ifnull {v : Value} {o : Int} {pa : Nat} (hd : decode code pc = .ok (.ifnull o, 3)) (hv : v.isRef = true) (ho : 0 ≤ (pc : Int) + o) (hp : ((pc : Int) + o).toNat = pc') (hq : pc + 3 = pa)
    (yes : v = .null → RunW l Z EL n0 own code maxL ret nm R Q pc' Ls st h vm k n) (no : ¬ v = .null → RunW l Z EL n0 own code maxL ret nm R Q pa Ls st h vm k n) : RunW l Z EL n0 own code maxL ret nm R Q pc Ls (v :: st) h vm k n := by
  subst hq
  by_cases hc : v = .null
  · exact RunW.stp (fun p e below T m c t hA hx hb' q => XT.nullYes hA hx rfl rfl (hb hb' hd) rfl hc ho hp q) (yes hc)
  · exact RunW.stp (fun p e below T m c t hA hx hb' q => XT.nullNo hA hx rfl (hb hb' hd) rfl hv hc q) (no hc)
theorem RunW.ifnonnull {v : Value} {o : Int} {pa : Nat} (hd : decode code pc = .ok (.ifnonnull o, 3)) (hv : v.isRef = true) (ho : 0 ≤ (pc : Int) + o) (hp : ((pc : Int) + o).toNat = pc') (hq : pc + 3 = pa)
    (yes : ¬ v = .null → RunW l Z EL n0 own code maxL ret nm R Q pc' Ls st h vm k n) (no : v = .null → RunW l Z EL n0 own code maxL ret nm R Q pa Ls st h vm k n) : RunW l Z EL n0 own code maxL ret nm R Q pc Ls (v :: st) h vm k n := by
  subst hq
  by_cases hc : v = .null
  · exact RunW.stp (fun p e below T m c t hA hx hb' q => XT.nonnullNo hA hx rfl (hb hb' hd) rfl hc q) (no hc)
  · exact RunW.stp (fun p e below T m c t hA hx hb' q => XT.nonnullYes hA hx rfl rfl (hb hb' hd) rfl hv hc ho hp q) (yes hc)
theorem RunW.ldcI {a0 : Array Value} {i : Nat} {v : Int32} (hd : decode code pc = .ok (.ldc i, 2)) (w : (Cond.constant own i v).before a0 Z = true) (hp : pc + 2 = pc') (nxt : RunW l Z EL n0 own code maxL ret nm R Q pc' Ls (.int v :: st) h vm k n) : RunW l Z EL n0 own code maxL ret nm R Q pc Ls st h vm k n := by
  subst hp
  exact RunW.via (fun p e s m args below meth c T locs cells slots hC X eT => ⟨T, X, eT, fun t q => X.ldcI hC.1 hC.2.2.1 (mvT hC.2.1 w) rfl (hb hC.2.2.2.1 hd) q⟩) nxt
theorem RunW.ldcWI {a0 : Array Value} {i : Nat} {v : Int32} (hd : decode code pc = .ok (.ldc_w i, 3)) (w : (Cond.constant own i v).before a0 Z = true) (hp : pc + 3 = pc') (nxt : RunW l Z EL n0 own code maxL ret nm R Q pc' Ls (.int v :: st) h vm k n) : RunW l Z EL n0 own code maxL ret nm R Q pc Ls st h vm k n := by
  subst hp
  exact RunW.via (fun p e s m args below meth c T locs cells slots hC X eT => ⟨T, X, eT, fun t q => X.ldcWI hC.1 hC.2.2.1 (mvT hC.2.1 w) rfl (hb hC.2.2.2.1 hd) q⟩) nxt
theorem RunW.ldc2J {a0 : Array Value} {i : Nat} {v : Int64} (hd : decode code pc = .ok (.ldc2_w i, 3)) (w : (Cond.constantLong own i v).before a0 Z = true) (hp : pc + 3 = pc') (nxt : RunW l Z EL n0 own code maxL ret nm R Q pc' Ls (.long v :: st) h vm k n) : RunW l Z EL n0 own code maxL ret nm R Q pc Ls st h vm k n := by
  subst hp
  exact RunW.via (fun p e s m args below meth c T locs cells slots hC X eT => ⟨T, X, eT, fun t q => X.ldc2J hC.1 hC.2.2.1 (mvT hC.2.1 w) rfl (hb hC.2.2.2.1 hd) q⟩) nxt
theorem RunW.getS {a0 : Array Value} {R0 O f d host : String} {i : Nat} {v : Value} (hd : decode code pc = .ok (.getstatic i, 3)) (w : (Cond.fieldLink own i R0 f d).before a0 Z = true ∨ (Cond.fieldLinkNest own i R0 f d host).before a0 Z = true) (via : Via Z R0 O f d) (F : Sta Z h O f d v) (hp : pc + 3 = pc') (nxt : RunW l Z EL n0 own code maxL ret nm R Q pc' Ls (v :: st) h vm k n) : RunW l Z EL n0 own code maxL ret nm R Q pc Ls st h vm k n := by
  subst hp
  exact RunW.via (fun p e s m args below meth c T locs cells slots hC X eT => getS2 X hC.1 hC.2.1 hC.2.2.1 w via eT F (g := mkF m pc Ls st) rfl (hb hC.2.2.2.1 hd)) nxt
theorem RunW.getF {a0 : Array Value} {R0 O f d host : String} {i : Nat} {a : Addr} {v : Value} (hd : decode code pc = .ok (.getfield i, 3)) (w : (Cond.fieldLink own i R0 f d).before a0 Z = true ∨ (Cond.fieldLinkNest own i R0 f d host).before a0 Z = true) (via : Via Z R0 O f d) (F : Fld Z h a O f d v) (hp : pc + 3 = pc') (nxt : RunW l Z EL n0 own code maxL ret nm R Q pc' Ls (v :: st) h vm k n) : RunW l Z EL n0 own code maxL ret nm R Q pc Ls (.ref a :: st) h vm k n := by
  subst hp
  exact RunW.via (fun p e s m args below meth c T locs cells slots hC X eT => getF X hC.1 hC.2.1 hC.2.2.1 w via eT F (g := mkF m pc Ls (.ref a :: st)) rfl rfl (hb hC.2.2.2.1 hd)) nxt
theorem RunW.initO {a0 : Array Value} {i : Nat} {a : Addr} (hd : decode code pc = .ok (.invokespecial i, 3)) (w1 : (Cond.methodLink own i Lib.objectInit).before a0 Z = true) (w2 : (Cond.instanceMethod Lib.objectInit).before a0 Z = true) (w3 : (Cond.code Lib.objectInit ⟨#[0xb1]⟩ 1 none).before a0 Z = true)
    (hsz : Ls.size = maxL) (hf : 1 ≤ R.frames) (hl : (st.map fun v => v.category).sum + 12 ≤ R.locals) (hp : pc + 3 = pc') (nxt : RunW l Z EL n0 own code maxL ret nm R Q pc' Ls st h vm k n) : RunW l Z EL n0 own code maxL ret nm R Q pc Ls (.ref a :: st) h vm k n := by
  subst hp
  exact RunW.via (fun p e s m args below meth c T locs cells slots hC X eT => initO X hC.1 hC.2.1 hC.2.2.1 w1 w2 w3 eT (g := mkF m pc Ls (.ref a :: st)) rfl (hsz.trans hC.2.2.2.2.1.symm) rfl (hb hC.2.2.2.1 hd) hf (W := (st.map fun v => v.category).sum) (by show 2 * 0 + _ ≤ _; omega) hl) nxt
theorem RunW.castY {a0 : Array Value} {K : String} {i : Nat} {a : Addr} (hd : decode code pc = .ok (.checkcast i, 3)) (w : (Cond.classLink own i K).before a0 Z = true) (F : Ins Z h a K true) (hp : pc + 3 = pc') (nxt : RunW l Z EL n0 own code maxL ret nm R Q pc' Ls (.ref a :: st) h vm k n) : RunW l Z EL n0 own code maxL ret nm R Q pc Ls (.ref a :: st) h vm k n := by
  subst hp
  exact RunW.via (fun p e s m args below meth c T locs cells slots hC X eT => castY X hC.1 hC.2.1 hC.2.2.1 w eT F (g := mkF m pc Ls (.ref a :: st)) rfl rfl (hb hC.2.2.2.1 hd)) nxt
theorem RunW.castNull {i : Nat} (hd : decode code pc = .ok (.checkcast i, 3)) (hp : pc + 3 = pc') (nxt : RunW l Z EL n0 own code maxL ret nm R Q pc' Ls (.null :: st) h vm k n) : RunW l Z EL n0 own code maxL ret nm R Q pc Ls (.null :: st) h vm k n := by
  subst hp
  exact RunW.via (fun p e s m args below meth c T locs cells slots hC X eT => ⟨T, X, eT, fun t q => X.checkcastNull hC.1 (g := mkF m pc Ls (.null :: st)) rfl rfl (hb hC.2.2.2.1 hd) t q⟩) nxt
theorem RunW.instY {a0 : Array Value} {K : String} {i : Nat} {a : Addr} (hd : decode code pc = .ok (.instanceof i, 3)) (w : (Cond.classLink own i K).before a0 Z = true) (F : Ins Z h a K true) (hp : pc + 3 = pc') (nxt : RunW l Z EL n0 own code maxL ret nm R Q pc' Ls (.int 1 :: st) h vm k n) : RunW l Z EL n0 own code maxL ret nm R Q pc Ls (.ref a :: st) h vm k n := by
  subst hp
  exact RunW.via (fun p e s m args below meth c T locs cells slots hC X eT => instY X hC.1 hC.2.1 hC.2.2.1 w eT F (g := mkF m pc Ls (.ref a :: st)) rfl rfl (hb hC.2.2.2.1 hd)) nxt
theorem RunW.instNo {a0 : Array Value} {K C : String} {i : Nat} {a : Addr} (hd : decode code pc = .ok (.instanceof i, 3)) (w : (Cond.classLink own i K).before a0 Z = true) (E : Exa Z h a C) (F : ∃ c t, Z.vm.findClass C = some c ∧ Z.vm.findClass K = some t ∧ Z.vm.assignable c t = false) (hp : pc + 3 = pc') (nxt : RunW l Z EL n0 own code maxL ret nm R Q pc' Ls (.int 0 :: st) h vm k n) : RunW l Z EL n0 own code maxL ret nm R Q pc Ls (.ref a :: st) h vm k n := by
  subst hp
  exact RunW.via (fun p e s m args below meth c T locs cells slots hC X eT => instNo X hC.1 hC.2.1 hC.2.2.1 w eT E F (g := mkF m pc Ls (.ref a :: st)) rfl rfl (hb hC.2.2.2.1 hd)) nxt
theorem RunW.instNull {i : Nat} (hd : decode code pc = .ok (.instanceof i, 3)) (hp : pc + 3 = pc') (nxt : RunW l Z EL n0 own code maxL ret nm R Q pc' Ls (.int 0 :: st) h vm k n) : RunW l Z EL n0 own code maxL ret nm R Q pc Ls (.null :: st) h vm k n := by
  subst hp
  exact RunW.via (fun p e s m args below meth c T locs cells slots hC X eT => ⟨T, X, eT, fun t q => X.instanceofNull hC.1 (g := mkF m pc Ls (.null :: st)) rfl rfl (hb hC.2.2.2.1 hd) t q⟩) nxt
theorem RunW.alen {a : Addr} {ty : FieldType} {vs : List Value} {z : Int32} (hd : decode code pc = .ok (.arraylength, 1)) (A : Ary Z h a ty vs) (hz : vs.length.toInt32 = z) (hp : pc + 1 = pc') (nxt : RunW l Z EL n0 own code maxL ret nm R Q pc' Ls (.int z :: st) h vm k n) : RunW l Z EL n0 own code maxL ret nm R Q pc Ls (.ref a :: st) h vm k n := by
  subst hp hz
  obtain ⟨c0, A, r⟩ := A
  exact RunW.via (fun p e s m args below meth c T locs cells slots hC X eT => ⟨T, X, eT, fun t q => X.arraylength hC.1 (by rw [eT]; exact A.1) (State.isArrayOf_alike hC.2.1.alike A.2.1) (g := mkF m pc Ls (.ref a :: st)) rfl rfl (hb hC.2.2.2.1 hd) t (by rw [sizeOf r]; exact q)⟩) nxt
theorem RunW.iaload {a : Addr} {vs : List Value} {j : Int32} {i : Nat} {v : Value} (hd : decode code pc = .ok (.iaload, 1)) (A : Ary Z h a .int vs) (hj : j.toInt = (i : Int)) (hv : vs[i]? = some v) (hp : pc + 1 = pc') (nxt : RunW l Z EL n0 own code maxL ret nm R Q pc' Ls (v :: st) h vm k n) : RunW l Z EL n0 own code maxL ret nm R Q pc Ls (.int j :: .ref a :: st) h vm k n := by
  subst hp
  obtain ⟨c0, A, r⟩ := A
  obtain ⟨hin, e0⟩ := idxIn (c := c0) hj (by rw [sizeOf r]; exact (List.getElem?_eq_some_iff.mp hv).1)
  exact RunW.via (fun p e s m args below meth c T locs cells slots hC X eT => ⟨T, X, eT, fun t q => X.iaload hC.1 (by rw [eT]; exact A.1) (State.isArrayOf_alike hC.2.1.alike A.2.1) A.2.2 hin (by rw [e0]; exact getOf r hv) (g := mkF m pc Ls (.int j :: .ref a :: st)) rfl rfl (hb hC.2.2.2.1 hd) t q⟩) nxt
theorem RunW.laload {a : Addr} {vs : List Value} {j : Int32} {i : Nat} {v : Value} (hd : decode code pc = .ok (.laload, 1)) (A : Ary Z h a .long vs) (hj : j.toInt = (i : Int)) (hv : vs[i]? = some v) (hp : pc + 1 = pc') (nxt : RunW l Z EL n0 own code maxL ret nm R Q pc' Ls (v :: st) h vm k n) : RunW l Z EL n0 own code maxL ret nm R Q pc Ls (.int j :: .ref a :: st) h vm k n := by
  subst hp
  obtain ⟨c0, A, r⟩ := A
  obtain ⟨hin, e0⟩ := idxIn (c := c0) hj (by rw [sizeOf r]; exact (List.getElem?_eq_some_iff.mp hv).1)
  exact RunW.via (fun p e s m args below meth c T locs cells slots hC X eT => ⟨T, X, eT, fun t q => X.laload hC.1 (by rw [eT]; exact A.1) (State.isArrayOf_alike hC.2.1.alike A.2.1) A.2.2 hin (by rw [e0]; exact getOf r hv) (g := mkF m pc Ls (.int j :: .ref a :: st)) rfl rfl (hb hC.2.2.2.1 hd) t q⟩) nxt
theorem RunW.caload {a : Addr} {vs : List Value} {j : Int32} {i : Nat} {v : Value} (hd : decode code pc = .ok (.caload, 1)) (A : Ary Z h a .char vs) (hj : j.toInt = (i : Int)) (hv : vs[i]? = some v) (hp : pc + 1 = pc') (nxt : RunW l Z EL n0 own code maxL ret nm R Q pc' Ls (v :: st) h vm k n) : RunW l Z EL n0 own code maxL ret nm R Q pc Ls (.int j :: .ref a :: st) h vm k n := by
  subst hp
  obtain ⟨c0, A, r⟩ := A
  obtain ⟨hin, e0⟩ := idxIn (c := c0) hj (by rw [sizeOf r]; exact (List.getElem?_eq_some_iff.mp hv).1)
  exact RunW.via (fun p e s m args below meth c T locs cells slots hC X eT => ⟨T, X, eT, fun t q => X.caload hC.1 (by rw [eT]; exact A.1) (State.isArrayOf_alike hC.2.1.alike A.2.1) A.2.2 hin (by rw [e0]; exact getOf r hv) (g := mkF m pc Ls (.int j :: .ref a :: st)) rfl rfl (hb hC.2.2.2.1 hd) t q⟩) nxt
theorem RunW.saload {a : Addr} {vs : List Value} {j : Int32} {i : Nat} {v : Value} (hd : decode code pc = .ok (.saload, 1)) (A : Ary Z h a .short vs) (hj : j.toInt = (i : Int)) (hv : vs[i]? = some v) (hp : pc + 1 = pc') (nxt : RunW l Z EL n0 own code maxL ret nm R Q pc' Ls (v :: st) h vm k n) : RunW l Z EL n0 own code maxL ret nm R Q pc Ls (.int j :: .ref a :: st) h vm k n := by
  subst hp
  obtain ⟨c0, A, r⟩ := A
  obtain ⟨hin, e0⟩ := idxIn (c := c0) hj (by rw [sizeOf r]; exact (List.getElem?_eq_some_iff.mp hv).1)
  exact RunW.via (fun p e s m args below meth c T locs cells slots hC X eT => ⟨T, X, eT, fun t q => X.saload hC.1 (by rw [eT]; exact A.1) (State.isArrayOf_alike hC.2.1.alike A.2.1) A.2.2 hin (by rw [e0]; exact getOf r hv) (g := mkF m pc Ls (.int j :: .ref a :: st)) rfl rfl (hb hC.2.2.2.1 hd) t q⟩) nxt
theorem RunW.baload {a : Addr} {vs : List Value} {j : Int32} {i : Nat} {v : Value} (hd : decode code pc = .ok (.baload, 1)) (A : Ary Z h a .byte vs) (hj : j.toInt = (i : Int)) (hv : vs[i]? = some v) (hp : pc + 1 = pc') (nxt : RunW l Z EL n0 own code maxL ret nm R Q pc' Ls (v :: st) h vm k n) : RunW l Z EL n0 own code maxL ret nm R Q pc Ls (.int j :: .ref a :: st) h vm k n := by
  subst hp
  obtain ⟨c0, A, r⟩ := A
  obtain ⟨hin, e0⟩ := idxIn (c := c0) hj (by rw [sizeOf r]; exact (List.getElem?_eq_some_iff.mp hv).1)
  exact RunW.via (fun p e s m args below meth c T locs cells slots hC X eT => ⟨T, X, eT, fun t q => X.baloadBytes hC.1 (by rw [eT]; exact A.1) (State.isArrayOf_alike hC.2.1.alike A.2.1) A.2.2 hin (by rw [e0]; exact getOf r hv) (g := mkF m pc Ls (.int j :: .ref a :: st)) rfl rfl (hb hC.2.2.2.1 hd) t q⟩) nxt
theorem RunW.aaload {a : Addr} {vs : List Value} {j : Int32} {i : Nat} {v : Value} {ty : FieldType} (hd : decode code pc = .ok (.aaload, 1)) (A : Ary Z h a ty vs) (hty : ty.isReference = true) (hj : j.toInt = (i : Int)) (hv : vs[i]? = some v) (hp : pc + 1 = pc') (nxt : RunW l Z EL n0 own code maxL ret nm R Q pc' Ls (v :: st) h vm k n) : RunW l Z EL n0 own code maxL ret nm R Q pc Ls (.int j :: .ref a :: st) h vm k n := by
  subst hp
  obtain ⟨c0, A, r⟩ := A
  obtain ⟨hin, e0⟩ := idxIn (c := c0) hj (by rw [sizeOf r]; exact (List.getElem?_eq_some_iff.mp hv).1)
  exact RunW.via (fun p e s m args below meth c T locs cells slots hC X eT => ⟨T, X, eT, fun t q => X.aaload hC.1 (by rw [eT]; exact A.1) (State.isArrayOf_alike hC.2.1.alike A.2.1) hty A.2.2 hin (by rw [e0]; exact getOf r hv) (g := mkF m pc Ls (.int j :: .ref a :: st)) rfl rfl (hb hC.2.2.2.1 hd) t q⟩) nxt
theorem GoW.fin {p : Program} {e : Env} {s : State} {m : MethodId} {args : Array Value} {below : List Frame} {meth : Method} {c : Code} {T S : State} {locs : List Loc} {cells slots k0 : Nat} {v : Option Value} (X : Stand p l e R (s.setVm vm) m args below meth c T locs cells slots) (hZ : Z.Warmed39 (s.setVm vm).vm) (hS : s.Since vm k0) (hk0 : k0 ≤ h.size) (hR : CHr Z EL s.vm s.heap vm h) (hE : ∃ a0, EW Z a0 EL) (eT : T.heap = h) (hv : meth.sig.returnType = none → v = none) (hlk : meth.locks = false) (hF : Fr n0 locs) (hk : cells ≤ R.cells) (hn : slots ≤ R.slots) (hQ : Q v h)
    (f : ∀ fs, (∀ (f : JFrame) (acts : List Action), f.method = m → f.locked = none → f.entered = [] → (doReturn e (T.setTop f) acts v).1 = T.setFrames fs) → Steps p.tables e below S (T.setFrames fs)) : GoW p e below Z s EL n0 R.cells R.slots Q S := by
  subst eT
  obtain ⟨a0, hE⟩ := hE
  have hRq := hR.trans (CHv.at X hZ hE hR.1)
  obtain ⟨fs, hr, hrun, hended, hW⟩ := X.leaveW hS hk0 (v := v) hv hlk
  exact ⟨_, v, locs, f fs hr, hrun, hended, ⟨hQ, hF⟩, hRq, hW.1, hW.2.1, hW.2.2.1, hW.2.2.2.mono hk hn⟩
theorem RunW.ireturn {z : Int32} (hd : decode code pc = .ok (.ireturn, 1)) (hret : ret = some .int) (hk : k ≤ R.cells) (hn : n ≤ R.slots) (hQ : Q (some (.int z)) h) : RunW l Z EL n0 own code maxL ret nm R Q pc Ls (.int z :: st) h vm k n := by
  intro p e s m args below meth c T locs cells slots k0 hC X hS hk0 hR hE eT hF hk' hn'
  have hr := hC.2.2.2.2.2.1
  exact GoW.fin X hC.2.1 hS hk0 hR hE eT (fun q => by rw [hr, hret] at q; cases q) hC.2.2.2.2.2.2.1 hF (Nat.le_trans hk' hk) (Nat.le_trans hn' hn) hQ (fun fs hl => retOut X hC.1 (hr.trans hret) rfl (Or.inl ⟨rfl, Or.inl rfl, z, rfl⟩) (hb hC.2.2.2.1 hd) hl)
theorem RunW.nreturn {z : Int32} {ty : FieldType} (hd : decode code pc = .ok (.ireturn, 1)) (hret : ret = some ty) (ht : ty = .boolean ∨ ty = .byte ∨ ty = .char ∨ ty = .short) (hk : k ≤ R.cells) (hn : n ≤ R.slots) (hQ : Q (some (.int (nar ty z))) h) : RunW l Z EL n0 own code maxL ret nm R Q pc Ls (.int z :: st) h vm k n := by
  intro p e s m args below meth c T locs cells slots k0 hC X hS hk0 hR hE eT hF hk' hn'
  have hr := hC.2.2.2.2.2.1
  exact GoW.fin X hC.2.1 hS hk0 hR hE eT (fun q => by rw [hr, hret] at q; cases q) hC.2.2.2.2.2.2.1 hF (Nat.le_trans hk' hk) (Nat.le_trans hn' hn) hQ (fun fs hl => retN X hC.1 (hr.trans hret) ht (hb hC.2.2.2.1 hd) hl)
theorem RunW.lreturn {z : Int64} (hd : decode code pc = .ok (.lreturn, 1)) (hret : ret = some .long) (hk : k ≤ R.cells) (hn : n ≤ R.slots) (hQ : Q (some (.long z)) h) : RunW l Z EL n0 own code maxL ret nm R Q pc Ls (.long z :: st) h vm k n := by
  intro p e s m args below meth c T locs cells slots k0 hC X hS hk0 hR hE eT hF hk' hn'
  have hr := hC.2.2.2.2.2.1
  exact GoW.fin X hC.2.1 hS hk0 hR hE eT (fun q => by rw [hr, hret] at q; cases q) hC.2.2.2.2.2.2.1 hF (Nat.le_trans hk' hk) (Nat.le_trans hn' hn) hQ (fun fs hl => retOut X hC.1 (hr.trans hret) rfl (Or.inr (Or.inl ⟨rfl, rfl, z, rfl⟩)) (hb hC.2.2.2.1 hd) hl)
theorem RunW.areturn {w : Value} {ty : FieldType} (hd : decode code pc = .ok (.areturn, 1)) (hret : ret = some ty) (ht : ty.isReference = true) (hw : w.isRef = true) (hk : k ≤ R.cells) (hn : n ≤ R.slots) (hQ : Q (some w) h) : RunW l Z EL n0 own code maxL ret nm R Q pc Ls (w :: st) h vm k n := by
  intro p e s m args below meth c T locs cells slots k0 hC X hS hk0 hR hE eT hF hk' hn'
  have hr := hC.2.2.2.2.2.1
  exact GoW.fin X hC.2.1 hS hk0 hR hE eT (fun q => by rw [hr, hret] at q; cases q) hC.2.2.2.2.2.2.1 hF (Nat.le_trans hk' hk) (Nat.le_trans hn' hn) hQ (fun fs hl => retOut X hC.1 (hr.trans hret) (go_narref ht hw) (Or.inr (Or.inr (Or.inr (Or.inr ⟨rfl, ht, hw⟩)))) (hb hC.2.2.2.1 hd) hl)
theorem RunW.vreturn  (hd : decode code pc = .ok (.return_, 1)) (hret : ret = none) (hk : k ≤ R.cells) (hn : n ≤ R.slots) (hQ : Q none h) : RunW l Z EL n0 own code maxL ret nm R Q pc Ls [] h vm k n := by
  intro p e s m args below meth c T locs cells slots k0 hC X hS hk0 hR hE eT hF hk' hn'
  have hr := hC.2.2.2.2.2.1
  exact GoW.fin X hC.2.1 hS hk0 hR hE eT (fun _ => rfl) hC.2.2.2.2.2.2.1 hF (Nat.le_trans hk' hk) (Nat.le_trans hn' hn) hQ (fun fs hl => X.returnOut hC.1 (hr.trans hret) (hb hC.2.2.2.1 hd) hl)

theorem RunW.wr {a : Addr} {sl : Nat} {v : Value} {Ls' : Array Slot} {st' : List Value} (f : ∀ (p : Program) (e : Env) (s : State) (m : MethodId) (args : Array Value) (below : List Frame) (meth : Method) (c : Code) (T : State) (locs : List Loc) (cells slots : Nat),
      Ctx Z own code maxL ret nm p s m meth c → Stand p l e R s m args below meth c T locs cells slots → T.heap = h → ∃ T' h', Stand p l e R s m args below meth c T' (locs ++ [⟨a, sl⟩]) cells slots ∧ T'.heap = h' ∧ Wr h h' a sl v ∧ ∀ t, Steps p.tables e below (T'.setTop (mkF m pc' Ls' st')) t → Steps p.tables e below (T.setTop (mkF m pc Ls st)) t)
    (ha : n0 ≤ a) (sa : Safe Z EL vm h a) (nxt : ∀ h', Wr h h' a sl v → CHr Z EL vm h vm h' → RunW l Z EL n0 own code maxL ret nm R Q pc' Ls' st' h' vm k n) : RunW l Z EL n0 own code maxL ret nm R Q pc Ls st h vm k n := by
  intro p e s m args below meth c T locs cells slots k0 hC X hS hk0 hR hE eT hF hk hn
  obtain ⟨T', h', X', e', W, stp⟩ := f p e (s.setVm vm) m args below meth c T locs cells slots hC X eT
  have c1 := CHr.wr W sa hR.1
  obtain ⟨s₂, v', L, g1, g2⟩ := nxt h' W c1 p e s m args below meth c T' _ cells slots k0 hC X' hS (by rw [W.size]; exact hk0) (hR.trans c1) hE e' (Fr.snoc X' hF ha) hk hn
  exact ⟨s₂, v', L, stp _ g1, g2⟩
theorem RunW.newO {a0 : Array Value} {C : String} {i sl : Nat} (hd : decode code pc = .ok (.new i, 3)) (w : (Cond.classLink own i C).before a0 Z = true) (wi : (Cond.instantiable C sl).before a0 Z = true) (wz : (Cond.initialized C).before a0 Z = true)
    (hk : k + 1 ≤ k') (hk' : k' ≤ R.cells) (hn : n + sl ≤ n') (hn' : n' ≤ R.slots) (hp : pc + 3 = pc')
    (nxt : ∀ h' a, a = h.size → Ext h h' → Exa Z h' a C → (∀ {O f d : String} {ty : FieldType}, Laid Z a0 C O f d → parseFieldDescriptor d = some ty → Fld Z h' a O f d (defaultValue ty)) → CHr Z EL vm h vm h' → Safe Z EL vm h' a → RunW l Z EL n0 own code maxL ret nm R Q pc' Ls (.ref a :: st) h' vm k' n') : RunW l Z EL n0 own code maxL ret nm R Q pc Ls st h vm k n := by
  subst hp
  intro p e s m args below meth c T locs cells slots k0 hC X hS hk0 hR hE eT hF hkk hnn
  obtain ⟨T', h', X', e', E, A, D, -, stp⟩ := newO X hC.1 hC.2.1 hC.2.2.1 w wi wz eT (g := mkF m pc Ls st) rfl (hb hC.2.2.2.1 hd) (by omega) (by omega)
  have c1 := CHr.ext E hR.1
  obtain ⟨s₂, v, L, g1, g2⟩ := nxt h' h.size rfl E A D c1 (Safe.ext E hR.1 (Safe.new (Nat.le_refl _))) p e s m args below meth c T' locs _ _ k0 hC X' hS (Nat.le_trans hk0 E.1) (hR.trans c1) hE e' hF (by omega) (by omega)
  exact ⟨s₂, v, L, stp _ g1, g2⟩
theorem RunW.newP {a0 : Array Value} {aty : ArrayType} {ty : FieldType} {z : Int32} {cap m : Nat} {dv : Value} (hd : decode code pc = .ok (.newarray aty, 2)) (hty : newarray.typeOf aty = ty) (w : (Cond.arrayClass ty).before a0 Z = true) (hz : ¬ z < 0) (hcap : z.toNatClampNeg = m) (hm : m ≤ cap) (hdv : defaultValue ty = dv) (hcb : cap * 8 ≤ 536870912)
    (hk : k + 1 ≤ k') (hk' : k' ≤ R.cells) (hn : n + cap ≤ n') (hn' : n' ≤ R.slots) (hp : pc + 2 = pc')
    (nxt : ∀ h' a, a = h.size → Ext h h' → Ary Z h' a ty (List.replicate m dv) → CHr Z EL vm h vm h' → Safe Z EL vm h' a → RunW l Z EL n0 own code maxL ret nm R Q pc' Ls (.ref a :: st) h' vm k' n') : RunW l Z EL n0 own code maxL ret nm R Q pc Ls (.int z :: st) h vm k n := by
  subst hp hty hdv
  intro p e s m' args below meth c T locs cells slots k0 hC X hS hk0 hR hE eT hF hkk hnn
  obtain ⟨T', h', cA, X', e', E, A, stp⟩ := newP X hC.1 hC.2.1 w eT (g := mkF m' pc Ls (.int z :: st)) rfl (hb hC.2.2.2.1 hd) rfl hz (by omega) hcb (by omega) (by omega)
  have c1 := CHr.ext E hR.1
  obtain ⟨s₂, v, L, g1, g2⟩ := nxt h' h.size rfl E ⟨_, A, by simp [newA, hcap]⟩ c1 (Safe.ext E hR.1 (Safe.new (Nat.le_refl _))) p e s m' args below meth c T' locs _ _ k0 hC X' hS (Nat.le_trans hk0 E.1) (hR.trans c1) hE e' hF (by omega) (by omega)
  exact ⟨s₂, v, L, stp _ g1, g2⟩
theorem RunW.putF {a0 : Array Value} {R0 O f d host C : String} {i sl : Nat} {ty : FieldType} {a : Addr} {v old : Value} (hd : decode code pc = .ok (.putfield i, 3)) (w : (Cond.fieldLink own i R0 f d).before a0 Z = true ∨ (Cond.fieldLinkNest own i R0 f d host).before a0 Z = true) (via : Via Z R0 O f d) (F : Fld Z h a O f d old) (E : Exa Z h a C)
    (L : (Cond.lays C O f d).before a0 Z = true ∨ ((Cond.laysFinal C O f d).before a0 Z = true ∧ own = O ∧ nm = "<init>")) (wi : (Cond.instantiable C sl).before a0 Z = true) (hty : parseFieldDescriptor d = some ty) (hnv : narrow ty v = v) (hfv : fits ty v = true) (ha : n0 ≤ a) (sa : Safe Z EL vm h a) (hp : pc + 3 = pc')
    (nxt : ∀ h', Wr h h' a (Jvm.RoadKit.slotOf Z O f d) v → CHr Z EL vm h vm h' → RunW l Z EL n0 own code maxL ret nm R Q pc' Ls st h' vm k n) : RunW l Z EL n0 own code maxL ret nm R Q pc Ls (v :: .ref a :: st) h vm k n := by
  subst hp
  exact RunW.wr (fun p e s m args below meth c T locs cells slots hC X eT => putF X hC.1 hC.2.1 hC.2.2.1 w via eT F E (L.imp id fun q => ⟨q.1, q.2.1, hC.2.2.2.2.2.2.2.trans q.2.2⟩) wi hty hnv hfv (g := mkF m pc Ls (v :: .ref a :: st)) rfl rfl (hb hC.2.2.2.1 hd)) ha sa nxt
theorem RunW.putFN {a0 : Array Value} {R0 O f d C : String} {i sl : Nat} {ty : FieldType} {a : Addr} {v v' old : Value} (hd : decode code pc = .ok (.putfield i, 3)) (w : (Cond.fieldLink own i R0 f d).before a0 Z = true) (via : Via Z R0 O f d) (F : Fld Z h a O f d old) (E : Exa Z h a C)
    (L : (Cond.lays C O f d).before a0 Z = true ∨ ((Cond.laysFinal C O f d).before a0 Z = true ∧ own = O ∧ nm = "<init>")) (wi : (Cond.instantiable C sl).before a0 Z = true) (hty : parseFieldDescriptor d = some ty) (hnv : narrow ty v = v') (hfv : fits ty v' = true) (ha : n0 ≤ a) (sa : Safe Z EL vm h a) (hp : pc + 3 = pc')
    (nxt : ∀ h', Wr h h' a (Jvm.RoadKit.slotOf Z O f d) v' → CHr Z EL vm h vm h' → RunW l Z EL n0 own code maxL ret nm R Q pc' Ls st h' vm k n) : RunW l Z EL n0 own code maxL ret nm R Q pc Ls (v :: .ref a :: st) h vm k n := by
  subst hp
  exact RunW.wr (fun p e s m args below meth c T locs cells slots hC X eT => putFN X hC.1 hC.2.1 hC.2.2.1 w via eT F E (L.imp id fun q => ⟨q.1, q.2.1, hC.2.2.2.2.2.2.2.trans q.2.2⟩) wi hty hnv hfv (g := mkF m pc Ls (v :: .ref a :: st)) rfl rfl (hb hC.2.2.2.1 hd)) ha sa nxt
theorem RunW.iastore {a : Addr} {vs : List Value} {j : Int32} {i : Nat} {x : Int32} (hd : decode code pc = .ok (.iastore, 1)) (A : Ary Z h a .int vs) (hj : j.toInt = (i : Int)) (hi : i < vs.length) (ha : n0 ≤ a) (sa : Safe Z EL vm h a) (hp : pc + 1 = pc') (nxt : ∀ h', Wr h h' a i (.int x) → CHr Z EL vm h vm h' → Ary Z h' a .int (vs.set i (.int x)) → RunW l Z EL n0 own code maxL ret nm R Q pc' Ls st h' vm k n) : RunW l Z EL n0 own code maxL ret nm R Q pc Ls (.int x :: .int j :: .ref a :: st) h vm k n := by
  subst hp
  have A' := A
  obtain ⟨c0, A, r⟩ := A
  obtain ⟨hin, e0⟩ := idxIn (c := c0) hj (by rw [sizeOf r]; exact hi)
  refine RunW.wr (fun p e s m args below meth c T locs cells slots hC X eT => ?_) ha sa (fun h' W c1 => nxt h' W c1 (A'.set W))
  have q := stI X hC.1 hC.2.1 eT A hin (g := mkF m pc Ls (.int x :: .int j :: .ref a :: st)) rfl rfl (hb hC.2.2.2.1 hd)
  rw [e0] at q
  exact q
theorem RunW.lastore {a : Addr} {vs : List Value} {j : Int32} {i : Nat} {x : Int64} (hd : decode code pc = .ok (.lastore, 1)) (A : Ary Z h a .long vs) (hj : j.toInt = (i : Int)) (hi : i < vs.length) (ha : n0 ≤ a) (sa : Safe Z EL vm h a) (hp : pc + 1 = pc') (nxt : ∀ h', Wr h h' a i (.long x) → CHr Z EL vm h vm h' → Ary Z h' a .long (vs.set i (.long x)) → RunW l Z EL n0 own code maxL ret nm R Q pc' Ls st h' vm k n) : RunW l Z EL n0 own code maxL ret nm R Q pc Ls (.long x :: .int j :: .ref a :: st) h vm k n := by
  subst hp
  have A' := A
  obtain ⟨c0, A, r⟩ := A
  obtain ⟨hin, e0⟩ := idxIn (c := c0) hj (by rw [sizeOf r]; exact hi)
  refine RunW.wr (fun p e s m args below meth c T locs cells slots hC X eT => ?_) ha sa (fun h' W c1 => nxt h' W c1 (A'.set W))
  have q := stJ X hC.1 hC.2.1 eT A hin (g := mkF m pc Ls (.long x :: .int j :: .ref a :: st)) rfl rfl (hb hC.2.2.2.1 hd)
  rw [e0] at q
  exact q
theorem RunW.castore {a : Addr} {vs : List Value} {j : Int32} {i : Nat} {x : Int32} (hd : decode code pc = .ok (.castore, 1)) (A : Ary Z h a .char vs) (hj : j.toInt = (i : Int)) (hi : i < vs.length) (ha : n0 ≤ a) (sa : Safe Z EL vm h a) (hp : pc + 1 = pc') (nxt : ∀ h', Wr h h' a i (.int (nar .char x)) → CHr Z EL vm h vm h' → Ary Z h' a .char (vs.set i (.int (nar .char x))) → RunW l Z EL n0 own code maxL ret nm R Q pc' Ls st h' vm k n) : RunW l Z EL n0 own code maxL ret nm R Q pc Ls (.int x :: .int j :: .ref a :: st) h vm k n := by
  subst hp
  have A' := A
  obtain ⟨c0, A, r⟩ := A
  obtain ⟨hin, e0⟩ := idxIn (c := c0) hj (by rw [sizeOf r]; exact hi)
  refine RunW.wr (fun p e s m args below meth c T locs cells slots hC X eT => ?_) ha sa (fun h' W c1 => nxt h' W c1 (A'.set W))
  have q := stC X hC.1 hC.2.1 eT A hin (g := mkF m pc Ls (.int x :: .int j :: .ref a :: st)) rfl rfl (hb hC.2.2.2.1 hd)
  rw [e0] at q
  exact q
theorem RunW.sastore {a : Addr} {vs : List Value} {j : Int32} {i : Nat} {x : Int32} (hd : decode code pc = .ok (.sastore, 1)) (A : Ary Z h a .short vs) (hj : j.toInt = (i : Int)) (hi : i < vs.length) (ha : n0 ≤ a) (sa : Safe Z EL vm h a) (hp : pc + 1 = pc') (nxt : ∀ h', Wr h h' a i (.int (nar .short x)) → CHr Z EL vm h vm h' → Ary Z h' a .short (vs.set i (.int (nar .short x))) → RunW l Z EL n0 own code maxL ret nm R Q pc' Ls st h' vm k n) : RunW l Z EL n0 own code maxL ret nm R Q pc Ls (.int x :: .int j :: .ref a :: st) h vm k n := by
  subst hp
  have A' := A
  obtain ⟨c0, A, r⟩ := A
  obtain ⟨hin, e0⟩ := idxIn (c := c0) hj (by rw [sizeOf r]; exact hi)
  refine RunW.wr (fun p e s m args below meth c T locs cells slots hC X eT => ?_) ha sa (fun h' W c1 => nxt h' W c1 (A'.set W))
  have q := stS X hC.1 hC.2.1 eT A hin (g := mkF m pc Ls (.int x :: .int j :: .ref a :: st)) rfl rfl (hb hC.2.2.2.1 hd)
  rw [e0] at q
  exact q
theorem RunW.bastore {a : Addr} {vs : List Value} {j : Int32} {i : Nat} {x : Int32} (hd : decode code pc = .ok (.bastore, 1)) (A : Ary Z h a .byte vs) (hj : j.toInt = (i : Int)) (hi : i < vs.length) (ha : n0 ≤ a) (sa : Safe Z EL vm h a) (hp : pc + 1 = pc') (nxt : ∀ h', Wr h h' a i (.int (nar .byte x)) → CHr Z EL vm h vm h' → Ary Z h' a .byte (vs.set i (.int (nar .byte x))) → RunW l Z EL n0 own code maxL ret nm R Q pc' Ls st h' vm k n) : RunW l Z EL n0 own code maxL ret nm R Q pc Ls (.int x :: .int j :: .ref a :: st) h vm k n := by
  subst hp
  have A' := A
  obtain ⟨c0, A, r⟩ := A
  obtain ⟨hin, e0⟩ := idxIn (c := c0) hj (by rw [sizeOf r]; exact hi)
  refine RunW.wr (fun p e s m args below meth c T locs cells slots hC X eT => ?_) ha sa (fun h' W c1 => nxt h' W c1 (A'.set W))
  have q := stB X hC.1 hC.2.1 eT A hin (g := mkF m pc Ls (.int x :: .int j :: .ref a :: st)) rfl rfl (hb hC.2.2.2.1 hd)
  rw [e0] at q
  exact q
theorem backW {p : Program} {e : Env} {s : State} {args : Array Value} {below : List Frame} {a0 a1 : Array Value} {y : MethodName} {bytes : ByteArray} {mL : Nat} {rt : Option FieldType} {rm : Room} {len W : Nat} {as' : Array Value} {sf : List Addr} {Q : Option Value → Heap → List Loc → Prop}
    (hM : MetFree l y (head1 [Cond.code y bytes mL rt] rm) (fun a U => a = as' ∧ Z.Warmed39 U.vm ∧ U.heap = h ∧ CHv Z EL U.vm h ∧ ∀ x ∈ sf, Safe Z EL U.vm h x) (fun _ _ _ _ _ => True) (fun _ U o U' => ∃ v L, o = .returned v ∧ Q v U'.heap L ∧ CHr Z EL U.vm U.heap U'.vm U'.heap ∧ ReturnedEndW U o U' L rm.cells rm.slots))
    (hZ : Z.Warmed39 (s.setVm vm).vm) (wc : (Cond.code y bytes mL rt).before a0 Z = true) (wz : (Cond.initialized y.cls).before a0 Z = true) (hf : rm.frames + 1 ≤ R.frames) (hl : W + (mL + 11) + rm.locals ≤ R.locals) (hEL : EW Z a1 EL) (H : CHv Z EL vm h) (hsf : ∀ x ∈ sf, Safe Z EL vm h x) :
    BackS l R p e below (s.setVm vm) args y len W (fun A a => a = as' ∧ A.U.heap = h ∧ A.cells + rm.cells ≤ R.cells ∧ A.slots + rm.slots ≤ R.slots)
      (fun A _ v B => ∃ L, Q v B.U.heap L ∧ B.locs = A.locs ++ L ∧ B.cells = A.cells + rm.cells ∧ B.slots = A.slots + rm.slots ∧ CHr Z EL vm h B.U.vm B.U.heap) := by
  refine BackS.of_freeW (bytes := bytes) (maxL := mL) (ret := rt) (E := fun _ first o t L k n => k = rm.cells ∧ n = rm.slots ∧ (∃ v, o = .returned v ∧ Q v t.heap L) ∧ CHr Z EL first.vm first.heap t.vm t.heap) hM hf hl ?_ ?_ (fun _ _ _ _ _ _ _ _ _ => trivial) (fun _ _ _ _ ⟨v, L, h1, h2, h3, h4⟩ => ⟨L, _, _, h4, rfl, rfl, ⟨v, h1, h2⟩, h3⟩) ?_
  · intro m meth c A a Y hp
    have hU : Z.Warmed39 A.U.vm := wtrans (s := s.setVm vm) hZ Y.warmed
    exact ⟨by show (Cond.and _ .tt).before a A.U = true; rw [Cond.before_and, mv hU wc]; rfl, mv hU wc, mv hU wz, hp.2.2.1, hp.2.2.2⟩
  · intro m meth c A a g mk Y hp
    have c1 := CHv.at Y hZ hEL H
    refine ⟨hp.1, wtrans (s := s.setVm vm) hZ Y.warmed, hp.2.1, c1.1, fun x hx => ?_⟩
    exact fun B => by
      rcases c1.2.2 x B with q | q
      · exact hsf x hx q
      · obtain ⟨cell, q2⟩ := B.there
        exact absurd (Array.getElem?_eq_some_iff.mp q2).1 (Nat.not_lt.mpr q)
  · intro m meth c A a g mk v t L k n Y hp _ _ hq
    obtain ⟨e1, e2, ⟨v', e3, e4⟩, e5⟩ := hq
    cases e3; subst e1 e2
    refine ⟨L, e4, rfl, rfl, rfl, (CHv.at Y hZ hEL H).trans ?_⟩
    rw [← hp.2.1]; exact e5
theorem RunW.callS {a0 : Array Value} {y : MethodName} {bytes : ByteArray} {mL : Nat} {rt : Option FieldType} {rm : Room} {as rest : List Value} {Qy : Option Value → Heap → Prop} {i : Nat} {ps : List FieldType} {rr : Option FieldType}
    (hC : Con l Z n0 y bytes mL rt rm as.toArray h Qy) (hs : ∀ v h', Qy v h' → ∃ ws, Keep h h' ws ∧ ∀ x ∈ ws, Safe Z EL vm h x) (hd : decode code pc = .ok (.invokestatic i, 3)) (w1 : (Cond.methodLink own i y).before a0 Z = true) (w2 : (Cond.static y).before a0 Z = true) (w3 : (Cond.initialized y.cls).before a0 Z = true) (w4 : (Cond.code y bytes mL rt).before a0 Z = true)
    (hy : y.cls ≠ "java/lang/invoke/MethodHandle" ∧ y.cls ≠ "java/lang/invoke/VarHandle") (hds : parseMethodDescriptor y.desc = some ⟨ps, rr⟩) (hl : as.length = ps.length) (hst : st = as.reverse ++ rest) (hsz : Ls.size = maxL)
    (hf : rm.frames + 1 ≤ R.frames) (hlo : (rest.map fun v => v.category).sum + (mL + 11) + rm.locals ≤ R.locals) (hk : k + rm.cells ≤ k') (hk' : k' ≤ R.cells) (hn : n + rm.slots ≤ n') (hn' : n' ≤ R.slots) (hp : pc + 3 = pc')
    (nxt : ∀ v h', Qy v h' → CHr Z EL vm h vm h' → RunW l Z EL n0 own code maxL ret nm R Q pc' Ls (v.toList ++ rest) h' vm k' n') : RunW l Z EL n0 own code maxL ret nm R Q pc Ls st h vm k n := by
  subst hp hst
  intro p e s m args below meth c T locs cells slots k0 hX X hS hk0 hR hE eT hF hc hss
  obtain ⟨hx, hZ, hown, hby, hml, -⟩ := id hX
  obtain ⟨v, vm₁, ⟨B, L', cc, ss⟩, -, X', ⟨Lc, hQ, l1, y1, z1⟩, stp⟩ := Jvm.LawKit.callS X hx (y := y) hown (mvT hZ w1) (mvT hZ w2) (mvT hZ w3) (mvT hZ w4) hy (backOf (W := (rest.map fun v => v.category).sum) (Q := fun v h L => Qy v h ∧ Fr n0 L) (hC []) hZ w4 w3 hf hlo) (g := mkF m pc Ls (as.reverse ++ rest)) rfl (hsz.trans hml.symm) (argsL := as) (rest := rest) (lenOf hds hl) rfl (by show 2 * 0 + _ ≤ _; omega) (hb hby hd) (fun _ _ => ⟨rfl, eT, (by show cells + rm.cells ≤ R.cells; omega), (by show slots + rm.slots ≤ R.slots; omega)⟩)
  dsimp only [Pt.U, Pt.locs, Pt.cells, Pt.slots] at X' l1 y1 z1 stp hQ
  subst l1 y1 z1
  obtain ⟨ws, K, hsw⟩ := hs v _ hQ.1
  have c1 := CHr.keep K hsw hR.1
  obtain ⟨s₂, v', L, g1, g2⟩ := nxt v _ hQ.1 c1 p e s m args below meth c B _ _ _ k0 hX X' hS (Nat.le_trans hk0 K.1) (hR.trans c1) hE rfl (Fr.app hF hQ.2) (by omega) (by omega)
  exact ⟨s₂, v', L, stp _ g1, g2⟩
theorem RunW.callSW {a0 a1 : Array Value} {sf : List Addr} {y : MethodName} {bytes : ByteArray} {mL : Nat} {rt : Option FieldType} {rm : Room} {as rest : List Value} {Qy : Option Value → Heap → Prop} {i : Nat} {ps : List FieldType} {rr : Option FieldType}
    (hC : ConW l Z EL n0 y bytes mL rt rm as.toArray h sf Qy) (hsf : ∀ x ∈ sf, Safe Z EL vm h x) (hEL : EW Z a1 EL) (hd : decode code pc = .ok (.invokestatic i, 3)) (w1 : (Cond.methodLink own i y).before a0 Z = true) (w2 : (Cond.static y).before a0 Z = true) (w3 : (Cond.initialized y.cls).before a0 Z = true) (w4 : (Cond.code y bytes mL rt).before a0 Z = true)
    (hy : y.cls ≠ "java/lang/invoke/MethodHandle" ∧ y.cls ≠ "java/lang/invoke/VarHandle") (hds : parseMethodDescriptor y.desc = some ⟨ps, rr⟩) (hl : as.length = ps.length) (hst : st = as.reverse ++ rest) (hsz : Ls.size = maxL)
    (hf : rm.frames + 1 ≤ R.frames) (hlo : (rest.map fun v => v.category).sum + (mL + 11) + rm.locals ≤ R.locals) (hk : k + rm.cells ≤ k') (hk' : k' ≤ R.cells) (hn : n + rm.slots ≤ n') (hn' : n' ≤ R.slots) (hp : pc + 3 = pc')
    (nxt : ∀ v h' vm', Qy v h' → CHr Z EL vm h vm' h' → RunW l Z EL n0 own code maxL ret nm R Q pc' Ls (v.toList ++ rest) h' vm' k' n') : RunW l Z EL n0 own code maxL ret nm R Q pc Ls st h vm k n := by
  subst hp hst
  intro p e s m args below meth c T locs cells slots k0 hX X hS hk0 hR hE eT hF hc hss
  obtain ⟨hx, hZ, hown, hby, hml, hrt, hlk, hnm⟩ := id hX
  obtain ⟨v, vm₁, ⟨B, L', cc, ss⟩, -, X', hS2, hgr, ⟨Lc, hQ, l1, y1, z1, c1⟩, stp⟩ := callSS X hx (y := y) hown (mvT hZ w1) (mvT hZ w2) (mvT hZ w3) (mvT hZ w4) hy (backW (W := (rest.map fun v => v.category).sum) (Q := fun v h L => Qy v h ∧ Fr n0 L) (hC []) hZ w4 w3 hf hlo hEL hR.1 hsf) (g := mkF m pc Ls (as.reverse ++ rest)) rfl (hsz.trans hml.symm) (argsL := as) (rest := rest) (lenOf hds hl) rfl (by show 2 * 0 + _ ≤ _; omega) (hb hby hd) (fun _ _ => ⟨rfl, eT, (by show cells + rm.cells ≤ R.cells; omega), (by show slots + rm.slots ≤ R.slots; omega)⟩)
  dsimp only [Pt.U, Pt.locs, Pt.cells, Pt.slots] at X' hS2 hgr l1 y1 z1 stp hQ c1
  subst l1 y1 z1
  have hZ2 : Z.Warmed39 B.vm := State.Warmed39.trans (t := s.setVm vm) hZ hS2.1
  obtain ⟨s₂, v', L, g1, g2⟩ := nxt v _ B.vm hQ.1 c1 p e s m args below meth c B _ _ _ B.heap.size ⟨hx, hZ2, (by rw [show (s.setVm B.vm).vm = B.vm from rfl, hS2.1.alike.findClass]; exact hown), hby, hml, hrt, hlk, hnm⟩ X' (hS.trans hS2 (by rw [← eT] at hk0; omega)) (Nat.le_refl _) (hR.trans c1) hE rfl (Fr.app hF hQ.2) (by omega) (by omega)
  exact ⟨s₂, v', L, stp.trans g1, g2⟩
theorem RunW.callV {a0 : Array Value} {C : String} {y z : MethodName} {bytes : ByteArray} {mL : Nat} {rt : Option FieldType} {rm : Room} {a : Addr} {as rest : List Value} {Qy : Option Value → Heap → Prop} {i : Nat} {ps : List FieldType} {rr : Option FieldType}
    (hC : Con l Z n0 z bytes mL rt rm (.ref a :: as).toArray h Qy) (hs : ∀ v h', Qy v h' → ∃ ws, Keep h h' ws ∧ ∀ x ∈ ws, Safe Z EL vm h x) (hX0 : Exa Z h a C) (hd : decode code pc = .ok (.invokevirtual i, 3)) (w1 : (Cond.methodLink own i y).before a0 Z = true) (w2 : (Cond.declares y).before a0 Z = true) (nf : ∀ (s : State), Z.Warmed39 s.vm → NotFace s y) (w3 : (Cond.selects C y z).before a0 Z = true) (w4 : (Cond.instanceMethod z).before a0 Z = true) (w5 : (Cond.initialized z.cls).before a0 Z = true) (w6 : (Cond.code z bytes mL rt).before a0 Z = true)
    (hy : y.cls ≠ "java/lang/invoke/MethodHandle" ∧ y.cls ≠ "java/lang/invoke/VarHandle") (hds : parseMethodDescriptor y.desc = some ⟨ps, rr⟩) (hl : as.length = ps.length) (hst : st = as.reverse ++ .ref a :: rest) (hsz : Ls.size = maxL)
    (hf : rm.frames + 1 ≤ R.frames) (hlo : (rest.map fun v => v.category).sum + (mL + 11) + rm.locals ≤ R.locals) (hk : k + rm.cells ≤ k') (hk' : k' ≤ R.cells) (hn : n + rm.slots ≤ n') (hn' : n' ≤ R.slots) (hp : pc + 3 = pc')
    (nxt : ∀ v h', Qy v h' → CHr Z EL vm h vm h' → RunW l Z EL n0 own code maxL ret nm R Q pc' Ls (v.toList ++ rest) h' vm k' n') : RunW l Z EL n0 own code maxL ret nm R Q pc Ls st h vm k n := by
  subst hp hst
  intro p e s m args below meth c T locs cells slots k0 hX X hS hk0 hR hE eT hF hc hss
  obtain ⟨hx, hZ, hown, hby, hml, -⟩ := id hX
  obtain ⟨cq, kq, qa, qb, qc⟩ := isOf hZ eT hX0
  obtain ⟨v, vm₁, ⟨B, L', cc, ss⟩, -, X', ⟨Lc, hQ, l1, y1, z1⟩, stp⟩ := X.virtualBack hx (y := y) (z := z) hown (mvT hZ w1) (mvT hZ w2) (nf (s.setVm vm) hZ) (mvT hZ w3) (mvT hZ w4) hy (backOf (W := (rest.map fun v => v.category).sum) (Q := fun v h L => Qy v h ∧ Fr n0 L) (hC []) hZ w6 w5 hf hlo) qa qc (g := mkF m pc Ls (as.reverse ++ .ref a :: rest)) rfl (hsz.trans hml.symm) (Steps.refl _) (argsL := as) (rest := rest) (lenOf hds hl) rfl (by show 2 * 0 + _ ≤ _; omega) (hb hby hd) (fun _ _ => ⟨rfl, eT, (by show cells + rm.cells ≤ R.cells; omega), (by show slots + rm.slots ≤ R.slots; omega)⟩)
  dsimp only [Pt.U, Pt.locs, Pt.cells, Pt.slots] at X' l1 y1 z1 stp hQ
  subst l1 y1 z1
  obtain ⟨ws, K, hsw⟩ := hs v _ hQ.1
  have c1 := CHr.keep K hsw hR.1
  obtain ⟨s₂, v', L, g1, g2⟩ := nxt v _ hQ.1 c1 p e s m args below meth c B _ _ _ k0 hX X' hS (Nat.le_trans hk0 K.1) (hR.trans c1) hE rfl (Fr.app hF hQ.2) (by omega) (by omega)
  exact ⟨s₂, v', L, stp.trans g1, g2⟩
theorem RunW.callVW {a0 a1 : Array Value} {sf : List Addr} {C : String} {y z : MethodName} {bytes : ByteArray} {mL : Nat} {rt : Option FieldType} {rm : Room} {a : Addr} {as rest : List Value} {Qy : Option Value → Heap → Prop} {i : Nat} {ps : List FieldType} {rr : Option FieldType}
    (hC : ConW l Z EL n0 z bytes mL rt rm (.ref a :: as).toArray h sf Qy) (hsf : ∀ x ∈ sf, Safe Z EL vm h x) (hEL : EW Z a1 EL) (hX0 : Exa Z h a C) (hd : decode code pc = .ok (.invokevirtual i, 3)) (w1 : (Cond.methodLink own i y).before a0 Z = true) (w2 : (Cond.declares y).before a0 Z = true) (nf : ∀ (s : State), Z.Warmed39 s.vm → NotFace s y) (w3 : (Cond.selects C y z).before a0 Z = true) (w4 : (Cond.instanceMethod z).before a0 Z = true) (w5 : (Cond.initialized z.cls).before a0 Z = true) (w6 : (Cond.code z bytes mL rt).before a0 Z = true)
    (hy : y.cls ≠ "java/lang/invoke/MethodHandle" ∧ y.cls ≠ "java/lang/invoke/VarHandle") (hds : parseMethodDescriptor y.desc = some ⟨ps, rr⟩) (hl : as.length = ps.length) (hst : st = as.reverse ++ .ref a :: rest) (hsz : Ls.size = maxL)
    (hf : rm.frames + 1 ≤ R.frames) (hlo : (rest.map fun v => v.category).sum + (mL + 11) + rm.locals ≤ R.locals) (hk : k + rm.cells ≤ k') (hk' : k' ≤ R.cells) (hn : n + rm.slots ≤ n') (hn' : n' ≤ R.slots) (hp : pc + 3 = pc')
    (nxt : ∀ v h' vm', Qy v h' → CHr Z EL vm h vm' h' → RunW l Z EL n0 own code maxL ret nm R Q pc' Ls (v.toList ++ rest) h' vm' k' n') : RunW l Z EL n0 own code maxL ret nm R Q pc Ls st h vm k n := by
  subst hp hst
  intro p e s m args below meth c T locs cells slots k0 hX X hS hk0 hR hE eT hF hc hss
  obtain ⟨hx, hZ, hown, hby, hml, hrt, hlk, hnm⟩ := id hX
  obtain ⟨cq, kq, qa, qb, qc⟩ := isOf hZ eT hX0
  obtain ⟨v, vm₁, ⟨B, L', cc, ss⟩, -, X', hS2, hgr, ⟨Lc, hQ, l1, y1, z1, c1⟩, stp⟩ := X.virtualBackS hx (y := y) (z := z) hown (mvT hZ w1) (mvT hZ w2) (nf (s.setVm vm) hZ) (mvT hZ w3) (mvT hZ w4) hy (backW (W := (rest.map fun v => v.category).sum) (Q := fun v h L => Qy v h ∧ Fr n0 L) (hC []) hZ w6 w5 hf hlo hEL hR.1 hsf) qa qc (g := mkF m pc Ls (as.reverse ++ .ref a :: rest)) rfl (hsz.trans hml.symm) (Steps.refl _) (argsL := as) (rest := rest) (lenOf hds hl) rfl (by show 2 * 0 + _ ≤ _; omega) (hb hby hd) (fun _ _ => ⟨rfl, eT, (by show cells + rm.cells ≤ R.cells; omega), (by show slots + rm.slots ≤ R.slots; omega)⟩)
  dsimp only [Pt.U, Pt.locs, Pt.cells, Pt.slots] at X' hS2 hgr l1 y1 z1 stp hQ c1
  subst l1 y1 z1
  have hZ2 : Z.Warmed39 B.vm := State.Warmed39.trans (t := s.setVm vm) hZ hS2.1
  obtain ⟨s₂, v', L, g1, g2⟩ := nxt v _ B.vm hQ.1 c1 p e s m args below meth c B _ _ _ B.heap.size ⟨hx, hZ2, (by rw [show (s.setVm B.vm).vm = B.vm from rfl, hS2.1.alike.findClass]; exact hown), hby, hml, hrt, hlk, hnm⟩ X' (hS.trans hS2 (by rw [← eT] at hk0; omega)) (Nat.le_refl _) (hR.trans c1) hE rfl (Fr.app hF hQ.2) (by omega) (by omega)
  exact ⟨s₂, v', L, stp.trans g1, g2⟩
theorem RunW.callN {a0 : Array Value} {y : MethodName} {bytes : ByteArray} {mL : Nat} {rt : Option FieldType} {rm : Room} {a : Addr} {as rest : List Value} {Qy : Option Value → Heap → Prop} {i : Nat} {ps : List FieldType} {rr : Option FieldType}
    (hC : Con l Z n0 y bytes mL rt rm (.ref a :: as).toArray h Qy) (hs : ∀ v h', Qy v h' → ∃ ws, Keep h h' ws ∧ ∀ x ∈ ws, Safe Z EL vm h x) (hrt : rt = none) (hy1 : y.name = "<init>") (hd : decode code pc = .ok (.invokespecial i, 3)) (w1 : (Cond.methodLink own i y).before a0 Z = true) (w2 : (Cond.instanceMethod y).before a0 Z = true) (w3 : (Cond.initialized y.cls).before a0 Z = true) (w4 : (Cond.code y bytes mL rt).before a0 Z = true)
    (hy : y.cls ≠ "java/lang/invoke/MethodHandle" ∧ y.cls ≠ "java/lang/invoke/VarHandle") (hds : parseMethodDescriptor y.desc = some ⟨ps, rr⟩) (hl : as.length = ps.length) (hst : st = as.reverse ++ .ref a :: rest) (hsz : Ls.size = maxL)
    (hf : rm.frames + 1 ≤ R.frames) (hlo : (rest.map fun v => v.category).sum + (mL + 11) + rm.locals ≤ R.locals) (hk : k + rm.cells ≤ k') (hk' : k' ≤ R.cells) (hn : n + rm.slots ≤ n') (hn' : n' ≤ R.slots) (hp : pc + 3 = pc')
    (nxt : ∀ v h', Qy v h' → CHr Z EL vm h vm h' → RunW l Z EL n0 own code maxL ret nm R Q pc' Ls (v.toList ++ rest) h' vm k' n') : RunW l Z EL n0 own code maxL ret nm R Q pc Ls st h vm k n := by
  subst hp hst
  intro p e s m args below meth c T locs cells slots k0 hX X hS hk0 hR hE eT hF hc hss
  obtain ⟨hx, hZ, hown, hby, hml, -⟩ := id hX
  subst hrt
  obtain ⟨v, vm₁, ⟨B, L', cc, ss⟩, -, X', ⟨Lc, hQ, l1, y1, z1⟩, stp⟩ := X.specialBack hx (y := y) hy1 hown (mvT hZ w1) (mvT hZ w2) (mvT hZ w4) hy (backOf (W := (rest.map fun v => v.category).sum) (Q := fun v h L => Qy v h ∧ Fr n0 L) (hC []) hZ w4 w3 hf hlo) (g := mkF m pc Ls (as.reverse ++ .ref a :: rest)) rfl (hsz.trans hml.symm) (Steps.refl _) (a := a) (argsL := as) (rest := rest) (lenOf hds hl) rfl (by show 2 * 0 + _ ≤ _; omega) (hb hby hd) (fun _ _ => ⟨rfl, eT, (by show cells + rm.cells ≤ R.cells; omega), (by show slots + rm.slots ≤ R.slots; omega)⟩)
  dsimp only [Pt.U, Pt.locs, Pt.cells, Pt.slots] at X' l1 y1 z1 stp hQ
  subst l1 y1 z1
  obtain ⟨ws, K, hsw⟩ := hs v _ hQ.1
  have c1 := CHr.keep K hsw hR.1
  obtain ⟨s₂, v', L, g1, g2⟩ := nxt v _ hQ.1 c1 p e s m args below meth c B _ _ _ k0 hX X' hS (Nat.le_trans hk0 K.1) (hR.trans c1) hE rfl (Fr.app hF hQ.2) (by omega) (by omega)
  exact ⟨s₂, v', L, stp.trans g1, g2⟩
theorem RunW.callNW {a0 a1 : Array Value} {sf : List Addr} {y : MethodName} {bytes : ByteArray} {mL : Nat} {rt : Option FieldType} {rm : Room} {a : Addr} {as rest : List Value} {Qy : Option Value → Heap → Prop} {i : Nat} {ps : List FieldType} {rr : Option FieldType}
    (hC : ConW l Z EL n0 y bytes mL rt rm (.ref a :: as).toArray h sf Qy) (hsf : ∀ x ∈ sf, Safe Z EL vm h x) (hEL : EW Z a1 EL) (hrt : rt = none) (hy1 : y.name = "<init>") (hd : decode code pc = .ok (.invokespecial i, 3)) (w1 : (Cond.methodLink own i y).before a0 Z = true) (w2 : (Cond.instanceMethod y).before a0 Z = true) (w3 : (Cond.initialized y.cls).before a0 Z = true) (w4 : (Cond.code y bytes mL rt).before a0 Z = true)
    (hy : y.cls ≠ "java/lang/invoke/MethodHandle" ∧ y.cls ≠ "java/lang/invoke/VarHandle") (hds : parseMethodDescriptor y.desc = some ⟨ps, rr⟩) (hl : as.length = ps.length) (hst : st = as.reverse ++ .ref a :: rest) (hsz : Ls.size = maxL)
    (hf : rm.frames + 1 ≤ R.frames) (hlo : (rest.map fun v => v.category).sum + (mL + 11) + rm.locals ≤ R.locals) (hk : k + rm.cells ≤ k') (hk' : k' ≤ R.cells) (hn : n + rm.slots ≤ n') (hn' : n' ≤ R.slots) (hp : pc + 3 = pc')
    (nxt : ∀ v h' vm', Qy v h' → CHr Z EL vm h vm' h' → RunW l Z EL n0 own code maxL ret nm R Q pc' Ls (v.toList ++ rest) h' vm' k' n') : RunW l Z EL n0 own code maxL ret nm R Q pc Ls st h vm k n := by
  subst hp hst
  intro p e s m args below meth c T locs cells slots k0 hX X hS hk0 hR hE eT hF hc hss
  obtain ⟨hx, hZ, hown, hby, hml, hrtt, hlk, hnm⟩ := id hX
  subst hrt
  obtain ⟨v, vm₁, ⟨B, L', cc, ss⟩, -, X', hS2, hgr, ⟨Lc, hQ, l1, y1, z1, c1⟩, stp⟩ := X.specialBackS hx (y := y) hy1 hown (mvT hZ w1) (mvT hZ w2) (mvT hZ w4) hy (backW (W := (rest.map fun v => v.category).sum) (Q := fun v h L => Qy v h ∧ Fr n0 L) (hC []) hZ w4 w3 hf hlo hEL hR.1 hsf) (g := mkF m pc Ls (as.reverse ++ .ref a :: rest)) rfl (hsz.trans hml.symm) (Steps.refl _) (a := a) (argsL := as) (rest := rest) (lenOf hds hl) rfl (by show 2 * 0 + _ ≤ _; omega) (hb hby hd) (fun _ _ => ⟨rfl, eT, (by show cells + rm.cells ≤ R.cells; omega), (by show slots + rm.slots ≤ R.slots; omega)⟩)
  dsimp only [Pt.U, Pt.locs, Pt.cells, Pt.slots] at X' hS2 hgr l1 y1 z1 stp hQ c1
  subst l1 y1 z1
  have hZ2 : Z.Warmed39 B.vm := State.Warmed39.trans (t := s.setVm vm) hZ hS2.1
  obtain ⟨s₂, v', L, g1, g2⟩ := nxt v _ B.vm hQ.1 c1 p e s m args below meth c B _ _ _ B.heap.size ⟨hx, hZ2, (by rw [show (s.setVm B.vm).vm = B.vm from rfl, hS2.1.alike.findClass]; exact hown), hby, hml, hrtt, hlk, hnm⟩ X' (hS.trans hS2 (by rw [← eT] at hk0; omega)) (Nat.le_refl _) (hR.trans c1) hE rfl (Fr.app hF hQ.2) (by omega) (by omega)
  exact ⟨s₂, v', L, stp.trans g1, g2⟩
theorem safeA {Z : State} {EL : List (String × Nat)} {vm : Vm} {h : Heap} {a : Addr} {ty : FieldType} {vs : List Value} (hal : Z.vm.Alike vm) (A : Ary Z h a ty vs) (ht : ty ≠ .byte) : Safe Z EL vm h a := by obtain ⟨cl, A1, -⟩ := A; exact Safe.arr hal A1 ht
/-- ldc of a String constant whose text is known -/
theorem RunW.ldcT {a0 : Array Value} {i len : Nat} {text : String} {bs : List Value} {z : Int32} (hd : decode code pc = .ok (.ldc i, 2)) (w : (Cond.stringLink own i text).before a0 Z = true) (wS : ∀ a ∈ Bundle.stringAtoms, a.before a0 Z = true) (hEL : EW Z a0 EL) (hmem : (own, i) ∈ EL)
    (ht : (∀ c ∈ text.toList, c.toNat < 256) ∧ text.toList.map (fun c => Value.int (Jvm.Lit.byteI c.toNat.toUInt16)) = bs) (hz : z.toInt = (bs.length : Int)) (hln : 4 * text.toList.length ≤ len) (hbig : len ≤ 536870912) (hk : k + 2 ≤ k') (hk' : k' ≤ R.cells) (hn : n + (len + 4) ≤ n') (hn' : n' ≤ R.slots) (hp : pc + 2 = pc')
    (nxt : ∀ h' vm' a b, Ext h h' → CHr Z EL vm h vm' h' → Exa Z h' a "java/lang/String" → Fld Z h' a "java/lang/String" "coder" "B" (.int 0) → Fld Z h' a "java/lang/String" "value" "[B" (.ref b) → Ary Z h' b .byte bs → (∀ x, Safe Z EL vm' h' x → x ≠ a ∧ x ≠ b) → RunW l Z EL n0 own code maxL ret nm R Q pc' Ls (.ref a :: st) h' vm' k' n') : RunW l Z EL n0 own code maxL ret nm R Q pc Ls st h vm k n := by
  subst hp
  intro p e s m args below meth c T locs cells slots k0 hX X hS hk0 hR hE eT hF hc hss
  obtain ⟨hx, hZ, hown, hby, hml, hrt, hlk, hnm⟩ := id hX
  have e1 : z.toNatClampNeg = bs.length := by have : z.toNatClampNeg = z.toInt.toNat := rfl; rw [this, hz]; rfl
  have e2 : ¬ z < 0 := by rw [Int32.lt_iff_toInt_lt, hz]; have : (0 : Int32).toInt = 0 := rfl; omega
  obtain ⟨a, T', h', k1, b, kc, X', e', E, hS2, hk1, hZ2, hown2, E1, F1, F2, A, -, -, c1, -, hsf, stp⟩ := ldcCH X hx hZ hown w wS eT hS hk0 hEL hmem hR.1 ht e2 e1 (g := mkF m pc Ls st) rfl (hb hby hd) hln hbig (by omega) (by omega)
  obtain ⟨s₂, v', L, g1, g2⟩ := nxt h' T'.vm a b E c1 E1 F1 F2 (Ary.ofArv A hz) hsf p e s m args below meth c T' _ _ _ k1 ⟨hx, hZ2, hown2, hby, hml, hrt, hlk, hnm⟩ X' hS2 hk1 (hR.trans c1) hE e' hF (by omega) (by omega)
  exact ⟨s₂, v', L, stp _ g1, g2⟩
end WalkW
end Jvm.GoKit
namespace Jvm.Pilot.@@N@@
open Jvm Jvm.ClassFile Sem Op Lib Jvm.Free Jvm.Stand Jvm.LawKit Jvm.RoadKit Jvm.GoKit Bundle Jvm.Pilot.@@N@@.Jvm.D
theorem own_ofn {i : Nat} (h : i < 2 ^ 31) : (Int32.ofNat i).toInt = (i : Int) := toInt_of rfl h
theorem own_inc (i : Nat) : Int32.ofNat i + (1 : Int32) = Int32.ofNat (i + 1) := (inc_ofNat i).symm
theorem own_lt {i j : Nat} (hi : i < 2 ^ 31) (hj : j < 2 ^ 31) : Int32.ofNat i < Int32.ofNat j ↔ i < j := by rw [Int32.lt_iff_toInt_lt, own_ofn hi, own_ofn hj]; omega
theorem own_z : (0 : Int32).toInt = 0 := rfl
theorem own_eqi {x y : Int32} (h : x.toInt = y.toInt) : x = y := Int32.toInt_inj.mp h
def own_chr (cs : List Int32) : Prop := ∀ c ∈ cs, 0 ≤ c.toInt ∧ c.toInt ≤ 65535
def own_by (cs : List Int32) : List Value := cs.map fun c => Value.int (nar .byte c)
def own_b0 (c : Int32) : Int32 := nar .byte (c >>> ((0 : Int32) &&& 31))
def own_b1 (c : Int32) : Int32 := nar .byte (c >>> ((8 : Int32) &&& 31))
def own_u16 (cs : List Int32) : List Value := cs.flatMap fun c => [Value.int (own_b0 c), Value.int (own_b1 c)]
def own_pfx : List Int32 → Nat
  | [] => 0
  | c :: r => if (255 : Int32) < c then 0 else own_pfx r + 1
def own_enc (cs : List Int32) : List Value := if own_pfx cs = cs.length then own_by cs else own_u16 cs
def own_coder (cs : List Int32) : Int32 := if own_pfx cs = cs.length then 0 else 1
def own_gc (x y : Int32) : Int32 := nar .char (nar .char (((x &&& (255 : Int32)) <<< ((0 : Int32) &&& 31)) ||| ((y &&& (255 : Int32)) <<< ((8 : Int32) &&& 31))))
theorem own_nbb (x : Int32) : nar .byte (nar .byte x) = nar .byte x := by simp [nar]
theorem own_ncc (x : Int32) : nar .char (nar .char x) = nar .char x := by simp only [nar, UInt32.toUInt32_toInt32, UInt16.toUInt16_toUInt32]
theorem own_pfx_le : ∀ r : List Int32, own_pfx r ≤ r.length
  | [] => Nat.le_refl _
  | c :: r => by unfold own_pfx; split; omega; have := own_pfx_le r; simp; omega
theorem own_pfx_end {cs : List Int32} {i : Nat} (h : cs.length ≤ i) : own_pfx (cs.drop i) = 0 := by rw [List.drop_eq_nil_of_le h]; rfl
theorem own_gD {cs : List Int32} {i : Nat} (h : i < cs.length) : cs.getD i 0 = cs[i] := by simp [List.getD_eq_getElem?_getD, h]
theorem own_pfx_at {cs : List Int32} {i : Nat} (h : i < cs.length) : own_pfx (cs.drop i) = if (255 : Int32) < cs.getD i 0 then 0 else own_pfx (cs.drop (i + 1)) + 1 := by
  rw [List.drop_eq_getElem_cons h, own_gD h]; rfl
theorem own_pfx_stop {cs : List Int32} (h : ¬ own_pfx cs = cs.length) : own_pfx cs < cs.length ∧ (255 : Int32) < cs.getD (own_pfx cs) 0 := by
  induction cs with
  | nil => exact absurd rfl h
  | cons c r ih =>
    unfold own_pfx at h ⊢
    split at h
    · rename_i q; rw [if_pos q]; exact ⟨by simp, q⟩
    · rename_i q; rw [if_neg q]
      obtain ⟨h1, h2⟩ := ih (fun e => h (by simp [e]))
      exact ⟨by simp; omega, by simpa [List.getD_cons_succ] using h2⟩
theorem own_u16_len (cs : List Int32) : (own_u16 cs).length = 2 * cs.length := by
  induction cs with
  | nil => rfl
  | cons c r ih => simp only [own_u16, List.flatMap_cons, List.length_append] at ih ⊢; rw [ih]; simp; omega
theorem own_u16_cons (c : Int32) (r : List Int32) : own_u16 (c :: r) = Value.int (own_b0 c) :: Value.int (own_b1 c) :: own_u16 r := by simp [own_u16]
theorem own_u16_get {cs : List Int32} {i : Nat} (h : i < cs.length) : (own_u16 cs)[2 * i]? = some (Value.int (own_b0 (cs.getD i 0))) ∧ (own_u16 cs)[2 * i + 1]? = some (Value.int (own_b1 (cs.getD i 0))) := by
  induction cs generalizing i with
  | nil => simp at h
  | cons c r ih =>
    rw [own_u16_cons]
    cases i with
    | zero => exact ⟨rfl, rfl⟩
    | succ i =>
      have := ih (i := i) (by simpa using h)
      rw [show 2 * (i + 1) = (2 * i + 1) + 1 by omega, List.getElem?_cons_succ, List.getElem?_cons_succ, List.getElem?_cons_succ, List.getElem?_cons_succ, List.getD_cons_succ]
      exact this
theorem own_u16_app (a b : List Int32) : own_u16 (a ++ b) = own_u16 a ++ own_u16 b := by simp [own_u16]
theorem own_by_get {cs : List Int32} {i : Nat} (h : i < cs.length) : (own_by cs)[i]? = some (Value.int (nar .byte (cs.getD i 0))) := by rw [own_gD h]; simp [own_by, h]
theorem own_u16_set {cs : List Int32} {i : Nat} (h : i < cs.length) :
    ((own_u16 (cs.take i) ++ List.replicate (2 * (cs.length - i)) (Value.int (0 : Int32))).set (2 * i) (Value.int (own_b0 (cs.getD i 0)))).set (2 * i + 1) (Value.int (own_b1 (cs.getD i 0))) = own_u16 (cs.take (i + 1)) ++ List.replicate (2 * (cs.length - (i + 1))) (Value.int (0 : Int32)) := by
  have e1 : 2 * (cs.length - i) = (2 * (cs.length - (i + 1)) + 1) + 1 := by omega
  have l1 : (own_u16 (cs.take i)).length = 2 * i := by rw [own_u16_len, List.length_take]; omega
  rw [e1, List.replicate_succ, List.replicate_succ, List.set_append_right _ _ (by omega), l1, Nat.sub_self, List.set_cons_zero, List.set_append_right _ _ (by omega), l1, show 2 * i + 1 - 2 * i = 1 by omega, List.set_cons_succ, List.set_cons_zero, List.take_succ_eq_append_getElem h, own_u16_app, own_gD h]
  simp [own_u16]
theorem own_by_set {cs : List Int32} {i : Nat} (h : i < cs.length) :
    ((own_by (cs.take i)) ++ List.replicate (cs.length - i) (Value.int (0 : Int32))).set i (Value.int (nar .byte (cs.getD i 0))) = own_by (cs.take (i + 1)) ++ List.replicate (cs.length - (i + 1)) (Value.int (0 : Int32)) := by
  have e1 : cs.length - i = (cs.length - (i + 1)) + 1 := by omega
  have l1 : (own_by (cs.take i)).length = i := by simp [own_by]; omega
  rw [e1, List.replicate_succ, List.set_append_right _ _ (by omega), l1, Nat.sub_self, List.set_cons_zero, List.take_succ_eq_append_getElem h, own_gD h]
  simp only [own_by, List.map_append, List.map_cons, List.map_nil, List.append_assoc, List.cons_append, List.nil_append]
theorem own_chrD {cs : List Int32} (h : own_chr cs) {i : Nat} (hi : i < cs.length) : 0 ≤ (cs.getD i 0).toInt ∧ (cs.getD i 0).toInt ≤ 65535 := by rw [own_gD hi]; exact h _ (List.getElem_mem hi)
theorem own_gcb {c : Int32} (h : 0 ≤ c.toInt ∧ c.toInt ≤ 65535) : own_gc (own_b0 c) (own_b1 c) = c := by
  apply Int32.toInt_inj.mp
  have s0 := c_ishr c 0 0 (by decide)
  have s1 := c_ishr c 8 8 (by decide)
  have b0 := c_i2b (c >>> ((0 : Int32) &&& 31))
  have b1 := c_i2b (c >>> ((8 : Int32) &&& 31))
  have m0 := c_mask (own_b0 c) 255 8 (by decide) (by decide)
  have m1 := c_mask (own_b1 c) 255 8 (by decide) (by decide)
  have l0 := c_ishl (own_b0 c &&& 255) 0 0 (by decide)
  have l1 := c_ishl (own_b1 c &&& 255) 8 8 (by decide)
  have r0 := rng32 ((own_b0 c &&& 255) <<< ((0 : Int32) &&& 31))
  have r1 := rng32 ((own_b1 c &&& 255) <<< ((8 : Int32) &&& 31))
  change ((own_b0 c).toInt - _) % 256 = 0 ∧ _ at b0
  change ((own_b1 c).toInt - _) % 256 = 0 ∧ _ at b1
  simp only [Nat.reducePow, Int.mul_one] at s0 s1 m0 m1 l0 l1
  have o := c_or' ((own_b0 c &&& 255) <<< ((0 : Int32) &&& 31)) ((own_b1 c &&& 255) <<< ((8 : Int32) &&& 31)) 8 (by decide) 256 (by decide) (by omega) (by omega) (by omega)
  unfold own_gc
  rw [own_ncc]
  have q := c_i2c (((own_b0 c &&& (255 : Int32)) <<< ((0 : Int32) &&& 31)) ||| ((own_b1 c &&& (255 : Int32)) <<< ((8 : Int32) &&& 31)))
  change ((nar .char _).toInt - _) % 65536 = 0 ∧ 0 ≤ (nar .char _).toInt ∧ (nar .char _).toInt < 65536 at q
  omega
theorem own_latc {c : Int32} (h0 : 0 ≤ c.toInt) (h : ¬ (255 : Int32) < c) : nar .char (nar .char (nar .byte c &&& (255 : Int32))) = c := by
  apply Int32.toInt_inj.mp
  rw [Int32.lt_iff_toInt_lt] at h; have e : (255 : Int32).toInt = 255 := rfl
  have b := c_i2b c; have m := c_mask (nar .byte c) 255 8 (by decide) (by decide); have q := c_i2c (nar .byte c &&& 255)
  change ((nar .byte c).toInt - _) % 256 = 0 ∧ _ at b
  change ((nar .char _).toInt - _) % 65536 = 0 ∧ 0 ≤ (nar .char _).toInt ∧ (nar .char _).toInt < 65536 at q
  simp only [Nat.reducePow] at m
  rw [own_ncc]; omega
theorem own_pfx_all {cs : List Int32} (h : own_pfx cs = cs.length) {i : Nat} (hi : i < cs.length) : ¬ (255 : Int32) < cs.getD i 0 := by
  induction cs generalizing i with
  | nil => simp at hi
  | cons c r ih =>
    unfold own_pfx at h
    split at h
    · simp at h
    · rename_i q
      cases i with
      | zero => simpa using q
      | succ i => rw [List.getD_cons_succ]; exact ih (by simpa using h) (by simpa using hi)
theorem own_shl1 {n : Nat} (h : n < 2 ^ 30) : Int32.ofNat n <<< ((1 : Int32) &&& 31) = Int32.ofNat (2 * n) := by
  apply Int32.toInt_inj.mp
  have a := c_ishl (Int32.ofNat n) 1 1 (by decide); have b := own_ofn (i := n) (by omega); have c := own_ofn (i := 2 * n) (by omega); have d := rng32 (Int32.ofNat n <<< ((1 : Int32) &&& 31))
  simp only [Nat.reducePow] at a; omega
theorem own_shr1 {n : Nat} (h : n < 2 ^ 30) : Int32.ofNat (2 * n) >>> ((1 : Int32) &&& 31) = Int32.ofNat n := by
  apply Int32.toInt_inj.mp
  have a := c_ishr (Int32.ofNat (2 * n)) 1 1 (by decide); have b := own_ofn (i := n) (by omega); have c := own_ofn (i := 2 * n) (by omega)
  simp only [Nat.reducePow] at a; omega
theorem own_shr0 (x : Int32) : x >>> ((0 : Int32) &&& 31) = x := by
  apply Int32.toInt_inj.mp
  have a := c_ishr x 0 0 (by decide)
  simp only [Nat.reducePow] at a; omega
theorem own_enc_len (cs : List Int32) : (own_enc cs).length = if own_pfx cs = cs.length then cs.length else 2 * cs.length := by
  unfold own_enc; split <;> simp [own_by, own_u16_len]
theorem own_cfl {cs : List Int32} (h : cs ≠ []) (hb : cs.length < 2 ^ 30) : nar .byte (nar .byte (XT.ushr (Int32.ofNat cs.length - Int32.ofNat (own_enc cs).length) (31 : Int32))) = own_coder cs := by
  have h1 := List.length_pos_iff.mpr h
  unfold own_coder
  rw [own_enc_len, own_nbb]
  split
  · rw [Int32.sub_self]; rfl
  · apply Int32.toInt_inj.mp
    have a := c_isub (Int32.ofNat cs.length) (Int32.ofNat (2 * cs.length)); have b := own_ofn (i := cs.length) (by omega); have c := own_ofn (i := 2 * cs.length) (by omega); have d := rng32 (Int32.ofNat cs.length - Int32.ofNat (2 * cs.length))
    have u := c_iushr (Int32.ofNat cs.length - Int32.ofNat (2 * cs.length)) 31 31 (by decide) (by decide)
    have v := c_i2b (XT.ushr (Int32.ofNat cs.length - Int32.ofNat (2 * cs.length)) (31 : Int32))
    change ((nar .byte _).toInt - _) % 256 = 0 ∧ -128 ≤ (nar .byte _).toInt ∧ (nar .byte _).toInt < 128 at v
    change (XT.ushr (Int32.ofNat cs.length - Int32.ofNat (2 * cs.length)) (31 : Int32)).toInt = _ at u
    have e : (1 : Int32).toInt = 1 := rfl
    simp only [Nat.reducePow] at u
    omega
theorem own_cg {cs : List Int32} {us : List Value} {i : Nat} (h : i < cs.length) : (cs.map Value.int ++ us)[i]? = some (Value.int (cs.getD i 0)) := by
  rw [List.getElem?_append_left (by simpa using h), List.getElem?_map, List.getElem?_eq_getElem h, own_gD h]; rfl
theorem d8_0 : decode jdk_52_method_21_code 0 = .ok (.iconst 0, 1) := by decide +kernel
theorem d8_1 : decode jdk_52_method_21_code 1 = .ok (.istore 5, 2) := by decide +kernel
theorem d8_3 : decode jdk_52_method_21_code 3 = .ok (.iload 5, 2) := by decide +kernel
theorem d8_5 : decode jdk_52_method_21_code 5 = .ok (.iload 4, 2) := by decide +kernel
theorem d8_7 : decode jdk_52_method_21_code 7 = .ok (.if_icmp .ge 37, 3) := by decide +kernel
theorem d8_10 : decode jdk_52_method_21_code 10 = .ok (.aload_n 0, 1) := by decide +kernel
theorem d8_11 : decode jdk_52_method_21_code 11 = .ok (.iload_n 1, 1) := by decide +kernel
theorem d8_12 : decode jdk_52_method_21_code 12 = .ok (.caload, 1) := by decide +kernel
theorem d8_13 : decode jdk_52_method_21_code 13 = .ok (.istore 6, 2) := by decide +kernel
theorem d8_15 : decode jdk_52_method_21_code 15 = .ok (.iload 6, 2) := by decide +kernel
theorem d8_17 : decode jdk_52_method_21_code 17 = .ok (.sipush 255, 3) := by decide +kernel
theorem d8_20 : decode jdk_52_method_21_code 20 = .ok (.if_icmp .le 6, 3) := by decide +kernel
theorem d8_23 : decode jdk_52_method_21_code 23 = .ok (.iload 5, 2) := by decide +kernel
theorem d8_25 : decode jdk_52_method_21_code 25 = .ok (.ireturn, 1) := by decide +kernel
theorem d8_26 : decode jdk_52_method_21_code 26 = .ok (.aload_n 2, 1) := by decide +kernel
theorem d8_27 : decode jdk_52_method_21_code 27 = .ok (.iload_n 3, 1) := by decide +kernel
theorem d8_28 : decode jdk_52_method_21_code 28 = .ok (.iload 6, 2) := by decide +kernel
theorem d8_30 : decode jdk_52_method_21_code 30 = .ok (.i2b, 1) := by decide +kernel
theorem d8_31 : decode jdk_52_method_21_code 31 = .ok (.bastore, 1) := by decide +kernel
theorem d8_32 : decode jdk_52_method_21_code 32 = .ok (.iinc 1 1, 3) := by decide +kernel
theorem d8_35 : decode jdk_52_method_21_code 35 = .ok (.iinc 3 1, 3) := by decide +kernel
theorem d8_38 : decode jdk_52_method_21_code 38 = .ok (.iinc 5 1, 3) := by decide +kernel
theorem d8_41 : decode jdk_52_method_21_code 41 = .ok (.goto (-38), 3) := by decide +kernel
theorem d8_44 : decode jdk_52_method_21_code 44 = .ok (.iload 4, 2) := by decide +kernel
theorem d8_46 : decode jdk_52_method_21_code 46 = .ok (.ireturn, 1) := by decide +kernel
theorem pn_8 : plainFor (⟨"java/lang/StringUTF16", "compress", "([CI[BII)I"⟩ : MethodName) = true := plainFor_of_name (by first | (simp [plainName, overriddenIn]; done) | decide +kernel)
theorem ef_con_cmp5 (m : MethodId) (a b : Addr) (cs : List Int32) (us : List Value)  : entryFrame m #[(.ref a), (.int (0 : Int32)), (.ref b), (.int (0 : Int32)), (.int (Int32.ofNat cs.length))] 7 = mkF m 0 #[.val (.ref a), .val (.int (0 : Int32)), .val (.ref b), .val (.int (0 : Int32)), .val (.int (Int32.ofNat cs.length)), .unset, .unset] [] := by first | (simp [entryFrame, mkF, argsToLocals, Value.category]; done) | rfl
set_option maxRecDepth 65536 in
set_option maxHeartbeats 40000000 in
theorem con_cmp5 (l : Launch) (Z : State) (a0 : Array Value) (hw : ∀ d ∈ tables_1, d.before a0 Z = true) (n0 : Nat) (h0 : Heap) (Z0 : n0 ≤ h0.size) (a b : Addr) (cs : List Int32) (us : List Value) (AC : Ary Z h0 a .char (cs.map Value.int ++ us)) (AB : Ary Z h0 b .byte (List.replicate cs.length (.int (0 : Int32)))) (hab : a ≠ b) (gb : n0 ≤ b) (hn : cs.length < 2 ^ 30) :
    Con l Z n0 (⟨"java/lang/StringUTF16", "compress", "([CI[BII)I"⟩ : MethodName) jdk_52_method_21_code 7 (some .int) ({ frames := 0, cells := 0, slots := 0, locals := 0 } : Room) #[(.ref a), (.int (0 : Int32)), (.ref b), (.int (0 : Int32)), (.int (Int32.ofNat cs.length))] h0 (Val fun w h' => .int (Int32.ofNat (own_pfx cs)) = w ∧ Keep h0 h' [b] ∧ Ary Z h' b .byte (own_by (cs.take (own_pfx cs)) ++ List.replicate (cs.length - (own_pfx cs)) (.int (0 : Int32)))) := by
  refine Con.of_run pn_8 (fun m => ef_con_cmp5 m a b cs us ) ?_
  refine Run.iconst (0 : Int32) d8_0 (by decide) (pc' := 1) rfl ?_
  refine Run.istore (l' := #[.val (.ref a), .val (.int (0 : Int32)), .val (.ref b), .val (.int (0 : Int32)), .val (.int (Int32.ofNat cs.length)), .val (.int (0 : Int32)), .unset]) d8_1 rfl (pc' := 3) rfl ?_
  have loop : ∀ (t i : Nat) (hh : Heap) (s6 : Slot), t + i = cs.length → i + own_pfx (cs.drop i) = own_pfx cs → One s6 → n0 ≤ hh.size → Keep h0 hh [b] → Ary Z hh a .char (cs.map Value.int ++ us) → Ary Z hh b .byte (own_by (cs.take i) ++ List.replicate (cs.length - i) (.int (0 : Int32))) → Run l Z n0 "java/lang/StringUTF16" jdk_52_method_21_code 7 (some .int) "compress" ({ frames := 0, cells := 0, slots := 0, locals := 0 } : Room) (Val fun w h' => .int (Int32.ofNat (own_pfx cs)) = w ∧ Keep h0 h' [b] ∧ Ary Z h' b .byte (own_by (cs.take (own_pfx cs)) ++ List.replicate (cs.length - (own_pfx cs)) (.int (0 : Int32)))) 3 #[.val (.ref a), .val (.int (Int32.ofNat i)), .val (.ref b), .val (.int (Int32.ofNat i)), .val (.int (Int32.ofNat cs.length)), .val (.int (Int32.ofNat i)), s6] [] hh 0 0 := by
    intro t
    induction t with
    | zero =>
      intro i hh s6 hti hiv h_s6 szh kph ACh ABh
      have hi : own_pfx cs = cs.length := by rw [← hiv, own_pfx_end (by omega)]; omega
      obtain rfl : i = cs.length := by omega
      refine Run.iload d8_3 rfl (pc' := 5) rfl ?_
      refine Run.iload d8_5 rfl (pc' := 7) rfl ?_
      refine Run.icmp_ge d8_7 (by decide) (pc' := 44) (by decide) (pa := 10) rfl (fun hc7 => ?_) (fun hc7 => ?_)
      · -- pc 7 taken: ¬ (Int32.ofNat cs.length) < (Int32.ofNat cs.length)
        refine Run.iload d8_44 rfl (pc' := 46) rfl ?_
        exact Run.ireturn d8_46 rfl (by decide) (by decide) ⟨_, rfl, by rw [hi], kph, (by rw [hi]; exact ABh)⟩
      · -- pc 7 not taken: (Int32.ofNat cs.length) < (Int32.ofNat cs.length)
        exact absurd ((own_lt (by omega) (by omega)).mp hc7) (by omega)
    | succ t ih =>
      intro i hh s6 hti hiv h_s6 szh kph ACh ABh
      have hil : i < cs.length := by omega
      refine Run.iload d8_3 rfl (pc' := 5) rfl ?_
      refine Run.iload d8_5 rfl (pc' := 7) rfl ?_
      refine Run.icmp_ge d8_7 (by decide) (pc' := 44) (by decide) (pa := 10) rfl (fun hc7 => ?_) (fun hc7 => ?_)
      · -- pc 7 taken: ¬ (Int32.ofNat i) < (Int32.ofNat cs.length)
        exact absurd ((own_lt (by omega) (by omega)).mpr hil) hc7
      · -- pc 7 not taken: (Int32.ofNat i) < (Int32.ofNat cs.length)
        refine Run.aloadN d8_10 rfl rfl (pc' := 11) rfl ?_
        refine Run.iloadN d8_11 rfl (pc' := 12) rfl ?_
        refine Run.caload (i := i) (v := (.int (cs.getD i 0))) d8_12 ACh (own_ofn (by omega)) (own_cg hil) (pc' := 13) rfl ?_
        refine Run.istore (l' := #[.val (.ref a), .val (.int (Int32.ofNat i)), .val (.ref b), .val (.int (Int32.ofNat i)), .val (.int (Int32.ofNat cs.length)), .val (.int (Int32.ofNat i)), .val (.int (cs.getD i 0))]) d8_13 (XS.store1 rfl h_s6 rfl) (pc' := 15) rfl ?_
        refine Run.iload d8_15 rfl (pc' := 17) rfl ?_
        refine Run.sipush (255 : Int32) d8_17 (by decide) (pc' := 20) rfl ?_
        refine Run.icmp_le d8_20 (by decide) (pc' := 26) (by decide) (pa := 23) rfl (fun hc20 => ?_) (fun hc20 => ?_)
        · -- pc 20 taken: ¬ (255 : Int32) < (cs.getD i 0)
          refine Run.aloadN d8_26 rfl rfl (pc' := 27) rfl ?_
          refine Run.iloadN d8_27 rfl (pc' := 28) rfl ?_
          refine Run.iload d8_28 rfl (pc' := 30) rfl ?_
          refine Run.i2b d8_30 (pc' := 31) rfl ?_
          refine Run.bastore (i := i) d8_31 ABh (own_ofn (by omega)) (by simp [own_by]; omega) gb (pc' := 32) rfl ?_
          intro h11 W11 A11
          have A_a_11 := ACh.other W11 hab
          have sz11 : n0 ≤ h11.size := by rw [W11.size]; exact szh
          have kp11 := Keep.wr kph W11 (Or.inl (List.mem_of_getElem? (i := 0) rfl))
          refine Run.iinc (1 : Int32) #[.val (.ref a), .val (.int ((Int32.ofNat i) + (1 : Int32))), .val (.ref b), .val (.int (Int32.ofNat i)), .val (.int (Int32.ofNat cs.length)), .val (.int (Int32.ofNat i)), .val (.int (cs.getD i 0))] d8_32 (by decide) rfl rfl (pc' := 35) rfl ?_
          refine Run.iinc (1 : Int32) #[.val (.ref a), .val (.int ((Int32.ofNat i) + (1 : Int32))), .val (.ref b), .val (.int ((Int32.ofNat i) + (1 : Int32))), .val (.int (Int32.ofNat cs.length)), .val (.int (Int32.ofNat i)), .val (.int (cs.getD i 0))] d8_35 (by decide) rfl rfl (pc' := 38) rfl ?_
          refine Run.iinc (1 : Int32) #[.val (.ref a), .val (.int ((Int32.ofNat i) + (1 : Int32))), .val (.ref b), .val (.int ((Int32.ofNat i) + (1 : Int32))), .val (.int (Int32.ofNat cs.length)), .val (.int ((Int32.ofNat i) + (1 : Int32))), .val (.int (cs.getD i 0))] d8_38 (by decide) rfl rfl (pc' := 41) rfl ?_
          refine Run.goto d8_41 (by decide) (pc' := 3) (by decide) ?_
          simp only [own_inc]
          exact ih (i + 1) h11 _ (by omega) (by have z := own_pfx_at (i := i) hil; rw [if_neg hc20] at z; omega) (Or.inr ⟨_, rfl, rfl⟩) sz11 kp11 A_a_11 (by have z := A11; rw [own_nbb] at z; rw [← own_by_set hil]; exact z)
        · -- pc 20 not taken: (255 : Int32) < (cs.getD i 0)
          refine Run.iload d8_23 rfl (pc' := 25) rfl ?_
          have hi : i = own_pfx cs := by have z := own_pfx_at (i := i) hil; rw [if_pos hc20] at z; omega
          exact Run.ireturn d8_25 rfl (by decide) (by decide) ⟨_, rfl, by rw [← hi], kph, (by rw [← hi]; exact ABh)⟩
  exact loop cs.length 0 h0 .unset (by omega) (by rw [List.drop_zero]; omega) (Or.inl rfl) Z0 (Keep.refl h0 [b]) AC (by simpa [own_by] using AB)
theorem own_nge {n : Nat} (h : n < 2 ^ 31) : ¬ Int32.ofNat n < (0 : Int32) := by rw [Int32.lt_iff_toInt_lt, own_ofn h, own_z]; omega
theorem own_nlt {n : Nat} (h : n < 2 ^ 29) : Int32.ofNat n < (1073741823 : Int32) := by rw [Int32.lt_iff_toInt_lt, own_ofn (by omega)]; have e : (1073741823 : Int32).toInt = 1073741823 := rfl; omega
theorem d29_0 : decode jdk_52_method_3_code 0 = .ok (.iload_n 0, 1) := by decide +kernel
theorem d29_1 : decode jdk_52_method_3_code 1 = .ok (.ifCond .ge 11, 3) := by decide +kernel
theorem d29_12 : decode jdk_52_method_3_code 12 = .ok (.iload_n 0, 1) := by decide +kernel
theorem d29_13 : decode jdk_52_method_3_code 13 = .ok (.ldc 20, 2) := by decide +kernel
theorem d29_15 : decode jdk_52_method_3_code 15 = .ok (.if_icmp .lt 40, 3) := by decide +kernel
theorem d29_55 : decode jdk_52_method_3_code 55 = .ok (.iload_n 0, 1) := by decide +kernel
theorem d29_56 : decode jdk_52_method_3_code 56 = .ok (.iconst 1, 1) := by decide +kernel
theorem d29_57 : decode jdk_52_method_3_code 57 = .ok (.ishl, 1) := by decide +kernel
theorem d29_58 : decode jdk_52_method_3_code 58 = .ok (.ireturn, 1) := by decide +kernel
theorem pn_29 : plainFor (⟨"java/lang/StringUTF16", "newBytesLength", "(I)I"⟩ : MethodName) = true := plainFor_of_name (by first | (simp [plainName, overriddenIn]; done) | decide +kernel)
theorem ef_con_nbl (m : MethodId) (n : Nat)  : entryFrame m #[(.int (Int32.ofNat n))] 1 = mkF m 0 #[.val (.int (Int32.ofNat n))] [] := by first | (simp [entryFrame, mkF, argsToLocals, Value.category]; done) | rfl
set_option maxRecDepth 65536 in
set_option maxHeartbeats 40000000 in
theorem con_nbl (l : Launch) (Z : State) (a0 : Array Value) (hw : ∀ d ∈ tables_1, d.before a0 Z = true) (n0 : Nat) (h0 : Heap) (Z0 : n0 ≤ h0.size) (n : Nat) (hn : n < 2 ^ 29) :
    Con l Z n0 (⟨"java/lang/StringUTF16", "newBytesLength", "(I)I"⟩ : MethodName) jdk_52_method_3_code 1 (some .int) ({ frames := 0, cells := 0, slots := 0, locals := 0 } : Room) #[(.int (Int32.ofNat n))] h0 (Val (PV (.int (Int32.ofNat (2 * n))) h0)) := by
  refine Con.of_run pn_29 (fun m => ef_con_nbl m n ) ?_
  refine Run.iloadN d29_0 rfl (pc' := 1) rfl ?_
  refine Run.if_ge d29_1 (by decide) (pc' := 12) (by decide) (pa := 4) rfl (fun hc1 => ?_) (fun hc1 => ?_)
  · -- pc 1 taken: ¬ (Int32.ofNat n) < (0 : Int32)
    refine Run.iloadN d29_12 rfl (pc' := 13) rfl ?_
    refine Run.ldcI (v := (1073741823 : Int32)) d29_13 (hw _ (List.mem_of_getElem? (i := 124) rfl)) (pc' := 15) rfl ?_
    refine Run.icmp_lt d29_15 (by decide) (pc' := 55) (by decide) (pa := 18) rfl (fun hc15 => ?_) (fun hc15 => ?_)
    · -- pc 15 taken: (Int32.ofNat n) < (1073741823 : Int32)
      refine Run.iloadN d29_55 rfl (pc' := 56) rfl ?_
      refine Run.iconst (1 : Int32) d29_56 (by decide) (pc' := 57) rfl ?_
      refine Run.ishl d29_57 (pc' := 58) rfl ?_
      exact Run.ireturn d29_58 rfl (by decide) (by decide) ⟨_, rfl, congrArg Value.int (own_shl1 (by omega)).symm, rfl⟩
    · -- pc 15 not taken: ¬ (Int32.ofNat n) < (1073741823 : Int32)
      exact absurd (own_nlt (by omega)) hc15
  · -- pc 1 not taken: (Int32.ofNat n) < (0 : Int32)
    exact absurd hc1 (own_nge (by omega))
theorem d28_0 : decode jdk_52_method_2_code 0 = .ok (.iload_n 0, 1) := by decide +kernel
theorem d28_1 : decode jdk_52_method_2_code 1 = .ok (.invokestatic 11, 3) := by decide +kernel
theorem d28_4 : decode jdk_52_method_2_code 4 = .ok (.newarray .byte, 2) := by decide +kernel
theorem d28_6 : decode jdk_52_method_2_code 6 = .ok (.areturn, 1) := by decide +kernel
theorem pn_28 : plainFor (⟨"java/lang/StringUTF16", "newBytesFor", "(I)[B"⟩ : MethodName) = true := plainFor_of_name (by first | (simp [plainName, overriddenIn]; done) | decide +kernel)
theorem pd__I_I : parseMethodDescriptor "(I)I" = some ⟨[.int], some .int⟩ := by decide +kernel
theorem ef_con_nbf (m : MethodId) (n : Nat)  : entryFrame m #[(.int (Int32.ofNat n))] 1 = mkF m 0 #[.val (.int (Int32.ofNat n))] [] := by first | (simp [entryFrame, mkF, argsToLocals, Value.category]; done) | rfl
set_option maxRecDepth 65536 in
set_option maxHeartbeats 40000000 in
theorem con_nbf (l : Launch) (Z : State) (a0 : Array Value) (hw : ∀ d ∈ tables_1, d.before a0 Z = true) (n0 : Nat) (h0 : Heap) (Z0 : n0 ≤ h0.size) (n : Nat) (hn : n ≤ 3) :
    Con l Z n0 (⟨"java/lang/StringUTF16", "newBytesFor", "(I)[B"⟩ : MethodName) jdk_52_method_2_code 1 (some (.array .byte)) ({ frames := 1, cells := 1, slots := 6, locals := 12 } : Room) #[(.int (Int32.ofNat n))] h0 (Val fun w h' => ∃ b, w = .ref b ∧ h0.size ≤ b ∧ Ext h0 h' ∧ Ary Z h' b .byte (List.replicate (2 * n) (.int (0 : Int32)))) := by
  refine Con.of_run pn_28 (fun m => ef_con_nbf m n ) ?_
  refine Run.iloadN d28_0 rfl (pc' := 1) rfl ?_
  refine Run.callS (k' := 0) (n' := 0) (as := [(.int (Int32.ofNat n))]) (rest := []) (con_nbl l Z a0 hw n0 h0 Z0 n (by omega) ) d28_1 (hw _ (List.mem_of_getElem? (i := 121) rfl)) (hw _ (List.mem_of_getElem? (i := 122) rfl)) (hw _ (List.mem_of_getElem? (i := 38) rfl)) (hw _ (List.mem_of_getElem? (i := 123) rfl)) (by decide) pd__I_I rfl rfl rfl (by decide) (by show (0 : Nat) + (1 + 11) + 0 ≤ _; decide) (by decide) (by decide) (by decide) (by decide) (pc' := 4) rfl ?_
  rintro _ _ ⟨_, rfl, rfl, rfl⟩
  show Run l Z n0 "java/lang/StringUTF16" jdk_52_method_2_code 1 (some (.array .byte)) "newBytesFor" ({ frames := 1, cells := 1, slots := 6, locals := 12 } : Room) _ 4 #[.val (.int (Int32.ofNat n))] [(.int (Int32.ofNat (2 * n)))] h0 0 0
  refine Run.newP (ty := .byte) (m := (2 * n)) (cap := 6) (dv := (.int (0 : Int32))) (k' := 1) (n' := 6) d28_4 rfl (hw _ (List.mem_of_getElem? (i := 19) rfl)) (own_nge (by omega)) (clamp_of rfl (by omega)) (by omega) rfl (by decide) (by decide) (by decide) (by decide) (by decide) (pc' := 6) rfl ?_
  intro h11 b11 g11 E11 A11
  have ge_b11 : n0 ≤ b11 := by rw [g11]; exact Z0
  have bo_b11 : h0.size ≤ b11 := by rw [g11]; exact (Keep.refl h0 []).1
  have sz11 : n0 ≤ h11.size := Nat.le_trans Z0 E11.1
  have kp11 := Keep.ext (Keep.refl h0 []) E11
  exact Run.areturn d28_6 (ty := (.array .byte)) rfl rfl rfl (by decide) (by decide) ⟨_, rfl, b11, rfl, bo_b11, Keep.toExt kp11, A11⟩
theorem d30_0 : decode jdk_52_method_4_code 0 = .ok (.getstatic 44, 3) := by decide +kernel
theorem d30_3 : decode jdk_52_method_4_code 3 = .ok (.ifCond .ne 25, 3) := by decide +kernel
theorem d30_28 : decode jdk_52_method_4_code 28 = .ok (.iload_n 1, 1) := by decide +kernel
theorem d30_29 : decode jdk_52_method_4_code 29 = .ok (.iconst 1, 1) := by decide +kernel
theorem d30_30 : decode jdk_52_method_4_code 30 = .ok (.ishl, 1) := by decide +kernel
theorem d30_31 : decode jdk_52_method_4_code 31 = .ok (.istore_n 1, 1) := by decide +kernel
theorem d30_32 : decode jdk_52_method_4_code 32 = .ok (.aload_n 0, 1) := by decide +kernel
theorem d30_33 : decode jdk_52_method_4_code 33 = .ok (.iload_n 1, 1) := by decide +kernel
theorem d30_34 : decode jdk_52_method_4_code 34 = .ok (.iinc 1 1, 3) := by decide +kernel
theorem d30_37 : decode jdk_52_method_4_code 37 = .ok (.iload_n 2, 1) := by decide +kernel
theorem d30_38 : decode jdk_52_method_4_code 38 = .ok (.getstatic 59, 3) := by decide +kernel
theorem d30_41 : decode jdk_52_method_4_code 41 = .ok (.ishr, 1) := by decide +kernel
theorem d30_42 : decode jdk_52_method_4_code 42 = .ok (.i2b, 1) := by decide +kernel
theorem d30_43 : decode jdk_52_method_4_code 43 = .ok (.bastore, 1) := by decide +kernel
theorem d30_44 : decode jdk_52_method_4_code 44 = .ok (.aload_n 0, 1) := by decide +kernel
theorem d30_45 : decode jdk_52_method_4_code 45 = .ok (.iload_n 1, 1) := by decide +kernel
theorem d30_46 : decode jdk_52_method_4_code 46 = .ok (.iload_n 2, 1) := by decide +kernel
theorem d30_47 : decode jdk_52_method_4_code 47 = .ok (.getstatic 63, 3) := by decide +kernel
theorem d30_50 : decode jdk_52_method_4_code 50 = .ok (.ishr, 1) := by decide +kernel
theorem d30_51 : decode jdk_52_method_4_code 51 = .ok (.i2b, 1) := by decide +kernel
theorem d30_52 : decode jdk_52_method_4_code 52 = .ok (.bastore, 1) := by decide +kernel
theorem d30_53 : decode jdk_52_method_4_code 53 = .ok (.return_, 1) := by decide +kernel
theorem pn_30 : plainFor (⟨"java/lang/StringUTF16", "putChar", "([BII)V"⟩ : MethodName) = true := plainFor_of_name (by first | (simp [plainName, overriddenIn]; done) | decide +kernel)
theorem ef_con_puc (m : MethodId) (b : Addr) (i : Nat) (c : Int32) (bs : List Value)  : entryFrame m #[(.ref b), (.int (Int32.ofNat i)), (.int c)] 3 = mkF m 0 #[.val (.ref b), .val (.int (Int32.ofNat i)), .val (.int c)] [] := by first | (simp [entryFrame, mkF, argsToLocals, Value.category]; done) | rfl
set_option maxRecDepth 65536 in
set_option maxHeartbeats 40000000 in
theorem con_puc (l : Launch) (Z : State) (a0 : Array Value) (hw : ∀ d ∈ tables_1, d.before a0 Z = true) (n0 : Nat) (h0 : Heap) (Z0 : n0 ≤ h0.size) (b : Addr) (i : Nat) (c : Int32) (bs : List Value) (od0 : Old Z n0 h0) (SD : Sta Z Z.heap "java/lang/StringUTF16" "$assertionsDisabled" "Z" (.int (1 : Int32))) (SH8 : Sta Z Z.heap "java/lang/StringUTF16" "HI_BYTE_SHIFT" "I" (.int (0 : Int32))) (SL8 : Sta Z Z.heap "java/lang/StringUTF16" "LO_BYTE_SHIFT" "I" (.int (8 : Int32))) (AB : Ary Z h0 b .byte bs) (gb : n0 ≤ b) (hi : 2 * i + 1 < bs.length) (hi2 : i < 2 ^ 29) :
    Con l Z n0 (⟨"java/lang/StringUTF16", "putChar", "([BII)V"⟩ : MethodName) jdk_52_method_4_code 3 none ({ frames := 0, cells := 0, slots := 0, locals := 0 } : Room) #[(.ref b), (.int (Int32.ofNat i)), (.int c)] h0 (Vd fun h' => Keep h0 h' [b] ∧ Ary Z h' b .byte ((bs.set (2 * i) (.int (own_b0 c))).set (2 * i + 1) (.int (own_b1 c)))) := by
  refine Con.of_run pn_30 (fun m => ef_con_puc m b i c bs ) ?_
  refine Run.getS d30_0 (host := "") (Or.inl (hw _ (List.mem_of_getElem? (i := 128) rfl))) Via.refl (SD.ext od0.2) (pc' := 3) rfl ?_
  refine Run.if_ne d30_3 (by decide) (pc' := 28) (by decide) (pa := 6) rfl (fun hc3 => ?_) (fun hc3 => ?_)
  · -- pc 3 taken: ¬ (1 : Int32) = (0 : Int32)
    refine Run.iloadN d30_28 rfl (pc' := 29) rfl ?_
    refine Run.iconst (1 : Int32) d30_29 (by decide) (pc' := 30) rfl ?_
    refine Run.ishl d30_30 (pc' := 31) rfl ?_
    rw [own_shl1 (by omega)]
    refine Run.istoreN (l' := #[.val (.ref b), .val (.int (Int32.ofNat (2 * i))), .val (.int c)]) d30_31 rfl (pc' := 32) rfl ?_
    refine Run.aloadN d30_32 rfl rfl (pc' := 33) rfl ?_
    refine Run.iloadN d30_33 rfl (pc' := 34) rfl ?_
    refine Run.iinc (1 : Int32) #[.val (.ref b), .val (.int ((Int32.ofNat (2 * i)) + (1 : Int32))), .val (.int c)] d30_34 (by decide) rfl rfl (pc' := 37) rfl ?_
    rw [own_inc]
    refine Run.iloadN d30_37 rfl (pc' := 38) rfl ?_
    refine Run.getS d30_38 (host := "") (Or.inl (hw _ (List.mem_of_getElem? (i := 129) rfl))) Via.refl (SH8.ext od0.2) (pc' := 41) rfl ?_
    refine Run.ishr d30_41 (pc' := 42) rfl ?_
    refine Run.i2b d30_42 (pc' := 43) rfl ?_
    refine Run.bastore (i := (2 * i)) d30_43 AB (own_ofn (by omega)) (by omega) gb (pc' := 44) rfl ?_
    intro h11 W11 A11
    have sz11 : n0 ≤ h11.size := by rw [W11.size]; exact Z0
    have kp11 := Keep.wr (Keep.refl h0 [b]) W11 (Or.inl (List.mem_of_getElem? (i := 0) rfl))
    have od11 := od0.wr W11 gb
    refine Run.aloadN d30_44 rfl rfl (pc' := 45) rfl ?_
    refine Run.iloadN d30_45 rfl (pc' := 46) rfl ?_
    refine Run.iloadN d30_46 rfl (pc' := 47) rfl ?_
    refine Run.getS d30_47 (host := "") (Or.inl (hw _ (List.mem_of_getElem? (i := 130) rfl))) Via.refl (SL8.ext od11.2) (pc' := 50) rfl ?_
    refine Run.ishr d30_50 (pc' := 51) rfl ?_
    refine Run.i2b d30_51 (pc' := 52) rfl ?_
    refine Run.bastore (i := (2 * i + 1)) d30_52 A11 (own_ofn (by omega)) (by rw [List.length_set]; omega) gb (pc' := 53) rfl ?_
    intro h12 W12 A12
    have sz12 : n0 ≤ h12.size := by rw [W12.size]; exact sz11
    have kp12 := Keep.wr kp11 W12 (Or.inl (List.mem_of_getElem? (i := 0) rfl))
    have od12 := od11.wr W12 gb
    exact Run.vreturn d30_53 rfl (by decide) (by decide) ⟨rfl, kp12, (by have z := A12; rw [own_nbb, own_nbb] at z; exact z)⟩
  · -- pc 3 not taken: (1 : Int32) = (0 : Int32)
    exact absurd hc3 (by decide)
theorem d31_0 : decode jdk_52_method_5_code 0 = .ok (.getstatic 44, 3) := by decide +kernel
theorem d31_3 : decode jdk_52_method_5_code 3 = .ok (.ifCond .ne 25, 3) := by decide +kernel
theorem d31_28 : decode jdk_52_method_5_code 28 = .ok (.iload_n 1, 1) := by decide +kernel
theorem d31_29 : decode jdk_52_method_5_code 29 = .ok (.iconst 1, 1) := by decide +kernel
theorem d31_30 : decode jdk_52_method_5_code 30 = .ok (.ishl, 1) := by decide +kernel
theorem d31_31 : decode jdk_52_method_5_code 31 = .ok (.istore_n 1, 1) := by decide +kernel
theorem d31_32 : decode jdk_52_method_5_code 32 = .ok (.aload_n 0, 1) := by decide +kernel
theorem d31_33 : decode jdk_52_method_5_code 33 = .ok (.iload_n 1, 1) := by decide +kernel
theorem d31_34 : decode jdk_52_method_5_code 34 = .ok (.iinc 1 1, 3) := by decide +kernel
theorem d31_37 : decode jdk_52_method_5_code 37 = .ok (.baload, 1) := by decide +kernel
theorem d31_38 : decode jdk_52_method_5_code 38 = .ok (.sipush 255, 3) := by decide +kernel
theorem d31_41 : decode jdk_52_method_5_code 41 = .ok (.iand, 1) := by decide +kernel
theorem d31_42 : decode jdk_52_method_5_code 42 = .ok (.getstatic 59, 3) := by decide +kernel
theorem d31_45 : decode jdk_52_method_5_code 45 = .ok (.ishl, 1) := by decide +kernel
theorem d31_46 : decode jdk_52_method_5_code 46 = .ok (.aload_n 0, 1) := by decide +kernel
theorem d31_47 : decode jdk_52_method_5_code 47 = .ok (.iload_n 1, 1) := by decide +kernel
theorem d31_48 : decode jdk_52_method_5_code 48 = .ok (.baload, 1) := by decide +kernel
theorem d31_49 : decode jdk_52_method_5_code 49 = .ok (.sipush 255, 3) := by decide +kernel
theorem d31_52 : decode jdk_52_method_5_code 52 = .ok (.iand, 1) := by decide +kernel
theorem d31_53 : decode jdk_52_method_5_code 53 = .ok (.getstatic 63, 3) := by decide +kernel
theorem d31_56 : decode jdk_52_method_5_code 56 = .ok (.ishl, 1) := by decide +kernel
theorem d31_57 : decode jdk_52_method_5_code 57 = .ok (.ior, 1) := by decide +kernel
theorem d31_58 : decode jdk_52_method_5_code 58 = .ok (.i2c, 1) := by decide +kernel
theorem d31_59 : decode jdk_52_method_5_code 59 = .ok (.ireturn, 1) := by decide +kernel
theorem pn_31 : plainFor (⟨"java/lang/StringUTF16", "getChar", "([BI)C"⟩ : MethodName) = true := plainFor_of_name (by first | (simp [plainName, overriddenIn]; done) | decide +kernel)
theorem ef_con_gec (m : MethodId) (b : Addr) (i : Nat) (x y : Int32) (bs : List Value)  : entryFrame m #[(.ref b), (.int (Int32.ofNat i))] 2 = mkF m 0 #[.val (.ref b), .val (.int (Int32.ofNat i))] [] := by first | (simp [entryFrame, mkF, argsToLocals, Value.category]; done) | rfl
set_option maxRecDepth 65536 in
set_option maxHeartbeats 40000000 in
theorem con_gec (l : Launch) (Z : State) (a0 : Array Value) (hw : ∀ d ∈ tables_1, d.before a0 Z = true) (n0 : Nat) (h0 : Heap) (Z0 : n0 ≤ h0.size) (b : Addr) (i : Nat) (x y : Int32) (bs : List Value) (od0 : Old Z n0 h0) (SD : Sta Z Z.heap "java/lang/StringUTF16" "$assertionsDisabled" "Z" (.int (1 : Int32))) (SH8 : Sta Z Z.heap "java/lang/StringUTF16" "HI_BYTE_SHIFT" "I" (.int (0 : Int32))) (SL8 : Sta Z Z.heap "java/lang/StringUTF16" "LO_BYTE_SHIFT" "I" (.int (8 : Int32))) (AB : Ary Z h0 b .byte bs) (hx : bs[2 * i]? = some (.int x)) (hy : bs[2 * i + 1]? = some (.int y)) (hi2 : i < 2 ^ 29) :
    Con l Z n0 (⟨"java/lang/StringUTF16", "getChar", "([BI)C"⟩ : MethodName) jdk_52_method_5_code 2 (some .char) ({ frames := 0, cells := 0, slots := 0, locals := 0 } : Room) #[(.ref b), (.int (Int32.ofNat i))] h0 (Val (PV (.int (own_gc x y)) h0)) := by
  refine Con.of_run pn_31 (fun m => ef_con_gec m b i x y bs ) ?_
  refine Run.getS d31_0 (host := "") (Or.inl (hw _ (List.mem_of_getElem? (i := 128) rfl))) Via.refl (SD.ext od0.2) (pc' := 3) rfl ?_
  refine Run.if_ne d31_3 (by decide) (pc' := 28) (by decide) (pa := 6) rfl (fun hc3 => ?_) (fun hc3 => ?_)
  · -- pc 3 taken: ¬ (1 : Int32) = (0 : Int32)
    refine Run.iloadN d31_28 rfl (pc' := 29) rfl ?_
    refine Run.iconst (1 : Int32) d31_29 (by decide) (pc' := 30) rfl ?_
    refine Run.ishl d31_30 (pc' := 31) rfl ?_
    rw [own_shl1 (by omega)]
    refine Run.istoreN (l' := #[.val (.ref b), .val (.int (Int32.ofNat (2 * i)))]) d31_31 rfl (pc' := 32) rfl ?_
    refine Run.aloadN d31_32 rfl rfl (pc' := 33) rfl ?_
    refine Run.iloadN d31_33 rfl (pc' := 34) rfl ?_
    refine Run.iinc (1 : Int32) #[.val (.ref b), .val (.int ((Int32.ofNat (2 * i)) + (1 : Int32)))] d31_34 (by decide) rfl rfl (pc' := 37) rfl ?_
    rw [own_inc]
    refine Run.baload (i := (2 * i)) (v := (.int x)) d31_37 AB (own_ofn (by omega)) hx (pc' := 38) rfl ?_
    refine Run.sipush (255 : Int32) d31_38 (by decide) (pc' := 41) rfl ?_
    refine Run.iand d31_41 (pc' := 42) rfl ?_
    refine Run.getS d31_42 (host := "") (Or.inl (hw _ (List.mem_of_getElem? (i := 129) rfl))) Via.refl (SH8.ext od0.2) (pc' := 45) rfl ?_
    refine Run.ishl d31_45 (pc' := 46) rfl ?_
    refine Run.aloadN d31_46 rfl rfl (pc' := 47) rfl ?_
    refine Run.iloadN d31_47 rfl (pc' := 48) rfl ?_
    refine Run.baload (i := (2 * i + 1)) (v := (.int y)) d31_48 AB (own_ofn (by omega)) hy (pc' := 49) rfl ?_
    refine Run.sipush (255 : Int32) d31_49 (by decide) (pc' := 52) rfl ?_
    refine Run.iand d31_52 (pc' := 53) rfl ?_
    refine Run.getS d31_53 (host := "") (Or.inl (hw _ (List.mem_of_getElem? (i := 130) rfl))) Via.refl (SL8.ext od0.2) (pc' := 56) rfl ?_
    refine Run.ishl d31_56 (pc' := 57) rfl ?_
    refine Run.ior d31_57 (pc' := 58) rfl ?_
    refine Run.i2c d31_58 (pc' := 59) rfl ?_
    exact Run.nreturn d31_59 (ty := .char) rfl (by simp) (by decide) (by decide) ⟨_, rfl, rfl, rfl⟩
  · -- pc 3 not taken: (1 : Int32) = (0 : Int32)
    exact absurd hc3 (by decide)
theorem d27_0 : decode jdk_52_method_14_code 0 = .ok (.iload_n 2, 1) := by decide +kernel
theorem d27_1 : decode jdk_52_method_14_code 1 = .ok (.invokestatic 107, 3) := by decide +kernel
theorem d27_4 : decode jdk_52_method_14_code 4 = .ok (.astore_n 3, 1) := by decide +kernel
theorem d27_5 : decode jdk_52_method_14_code 5 = .ok (.iconst 0, 1) := by decide +kernel
theorem d27_6 : decode jdk_52_method_14_code 6 = .ok (.istore 4, 2) := by decide +kernel
theorem d27_8 : decode jdk_52_method_14_code 8 = .ok (.iload 4, 2) := by decide +kernel
theorem d27_10 : decode jdk_52_method_14_code 10 = .ok (.iload_n 2, 1) := by decide +kernel
theorem d27_11 : decode jdk_52_method_14_code 11 = .ok (.if_icmp .ge 21, 3) := by decide +kernel
theorem d27_14 : decode jdk_52_method_14_code 14 = .ok (.aload_n 3, 1) := by decide +kernel
theorem d27_15 : decode jdk_52_method_14_code 15 = .ok (.iload 4, 2) := by decide +kernel
theorem d27_17 : decode jdk_52_method_14_code 17 = .ok (.aload_n 0, 1) := by decide +kernel
theorem d27_18 : decode jdk_52_method_14_code 18 = .ok (.iload_n 1, 1) := by decide +kernel
theorem d27_19 : decode jdk_52_method_14_code 19 = .ok (.caload, 1) := by decide +kernel
theorem d27_20 : decode jdk_52_method_14_code 20 = .ok (.invokestatic 111, 3) := by decide +kernel
theorem d27_23 : decode jdk_52_method_14_code 23 = .ok (.iinc 1 1, 3) := by decide +kernel
theorem d27_26 : decode jdk_52_method_14_code 26 = .ok (.iinc 4 1, 3) := by decide +kernel
theorem d27_29 : decode jdk_52_method_14_code 29 = .ok (.goto (-21), 3) := by decide +kernel
theorem d27_32 : decode jdk_52_method_14_code 32 = .ok (.aload_n 3, 1) := by decide +kernel
theorem d27_33 : decode jdk_52_method_14_code 33 = .ok (.areturn, 1) := by decide +kernel
theorem pn_27 : plainFor (⟨"java/lang/StringUTF16", "toBytes", "([CII)[B"⟩ : MethodName) = true := plainFor_of_name (by first | (simp [plainName, overriddenIn]; done) | decide +kernel)
theorem pd__I__B : parseMethodDescriptor "(I)[B" = some ⟨[.int], some (.array .byte)⟩ := by decide +kernel
theorem pd___BII_V : parseMethodDescriptor "([BII)V" = some ⟨[(.array .byte), .int, .int], none⟩ := by decide +kernel
theorem ef_con_tby (m : MethodId) (a : Addr) (cs : List Int32) (us : List Value)  : entryFrame m #[(.ref a), (.int (0 : Int32)), (.int (Int32.ofNat cs.length))] 5 = mkF m 0 #[.val (.ref a), .val (.int (0 : Int32)), .val (.int (Int32.ofNat cs.length)), .unset, .unset] [] := by first | (simp [entryFrame, mkF, argsToLocals, Value.category]; done) | rfl
set_option maxRecDepth 65536 in
set_option maxHeartbeats 40000000 in
theorem con_tby (l : Launch) (Z : State) (a0 : Array Value) (hw : ∀ d ∈ tables_1, d.before a0 Z = true) (n0 : Nat) (h0 : Heap) (Z0 : n0 ≤ h0.size) (a : Addr) (cs : List Int32) (us : List Value) (od0 : Old Z n0 h0) (SD : Sta Z Z.heap "java/lang/StringUTF16" "$assertionsDisabled" "Z" (.int (1 : Int32))) (SH8 : Sta Z Z.heap "java/lang/StringUTF16" "HI_BYTE_SHIFT" "I" (.int (0 : Int32))) (SL8 : Sta Z Z.heap "java/lang/StringUTF16" "LO_BYTE_SHIFT" "I" (.int (8 : Int32))) (AC : Ary Z h0 a .char (cs.map Value.int ++ us)) (hn : cs.length ≤ 3) :
    Con l Z n0 (⟨"java/lang/StringUTF16", "toBytes", "([CII)[B"⟩ : MethodName) jdk_52_method_14_code 5 (some (.array .byte)) ({ frames := 2, cells := 1, slots := 6, locals := 24 } : Room) #[(.ref a), (.int (0 : Int32)), (.int (Int32.ofNat cs.length))] h0 (Val fun w h' => ∃ b, w = .ref b ∧ h0.size ≤ b ∧ Ext h0 h' ∧ Ary Z h' b .byte (own_u16 cs)) := by
  refine Con.of_run pn_27 (fun m => ef_con_tby m a cs us ) ?_
  refine Run.iloadN d27_0 rfl (pc' := 1) rfl ?_
  refine Run.callS (k' := 1) (n' := 6) (as := [(.int (Int32.ofNat cs.length))]) (rest := []) (con_nbf l Z a0 hw n0 h0 Z0 cs.length hn) d27_1 (hw _ (List.mem_of_getElem? (i := 118) rfl)) (hw _ (List.mem_of_getElem? (i := 119) rfl)) (hw _ (List.mem_of_getElem? (i := 38) rfl)) (hw _ (List.mem_of_getElem? (i := 120) rfl)) (by decide) pd__I__B rfl rfl rfl (by decide) (by show (0 : Nat) + (1 + 11) + 12 ≤ _; decide) (by decide) (by decide) (by decide) (by decide) (pc' := 4) rfl ?_
  rintro _ h11 ⟨_, rfl, ⟨b11, rfl, bw11, E11, P11⟩⟩
  show Run l Z n0 "java/lang/StringUTF16" jdk_52_method_14_code 5 (some (.array .byte)) "toBytes" ({ frames := 2, cells := 1, slots := 6, locals := 24 } : Room) _ 4 #[.val (.ref a), .val (.int (0 : Int32)), .val (.int (Int32.ofNat cs.length)), .unset, .unset] [(.ref b11)] h11 1 6
  have ge_b11 : n0 ≤ b11 := Nat.le_trans Z0 bw11
  have bo_b11 : h0.size ≤ b11 := Nat.le_trans (Keep.refl h0 []).1 bw11
  have ne_a_b11 : a ≠ b11 := Nat.ne_of_lt (Nat.lt_of_lt_of_le AC.lt bw11)
  have A_a_11 := AC.ext E11
  have sz11 : n0 ≤ h11.size := Nat.le_trans Z0 E11.1
  have kp11 := Keep.ext (Keep.refl h0 []) E11
  have od11 := od0.ext E11
  refine Run.astoreN (l' := #[.val (.ref a), .val (.int (0 : Int32)), .val (.int (Int32.ofNat cs.length)), .val (.ref b11), .unset]) d27_4 rfl rfl (pc' := 5) rfl ?_
  refine Run.iconst (0 : Int32) d27_5 (by decide) (pc' := 6) rfl ?_
  refine Run.istore (l' := #[.val (.ref a), .val (.int (0 : Int32)), .val (.int (Int32.ofNat cs.length)), .val (.ref b11), .val (.int (0 : Int32))]) d27_6 rfl (pc' := 8) rfl ?_
  have loop : ∀ (t i : Nat) (hh : Heap), t + i = cs.length → n0 ≤ hh.size → Keep h0 hh [] → Old Z n0 hh → Ary Z hh a .char (cs.map Value.int ++ us) → Ary Z hh b11 .byte (own_u16 (cs.take i) ++ List.replicate (2 * (cs.length - i)) (.int (0 : Int32))) → Run l Z n0 "java/lang/StringUTF16" jdk_52_method_14_code 5 (some (.array .byte)) "toBytes" ({ frames := 2, cells := 1, slots := 6, locals := 24 } : Room) (Val fun w h' => ∃ b, w = .ref b ∧ h0.size ≤ b ∧ Ext h0 h' ∧ Ary Z h' b .byte (own_u16 cs)) 8 #[.val (.ref a), .val (.int (Int32.ofNat i)), .val (.int (Int32.ofNat cs.length)), .val (.ref b11), .val (.int (Int32.ofNat i))] [] hh 1 6 := by
    intro t
    induction t with
    | zero =>
      intro i hh hti szh kph odh ACh ABh
      obtain rfl : i = cs.length := by omega
      refine Run.iload d27_8 rfl (pc' := 10) rfl ?_
      refine Run.iloadN d27_10 rfl (pc' := 11) rfl ?_
      refine Run.icmp_ge d27_11 (by decide) (pc' := 32) (by decide) (pa := 14) rfl (fun hc11 => ?_) (fun hc11 => ?_)
      · -- pc 11 taken: ¬ (Int32.ofNat cs.length) < (Int32.ofNat cs.length)
        refine Run.aloadN d27_32 rfl rfl (pc' := 33) rfl ?_
        exact Run.areturn d27_33 (ty := (.array .byte)) rfl rfl rfl (by decide) (by decide) ⟨_, rfl, b11, rfl, bo_b11, Keep.toExt kph, (by simpa using ABh)⟩
      · -- pc 11 not taken: (Int32.ofNat cs.length) < (Int32.ofNat cs.length)
        exact absurd ((own_lt (by omega) (by omega)).mp hc11) (by omega)
    | succ t ih =>
      intro i hh hti szh kph odh ACh ABh
      have hil : i < cs.length := by omega
      refine Run.iload d27_8 rfl (pc' := 10) rfl ?_
      refine Run.iloadN d27_10 rfl (pc' := 11) rfl ?_
      refine Run.icmp_ge d27_11 (by decide) (pc' := 32) (by decide) (pa := 14) rfl (fun hc11 => ?_) (fun hc11 => ?_)
      · -- pc 11 taken: ¬ (Int32.ofNat i) < (Int32.ofNat cs.length)
        exact absurd ((own_lt (by omega) (by omega)).mpr hil) hc11
      · -- pc 11 not taken: (Int32.ofNat i) < (Int32.ofNat cs.length)
        refine Run.aloadN d27_14 rfl rfl (pc' := 15) rfl ?_
        refine Run.iload d27_15 rfl (pc' := 17) rfl ?_
        refine Run.aloadN d27_17 rfl rfl (pc' := 18) rfl ?_
        refine Run.iloadN d27_18 rfl (pc' := 19) rfl ?_
        refine Run.caload (i := i) (v := (.int (cs.getD i 0))) d27_19 ACh (own_ofn (by omega)) (own_cg hil) (pc' := 20) rfl ?_
        refine Run.callS (k' := 1) (n' := 6) (as := [(.ref b11), (.int (Int32.ofNat i)), (.int (cs.getD i 0))]) (rest := []) (con_puc l Z a0 hw n0 hh szh b11 i (cs.getD i 0) (own_u16 (cs.take i) ++ List.replicate (2 * (cs.length - i)) (.int (0 : Int32))) odh SD SH8 SL8 ABh ge_b11 (by rw [List.length_append, own_u16_len, List.length_take, List.length_replicate]; omega) (by omega)) d27_20 (hw _ (List.mem_of_getElem? (i := 125) rfl)) (hw _ (List.mem_of_getElem? (i := 126) rfl)) (hw _ (List.mem_of_getElem? (i := 38) rfl)) (hw _ (List.mem_of_getElem? (i := 127) rfl)) (by decide) pd___BII_V rfl rfl rfl (by decide) (by show (0 : Nat) + (3 + 11) + 0 ≤ _; decide) (by decide) (by decide) (by decide) (by decide) (pc' := 23) rfl ?_
        rintro _ h12 ⟨rfl, ⟨K12, P12⟩⟩
        show Run l Z n0 "java/lang/StringUTF16" jdk_52_method_14_code 5 (some (.array .byte)) "toBytes" ({ frames := 2, cells := 1, slots := 6, locals := 24 } : Room) _ 23 #[.val (.ref a), .val (.int (Int32.ofNat i)), .val (.int (Int32.ofNat cs.length)), .val (.ref b11), .val (.int (Int32.ofNat i))] [] h12 1 6
        have A_a_12 := ACh.keep K12 (ninS ne_a_b11 nin0)
        have sz12 : n0 ≤ h12.size := Nat.le_trans szh K12.1
        have kp12 := Keep.trans kph K12 (allS (Or.inr bo_b11) all0)
        have od12 := odh.keep K12 (allS ge_b11 all0)
        refine Run.iinc (1 : Int32) #[.val (.ref a), .val (.int ((Int32.ofNat i) + (1 : Int32))), .val (.int (Int32.ofNat cs.length)), .val (.ref b11), .val (.int (Int32.ofNat i))] d27_23 (by decide) rfl rfl (pc' := 26) rfl ?_
        refine Run.iinc (1 : Int32) #[.val (.ref a), .val (.int ((Int32.ofNat i) + (1 : Int32))), .val (.int (Int32.ofNat cs.length)), .val (.ref b11), .val (.int ((Int32.ofNat i) + (1 : Int32)))] d27_26 (by decide) rfl rfl (pc' := 29) rfl ?_
        refine Run.goto d27_29 (by decide) (pc' := 8) (by decide) ?_
        simp only [own_inc]
        exact ih (i + 1) h12 (by omega) sz12 kp12 od12 A_a_12 (by rw [← own_u16_set hil]; exact P12)
  exact loop cs.length 0 h11 (by omega) sz11 kp11 od11 A_a_11 (by simpa [own_u16] using P11)
theorem own_ofne {a b : Nat} (h : ¬ Int32.ofNat a = Int32.ofNat b) : ¬ a = b := fun e => h (by rw [e])
theorem own_ofeq {cs : List Int32} {B : Nat} (h : Int32.ofNat (own_pfx cs) = Int32.ofNat cs.length) (hn : cs.length ≤ B) (hB : B < 2 ^ 30 := by decide) : own_pfx cs = cs.length := by
  have h1 := own_pfx_le cs; have h2 := own_ofn (i := own_pfx cs) (by omega); have h3 := own_ofn (i := cs.length) (by omega)
  rw [h] at h2; omega
theorem d7_0 : decode jdk_52_method_16_code 0 = .ok (.iload_n 2, 1) := by decide +kernel
theorem d7_1 : decode jdk_52_method_16_code 1 = .ok (.newarray .byte, 2) := by decide +kernel
theorem d7_3 : decode jdk_52_method_16_code 3 = .ok (.astore_n 3, 1) := by decide +kernel
theorem d7_4 : decode jdk_52_method_16_code 4 = .ok (.aload_n 0, 1) := by decide +kernel
theorem d7_5 : decode jdk_52_method_16_code 5 = .ok (.iload_n 1, 1) := by decide +kernel
theorem d7_6 : decode jdk_52_method_16_code 6 = .ok (.aload_n 3, 1) := by decide +kernel
theorem d7_7 : decode jdk_52_method_16_code 7 = .ok (.iconst 0, 1) := by decide +kernel
theorem d7_8 : decode jdk_52_method_16_code 8 = .ok (.iload_n 2, 1) := by decide +kernel
theorem d7_9 : decode jdk_52_method_16_code 9 = .ok (.invokestatic 115, 3) := by decide +kernel
theorem d7_12 : decode jdk_52_method_16_code 12 = .ok (.istore 4, 2) := by decide +kernel
theorem d7_14 : decode jdk_52_method_16_code 14 = .ok (.iload 4, 2) := by decide +kernel
theorem d7_16 : decode jdk_52_method_16_code 16 = .ok (.iload_n 2, 1) := by decide +kernel
theorem d7_17 : decode jdk_52_method_16_code 17 = .ok (.if_icmp .eq 40, 3) := by decide +kernel
theorem d7_20 : decode jdk_52_method_16_code 20 = .ok (.aload_n 0, 1) := by decide +kernel
theorem d7_21 : decode jdk_52_method_16_code 21 = .ok (.iload_n 1, 1) := by decide +kernel
theorem d7_22 : decode jdk_52_method_16_code 22 = .ok (.iload_n 2, 1) := by decide +kernel
theorem d7_23 : decode jdk_52_method_16_code 23 = .ok (.invokestatic 119, 3) := by decide +kernel
theorem d7_26 : decode jdk_52_method_16_code 26 = .ok (.astore 5, 2) := by decide +kernel
theorem d7_28 : decode jdk_52_method_16_code 28 = .ok (.aload 5, 2) := by decide +kernel
theorem d7_30 : decode jdk_52_method_16_code 30 = .ok (.iload 4, 2) := by decide +kernel
theorem d7_32 : decode jdk_52_method_16_code 32 = .ok (.invokestatic 71, 3) := by decide +kernel
theorem d7_35 : decode jdk_52_method_16_code 35 = .ok (.sipush 255, 3) := by decide +kernel
theorem d7_38 : decode jdk_52_method_16_code 38 = .ok (.if_icmp .gt 16, 3) := by decide +kernel
theorem d7_54 : decode jdk_52_method_16_code 54 = .ok (.aload 5, 2) := by decide +kernel
theorem d7_56 : decode jdk_52_method_16_code 56 = .ok (.areturn, 1) := by decide +kernel
theorem d7_57 : decode jdk_52_method_16_code 57 = .ok (.aload_n 3, 1) := by decide +kernel
theorem d7_58 : decode jdk_52_method_16_code 58 = .ok (.areturn, 1) := by decide +kernel
theorem pn_7 : plainFor (⟨"java/lang/StringUTF16", "compress", "([CII)[B"⟩ : MethodName) = true := plainFor_of_name (by first | (simp [plainName, overriddenIn]; done) | decide +kernel)
theorem pd___BI_C : parseMethodDescriptor "([BI)C" = some ⟨[(.array .byte), .int], some .char⟩ := by decide +kernel
theorem pd___CII__B : parseMethodDescriptor "([CII)[B" = some ⟨[(.array .char), .int, .int], some (.array .byte)⟩ := by decide +kernel
theorem pd___CI_BII_I : parseMethodDescriptor "([CI[BII)I" = some ⟨[(.array .char), .int, (.array .byte), .int, .int], some .int⟩ := by decide +kernel
theorem ef_con_cmp3 (m : MethodId) (a : Addr) (cs : List Int32) (us : List Value)  : entryFrame m #[(.ref a), (.int (0 : Int32)), (.int (Int32.ofNat cs.length))] 6 = mkF m 0 #[.val (.ref a), .val (.int (0 : Int32)), .val (.int (Int32.ofNat cs.length)), .unset, .unset, .unset] [] := by first | (simp [entryFrame, mkF, argsToLocals, Value.category]; done) | rfl
set_option maxRecDepth 65536 in
set_option maxHeartbeats 40000000 in
theorem con_cmp3 (l : Launch) (Z : State) (a0 : Array Value) (hw : ∀ d ∈ tables_1, d.before a0 Z = true) (n0 : Nat) (h0 : Heap) (Z0 : n0 ≤ h0.size) (a : Addr) (cs : List Int32) (us : List Value) (od0 : Old Z n0 h0) (SD : Sta Z Z.heap "java/lang/StringUTF16" "$assertionsDisabled" "Z" (.int (1 : Int32))) (SH8 : Sta Z Z.heap "java/lang/StringUTF16" "HI_BYTE_SHIFT" "I" (.int (0 : Int32))) (SL8 : Sta Z Z.heap "java/lang/StringUTF16" "LO_BYTE_SHIFT" "I" (.int (8 : Int32))) (AC : Ary Z h0 a .char (cs.map Value.int ++ us)) (hn : cs.length ≤ 3) (hch : own_chr cs) :
    Con l Z n0 (⟨"java/lang/StringUTF16", "compress", "([CII)[B"⟩ : MethodName) jdk_52_method_16_code 6 (some (.array .byte)) ({ frames := 3, cells := 2, slots := 9, locals := 40 } : Room) #[(.ref a), (.int (0 : Int32)), (.int (Int32.ofNat cs.length))] h0 (Val fun w h' => ∃ b, w = .ref b ∧ h0.size ≤ b ∧ Ext h0 h' ∧ Ary Z h' b .byte (own_enc cs)) := by
  refine Con.of_run pn_7 (fun m => ef_con_cmp3 m a cs us ) ?_
  refine Run.iloadN d7_0 rfl (pc' := 1) rfl ?_
  refine Run.newP (ty := .byte) (m := cs.length) (cap := 3) (dv := (.int (0 : Int32))) (k' := 1) (n' := 3) d7_1 rfl (hw _ (List.mem_of_getElem? (i := 19) rfl)) (own_nge (by omega)) (clamp_of rfl (by omega)) hn rfl (by decide) (by decide) (by decide) (by decide) (by decide) (pc' := 3) rfl ?_
  intro h11 b11 g11 E11 A11
  have ge_b11 : n0 ≤ b11 := by rw [g11]; exact Z0
  have bo_b11 : h0.size ≤ b11 := by rw [g11]; exact (Keep.refl h0 []).1
  have ne_a_b11 : a ≠ b11 := by rw [g11]; exact Nat.ne_of_lt AC.lt
  have A_a_11 := AC.ext E11
  have sz11 : n0 ≤ h11.size := Nat.le_trans Z0 E11.1
  have kp11 := Keep.ext (Keep.refl h0 []) E11
  have od11 := od0.ext E11
  refine Run.astoreN (l' := #[.val (.ref a), .val (.int (0 : Int32)), .val (.int (Int32.ofNat cs.length)), .val (.ref b11), .unset, .unset]) d7_3 rfl rfl (pc' := 4) rfl ?_
  refine Run.aloadN d7_4 rfl rfl (pc' := 5) rfl ?_
  refine Run.iloadN d7_5 rfl (pc' := 6) rfl ?_
  refine Run.aloadN d7_6 rfl rfl (pc' := 7) rfl ?_
  refine Run.iconst (0 : Int32) d7_7 (by decide) (pc' := 8) rfl ?_
  refine Run.iloadN d7_8 rfl (pc' := 9) rfl ?_
  refine Run.callS (k' := 1) (n' := 3) (as := [(.ref a), (.int (0 : Int32)), (.ref b11), (.int (0 : Int32)), (.int (Int32.ofNat cs.length))]) (rest := []) (con_cmp5 l Z a0 hw n0 h11 sz11 a b11 cs us A_a_11 A11 ne_a_b11 ge_b11 (by omega)) d7_9 (hw _ (List.mem_of_getElem? (i := 40) rfl)) (hw _ (List.mem_of_getElem? (i := 41) rfl)) (hw _ (List.mem_of_getElem? (i := 38) rfl)) (hw _ (List.mem_of_getElem? (i := 42) rfl)) (by decide) pd___CI_BII_I rfl rfl rfl (by decide) (by show (0 : Nat) + (7 + 11) + 0 ≤ _; decide) (by decide) (by decide) (by decide) (by decide) (pc' := 12) rfl ?_
  rintro _ h12 ⟨_, rfl, ⟨rfl, K12, P12⟩⟩
  show Run l Z n0 "java/lang/StringUTF16" jdk_52_method_16_code 6 (some (.array .byte)) "compress" ({ frames := 3, cells := 2, slots := 9, locals := 40 } : Room) _ 12 #[.val (.ref a), .val (.int (0 : Int32)), .val (.int (Int32.ofNat cs.length)), .val (.ref b11), .unset, .unset] [(.int (Int32.ofNat (own_pfx cs)))] h12 1 3
  have A_a_12 := A_a_11.keep K12 (ninS ne_a_b11 nin0)
  have sz12 : n0 ≤ h12.size := Nat.le_trans sz11 K12.1
  have kp12 := Keep.trans kp11 K12 (allS (Or.inr bo_b11) all0)
  have od12 := od11.keep K12 (allS ge_b11 all0)
  refine Run.istore (l' := #[.val (.ref a), .val (.int (0 : Int32)), .val (.int (Int32.ofNat cs.length)), .val (.ref b11), .val (.int (Int32.ofNat (own_pfx cs))), .unset]) d7_12 rfl (pc' := 14) rfl ?_
  refine Run.iload d7_14 rfl (pc' := 16) rfl ?_
  refine Run.iloadN d7_16 rfl (pc' := 17) rfl ?_
  refine Run.icmp_eq d7_17 (by decide) (pc' := 57) (by decide) (pa := 20) rfl (fun hc17 => ?_) (fun hc17 => ?_)
  · -- pc 17 taken: (Int32.ofNat (own_pfx cs)) = (Int32.ofNat cs.length)
    refine Run.aloadN d7_57 rfl rfl (pc' := 58) rfl ?_
    exact Run.areturn d7_58 (ty := (.array .byte)) rfl rfl rfl (by decide) (by decide) ⟨_, rfl, b11, rfl, bo_b11, Keep.toExt kp12, (by unfold own_enc; rw [if_pos (own_ofeq hc17 hn)]; have z := P12; rw [own_ofeq hc17 hn] at z; simpa using z)⟩
  · -- pc 17 not taken: ¬ (Int32.ofNat (own_pfx cs)) = (Int32.ofNat cs.length)
    have hst := own_pfx_stop (own_ofne hc17)
    have hgu := own_u16_get hst.1
    refine Run.aloadN d7_20 rfl rfl (pc' := 21) rfl ?_
    refine Run.iloadN d7_21 rfl (pc' := 22) rfl ?_
    refine Run.iloadN d7_22 rfl (pc' := 23) rfl ?_
    refine Run.callS (k' := 2) (n' := 9) (as := [(.ref a), (.int (0 : Int32)), (.int (Int32.ofNat cs.length))]) (rest := []) (con_tby l Z a0 hw n0 h12 sz12 a cs us od12 SD SH8 SL8 A_a_12 hn) d7_23 (hw _ (List.mem_of_getElem? (i := 115) rfl)) (hw _ (List.mem_of_getElem? (i := 116) rfl)) (hw _ (List.mem_of_getElem? (i := 38) rfl)) (hw _ (List.mem_of_getElem? (i := 117) rfl)) (by decide) pd___CII__B rfl rfl rfl (by decide) (by show (0 : Nat) + (5 + 11) + 24 ≤ _; decide) (by decide) (by decide) (by decide) (by decide) (pc' := 26) rfl ?_
    rintro _ h13 ⟨_, rfl, ⟨b13, rfl, bw13, E13, P13⟩⟩
    show Run l Z n0 "java/lang/StringUTF16" jdk_52_method_16_code 6 (some (.array .byte)) "compress" ({ frames := 3, cells := 2, slots := 9, locals := 40 } : Room) _ 26 #[.val (.ref a), .val (.int (0 : Int32)), .val (.int (Int32.ofNat cs.length)), .val (.ref b11), .val (.int (Int32.ofNat (own_pfx cs))), .unset] [(.ref b13)] h13 2 9
    have ge_b13 : n0 ≤ b13 := Nat.le_trans sz12 bw13
    have bo_b13 : h0.size ≤ b13 := Nat.le_trans kp12.1 bw13
    have ne_a_b13 : a ≠ b13 := Nat.ne_of_lt (Nat.lt_of_lt_of_le A_a_12.lt bw13)
    have ne_b11_b13 : b11 ≠ b13 := Nat.ne_of_lt (Nat.lt_of_lt_of_le P12.lt bw13)
    have A_a_13 := A_a_12.ext E13
    have A_b11_13 := P12.ext E13
    have sz13 : n0 ≤ h13.size := Nat.le_trans sz12 E13.1
    have kp13 := Keep.ext kp12 E13
    have od13 := od12.ext E13
    refine Run.astore (l' := #[.val (.ref a), .val (.int (0 : Int32)), .val (.int (Int32.ofNat cs.length)), .val (.ref b11), .val (.int (Int32.ofNat (own_pfx cs))), .val (.ref b13)]) d7_26 rfl rfl (pc' := 28) rfl ?_
    refine Run.aload d7_28 rfl rfl (pc' := 30) rfl ?_
    refine Run.iload d7_30 rfl (pc' := 32) rfl ?_
    refine Run.callS (k' := 2) (n' := 9) (as := [(.ref b13), (.int (Int32.ofNat (own_pfx cs)))]) (rest := []) (con_gec l Z a0 hw n0 h13 sz13  b13 (own_pfx cs) (own_b0 (cs.getD (own_pfx cs) 0)) (own_b1 (cs.getD (own_pfx cs) 0)) (own_u16 cs) od13 SD SH8 SL8 P13 hgu.1 hgu.2 (by omega)) d7_32 (hw _ (List.mem_of_getElem? (i := 131) rfl)) (hw _ (List.mem_of_getElem? (i := 132) rfl)) (hw _ (List.mem_of_getElem? (i := 38) rfl)) (hw _ (List.mem_of_getElem? (i := 133) rfl)) (by decide) pd___BI_C rfl rfl rfl (by decide) (by show (0 : Nat) + (2 + 11) + 0 ≤ _; decide) (by decide) (by decide) (by decide) (by decide) (pc' := 35) rfl ?_
    rintro _ _ ⟨_, rfl, rfl, rfl⟩
    show Run l Z n0 "java/lang/StringUTF16" jdk_52_method_16_code 6 (some (.array .byte)) "compress" ({ frames := 3, cells := 2, slots := 9, locals := 40 } : Room) _ 35 #[.val (.ref a), .val (.int (0 : Int32)), .val (.int (Int32.ofNat cs.length)), .val (.ref b11), .val (.int (Int32.ofNat (own_pfx cs))), .val (.ref b13)] [(.int (own_gc (own_b0 (cs.getD (own_pfx cs) 0)) (own_b1 (cs.getD (own_pfx cs) 0))))] h13 2 9
    rw [own_gcb (own_chrD hch hst.1)]
    refine Run.sipush (255 : Int32) d7_35 (by decide) (pc' := 38) rfl ?_
    refine Run.icmp_gt d7_38 (by decide) (pc' := 54) (by decide) (pa := 41) rfl (fun hc38 => ?_) (fun hc38 => ?_)
    · -- pc 38 taken: (255 : Int32) < (cs.getD (own_pfx cs) 0)
      refine Run.aload d7_54 rfl rfl (pc' := 56) rfl ?_
      exact Run.areturn d7_56 (ty := (.array .byte)) rfl rfl rfl (by decide) (by decide) ⟨_, rfl, b13, rfl, bo_b13, Keep.toExt kp13, (by unfold own_enc; rw [if_neg (own_ofne hc17)]; exact P13)⟩
    · -- pc 38 not taken: ¬ (255 : Int32) < (cs.getD (own_pfx cs) 0)
      exact absurd hst.2 hc38
theorem d9_0 : decode jdk_52_method_15_code 0 = .ok (.iload_n 1, 1) := by decide +kernel
theorem d9_1 : decode jdk_52_method_15_code 1 = .ok (.aload_n 0, 1) := by decide +kernel
theorem d9_2 : decode jdk_52_method_15_code 2 = .ok (.arraylength, 1) := by decide +kernel
theorem d9_3 : decode jdk_52_method_15_code 3 = .ok (.isub, 1) := by decide +kernel
theorem d9_4 : decode jdk_52_method_15_code 4 = .ok (.bipush 31, 2) := by decide +kernel
theorem d9_6 : decode jdk_52_method_15_code 6 = .ok (.iushr, 1) := by decide +kernel
theorem d9_7 : decode jdk_52_method_15_code 7 = .ok (.i2b, 1) := by decide +kernel
theorem d9_8 : decode jdk_52_method_15_code 8 = .ok (.ireturn, 1) := by decide +kernel
theorem pn_9 : plainFor (⟨"java/lang/StringUTF16", "coderFromArrayLen", "([BI)B"⟩ : MethodName) = true := plainFor_of_name (by first | (simp [plainName, overriddenIn]; done) | decide +kernel)
theorem ef_con_cfal (m : MethodId) (a : Addr) (cs : List Int32)  : entryFrame m #[(.ref a), (.int (Int32.ofNat cs.length))] 2 = mkF m 0 #[.val (.ref a), .val (.int (Int32.ofNat cs.length))] [] := by first | (simp [entryFrame, mkF, argsToLocals, Value.category]; done) | rfl
set_option maxRecDepth 65536 in
set_option maxHeartbeats 40000000 in
theorem con_cfal (l : Launch) (Z : State) (a0 : Array Value) (hw : ∀ d ∈ tables_1, d.before a0 Z = true) (n0 : Nat) (h0 : Heap) (Z0 : n0 ≤ h0.size) (a : Addr) (cs : List Int32) (AB : Ary Z h0 a .byte (own_enc cs)) (hne : cs ≠ []) (hn : cs.length ≤ 3) :
    Con l Z n0 (⟨"java/lang/StringUTF16", "coderFromArrayLen", "([BI)B"⟩ : MethodName) jdk_52_method_15_code 2 (some .byte) ({ frames := 0, cells := 0, slots := 0, locals := 0 } : Room) #[(.ref a), (.int (Int32.ofNat cs.length))] h0 (Val (PV (.int (own_coder cs)) h0)) := by
  refine Con.of_run pn_9 (fun m => ef_con_cfal m a cs ) ?_
  refine Run.iloadN d9_0 rfl (pc' := 1) rfl ?_
  refine Run.aloadN d9_1 rfl rfl (pc' := 2) rfl ?_
  refine Run.alen (z := (Int32.ofNat (own_enc cs).length)) d9_2 AB rfl (pc' := 3) rfl ?_
  refine Run.isub d9_3 (pc' := 4) rfl ?_
  refine Run.bipush (31 : Int32) d9_4 (by decide) (pc' := 6) rfl ?_
  refine Run.iushr d9_6 (pc' := 7) rfl ?_
  refine Run.i2b d9_7 (pc' := 8) rfl ?_
  exact Run.nreturn d9_8 (ty := .byte) rfl (by simp) (by decide) (by decide) ⟨_, rfl, congrArg Value.int (own_cfl hne (by omega)).symm, rfl⟩
theorem own_pos {cs : List Int32} (h : cs ≠ []) (h2 : cs.length < 2 ^ 31) : ¬ Int32.ofNat cs.length = (0 : Int32) := fun e => by
  have h1 := own_ofn h2; rw [e, own_z] at h1; have := List.length_pos_iff.mpr h; omega
theorem own_codn (cs : List Int32) : narrow .byte (.int (own_coder cs)) = .int (own_coder cs) ∧ fits .byte (.int (own_coder cs)) = true := by unfold own_coder; split <;> decide
theorem d3_0 : decode jdk_42_method_149_code 0 = .ok (.aload_n 0, 1) := by decide +kernel
theorem d3_1 : decode jdk_42_method_149_code 1 = .ok (.invokespecial 1, 3) := by decide +kernel
theorem d3_4 : decode jdk_42_method_149_code 4 = .ok (.iload_n 3, 1) := by decide +kernel
theorem d3_5 : decode jdk_42_method_149_code 5 = .ok (.ifCond .ne 22, 3) := by decide +kernel
theorem d3_8 : decode jdk_42_method_149_code 8 = .ok (.aload_n 0, 1) := by decide +kernel
theorem d3_9 : decode jdk_42_method_149_code 9 = .ok (.ldc 7, 2) := by decide +kernel
theorem d3_11 : decode jdk_42_method_149_code 11 = .ok (.getfield 9, 3) := by decide +kernel
theorem d3_14 : decode jdk_42_method_149_code 14 = .ok (.putfield 9, 3) := by decide +kernel
theorem d3_17 : decode jdk_42_method_149_code 17 = .ok (.aload_n 0, 1) := by decide +kernel
theorem d3_18 : decode jdk_42_method_149_code 18 = .ok (.ldc 7, 2) := by decide +kernel
theorem d3_20 : decode jdk_42_method_149_code 20 = .ok (.getfield 15, 3) := by decide +kernel
theorem d3_23 : decode jdk_42_method_149_code 23 = .ok (.putfield 15, 3) := by decide +kernel
theorem d3_26 : decode jdk_42_method_149_code 26 = .ok (.return_, 1) := by decide +kernel
theorem d3_27 : decode jdk_42_method_149_code 27 = .ok (.getstatic 38, 3) := by decide +kernel
theorem d3_30 : decode jdk_42_method_149_code 30 = .ok (.ifCond .eq 28, 3) := by decide +kernel
theorem d3_33 : decode jdk_42_method_149_code 33 = .ok (.aload_n 1, 1) := by decide +kernel
theorem d3_34 : decode jdk_42_method_149_code 34 = .ok (.iload_n 2, 1) := by decide +kernel
theorem d3_35 : decode jdk_42_method_149_code 35 = .ok (.iload_n 3, 1) := by decide +kernel
theorem d3_36 : decode jdk_42_method_149_code 36 = .ok (.invokestatic 177, 3) := by decide +kernel
theorem d3_39 : decode jdk_42_method_149_code 39 = .ok (.astore 5, 2) := by decide +kernel
theorem d3_41 : decode jdk_42_method_149_code 41 = .ok (.aload_n 0, 1) := by decide +kernel
theorem d3_42 : decode jdk_42_method_149_code 42 = .ok (.aload 5, 2) := by decide +kernel
theorem d3_44 : decode jdk_42_method_149_code 44 = .ok (.iload_n 3, 1) := by decide +kernel
theorem d3_45 : decode jdk_42_method_149_code 45 = .ok (.invokestatic 47, 3) := by decide +kernel
theorem d3_48 : decode jdk_42_method_149_code 48 = .ok (.putfield 15, 3) := by decide +kernel
theorem d3_51 : decode jdk_42_method_149_code 51 = .ok (.aload_n 0, 1) := by decide +kernel
theorem d3_52 : decode jdk_42_method_149_code 52 = .ok (.aload 5, 2) := by decide +kernel
theorem d3_54 : decode jdk_42_method_149_code 54 = .ok (.putfield 9, 3) := by decide +kernel
theorem d3_57 : decode jdk_42_method_149_code 57 = .ok (.return_, 1) := by decide +kernel
theorem pn_3 : plainFor (⟨"java/lang/String", "<init>", "([CIILjava/lang/Void;)V"⟩ : MethodName) = true := plainFor_of_name (by first | (simp [plainName, overriddenIn]; done) | decide +kernel)
theorem pd___BI_B : parseMethodDescriptor "([BI)B" = some ⟨[(.array .byte), .int], some .byte⟩ := by decide +kernel
theorem ef_con_si4 (m : MethodId) (t a : Addr) (cs : List Int32) (us : List Value) (cz : Int32) (uv uc : Value)  : entryFrame m #[(.ref t), (.ref a), (.int (0 : Int32)), (.int (Int32.ofNat cs.length)), .null] 6 = mkF m 0 #[.val (.ref t), .val (.ref a), .val (.int (0 : Int32)), .val (.int (Int32.ofNat cs.length)), .val .null, .unset] [] := by first | (simp [entryFrame, mkF, argsToLocals, Value.category]; done) | rfl
set_option maxRecDepth 65536 in
set_option maxHeartbeats 40000000 in
theorem con_si4 (l : Launch) (Z : State) (a0 : Array Value) (hw : ∀ d ∈ tables_1, d.before a0 Z = true) (n0 : Nat) (h0 : Heap) (Z0 : n0 ≤ h0.size) (t a : Addr) (cs : List Int32) (us : List Value) (cz : Int32) (uv uc : Value) (od0 : Old Z n0 h0) (SD : Sta Z Z.heap "java/lang/StringUTF16" "$assertionsDisabled" "Z" (.int (1 : Int32))) (SH8 : Sta Z Z.heap "java/lang/StringUTF16" "HI_BYTE_SHIFT" "I" (.int (0 : Int32))) (SL8 : Sta Z Z.heap "java/lang/StringUTF16" "LO_BYTE_SHIFT" "I" (.int (8 : Int32))) (SZ : Sta Z Z.heap "java/lang/String" "COMPACT_STRINGS" "Z" (.int cz)) (hcz : ¬ cz = 0) (E1 : Exa Z h0 t "java/lang/String") (FV : Fld Z h0 t "java/lang/String" "value" "[B" uv) (FC : Fld Z h0 t "java/lang/String" "coder" "B" uc) (gt : n0 ≤ t) (AC : Ary Z h0 a .char (cs.map Value.int ++ us)) (hne : cs ≠ []) (hn : cs.length ≤ 3) (hch : own_chr cs) (hta : t ≠ a) :
    Con l Z n0 (⟨"java/lang/String", "<init>", "([CIILjava/lang/Void;)V"⟩ : MethodName) jdk_42_method_149_code 6 none ({ frames := 4, cells := 2, slots := 9, locals := 57 } : Room) #[(.ref t), (.ref a), (.int (0 : Int32)), (.int (Int32.ofNat cs.length)), .null] h0 (Vd fun h' => ∃ b, h0.size ≤ b ∧ Keep h0 h' [t] ∧ Exa Z h' t "java/lang/String" ∧ Fld Z h' t "java/lang/String" "value" "[B" (.ref b) ∧ Fld Z h' t "java/lang/String" "coder" "B" (.int (own_coder cs)) ∧ Ary Z h' b .byte (own_enc cs)) := by
  refine Con.of_run pn_3 (fun m => ef_con_si4 m t a cs us cz uv uc ) ?_
  refine Run.aloadN d3_0 rfl rfl (pc' := 1) rfl ?_
  refine Run.initO d3_1 (hw _ (List.mem_of_getElem? (i := 15) rfl)) (hw _ (List.mem_of_getElem? (i := 16) rfl)) (hw _ (List.mem_of_getElem? (i := 17) rfl)) rfl (by decide) (by show (0 : Nat) + 12 ≤ _; decide) (pc' := 4) rfl ?_
  refine Run.iloadN d3_4 rfl (pc' := 5) rfl ?_
  refine Run.if_ne d3_5 (by decide) (pc' := 27) (by decide) (pa := 8) rfl (fun hc5 => ?_) (fun hc5 => ?_)
  · -- pc 5 taken: ¬ (Int32.ofNat cs.length) = (0 : Int32)
    refine Run.getS d3_27 (host := "") (Or.inl (hw _ (List.mem_of_getElem? (i := 35) rfl))) Via.refl (SZ.ext od0.2) (pc' := 30) rfl ?_
    refine Run.if_eq d3_30 (by decide) (pc' := 58) (by decide) (pa := 33) rfl (fun hc30 => ?_) (fun hc30 => ?_)
    · -- pc 30 taken: cz = (0 : Int32)
      exact absurd hc30 hcz
    · -- pc 30 not taken: ¬ cz = (0 : Int32)
      refine Run.aloadN d3_33 rfl rfl (pc' := 34) rfl ?_
      refine Run.iloadN d3_34 rfl (pc' := 35) rfl ?_
      refine Run.iloadN d3_35 rfl (pc' := 36) rfl ?_
      refine Run.callS (k' := 2) (n' := 9) (as := [(.ref a), (.int (0 : Int32)), (.int (Int32.ofNat cs.length))]) (rest := []) (con_cmp3 l Z a0 hw n0 h0 Z0 a cs us od0 SD SH8 SL8 AC hn hch) d3_36 (hw _ (List.mem_of_getElem? (i := 36) rfl)) (hw _ (List.mem_of_getElem? (i := 37) rfl)) (hw _ (List.mem_of_getElem? (i := 38) rfl)) (hw _ (List.mem_of_getElem? (i := 39) rfl)) (by decide) pd___CII__B rfl rfl rfl (by decide) (by show (0 : Nat) + (6 + 11) + 40 ≤ _; decide) (by decide) (by decide) (by decide) (by decide) (pc' := 39) rfl ?_
      rintro _ h11 ⟨_, rfl, ⟨b11, rfl, bw11, E11, P11⟩⟩
      show Run l Z n0 "java/lang/String" jdk_42_method_149_code 6 none "<init>" ({ frames := 4, cells := 2, slots := 9, locals := 57 } : Room) _ 39 #[.val (.ref t), .val (.ref a), .val (.int (0 : Int32)), .val (.int (Int32.ofNat cs.length)), .val .null, .unset] [(.ref b11)] h11 2 9
      have ge_b11 : n0 ≤ b11 := Nat.le_trans Z0 bw11
      have bo_b11 : h0.size ≤ b11 := Nat.le_trans (Keep.refl h0 [t]).1 bw11
      have ne_t_b11 : t ≠ b11 := Nat.ne_of_lt (Nat.lt_of_lt_of_le E1.lt bw11)
      have ne_a_b11 : a ≠ b11 := Nat.ne_of_lt (Nat.lt_of_lt_of_le AC.lt bw11)
      have E_t_11 := E1.ext E11
      have F_t_value_11 := FV.ext E11
      have F_t_coder_11 := FC.ext E11
      have A_a_11 := AC.ext E11
      have sz11 : n0 ≤ h11.size := Nat.le_trans Z0 E11.1
      have kp11 := Keep.ext (Keep.refl h0 [t]) E11
      have od11 := od0.ext E11
      refine Run.astore (l' := #[.val (.ref t), .val (.ref a), .val (.int (0 : Int32)), .val (.int (Int32.ofNat cs.length)), .val .null, .val (.ref b11)]) d3_39 rfl rfl (pc' := 41) rfl ?_
      refine Run.aloadN d3_41 rfl rfl (pc' := 42) rfl ?_
      refine Run.aload d3_42 rfl rfl (pc' := 44) rfl ?_
      refine Run.iloadN d3_44 rfl (pc' := 45) rfl ?_
      refine Run.callS (k' := 2) (n' := 9) (as := [(.ref b11), (.int (Int32.ofNat cs.length))]) (rest := [(.ref t)]) (con_cfal l Z a0 hw n0 h11 sz11  b11 cs P11 hne hn) d3_45 (hw _ (List.mem_of_getElem? (i := 43) rfl)) (hw _ (List.mem_of_getElem? (i := 44) rfl)) (hw _ (List.mem_of_getElem? (i := 38) rfl)) (hw _ (List.mem_of_getElem? (i := 45) rfl)) (by decide) pd___BI_B rfl rfl rfl (by decide) (by show (1 : Nat) + (2 + 11) + 0 ≤ _; decide) (by decide) (by decide) (by decide) (by decide) (pc' := 48) rfl ?_
      rintro _ _ ⟨_, rfl, rfl, rfl⟩
      show Run l Z n0 "java/lang/String" jdk_42_method_149_code 6 none "<init>" ({ frames := 4, cells := 2, slots := 9, locals := 57 } : Room) _ 48 #[.val (.ref t), .val (.ref a), .val (.int (0 : Int32)), .val (.int (Int32.ofNat cs.length)), .val .null, .val (.ref b11)] [(.int (own_coder cs)), (.ref t)] h11 2 9
      refine Run.putFN d3_48 (hw _ (List.mem_of_getElem? (i := 25) rfl)) Via.refl F_t_coder_11 E_t_11 (Or.inr ⟨(hw _ (List.mem_of_getElem? (i := 21) rfl)), rfl, rfl⟩) (hw _ (List.mem_of_getElem? (i := 5) rfl)) (ty := .byte) (v' := (.int (own_coder cs))) (by decide) (own_codn cs).1 (own_codn cs).2 gt (pc' := 51) rfl ?_
      intro h12 W12
      have Fw12 := F_t_coder_11.same W12
      have E_t_12 := E_t_11.wr W12
      have F_t_value_12 := F_t_value_11.other W12 (Or.inr (slot_ne (Or.inr (hw _ (List.mem_of_getElem? (i := 20) rfl))) (Or.inr (hw _ (List.mem_of_getElem? (i := 21) rfl))) (by decide) (t := (.array .byte)) (t' := .byte) (by decide) (by decide)))
      have A_a_12 := A_a_11.other W12 hta.symm
      have A_b11_12 := P11.other W12 (Ne.symm ne_t_b11)
      have sz12 : n0 ≤ h12.size := by rw [W12.size]; exact sz11
      have kp12 := Keep.wr kp11 W12 (Or.inl (List.mem_of_getElem? (i := 0) rfl))
      have od12 := od11.wr W12 gt
      refine Run.aloadN d3_51 rfl rfl (pc' := 52) rfl ?_
      refine Run.aload d3_52 rfl rfl (pc' := 54) rfl ?_
      refine Run.putF d3_54 (host := "") (Or.inl (hw _ (List.mem_of_getElem? (i := 24) rfl))) Via.refl F_t_value_12 E_t_12 (Or.inr ⟨(hw _ (List.mem_of_getElem? (i := 20) rfl)), rfl, rfl⟩) (hw _ (List.mem_of_getElem? (i := 5) rfl)) (ty := (.array .byte)) (by decide) (go_narref rfl rfl) rfl gt (pc' := 57) rfl ?_
      intro h13 W13
      have Fw13 := F_t_value_12.same W13
      have E_t_13 := E_t_12.wr W13
      have A_a_13 := A_a_12.other W13 hta.symm
      have A_b11_13 := A_b11_12.other W13 (Ne.symm ne_t_b11)
      have F_t_coder_13 := Fw12.other W13 (Or.inr (slot_ne (Or.inr (hw _ (List.mem_of_getElem? (i := 21) rfl))) (Or.inr (hw _ (List.mem_of_getElem? (i := 20) rfl))) (by decide) (t := .byte) (t' := (.array .byte)) (by decide) (by decide)))
      have sz13 : n0 ≤ h13.size := by rw [W13.size]; exact sz12
      have kp13 := Keep.wr kp12 W13 (Or.inl (List.mem_of_getElem? (i := 0) rfl))
      have od13 := od12.wr W13 gt
      exact Run.vreturn d3_57 rfl (by decide) (by decide) ⟨rfl, b11, bo_b11, kp13, E_t_13, Fw13, F_t_coder_13, A_b11_13⟩
  · -- pc 5 not taken: (Int32.ofNat cs.length) = (0 : Int32)
    exact absurd hc5 (own_pos hne (by omega))
theorem own_codb (cs : List Int32) : nar .byte (own_coder cs) = own_coder cs := by unfold own_coder; split <;> decide
def own_isl (cs : List Int32) : Int32 := if own_coder cs = 0 then 1 else 0
theorem own_cod0 {cs : List Int32} (h : own_coder cs = 0) : own_pfx cs = cs.length := by unfold own_coder at h; split at h; assumption; exact absurd h (by decide)
theorem own_cod1 {cs : List Int32} (h : ¬ own_coder cs = 0) : ¬ own_pfx cs = cs.length := fun e => h (by unfold own_coder; rw [if_pos e])
theorem own_isl0 {cs : List Int32} (h : own_isl cs = 0) : ¬ own_pfx cs = cs.length := by unfold own_isl at h; split at h; exact absurd h (by decide); rename_i q; exact own_cod1 q
theorem own_isl1 {cs : List Int32} (h : ¬ own_isl cs = 0) : own_pfx cs = cs.length := by unfold own_isl at h; split at h; rename_i q; exact own_cod0 q; exact absurd rfl h
theorem own_lenshr {cs : List Int32} (h : cs.length < 2 ^ 29) : Int32.ofNat (own_enc cs).length >>> (own_coder cs &&& 31) = Int32.ofNat cs.length := by
  rw [own_enc_len]; unfold own_coder; split
  · exact own_shr0 _
  · exact own_shr1 (by omega)
theorem own_encP {cs : List Int32} (h : own_pfx cs = cs.length) : own_enc cs = own_by cs := by unfold own_enc; rw [if_pos h]
theorem own_encN {cs : List Int32} (h : ¬ own_pfx cs = cs.length) : own_enc cs = own_u16 cs := by unfold own_enc; rw [if_neg h]
theorem d17_0 : decode jdk_42_method_152_code 0 = .ok (.getstatic 38, 3) := by decide +kernel
theorem d17_3 : decode jdk_42_method_152_code 3 = .ok (.ifCond .eq 10, 3) := by decide +kernel
theorem d17_6 : decode jdk_42_method_152_code 6 = .ok (.aload_n 0, 1) := by decide +kernel
theorem d17_7 : decode jdk_42_method_152_code 7 = .ok (.getfield 15, 3) := by decide +kernel
theorem d17_10 : decode jdk_42_method_152_code 10 = .ok (.goto 4, 3) := by decide +kernel
theorem d17_13 : decode jdk_42_method_152_code 13 = .ok (.iconst 1, 1) := by decide +kernel
theorem d17_14 : decode jdk_42_method_152_code 14 = .ok (.ireturn, 1) := by decide +kernel
theorem pn_17 : plainFor (⟨"java/lang/String", "coder", "()B"⟩ : MethodName) = true := plainFor_of_name (by first | (simp [plainName, overriddenIn]; done) | decide +kernel)
theorem ef_con_cod (m : MethodId) (t : Addr) (cs : List Int32) (cz : Int32)  : entryFrame m #[(.ref t)] 1 = mkF m 0 #[.val (.ref t)] [] := by first | (simp [entryFrame, mkF, argsToLocals, Value.category]; done) | rfl
set_option maxRecDepth 65536 in
set_option maxHeartbeats 40000000 in
theorem con_cod (l : Launch) (Z : State) (a0 : Array Value) (hw : ∀ d ∈ tables_1, d.before a0 Z = true) (n0 : Nat) (h0 : Heap) (Z0 : n0 ≤ h0.size) (t : Addr) (cs : List Int32) (cz : Int32) (od0 : Old Z n0 h0) (SZ : Sta Z Z.heap "java/lang/String" "COMPACT_STRINGS" "Z" (.int cz)) (hcz : ¬ cz = 0) (FC : Fld Z h0 t "java/lang/String" "coder" "B" (.int (own_coder cs))) :
    Con l Z n0 (⟨"java/lang/String", "coder", "()B"⟩ : MethodName) jdk_42_method_152_code 1 (some .byte) ({ frames := 0, cells := 0, slots := 0, locals := 0 } : Room) #[(.ref t)] h0 (Val (PV (.int (own_coder cs)) h0)) := by
  refine Con.of_run pn_17 (fun m => ef_con_cod m t cs cz ) ?_
  refine Run.getS d17_0 (host := "") (Or.inl (hw _ (List.mem_of_getElem? (i := 35) rfl))) Via.refl (SZ.ext od0.2) (pc' := 3) rfl ?_
  refine Run.if_eq d17_3 (by decide) (pc' := 13) (by decide) (pa := 6) rfl (fun hc3 => ?_) (fun hc3 => ?_)
  · -- pc 3 taken: cz = (0 : Int32)
    exact absurd hc3 hcz
  · -- pc 3 not taken: ¬ cz = (0 : Int32)
    refine Run.aloadN d17_6 rfl rfl (pc' := 7) rfl ?_
    refine Run.getF d17_7 (host := "") (Or.inl (hw _ (List.mem_of_getElem? (i := 25) rfl))) Via.refl FC (pc' := 10) rfl ?_
    refine Run.goto d17_10 (by decide) (pc' := 14) (by decide) ?_
    exact Run.nreturn d17_14 (ty := .byte) rfl (by simp) (by decide) (by decide) ⟨_, rfl, congrArg Value.int (own_codb cs).symm, rfl⟩
theorem d16_0 : decode jdk_42_method_54_code 0 = .ok (.aload_n 0, 1) := by decide +kernel
theorem d16_1 : decode jdk_42_method_54_code 1 = .ok (.getfield 9, 3) := by decide +kernel
theorem d16_4 : decode jdk_42_method_54_code 4 = .ok (.arraylength, 1) := by decide +kernel
theorem d16_5 : decode jdk_42_method_54_code 5 = .ok (.aload_n 0, 1) := by decide +kernel
theorem d16_6 : decode jdk_42_method_54_code 6 = .ok (.invokevirtual 335, 3) := by decide +kernel
theorem d16_9 : decode jdk_42_method_54_code 9 = .ok (.ishr, 1) := by decide +kernel
theorem d16_10 : decode jdk_42_method_54_code 10 = .ok (.ireturn, 1) := by decide +kernel
theorem pn_16 : plainFor (⟨"java/lang/String", "length", "()I"⟩ : MethodName) = true := plainFor_of_name (by first | (simp [plainName, overriddenIn]; done) | decide +kernel)
theorem pd___B : parseMethodDescriptor "()B" = some ⟨[], some .byte⟩ := by decide +kernel
theorem ef_con_len (m : MethodId) (t b : Addr) (cs : List Int32) (cz : Int32)  : entryFrame m #[(.ref t)] 1 = mkF m 0 #[.val (.ref t)] [] := by first | (simp [entryFrame, mkF, argsToLocals, Value.category]; done) | rfl
set_option maxRecDepth 65536 in
set_option maxHeartbeats 40000000 in
theorem con_len (l : Launch) (Z : State) (a0 : Array Value) (hw : ∀ d ∈ tables_1, d.before a0 Z = true) (n0 : Nat) (h0 : Heap) (Z0 : n0 ≤ h0.size) (t b : Addr) (cs : List Int32) (cz : Int32) (od0 : Old Z n0 h0) (SZ : Sta Z Z.heap "java/lang/String" "COMPACT_STRINGS" "Z" (.int cz)) (hcz : ¬ cz = 0) (E1 : Exa Z h0 t "java/lang/String") (FV : Fld Z h0 t "java/lang/String" "value" "[B" (.ref b)) (FC : Fld Z h0 t "java/lang/String" "coder" "B" (.int (own_coder cs))) (AB : Ary Z h0 b .byte (own_enc cs)) (hn : cs.length ≤ 3) :
    Con l Z n0 (⟨"java/lang/String", "length", "()I"⟩ : MethodName) jdk_42_method_54_code 1 (some .int) ({ frames := 1, cells := 0, slots := 0, locals := 13 } : Room) #[(.ref t)] h0 (Val (PV (.int (Int32.ofNat cs.length)) h0)) := by
  refine Con.of_run pn_16 (fun m => ef_con_len m t b cs cz ) ?_
  refine Run.aloadN d16_0 rfl rfl (pc' := 1) rfl ?_
  refine Run.getF d16_1 (host := "") (Or.inl (hw _ (List.mem_of_getElem? (i := 24) rfl))) Via.refl FV (pc' := 4) rfl ?_
  refine Run.alen (z := (Int32.ofNat (own_enc cs).length)) d16_4 AB rfl (pc' := 5) rfl ?_
  refine Run.aloadN d16_5 rfl rfl (pc' := 6) rfl ?_
  refine Run.callV (k' := 0) (n' := 0) (a := t) (as := []) (rest := [(.int (Int32.ofNat (own_enc cs).length))]) (con_cod l Z a0 hw n0 h0 Z0 t cs cz od0 SZ hcz FC ) E1 d16_6 (hw _ (List.mem_of_getElem? (i := 81) rfl)) (hw _ (List.mem_of_getElem? (i := 82) rfl)) (fun s hZ => notFace_of_selects (args := #[]) (mvT hZ (hw _ (List.mem_of_getElem? (i := 84) rfl)))) (hw _ (List.mem_of_getElem? (i := 84) rfl)) (hw _ (List.mem_of_getElem? (i := 83) rfl)) (hw _ (List.mem_of_getElem? (i := 6) rfl)) (hw _ (List.mem_of_getElem? (i := 85) rfl)) (by decide) pd___B rfl rfl rfl (by decide) (by show (1 : Nat) + (1 + 11) + 0 ≤ _; decide) (by decide) (by decide) (by decide) (by decide) (pc' := 9) rfl ?_
  rintro _ _ ⟨_, rfl, rfl, rfl⟩
  show Run l Z n0 "java/lang/String" jdk_42_method_54_code 1 (some .int) "length" ({ frames := 1, cells := 0, slots := 0, locals := 13 } : Room) _ 9 #[.val (.ref t)] [(.int (own_coder cs)), (.int (Int32.ofNat (own_enc cs).length))] h0 0 0
  refine Run.ishr d16_9 (pc' := 10) rfl ?_
  exact Run.ireturn d16_10 rfl (by decide) (by decide) ⟨_, rfl, congrArg Value.int (own_lenshr (by omega)).symm, rfl⟩
theorem d15_0 : decode jdk_42_method_154_code 0 = .ok (.getstatic 38, 3) := by decide +kernel
theorem d15_3 : decode jdk_42_method_154_code 3 = .ok (.ifCond .eq 14, 3) := by decide +kernel
theorem d15_6 : decode jdk_42_method_154_code 6 = .ok (.aload_n 0, 1) := by decide +kernel
theorem d15_7 : decode jdk_42_method_154_code 7 = .ok (.getfield 15, 3) := by decide +kernel
theorem d15_10 : decode jdk_42_method_154_code 10 = .ok (.ifCond .ne 7, 3) := by decide +kernel
theorem d15_13 : decode jdk_42_method_154_code 13 = .ok (.iconst 1, 1) := by decide +kernel
theorem d15_14 : decode jdk_42_method_154_code 14 = .ok (.goto 4, 3) := by decide +kernel
theorem d15_17 : decode jdk_42_method_154_code 17 = .ok (.iconst 0, 1) := by decide +kernel
theorem d15_18 : decode jdk_42_method_154_code 18 = .ok (.ireturn, 1) := by decide +kernel
theorem pn_15 : plainFor (⟨"java/lang/String", "isLatin1", "()Z"⟩ : MethodName) = true := plainFor_of_name (by first | (simp [plainName, overriddenIn]; done) | decide +kernel)
theorem ef_con_isl (m : MethodId) (t : Addr) (cs : List Int32) (cz : Int32)  : entryFrame m #[(.ref t)] 1 = mkF m 0 #[.val (.ref t)] [] := by first | (simp [entryFrame, mkF, argsToLocals, Value.category]; done) | rfl
set_option maxRecDepth 65536 in
set_option maxHeartbeats 40000000 in
theorem con_isl (l : Launch) (Z : State) (a0 : Array Value) (hw : ∀ d ∈ tables_1, d.before a0 Z = true) (n0 : Nat) (h0 : Heap) (Z0 : n0 ≤ h0.size) (t : Addr) (cs : List Int32) (cz : Int32) (od0 : Old Z n0 h0) (SZ : Sta Z Z.heap "java/lang/String" "COMPACT_STRINGS" "Z" (.int cz)) (hcz : ¬ cz = 0) (FC : Fld Z h0 t "java/lang/String" "coder" "B" (.int (own_coder cs))) :
    Con l Z n0 (⟨"java/lang/String", "isLatin1", "()Z"⟩ : MethodName) jdk_42_method_154_code 1 (some .boolean) ({ frames := 0, cells := 0, slots := 0, locals := 0 } : Room) #[(.ref t)] h0 (Val (PV (.int (own_isl cs)) h0)) := by
  refine Con.of_run pn_15 (fun m => ef_con_isl m t cs cz ) ?_
  refine Run.getS d15_0 (host := "") (Or.inl (hw _ (List.mem_of_getElem? (i := 35) rfl))) Via.refl (SZ.ext od0.2) (pc' := 3) rfl ?_
  refine Run.if_eq d15_3 (by decide) (pc' := 17) (by decide) (pa := 6) rfl (fun hc3 => ?_) (fun hc3 => ?_)
  · -- pc 3 taken: cz = (0 : Int32)
    exact absurd hc3 hcz
  · -- pc 3 not taken: ¬ cz = (0 : Int32)
    refine Run.aloadN d15_6 rfl rfl (pc' := 7) rfl ?_
    refine Run.getF d15_7 (host := "") (Or.inl (hw _ (List.mem_of_getElem? (i := 25) rfl))) Via.refl FC (pc' := 10) rfl ?_
    refine Run.if_ne d15_10 (by decide) (pc' := 17) (by decide) (pa := 13) rfl (fun hc10 => ?_) (fun hc10 => ?_)
    · -- pc 10 taken: ¬ (own_coder cs) = (0 : Int32)
      refine Run.iconst (0 : Int32) d15_17 (by decide) (pc' := 18) rfl ?_
      exact Run.nreturn d15_18 (ty := .boolean) rfl (by simp) (by decide) (by decide) ⟨_, rfl, congrArg Value.int (by unfold own_isl; rw [if_neg hc10] <;> rfl), rfl⟩
    · -- pc 10 not taken: (own_coder cs) = (0 : Int32)
      refine Run.iconst (1 : Int32) d15_13 (by decide) (pc' := 14) rfl ?_
      refine Run.goto d15_14 (by decide) (pc' := 18) (by decide) ?_
      exact Run.nreturn d15_18 (ty := .boolean) rfl (by simp) (by decide) (by decide) ⟨_, rfl, congrArg Value.int (by unfold own_isl; rw [if_pos hc10] <;> rfl), rfl⟩
theorem d2_0 : decode jdk_42_method_3_code 0 = .ok (.aload_n 0, 1) := by decide +kernel
theorem d2_1 : decode jdk_42_method_3_code 1 = .ok (.aload_n 1, 1) := by decide +kernel
theorem d2_2 : decode jdk_42_method_3_code 2 = .ok (.iconst 0, 1) := by decide +kernel
theorem d2_3 : decode jdk_42_method_3_code 3 = .ok (.aload_n 1, 1) := by decide +kernel
theorem d2_4 : decode jdk_42_method_3_code 4 = .ok (.arraylength, 1) := by decide +kernel
theorem d2_5 : decode jdk_42_method_3_code 5 = .ok (.aconst_null, 1) := by decide +kernel
theorem d2_6 : decode jdk_42_method_3_code 6 = .ok (.invokespecial 27, 3) := by decide +kernel
theorem d2_9 : decode jdk_42_method_3_code 9 = .ok (.return_, 1) := by decide +kernel
theorem pn_2 : plainFor (⟨"java/lang/String", "<init>", "([C)V"⟩ : MethodName) = true := plainFor_of_name (by first | (simp [plainName, overriddenIn]; done) | decide +kernel)
theorem pd___CIILjava_lang_Void__V : parseMethodDescriptor "([CIILjava/lang/Void;)V" = some ⟨[(.array .char), .int, .int, (.object "java/lang/Void")], none⟩ := by decide +kernel
theorem ef_con_si1 (m : MethodId) (t a : Addr) (cs : List Int32) (cz : Int32) (uv uc : Value)  : entryFrame m #[(.ref t), (.ref a)] 2 = mkF m 0 #[.val (.ref t), .val (.ref a)] [] := by first | (simp [entryFrame, mkF, argsToLocals, Value.category]; done) | rfl
set_option maxRecDepth 65536 in
set_option maxHeartbeats 40000000 in
theorem con_si1 (l : Launch) (Z : State) (a0 : Array Value) (hw : ∀ d ∈ tables_1, d.before a0 Z = true) (n0 : Nat) (h0 : Heap) (Z0 : n0 ≤ h0.size) (t a : Addr) (cs : List Int32) (cz : Int32) (uv uc : Value) (od0 : Old Z n0 h0) (SD : Sta Z Z.heap "java/lang/StringUTF16" "$assertionsDisabled" "Z" (.int (1 : Int32))) (SH8 : Sta Z Z.heap "java/lang/StringUTF16" "HI_BYTE_SHIFT" "I" (.int (0 : Int32))) (SL8 : Sta Z Z.heap "java/lang/StringUTF16" "LO_BYTE_SHIFT" "I" (.int (8 : Int32))) (SZ : Sta Z Z.heap "java/lang/String" "COMPACT_STRINGS" "Z" (.int cz)) (hcz : ¬ cz = 0) (E1 : Exa Z h0 t "java/lang/String") (FV : Fld Z h0 t "java/lang/String" "value" "[B" uv) (FC : Fld Z h0 t "java/lang/String" "coder" "B" uc) (gt : n0 ≤ t) (AC : Ary Z h0 a .char (cs.map Value.int ++ [])) (hne : cs ≠ []) (hn : cs.length ≤ 3) (hch : own_chr cs) (hta : t ≠ a) :
    Con l Z n0 (⟨"java/lang/String", "<init>", "([C)V"⟩ : MethodName) jdk_42_method_3_code 2 none ({ frames := 5, cells := 2, slots := 9, locals := 74 } : Room) #[(.ref t), (.ref a)] h0 (Vd fun h' => ∃ b, h0.size ≤ b ∧ Keep h0 h' [t] ∧ Exa Z h' t "java/lang/String" ∧ Fld Z h' t "java/lang/String" "value" "[B" (.ref b) ∧ Fld Z h' t "java/lang/String" "coder" "B" (.int (own_coder cs)) ∧ Ary Z h' b .byte (own_enc cs)) := by
  refine Con.of_run pn_2 (fun m => ef_con_si1 m t a cs cz uv uc ) ?_
  refine Run.aloadN d2_0 rfl rfl (pc' := 1) rfl ?_
  refine Run.aloadN d2_1 rfl rfl (pc' := 2) rfl ?_
  refine Run.iconst (0 : Int32) d2_2 (by decide) (pc' := 3) rfl ?_
  refine Run.aloadN d2_3 rfl rfl (pc' := 4) rfl ?_
  refine Run.alen (z := (Int32.ofNat cs.length)) d2_4 AC (by rw [List.length_append, List.length_map] <;> rfl) (pc' := 5) rfl ?_
  refine Run.aconst d2_5 (pc' := 6) rfl ?_
  refine Run.callN (k' := 2) (n' := 9) (a := t) (as := [(.ref a), (.int (0 : Int32)), (.int (Int32.ofNat cs.length)), .null]) (rest := []) (con_si4 l Z a0 hw n0 h0 Z0 t a cs [] cz uv uc od0 SD SH8 SL8 SZ hcz E1 FV FC gt AC hne hn hch (Ne.symm hta.symm)) rfl d2_6 (hw _ (List.mem_of_getElem? (i := 11) rfl)) (hw _ (List.mem_of_getElem? (i := 12) rfl)) (hw _ (List.mem_of_getElem? (i := 6) rfl)) (hw _ (List.mem_of_getElem? (i := 14) rfl)) (by decide) pd___CIILjava_lang_Void__V rfl rfl rfl (by decide) (by show (0 : Nat) + (6 + 11) + 57 ≤ _; decide) (by decide) (by decide) (by decide) (by decide) (pc' := 9) rfl ?_
  rintro h11 ⟨b11, bw11, K11, X11, FV11, FC11, P11⟩
  show Run l Z n0 "java/lang/String" jdk_42_method_3_code 2 none "<init>" ({ frames := 5, cells := 2, slots := 9, locals := 74 } : Room) _ 9 #[.val (.ref t), .val (.ref a)] [] h11 2 9
  have ge_b11 : n0 ≤ b11 := Nat.le_trans Z0 bw11
  have bo_b11 : h0.size ≤ b11 := Nat.le_trans (Keep.refl h0 [t]).1 bw11
  have ne_t_b11 : t ≠ b11 := Nat.ne_of_lt (Nat.lt_of_lt_of_le E1.lt bw11)
  have ne_a_b11 : a ≠ b11 := Nat.ne_of_lt (Nat.lt_of_lt_of_le AC.lt bw11)
  have E_t_11 := E1.keep K11
  have A_a_11 := AC.keep K11 (ninS hta.symm nin0)
  have sz11 : n0 ≤ h11.size := Nat.le_trans Z0 K11.1
  have kp11 := Keep.trans (Keep.refl h0 [t]) K11 (allS (Or.inl (List.mem_of_getElem? (i := 0) rfl)) all0)
  have od11 := od0.keep K11 (allS gt all0)
  exact Run.vreturn d2_9 rfl (by decide) (by decide) ⟨rfl, b11, bo_b11, kp11, X11, FV11, FC11, P11⟩
def own_can (p1 : Int32) : Int32 := (if (255 : Int32) < p1 then (0 : Int32) else (1 : Int32))
theorem d24_0 : decode jdk_43_method_3_code 0 = .ok (.iload_n 0, 1) := by decide +kernel
theorem d24_1 : decode jdk_43_method_3_code 1 = .ok (.sipush 255, 3) := by decide +kernel
theorem d24_4 : decode jdk_43_method_3_code 4 = .ok (.if_icmp .gt 7, 3) := by decide +kernel
theorem d24_7 : decode jdk_43_method_3_code 7 = .ok (.iconst 1, 1) := by decide +kernel
theorem d24_8 : decode jdk_43_method_3_code 8 = .ok (.goto 4, 3) := by decide +kernel
theorem d24_11 : decode jdk_43_method_3_code 11 = .ok (.iconst 0, 1) := by decide +kernel
theorem d24_12 : decode jdk_43_method_3_code 12 = .ok (.ireturn, 1) := by decide +kernel
theorem pn_24 : plainFor (⟨"java/lang/StringLatin1", "canEncode", "(C)Z"⟩ : MethodName) = true := plainFor_of_name (by first | (simp [plainName, overriddenIn]; done) | decide +kernel)
theorem ef_con_own_can (m : MethodId) (p1 : Int32)  : entryFrame m #[(.int p1)] 1 = mkF m 0 #[.val (.int p1)] [] := by first | (simp [entryFrame, mkF, argsToLocals, Value.category]; done) | rfl
set_option maxRecDepth 65536 in
set_option maxHeartbeats 40000000 in
theorem con_own_can (l : Launch) (Z : State) (a0 : Array Value) (hw : ∀ d ∈ tables_1, d.before a0 Z = true) (n0 : Nat) (h0 : Heap) (Z0 : n0 ≤ h0.size) (p1 : Int32)  :
    Con l Z n0 (⟨"java/lang/StringLatin1", "canEncode", "(C)Z"⟩ : MethodName) jdk_43_method_3_code 1 (some .boolean) ({ frames := 0, cells := 0, slots := 0, locals := 0 } : Room) #[(.int p1)] h0 (Val (PV (.int (own_can p1)) h0)) := by
  refine Con.of_run pn_24 (fun m => ef_con_own_can m p1 ) ?_
  refine Run.iloadN d24_0 rfl (pc' := 1) rfl ?_
  refine Run.sipush (255 : Int32) d24_1 (by decide) (pc' := 4) rfl ?_
  refine Run.icmp_gt d24_4 (by decide) (pc' := 11) (by decide) (pa := 7) rfl (fun hc4 => ?_) (fun hc4 => ?_)
  · -- pc 4 taken: (255 : Int32) < p1
    refine Run.iconst (0 : Int32) d24_11 (by decide) (pc' := 12) rfl ?_
    exact Run.nreturn d24_12 (ty := .boolean) rfl (by simp) (by decide) (by decide) ⟨_, rfl, congrArg Value.int (by unfold own_can; rw [if_pos hc4] <;> rfl), rfl⟩
  · -- pc 4 not taken: ¬ (255 : Int32) < p1
    refine Run.iconst (1 : Int32) d24_7 (by decide) (pc' := 8) rfl ?_
    refine Run.goto d24_8 (by decide) (pc' := 12) (by decide) ?_
    exact Run.nreturn d24_12 (ty := .boolean) rfl (by simp) (by decide) (by decide) ⟨_, rfl, congrArg Value.int (by unfold own_can; rw [if_neg hc4] <;> rfl), rfl⟩
theorem own_can1 {c : Int32} (h : ¬ own_can c = 0) : own_coder [c] = 0 ∧ own_enc [c] = own_by [c] := by
  have q : ¬ (255 : Int32) < c := fun z => h (by unfold own_can; rw [if_pos z])
  have e : own_pfx [c] = [c].length := by show (if (255 : Int32) < c then 0 else 0 + 1) = 1; rw [if_neg q]
  exact ⟨by unfold own_coder; rw [if_pos e], own_encP e⟩
theorem own_can0 {c : Int32} (h : own_can c = 0) : own_coder [c] = 1 ∧ own_enc [c] = own_u16 [c] := by
  have q : (255 : Int32) < c := by by_cases z : (255 : Int32) < c; exact z; exact absurd h (by unfold own_can; rw [if_neg z]; decide)
  have e : ¬ own_pfx [c] = [c].length := by show ¬ (if (255 : Int32) < c then 0 else 0 + 1) = 1; rw [if_pos q]; decide
  exact ⟨by unfold own_coder; rw [if_neg e], own_encN e⟩
theorem d25_0 : decode jdk_43_method_46_code 0 = .ok (.iconst 1, 1) := by decide +kernel
theorem d25_1 : decode jdk_43_method_46_code 1 = .ok (.newarray .byte, 2) := by decide +kernel
theorem d25_3 : decode jdk_43_method_46_code 3 = .ok (.dup, 1) := by decide +kernel
theorem d25_4 : decode jdk_43_method_46_code 4 = .ok (.iconst 0, 1) := by decide +kernel
theorem d25_5 : decode jdk_43_method_46_code 5 = .ok (.iload_n 0, 1) := by decide +kernel
theorem d25_6 : decode jdk_43_method_46_code 6 = .ok (.i2b, 1) := by decide +kernel
theorem d25_7 : decode jdk_43_method_46_code 7 = .ok (.bastore, 1) := by decide +kernel
theorem d25_8 : decode jdk_43_method_46_code 8 = .ok (.areturn, 1) := by decide +kernel
theorem pn_25 : plainFor (⟨"java/lang/StringLatin1", "toBytes", "(C)[B"⟩ : MethodName) = true := plainFor_of_name (by first | (simp [plainName, overriddenIn]; done) | decide +kernel)
theorem ef_con_ltb (m : MethodId) (c : Int32)  : entryFrame m #[(.int c)] 1 = mkF m 0 #[.val (.int c)] [] := by first | (simp [entryFrame, mkF, argsToLocals, Value.category]; done) | rfl
set_option maxRecDepth 65536 in
set_option maxHeartbeats 40000000 in
theorem con_ltb (l : Launch) (Z : State) (a0 : Array Value) (hw : ∀ d ∈ tables_1, d.before a0 Z = true) (n0 : Nat) (h0 : Heap) (Z0 : n0 ≤ h0.size) (c : Int32)  :
    Con l Z n0 (⟨"java/lang/StringLatin1", "toBytes", "(C)[B"⟩ : MethodName) jdk_43_method_46_code 1 (some (.array .byte)) ({ frames := 0, cells := 1, slots := 1, locals := 0 } : Room) #[(.int c)] h0 (Val fun w h' => ∃ b, w = .ref b ∧ h0.size ≤ b ∧ Ext h0 h' ∧ Ary Z h' b .byte (own_by [c])) := by
  refine Con.of_run pn_25 (fun m => ef_con_ltb m c ) ?_
  refine Run.iconst (1 : Int32) d25_0 (by decide) (pc' := 1) rfl ?_
  refine Run.newP (ty := .byte) (m := 1) (cap := 1) (dv := (.int (0 : Int32))) (k' := 1) (n' := 1) d25_1 rfl (hw _ (List.mem_of_getElem? (i := 19) rfl)) (by decide) (by decide) (Nat.le_refl _) rfl (by decide) (by decide) (by decide) (by decide) (by decide) (pc' := 3) rfl ?_
  intro h11 b11 g11 E11 A11
  have ge_b11 : n0 ≤ b11 := by rw [g11]; exact Z0
  have bo_b11 : h0.size ≤ b11 := by rw [g11]; exact (Keep.refl h0 []).1
  have sz11 : n0 ≤ h11.size := Nat.le_trans Z0 E11.1
  have kp11 := Keep.ext (Keep.refl h0 []) E11
  replace A11 : Ary Z h11 b11 .byte [(.int (0 : Int32))] := A11
  refine Run.dup d25_3 rfl (pc' := 4) rfl ?_
  refine Run.iconst (0 : Int32) d25_4 (by decide) (pc' := 5) rfl ?_
  refine Run.iloadN d25_5 rfl (pc' := 6) rfl ?_
  refine Run.i2b d25_6 (pc' := 7) rfl ?_
  refine Run.bastore (i := 0) d25_7 A11 (by decide) (by show (0 : Nat) < 1; decide) ge_b11 (pc' := 8) rfl ?_
  intro h12 W12 A12
  replace A12 : Ary Z h12 b11 .byte [(.int (nar .byte (nar .byte c)))] := A12
  have sz12 : n0 ≤ h12.size := by rw [W12.size]; exact sz11
  have kp12 := Keep.wr kp11 W12 (Or.inr bo_b11)
  exact Run.areturn d25_8 (ty := (.array .byte)) rfl rfl rfl (by decide) (by decide) ⟨_, rfl, b11, rfl, bo_b11, Keep.toExt kp12, (by have z := A12; rw [own_nbb] at z; exact z)⟩
theorem d39_0 : decode jdk_52_method_24_code 0 = .ok (.iconst 2, 1) := by decide +kernel
theorem d39_1 : decode jdk_52_method_24_code 1 = .ok (.newarray .byte, 2) := by decide +kernel
theorem d39_3 : decode jdk_52_method_24_code 3 = .ok (.astore_n 1, 1) := by decide +kernel
theorem d39_4 : decode jdk_52_method_24_code 4 = .ok (.aload_n 1, 1) := by decide +kernel
theorem d39_5 : decode jdk_52_method_24_code 5 = .ok (.iconst 0, 1) := by decide +kernel
theorem d39_6 : decode jdk_52_method_24_code 6 = .ok (.iload_n 0, 1) := by decide +kernel
theorem d39_7 : decode jdk_52_method_24_code 7 = .ok (.invokestatic 111, 3) := by decide +kernel
theorem d39_10 : decode jdk_52_method_24_code 10 = .ok (.aload_n 1, 1) := by decide +kernel
theorem d39_11 : decode jdk_52_method_24_code 11 = .ok (.areturn, 1) := by decide +kernel
theorem pn_39 : plainFor (⟨"java/lang/StringUTF16", "toBytes", "(C)[B"⟩ : MethodName) = true := plainFor_of_name (by first | (simp [plainName, overriddenIn]; done) | decide +kernel)
theorem ef_con_utb (m : MethodId) (c : Int32)  : entryFrame m #[(.int c)] 2 = mkF m 0 #[.val (.int c), .unset] [] := by first | (simp [entryFrame, mkF, argsToLocals, Value.category]; done) | rfl
set_option maxRecDepth 65536 in
set_option maxHeartbeats 40000000 in
theorem con_utb (l : Launch) (Z : State) (a0 : Array Value) (hw : ∀ d ∈ tables_1, d.before a0 Z = true) (n0 : Nat) (h0 : Heap) (Z0 : n0 ≤ h0.size) (c : Int32) (od0 : Old Z n0 h0) (SD : Sta Z Z.heap "java/lang/StringUTF16" "$assertionsDisabled" "Z" (.int (1 : Int32))) (SH8 : Sta Z Z.heap "java/lang/StringUTF16" "HI_BYTE_SHIFT" "I" (.int (0 : Int32))) (SL8 : Sta Z Z.heap "java/lang/StringUTF16" "LO_BYTE_SHIFT" "I" (.int (8 : Int32))) :
    Con l Z n0 (⟨"java/lang/StringUTF16", "toBytes", "(C)[B"⟩ : MethodName) jdk_52_method_24_code 2 (some (.array .byte)) ({ frames := 1, cells := 1, slots := 2, locals := 14 } : Room) #[(.int c)] h0 (Val fun w h' => ∃ b, w = .ref b ∧ h0.size ≤ b ∧ Ext h0 h' ∧ Ary Z h' b .byte (own_u16 [c])) := by
  refine Con.of_run pn_39 (fun m => ef_con_utb m c ) ?_
  refine Run.iconst (2 : Int32) d39_0 (by decide) (pc' := 1) rfl ?_
  refine Run.newP (ty := .byte) (m := 2) (cap := 2) (dv := (.int (0 : Int32))) (k' := 1) (n' := 2) d39_1 rfl (hw _ (List.mem_of_getElem? (i := 19) rfl)) (by decide) (by decide) (Nat.le_refl _) rfl (by decide) (by decide) (by decide) (by decide) (by decide) (pc' := 3) rfl ?_
  intro h11 b11 g11 E11 A11
  have ge_b11 : n0 ≤ b11 := by rw [g11]; exact Z0
  have bo_b11 : h0.size ≤ b11 := by rw [g11]; exact (Keep.refl h0 []).1
  have sz11 : n0 ≤ h11.size := Nat.le_trans Z0 E11.1
  have kp11 := Keep.ext (Keep.refl h0 []) E11
  have od11 := od0.ext E11
  replace A11 : Ary Z h11 b11 .byte [(.int (0 : Int32)), (.int (0 : Int32))] := A11
  refine Run.astoreN (l' := #[.val (.int c), .val (.ref b11)]) d39_3 rfl rfl (pc' := 4) rfl ?_
  refine Run.aloadN d39_4 rfl rfl (pc' := 5) rfl ?_
  refine Run.iconst (0 : Int32) d39_5 (by decide) (pc' := 6) rfl ?_
  refine Run.iloadN d39_6 rfl (pc' := 7) rfl ?_
  refine Run.callS (k' := 1) (n' := 2) (as := [(.ref b11), (.int (0 : Int32)), (.int c)]) (rest := []) (con_puc l Z a0 hw n0 h11 sz11 b11 0 c [.int (0 : Int32), .int (0 : Int32)] od11 SD SH8 SL8 A11 ge_b11 (by decide) (by decide)) d39_7 (hw _ (List.mem_of_getElem? (i := 125) rfl)) (hw _ (List.mem_of_getElem? (i := 126) rfl)) (hw _ (List.mem_of_getElem? (i := 38) rfl)) (hw _ (List.mem_of_getElem? (i := 127) rfl)) (by decide) pd___BII_V rfl rfl rfl (by decide) (by show (0 : Nat) + (3 + 11) + 0 ≤ _; decide) (by decide) (by decide) (by decide) (by decide) (pc' := 10) rfl ?_
  rintro _ h12 ⟨rfl, ⟨K12, P12⟩⟩
  show Run l Z n0 "java/lang/StringUTF16" jdk_52_method_24_code 2 (some (.array .byte)) "toBytes" ({ frames := 1, cells := 1, slots := 2, locals := 14 } : Room) _ 10 #[.val (.int c), .val (.ref b11)] [] h12 1 2
  have sz12 : n0 ≤ h12.size := Nat.le_trans sz11 K12.1
  have kp12 := Keep.trans kp11 K12 (allS (Or.inr bo_b11) all0)
  have od12 := od11.keep K12 (allS ge_b11 all0)
  refine Run.aloadN d39_10 rfl rfl (pc' := 11) rfl ?_
  exact Run.areturn d39_11 (ty := (.array .byte)) rfl rfl rfl (by decide) (by decide) ⟨_, rfl, b11, rfl, bo_b11, Keep.toExt kp12, P12⟩
theorem d26_0 : decode jdk_42_method_151_code 0 = .ok (.aload_n 0, 1) := by decide +kernel
theorem d26_1 : decode jdk_42_method_151_code 1 = .ok (.invokespecial 1, 3) := by decide +kernel
theorem d26_4 : decode jdk_42_method_151_code 4 = .ok (.aload_n 0, 1) := by decide +kernel
theorem d26_5 : decode jdk_42_method_151_code 5 = .ok (.aload_n 1, 1) := by decide +kernel
theorem d26_6 : decode jdk_42_method_151_code 6 = .ok (.putfield 9, 3) := by decide +kernel
theorem d26_9 : decode jdk_42_method_151_code 9 = .ok (.aload_n 0, 1) := by decide +kernel
theorem d26_10 : decode jdk_42_method_151_code 10 = .ok (.iload_n 2, 1) := by decide +kernel
theorem d26_11 : decode jdk_42_method_151_code 11 = .ok (.putfield 15, 3) := by decide +kernel
theorem d26_14 : decode jdk_42_method_151_code 14 = .ok (.return_, 1) := by decide +kernel
theorem pn_26 : plainFor (⟨"java/lang/String", "<init>", "([BB)V"⟩ : MethodName) = true := plainFor_of_name (by first | (simp [plainName, overriddenIn]; done) | decide +kernel)
theorem ef_con_ibb (m : MethodId) (t a : Addr) (k : Int32) (uv uc : Value)  : entryFrame m #[(.ref t), (.ref a), (.int k)] 3 = mkF m 0 #[.val (.ref t), .val (.ref a), .val (.int k)] [] := by first | (simp [entryFrame, mkF, argsToLocals, Value.category]; done) | rfl
set_option maxRecDepth 65536 in
set_option maxHeartbeats 40000000 in
theorem con_ibb (l : Launch) (Z : State) (a0 : Array Value) (hw : ∀ d ∈ tables_1, d.before a0 Z = true) (n0 : Nat) (h0 : Heap) (Z0 : n0 ≤ h0.size) (t a : Addr) (k : Int32) (uv uc : Value) (E1 : Exa Z h0 t "java/lang/String") (FV : Fld Z h0 t "java/lang/String" "value" "[B" uv) (FC : Fld Z h0 t "java/lang/String" "coder" "B" uc) (gt : n0 ≤ t) (hk1 : narrow .byte (.int k) = .int k) (hk2 : fits .byte (.int k) = true) :
    Con l Z n0 (⟨"java/lang/String", "<init>", "([BB)V"⟩ : MethodName) jdk_42_method_151_code 3 none ({ frames := 1, cells := 0, slots := 0, locals := 12 } : Room) #[(.ref t), (.ref a), (.int k)] h0 (Vd fun h' => Keep h0 h' [t] ∧ Fld Z h' t "java/lang/String" "value" "[B" (.ref a) ∧ Fld Z h' t "java/lang/String" "coder" "B" (.int k)) := by
  refine Con.of_run pn_26 (fun m => ef_con_ibb m t a k uv uc ) ?_
  refine Run.aloadN d26_0 rfl rfl (pc' := 1) rfl ?_
  refine Run.initO d26_1 (hw _ (List.mem_of_getElem? (i := 15) rfl)) (hw _ (List.mem_of_getElem? (i := 16) rfl)) (hw _ (List.mem_of_getElem? (i := 17) rfl)) rfl (by decide) (by show (0 : Nat) + 12 ≤ _; decide) (pc' := 4) rfl ?_
  refine Run.aloadN d26_4 rfl rfl (pc' := 5) rfl ?_
  refine Run.aloadN d26_5 rfl rfl (pc' := 6) rfl ?_
  refine Run.putF d26_6 (host := "") (Or.inl (hw _ (List.mem_of_getElem? (i := 24) rfl))) Via.refl FV E1 (Or.inr ⟨(hw _ (List.mem_of_getElem? (i := 20) rfl)), rfl, rfl⟩) (hw _ (List.mem_of_getElem? (i := 5) rfl)) (ty := (.array .byte)) (by decide) (go_narref rfl rfl) rfl gt (pc' := 9) rfl ?_
  intro h11 W11
  have Fw11 := FV.same W11
  have E_t_11 := E1.wr W11
  have F_t_coder_11 := FC.other W11 (Or.inr (slot_ne (Or.inr (hw _ (List.mem_of_getElem? (i := 21) rfl))) (Or.inr (hw _ (List.mem_of_getElem? (i := 20) rfl))) (by decide) (t := .byte) (t' := (.array .byte)) (by decide) (by decide)))
  have sz11 : n0 ≤ h11.size := by rw [W11.size]; exact Z0
  have kp11 := Keep.wr (Keep.refl h0 [t]) W11 (Or.inl (List.mem_of_getElem? (i := 0) rfl))
  refine Run.aloadN d26_9 rfl rfl (pc' := 10) rfl ?_
  refine Run.iloadN d26_10 rfl (pc' := 11) rfl ?_
  refine Run.putFN d26_11 (hw _ (List.mem_of_getElem? (i := 25) rfl)) Via.refl F_t_coder_11 E_t_11 (Or.inr ⟨(hw _ (List.mem_of_getElem? (i := 21) rfl)), rfl, rfl⟩) (hw _ (List.mem_of_getElem? (i := 5) rfl)) (ty := .byte) (v' := (.int k)) (by decide) hk1 hk2 gt (pc' := 14) rfl ?_
  intro h12 W12
  have Fw12 := F_t_coder_11.same W12
  have E_t_12 := E_t_11.wr W12
  have F_t_value_12 := Fw11.other W12 (Or.inr (slot_ne (Or.inr (hw _ (List.mem_of_getElem? (i := 20) rfl))) (Or.inr (hw _ (List.mem_of_getElem? (i := 21) rfl))) (by decide) (t := (.array .byte)) (t' := .byte) (by decide) (by decide)))
  have sz12 : n0 ≤ h12.size := by rw [W12.size]; exact sz11
  have kp12 := Keep.wr kp11 W12 (Or.inl (List.mem_of_getElem? (i := 0) rfl))
  exact Run.vreturn d26_14 rfl (by decide) (by decide) ⟨rfl, kp12, F_t_value_12, Fw12⟩
theorem d23_0 : decode jdk_42_method_139_code 0 = .ok (.getstatic 38, 3) := by decide +kernel
theorem d23_3 : decode jdk_42_method_139_code 3 = .ok (.ifCond .eq 23, 3) := by decide +kernel
theorem d23_6 : decode jdk_42_method_139_code 6 = .ok (.iload_n 0, 1) := by decide +kernel
theorem d23_7 : decode jdk_42_method_139_code 7 = .ok (.invokestatic 1015, 3) := by decide +kernel
theorem d23_10 : decode jdk_42_method_139_code 10 = .ok (.ifCond .eq 16, 3) := by decide +kernel
theorem d23_13 : decode jdk_42_method_139_code 13 = .ok (.new 10, 3) := by decide +kernel
theorem d23_16 : decode jdk_42_method_139_code 16 = .ok (.dup, 1) := by decide +kernel
theorem d23_17 : decode jdk_42_method_139_code 17 = .ok (.iload_n 0, 1) := by decide +kernel
theorem d23_18 : decode jdk_42_method_139_code 18 = .ok (.invokestatic 1018, 3) := by decide +kernel
theorem d23_21 : decode jdk_42_method_139_code 21 = .ok (.iconst 0, 1) := by decide +kernel
theorem d23_22 : decode jdk_42_method_139_code 22 = .ok (.invokespecial 209, 3) := by decide +kernel
theorem d23_25 : decode jdk_42_method_139_code 25 = .ok (.areturn, 1) := by decide +kernel
theorem d23_26 : decode jdk_42_method_139_code 26 = .ok (.new 10, 3) := by decide +kernel
theorem d23_29 : decode jdk_42_method_139_code 29 = .ok (.dup, 1) := by decide +kernel
theorem d23_30 : decode jdk_42_method_139_code 30 = .ok (.iload_n 0, 1) := by decide +kernel
theorem d23_31 : decode jdk_42_method_139_code 31 = .ok (.invokestatic 1021, 3) := by decide +kernel
theorem d23_34 : decode jdk_42_method_139_code 34 = .ok (.iconst 1, 1) := by decide +kernel
theorem d23_35 : decode jdk_42_method_139_code 35 = .ok (.invokespecial 209, 3) := by decide +kernel
theorem d23_38 : decode jdk_42_method_139_code 38 = .ok (.areturn, 1) := by decide +kernel
theorem pn_23 : plainFor (⟨"java/lang/String", "valueOf", "(C)Ljava/lang/String;"⟩ : MethodName) = true := plainFor_of_name (by first | (simp [plainName, overriddenIn]; done) | decide +kernel)
theorem pd__C_Z : parseMethodDescriptor "(C)Z" = some ⟨[.char], some .boolean⟩ := by decide +kernel
theorem pd__C__B : parseMethodDescriptor "(C)[B" = some ⟨[.char], some (.array .byte)⟩ := by decide +kernel
theorem pd___BB_V : parseMethodDescriptor "([BB)V" = some ⟨[(.array .byte), .byte], none⟩ := by decide +kernel
theorem ef_con_voc (m : MethodId) (c : Int32) (cz : Int32)  : entryFrame m #[(.int c)] 1 = mkF m 0 #[.val (.int c)] [] := by first | (simp [entryFrame, mkF, argsToLocals, Value.category]; done) | rfl
set_option maxRecDepth 65536 in
set_option maxHeartbeats 40000000 in
theorem con_voc (l : Launch) (Z : State) (a0 : Array Value) (hw : ∀ d ∈ tables_1, d.before a0 Z = true) (n0 : Nat) (h0 : Heap) (Z0 : n0 ≤ h0.size) (c : Int32) (cz : Int32) (od0 : Old Z n0 h0) (SD : Sta Z Z.heap "java/lang/StringUTF16" "$assertionsDisabled" "Z" (.int (1 : Int32))) (SH8 : Sta Z Z.heap "java/lang/StringUTF16" "HI_BYTE_SHIFT" "I" (.int (0 : Int32))) (SL8 : Sta Z Z.heap "java/lang/StringUTF16" "LO_BYTE_SHIFT" "I" (.int (8 : Int32))) (SZ : Sta Z Z.heap "java/lang/String" "COMPACT_STRINGS" "Z" (.int cz)) (hcz : ¬ cz = 0) :
    Con l Z n0 (⟨"java/lang/String", "valueOf", "(C)Ljava/lang/String;"⟩ : MethodName) jdk_42_method_139_code 1 (some (.object "java/lang/String")) ({ frames := 2, cells := 2, slots := 6, locals := 29 } : Room) #[(.int c)] h0 (Val fun w h' => ∃ t b, w = .ref t ∧ h0.size ≤ t ∧ Ext h0 h' ∧ Exa Z h' t "java/lang/String" ∧ Fld Z h' t "java/lang/String" "value" "[B" (.ref b) ∧ Fld Z h' t "java/lang/String" "coder" "B" (.int (own_coder [c])) ∧ Ary Z h' b .byte (own_enc [c])) := by
  refine Con.of_run pn_23 (fun m => ef_con_voc m c cz ) ?_
  refine Run.getS d23_0 (host := "") (Or.inl (hw _ (List.mem_of_getElem? (i := 35) rfl))) Via.refl (SZ.ext od0.2) (pc' := 3) rfl ?_
  refine Run.if_eq d23_3 (by decide) (pc' := 26) (by decide) (pa := 6) rfl (fun hc3 => ?_) (fun hc3 => ?_)
  · -- pc 3 taken: cz = (0 : Int32)
    exact absurd hc3 hcz
  · -- pc 3 not taken: ¬ cz = (0 : Int32)
    refine Run.iloadN d23_6 rfl (pc' := 7) rfl ?_
    refine Run.callS (k' := 0) (n' := 0) (as := [(.int c)]) (rest := []) (con_own_can l Z a0 hw n0 h0 Z0 c ) d23_7 (hw _ (List.mem_of_getElem? (i := 106) rfl)) (hw _ (List.mem_of_getElem? (i := 107) rfl)) (hw _ (List.mem_of_getElem? (i := 58) rfl)) (hw _ (List.mem_of_getElem? (i := 108) rfl)) (by decide) pd__C_Z rfl rfl rfl (by decide) (by show (0 : Nat) + (1 + 11) + 0 ≤ _; decide) (by decide) (by decide) (by decide) (by decide) (pc' := 10) rfl ?_
    rintro _ _ ⟨_, rfl, rfl, rfl⟩
    show Run l Z n0 "java/lang/String" jdk_42_method_139_code 1 (some (.object "java/lang/String")) "valueOf" ({ frames := 2, cells := 2, slots := 6, locals := 29 } : Room) _ 10 #[.val (.int c)] [(.int (own_can c))] h0 0 0
    refine Run.if_eq d23_10 (by decide) (pc' := 26) (by decide) (pa := 13) rfl (fun hc10 => ?_) (fun hc10 => ?_)
    · -- pc 10 taken: (own_can c) = (0 : Int32)
      refine Run.newO (k' := 1) (n' := 4) d23_26 (hw _ (List.mem_of_getElem? (i := 55) rfl)) (hw _ (List.mem_of_getElem? (i := 5) rfl)) (hw _ (List.mem_of_getElem? (i := 6) rfl)) (by decide) (by decide) (by decide) (by decide) (pc' := 29) rfl ?_
      intro h11 b11 g11 E11 X11 D11
      have ge_b11 : n0 ≤ b11 := by rw [g11]; exact Z0
      have bo_b11 : h0.size ≤ b11 := by rw [g11]; exact (Keep.refl h0 []).1
      have sz11 : n0 ≤ h11.size := Nat.le_trans Z0 E11.1
      have kp11 := Keep.ext (Keep.refl h0 []) E11
      have od11 := od0.ext E11
      have F_b11_value : Fld Z h11 b11 "java/lang/String" "value" "[B" .null := D11 (Or.inr (hw _ (List.mem_of_getElem? (i := 20) rfl))) (ty := (.array .byte)) (by decide)
      have F_b11_coder : Fld Z h11 b11 "java/lang/String" "coder" "B" (.int (0 : Int32)) := D11 (Or.inr (hw _ (List.mem_of_getElem? (i := 21) rfl))) (ty := .byte) (by decide)
      refine Run.dup d23_29 rfl (pc' := 30) rfl ?_
      refine Run.iloadN d23_30 rfl (pc' := 31) rfl ?_
      refine Run.callS (k' := 2) (n' := 6) (as := [(.int c)]) (rest := [(.ref b11), (.ref b11)]) (con_utb l Z a0 hw n0 h11 sz11 c od11 SD SH8 SL8) d23_31 (hw _ (List.mem_of_getElem? (i := 160) rfl)) (hw _ (List.mem_of_getElem? (i := 161) rfl)) (hw _ (List.mem_of_getElem? (i := 38) rfl)) (hw _ (List.mem_of_getElem? (i := 162) rfl)) (by decide) pd__C__B rfl rfl rfl (by decide) (by show (2 : Nat) + (2 + 11) + 14 ≤ _; decide) (by decide) (by decide) (by decide) (by decide) (pc' := 34) rfl ?_
      rintro _ h12 ⟨_, rfl, ⟨b12, rfl, bw12, E12, P12⟩⟩
      show Run l Z n0 "java/lang/String" jdk_42_method_139_code 1 (some (.object "java/lang/String")) "valueOf" ({ frames := 2, cells := 2, slots := 6, locals := 29 } : Room) _ 34 #[.val (.int c)] [(.ref b12), (.ref b11), (.ref b11)] h12 2 6
      have ge_b12 : n0 ≤ b12 := Nat.le_trans sz11 bw12
      have bo_b12 : h0.size ≤ b12 := Nat.le_trans kp11.1 bw12
      have ne_b11_b12 : b11 ≠ b12 := Nat.ne_of_lt (Nat.lt_of_lt_of_le X11.lt bw12)
      have E_b11_12 := X11.ext E12
      have F_b11_value_12 := F_b11_value.ext E12
      have F_b11_coder_12 := F_b11_coder.ext E12
      have sz12 : n0 ≤ h12.size := Nat.le_trans sz11 E12.1
      have kp12 := Keep.ext kp11 E12
      have od12 := od11.ext E12
      refine Run.iconst (1 : Int32) d23_34 (by decide) (pc' := 35) rfl ?_
      refine Run.callN (k' := 2) (n' := 6) (a := b11) (as := [(.ref b12), (.int (1 : Int32))]) (rest := [(.ref b11)]) (con_ibb l Z a0 hw n0 h12 sz12 b11 b12 (1 : Int32) .null (.int (0 : Int32)) E_b11_12 F_b11_value_12 F_b11_coder_12 ge_b11 rfl rfl) rfl d23_35 (hw _ (List.mem_of_getElem? (i := 112) rfl)) (hw _ (List.mem_of_getElem? (i := 113) rfl)) (hw _ (List.mem_of_getElem? (i := 6) rfl)) (hw _ (List.mem_of_getElem? (i := 114) rfl)) (by decide) pd___BB_V rfl rfl rfl (by decide) (by show (1 : Nat) + (3 + 11) + 12 ≤ _; decide) (by decide) (by decide) (by decide) (by decide) (pc' := 38) rfl ?_
      rintro h13 ⟨K13, P13, R13⟩
      show Run l Z n0 "java/lang/String" jdk_42_method_139_code 1 (some (.object "java/lang/String")) "valueOf" ({ frames := 2, cells := 2, slots := 6, locals := 29 } : Room) _ 38 #[.val (.int c)] [(.ref b11)] h13 2 6
      have E_b11_13 := E_b11_12.keep K13
      have A_b12_13 := P12.keep K13 (ninS (Ne.symm ne_b11_b12) nin0)
      have sz13 : n0 ≤ h13.size := Nat.le_trans sz12 K13.1
      have kp13 := Keep.trans kp12 K13 (allS (Or.inr bo_b11) all0)
      have od13 := od12.keep K13 (allS ge_b11 all0)
      exact Run.areturn d23_38 (ty := (.object "java/lang/String")) rfl rfl rfl (by decide) (by decide) ⟨_, rfl, b11, b12, rfl, bo_b11, Keep.toExt kp13, E_b11_13, P13, (by rw [(own_can0 hc10).1]; exact R13), (by rw [(own_can0 hc10).2]; exact A_b12_13)⟩
    · -- pc 10 not taken: ¬ (own_can c) = (0 : Int32)
      refine Run.newO (k' := 1) (n' := 4) d23_13 (hw _ (List.mem_of_getElem? (i := 55) rfl)) (hw _ (List.mem_of_getElem? (i := 5) rfl)) (hw _ (List.mem_of_getElem? (i := 6) rfl)) (by decide) (by decide) (by decide) (by decide) (pc' := 16) rfl ?_
      intro h14 b14 g14 E14 X14 D14
      have ge_b14 : n0 ≤ b14 := by rw [g14]; exact Z0
      have bo_b14 : h0.size ≤ b14 := by rw [g14]; exact (Keep.refl h0 []).1
      have sz14 : n0 ≤ h14.size := Nat.le_trans Z0 E14.1
      have kp14 := Keep.ext (Keep.refl h0 []) E14
      have od14 := od0.ext E14
      have F_b14_value : Fld Z h14 b14 "java/lang/String" "value" "[B" .null := D14 (Or.inr (hw _ (List.mem_of_getElem? (i := 20) rfl))) (ty := (.array .byte)) (by decide)
      have F_b14_coder : Fld Z h14 b14 "java/lang/String" "coder" "B" (.int (0 : Int32)) := D14 (Or.inr (hw _ (List.mem_of_getElem? (i := 21) rfl))) (ty := .byte) (by decide)
      refine Run.dup d23_16 rfl (pc' := 17) rfl ?_
      refine Run.iloadN d23_17 rfl (pc' := 18) rfl ?_
      refine Run.callS (k' := 2) (n' := 5) (as := [(.int c)]) (rest := [(.ref b14), (.ref b14)]) (con_ltb l Z a0 hw n0 h14 sz14 c) d23_18 (hw _ (List.mem_of_getElem? (i := 109) rfl)) (hw _ (List.mem_of_getElem? (i := 110) rfl)) (hw _ (List.mem_of_getElem? (i := 58) rfl)) (hw _ (List.mem_of_getElem? (i := 111) rfl)) (by decide) pd__C__B rfl rfl rfl (by decide) (by show (2 : Nat) + (1 + 11) + 0 ≤ _; decide) (by decide) (by decide) (by decide) (by decide) (pc' := 21) rfl ?_
      rintro _ h15 ⟨_, rfl, ⟨b15, rfl, bw15, E15, P15⟩⟩
      show Run l Z n0 "java/lang/String" jdk_42_method_139_code 1 (some (.object "java/lang/String")) "valueOf" ({ frames := 2, cells := 2, slots := 6, locals := 29 } : Room) _ 21 #[.val (.int c)] [(.ref b15), (.ref b14), (.ref b14)] h15 2 5
      have ge_b15 : n0 ≤ b15 := Nat.le_trans sz14 bw15
      have bo_b15 : h0.size ≤ b15 := Nat.le_trans kp14.1 bw15
      have ne_b14_b15 : b14 ≠ b15 := Nat.ne_of_lt (Nat.lt_of_lt_of_le X14.lt bw15)
      have E_b14_15 := X14.ext E15
      have F_b14_value_15 := F_b14_value.ext E15
      have F_b14_coder_15 := F_b14_coder.ext E15
      have sz15 : n0 ≤ h15.size := Nat.le_trans sz14 E15.1
      have kp15 := Keep.ext kp14 E15
      have od15 := od14.ext E15
      refine Run.iconst (0 : Int32) d23_21 (by decide) (pc' := 22) rfl ?_
      refine Run.callN (k' := 2) (n' := 5) (a := b14) (as := [(.ref b15), (.int (0 : Int32))]) (rest := [(.ref b14)]) (con_ibb l Z a0 hw n0 h15 sz15 b14 b15 (0 : Int32) .null (.int (0 : Int32)) E_b14_15 F_b14_value_15 F_b14_coder_15 ge_b14 rfl rfl) rfl d23_22 (hw _ (List.mem_of_getElem? (i := 112) rfl)) (hw _ (List.mem_of_getElem? (i := 113) rfl)) (hw _ (List.mem_of_getElem? (i := 6) rfl)) (hw _ (List.mem_of_getElem? (i := 114) rfl)) (by decide) pd___BB_V rfl rfl rfl (by decide) (by show (1 : Nat) + (3 + 11) + 12 ≤ _; decide) (by decide) (by decide) (by decide) (by decide) (pc' := 25) rfl ?_
      rintro h16 ⟨K16, P16, R16⟩
      show Run l Z n0 "java/lang/String" jdk_42_method_139_code 1 (some (.object "java/lang/String")) "valueOf" ({ frames := 2, cells := 2, slots := 6, locals := 29 } : Room) _ 25 #[.val (.int c)] [(.ref b14)] h16 2 5
      have E_b14_16 := E_b14_15.keep K16
      have A_b15_16 := P15.keep K16 (ninS (Ne.symm ne_b14_b15) nin0)
      have sz16 : n0 ≤ h16.size := Nat.le_trans sz15 K16.1
      have kp16 := Keep.trans kp15 K16 (allS (Or.inr bo_b14) all0)
      have od16 := od15.keep K16 (allS ge_b14 all0)
      exact Run.areturn d23_25 (ty := (.object "java/lang/String")) rfl rfl rfl (by decide) (by decide) ⟨_, rfl, b14, b15, rfl, bo_b14, Keep.toExt kp16, E_b14_16, P16, (by rw [(own_can1 hc10).1]; exact R16), (by rw [(own_can1 hc10).2]; exact A_b15_16)⟩
def own_emp (cs : List Int32) : Int32 := if cs.length = 0 then 1 else 0
theorem own_el0 (cs : List Int32) : (own_enc cs).length = 0 ↔ cs.length = 0 := by rw [own_enc_len]; split <;> omega
theorem own_em1 {cs : List Int32} (hb : cs.length < 2 ^ 29) (h : Int32.ofNat (own_enc cs).length = (0 : Int32)) : own_emp cs = nar .boolean 1 := by
  have e := own_enc_len cs
  have h1 := own_ofn (i := (own_enc cs).length) (by rw [e]; split <;> omega); rw [h, own_z] at h1
  unfold own_emp; rw [if_pos ((own_el0 cs).mp (by omega))]; rfl
theorem own_em0 {cs : List Int32} (hb : cs.length < 2 ^ 29) (h : ¬ Int32.ofNat (own_enc cs).length = (0 : Int32)) : own_emp cs = nar .boolean 0 := by
  unfold own_emp; rw [if_neg (fun z => h (by rw [(own_el0 cs).mpr z]; rfl))]; rfl
theorem d6_0 : decode jdk_42_method_55_code 0 = .ok (.aload_n 0, 1) := by decide +kernel
theorem d6_1 : decode jdk_42_method_55_code 1 = .ok (.getfield 9, 3) := by decide +kernel
theorem d6_4 : decode jdk_42_method_55_code 4 = .ok (.arraylength, 1) := by decide +kernel
theorem d6_5 : decode jdk_42_method_55_code 5 = .ok (.ifCond .ne 7, 3) := by decide +kernel
theorem d6_8 : decode jdk_42_method_55_code 8 = .ok (.iconst 1, 1) := by decide +kernel
theorem d6_9 : decode jdk_42_method_55_code 9 = .ok (.goto 4, 3) := by decide +kernel
theorem d6_12 : decode jdk_42_method_55_code 12 = .ok (.iconst 0, 1) := by decide +kernel
theorem d6_13 : decode jdk_42_method_55_code 13 = .ok (.ireturn, 1) := by decide +kernel
theorem pn_6 : plainFor (⟨"java/lang/String", "isEmpty", "()Z"⟩ : MethodName) = true := plainFor_of_name (by first | (simp [plainName, overriddenIn]; done) | decide +kernel)
theorem ef_con_emp (m : MethodId) (t b : Addr) (cs : List Int32)  : entryFrame m #[(.ref t)] 1 = mkF m 0 #[.val (.ref t)] [] := by first | (simp [entryFrame, mkF, argsToLocals, Value.category]; done) | rfl
set_option maxRecDepth 65536 in
set_option maxHeartbeats 40000000 in
theorem con_emp (l : Launch) (Z : State) (a0 : Array Value) (hw : ∀ d ∈ tables_1, d.before a0 Z = true) (n0 : Nat) (h0 : Heap) (Z0 : n0 ≤ h0.size) (t b : Addr) (cs : List Int32) (FV : Fld Z h0 t "java/lang/String" "value" "[B" (.ref b)) (AB : Ary Z h0 b .byte (own_enc cs)) (hn : cs.length ≤ 3) :
    Con l Z n0 (⟨"java/lang/String", "isEmpty", "()Z"⟩ : MethodName) jdk_42_method_55_code 1 (some .boolean) ({ frames := 0, cells := 0, slots := 0, locals := 0 } : Room) #[(.ref t)] h0 (Val (PV (.int (own_emp cs)) h0)) := by
  refine Con.of_run pn_6 (fun m => ef_con_emp m t b cs ) ?_
  refine Run.aloadN d6_0 rfl rfl (pc' := 1) rfl ?_
  refine Run.getF d6_1 (host := "") (Or.inl (hw _ (List.mem_of_getElem? (i := 24) rfl))) Via.refl FV (pc' := 4) rfl ?_
  refine Run.alen (z := (Int32.ofNat (own_enc cs).length)) d6_4 AB rfl (pc' := 5) rfl ?_
  refine Run.if_ne d6_5 (by decide) (pc' := 12) (by decide) (pa := 8) rfl (fun hc5 => ?_) (fun hc5 => ?_)
  · -- pc 5 taken: ¬ (Int32.ofNat (own_enc cs).length) = (0 : Int32)
    refine Run.iconst (0 : Int32) d6_12 (by decide) (pc' := 13) rfl ?_
    exact Run.nreturn d6_13 (ty := .boolean) rfl (by simp) (by decide) (by decide) ⟨_, rfl, congrArg Value.int (own_em0 (by omega) hc5), rfl⟩
  · -- pc 5 not taken: (Int32.ofNat (own_enc cs).length) = (0 : Int32)
    refine Run.iconst (1 : Int32) d6_8 (by decide) (pc' := 9) rfl ?_
    refine Run.goto d6_9 (by decide) (pc' := 13) (by decide) ?_
    exact Run.nreturn d6_13 (ty := .boolean) rfl (by simp) (by decide) (by decide) ⟨_, rfl, congrArg Value.int (own_em1 (by omega) hc5), rfl⟩
theorem own_fldI {Z : State} {h : Heap} {a : Addr} {C n d : String} {v w : Value} (F : Fld Z h a C n d v) (G : Fld Z h a C n d w) : v = w := by
  by_cases q : v = w
  · exact q
  · exact absurd rfl (Fld.ne F G q)
theorem own_aryI {Z : State} {h : Heap} {a : Addr} {ty ty' : FieldType} {vs ws : List Value} (A : Ary Z h a ty vs) (B : Ary Z h a ty' ws) : vs = ws := by
  obtain ⟨c, A1, r⟩ := A; obtain ⟨c', B1, r'⟩ := B
  have e : c = c' := Option.some.inj (A1.1.symm.trans B1.1)
  subst e; exact r.symm.trans r'
theorem own_extD {cs ds : List Int32} (hl : cs.length = ds.length) (h : ∀ i, i < cs.length → cs.getD i 0 = ds.getD i 0) : cs = ds := by
  apply List.ext_getElem hl
  intro i h1 h2; have := h i h1; rwa [own_gD h1, own_gD h2] at this
theorem own_inj {cs ds : List Int32} (hc : own_chr cs) (hd : own_chr ds) (h1 : own_coder cs = own_coder ds) (h2 : own_enc cs = own_enc ds) : cs = ds := by
  by_cases p : own_coder cs = 0
  · have pc := own_cod0 p; have pd := own_cod0 (h1 ▸ p)
    rw [own_encP pc, own_encP pd] at h2
    have hl : cs.length = ds.length := by have := congrArg List.length h2; simpa [own_by] using this
    refine own_extD hl fun i hi => ?_
    have e := own_by_get hi; rw [h2, own_by_get (hl ▸ hi)] at e
    have e2 : nar .byte (ds.getD i 0) = nar .byte (cs.getD i 0) := by injection e with e; injection e
    rw [← own_latc (own_chrD hc hi).1 (own_pfx_all pc hi), ← e2, own_latc (own_chrD hd (hl ▸ hi)).1 (own_pfx_all pd (hl ▸ hi))]
  · have pc := own_cod1 p; have pd := own_cod1 (h1 ▸ p)
    rw [own_encN pc, own_encN pd] at h2
    have hl : cs.length = ds.length := by have := congrArg List.length h2; rw [own_u16_len, own_u16_len] at this; omega
    refine own_extD hl fun i hi => ?_
    have e := own_u16_get hi; rw [h2] at e; have e' := own_u16_get (hl ▸ hi : i < ds.length)
    have e0 : own_b0 (ds.getD i 0) = own_b0 (cs.getD i 0) := by have z := e'.1.symm.trans e.1; injection z with z; injection z
    have e1 : own_b1 (ds.getD i 0) = own_b1 (cs.getD i 0) := by have z := e'.2.symm.trans e.2; injection z with z; injection z
    rw [← own_gcb (own_chrD hc hi), ← e0, ← e1, own_gcb (own_chrD hd (hl ▸ hi))]
def own_encI (cs : List Int32) : List Int32 := if own_pfx cs = cs.length then cs.map (fun c => nar .byte c) else cs.flatMap fun c => [own_b0 c, own_b1 c]
theorem own_encM (cs : List Int32) : own_enc cs = (own_encI cs).map Value.int := by
  unfold own_enc own_encI; split
  · simp [own_by]
  · simp [own_u16, List.map_flatMap]
theorem own_encIl (cs : List Int32) : (own_encI cs).length ≤ 2 * cs.length := by
  have := own_enc_len cs; rw [own_encM, List.length_map] at this; rw [this]; split <;> omega
def own_leq (xs ys : List Int32) : Int32 := if xs = ys then 1 else 0
def own_eq (cs ds : List Int32) : Int32 := if cs = ds then 1 else 0
theorem own_gm2 {xs : List Int32} {i : Nat} (h : i < xs.length) : (xs.map Value.int)[i]? = some (Value.int (xs.getD i 0)) := by simp [List.getD_eq_getElem?_getD, h]
theorem own_leq0 {cs ds : List Int32} (h : own_leq (own_encI cs) (own_encI ds) = 0) : own_eq cs ds = 0 := by
  unfold own_eq; split
  · rename_i e; rw [e] at h; unfold own_leq at h; rw [if_pos rfl] at h; exact absurd h (by decide)
  · rfl
theorem own_leq1 {cs ds : List Int32} (hc : own_chr cs) (hd : own_chr ds) (h1 : own_coder cs = own_coder ds) (h : ¬ own_leq (own_encI cs) (own_encI ds) = 0) : own_eq cs ds = 1 := by
  unfold own_leq at h; split at h
  · rename_i e; have : own_enc cs = own_enc ds := by rw [own_encM, own_encM, e]
    unfold own_eq; rw [if_pos (own_inj hc hd h1 this)]
  · exact absurd rfl h
theorem own_ofe {a b : Nat} (ha : a < 2 ^ 31) (hb : b < 2 ^ 31) (h : Int32.ofNat a = Int32.ofNat b) : a = b := by
  have h1 := own_ofn ha; have h2 := own_ofn hb; rw [h] at h1; omega
theorem d12_0 : decode jdk_43_method_13_code 0 = .ok (.aload_n 0, 1) := by decide +kernel
theorem d12_1 : decode jdk_43_method_13_code 1 = .ok (.arraylength, 1) := by decide +kernel
theorem d12_2 : decode jdk_43_method_13_code 2 = .ok (.aload_n 1, 1) := by decide +kernel
theorem d12_3 : decode jdk_43_method_13_code 3 = .ok (.arraylength, 1) := by decide +kernel
theorem d12_4 : decode jdk_43_method_13_code 4 = .ok (.if_icmp .ne 30, 3) := by decide +kernel
theorem d12_7 : decode jdk_43_method_13_code 7 = .ok (.iconst 0, 1) := by decide +kernel
theorem d12_8 : decode jdk_43_method_13_code 8 = .ok (.istore_n 2, 1) := by decide +kernel
theorem d12_9 : decode jdk_43_method_13_code 9 = .ok (.iload_n 2, 1) := by decide +kernel
theorem d12_10 : decode jdk_43_method_13_code 10 = .ok (.aload_n 0, 1) := by decide +kernel
theorem d12_11 : decode jdk_43_method_13_code 11 = .ok (.arraylength, 1) := by decide +kernel
theorem d12_12 : decode jdk_43_method_13_code 12 = .ok (.if_icmp .ge 20, 3) := by decide +kernel
theorem d12_15 : decode jdk_43_method_13_code 15 = .ok (.aload_n 0, 1) := by decide +kernel
theorem d12_16 : decode jdk_43_method_13_code 16 = .ok (.iload_n 2, 1) := by decide +kernel
theorem d12_17 : decode jdk_43_method_13_code 17 = .ok (.baload, 1) := by decide +kernel
theorem d12_18 : decode jdk_43_method_13_code 18 = .ok (.aload_n 1, 1) := by decide +kernel
theorem d12_19 : decode jdk_43_method_13_code 19 = .ok (.iload_n 2, 1) := by decide +kernel
theorem d12_20 : decode jdk_43_method_13_code 20 = .ok (.baload, 1) := by decide +kernel
theorem d12_21 : decode jdk_43_method_13_code 21 = .ok (.if_icmp .eq 5, 3) := by decide +kernel
theorem d12_24 : decode jdk_43_method_13_code 24 = .ok (.iconst 0, 1) := by decide +kernel
theorem d12_25 : decode jdk_43_method_13_code 25 = .ok (.ireturn, 1) := by decide +kernel
theorem d12_26 : decode jdk_43_method_13_code 26 = .ok (.iinc 2 1, 3) := by decide +kernel
theorem d12_29 : decode jdk_43_method_13_code 29 = .ok (.goto (-20), 3) := by decide +kernel
theorem d12_32 : decode jdk_43_method_13_code 32 = .ok (.iconst 1, 1) := by decide +kernel
theorem d12_33 : decode jdk_43_method_13_code 33 = .ok (.ireturn, 1) := by decide +kernel
theorem d12_34 : decode jdk_43_method_13_code 34 = .ok (.iconst 0, 1) := by decide +kernel
theorem d12_35 : decode jdk_43_method_13_code 35 = .ok (.ireturn, 1) := by decide +kernel
theorem pn_12 : plainFor (⟨"java/lang/StringLatin1", "equals", "([B[B)Z"⟩ : MethodName) = true := plainFor_of_name (by first | (simp [plainName, overriddenIn]; done) | decide +kernel)
theorem ef_con_leq (m : MethodId) (b d : Addr) (xs ys : List Int32)  : entryFrame m #[(.ref b), (.ref d)] 3 = mkF m 0 #[.val (.ref b), .val (.ref d), .unset] [] := by first | (simp [entryFrame, mkF, argsToLocals, Value.category]; done) | rfl
set_option maxRecDepth 65536 in
set_option maxHeartbeats 40000000 in
theorem con_leq (l : Launch) (Z : State) (a0 : Array Value) (hw : ∀ d ∈ tables_1, d.before a0 Z = true) (n0 : Nat) (h0 : Heap) (Z0 : n0 ≤ h0.size) (b d : Addr) (xs ys : List Int32) (AX : Ary Z h0 b .byte (xs.map Value.int)) (AY : Ary Z h0 d .byte (ys.map Value.int)) (hx : xs.length < 2 ^ 30) (hy : ys.length < 2 ^ 30) :
    Con l Z n0 (⟨"java/lang/StringLatin1", "equals", "([B[B)Z"⟩ : MethodName) jdk_43_method_13_code 3 (some .boolean) ({ frames := 0, cells := 0, slots := 0, locals := 0 } : Room) #[(.ref b), (.ref d)] h0 (Val (PV (.int (own_leq xs ys)) h0)) := by
  refine Con.of_run pn_12 (fun m => ef_con_leq m b d xs ys ) ?_
  refine Run.aloadN d12_0 rfl rfl (pc' := 1) rfl ?_
  refine Run.alen (z := (Int32.ofNat xs.length)) d12_1 AX (by rw [List.length_map] <;> rfl) (pc' := 2) rfl ?_
  refine Run.aloadN d12_2 rfl rfl (pc' := 3) rfl ?_
  refine Run.alen (z := (Int32.ofNat ys.length)) d12_3 AY (by rw [List.length_map] <;> rfl) (pc' := 4) rfl ?_
  refine Run.icmp_ne d12_4 (by decide) (pc' := 34) (by decide) (pa := 7) rfl (fun hc4 => ?_) (fun hc4 => ?_)
  · -- pc 4 taken: ¬ (Int32.ofNat xs.length) = (Int32.ofNat ys.length)
    refine Run.iconst (0 : Int32) d12_34 (by decide) (pc' := 35) rfl ?_
    exact Run.nreturn d12_35 (ty := .boolean) rfl (by simp) (by decide) (by decide) ⟨_, rfl, congrArg Value.int (by unfold own_leq; rw [if_neg (fun e => hc4 (by rw [e]))]; rfl), rfl⟩
  · -- pc 4 not taken: (Int32.ofNat xs.length) = (Int32.ofNat ys.length)
    refine Run.iconst (0 : Int32) d12_7 (by decide) (pc' := 8) rfl ?_
    refine Run.istoreN (l' := #[.val (.ref b), .val (.ref d), .val (.int (0 : Int32))]) d12_8 rfl (pc' := 9) rfl ?_
    have hle : xs.length = ys.length := own_ofe (by omega) (by omega) hc4
    have loop : ∀ t_ i : Nat, t_ + i = xs.length → (∀ j, j < i → xs.getD j 0 = ys.getD j 0) → Run l Z n0 "java/lang/StringLatin1" jdk_43_method_13_code 3 (some .boolean) "equals" ({ frames := 0, cells := 0, slots := 0, locals := 0 } : Room) (Val (PV (.int (own_leq xs ys)) h0)) 9 #[.val (.ref b), .val (.ref d), .val (.int (Int32.ofNat i))] [] h0 0 0 := by
      intro t_
      induction t_ with
      | zero =>
        intro i hti hpr
        refine Run.iloadN d12_9 rfl (pc' := 10) rfl ?_
        refine Run.aloadN d12_10 rfl rfl (pc' := 11) rfl ?_
        refine Run.alen (z := (Int32.ofNat xs.length)) d12_11 AX (by rw [List.length_map] <;> rfl) (pc' := 12) rfl ?_
        refine Run.icmp_ge d12_12 (by decide) (pc' := 32) (by decide) (pa := 15) rfl (fun hc12 => ?_) (fun hc12 => ?_)
        · -- pc 12 taken: ¬ (Int32.ofNat i) < (Int32.ofNat xs.length)
          refine Run.iconst (1 : Int32) d12_32 (by decide) (pc' := 33) rfl ?_
          exact Run.nreturn d12_33 (ty := .boolean) rfl (by simp) (by decide) (by decide) ⟨_, rfl, congrArg Value.int (by unfold own_leq; rw [if_pos (own_extD hle (fun j hj => hpr j (by omega)))]; rfl), rfl⟩
        · -- pc 12 not taken: (Int32.ofNat i) < (Int32.ofNat xs.length)
          exact absurd ((own_lt (by omega) (by omega)).mp hc12) (by omega)
      | succ t_ ih =>
        intro i hti hpr
        refine Run.iloadN d12_9 rfl (pc' := 10) rfl ?_
        refine Run.aloadN d12_10 rfl rfl (pc' := 11) rfl ?_
        refine Run.alen (z := (Int32.ofNat xs.length)) d12_11 AX (by rw [List.length_map] <;> rfl) (pc' := 12) rfl ?_
        refine Run.icmp_ge d12_12 (by decide) (pc' := 32) (by decide) (pa := 15) rfl (fun hc12 => ?_) (fun hc12 => ?_)
        · -- pc 12 taken: ¬ (Int32.ofNat i) < (Int32.ofNat xs.length)
          exact absurd ((own_lt (by omega) (by omega)).mpr (by omega)) hc12
        · -- pc 12 not taken: (Int32.ofNat i) < (Int32.ofNat xs.length)
          refine Run.aloadN d12_15 rfl rfl (pc' := 16) rfl ?_
          refine Run.iloadN d12_16 rfl (pc' := 17) rfl ?_
          refine Run.baload (i := i) (v := (.int (xs.getD i 0))) d12_17 AX (own_ofn (by omega)) (own_gm2 (by omega)) (pc' := 18) rfl ?_
          refine Run.aloadN d12_18 rfl rfl (pc' := 19) rfl ?_
          refine Run.iloadN d12_19 rfl (pc' := 20) rfl ?_
          refine Run.baload (i := i) (v := (.int (ys.getD i 0))) d12_20 AY (own_ofn (by omega)) (own_gm2 (by omega)) (pc' := 21) rfl ?_
          refine Run.icmp_eq d12_21 (by decide) (pc' := 26) (by decide) (pa := 24) rfl (fun hc21 => ?_) (fun hc21 => ?_)
          · -- pc 21 taken: (xs.getD i 0) = (ys.getD i 0)
            refine Run.iinc (1 : Int32) #[.val (.ref b), .val (.ref d), .val (.int ((Int32.ofNat i) + (1 : Int32)))] d12_26 (by decide) rfl rfl (pc' := 29) rfl ?_
            refine Run.goto d12_29 (by decide) (pc' := 9) (by decide) ?_
            rw [own_inc]
            exact ih (i + 1) (by omega) (fun j hj => by by_cases z : j = i; rw [z]; exact hc21; exact hpr j (by omega))
          · -- pc 21 not taken: ¬ (xs.getD i 0) = (ys.getD i 0)
            refine Run.iconst (0 : Int32) d12_24 (by decide) (pc' := 25) rfl ?_
            exact Run.nreturn d12_25 (ty := .boolean) rfl (by simp) (by decide) (by decide) ⟨_, rfl, congrArg Value.int (by unfold own_leq; rw [if_neg (fun e => hc21 (by rw [e]))]; rfl), rfl⟩
    exact loop xs.length 0 (by omega) (fun j hj => absurd hj (Nat.not_lt_zero j))
theorem own_neq {cs ds : List Int32} (h : ¬ own_coder cs = own_coder ds) : own_eq cs ds = 0 := by unfold own_eq; rw [if_neg (fun e => h (by rw [e]))]
theorem own_same {Z : State} {h : Heap} {t u b d : Addr} {cs ds : List Int32} (hc : own_chr cs) (hd : own_chr ds) (e : (Value.ref t) = (Value.ref u)) (F1 : Fld Z h t "java/lang/String" "value" "[B" (.ref b)) (F2 : Fld Z h u "java/lang/String" "value" "[B" (.ref d)) (G1 : Fld Z h t "java/lang/String" "coder" "B" (.int (own_coder cs))) (G2 : Fld Z h u "java/lang/String" "coder" "B" (.int (own_coder ds))) (A1 : Ary Z h b .byte (own_enc cs)) (A2 : Ary Z h d .byte (own_enc ds)) : own_eq cs ds = 1 := by
  obtain rfl : t = u := by injection e
  have e1 := own_fldI F1 F2; have e2 := own_fldI G1 G2
  obtain rfl : b = d := by injection e1
  have e3 : own_coder cs = own_coder ds := by injection e2
  unfold own_eq; rw [if_pos (own_inj hc hd e3 (own_aryI A1 A2))]
theorem d11_0 : decode jdk_42_method_66_code 0 = .ok (.aload_n 0, 1) := by decide +kernel
theorem d11_1 : decode jdk_42_method_66_code 1 = .ok (.aload_n 1, 1) := by decide +kernel
theorem d11_2 : decode jdk_42_method_66_code 2 = .ok (.if_acmp .ne 5, 3) := by decide +kernel
theorem d11_5 : decode jdk_42_method_66_code 5 = .ok (.iconst 1, 1) := by decide +kernel
theorem d11_6 : decode jdk_42_method_66_code 6 = .ok (.ireturn, 1) := by decide +kernel
theorem d11_7 : decode jdk_42_method_66_code 7 = .ok (.aload_n 1, 1) := by decide +kernel
theorem d11_8 : decode jdk_42_method_66_code 8 = .ok (.instanceof 10, 3) := by decide +kernel
theorem d11_11 : decode jdk_42_method_66_code 11 = .ok (.ifCond .eq 43, 3) := by decide +kernel
theorem d11_14 : decode jdk_42_method_66_code 14 = .ok (.aload_n 1, 1) := by decide +kernel
theorem d11_15 : decode jdk_42_method_66_code 15 = .ok (.checkcast 10, 3) := by decide +kernel
theorem d11_18 : decode jdk_42_method_66_code 18 = .ok (.astore_n 2, 1) := by decide +kernel
theorem d11_19 : decode jdk_42_method_66_code 19 = .ok (.getstatic 38, 3) := by decide +kernel
theorem d11_22 : decode jdk_42_method_66_code 22 = .ok (.ifCond .eq 14, 3) := by decide +kernel
theorem d11_25 : decode jdk_42_method_66_code 25 = .ok (.aload_n 0, 1) := by decide +kernel
theorem d11_26 : decode jdk_42_method_66_code 26 = .ok (.getfield 15, 3) := by decide +kernel
theorem d11_29 : decode jdk_42_method_66_code 29 = .ok (.aload_n 2, 1) := by decide +kernel
theorem d11_30 : decode jdk_42_method_66_code 30 = .ok (.getfield 15, 3) := by decide +kernel
theorem d11_33 : decode jdk_42_method_66_code 33 = .ok (.if_icmp .ne 21, 3) := by decide +kernel
theorem d11_36 : decode jdk_42_method_66_code 36 = .ok (.aload_n 0, 1) := by decide +kernel
theorem d11_37 : decode jdk_42_method_66_code 37 = .ok (.getfield 9, 3) := by decide +kernel
theorem d11_40 : decode jdk_42_method_66_code 40 = .ok (.aload_n 2, 1) := by decide +kernel
theorem d11_41 : decode jdk_42_method_66_code 41 = .ok (.getfield 9, 3) := by decide +kernel
theorem d11_44 : decode jdk_42_method_66_code 44 = .ok (.invokestatic 541, 3) := by decide +kernel
theorem d11_47 : decode jdk_42_method_66_code 47 = .ok (.ifCond .eq 7, 3) := by decide +kernel
theorem d11_50 : decode jdk_42_method_66_code 50 = .ok (.iconst 1, 1) := by decide +kernel
theorem d11_51 : decode jdk_42_method_66_code 51 = .ok (.goto 4, 3) := by decide +kernel
theorem d11_54 : decode jdk_42_method_66_code 54 = .ok (.iconst 0, 1) := by decide +kernel
theorem d11_55 : decode jdk_42_method_66_code 55 = .ok (.ireturn, 1) := by decide +kernel
theorem pn_11 : plainFor (⟨"java/lang/String", "equals", "(Ljava/lang/Object;)Z"⟩ : MethodName) = true := plainFor_of_name (by first | (simp [plainName, overriddenIn]; done) | decide +kernel)
theorem pd___B_B_Z : parseMethodDescriptor "([B[B)Z" = some ⟨[(.array .byte), (.array .byte)], some .boolean⟩ := by decide +kernel
theorem ef_con_seq (m : MethodId) (t b u d : Addr) (cs ds : List Int32) (cz : Int32)  : entryFrame m #[(.ref t), (.ref u)] 3 = mkF m 0 #[.val (.ref t), .val (.ref u), .unset] [] := by first | (simp [entryFrame, mkF, argsToLocals, Value.category]; done) | rfl
set_option maxRecDepth 65536 in
set_option maxHeartbeats 40000000 in
theorem con_seq (l : Launch) (Z : State) (a0 : Array Value) (hw : ∀ d ∈ tables_1, d.before a0 Z = true) (n0 : Nat) (h0 : Heap) (Z0 : n0 ≤ h0.size) (t b u d : Addr) (cs ds : List Int32) (cz : Int32) (od0 : Old Z n0 h0) (SZ : Sta Z Z.heap "java/lang/String" "COMPACT_STRINGS" "Z" (.int cz)) (hcz : ¬ cz = 0) (E1 : Exa Z h0 t "java/lang/String") (FV : Fld Z h0 t "java/lang/String" "value" "[B" (.ref b)) (FC : Fld Z h0 t "java/lang/String" "coder" "B" (.int (own_coder cs))) (AB : Ary Z h0 b .byte (own_enc cs)) (E2 : Exa Z h0 u "java/lang/String") (FV2 : Fld Z h0 u "java/lang/String" "value" "[B" (.ref d)) (FC2 : Fld Z h0 u "java/lang/String" "coder" "B" (.int (own_coder ds))) (AB2 : Ary Z h0 d .byte (own_enc ds)) (hn : cs.length ≤ 3) (hch : own_chr cs) (hn2 : ds.length ≤ 3) (hch2 : own_chr ds) :
    Con l Z n0 (⟨"java/lang/String", "equals", "(Ljava/lang/Object;)Z"⟩ : MethodName) jdk_42_method_66_code 3 (some .boolean) ({ frames := 1, cells := 0, slots := 0, locals := 14 } : Room) #[(.ref t), (.ref u)] h0 (Val (PV (.int (own_eq cs ds)) h0)) := by
  refine Con.of_run pn_11 (fun m => ef_con_seq m t b u d cs ds cz ) ?_
  refine Run.aloadN d11_0 rfl rfl (pc' := 1) rfl ?_
  refine Run.aloadN d11_1 rfl rfl (pc' := 2) rfl ?_
  refine Run.acmp_ne d11_2 rfl rfl (by decide) (pc' := 7) (by decide) (pa := 5) rfl (fun hc2 => ?_) (fun hc2 => ?_)
  · -- pc 2 taken: ¬ (.ref t) = (.ref u)
    refine Run.aloadN d11_7 rfl rfl (pc' := 8) rfl ?_
    refine Run.instY d11_8 (hw _ (List.mem_of_getElem? (i := 55) rfl)) (Ins.self E2) (pc' := 11) rfl ?_
    refine Run.if_eq d11_11 (by decide) (pc' := 54) (by decide) (pa := 14) rfl (fun hc11 => ?_) (fun hc11 => ?_)
    · -- pc 11 taken: (1 : Int32) = (0 : Int32)
      exact absurd hc11 (by decide)
    · -- pc 11 not taken: ¬ (1 : Int32) = (0 : Int32)
      refine Run.aloadN d11_14 rfl rfl (pc' := 15) rfl ?_
      refine Run.castY d11_15 (hw _ (List.mem_of_getElem? (i := 55) rfl)) (Ins.self E2) (pc' := 18) rfl ?_
      refine Run.astoreN (l' := #[.val (.ref t), .val (.ref u), .val (.ref u)]) d11_18 rfl rfl (pc' := 19) rfl ?_
      refine Run.getS d11_19 (host := "") (Or.inl (hw _ (List.mem_of_getElem? (i := 35) rfl))) Via.refl (SZ.ext od0.2) (pc' := 22) rfl ?_
      refine Run.if_eq d11_22 (by decide) (pc' := 36) (by decide) (pa := 25) rfl (fun hc22 => ?_) (fun hc22 => ?_)
      · -- pc 22 taken: cz = (0 : Int32)
        exact absurd hc22 hcz
      · -- pc 22 not taken: ¬ cz = (0 : Int32)
        refine Run.aloadN d11_25 rfl rfl (pc' := 26) rfl ?_
        refine Run.getF d11_26 (host := "") (Or.inl (hw _ (List.mem_of_getElem? (i := 25) rfl))) Via.refl FC (pc' := 29) rfl ?_
        refine Run.aloadN d11_29 rfl rfl (pc' := 30) rfl ?_
        refine Run.getF d11_30 (host := "") (Or.inl (hw _ (List.mem_of_getElem? (i := 25) rfl))) Via.refl FC2 (pc' := 33) rfl ?_
        refine Run.icmp_ne d11_33 (by decide) (pc' := 54) (by decide) (pa := 36) rfl (fun hc33 => ?_) (fun hc33 => ?_)
        · -- pc 33 taken: ¬ (own_coder cs) = (own_coder ds)
          refine Run.iconst (0 : Int32) d11_54 (by decide) (pc' := 55) rfl ?_
          exact Run.nreturn d11_55 (ty := .boolean) rfl (by simp) (by decide) (by decide) ⟨_, rfl, congrArg Value.int (by rw [own_neq hc33]; rfl), rfl⟩
        · -- pc 33 not taken: (own_coder cs) = (own_coder ds)
          refine Run.aloadN d11_36 rfl rfl (pc' := 37) rfl ?_
          refine Run.getF d11_37 (host := "") (Or.inl (hw _ (List.mem_of_getElem? (i := 24) rfl))) Via.refl FV (pc' := 40) rfl ?_
          refine Run.aloadN d11_40 rfl rfl (pc' := 41) rfl ?_
          refine Run.getF d11_41 (host := "") (Or.inl (hw _ (List.mem_of_getElem? (i := 24) rfl))) Via.refl FV2 (pc' := 44) rfl ?_
          refine Run.callS (k' := 0) (n' := 0) (as := [(.ref b), (.ref d)]) (rest := []) (con_leq l Z a0 hw n0 h0 Z0  b d (own_encI cs) (own_encI ds) (own_encM cs ▸ AB) (own_encM ds ▸ AB2) (by have := own_encIl cs; omega) (by have := own_encIl ds; omega)) d11_44 (hw _ (List.mem_of_getElem? (i := 56) rfl)) (hw _ (List.mem_of_getElem? (i := 57) rfl)) (hw _ (List.mem_of_getElem? (i := 58) rfl)) (hw _ (List.mem_of_getElem? (i := 59) rfl)) (by decide) pd___B_B_Z rfl rfl rfl (by decide) (by show (0 : Nat) + (3 + 11) + 0 ≤ _; decide) (by decide) (by decide) (by decide) (by decide) (pc' := 47) rfl ?_
          rintro _ _ ⟨_, rfl, rfl, rfl⟩
          show Run l Z n0 "java/lang/String" jdk_42_method_66_code 3 (some .boolean) "equals" ({ frames := 1, cells := 0, slots := 0, locals := 14 } : Room) _ 47 #[.val (.ref t), .val (.ref u), .val (.ref u)] [(.int (own_leq (own_encI cs) (own_encI ds)))] h0 0 0
          refine Run.if_eq d11_47 (by decide) (pc' := 54) (by decide) (pa := 50) rfl (fun hc47 => ?_) (fun hc47 => ?_)
          · -- pc 47 taken: (own_leq (own_encI cs) (own_encI ds)) = (0 : Int32)
            refine Run.iconst (0 : Int32) d11_54 (by decide) (pc' := 55) rfl ?_
            exact Run.nreturn d11_55 (ty := .boolean) rfl (by simp) (by decide) (by decide) ⟨_, rfl, congrArg Value.int (by rw [own_leq0 hc47]; rfl), rfl⟩
          · -- pc 47 not taken: ¬ (own_leq (own_encI cs) (own_encI ds)) = (0 : Int32)
            refine Run.iconst (1 : Int32) d11_50 (by decide) (pc' := 51) rfl ?_
            refine Run.goto d11_51 (by decide) (pc' := 55) (by decide) ?_
            exact Run.nreturn d11_55 (ty := .boolean) rfl (by simp) (by decide) (by decide) ⟨_, rfl, congrArg Value.int (by rw [own_leq1 hch hch2 hc33 hc47]; rfl), rfl⟩
  · -- pc 2 not taken: (.ref t) = (.ref u)
    refine Run.iconst (1 : Int32) d11_5 (by decide) (pc' := 6) rfl ?_
    exact Run.nreturn d11_6 (ty := .boolean) rfl (by simp) (by decide) (by decide) ⟨_, rfl, congrArg Value.int (by rw [own_same hch hch2 hc2 FV FV2 FC FC2 AB AB2]; rfl), rfl⟩
def own_canI (p1 : Int32) : Int32 := (if p1 < (0 : Int32) then (0 : Int32) else (if (255 : Int32) < p1 then (0 : Int32) else (1 : Int32)))
theorem d19_0 : decode jdk_43_method_4_code 0 = .ok (.iload_n 0, 1) := by decide +kernel
theorem d19_1 : decode jdk_43_method_4_code 1 = .ok (.ifCond .lt 14, 3) := by decide +kernel
theorem d19_4 : decode jdk_43_method_4_code 4 = .ok (.iload_n 0, 1) := by decide +kernel
theorem d19_5 : decode jdk_43_method_4_code 5 = .ok (.sipush 255, 3) := by decide +kernel
theorem d19_8 : decode jdk_43_method_4_code 8 = .ok (.if_icmp .gt 7, 3) := by decide +kernel
theorem d19_11 : decode jdk_43_method_4_code 11 = .ok (.iconst 1, 1) := by decide +kernel
theorem d19_12 : decode jdk_43_method_4_code 12 = .ok (.goto 4, 3) := by decide +kernel
theorem d19_15 : decode jdk_43_method_4_code 15 = .ok (.iconst 0, 1) := by decide +kernel
theorem d19_16 : decode jdk_43_method_4_code 16 = .ok (.ireturn, 1) := by decide +kernel
theorem pn_19 : plainFor (⟨"java/lang/StringLatin1", "canEncode", "(I)Z"⟩ : MethodName) = true := plainFor_of_name (by first | (simp [plainName, overriddenIn]; done) | decide +kernel)
theorem ef_con_own_canI (m : MethodId) (p1 : Int32)  : entryFrame m #[(.int p1)] 1 = mkF m 0 #[.val (.int p1)] [] := by first | (simp [entryFrame, mkF, argsToLocals, Value.category]; done) | rfl
set_option maxRecDepth 65536 in
set_option maxHeartbeats 40000000 in
theorem con_own_canI (l : Launch) (Z : State) (a0 : Array Value) (hw : ∀ d ∈ tables_1, d.before a0 Z = true) (n0 : Nat) (h0 : Heap) (Z0 : n0 ≤ h0.size) (p1 : Int32)  :
    Con l Z n0 (⟨"java/lang/StringLatin1", "canEncode", "(I)Z"⟩ : MethodName) jdk_43_method_4_code 1 (some .boolean) ({ frames := 0, cells := 0, slots := 0, locals := 0 } : Room) #[(.int p1)] h0 (Val (PV (.int (own_canI p1)) h0)) := by
  refine Con.of_run pn_19 (fun m => ef_con_own_canI m p1 ) ?_
  refine Run.iloadN d19_0 rfl (pc' := 1) rfl ?_
  refine Run.if_lt d19_1 (by decide) (pc' := 15) (by decide) (pa := 4) rfl (fun hc1 => ?_) (fun hc1 => ?_)
  · -- pc 1 taken: p1 < (0 : Int32)
    refine Run.iconst (0 : Int32) d19_15 (by decide) (pc' := 16) rfl ?_
    exact Run.nreturn d19_16 (ty := .boolean) rfl (by simp) (by decide) (by decide) ⟨_, rfl, congrArg Value.int (by unfold own_canI; rw [if_pos hc1] <;> rfl), rfl⟩
  · -- pc 1 not taken: ¬ p1 < (0 : Int32)
    refine Run.iloadN d19_4 rfl (pc' := 5) rfl ?_
    refine Run.sipush (255 : Int32) d19_5 (by decide) (pc' := 8) rfl ?_
    refine Run.icmp_gt d19_8 (by decide) (pc' := 15) (by decide) (pa := 11) rfl (fun hc8 => ?_) (fun hc8 => ?_)
    · -- pc 8 taken: (255 : Int32) < p1
      refine Run.iconst (0 : Int32) d19_15 (by decide) (pc' := 16) rfl ?_
      exact Run.nreturn d19_16 (ty := .boolean) rfl (by simp) (by decide) (by decide) ⟨_, rfl, congrArg Value.int (by unfold own_canI; rw [if_neg hc1, if_pos hc8] <;> rfl), rfl⟩
    · -- pc 8 not taken: ¬ (255 : Int32) < p1
      refine Run.iconst (1 : Int32) d19_11 (by decide) (pc' := 12) rfl ?_
      refine Run.goto d19_12 (by decide) (pc' := 16) (by decide) ?_
      exact Run.nreturn d19_16 (ty := .boolean) rfl (by simp) (by decide) (by decide) ⟨_, rfl, congrArg Value.int (by unfold own_canI; rw [if_neg hc1, if_neg hc8] <;> rfl), rfl⟩
def own_max (p1 : Int32) (p2 : Int32) : Int32 := (if p1 < p2 then p2 else p1)
theorem d20_0 : decode jdk_29_method_65_code 0 = .ok (.iload_n 0, 1) := by decide +kernel
theorem d20_1 : decode jdk_29_method_65_code 1 = .ok (.iload_n 1, 1) := by decide +kernel
theorem d20_2 : decode jdk_29_method_65_code 2 = .ok (.if_icmp .lt 7, 3) := by decide +kernel
theorem d20_5 : decode jdk_29_method_65_code 5 = .ok (.iload_n 0, 1) := by decide +kernel
theorem d20_6 : decode jdk_29_method_65_code 6 = .ok (.goto 4, 3) := by decide +kernel
theorem d20_9 : decode jdk_29_method_65_code 9 = .ok (.iload_n 1, 1) := by decide +kernel
theorem d20_10 : decode jdk_29_method_65_code 10 = .ok (.ireturn, 1) := by decide +kernel
theorem pn_20 : plainFor (⟨"java/lang/Math", "max", "(II)I"⟩ : MethodName) = true := by decide +kernel
theorem ef_con_own_max (m : MethodId) (p1 : Int32) (p2 : Int32)  : entryFrame m #[(.int p1), (.int p2)] 2 = mkF m 0 #[.val (.int p1), .val (.int p2)] [] := by first | (simp [entryFrame, mkF, argsToLocals, Value.category]; done) | rfl
set_option maxRecDepth 65536 in
set_option maxHeartbeats 40000000 in
theorem con_own_max (l : Launch) (Z : State) (a0 : Array Value) (hw : ∀ d ∈ tables_1, d.before a0 Z = true) (n0 : Nat) (h0 : Heap) (Z0 : n0 ≤ h0.size) (p1 : Int32) (p2 : Int32)  :
    Con l Z n0 (⟨"java/lang/Math", "max", "(II)I"⟩ : MethodName) jdk_29_method_65_code 2 (some .int) ({ frames := 0, cells := 0, slots := 0, locals := 0 } : Room) #[(.int p1), (.int p2)] h0 (Val (PV (.int (own_max p1 p2)) h0)) := by
  refine Con.of_run pn_20 (fun m => ef_con_own_max m p1 p2 ) ?_
  refine Run.iloadN d20_0 rfl (pc' := 1) rfl ?_
  refine Run.iloadN d20_1 rfl (pc' := 2) rfl ?_
  refine Run.icmp_lt d20_2 (by decide) (pc' := 9) (by decide) (pa := 5) rfl (fun hc2 => ?_) (fun hc2 => ?_)
  · -- pc 2 taken: p1 < p2
    refine Run.iloadN d20_9 rfl (pc' := 10) rfl ?_
    exact Run.ireturn d20_10 rfl (by decide) (by decide) ⟨_, rfl, congrArg Value.int (by unfold own_max; rw [if_pos hc2] <;> rfl), rfl⟩
  · -- pc 2 not taken: ¬ p1 < p2
    refine Run.iloadN d20_5 rfl (pc' := 6) rfl ?_
    refine Run.goto d20_6 (by decide) (pc' := 10) (by decide) ?_
    exact Run.ireturn d20_10 rfl (by decide) (by decide) ⟨_, rfl, congrArg Value.int (by unfold own_max; rw [if_neg hc2] <;> rfl), rfl⟩
def own_min (p1 : Int32) (p2 : Int32) : Int32 := (if p2 < p1 then p2 else p1)
theorem d21_0 : decode jdk_29_method_69_code 0 = .ok (.iload_n 0, 1) := by decide +kernel
theorem d21_1 : decode jdk_29_method_69_code 1 = .ok (.iload_n 1, 1) := by decide +kernel
theorem d21_2 : decode jdk_29_method_69_code 2 = .ok (.if_icmp .gt 7, 3) := by decide +kernel
theorem d21_5 : decode jdk_29_method_69_code 5 = .ok (.iload_n 0, 1) := by decide +kernel
theorem d21_6 : decode jdk_29_method_69_code 6 = .ok (.goto 4, 3) := by decide +kernel
theorem d21_9 : decode jdk_29_method_69_code 9 = .ok (.iload_n 1, 1) := by decide +kernel
theorem d21_10 : decode jdk_29_method_69_code 10 = .ok (.ireturn, 1) := by decide +kernel
theorem pn_21 : plainFor (⟨"java/lang/Math", "min", "(II)I"⟩ : MethodName) = true := by decide +kernel
theorem ef_con_own_min (m : MethodId) (p1 : Int32) (p2 : Int32)  : entryFrame m #[(.int p1), (.int p2)] 2 = mkF m 0 #[.val (.int p1), .val (.int p2)] [] := by first | (simp [entryFrame, mkF, argsToLocals, Value.category]; done) | rfl
set_option maxRecDepth 65536 in
set_option maxHeartbeats 40000000 in
theorem con_own_min (l : Launch) (Z : State) (a0 : Array Value) (hw : ∀ d ∈ tables_1, d.before a0 Z = true) (n0 : Nat) (h0 : Heap) (Z0 : n0 ≤ h0.size) (p1 : Int32) (p2 : Int32)  :
    Con l Z n0 (⟨"java/lang/Math", "min", "(II)I"⟩ : MethodName) jdk_29_method_69_code 2 (some .int) ({ frames := 0, cells := 0, slots := 0, locals := 0 } : Room) #[(.int p1), (.int p2)] h0 (Val (PV (.int (own_min p1 p2)) h0)) := by
  refine Con.of_run pn_21 (fun m => ef_con_own_min m p1 p2 ) ?_
  refine Run.iloadN d21_0 rfl (pc' := 1) rfl ?_
  refine Run.iloadN d21_1 rfl (pc' := 2) rfl ?_
  refine Run.icmp_gt d21_2 (by decide) (pc' := 9) (by decide) (pa := 5) rfl (fun hc2 => ?_) (fun hc2 => ?_)
  · -- pc 2 taken: p2 < p1
    refine Run.iloadN d21_9 rfl (pc' := 10) rfl ?_
    exact Run.ireturn d21_10 rfl (by decide) (by decide) ⟨_, rfl, congrArg Value.int (by unfold own_min; rw [if_pos hc2] <;> rfl), rfl⟩
  · -- pc 2 not taken: ¬ p2 < p1
    refine Run.iloadN d21_5 rfl (pc' := 6) rfl ?_
    refine Run.goto d21_6 (by decide) (pc' := 10) (by decide) ?_
    exact Run.ireturn d21_10 rfl (by decide) (by decide) ⟨_, rfl, congrArg Value.int (by unfold own_min; rw [if_neg hc2] <;> rfl), rfl⟩
def own_ixF (cs : List Int32) (ch : Int32) : Nat → Nat → Int32
  | 0, _ => -1
  | t + 1, i => if cs.getD i 0 = ch then Int32.ofNat i else own_ixF cs ch t (i + 1)
def own_ix (cs : List Int32) (ch : Int32) : Int32 := own_ixF cs ch cs.length 0
theorem own_ixn {cs : List Int32} {ch : Int32} (h : ¬ (0 : Int32) < Int32.ofNat cs.length) (hb : cs.length < 2 ^ 31) : own_ix cs ch = -1 := by
  have e : cs.length = 0 := Nat.eq_zero_of_not_pos fun z => h ((own_lt (i := 0) (by decide) hb).mpr z)
  unfold own_ix; rw [e]; rfl
theorem own_mm (n : Nat) (h : n < 2 ^ 31) : own_min (Int32.ofNat n) (Int32.ofNat n) = Int32.ofNat n := by unfold own_min; split <;> rfl
theorem own_nbe {x y : Int32} (hx : 0 ≤ x.toInt) (hx2 : ¬ (255 : Int32) < x) (hy : 0 ≤ y.toInt) (hy2 : ¬ (255 : Int32) < y) : nar .byte x = nar .byte y ↔ x = y :=
  ⟨fun h => by rw [← own_latc hx hx2, h, own_latc hy hy2], fun h => by rw [h]⟩
theorem own_canIch {ch : Int32} (gc : 0 ≤ ch.toInt) (gc2 : ¬ (255 : Int32) < ch) : ¬ own_canI ch = 0 := by
  have h1 : ¬ ch < 0 := by rw [Int32.lt_iff_toInt_lt, own_z]; omega
  simp [own_canI, h1, gc2]
theorem d22_0 : decode jdk_43_method_23_code 0 = .ok (.iload_n 1, 1) := by decide +kernel
theorem d22_1 : decode jdk_43_method_23_code 1 = .ok (.i2b, 1) := by decide +kernel
theorem d22_2 : decode jdk_43_method_23_code 2 = .ok (.istore 4, 2) := by decide +kernel
theorem d22_4 : decode jdk_43_method_23_code 4 = .ok (.iload_n 2, 1) := by decide +kernel
theorem d22_5 : decode jdk_43_method_23_code 5 = .ok (.istore 5, 2) := by decide +kernel
theorem d22_7 : decode jdk_43_method_23_code 7 = .ok (.iload 5, 2) := by decide +kernel
theorem d22_9 : decode jdk_43_method_23_code 9 = .ok (.iload_n 3, 1) := by decide +kernel
theorem d22_10 : decode jdk_43_method_23_code 10 = .ok (.if_icmp .ge 21, 3) := by decide +kernel
theorem d22_13 : decode jdk_43_method_23_code 13 = .ok (.aload_n 0, 1) := by decide +kernel
theorem d22_14 : decode jdk_43_method_23_code 14 = .ok (.iload 5, 2) := by decide +kernel
theorem d22_16 : decode jdk_43_method_23_code 16 = .ok (.baload, 1) := by decide +kernel
theorem d22_17 : decode jdk_43_method_23_code 17 = .ok (.iload 4, 2) := by decide +kernel
theorem d22_19 : decode jdk_43_method_23_code 19 = .ok (.if_icmp .ne 6, 3) := by decide +kernel
theorem d22_22 : decode jdk_43_method_23_code 22 = .ok (.iload 5, 2) := by decide +kernel
theorem d22_24 : decode jdk_43_method_23_code 24 = .ok (.ireturn, 1) := by decide +kernel
theorem d22_25 : decode jdk_43_method_23_code 25 = .ok (.iinc 5 1, 3) := by decide +kernel
theorem d22_28 : decode jdk_43_method_23_code 28 = .ok (.goto (-21), 3) := by decide +kernel
theorem d22_31 : decode jdk_43_method_23_code 31 = .ok (.iconst (-1), 1) := by decide +kernel
theorem d22_32 : decode jdk_43_method_23_code 32 = .ok (.ireturn, 1) := by decide +kernel
theorem pn_22 : plainFor (⟨"java/lang/StringLatin1", "indexOfChar", "([BIII)I"⟩ : MethodName) = true := plainFor_of_name (by first | (simp [plainName, overriddenIn]; done) | decide +kernel)
theorem ef_con_lic (m : MethodId) (b : Addr) (cs : List Int32) (ch : Int32)  : entryFrame m #[(.ref b), (.int ch), (.int (0 : Int32)), (.int (Int32.ofNat cs.length))] 6 = mkF m 0 #[.val (.ref b), .val (.int ch), .val (.int (0 : Int32)), .val (.int (Int32.ofNat cs.length)), .unset, .unset] [] := by first | (simp [entryFrame, mkF, argsToLocals, Value.category]; done) | rfl
set_option maxRecDepth 65536 in
set_option maxHeartbeats 40000000 in
theorem con_lic (l : Launch) (Z : State) (a0 : Array Value) (hw : ∀ d ∈ tables_1, d.before a0 Z = true) (n0 : Nat) (h0 : Heap) (Z0 : n0 ≤ h0.size) (b : Addr) (cs : List Int32) (ch : Int32) (hp : own_pfx cs = cs.length) (AB : Ary Z h0 b .byte (own_by cs)) (hn : cs.length ≤ 3) (hch : own_chr cs) (gc : 0 ≤ ch.toInt) (gc2 : ¬ (255 : Int32) < ch) :
    Con l Z n0 (⟨"java/lang/StringLatin1", "indexOfChar", "([BIII)I"⟩ : MethodName) jdk_43_method_23_code 6 (some .int) ({ frames := 0, cells := 0, slots := 0, locals := 0 } : Room) #[(.ref b), (.int ch), (.int (0 : Int32)), (.int (Int32.ofNat cs.length))] h0 (Val (PV (.int (own_ix cs ch)) h0)) := by
  refine Con.of_run pn_22 (fun m => ef_con_lic m b cs ch ) ?_
  refine Run.iloadN d22_0 rfl (pc' := 1) rfl ?_
  refine Run.i2b d22_1 (pc' := 2) rfl ?_
  refine Run.istore (l' := #[.val (.ref b), .val (.int ch), .val (.int (0 : Int32)), .val (.int (Int32.ofNat cs.length)), .val (.int (nar .byte ch)), .unset]) d22_2 rfl (pc' := 4) rfl ?_
  refine Run.iloadN d22_4 rfl (pc' := 5) rfl ?_
  refine Run.istore (l' := #[.val (.ref b), .val (.int ch), .val (.int (0 : Int32)), .val (.int (Int32.ofNat cs.length)), .val (.int (nar .byte ch)), .val (.int (0 : Int32))]) d22_5 rfl (pc' := 7) rfl ?_
  have loop : ∀ t_ i : Nat, t_ + i = cs.length → own_ixF cs ch t_ i = own_ix cs ch → Run l Z n0 "java/lang/StringLatin1" jdk_43_method_23_code 6 (some .int) "indexOfChar" ({ frames := 0, cells := 0, slots := 0, locals := 0 } : Room) (Val (PV (.int (own_ix cs ch)) h0)) 7 #[.val (.ref b), .val (.int ch), .val (.int (0 : Int32)), .val (.int (Int32.ofNat cs.length)), .val (.int (nar .byte ch)), .val (.int (Int32.ofNat i))] [] h0 0 0 := by
    intro t_
    induction t_ with
    | zero =>
      intro i hti hr
      refine Run.iload d22_7 rfl (pc' := 9) rfl ?_
      refine Run.iloadN d22_9 rfl (pc' := 10) rfl ?_
      refine Run.icmp_ge d22_10 (by decide) (pc' := 31) (by decide) (pa := 13) rfl (fun hc10 => ?_) (fun hc10 => ?_)
      · -- pc 10 taken: ¬ (Int32.ofNat i) < (Int32.ofNat cs.length)
        refine Run.iconst (-1 : Int32) d22_31 (by decide) (pc' := 32) rfl ?_
        exact Run.ireturn d22_32 rfl (by decide) (by decide) ⟨_, rfl, congrArg Value.int (by rw [← hr]; rfl), rfl⟩
      · -- pc 10 not taken: (Int32.ofNat i) < (Int32.ofNat cs.length)
        exact absurd ((own_lt (by omega) (by omega)).mp hc10) (by omega)
    | succ t_ ih =>
      intro i hti hr
      have hil : i < cs.length := by omega
      refine Run.iload d22_7 rfl (pc' := 9) rfl ?_
      refine Run.iloadN d22_9 rfl (pc' := 10) rfl ?_
      refine Run.icmp_ge d22_10 (by decide) (pc' := 31) (by decide) (pa := 13) rfl (fun hc10 => ?_) (fun hc10 => ?_)
      · -- pc 10 taken: ¬ (Int32.ofNat i) < (Int32.ofNat cs.length)
        exact absurd ((own_lt (by omega) (by omega)).mpr (by omega)) hc10
      · -- pc 10 not taken: (Int32.ofNat i) < (Int32.ofNat cs.length)
        refine Run.aloadN d22_13 rfl rfl (pc' := 14) rfl ?_
        refine Run.iload d22_14 rfl (pc' := 16) rfl ?_
        refine Run.baload (i := i) (v := (.int (nar .byte (cs.getD i 0)))) d22_16 AB (own_ofn (by omega)) (own_by_get hil) (pc' := 17) rfl ?_
        refine Run.iload d22_17 rfl (pc' := 19) rfl ?_
        refine Run.icmp_ne d22_19 (by decide) (pc' := 25) (by decide) (pa := 22) rfl (fun hc19 => ?_) (fun hc19 => ?_)
        · -- pc 19 taken: ¬ (nar .byte (cs.getD i 0)) = (nar .byte ch)
          refine Run.iinc (1 : Int32) #[.val (.ref b), .val (.int ch), .val (.int (0 : Int32)), .val (.int (Int32.ofNat cs.length)), .val (.int (nar .byte ch)), .val (.int ((Int32.ofNat i) + (1 : Int32)))] d22_25 (by decide) rfl rfl (pc' := 28) rfl ?_
          refine Run.goto d22_28 (by decide) (pc' := 7) (by decide) ?_
          rw [own_inc]
          exact ih (i + 1) (by omega) (by rw [← hr]; exact (if_neg (fun z => hc19 ((own_nbe (own_chrD hch hil).1 (own_pfx_all hp hil) gc gc2).mpr z))).symm)
        · -- pc 19 not taken: (nar .byte (cs.getD i 0)) = (nar .byte ch)
          refine Run.iload d22_22 rfl (pc' := 24) rfl ?_
          exact Run.ireturn d22_24 rfl (by decide) (by decide) ⟨_, rfl, congrArg Value.int (by rw [← hr]; exact if_pos ((own_nbe (own_chrD hch hil).1 (own_pfx_all hp hil) gc gc2).mp hc19)), rfl⟩
  exact loop cs.length 0 (by omega) rfl
theorem d18_0 : decode jdk_43_method_22_code 0 = .ok (.iload_n 1, 1) := by decide +kernel
theorem d18_1 : decode jdk_43_method_22_code 1 = .ok (.invokestatic 88, 3) := by decide +kernel
theorem d18_4 : decode jdk_43_method_22_code 4 = .ok (.ifCond .ne 5, 3) := by decide +kernel
theorem d18_9 : decode jdk_43_method_22_code 9 = .ok (.iload_n 2, 1) := by decide +kernel
theorem d18_10 : decode jdk_43_method_22_code 10 = .ok (.iconst 0, 1) := by decide +kernel
theorem d18_11 : decode jdk_43_method_22_code 11 = .ok (.invokestatic 92, 3) := by decide +kernel
theorem d18_14 : decode jdk_43_method_22_code 14 = .ok (.istore_n 2, 1) := by decide +kernel
theorem d18_15 : decode jdk_43_method_22_code 15 = .ok (.iload_n 3, 1) := by decide +kernel
theorem d18_16 : decode jdk_43_method_22_code 16 = .ok (.aload_n 0, 1) := by decide +kernel
theorem d18_17 : decode jdk_43_method_22_code 17 = .ok (.arraylength, 1) := by decide +kernel
theorem d18_18 : decode jdk_43_method_22_code 18 = .ok (.invokestatic 38, 3) := by decide +kernel
theorem d18_21 : decode jdk_43_method_22_code 21 = .ok (.istore_n 3, 1) := by decide +kernel
theorem d18_22 : decode jdk_43_method_22_code 22 = .ok (.iload_n 2, 1) := by decide +kernel
theorem d18_23 : decode jdk_43_method_22_code 23 = .ok (.iload_n 3, 1) := by decide +kernel
theorem d18_24 : decode jdk_43_method_22_code 24 = .ok (.if_icmp .lt 5, 3) := by decide +kernel
theorem d18_27 : decode jdk_43_method_22_code 27 = .ok (.iconst (-1), 1) := by decide +kernel
theorem d18_28 : decode jdk_43_method_22_code 28 = .ok (.ireturn, 1) := by decide +kernel
theorem d18_29 : decode jdk_43_method_22_code 29 = .ok (.aload_n 0, 1) := by decide +kernel
theorem d18_30 : decode jdk_43_method_22_code 30 = .ok (.iload_n 1, 1) := by decide +kernel
theorem d18_31 : decode jdk_43_method_22_code 31 = .ok (.iload_n 2, 1) := by decide +kernel
theorem d18_32 : decode jdk_43_method_22_code 32 = .ok (.iload_n 3, 1) := by decide +kernel
theorem d18_33 : decode jdk_43_method_22_code 33 = .ok (.invokestatic 95, 3) := by decide +kernel
theorem d18_36 : decode jdk_43_method_22_code 36 = .ok (.ireturn, 1) := by decide +kernel
theorem pn_18 : plainFor (⟨"java/lang/StringLatin1", "indexOf", "([BIII)I"⟩ : MethodName) = true := plainFor_of_name (by first | (simp [plainName, overriddenIn]; done) | decide +kernel)
theorem pd__I_Z : parseMethodDescriptor "(I)Z" = some ⟨[.int], some .boolean⟩ := by decide +kernel
theorem pd__II_I : parseMethodDescriptor "(II)I" = some ⟨[.int, .int], some .int⟩ := by decide +kernel
theorem pd___BIII_I : parseMethodDescriptor "([BIII)I" = some ⟨[(.array .byte), .int, .int, .int], some .int⟩ := by decide +kernel
theorem ef_con_lio (m : MethodId) (b : Addr) (cs : List Int32) (ch : Int32)  : entryFrame m #[(.ref b), (.int ch), (.int (0 : Int32)), (.int (Int32.ofNat cs.length))] 4 = mkF m 0 #[.val (.ref b), .val (.int ch), .val (.int (0 : Int32)), .val (.int (Int32.ofNat cs.length))] [] := by first | (simp [entryFrame, mkF, argsToLocals, Value.category]; done) | rfl
set_option maxRecDepth 65536 in
set_option maxHeartbeats 40000000 in
theorem con_lio (l : Launch) (Z : State) (a0 : Array Value) (hw : ∀ d ∈ tables_1, d.before a0 Z = true) (n0 : Nat) (h0 : Heap) (Z0 : n0 ≤ h0.size) (b : Addr) (cs : List Int32) (ch : Int32) (hp : own_pfx cs = cs.length) (AB : Ary Z h0 b .byte (own_by cs)) (hn : cs.length ≤ 3) (hch : own_chr cs) (gc : 0 ≤ ch.toInt) (gc2 : ¬ (255 : Int32) < ch) :
    Con l Z n0 (⟨"java/lang/StringLatin1", "indexOf", "([BIII)I"⟩ : MethodName) jdk_43_method_22_code 4 (some .int) ({ frames := 1, cells := 0, slots := 0, locals := 17 } : Room) #[(.ref b), (.int ch), (.int (0 : Int32)), (.int (Int32.ofNat cs.length))] h0 (Val (PV (.int (own_ix cs ch)) h0)) := by
  refine Con.of_run pn_18 (fun m => ef_con_lio m b cs ch ) ?_
  refine Run.iloadN d18_0 rfl (pc' := 1) rfl ?_
  refine Run.callS (k' := 0) (n' := 0) (as := [(.int ch)]) (rest := []) (con_own_canI l Z a0 hw n0 h0 Z0 ch ) d18_1 (hw _ (List.mem_of_getElem? (i := 89) rfl)) (hw _ (List.mem_of_getElem? (i := 90) rfl)) (hw _ (List.mem_of_getElem? (i := 58) rfl)) (hw _ (List.mem_of_getElem? (i := 91) rfl)) (by decide) pd__I_Z rfl rfl rfl (by decide) (by show (0 : Nat) + (1 + 11) + 0 ≤ _; decide) (by decide) (by decide) (by decide) (by decide) (pc' := 4) rfl ?_
  rintro _ _ ⟨_, rfl, rfl, rfl⟩
  show Run l Z n0 "java/lang/StringLatin1" jdk_43_method_22_code 4 (some .int) "indexOf" ({ frames := 1, cells := 0, slots := 0, locals := 17 } : Room) _ 4 #[.val (.ref b), .val (.int ch), .val (.int (0 : Int32)), .val (.int (Int32.ofNat cs.length))] [(.int (own_canI ch))] h0 0 0
  refine Run.if_ne d18_4 (by decide) (pc' := 9) (by decide) (pa := 7) rfl (fun hc4 => ?_) (fun hc4 => ?_)
  · -- pc 4 taken: ¬ (own_canI ch) = (0 : Int32)
    refine Run.iloadN d18_9 rfl (pc' := 10) rfl ?_
    refine Run.iconst (0 : Int32) d18_10 (by decide) (pc' := 11) rfl ?_
    refine Run.callS (k' := 0) (n' := 0) (as := [(.int (0 : Int32)), (.int (0 : Int32))]) (rest := []) (con_own_max l Z a0 hw n0 h0 Z0 (0 : Int32) (0 : Int32) ) d18_11 (hw _ (List.mem_of_getElem? (i := 92) rfl)) (hw _ (List.mem_of_getElem? (i := 93) rfl)) (hw _ (List.mem_of_getElem? (i := 94) rfl)) (hw _ (List.mem_of_getElem? (i := 95) rfl)) (by decide) pd__II_I rfl rfl rfl (by decide) (by show (0 : Nat) + (2 + 11) + 0 ≤ _; decide) (by decide) (by decide) (by decide) (by decide) (pc' := 14) rfl ?_
    rintro _ _ ⟨_, rfl, rfl, rfl⟩
    show Run l Z n0 "java/lang/StringLatin1" jdk_43_method_22_code 4 (some .int) "indexOf" ({ frames := 1, cells := 0, slots := 0, locals := 17 } : Room) _ 14 #[.val (.ref b), .val (.int ch), .val (.int (0 : Int32)), .val (.int (Int32.ofNat cs.length))] [(.int (own_max (0 : Int32) (0 : Int32)))] h0 0 0
    rw [show own_max (0 : Int32) (0 : Int32) = 0 by decide]
    refine Run.istoreN (l' := #[.val (.ref b), .val (.int ch), .val (.int (0 : Int32)), .val (.int (Int32.ofNat cs.length))]) d18_14 rfl (pc' := 15) rfl ?_
    refine Run.iloadN d18_15 rfl (pc' := 16) rfl ?_
    refine Run.aloadN d18_16 rfl rfl (pc' := 17) rfl ?_
    refine Run.alen (z := (Int32.ofNat cs.length)) d18_17 AB (by rw [show (own_by cs).length = cs.length by simp [own_by]] <;> rfl) (pc' := 18) rfl ?_
    refine Run.callS (k' := 0) (n' := 0) (as := [(.int (Int32.ofNat cs.length)), (.int (Int32.ofNat cs.length))]) (rest := []) (con_own_min l Z a0 hw n0 h0 Z0 (Int32.ofNat cs.length) (Int32.ofNat cs.length) ) d18_18 (hw _ (List.mem_of_getElem? (i := 96) rfl)) (hw _ (List.mem_of_getElem? (i := 97) rfl)) (hw _ (List.mem_of_getElem? (i := 94) rfl)) (hw _ (List.mem_of_getElem? (i := 98) rfl)) (by decide) pd__II_I rfl rfl rfl (by decide) (by show (0 : Nat) + (2 + 11) + 0 ≤ _; decide) (by decide) (by decide) (by decide) (by decide) (pc' := 21) rfl ?_
    rintro _ _ ⟨_, rfl, rfl, rfl⟩
    show Run l Z n0 "java/lang/StringLatin1" jdk_43_method_22_code 4 (some .int) "indexOf" ({ frames := 1, cells := 0, slots := 0, locals := 17 } : Room) _ 21 #[.val (.ref b), .val (.int ch), .val (.int (0 : Int32)), .val (.int (Int32.ofNat cs.length))] [(.int (own_min (Int32.ofNat cs.length) (Int32.ofNat cs.length)))] h0 0 0
    rw [own_mm _ (by omega)]
    refine Run.istoreN (l' := #[.val (.ref b), .val (.int ch), .val (.int (0 : Int32)), .val (.int (Int32.ofNat cs.length))]) d18_21 rfl (pc' := 22) rfl ?_
    refine Run.iloadN d18_22 rfl (pc' := 23) rfl ?_
    refine Run.iloadN d18_23 rfl (pc' := 24) rfl ?_
    refine Run.icmp_lt d18_24 (by decide) (pc' := 29) (by decide) (pa := 27) rfl (fun hc24 => ?_) (fun hc24 => ?_)
    · -- pc 24 taken: (0 : Int32) < (Int32.ofNat cs.length)
      refine Run.aloadN d18_29 rfl rfl (pc' := 30) rfl ?_
      refine Run.iloadN d18_30 rfl (pc' := 31) rfl ?_
      refine Run.iloadN d18_31 rfl (pc' := 32) rfl ?_
      refine Run.iloadN d18_32 rfl (pc' := 33) rfl ?_
      refine Run.callS (k' := 0) (n' := 0) (as := [(.ref b), (.int ch), (.int (0 : Int32)), (.int (Int32.ofNat cs.length))]) (rest := []) (con_lic l Z a0 hw n0 h0 Z0  b cs ch hp AB hn hch gc gc2) d18_33 (hw _ (List.mem_of_getElem? (i := 99) rfl)) (hw _ (List.mem_of_getElem? (i := 100) rfl)) (hw _ (List.mem_of_getElem? (i := 58) rfl)) (hw _ (List.mem_of_getElem? (i := 101) rfl)) (by decide) pd___BIII_I rfl rfl rfl (by decide) (by show (0 : Nat) + (6 + 11) + 0 ≤ _; decide) (by decide) (by decide) (by decide) (by decide) (pc' := 36) rfl ?_
      rintro _ _ ⟨_, rfl, rfl, rfl⟩
      show Run l Z n0 "java/lang/StringLatin1" jdk_43_method_22_code 4 (some .int) "indexOf" ({ frames := 1, cells := 0, slots := 0, locals := 17 } : Room) _ 36 #[.val (.ref b), .val (.int ch), .val (.int (0 : Int32)), .val (.int (Int32.ofNat cs.length))] [(.int (own_ix cs ch))] h0 0 0
      exact Run.ireturn d18_36 rfl (by decide) (by decide) ⟨_, rfl, rfl, rfl⟩
    · -- pc 24 not taken: ¬ (0 : Int32) < (Int32.ofNat cs.length)
      refine Run.iconst (-1 : Int32) d18_27 (by decide) (pc' := 28) rfl ?_
      exact Run.ireturn d18_28 rfl (by decide) (by decide) ⟨_, rfl, congrArg Value.int (own_ixn hc24 (by omega)), rfl⟩
  · -- pc 4 not taken: (own_canI ch) = (0 : Int32)
    exact absurd hc4 (own_canIch gc gc2)
theorem d38_0 : decode jdk_52_method_48_code 0 = .ok (.iload_n 2, 1) := by decide +kernel
theorem d38_1 : decode jdk_52_method_48_code 1 = .ok (.istore 4, 2) := by decide +kernel
theorem d38_3 : decode jdk_52_method_48_code 3 = .ok (.iload 4, 2) := by decide +kernel
theorem d38_5 : decode jdk_52_method_48_code 5 = .ok (.iload_n 3, 1) := by decide +kernel
theorem d38_6 : decode jdk_52_method_48_code 6 = .ok (.if_icmp .ge 22, 3) := by decide +kernel
theorem d38_9 : decode jdk_52_method_48_code 9 = .ok (.aload_n 0, 1) := by decide +kernel
theorem d38_10 : decode jdk_52_method_48_code 10 = .ok (.iload 4, 2) := by decide +kernel
theorem d38_12 : decode jdk_52_method_48_code 12 = .ok (.invokestatic 71, 3) := by decide +kernel
theorem d38_15 : decode jdk_52_method_48_code 15 = .ok (.iload_n 1, 1) := by decide +kernel
theorem d38_16 : decode jdk_52_method_48_code 16 = .ok (.if_icmp .ne 6, 3) := by decide +kernel
theorem d38_19 : decode jdk_52_method_48_code 19 = .ok (.iload 4, 2) := by decide +kernel
theorem d38_21 : decode jdk_52_method_48_code 21 = .ok (.ireturn, 1) := by decide +kernel
theorem d38_22 : decode jdk_52_method_48_code 22 = .ok (.iinc 4 1, 3) := by decide +kernel
theorem d38_25 : decode jdk_52_method_48_code 25 = .ok (.goto (-22), 3) := by decide +kernel
theorem d38_28 : decode jdk_52_method_48_code 28 = .ok (.iconst (-1), 1) := by decide +kernel
theorem d38_29 : decode jdk_52_method_48_code 29 = .ok (.ireturn, 1) := by decide +kernel
theorem pn_38 : plainFor (⟨"java/lang/StringUTF16", "indexOfCharUnsafe", "([BIII)I"⟩ : MethodName) = true := plainFor_of_name (by first | (simp [plainName, overriddenIn]; done) | decide +kernel)
theorem ef_con_uic (m : MethodId) (b : Addr) (cs : List Int32) (ch : Int32)  : entryFrame m #[(.ref b), (.int ch), (.int (0 : Int32)), (.int (Int32.ofNat cs.length))] 5 = mkF m 0 #[.val (.ref b), .val (.int ch), .val (.int (0 : Int32)), .val (.int (Int32.ofNat cs.length)), .unset] [] := by first | (simp [entryFrame, mkF, argsToLocals, Value.category]; done) | rfl
set_option maxRecDepth 65536 in
set_option maxHeartbeats 40000000 in
theorem con_uic (l : Launch) (Z : State) (a0 : Array Value) (hw : ∀ d ∈ tables_1, d.before a0 Z = true) (n0 : Nat) (h0 : Heap) (Z0 : n0 ≤ h0.size) (b : Addr) (cs : List Int32) (ch : Int32) (od0 : Old Z n0 h0) (SD : Sta Z Z.heap "java/lang/StringUTF16" "$assertionsDisabled" "Z" (.int (1 : Int32))) (SH8 : Sta Z Z.heap "java/lang/StringUTF16" "HI_BYTE_SHIFT" "I" (.int (0 : Int32))) (SL8 : Sta Z Z.heap "java/lang/StringUTF16" "LO_BYTE_SHIFT" "I" (.int (8 : Int32))) (AB : Ary Z h0 b .byte (own_u16 cs)) (hn : cs.length ≤ 3) (hch : own_chr cs) (gc : 0 ≤ ch.toInt) (gc2 : ¬ (255 : Int32) < ch) :
    Con l Z n0 (⟨"java/lang/StringUTF16", "indexOfCharUnsafe", "([BIII)I"⟩ : MethodName) jdk_52_method_48_code 5 (some .int) ({ frames := 1, cells := 0, slots := 0, locals := 13 } : Room) #[(.ref b), (.int ch), (.int (0 : Int32)), (.int (Int32.ofNat cs.length))] h0 (Val (PV (.int (own_ix cs ch)) h0)) := by
  refine Con.of_run pn_38 (fun m => ef_con_uic m b cs ch ) ?_
  refine Run.iloadN d38_0 rfl (pc' := 1) rfl ?_
  refine Run.istore (l' := #[.val (.ref b), .val (.int ch), .val (.int (0 : Int32)), .val (.int (Int32.ofNat cs.length)), .val (.int (0 : Int32))]) d38_1 rfl (pc' := 3) rfl ?_
  have loop : ∀ t_ i : Nat, t_ + i = cs.length → own_ixF cs ch t_ i = own_ix cs ch → Run l Z n0 "java/lang/StringUTF16" jdk_52_method_48_code 5 (some .int) "indexOfCharUnsafe" ({ frames := 1, cells := 0, slots := 0, locals := 13 } : Room) (Val (PV (.int (own_ix cs ch)) h0)) 3 #[.val (.ref b), .val (.int ch), .val (.int (0 : Int32)), .val (.int (Int32.ofNat cs.length)), .val (.int (Int32.ofNat i))] [] h0 0 0 := by
    intro t_
    induction t_ with
    | zero =>
      intro i hti hr
      refine Run.iload d38_3 rfl (pc' := 5) rfl ?_
      refine Run.iloadN d38_5 rfl (pc' := 6) rfl ?_
      refine Run.icmp_ge d38_6 (by decide) (pc' := 28) (by decide) (pa := 9) rfl (fun hc6 => ?_) (fun hc6 => ?_)
      · -- pc 6 taken: ¬ (Int32.ofNat i) < (Int32.ofNat cs.length)
        refine Run.iconst (-1 : Int32) d38_28 (by decide) (pc' := 29) rfl ?_
        exact Run.ireturn d38_29 rfl (by decide) (by decide) ⟨_, rfl, congrArg Value.int (by rw [← hr]; rfl), rfl⟩
      · -- pc 6 not taken: (Int32.ofNat i) < (Int32.ofNat cs.length)
        exact absurd ((own_lt (by omega) (by omega)).mp hc6) (by omega)
    | succ t_ ih =>
      intro i hti hr
      have hil : i < cs.length := by omega
      refine Run.iload d38_3 rfl (pc' := 5) rfl ?_
      refine Run.iloadN d38_5 rfl (pc' := 6) rfl ?_
      refine Run.icmp_ge d38_6 (by decide) (pc' := 28) (by decide) (pa := 9) rfl (fun hc6 => ?_) (fun hc6 => ?_)
      · -- pc 6 taken: ¬ (Int32.ofNat i) < (Int32.ofNat cs.length)
        exact absurd ((own_lt (by omega) (by omega)).mpr (by omega)) hc6
      · -- pc 6 not taken: (Int32.ofNat i) < (Int32.ofNat cs.length)
        refine Run.aloadN d38_9 rfl rfl (pc' := 10) rfl ?_
        refine Run.iload d38_10 rfl (pc' := 12) rfl ?_
        refine Run.callS (k' := 0) (n' := 0) (as := [(.ref b), (.int (Int32.ofNat i))]) (rest := []) (con_gec l Z a0 hw n0 h0 Z0  b i (own_b0 (cs.getD i 0)) (own_b1 (cs.getD i 0)) (own_u16 cs) od0 SD SH8 SL8 AB (own_u16_get hil).1 (own_u16_get hil).2 (by omega)) d38_12 (hw _ (List.mem_of_getElem? (i := 131) rfl)) (hw _ (List.mem_of_getElem? (i := 132) rfl)) (hw _ (List.mem_of_getElem? (i := 38) rfl)) (hw _ (List.mem_of_getElem? (i := 133) rfl)) (by decide) pd___BI_C rfl rfl rfl (by decide) (by show (0 : Nat) + (2 + 11) + 0 ≤ _; decide) (by decide) (by decide) (by decide) (by decide) (pc' := 15) rfl ?_
        rintro _ _ ⟨_, rfl, rfl, rfl⟩
        show Run l Z n0 "java/lang/StringUTF16" jdk_52_method_48_code 5 (some .int) "indexOfCharUnsafe" ({ frames := 1, cells := 0, slots := 0, locals := 13 } : Room) _ 15 #[.val (.ref b), .val (.int ch), .val (.int (0 : Int32)), .val (.int (Int32.ofNat cs.length)), .val (.int (Int32.ofNat i))] [(.int (own_gc (own_b0 (cs.getD i 0)) (own_b1 (cs.getD i 0))))] h0 0 0
        rw [own_gcb (own_chrD hch hil)]
        refine Run.iloadN d38_15 rfl (pc' := 16) rfl ?_
        refine Run.icmp_ne d38_16 (by decide) (pc' := 22) (by decide) (pa := 19) rfl (fun hc16 => ?_) (fun hc16 => ?_)
        · -- pc 16 taken: ¬ (cs.getD i 0) = ch
          refine Run.iinc (1 : Int32) #[.val (.ref b), .val (.int ch), .val (.int (0 : Int32)), .val (.int (Int32.ofNat cs.length)), .val (.int ((Int32.ofNat i) + (1 : Int32)))] d38_22 (by decide) rfl rfl (pc' := 25) rfl ?_
          refine Run.goto d38_25 (by decide) (pc' := 3) (by decide) ?_
          rw [own_inc]
          exact ih (i + 1) (by omega) (by rw [← hr]; exact (if_neg hc16).symm)
        · -- pc 16 not taken: (cs.getD i 0) = ch
          refine Run.iload d38_19 rfl (pc' := 21) rfl ?_
          exact Run.ireturn d38_21 rfl (by decide) (by decide) ⟨_, rfl, congrArg Value.int (by rw [← hr]; exact if_pos hc16), rfl⟩
  exact loop cs.length 0 (by omega) rfl
theorem d37_0 : decode jdk_41_method_12_code 0 = .ok (.iload_n 0, 1) := by decide +kernel
theorem d37_1 : decode jdk_41_method_12_code 1 = .ok (.ifCond .lt 13, 3) := by decide +kernel
theorem d37_4 : decode jdk_41_method_12_code 4 = .ok (.iload_n 0, 1) := by decide +kernel
theorem d37_5 : decode jdk_41_method_12_code 5 = .ok (.iload_n 1, 1) := by decide +kernel
theorem d37_6 : decode jdk_41_method_12_code 6 = .ok (.if_icmp .gt 8, 3) := by decide +kernel
theorem d37_9 : decode jdk_41_method_12_code 9 = .ok (.iload_n 1, 1) := by decide +kernel
theorem d37_10 : decode jdk_41_method_12_code 10 = .ok (.iload_n 2, 1) := by decide +kernel
theorem d37_11 : decode jdk_41_method_12_code 11 = .ok (.if_icmp .le 11, 3) := by decide +kernel
theorem d37_22 : decode jdk_41_method_12_code 22 = .ok (.iload_n 0, 1) := by decide +kernel
theorem d37_23 : decode jdk_41_method_12_code 23 = .ok (.ireturn, 1) := by decide +kernel
theorem pn_37 : plainFor (⟨"jdk/internal/util/Preconditions", "checkFromToIndex", "(IIILjava/util/function/BiFunction;)I"⟩ : MethodName) = true := plainFor_of_name (by first | (simp [plainName, overriddenIn]; done) | decide +kernel)
theorem ef_con_cft (m : MethodId) (n : Nat) (u : Value) (hr_u : u.isRef = true) : entryFrame m #[(.int (0 : Int32)), (.int (Int32.ofNat n)), (.int (Int32.ofNat n)), u] 4 = mkF m 0 #[.val (.int (0 : Int32)), .val (.int (Int32.ofNat n)), .val (.int (Int32.ofNat n)), .val u] [] := by rcases XT.refc hr_u with rfl | ⟨r_u, rfl⟩ <;> first | (simp [entryFrame, mkF, argsToLocals, Value.category]; done) | rfl
set_option maxRecDepth 65536 in
set_option maxHeartbeats 40000000 in
theorem con_cft (l : Launch) (Z : State) (a0 : Array Value) (hw : ∀ d ∈ tables_1, d.before a0 Z = true) (n0 : Nat) (h0 : Heap) (Z0 : n0 ≤ h0.size) (n : Nat) (u : Value) (hu : u.isRef = true) (hn : n ≤ 3) :
    Con l Z n0 (⟨"jdk/internal/util/Preconditions", "checkFromToIndex", "(IIILjava/util/function/BiFunction;)I"⟩ : MethodName) jdk_41_method_12_code 4 (some .int) ({ frames := 0, cells := 0, slots := 0, locals := 0 } : Room) #[(.int (0 : Int32)), (.int (Int32.ofNat n)), (.int (Int32.ofNat n)), u] h0 (Val (PV (.int (0 : Int32)) h0)) := by
  refine Con.of_run pn_37 (fun m => ef_con_cft m n u hu) ?_
  refine Run.iloadN d37_0 rfl (pc' := 1) rfl ?_
  refine Run.if_lt d37_1 (by decide) (pc' := 14) (by decide) (pa := 4) rfl (fun hc1 => ?_) (fun hc1 => ?_)
  · -- pc 1 taken: (0 : Int32) < (0 : Int32)
    exact absurd hc1 (by decide)
  · -- pc 1 not taken: ¬ (0 : Int32) < (0 : Int32)
    refine Run.iloadN d37_4 rfl (pc' := 5) rfl ?_
    refine Run.iloadN d37_5 rfl (pc' := 6) rfl ?_
    refine Run.icmp_gt d37_6 (by decide) (pc' := 14) (by decide) (pa := 9) rfl (fun hc6 => ?_) (fun hc6 => ?_)
    · -- pc 6 taken: (Int32.ofNat n) < (0 : Int32)
      exact absurd hc6 (own_nge (by omega))
    · -- pc 6 not taken: ¬ (Int32.ofNat n) < (0 : Int32)
      refine Run.iloadN d37_9 rfl (pc' := 10) rfl ?_
      refine Run.iloadN d37_10 rfl (pc' := 11) rfl ?_
      refine Run.icmp_le d37_11 (by decide) (pc' := 22) (by decide) (pa := 14) rfl (fun hc11 => ?_) (fun hc11 => ?_)
      · -- pc 11 taken: ¬ (Int32.ofNat n) < (Int32.ofNat n)
        refine Run.iloadN d37_22 rfl (pc' := 23) rfl ?_
        exact Run.ireturn d37_23 rfl (by decide) (by decide) ⟨_, rfl, rfl, rfl⟩
      · -- pc 11 not taken: (Int32.ofNat n) < (Int32.ofNat n)
        exact absurd ((own_lt (by omega) (by omega)).mp hc11) (Nat.lt_irrefl _)
theorem d36_0 : decode jdk_42_method_158_code 0 = .ok (.iload_n 0, 1) := by decide +kernel
theorem d36_1 : decode jdk_42_method_158_code 1 = .ok (.iload_n 1, 1) := by decide +kernel
theorem d36_2 : decode jdk_42_method_158_code 2 = .ok (.iload_n 2, 1) := by decide +kernel
theorem d36_3 : decode jdk_42_method_158_code 3 = .ok (.getstatic 1053, 3) := by decide +kernel
theorem d36_6 : decode jdk_42_method_158_code 6 = .ok (.invokestatic 1062, 3) := by decide +kernel
theorem d36_9 : decode jdk_42_method_158_code 9 = .ok (.pop, 1) := by decide +kernel
theorem d36_10 : decode jdk_42_method_158_code 10 = .ok (.return_, 1) := by decide +kernel
theorem pn_36 : plainFor (⟨"java/lang/String", "checkBoundsBeginEnd", "(III)V"⟩ : MethodName) = true := plainFor_of_name (by first | (simp [plainName, overriddenIn]; done) | decide +kernel)
theorem pd__IIILjava_util_function_BiFunction__I : parseMethodDescriptor "(IIILjava/util/function/BiFunction;)I" = some ⟨[.int, .int, .int, (.object "java/util/function/BiFunction")], some .int⟩ := by decide +kernel
theorem ef_con_cbe (m : MethodId) (n : Nat) (fm : Value)  : entryFrame m #[(.int (0 : Int32)), (.int (Int32.ofNat n)), (.int (Int32.ofNat n))] 3 = mkF m 0 #[.val (.int (0 : Int32)), .val (.int (Int32.ofNat n)), .val (.int (Int32.ofNat n))] [] := by first | (simp [entryFrame, mkF, argsToLocals, Value.category]; done) | rfl
set_option maxRecDepth 65536 in
set_option maxHeartbeats 40000000 in
theorem con_cbe (l : Launch) (Z : State) (a0 : Array Value) (hw : ∀ d ∈ tables_1, d.before a0 Z = true) (n0 : Nat) (h0 : Heap) (Z0 : n0 ≤ h0.size) (n : Nat) (fm : Value) (od0 : Old Z n0 h0) (SF : Sta Z Z.heap "jdk/internal/util/Preconditions" "SIOOBE_FORMATTER" "Ljava/util/function/BiFunction;" fm) (hfm : fm.isRef = true) (hn : n ≤ 3) :
    Con l Z n0 (⟨"java/lang/String", "checkBoundsBeginEnd", "(III)V"⟩ : MethodName) jdk_42_method_158_code 3 none ({ frames := 1, cells := 0, slots := 0, locals := 15 } : Room) #[(.int (0 : Int32)), (.int (Int32.ofNat n)), (.int (Int32.ofNat n))] h0 (Vd fun h' => h0 = h') := by
  refine Con.of_run pn_36 (fun m => ef_con_cbe m n fm ) ?_
  refine Run.iloadN d36_0 rfl (pc' := 1) rfl ?_
  refine Run.iloadN d36_1 rfl (pc' := 2) rfl ?_
  refine Run.iloadN d36_2 rfl (pc' := 3) rfl ?_
  refine Run.getS d36_3 (host := "") (Or.inl (hw _ (List.mem_of_getElem? (i := 152) rfl))) Via.refl (SF.ext od0.2) (pc' := 6) rfl ?_
  refine Run.callS (k' := 0) (n' := 0) (as := [(.int (0 : Int32)), (.int (Int32.ofNat n)), (.int (Int32.ofNat n)), fm]) (rest := []) (con_cft l Z a0 hw n0 h0 Z0 n fm hfm hn ) d36_6 (hw _ (List.mem_of_getElem? (i := 154) rfl)) (hw _ (List.mem_of_getElem? (i := 155) rfl)) (hw _ (List.mem_of_getElem? (i := 153) rfl)) (hw _ (List.mem_of_getElem? (i := 156) rfl)) (by decide) pd__IIILjava_util_function_BiFunction__I rfl rfl rfl (by decide) (by show (0 : Nat) + (4 + 11) + 0 ≤ _; decide) (by decide) (by decide) (by decide) (by decide) (pc' := 9) rfl ?_
  rintro _ _ ⟨_, rfl, rfl, rfl⟩
  show Run l Z n0 "java/lang/String" jdk_42_method_158_code 3 none "checkBoundsBeginEnd" ({ frames := 1, cells := 0, slots := 0, locals := 15 } : Room) _ 9 #[.val (.int (0 : Int32)), .val (.int (Int32.ofNat n)), .val (.int (Int32.ofNat n))] [(.int (0 : Int32))] h0 0 0
  refine Run.pop d36_9 rfl (pc' := 10) rfl ?_
  exact Run.vreturn d36_10 rfl (by decide) (by decide) ⟨rfl, rfl⟩
theorem d35_0 : decode jdk_52_method_6_code 0 = .ok (.aload_n 0, 1) := by decide +kernel
theorem d35_1 : decode jdk_52_method_6_code 1 = .ok (.arraylength, 1) := by decide +kernel
theorem d35_2 : decode jdk_52_method_6_code 2 = .ok (.iconst 1, 1) := by decide +kernel
theorem d35_3 : decode jdk_52_method_6_code 3 = .ok (.ishr, 1) := by decide +kernel
theorem d35_4 : decode jdk_52_method_6_code 4 = .ok (.ireturn, 1) := by decide +kernel
theorem pn_35 : plainFor (⟨"java/lang/StringUTF16", "length", "([B)I"⟩ : MethodName) = true := plainFor_of_name (by first | (simp [plainName, overriddenIn]; done) | decide +kernel)
theorem ef_con_ule (m : MethodId) (b : Addr) (cs : List Int32)  : entryFrame m #[(.ref b)] 1 = mkF m 0 #[.val (.ref b)] [] := by first | (simp [entryFrame, mkF, argsToLocals, Value.category]; done) | rfl
set_option maxRecDepth 65536 in
set_option maxHeartbeats 40000000 in
theorem con_ule (l : Launch) (Z : State) (a0 : Array Value) (hw : ∀ d ∈ tables_1, d.before a0 Z = true) (n0 : Nat) (h0 : Heap) (Z0 : n0 ≤ h0.size) (b : Addr) (cs : List Int32) (AB : Ary Z h0 b .byte (own_u16 cs)) (hn : cs.length ≤ 3) :
    Con l Z n0 (⟨"java/lang/StringUTF16", "length", "([B)I"⟩ : MethodName) jdk_52_method_6_code 1 (some .int) ({ frames := 0, cells := 0, slots := 0, locals := 0 } : Room) #[(.ref b)] h0 (Val (PV (.int (Int32.ofNat cs.length)) h0)) := by
  refine Con.of_run pn_35 (fun m => ef_con_ule m b cs ) ?_
  refine Run.aloadN d35_0 rfl rfl (pc' := 1) rfl ?_
  refine Run.alen (z := (Int32.ofNat (2 * cs.length))) d35_1 AB (by rw [own_u16_len] <;> rfl) (pc' := 2) rfl ?_
  refine Run.iconst (1 : Int32) d35_2 (by decide) (pc' := 3) rfl ?_
  refine Run.ishr d35_3 (pc' := 4) rfl ?_
  exact Run.ireturn d35_4 rfl (by decide) (by decide) ⟨_, rfl, congrArg Value.int (own_shr1 (by omega)).symm, rfl⟩
theorem d34_0 : decode jdk_52_method_93_code 0 = .ok (.iload_n 0, 1) := by decide +kernel
theorem d34_1 : decode jdk_52_method_93_code 1 = .ok (.iload_n 1, 1) := by decide +kernel
theorem d34_2 : decode jdk_52_method_93_code 2 = .ok (.aload_n 2, 1) := by decide +kernel
theorem d34_3 : decode jdk_52_method_93_code 3 = .ok (.invokestatic 48, 3) := by decide +kernel
theorem d34_6 : decode jdk_52_method_93_code 6 = .ok (.invokestatic 241, 3) := by decide +kernel
theorem d34_9 : decode jdk_52_method_93_code 9 = .ok (.return_, 1) := by decide +kernel
theorem pn_34 : plainFor (⟨"java/lang/StringUTF16", "checkBoundsBeginEnd", "(II[B)V"⟩ : MethodName) = true := plainFor_of_name (by first | (simp [plainName, overriddenIn]; done) | decide +kernel)
theorem pd__III_V : parseMethodDescriptor "(III)V" = some ⟨[.int, .int, .int], none⟩ := by decide +kernel
theorem pd___B_I : parseMethodDescriptor "([B)I" = some ⟨[(.array .byte)], some .int⟩ := by decide +kernel
theorem ef_con_ucb (m : MethodId) (b : Addr) (cs : List Int32) (fm : Value)  : entryFrame m #[(.int (0 : Int32)), (.int (Int32.ofNat cs.length)), (.ref b)] 3 = mkF m 0 #[.val (.int (0 : Int32)), .val (.int (Int32.ofNat cs.length)), .val (.ref b)] [] := by first | (simp [entryFrame, mkF, argsToLocals, Value.category]; done) | rfl
set_option maxRecDepth 65536 in
set_option maxHeartbeats 40000000 in
theorem con_ucb (l : Launch) (Z : State) (a0 : Array Value) (hw : ∀ d ∈ tables_1, d.before a0 Z = true) (n0 : Nat) (h0 : Heap) (Z0 : n0 ≤ h0.size) (b : Addr) (cs : List Int32) (fm : Value) (od0 : Old Z n0 h0) (SF : Sta Z Z.heap "jdk/internal/util/Preconditions" "SIOOBE_FORMATTER" "Ljava/util/function/BiFunction;" fm) (hfm : fm.isRef = true) (AB : Ary Z h0 b .byte (own_u16 cs)) (hn : cs.length ≤ 3) :
    Con l Z n0 (⟨"java/lang/StringUTF16", "checkBoundsBeginEnd", "(II[B)V"⟩ : MethodName) jdk_52_method_93_code 3 none ({ frames := 2, cells := 0, slots := 0, locals := 29 } : Room) #[(.int (0 : Int32)), (.int (Int32.ofNat cs.length)), (.ref b)] h0 (Vd fun h' => h0 = h') := by
  refine Con.of_run pn_34 (fun m => ef_con_ucb m b cs fm ) ?_
  refine Run.iloadN d34_0 rfl (pc' := 1) rfl ?_
  refine Run.iloadN d34_1 rfl (pc' := 2) rfl ?_
  refine Run.aloadN d34_2 rfl rfl (pc' := 3) rfl ?_
  refine Run.callS (k' := 0) (n' := 0) (as := [(.ref b)]) (rest := [(.int (Int32.ofNat cs.length)), (.int (0 : Int32))]) (con_ule l Z a0 hw n0 h0 Z0  b cs AB hn) d34_3 (hw _ (List.mem_of_getElem? (i := 146) rfl)) (hw _ (List.mem_of_getElem? (i := 147) rfl)) (hw _ (List.mem_of_getElem? (i := 38) rfl)) (hw _ (List.mem_of_getElem? (i := 148) rfl)) (by decide) pd___B_I rfl rfl rfl (by decide) (by show (2 : Nat) + (1 + 11) + 0 ≤ _; decide) (by decide) (by decide) (by decide) (by decide) (pc' := 6) rfl ?_
  rintro _ _ ⟨_, rfl, rfl, rfl⟩
  show Run l Z n0 "java/lang/StringUTF16" jdk_52_method_93_code 3 none "checkBoundsBeginEnd" ({ frames := 2, cells := 0, slots := 0, locals := 29 } : Room) _ 6 #[.val (.int (0 : Int32)), .val (.int (Int32.ofNat cs.length)), .val (.ref b)] [(.int (Int32.ofNat cs.length)), (.int (Int32.ofNat cs.length)), (.int (0 : Int32))] h0 0 0
  refine Run.callS (k' := 0) (n' := 0) (as := [(.int (0 : Int32)), (.int (Int32.ofNat cs.length)), (.int (Int32.ofNat cs.length))]) (rest := []) (con_cbe l Z a0 hw n0 h0 Z0 cs.length fm od0 SF hfm hn) d34_6 (hw _ (List.mem_of_getElem? (i := 149) rfl)) (hw _ (List.mem_of_getElem? (i := 150) rfl)) (hw _ (List.mem_of_getElem? (i := 6) rfl)) (hw _ (List.mem_of_getElem? (i := 151) rfl)) (by decide) pd__III_V rfl rfl rfl (by decide) (by show (0 : Nat) + (3 + 11) + 15 ≤ _; decide) (by decide) (by decide) (by decide) (by decide) (pc' := 9) rfl ?_
  rintro _ _ ⟨rfl, rfl⟩
  show Run l Z n0 "java/lang/StringUTF16" jdk_52_method_93_code 3 none "checkBoundsBeginEnd" ({ frames := 2, cells := 0, slots := 0, locals := 29 } : Room) _ 9 #[.val (.int (0 : Int32)), .val (.int (Int32.ofNat cs.length)), .val (.ref b)] [] h0 0 0
  exact Run.vreturn d34_9 rfl (by decide) (by decide) ⟨rfl, rfl⟩
theorem d33_0 : decode jdk_52_method_47_code 0 = .ok (.iload_n 2, 1) := by decide +kernel
theorem d33_1 : decode jdk_52_method_47_code 1 = .ok (.iload_n 3, 1) := by decide +kernel
theorem d33_2 : decode jdk_52_method_47_code 2 = .ok (.aload_n 0, 1) := by decide +kernel
theorem d33_3 : decode jdk_52_method_47_code 3 = .ok (.invokestatic 96, 3) := by decide +kernel
theorem d33_6 : decode jdk_52_method_47_code 6 = .ok (.aload_n 0, 1) := by decide +kernel
theorem d33_7 : decode jdk_52_method_47_code 7 = .ok (.iload_n 1, 1) := by decide +kernel
theorem d33_8 : decode jdk_52_method_47_code 8 = .ok (.iload_n 2, 1) := by decide +kernel
theorem d33_9 : decode jdk_52_method_47_code 9 = .ok (.iload_n 3, 1) := by decide +kernel
theorem d33_10 : decode jdk_52_method_47_code 10 = .ok (.invokestatic 244, 3) := by decide +kernel
theorem d33_13 : decode jdk_52_method_47_code 13 = .ok (.ireturn, 1) := by decide +kernel
theorem pn_33 : plainFor (⟨"java/lang/StringUTF16", "indexOfChar", "([BIII)I"⟩ : MethodName) = true := plainFor_of_name (by first | (simp [plainName, overriddenIn]; done) | decide +kernel)
theorem pd__II_B_V : parseMethodDescriptor "(II[B)V" = some ⟨[.int, .int, (.array .byte)], none⟩ := by decide +kernel
theorem ef_con_uix (m : MethodId) (b : Addr) (cs : List Int32) (ch : Int32) (fm : Value)  : entryFrame m #[(.ref b), (.int ch), (.int (0 : Int32)), (.int (Int32.ofNat cs.length))] 4 = mkF m 0 #[.val (.ref b), .val (.int ch), .val (.int (0 : Int32)), .val (.int (Int32.ofNat cs.length))] [] := by first | (simp [entryFrame, mkF, argsToLocals, Value.category]; done) | rfl
set_option maxRecDepth 65536 in
set_option maxHeartbeats 40000000 in
theorem con_uix (l : Launch) (Z : State) (a0 : Array Value) (hw : ∀ d ∈ tables_1, d.before a0 Z = true) (n0 : Nat) (h0 : Heap) (Z0 : n0 ≤ h0.size) (b : Addr) (cs : List Int32) (ch : Int32) (fm : Value) (od0 : Old Z n0 h0) (SF : Sta Z Z.heap "jdk/internal/util/Preconditions" "SIOOBE_FORMATTER" "Ljava/util/function/BiFunction;" fm) (hfm : fm.isRef = true) (SD : Sta Z Z.heap "java/lang/StringUTF16" "$assertionsDisabled" "Z" (.int (1 : Int32))) (SH8 : Sta Z Z.heap "java/lang/StringUTF16" "HI_BYTE_SHIFT" "I" (.int (0 : Int32))) (SL8 : Sta Z Z.heap "java/lang/StringUTF16" "LO_BYTE_SHIFT" "I" (.int (8 : Int32))) (AB : Ary Z h0 b .byte (own_u16 cs)) (hn : cs.length ≤ 3) (hch : own_chr cs) (gc : 0 ≤ ch.toInt) (gc2 : ¬ (255 : Int32) < ch) :
    Con l Z n0 (⟨"java/lang/StringUTF16", "indexOfChar", "([BIII)I"⟩ : MethodName) jdk_52_method_47_code 4 (some .int) ({ frames := 3, cells := 0, slots := 0, locals := 43 } : Room) #[(.ref b), (.int ch), (.int (0 : Int32)), (.int (Int32.ofNat cs.length))] h0 (Val (PV (.int (own_ix cs ch)) h0)) := by
  refine Con.of_run pn_33 (fun m => ef_con_uix m b cs ch fm ) ?_
  refine Run.iloadN d33_0 rfl (pc' := 1) rfl ?_
  refine Run.iloadN d33_1 rfl (pc' := 2) rfl ?_
  refine Run.aloadN d33_2 rfl rfl (pc' := 3) rfl ?_
  refine Run.callS (k' := 0) (n' := 0) (as := [(.int (0 : Int32)), (.int (Int32.ofNat cs.length)), (.ref b)]) (rest := []) (con_ucb l Z a0 hw n0 h0 Z0 b cs fm od0 SF hfm AB hn) d33_3 (hw _ (List.mem_of_getElem? (i := 143) rfl)) (hw _ (List.mem_of_getElem? (i := 144) rfl)) (hw _ (List.mem_of_getElem? (i := 38) rfl)) (hw _ (List.mem_of_getElem? (i := 145) rfl)) (by decide) pd__II_B_V rfl rfl rfl (by decide) (by show (0 : Nat) + (3 + 11) + 29 ≤ _; decide) (by decide) (by decide) (by decide) (by decide) (pc' := 6) rfl ?_
  rintro _ _ ⟨rfl, rfl⟩
  show Run l Z n0 "java/lang/StringUTF16" jdk_52_method_47_code 4 (some .int) "indexOfChar" ({ frames := 3, cells := 0, slots := 0, locals := 43 } : Room) _ 6 #[.val (.ref b), .val (.int ch), .val (.int (0 : Int32)), .val (.int (Int32.ofNat cs.length))] [] h0 0 0
  refine Run.aloadN d33_6 rfl rfl (pc' := 7) rfl ?_
  refine Run.iloadN d33_7 rfl (pc' := 8) rfl ?_
  refine Run.iloadN d33_8 rfl (pc' := 9) rfl ?_
  refine Run.iloadN d33_9 rfl (pc' := 10) rfl ?_
  refine Run.callS (k' := 0) (n' := 0) (as := [(.ref b), (.int ch), (.int (0 : Int32)), (.int (Int32.ofNat cs.length))]) (rest := []) (con_uic l Z a0 hw n0 h0 Z0  b cs ch od0 SD SH8 SL8 AB hn hch gc gc2) d33_10 (hw _ (List.mem_of_getElem? (i := 157) rfl)) (hw _ (List.mem_of_getElem? (i := 158) rfl)) (hw _ (List.mem_of_getElem? (i := 38) rfl)) (hw _ (List.mem_of_getElem? (i := 159) rfl)) (by decide) pd___BIII_I rfl rfl rfl (by decide) (by show (0 : Nat) + (5 + 11) + 13 ≤ _; decide) (by decide) (by decide) (by decide) (by decide) (pc' := 13) rfl ?_
  rintro _ _ ⟨_, rfl, rfl, rfl⟩
  show Run l Z n0 "java/lang/StringUTF16" jdk_52_method_47_code 4 (some .int) "indexOfChar" ({ frames := 3, cells := 0, slots := 0, locals := 43 } : Room) _ 13 #[.val (.ref b), .val (.int ch), .val (.int (0 : Int32)), .val (.int (Int32.ofNat cs.length))] [(.int (own_ix cs ch))] h0 0 0
  exact Run.ireturn d33_13 rfl (by decide) (by decide) ⟨_, rfl, rfl, rfl⟩
theorem own_c64 {ch : Int32} (h : ¬ (255 : Int32) < ch) : ch < (65536 : Int32) := by
  rw [Int32.lt_iff_toInt_lt] at h ⊢; have e1 : (255 : Int32).toInt = 255 := rfl; have e2 : (65536 : Int32).toInt = 65536 := rfl; omega
theorem d32_0 : decode jdk_52_method_40_code 0 = .ok (.iload_n 2, 1) := by decide +kernel
theorem d32_1 : decode jdk_52_method_40_code 1 = .ok (.iconst 0, 1) := by decide +kernel
theorem d32_2 : decode jdk_52_method_40_code 2 = .ok (.invokestatic 224, 3) := by decide +kernel
theorem d32_5 : decode jdk_52_method_40_code 5 = .ok (.istore_n 2, 1) := by decide +kernel
theorem d32_6 : decode jdk_52_method_40_code 6 = .ok (.iload_n 3, 1) := by decide +kernel
theorem d32_7 : decode jdk_52_method_40_code 7 = .ok (.aload_n 0, 1) := by decide +kernel
theorem d32_8 : decode jdk_52_method_40_code 8 = .ok (.arraylength, 1) := by decide +kernel
theorem d32_9 : decode jdk_52_method_40_code 9 = .ok (.iconst 1, 1) := by decide +kernel
theorem d32_10 : decode jdk_52_method_40_code 10 = .ok (.ishr, 1) := by decide +kernel
theorem d32_11 : decode jdk_52_method_40_code 11 = .ok (.invokestatic 183, 3) := by decide +kernel
theorem d32_14 : decode jdk_52_method_40_code 14 = .ok (.istore_n 3, 1) := by decide +kernel
theorem d32_15 : decode jdk_52_method_40_code 15 = .ok (.iload_n 2, 1) := by decide +kernel
theorem d32_16 : decode jdk_52_method_40_code 16 = .ok (.iload_n 3, 1) := by decide +kernel
theorem d32_17 : decode jdk_52_method_40_code 17 = .ok (.if_icmp .lt 5, 3) := by decide +kernel
theorem d32_20 : decode jdk_52_method_40_code 20 = .ok (.iconst (-1), 1) := by decide +kernel
theorem d32_21 : decode jdk_52_method_40_code 21 = .ok (.ireturn, 1) := by decide +kernel
theorem d32_22 : decode jdk_52_method_40_code 22 = .ok (.iload_n 1, 1) := by decide +kernel
theorem d32_23 : decode jdk_52_method_40_code 23 = .ok (.ldc 227, 2) := by decide +kernel
theorem d32_25 : decode jdk_52_method_40_code 25 = .ok (.if_icmp .ge 11, 3) := by decide +kernel
theorem d32_28 : decode jdk_52_method_40_code 28 = .ok (.aload_n 0, 1) := by decide +kernel
theorem d32_29 : decode jdk_52_method_40_code 29 = .ok (.iload_n 1, 1) := by decide +kernel
theorem d32_30 : decode jdk_52_method_40_code 30 = .ok (.iload_n 2, 1) := by decide +kernel
theorem d32_31 : decode jdk_52_method_40_code 31 = .ok (.iload_n 3, 1) := by decide +kernel
theorem d32_32 : decode jdk_52_method_40_code 32 = .ok (.invokestatic 228, 3) := by decide +kernel
theorem d32_35 : decode jdk_52_method_40_code 35 = .ok (.ireturn, 1) := by decide +kernel
theorem pn_32 : plainFor (⟨"java/lang/StringUTF16", "indexOf", "([BIII)I"⟩ : MethodName) = true := plainFor_of_name (by first | (simp [plainName, overriddenIn]; done) | decide +kernel)
theorem ef_con_uio (m : MethodId) (b : Addr) (cs : List Int32) (ch : Int32) (fm : Value)  : entryFrame m #[(.ref b), (.int ch), (.int (0 : Int32)), (.int (Int32.ofNat cs.length))] 4 = mkF m 0 #[.val (.ref b), .val (.int ch), .val (.int (0 : Int32)), .val (.int (Int32.ofNat cs.length))] [] := by first | (simp [entryFrame, mkF, argsToLocals, Value.category]; done) | rfl
set_option maxRecDepth 65536 in
set_option maxHeartbeats 40000000 in
theorem con_uio (l : Launch) (Z : State) (a0 : Array Value) (hw : ∀ d ∈ tables_1, d.before a0 Z = true) (n0 : Nat) (h0 : Heap) (Z0 : n0 ≤ h0.size) (b : Addr) (cs : List Int32) (ch : Int32) (fm : Value) (od0 : Old Z n0 h0) (SF : Sta Z Z.heap "jdk/internal/util/Preconditions" "SIOOBE_FORMATTER" "Ljava/util/function/BiFunction;" fm) (hfm : fm.isRef = true) (SD : Sta Z Z.heap "java/lang/StringUTF16" "$assertionsDisabled" "Z" (.int (1 : Int32))) (SH8 : Sta Z Z.heap "java/lang/StringUTF16" "HI_BYTE_SHIFT" "I" (.int (0 : Int32))) (SL8 : Sta Z Z.heap "java/lang/StringUTF16" "LO_BYTE_SHIFT" "I" (.int (8 : Int32))) (AB : Ary Z h0 b .byte (own_u16 cs)) (hn : cs.length ≤ 3) (hch : own_chr cs) (gc : 0 ≤ ch.toInt) (gc2 : ¬ (255 : Int32) < ch) :
    Con l Z n0 (⟨"java/lang/StringUTF16", "indexOf", "([BIII)I"⟩ : MethodName) jdk_52_method_40_code 4 (some .int) ({ frames := 4, cells := 0, slots := 0, locals := 58 } : Room) #[(.ref b), (.int ch), (.int (0 : Int32)), (.int (Int32.ofNat cs.length))] h0 (Val (PV (.int (own_ix cs ch)) h0)) := by
  refine Con.of_run pn_32 (fun m => ef_con_uio m b cs ch fm ) ?_
  refine Run.iloadN d32_0 rfl (pc' := 1) rfl ?_
  refine Run.iconst (0 : Int32) d32_1 (by decide) (pc' := 2) rfl ?_
  refine Run.callS (k' := 0) (n' := 0) (as := [(.int (0 : Int32)), (.int (0 : Int32))]) (rest := []) (con_own_max l Z a0 hw n0 h0 Z0 (0 : Int32) (0 : Int32) ) d32_2 (hw _ (List.mem_of_getElem? (i := 137) rfl)) (hw _ (List.mem_of_getElem? (i := 93) rfl)) (hw _ (List.mem_of_getElem? (i := 94) rfl)) (hw _ (List.mem_of_getElem? (i := 95) rfl)) (by decide) pd__II_I rfl rfl rfl (by decide) (by show (0 : Nat) + (2 + 11) + 0 ≤ _; decide) (by decide) (by decide) (by decide) (by decide) (pc' := 5) rfl ?_
  rintro _ _ ⟨_, rfl, rfl, rfl⟩
  show Run l Z n0 "java/lang/StringUTF16" jdk_52_method_40_code 4 (some .int) "indexOf" ({ frames := 4, cells := 0, slots := 0, locals := 58 } : Room) _ 5 #[.val (.ref b), .val (.int ch), .val (.int (0 : Int32)), .val (.int (Int32.ofNat cs.length))] [(.int (own_max (0 : Int32) (0 : Int32)))] h0 0 0
  rw [show own_max (0 : Int32) (0 : Int32) = 0 by decide]
  refine Run.istoreN (l' := #[.val (.ref b), .val (.int ch), .val (.int (0 : Int32)), .val (.int (Int32.ofNat cs.length))]) d32_5 rfl (pc' := 6) rfl ?_
  refine Run.iloadN d32_6 rfl (pc' := 7) rfl ?_
  refine Run.aloadN d32_7 rfl rfl (pc' := 8) rfl ?_
  refine Run.alen (z := (Int32.ofNat (2 * cs.length))) d32_8 AB (by rw [own_u16_len] <;> rfl) (pc' := 9) rfl ?_
  refine Run.iconst (1 : Int32) d32_9 (by decide) (pc' := 10) rfl ?_
  refine Run.ishr d32_10 (pc' := 11) rfl ?_
  rw [own_shr1 (by omega)]
  refine Run.callS (k' := 0) (n' := 0) (as := [(.int (Int32.ofNat cs.length)), (.int (Int32.ofNat cs.length))]) (rest := []) (con_own_min l Z a0 hw n0 h0 Z0 (Int32.ofNat cs.length) (Int32.ofNat cs.length) ) d32_11 (hw _ (List.mem_of_getElem? (i := 138) rfl)) (hw _ (List.mem_of_getElem? (i := 97) rfl)) (hw _ (List.mem_of_getElem? (i := 94) rfl)) (hw _ (List.mem_of_getElem? (i := 98) rfl)) (by decide) pd__II_I rfl rfl rfl (by decide) (by show (0 : Nat) + (2 + 11) + 0 ≤ _; decide) (by decide) (by decide) (by decide) (by decide) (pc' := 14) rfl ?_
  rintro _ _ ⟨_, rfl, rfl, rfl⟩
  show Run l Z n0 "java/lang/StringUTF16" jdk_52_method_40_code 4 (some .int) "indexOf" ({ frames := 4, cells := 0, slots := 0, locals := 58 } : Room) _ 14 #[.val (.ref b), .val (.int ch), .val (.int (0 : Int32)), .val (.int (Int32.ofNat cs.length))] [(.int (own_min (Int32.ofNat cs.length) (Int32.ofNat cs.length)))] h0 0 0
  rw [own_mm _ (by omega)]
  refine Run.istoreN (l' := #[.val (.ref b), .val (.int ch), .val (.int (0 : Int32)), .val (.int (Int32.ofNat cs.length))]) d32_14 rfl (pc' := 15) rfl ?_
  refine Run.iloadN d32_15 rfl (pc' := 16) rfl ?_
  refine Run.iloadN d32_16 rfl (pc' := 17) rfl ?_
  refine Run.icmp_lt d32_17 (by decide) (pc' := 22) (by decide) (pa := 20) rfl (fun hc17 => ?_) (fun hc17 => ?_)
  · -- pc 17 taken: (0 : Int32) < (Int32.ofNat cs.length)
    refine Run.iloadN d32_22 rfl (pc' := 23) rfl ?_
    refine Run.ldcI (v := (65536 : Int32)) d32_23 (hw _ (List.mem_of_getElem? (i := 139) rfl)) (pc' := 25) rfl ?_
    refine Run.icmp_ge d32_25 (by decide) (pc' := 36) (by decide) (pa := 28) rfl (fun hc25 => ?_) (fun hc25 => ?_)
    · -- pc 25 taken: ¬ ch < (65536 : Int32)
      exact absurd (own_c64 gc2) hc25
    · -- pc 25 not taken: ch < (65536 : Int32)
      refine Run.aloadN d32_28 rfl rfl (pc' := 29) rfl ?_
      refine Run.iloadN d32_29 rfl (pc' := 30) rfl ?_
      refine Run.iloadN d32_30 rfl (pc' := 31) rfl ?_
      refine Run.iloadN d32_31 rfl (pc' := 32) rfl ?_
      refine Run.callS (k' := 0) (n' := 0) (as := [(.ref b), (.int ch), (.int (0 : Int32)), (.int (Int32.ofNat cs.length))]) (rest := []) (con_uix l Z a0 hw n0 h0 Z0  b cs ch fm od0 SF hfm SD SH8 SL8 AB hn hch gc gc2) d32_32 (hw _ (List.mem_of_getElem? (i := 140) rfl)) (hw _ (List.mem_of_getElem? (i := 141) rfl)) (hw _ (List.mem_of_getElem? (i := 38) rfl)) (hw _ (List.mem_of_getElem? (i := 142) rfl)) (by decide) pd___BIII_I rfl rfl rfl (by decide) (by show (0 : Nat) + (4 + 11) + 43 ≤ _; decide) (by decide) (by decide) (by decide) (by decide) (pc' := 35) rfl ?_
      rintro _ _ ⟨_, rfl, rfl, rfl⟩
      show Run l Z n0 "java/lang/StringUTF16" jdk_52_method_40_code 4 (some .int) "indexOf" ({ frames := 4, cells := 0, slots := 0, locals := 58 } : Room) _ 35 #[.val (.ref b), .val (.int ch), .val (.int (0 : Int32)), .val (.int (Int32.ofNat cs.length))] [(.int (own_ix cs ch))] h0 0 0
      exact Run.ireturn d32_35 rfl (by decide) (by decide) ⟨_, rfl, rfl, rfl⟩
  · -- pc 17 not taken: ¬ (0 : Int32) < (Int32.ofNat cs.length)
    refine Run.iconst (-1 : Int32) d32_20 (by decide) (pc' := 21) rfl ?_
    exact Run.ireturn d32_21 rfl (by decide) (by decide) ⟨_, rfl, congrArg Value.int (own_ixn hc17 (by omega)), rfl⟩
theorem d14_0 : decode jdk_42_method_80_code 0 = .ok (.aload_n 0, 1) := by decide +kernel
theorem d14_1 : decode jdk_42_method_80_code 1 = .ok (.invokevirtual 492, 3) := by decide +kernel
theorem d14_4 : decode jdk_42_method_80_code 4 = .ok (.ifCond .eq 19, 3) := by decide +kernel
theorem d14_7 : decode jdk_42_method_80_code 7 = .ok (.aload_n 0, 1) := by decide +kernel
theorem d14_8 : decode jdk_42_method_80_code 8 = .ok (.getfield 9, 3) := by decide +kernel
theorem d14_11 : decode jdk_42_method_80_code 11 = .ok (.iload_n 1, 1) := by decide +kernel
theorem d14_12 : decode jdk_42_method_80_code 12 = .ok (.iload_n 2, 1) := by decide +kernel
theorem d14_13 : decode jdk_42_method_80_code 13 = .ok (.aload_n 0, 1) := by decide +kernel
theorem d14_14 : decode jdk_42_method_80_code 14 = .ok (.invokevirtual 505, 3) := by decide +kernel
theorem d14_17 : decode jdk_42_method_80_code 17 = .ok (.invokestatic 637, 3) := by decide +kernel
theorem d14_20 : decode jdk_42_method_80_code 20 = .ok (.goto 16, 3) := by decide +kernel
theorem d14_23 : decode jdk_42_method_80_code 23 = .ok (.aload_n 0, 1) := by decide +kernel
theorem d14_24 : decode jdk_42_method_80_code 24 = .ok (.getfield 9, 3) := by decide +kernel
theorem d14_27 : decode jdk_42_method_80_code 27 = .ok (.iload_n 1, 1) := by decide +kernel
theorem d14_28 : decode jdk_42_method_80_code 28 = .ok (.iload_n 2, 1) := by decide +kernel
theorem d14_29 : decode jdk_42_method_80_code 29 = .ok (.aload_n 0, 1) := by decide +kernel
theorem d14_30 : decode jdk_42_method_80_code 30 = .ok (.invokevirtual 505, 3) := by decide +kernel
theorem d14_33 : decode jdk_42_method_80_code 33 = .ok (.invokestatic 640, 3) := by decide +kernel
theorem d14_36 : decode jdk_42_method_80_code 36 = .ok (.ireturn, 1) := by decide +kernel
theorem pn_14 : plainFor (⟨"java/lang/String", "indexOf", "(II)I"⟩ : MethodName) = true := plainFor_of_name (by first | (simp [plainName, overriddenIn]; done) | decide +kernel)
theorem pd___I : parseMethodDescriptor "()I" = some ⟨[], some .int⟩ := by decide +kernel
theorem pd___Z : parseMethodDescriptor "()Z" = some ⟨[], some .boolean⟩ := by decide +kernel
theorem ef_con_six2 (m : MethodId) (t b : Addr) (cs : List Int32) (ch : Int32) (fm : Value) (cz : Int32)  : entryFrame m #[(.ref t), (.int ch), (.int (0 : Int32))] 3 = mkF m 0 #[.val (.ref t), .val (.int ch), .val (.int (0 : Int32))] [] := by first | (simp [entryFrame, mkF, argsToLocals, Value.category]; done) | rfl
set_option maxRecDepth 65536 in
set_option maxHeartbeats 40000000 in
theorem con_six2 (l : Launch) (Z : State) (a0 : Array Value) (hw : ∀ d ∈ tables_1, d.before a0 Z = true) (n0 : Nat) (h0 : Heap) (Z0 : n0 ≤ h0.size) (t b : Addr) (cs : List Int32) (ch : Int32) (fm : Value) (cz : Int32) (od0 : Old Z n0 h0) (SF : Sta Z Z.heap "jdk/internal/util/Preconditions" "SIOOBE_FORMATTER" "Ljava/util/function/BiFunction;" fm) (hfm : fm.isRef = true) (SD : Sta Z Z.heap "java/lang/StringUTF16" "$assertionsDisabled" "Z" (.int (1 : Int32))) (SH8 : Sta Z Z.heap "java/lang/StringUTF16" "HI_BYTE_SHIFT" "I" (.int (0 : Int32))) (SL8 : Sta Z Z.heap "java/lang/StringUTF16" "LO_BYTE_SHIFT" "I" (.int (8 : Int32))) (SZ : Sta Z Z.heap "java/lang/String" "COMPACT_STRINGS" "Z" (.int cz)) (hcz : ¬ cz = 0) (E1 : Exa Z h0 t "java/lang/String") (FV : Fld Z h0 t "java/lang/String" "value" "[B" (.ref b)) (FC : Fld Z h0 t "java/lang/String" "coder" "B" (.int (own_coder cs))) (AB : Ary Z h0 b .byte (own_enc cs)) (hn : cs.length ≤ 3) (hch : own_chr cs) (gc : 0 ≤ ch.toInt) (gc2 : ¬ (255 : Int32) < ch) :
    Con l Z n0 (⟨"java/lang/String", "indexOf", "(II)I"⟩ : MethodName) jdk_42_method_80_code 3 (some .int) ({ frames := 5, cells := 0, slots := 0, locals := 73 } : Room) #[(.ref t), (.int ch), (.int (0 : Int32))] h0 (Val (PV (.int (own_ix cs ch)) h0)) := by
  refine Con.of_run pn_14 (fun m => ef_con_six2 m t b cs ch fm cz ) ?_
  refine Run.aloadN d14_0 rfl rfl (pc' := 1) rfl ?_
  refine Run.callV (k' := 0) (n' := 0) (a := t) (as := []) (rest := []) (con_isl l Z a0 hw n0 h0 Z0 t cs cz od0 SZ hcz FC ) E1 d14_1 (hw _ (List.mem_of_getElem? (i := 71) rfl)) (hw _ (List.mem_of_getElem? (i := 72) rfl)) (fun s hZ => notFace_of_selects (args := #[]) (mvT hZ (hw _ (List.mem_of_getElem? (i := 74) rfl)))) (hw _ (List.mem_of_getElem? (i := 74) rfl)) (hw _ (List.mem_of_getElem? (i := 73) rfl)) (hw _ (List.mem_of_getElem? (i := 6) rfl)) (hw _ (List.mem_of_getElem? (i := 75) rfl)) (by decide) pd___Z rfl rfl rfl (by decide) (by show (0 : Nat) + (1 + 11) + 0 ≤ _; decide) (by decide) (by decide) (by decide) (by decide) (pc' := 4) rfl ?_
  rintro _ _ ⟨_, rfl, rfl, rfl⟩
  show Run l Z n0 "java/lang/String" jdk_42_method_80_code 3 (some .int) "indexOf" ({ frames := 5, cells := 0, slots := 0, locals := 73 } : Room) _ 4 #[.val (.ref t), .val (.int ch), .val (.int (0 : Int32))] [(.int (own_isl cs))] h0 0 0
  refine Run.if_eq d14_4 (by decide) (pc' := 23) (by decide) (pa := 7) rfl (fun hc4 => ?_) (fun hc4 => ?_)
  · -- pc 4 taken: (own_isl cs) = (0 : Int32)
    refine Run.aloadN d14_23 rfl rfl (pc' := 24) rfl ?_
    refine Run.getF d14_24 (host := "") (Or.inl (hw _ (List.mem_of_getElem? (i := 24) rfl))) Via.refl FV (pc' := 27) rfl ?_
    refine Run.iloadN d14_27 rfl (pc' := 28) rfl ?_
    refine Run.iloadN d14_28 rfl (pc' := 29) rfl ?_
    refine Run.aloadN d14_29 rfl rfl (pc' := 30) rfl ?_
    refine Run.callV (k' := 0) (n' := 0) (a := t) (as := []) (rest := [(.int (0 : Int32)), (.int ch), (.ref b)]) (con_len l Z a0 hw n0 h0 Z0 t b cs cz od0 SZ hcz E1 FV FC AB hn) E1 d14_30 (hw _ (List.mem_of_getElem? (i := 76) rfl)) (hw _ (List.mem_of_getElem? (i := 77) rfl)) (fun s hZ => notFace_of_selects (args := #[]) (mvT hZ (hw _ (List.mem_of_getElem? (i := 79) rfl)))) (hw _ (List.mem_of_getElem? (i := 79) rfl)) (hw _ (List.mem_of_getElem? (i := 78) rfl)) (hw _ (List.mem_of_getElem? (i := 6) rfl)) (hw _ (List.mem_of_getElem? (i := 80) rfl)) (by decide) pd___I rfl rfl rfl (by decide) (by show (3 : Nat) + (1 + 11) + 13 ≤ _; decide) (by decide) (by decide) (by decide) (by decide) (pc' := 33) rfl ?_
    rintro _ _ ⟨_, rfl, rfl, rfl⟩
    show Run l Z n0 "java/lang/String" jdk_42_method_80_code 3 (some .int) "indexOf" ({ frames := 5, cells := 0, slots := 0, locals := 73 } : Room) _ 33 #[.val (.ref t), .val (.int ch), .val (.int (0 : Int32))] [(.int (Int32.ofNat cs.length)), (.int (0 : Int32)), (.int ch), (.ref b)] h0 0 0
    refine Run.callS (k' := 0) (n' := 0) (as := [(.ref b), (.int ch), (.int (0 : Int32)), (.int (Int32.ofNat cs.length))]) (rest := []) (con_uio l Z a0 hw n0 h0 Z0  b cs ch fm od0 SF hfm SD SH8 SL8 (own_encN (own_isl0 hc4) ▸ AB) hn hch gc gc2) d14_33 (hw _ (List.mem_of_getElem? (i := 134) rfl)) (hw _ (List.mem_of_getElem? (i := 135) rfl)) (hw _ (List.mem_of_getElem? (i := 38) rfl)) (hw _ (List.mem_of_getElem? (i := 136) rfl)) (by decide) pd___BIII_I rfl rfl rfl (by decide) (by show (0 : Nat) + (4 + 11) + 58 ≤ _; decide) (by decide) (by decide) (by decide) (by decide) (pc' := 36) rfl ?_
    rintro _ _ ⟨_, rfl, rfl, rfl⟩
    show Run l Z n0 "java/lang/String" jdk_42_method_80_code 3 (some .int) "indexOf" ({ frames := 5, cells := 0, slots := 0, locals := 73 } : Room) _ 36 #[.val (.ref t), .val (.int ch), .val (.int (0 : Int32))] [(.int (own_ix cs ch))] h0 0 0
    exact Run.ireturn d14_36 rfl (by decide) (by decide) ⟨_, rfl, rfl, rfl⟩
  · -- pc 4 not taken: ¬ (own_isl cs) = (0 : Int32)
    refine Run.aloadN d14_7 rfl rfl (pc' := 8) rfl ?_
    refine Run.getF d14_8 (host := "") (Or.inl (hw _ (List.mem_of_getElem? (i := 24) rfl))) Via.refl FV (pc' := 11) rfl ?_
    refine Run.iloadN d14_11 rfl (pc' := 12) rfl ?_
    refine Run.iloadN d14_12 rfl (pc' := 13) rfl ?_
    refine Run.aloadN d14_13 rfl rfl (pc' := 14) rfl ?_
    refine Run.callV (k' := 0) (n' := 0) (a := t) (as := []) (rest := [(.int (0 : Int32)), (.int ch), (.ref b)]) (con_len l Z a0 hw n0 h0 Z0 t b cs cz od0 SZ hcz E1 FV FC AB hn) E1 d14_14 (hw _ (List.mem_of_getElem? (i := 76) rfl)) (hw _ (List.mem_of_getElem? (i := 77) rfl)) (fun s hZ => notFace_of_selects (args := #[]) (mvT hZ (hw _ (List.mem_of_getElem? (i := 79) rfl)))) (hw _ (List.mem_of_getElem? (i := 79) rfl)) (hw _ (List.mem_of_getElem? (i := 78) rfl)) (hw _ (List.mem_of_getElem? (i := 6) rfl)) (hw _ (List.mem_of_getElem? (i := 80) rfl)) (by decide) pd___I rfl rfl rfl (by decide) (by show (3 : Nat) + (1 + 11) + 13 ≤ _; decide) (by decide) (by decide) (by decide) (by decide) (pc' := 17) rfl ?_
    rintro _ _ ⟨_, rfl, rfl, rfl⟩
    show Run l Z n0 "java/lang/String" jdk_42_method_80_code 3 (some .int) "indexOf" ({ frames := 5, cells := 0, slots := 0, locals := 73 } : Room) _ 17 #[.val (.ref t), .val (.int ch), .val (.int (0 : Int32))] [(.int (Int32.ofNat cs.length)), (.int (0 : Int32)), (.int ch), (.ref b)] h0 0 0
    refine Run.callS (k' := 0) (n' := 0) (as := [(.ref b), (.int ch), (.int (0 : Int32)), (.int (Int32.ofNat cs.length))]) (rest := []) (con_lio l Z a0 hw n0 h0 Z0  b cs ch (own_isl1 hc4) (own_encP (own_isl1 hc4) ▸ AB) hn hch gc gc2) d14_17 (hw _ (List.mem_of_getElem? (i := 86) rfl)) (hw _ (List.mem_of_getElem? (i := 87) rfl)) (hw _ (List.mem_of_getElem? (i := 58) rfl)) (hw _ (List.mem_of_getElem? (i := 88) rfl)) (by decide) pd___BIII_I rfl rfl rfl (by decide) (by show (0 : Nat) + (4 + 11) + 17 ≤ _; decide) (by decide) (by decide) (by decide) (by decide) (pc' := 20) rfl ?_
    rintro _ _ ⟨_, rfl, rfl, rfl⟩
    show Run l Z n0 "java/lang/String" jdk_42_method_80_code 3 (some .int) "indexOf" ({ frames := 5, cells := 0, slots := 0, locals := 73 } : Room) _ 20 #[.val (.ref t), .val (.int ch), .val (.int (0 : Int32))] [(.int (own_ix cs ch))] h0 0 0
    refine Run.goto d14_20 (by decide) (pc' := 36) (by decide) ?_
    exact Run.ireturn d14_36 rfl (by decide) (by decide) ⟨_, rfl, rfl, rfl⟩
theorem d13_0 : decode jdk_42_method_79_code 0 = .ok (.aload_n 0, 1) := by decide +kernel
theorem d13_1 : decode jdk_42_method_79_code 1 = .ok (.iload_n 1, 1) := by decide +kernel
theorem d13_2 : decode jdk_42_method_79_code 2 = .ok (.iconst 0, 1) := by decide +kernel
theorem d13_3 : decode jdk_42_method_79_code 3 = .ok (.invokevirtual 633, 3) := by decide +kernel
theorem d13_6 : decode jdk_42_method_79_code 6 = .ok (.ireturn, 1) := by decide +kernel
theorem pn_13 : plainFor (⟨"java/lang/String", "indexOf", "(I)I"⟩ : MethodName) = true := plainFor_of_name (by first | (simp [plainName, overriddenIn]; done) | decide +kernel)
theorem ef_con_six (m : MethodId) (t b : Addr) (cs : List Int32) (ch : Int32) (fm : Value) (cz : Int32)  : entryFrame m #[(.ref t), (.int ch)] 2 = mkF m 0 #[.val (.ref t), .val (.int ch)] [] := by first | (simp [entryFrame, mkF, argsToLocals, Value.category]; done) | rfl
set_option maxRecDepth 65536 in
set_option maxHeartbeats 40000000 in
theorem con_six (l : Launch) (Z : State) (a0 : Array Value) (hw : ∀ d ∈ tables_1, d.before a0 Z = true) (n0 : Nat) (h0 : Heap) (Z0 : n0 ≤ h0.size) (t b : Addr) (cs : List Int32) (ch : Int32) (fm : Value) (cz : Int32) (od0 : Old Z n0 h0) (SF : Sta Z Z.heap "jdk/internal/util/Preconditions" "SIOOBE_FORMATTER" "Ljava/util/function/BiFunction;" fm) (hfm : fm.isRef = true) (SD : Sta Z Z.heap "java/lang/StringUTF16" "$assertionsDisabled" "Z" (.int (1 : Int32))) (SH8 : Sta Z Z.heap "java/lang/StringUTF16" "HI_BYTE_SHIFT" "I" (.int (0 : Int32))) (SL8 : Sta Z Z.heap "java/lang/StringUTF16" "LO_BYTE_SHIFT" "I" (.int (8 : Int32))) (SZ : Sta Z Z.heap "java/lang/String" "COMPACT_STRINGS" "Z" (.int cz)) (hcz : ¬ cz = 0) (E1 : Exa Z h0 t "java/lang/String") (FV : Fld Z h0 t "java/lang/String" "value" "[B" (.ref b)) (FC : Fld Z h0 t "java/lang/String" "coder" "B" (.int (own_coder cs))) (AB : Ary Z h0 b .byte (own_enc cs)) (hn : cs.length ≤ 3) (hch : own_chr cs) (gc : 0 ≤ ch.toInt) (gc2 : ¬ (255 : Int32) < ch) :
    Con l Z n0 (⟨"java/lang/String", "indexOf", "(I)I"⟩ : MethodName) jdk_42_method_79_code 2 (some .int) ({ frames := 6, cells := 0, slots := 0, locals := 87 } : Room) #[(.ref t), (.int ch)] h0 (Val (PV (.int (own_ix cs ch)) h0)) := by
  refine Con.of_run pn_13 (fun m => ef_con_six m t b cs ch fm cz ) ?_
  refine Run.aloadN d13_0 rfl rfl (pc' := 1) rfl ?_
  refine Run.iloadN d13_1 rfl (pc' := 2) rfl ?_
  refine Run.iconst (0 : Int32) d13_2 (by decide) (pc' := 3) rfl ?_
  refine Run.callV (k' := 0) (n' := 0) (a := t) (as := [(.int ch), (.int (0 : Int32))]) (rest := []) (con_six2 l Z a0 hw n0 h0 Z0 t b cs ch fm cz od0 SF hfm SD SH8 SL8 SZ hcz E1 FV FC AB hn hch gc gc2) E1 d13_3 (hw _ (List.mem_of_getElem? (i := 66) rfl)) (hw _ (List.mem_of_getElem? (i := 67) rfl)) (fun s hZ => notFace_of_selects (args := #[]) (mvT hZ (hw _ (List.mem_of_getElem? (i := 69) rfl)))) (hw _ (List.mem_of_getElem? (i := 69) rfl)) (hw _ (List.mem_of_getElem? (i := 68) rfl)) (hw _ (List.mem_of_getElem? (i := 6) rfl)) (hw _ (List.mem_of_getElem? (i := 70) rfl)) (by decide) pd__II_I rfl rfl rfl (by decide) (by show (0 : Nat) + (3 + 11) + 73 ≤ _; decide) (by decide) (by decide) (by decide) (by decide) (pc' := 6) rfl ?_
  rintro _ _ ⟨_, rfl, rfl, rfl⟩
  show Run l Z n0 "java/lang/String" jdk_42_method_79_code 2 (some .int) "indexOf" ({ frames := 6, cells := 0, slots := 0, locals := 87 } : Room) _ 6 #[.val (.ref t), .val (.int ch)] [(.int (own_ix cs ch))] h0 0 0
  exact Run.ireturn d13_6 rfl (by decide) (by decide) ⟨_, rfl, rfl, rfl⟩
def own_EL : List (String × Nat) := [("java/lang/String", 7), ("com/example/callimachus/callimachus/Location", 83), ("com/example/callimachus/callimachus/Location", 89)]
theorem own_EW {Z : State} {a0 : Array Value} (hw : ∀ d ∈ tables_1, d.before a0 Z = true) : EW Z a0 own_EL := EW.cons (hw _ (List.mem_of_getElem? (i := 18) rfl)) (by decide) (EW.cons (hw _ (List.mem_of_getElem? (i := 49) rfl)) (by decide) (EW.cons (hw _ (List.mem_of_getElem? (i := 60) rfl)) (by decide) (EW.nil)))
theorem own_wS {Z : State} {a0 : Array Value} (hw : ∀ d ∈ tables_1, d.before a0 Z = true) : ∀ a ∈ Bundle.stringAtoms, a.before a0 Z = true := by
  intro d hd
  simp only [Bundle.stringAtoms, List.mem_cons, List.not_mem_nil, or_false] at hd
  rcases hd with rfl | rfl | rfl | rfl | rfl | rfl | rfl
  · exact (hw _ (List.mem_of_getElem? (i := 6) rfl))
  · exact (hw _ (List.mem_of_getElem? (i := 5) rfl))
  · exact (hw _ (List.mem_of_getElem? (i := 19) rfl))
  · exact (hw _ (List.mem_of_getElem? (i := 20) rfl))
  · exact (hw _ (List.mem_of_getElem? (i := 21) rfl))
  · exact (hw _ (List.mem_of_getElem? (i := 22) rfl))
  · exact (hw _ (List.mem_of_getElem? (i := 23) rfl))
theorem own_heldc {tb : Tables} {e : Env} {args : Array Value} {s : State} (h : Calls_1 tb e args s) : ∀ p ∈ own_EL, Jvm.Lit.constHeld s p.1 p.2 := by
  intro p hp
  refine h.1 p ?_
  have : ∀ p ∈ own_EL, p ∈ consts_1 := by decide
  exact this p hp
theorem ef_con_si0 (m : MethodId) (t a : Addr) (uv uc : Value)  : entryFrame m #[(.ref t), (.ref a), (.int (0 : Int32)), (.int (0 : Int32)), .null] 6 = mkF m 0 #[.val (.ref t), .val (.ref a), .val (.int (0 : Int32)), .val (.int (0 : Int32)), .val .null, .unset] [] := by first | (simp [entryFrame, mkF, argsToLocals, Value.category]; done) | rfl
set_option maxRecDepth 65536 in
set_option maxHeartbeats 40000000 in
theorem con_si0 (l : Launch) (Z : State) (a0 : Array Value) (hw : ∀ d ∈ tables_1, d.before a0 Z = true) (n0 : Nat) (h0 : Heap) (Z0 : n0 ≤ h0.size) (t a : Addr) (uv uc : Value) (X1 : Exa Z h0 t "java/lang/String") (gt : n0 ≤ t) (FV : Fld Z h0 t "java/lang/String" "value" "[B" uv) (FC : Fld Z h0 t "java/lang/String" "coder" "B" uc) :
    ConW l Z own_EL n0 (⟨"java/lang/String", "<init>", "([CIILjava/lang/Void;)V"⟩ : MethodName) jdk_42_method_149_code 6 none ({ frames := 1, cells := 4, slots := 8, locals := 12 } : Room) #[(.ref t), (.ref a), (.int (0 : Int32)), (.int (0 : Int32)), .null] h0 [t] (Vd fun h' => ∃ b, Keep h0 h' [t] ∧ Exa Z h' t "java/lang/String" ∧ Fld Z h' t "java/lang/String" "value" "[B" (.ref b) ∧ Fld Z h' t "java/lang/String" "coder" "B" (.int (0 : Int32)) ∧ Ary Z h' b .byte []) := by
  refine ConW.of_run (own_EW hw) pn_3 (fun m => ef_con_si0 m t a uv uc ) ?_
  intro vm hal hsf
  have sf_t := hsf t (List.mem_of_getElem? (i := 0) rfl)
  refine RunW.aloadN d3_0 rfl rfl (pc' := 1) rfl ?_
  refine RunW.initO d3_1 (hw _ (List.mem_of_getElem? (i := 15) rfl)) (hw _ (List.mem_of_getElem? (i := 16) rfl)) (hw _ (List.mem_of_getElem? (i := 17) rfl)) rfl (by decide) (by show (0 : Nat) + 12 ≤ _; decide) (pc' := 4) rfl ?_
  refine RunW.iloadN d3_4 rfl (pc' := 5) rfl ?_
  refine RunW.if_ne d3_5 (by decide) (pc' := 27) (by decide) (pa := 8) rfl (fun hc5 => ?_) (fun hc5 => ?_)
  · -- pc 5 taken: ¬ (0 : Int32) = (0 : Int32)
    exact absurd hc5 (by decide)
  · -- pc 5 not taken: (0 : Int32) = (0 : Int32)
    refine RunW.aloadN d3_8 rfl rfl (pc' := 9) rfl ?_
    refine RunW.ldcT (len := 0) (z := (0 : Int32)) (bs := []) (k' := 2) (n' := 4) d3_9 (hw _ (List.mem_of_getElem? (i := 18) rfl)) (own_wS hw) (own_EW hw) (List.mem_of_getElem? (i := 0) rfl) (by decide) (by decide) (by decide) (by decide) (by decide) (by decide) (by decide) (by decide) (pc' := 11) rfl ?_
    intro h11 vm11 a11 b11 E11 c11 X11 FC11 FV11 A11 ns11
    have E_t_11 := X1.ext E11
    have F_t_value_11 := FV.ext E11
    have F_t_coder_11 := FC.ext E11
    have Z_t_11 := CHr.safe c11 X1.lt sf_t
    have sz11 : n0 ≤ h11.size := Nat.le_trans Z0 E11.1
    have kp11 := Keep.ext (Keep.refl h0 [t]) E11
    have ne_t_a11 := (ns11 t Z_t_11).1
    have ne_t_b11 := (ns11 t Z_t_11).2
    refine RunW.getF d3_11 (host := "") (Or.inl (hw _ (List.mem_of_getElem? (i := 24) rfl))) Via.refl FV11 (pc' := 14) rfl ?_
    refine RunW.putF d3_14 (host := "") (Or.inl (hw _ (List.mem_of_getElem? (i := 24) rfl))) Via.refl F_t_value_11 E_t_11 (Or.inr ⟨(hw _ (List.mem_of_getElem? (i := 20) rfl)), rfl, rfl⟩) (hw _ (List.mem_of_getElem? (i := 5) rfl)) (ty := (.array .byte)) (by decide) (go_narref rfl rfl) rfl gt Z_t_11 (pc' := 17) rfl ?_
    intro h12 W12 c12
    have Fw12 := F_t_value_11.same W12
    have E_t_12 := E_t_11.wr W12
    have F_t_coder_12 := F_t_coder_11.other W12 (Or.inr (slot_ne (Or.inr (hw _ (List.mem_of_getElem? (i := 21) rfl))) (Or.inr (hw _ (List.mem_of_getElem? (i := 20) rfl))) (by decide) (t := .byte) (t' := (.array .byte)) (by decide) (by decide)))
    have Z_t_12 := CHr.safe c12 E_t_11.lt Z_t_11
    have E_a11_12 := X11.wr W12
    have F_a11_coder_12 := FC11.other W12 (Or.inl (Ne.symm ne_t_a11))
    have F_a11_value_12 := FV11.other W12 (Or.inl (Ne.symm ne_t_a11))
    have A_b11_12 := A11.other W12 (Ne.symm ne_t_b11)
    have sz12 : n0 ≤ h12.size := by rw [W12.size]; exact sz11
    have kp12 := Keep.wr kp11 W12 (Or.inl (List.mem_of_getElem? (i := 0) rfl))
    refine RunW.aloadN d3_17 rfl rfl (pc' := 18) rfl ?_
    refine RunW.ldcT (len := 0) (z := (0 : Int32)) (bs := []) (k' := 4) (n' := 8) d3_18 (hw _ (List.mem_of_getElem? (i := 18) rfl)) (own_wS hw) (own_EW hw) (List.mem_of_getElem? (i := 0) rfl) (by decide) (by decide) (by decide) (by decide) (by decide) (by decide) (by decide) (by decide) (pc' := 20) rfl ?_
    intro h13 vm13 a13 b13 E13 c13 X13 FC13 FV13 A13 ns13
    have E_t_13 := E_t_12.ext E13
    have F_t_coder_13 := F_t_coder_12.ext E13
    have Z_t_13 := CHr.safe c13 E_t_12.lt Z_t_12
    have E_a11_13 := E_a11_12.ext E13
    have F_a11_coder_13 := F_a11_coder_12.ext E13
    have F_a11_value_13 := F_a11_value_12.ext E13
    have A_b11_13 := A_b11_12.ext E13
    have F_t_value_13 := Fw12.ext E13
    have sz13 : n0 ≤ h13.size := Nat.le_trans sz12 E13.1
    have kp13 := Keep.ext kp12 E13
    have ne_t_a13 := (ns13 t Z_t_13).1
    have ne_t_b13 := (ns13 t Z_t_13).2
    refine RunW.getF d3_20 (host := "") (Or.inl (hw _ (List.mem_of_getElem? (i := 25) rfl))) Via.refl FC13 (pc' := 23) rfl ?_
    refine RunW.putFN d3_23 (hw _ (List.mem_of_getElem? (i := 25) rfl)) Via.refl F_t_coder_13 E_t_13 (Or.inr ⟨(hw _ (List.mem_of_getElem? (i := 21) rfl)), rfl, rfl⟩) (hw _ (List.mem_of_getElem? (i := 5) rfl)) (ty := .byte) (v' := (.int (0 : Int32))) (by decide) rfl rfl gt Z_t_13 (pc' := 26) rfl ?_
    intro h14 W14 c14
    have Fw14 := F_t_coder_13.same W14
    have E_t_14 := E_t_13.wr W14
    have Z_t_14 := CHr.safe c14 E_t_13.lt Z_t_13
    have E_a11_14 := E_a11_13.wr W14
    have F_a11_coder_14 := F_a11_coder_13.other W14 (Or.inl (Ne.symm ne_t_a11))
    have F_a11_value_14 := F_a11_value_13.other W14 (Or.inl (Ne.symm ne_t_a11))
    have A_b11_14 := A_b11_13.other W14 (Ne.symm ne_t_b11)
    have F_t_value_14 := F_t_value_13.other W14 (Or.inr (slot_ne (Or.inr (hw _ (List.mem_of_getElem? (i := 20) rfl))) (Or.inr (hw _ (List.mem_of_getElem? (i := 21) rfl))) (by decide) (t := (.array .byte)) (t' := .byte) (by decide) (by decide)))
    have E_a13_14 := X13.wr W14
    have F_a13_coder_14 := FC13.other W14 (Or.inl (Ne.symm ne_t_a13))
    have F_a13_value_14 := FV13.other W14 (Or.inl (Ne.symm ne_t_a13))
    have A_b13_14 := A13.other W14 (Ne.symm ne_t_b13)
    have sz14 : n0 ≤ h14.size := by rw [W14.size]; exact sz13
    have kp14 := Keep.wr kp13 W14 (Or.inl (List.mem_of_getElem? (i := 0) rfl))
    exact RunW.vreturn d3_26 rfl (by decide) (by decide) ⟨rfl, b11, kp14, E_t_14, F_t_value_14, Fw14, A_b11_14⟩
theorem ef_con_si10 (m : MethodId) (t a : Addr) (uv uc : Value)  : entryFrame m #[(.ref t), (.ref a)] 2 = mkF m 0 #[.val (.ref t), .val (.ref a)] [] := by first | (simp [entryFrame, mkF, argsToLocals, Value.category]; done) | rfl
set_option maxRecDepth 65536 in
set_option maxHeartbeats 40000000 in
theorem con_si10 (l : Launch) (Z : State) (a0 : Array Value) (hw : ∀ d ∈ tables_1, d.before a0 Z = true) (n0 : Nat) (h0 : Heap) (Z0 : n0 ≤ h0.size) (t a : Addr) (uv uc : Value) (X1 : Exa Z h0 t "java/lang/String") (gt : n0 ≤ t) (FV : Fld Z h0 t "java/lang/String" "value" "[B" uv) (FC : Fld Z h0 t "java/lang/String" "coder" "B" uc) (AC : Ary Z h0 a .char []) :
    ConW l Z own_EL n0 (⟨"java/lang/String", "<init>", "([C)V"⟩ : MethodName) jdk_42_method_3_code 2 none ({ frames := 2, cells := 4, slots := 8, locals := 29 } : Room) #[(.ref t), (.ref a)] h0 [t] (Vd fun h' => ∃ b, Keep h0 h' [t] ∧ Exa Z h' t "java/lang/String" ∧ Fld Z h' t "java/lang/String" "value" "[B" (.ref b) ∧ Fld Z h' t "java/lang/String" "coder" "B" (.int (0 : Int32)) ∧ Ary Z h' b .byte []) := by
  refine ConW.of_run (own_EW hw) pn_2 (fun m => ef_con_si10 m t a uv uc ) ?_
  intro vm hal hsf
  have sf_t := hsf t (List.mem_of_getElem? (i := 0) rfl)
  refine RunW.aloadN d2_0 rfl rfl (pc' := 1) rfl ?_
  refine RunW.aloadN d2_1 rfl rfl (pc' := 2) rfl ?_
  refine RunW.iconst (0 : Int32) d2_2 (by decide) (pc' := 3) rfl ?_
  refine RunW.aloadN d2_3 rfl rfl (pc' := 4) rfl ?_
  refine RunW.alen (z := (0 : Int32)) d2_4 AC rfl (pc' := 5) rfl ?_
  refine RunW.aconst d2_5 (pc' := 6) rfl ?_
  refine RunW.callNW (k' := 4) (n' := 8) (a := t) (as := [(.ref a), (.int (0 : Int32)), (.int (0 : Int32)), .null]) (rest := []) (con_si0 l Z a0 hw n0 h0 Z0 t a uv uc X1 gt FV FC) (allS sf_t all0) (own_EW hw) rfl rfl d2_6 (hw _ (List.mem_of_getElem? (i := 11) rfl)) (hw _ (List.mem_of_getElem? (i := 12) rfl)) (hw _ (List.mem_of_getElem? (i := 6) rfl)) (hw _ (List.mem_of_getElem? (i := 14) rfl)) (by decide) pd___CIILjava_lang_Void__V rfl rfl rfl (by decide) (by show (0 : Nat) + (6 + 11) + 12 ≤ _; decide) (by decide) (by decide) (by decide) (by decide) (pc' := 9) rfl ?_
  rintro _ h11 vm11 ⟨rfl, ⟨b11, K11, X11, FV11, FC11, P11⟩⟩ c11
  show RunW l Z own_EL n0 "java/lang/String" jdk_42_method_3_code 2 none "<init>" ({ frames := 2, cells := 4, slots := 8, locals := 29 } : Room) _ 9 #[.val (.ref t), .val (.ref a)] [] h11 vm11 4 8
  have E_t_11 := X1.keep K11
  have Z_t_11 := CHr.safe c11 X1.lt sf_t
  have sz11 : n0 ≤ h11.size := Nat.le_trans Z0 K11.1
  have kp11 := Keep.trans (Keep.refl h0 [t]) K11 (allS (Or.inl (List.mem_of_getElem? (i := 0) rfl)) all0)
  exact RunW.vreturn d2_9 rfl (by decide) (by decide) ⟨rfl, b11, kp11, X11, FV11, FC11, P11⟩
theorem own_l1c : own_coder [(46 : Int32)] = 0 := by decide
theorem own_l1e : own_enc [(46 : Int32)] = [.int (46 : Int32)] := by unfold own_enc; rw [if_pos (by decide)]; rfl
theorem own_l2c : own_coder [(46 : Int32), (46 : Int32)] = 0 := by decide
theorem own_l2e : own_enc [(46 : Int32), (46 : Int32)] = [.int (46 : Int32), .int (46 : Int32)] := by unfold own_enc; rw [if_pos (by decide)]; rfl
theorem own_l0c : own_coder [] = 0 := by decide
theorem own_l0e : own_enc [] = [] := rfl
theorem own_l1q : own_chr [(46 : Int32)] := by intro c hc; simp only [List.mem_cons, List.not_mem_nil, or_false] at hc; subst hc; decide
theorem own_l2q : own_chr [(46 : Int32), (46 : Int32)] := by intro c hc; simp only [List.mem_cons, List.not_mem_nil, or_false, or_self] at hc; subst hc; decide
def own_ifn (cs : List Int32) : Int32 := if ¬ own_emp cs = 0 then 0 else if ¬ own_eq cs [46] = 0 then 0 else if ¬ own_eq cs [46, 46] = 0 then 0 else if ¬ own_ix cs 47 < 0 then 0 else if ¬ own_ix cs 0 < 0 then 0 else 1
theorem d5_0 : decode prog_13_method_8_code 0 = .ok (.aload_n 0, 1) := by decide +kernel
theorem d5_1 : decode prog_13_method_8_code 1 = .ok (.invokevirtual 77, 3) := by decide +kernel
theorem d5_4 : decode prog_13_method_8_code 4 = .ok (.ifCond .ne 42, 3) := by decide +kernel
theorem d5_7 : decode prog_13_method_8_code 7 = .ok (.aload_n 0, 1) := by decide +kernel
theorem d5_8 : decode prog_13_method_8_code 8 = .ok (.ldc 83, 2) := by decide +kernel
theorem d5_10 : decode prog_13_method_8_code 10 = .ok (.invokevirtual 85, 3) := by decide +kernel
theorem d5_13 : decode prog_13_method_8_code 13 = .ok (.ifCond .ne 33, 3) := by decide +kernel
theorem d5_16 : decode prog_13_method_8_code 16 = .ok (.aload_n 0, 1) := by decide +kernel
theorem d5_17 : decode prog_13_method_8_code 17 = .ok (.ldc 89, 2) := by decide +kernel
theorem d5_19 : decode prog_13_method_8_code 19 = .ok (.invokevirtual 85, 3) := by decide +kernel
theorem d5_22 : decode prog_13_method_8_code 22 = .ok (.ifCond .ne 24, 3) := by decide +kernel
theorem d5_25 : decode prog_13_method_8_code 25 = .ok (.aload_n 0, 1) := by decide +kernel
theorem d5_26 : decode prog_13_method_8_code 26 = .ok (.bipush 47, 2) := by decide +kernel
theorem d5_28 : decode prog_13_method_8_code 28 = .ok (.invokevirtual 91, 3) := by decide +kernel
theorem d5_31 : decode prog_13_method_8_code 31 = .ok (.ifCond .ge 15, 3) := by decide +kernel
theorem d5_34 : decode prog_13_method_8_code 34 = .ok (.aload_n 0, 1) := by decide +kernel
theorem d5_35 : decode prog_13_method_8_code 35 = .ok (.iconst 0, 1) := by decide +kernel
theorem d5_36 : decode prog_13_method_8_code 36 = .ok (.invokevirtual 91, 3) := by decide +kernel
theorem d5_39 : decode prog_13_method_8_code 39 = .ok (.ifCond .ge 7, 3) := by decide +kernel
theorem d5_42 : decode prog_13_method_8_code 42 = .ok (.iconst 1, 1) := by decide +kernel
theorem d5_43 : decode prog_13_method_8_code 43 = .ok (.goto 4, 3) := by decide +kernel
theorem d5_46 : decode prog_13_method_8_code 46 = .ok (.iconst 0, 1) := by decide +kernel
theorem d5_47 : decode prog_13_method_8_code 47 = .ok (.ireturn, 1) := by decide +kernel
theorem pn_5 : plainFor (⟨"com/example/callimachus/callimachus/Location", "isFileName", "(Ljava/lang/String;)Z"⟩ : MethodName) = true := plainFor_of_name (by first | (simp [plainName, overriddenIn]; done) | decide +kernel)
theorem pd__Ljava_lang_Object__Z : parseMethodDescriptor "(Ljava/lang/Object;)Z" = some ⟨[(.object "java/lang/Object")], some .boolean⟩ := by decide +kernel
theorem ef_con_ifn (m : MethodId) (t b : Addr) (cs : List Int32) (fm : Value) (cz : Int32)  : entryFrame m #[(.ref t)] 1 = mkF m 0 #[.val (.ref t)] [] := by first | (simp [entryFrame, mkF, argsToLocals, Value.category]; done) | rfl
set_option maxRecDepth 65536 in
set_option maxHeartbeats 40000000 in
theorem con_ifn (l : Launch) (Z : State) (a0 : Array Value) (hw : ∀ d ∈ tables_1, d.before a0 Z = true) (n0 : Nat) (h0 : Heap) (Z0 : n0 ≤ h0.size) (t b : Addr) (cs : List Int32) (fm : Value) (cz : Int32) (od0 : Old Z n0 h0) (SF : Sta Z Z.heap "jdk/internal/util/Preconditions" "SIOOBE_FORMATTER" "Ljava/util/function/BiFunction;" fm) (hfm : fm.isRef = true) (SD : Sta Z Z.heap "java/lang/StringUTF16" "$assertionsDisabled" "Z" (.int (1 : Int32))) (SH8 : Sta Z Z.heap "java/lang/StringUTF16" "HI_BYTE_SHIFT" "I" (.int (0 : Int32))) (SL8 : Sta Z Z.heap "java/lang/StringUTF16" "LO_BYTE_SHIFT" "I" (.int (8 : Int32))) (SZ : Sta Z Z.heap "java/lang/String" "COMPACT_STRINGS" "Z" (.int cz)) (hcz : ¬ cz = 0) (E1 : Exa Z h0 t "java/lang/String") (FV : Fld Z h0 t "java/lang/String" "value" "[B" (.ref b)) (FC : Fld Z h0 t "java/lang/String" "coder" "B" (.int (own_coder cs))) (AB : Ary Z h0 b .byte (own_enc cs)) (hn : cs.length ≤ 3) (hch : own_chr cs) :
    ConW l Z own_EL n0 (⟨"com/example/callimachus/callimachus/Location", "isFileName", "(Ljava/lang/String;)Z"⟩ : MethodName) prog_13_method_8_code 1 (some .boolean) ({ frames := 7, cells := 4, slots := 20, locals := 100 } : Room) #[(.ref t)] h0 [] (Val fun w h' => .int (own_ifn cs) = w ∧ Ext h0 h') := by
  refine ConW.of_run (own_EW hw) pn_5 (fun m => ef_con_ifn m t b cs fm cz ) ?_
  intro vm hal hsf
  refine RunW.aloadN d5_0 rfl rfl (pc' := 1) rfl ?_
  refine RunW.callV (k' := 0) (n' := 0) (a := t) (as := []) (rest := []) (con_emp l Z a0 hw n0 h0 Z0 t b cs FV AB hn) (by rintro _ _ ⟨_, -, -, rfl⟩; exact ⟨[], Keep.refl _ _, all0⟩) E1 d5_1 (hw _ (List.mem_of_getElem? (i := 30) rfl)) (hw _ (List.mem_of_getElem? (i := 31) rfl)) (fun s hZ => notFace_of_selects (args := #[]) (mvT hZ (hw _ (List.mem_of_getElem? (i := 33) rfl)))) (hw _ (List.mem_of_getElem? (i := 33) rfl)) (hw _ (List.mem_of_getElem? (i := 32) rfl)) (hw _ (List.mem_of_getElem? (i := 6) rfl)) (hw _ (List.mem_of_getElem? (i := 34) rfl)) (by decide) pd___Z rfl rfl rfl (by decide) (by show (0 : Nat) + (1 + 11) + 0 ≤ _; decide) (by decide) (by decide) (by decide) (by decide) (pc' := 4) rfl ?_
  rintro _ _ ⟨_, rfl, rfl, rfl⟩ -
  show RunW l Z own_EL n0 "com/example/callimachus/callimachus/Location" prog_13_method_8_code 1 (some .boolean) "isFileName" ({ frames := 7, cells := 4, slots := 20, locals := 100 } : Room) _ 4 #[.val (.ref t)] [(.int (own_emp cs))] h0 vm 0 0
  refine RunW.if_ne d5_4 (by decide) (pc' := 46) (by decide) (pa := 7) rfl (fun hc4 => ?_) (fun hc4 => ?_)
  · -- pc 4 taken: ¬ (own_emp cs) = (0 : Int32)
    refine RunW.iconst (0 : Int32) d5_46 (by decide) (pc' := 47) rfl ?_
    exact RunW.nreturn d5_47 (ty := .boolean) rfl (by simp) (by decide) (by decide) ⟨_, rfl, congrArg Value.int (by unfold own_ifn; rw [if_pos hc4]; rfl), Keep.toExt (Keep.refl h0 [])⟩
  · -- pc 4 not taken: (own_emp cs) = (0 : Int32)
    refine RunW.aloadN d5_7 rfl rfl (pc' := 8) rfl ?_
    refine RunW.ldcT (len := 4) (z := (1 : Int32)) (bs := [(.int (46 : Int32))]) (k' := 2) (n' := 8) d5_8 (hw _ (List.mem_of_getElem? (i := 49) rfl)) (own_wS hw) (own_EW hw) (List.mem_of_getElem? (i := 1) rfl) (by decide) (by decide) (by decide) (by decide) (by decide) (by decide) (by decide) (by decide) (pc' := 10) rfl ?_
    intro h11 vm11 a11 b11 E11 c11 X11 FC11 FV11 A11 ns11
    have E_t_11 := E1.ext E11
    have F_t_value_11 := FV.ext E11
    have F_t_coder_11 := FC.ext E11
    have A_b_11 := AB.ext E11
    have sz11 : n0 ≤ h11.size := Nat.le_trans Z0 E11.1
    have kp11 := Keep.ext (Keep.refl h0 []) E11
    have od11 := od0.ext E11
    have FCl12 : Fld Z h11 a11 "java/lang/String" "coder" "B" (.int (own_coder [(46 : Int32)])) := by rw [own_l1c]; exact FC11
    have ABl12 : Ary Z h11 b11 .byte (own_enc [(46 : Int32)]) := by rw [own_l1e]; exact A11
    refine RunW.callV (k' := 2) (n' := 8) (a := t) (as := [(.ref a11)]) (rest := []) (con_seq l Z a0 hw n0 h11 sz11 t b a11 b11 cs [(46 : Int32)] cz od11 SZ hcz E_t_11 F_t_value_11 F_t_coder_11 A_b_11 X11 FV11 FCl12 ABl12 hn hch (by decide) own_l1q) (by rintro _ _ ⟨_, -, -, rfl⟩; exact ⟨[], Keep.refl _ _, all0⟩) E_t_11 d5_10 (hw _ (List.mem_of_getElem? (i := 50) rfl)) (hw _ (List.mem_of_getElem? (i := 51) rfl)) (fun s hZ => notFace_of_selects (args := #[]) (mvT hZ (hw _ (List.mem_of_getElem? (i := 53) rfl)))) (hw _ (List.mem_of_getElem? (i := 53) rfl)) (hw _ (List.mem_of_getElem? (i := 52) rfl)) (hw _ (List.mem_of_getElem? (i := 6) rfl)) (hw _ (List.mem_of_getElem? (i := 54) rfl)) (by decide) pd__Ljava_lang_Object__Z rfl rfl rfl (by decide) (by show (0 : Nat) + (3 + 11) + 14 ≤ _; decide) (by decide) (by decide) (by decide) (by decide) (pc' := 13) rfl ?_
    rintro _ _ ⟨_, rfl, rfl, rfl⟩ -
    show RunW l Z own_EL n0 "com/example/callimachus/callimachus/Location" prog_13_method_8_code 1 (some .boolean) "isFileName" ({ frames := 7, cells := 4, slots := 20, locals := 100 } : Room) _ 13 #[.val (.ref t)] [(.int (own_eq cs [(46 : Int32)]))] h11 vm11 2 8
    refine RunW.if_ne d5_13 (by decide) (pc' := 46) (by decide) (pa := 16) rfl (fun hc13 => ?_) (fun hc13 => ?_)
    · -- pc 13 taken: ¬ (own_eq cs [(46 : Int32)]) = (0 : Int32)
      refine RunW.iconst (0 : Int32) d5_46 (by decide) (pc' := 47) rfl ?_
      exact RunW.nreturn d5_47 (ty := .boolean) rfl (by simp) (by decide) (by decide) ⟨_, rfl, congrArg Value.int (by unfold own_ifn; rw [if_neg (fun z => z hc4), if_pos hc13]; rfl), Keep.toExt kp11⟩
    · -- pc 13 not taken: (own_eq cs [(46 : Int32)]) = (0 : Int32)
      refine RunW.aloadN d5_16 rfl rfl (pc' := 17) rfl ?_
      refine RunW.ldcT (len := 8) (z := (2 : Int32)) (bs := [(.int (46 : Int32)), (.int (46 : Int32))]) (k' := 4) (n' := 20) d5_17 (hw _ (List.mem_of_getElem? (i := 60) rfl)) (own_wS hw) (own_EW hw) (List.mem_of_getElem? (i := 2) rfl) (by decide) (by decide) (by decide) (by decide) (by decide) (by decide) (by decide) (by decide) (pc' := 19) rfl ?_
      intro h13 vm13 a13 b13 E13 c13 X13 FC13 FV13 A13 ns13
      have E_t_13 := E_t_11.ext E13
      have F_t_value_13 := F_t_value_11.ext E13
      have F_t_coder_13 := F_t_coder_11.ext E13
      have A_b_13 := A_b_11.ext E13
      have E_a11_13 := X11.ext E13
      have F_a11_coder_13 := FCl12.ext E13
      have F_a11_value_13 := FV11.ext E13
      have A_b11_13 := ABl12.ext E13
      have sz13 : n0 ≤ h13.size := Nat.le_trans sz11 E13.1
      have kp13 := Keep.ext kp11 E13
      have od13 := od11.ext E13
      have FCl14 : Fld Z h13 a13 "java/lang/String" "coder" "B" (.int (own_coder [(46 : Int32), (46 : Int32)])) := by rw [own_l2c]; exact FC13
      have ABl14 : Ary Z h13 b13 .byte (own_enc [(46 : Int32), (46 : Int32)]) := by rw [own_l2e]; exact A13
      refine RunW.callV (k' := 4) (n' := 20) (a := t) (as := [(.ref a13)]) (rest := []) (con_seq l Z a0 hw n0 h13 sz13 t b a13 b13 cs [(46 : Int32), (46 : Int32)] cz od13 SZ hcz E_t_13 F_t_value_13 F_t_coder_13 A_b_13 X13 FV13 FCl14 ABl14 hn hch (by decide) own_l2q) (by rintro _ _ ⟨_, -, -, rfl⟩; exact ⟨[], Keep.refl _ _, all0⟩) E_t_13 d5_19 (hw _ (List.mem_of_getElem? (i := 50) rfl)) (hw _ (List.mem_of_getElem? (i := 51) rfl)) (fun s hZ => notFace_of_selects (args := #[]) (mvT hZ (hw _ (List.mem_of_getElem? (i := 53) rfl)))) (hw _ (List.mem_of_getElem? (i := 53) rfl)) (hw _ (List.mem_of_getElem? (i := 52) rfl)) (hw _ (List.mem_of_getElem? (i := 6) rfl)) (hw _ (List.mem_of_getElem? (i := 54) rfl)) (by decide) pd__Ljava_lang_Object__Z rfl rfl rfl (by decide) (by show (0 : Nat) + (3 + 11) + 14 ≤ _; decide) (by decide) (by decide) (by decide) (by decide) (pc' := 22) rfl ?_
      rintro _ _ ⟨_, rfl, rfl, rfl⟩ -
      show RunW l Z own_EL n0 "com/example/callimachus/callimachus/Location" prog_13_method_8_code 1 (some .boolean) "isFileName" ({ frames := 7, cells := 4, slots := 20, locals := 100 } : Room) _ 22 #[.val (.ref t)] [(.int (own_eq cs [(46 : Int32), (46 : Int32)]))] h13 vm13 4 20
      refine RunW.if_ne d5_22 (by decide) (pc' := 46) (by decide) (pa := 25) rfl (fun hc22 => ?_) (fun hc22 => ?_)
      · -- pc 22 taken: ¬ (own_eq cs [(46 : Int32), (46 : Int32)]) = (0 : Int32)
        refine RunW.iconst (0 : Int32) d5_46 (by decide) (pc' := 47) rfl ?_
        exact RunW.nreturn d5_47 (ty := .boolean) rfl (by simp) (by decide) (by decide) ⟨_, rfl, congrArg Value.int (by unfold own_ifn; rw [if_neg (fun z => z hc4), if_neg (fun z => z hc13), if_pos hc22]; rfl), Keep.toExt kp13⟩
      · -- pc 22 not taken: (own_eq cs [(46 : Int32), (46 : Int32)]) = (0 : Int32)
        refine RunW.aloadN d5_25 rfl rfl (pc' := 26) rfl ?_
        refine RunW.bipush (47 : Int32) d5_26 (by decide) (pc' := 28) rfl ?_
        refine RunW.callV (k' := 4) (n' := 20) (a := t) (as := [(.int (47 : Int32))]) (rest := []) (con_six l Z a0 hw n0 h13 sz13 t b cs (47 : Int32) fm cz od13 SF hfm SD SH8 SL8 SZ hcz E_t_13 F_t_value_13 F_t_coder_13 A_b_13 hn hch (by decide) (by decide)) (by rintro _ _ ⟨_, -, -, rfl⟩; exact ⟨[], Keep.refl _ _, all0⟩) E_t_13 d5_28 (hw _ (List.mem_of_getElem? (i := 61) rfl)) (hw _ (List.mem_of_getElem? (i := 62) rfl)) (fun s hZ => notFace_of_selects (args := #[]) (mvT hZ (hw _ (List.mem_of_getElem? (i := 64) rfl)))) (hw _ (List.mem_of_getElem? (i := 64) rfl)) (hw _ (List.mem_of_getElem? (i := 63) rfl)) (hw _ (List.mem_of_getElem? (i := 6) rfl)) (hw _ (List.mem_of_getElem? (i := 65) rfl)) (by decide) pd__I_I rfl rfl rfl (by decide) (by show (0 : Nat) + (2 + 11) + 87 ≤ _; decide) (by decide) (by decide) (by decide) (by decide) (pc' := 31) rfl ?_
        rintro _ _ ⟨_, rfl, rfl, rfl⟩ -
        show RunW l Z own_EL n0 "com/example/callimachus/callimachus/Location" prog_13_method_8_code 1 (some .boolean) "isFileName" ({ frames := 7, cells := 4, slots := 20, locals := 100 } : Room) _ 31 #[.val (.ref t)] [(.int (own_ix cs (47 : Int32)))] h13 vm13 4 20
        refine RunW.if_ge d5_31 (by decide) (pc' := 46) (by decide) (pa := 34) rfl (fun hc31 => ?_) (fun hc31 => ?_)
        · -- pc 31 taken: ¬ (own_ix cs (47 : Int32)) < (0 : Int32)
          refine RunW.iconst (0 : Int32) d5_46 (by decide) (pc' := 47) rfl ?_
          exact RunW.nreturn d5_47 (ty := .boolean) rfl (by simp) (by decide) (by decide) ⟨_, rfl, congrArg Value.int (by unfold own_ifn; rw [if_neg (fun z => z hc4), if_neg (fun z => z hc13), if_neg (fun z => z hc22), if_pos hc31]; rfl), Keep.toExt kp13⟩
        · -- pc 31 not taken: (own_ix cs (47 : Int32)) < (0 : Int32)
          refine RunW.aloadN d5_34 rfl rfl (pc' := 35) rfl ?_
          refine RunW.iconst (0 : Int32) d5_35 (by decide) (pc' := 36) rfl ?_
          refine RunW.callV (k' := 4) (n' := 20) (a := t) (as := [(.int (0 : Int32))]) (rest := []) (con_six l Z a0 hw n0 h13 sz13 t b cs (0 : Int32) fm cz od13 SF hfm SD SH8 SL8 SZ hcz E_t_13 F_t_value_13 F_t_coder_13 A_b_13 hn hch (by decide) (by decide)) (by rintro _ _ ⟨_, -, -, rfl⟩; exact ⟨[], Keep.refl _ _, all0⟩) E_t_13 d5_36 (hw _ (List.mem_of_getElem? (i := 61) rfl)) (hw _ (List.mem_of_getElem? (i := 62) rfl)) (fun s hZ => notFace_of_selects (args := #[]) (mvT hZ (hw _ (List.mem_of_getElem? (i := 64) rfl)))) (hw _ (List.mem_of_getElem? (i := 64) rfl)) (hw _ (List.mem_of_getElem? (i := 63) rfl)) (hw _ (List.mem_of_getElem? (i := 6) rfl)) (hw _ (List.mem_of_getElem? (i := 65) rfl)) (by decide) pd__I_I rfl rfl rfl (by decide) (by show (0 : Nat) + (2 + 11) + 87 ≤ _; decide) (by decide) (by decide) (by decide) (by decide) (pc' := 39) rfl ?_
          rintro _ _ ⟨_, rfl, rfl, rfl⟩ -
          show RunW l Z own_EL n0 "com/example/callimachus/callimachus/Location" prog_13_method_8_code 1 (some .boolean) "isFileName" ({ frames := 7, cells := 4, slots := 20, locals := 100 } : Room) _ 39 #[.val (.ref t)] [(.int (own_ix cs (0 : Int32)))] h13 vm13 4 20
          refine RunW.if_ge d5_39 (by decide) (pc' := 46) (by decide) (pa := 42) rfl (fun hc39 => ?_) (fun hc39 => ?_)
          · -- pc 39 taken: ¬ (own_ix cs (0 : Int32)) < (0 : Int32)
            refine RunW.iconst (0 : Int32) d5_46 (by decide) (pc' := 47) rfl ?_
            exact RunW.nreturn d5_47 (ty := .boolean) rfl (by simp) (by decide) (by decide) ⟨_, rfl, congrArg Value.int (by unfold own_ifn; rw [if_neg (fun z => z hc4), if_neg (fun z => z hc13), if_neg (fun z => z hc22), if_neg (fun z => z hc31), if_pos hc39]; rfl), Keep.toExt kp13⟩
          · -- pc 39 not taken: (own_ix cs (0 : Int32)) < (0 : Int32)
            refine RunW.iconst (1 : Int32) d5_42 (by decide) (pc' := 43) rfl ?_
            refine RunW.goto d5_43 (by decide) (pc' := 47) (by decide) ?_
            exact RunW.nreturn d5_47 (ty := .boolean) rfl (by simp) (by decide) (by decide) ⟨_, rfl, congrArg Value.int (by unfold own_ifn; rw [if_neg (fun z => z hc4), if_neg (fun z => z hc13), if_neg (fun z => z hc22), if_neg (fun z => z hc31), if_neg (fun z => z hc39)]; rfl), Keep.toExt kp13⟩
def own_pick (p1 : Int32) : Int32 := (if ((XT.ushr p1 (16 : Int32)) &&& (3 : Int32)) = (0 : Int32) then (nar .char (46 : Int32)) else (if ((XT.ushr p1 (16 : Int32)) &&& (3 : Int32)) = (1 : Int32) then (nar .char (47 : Int32)) else (if ((XT.ushr p1 (16 : Int32)) &&& (3 : Int32)) = (2 : Int32) then (nar .char (0 : Int32)) else (nar .char (nar .char (p1 &&& (65535 : Int32)))))))
theorem d1_0 : decode method_2_code 0 = .ok (.iload_n 0, 1) := by decide +kernel
theorem d1_1 : decode method_2_code 1 = .ok (.bipush 16, 2) := by decide +kernel
theorem d1_3 : decode method_2_code 3 = .ok (.iushr, 1) := by decide +kernel
theorem d1_4 : decode method_2_code 4 = .ok (.iconst 3, 1) := by decide +kernel
theorem d1_5 : decode method_2_code 5 = .ok (.iand, 1) := by decide +kernel
theorem d1_6 : decode method_2_code 6 = .ok (.istore_n 1, 1) := by decide +kernel
theorem d1_7 : decode method_2_code 7 = .ok (.iload_n 1, 1) := by decide +kernel
theorem d1_8 : decode method_2_code 8 = .ok (.ifCond .ne 6, 3) := by decide +kernel
theorem d1_11 : decode method_2_code 11 = .ok (.bipush 46, 2) := by decide +kernel
theorem d1_13 : decode method_2_code 13 = .ok (.ireturn, 1) := by decide +kernel
theorem d1_14 : decode method_2_code 14 = .ok (.iload_n 1, 1) := by decide +kernel
theorem d1_15 : decode method_2_code 15 = .ok (.iconst 1, 1) := by decide +kernel
theorem d1_16 : decode method_2_code 16 = .ok (.if_icmp .ne 6, 3) := by decide +kernel
theorem d1_19 : decode method_2_code 19 = .ok (.bipush 47, 2) := by decide +kernel
theorem d1_21 : decode method_2_code 21 = .ok (.ireturn, 1) := by decide +kernel
theorem d1_22 : decode method_2_code 22 = .ok (.iload_n 1, 1) := by decide +kernel
theorem d1_23 : decode method_2_code 23 = .ok (.iconst 2, 1) := by decide +kernel
theorem d1_24 : decode method_2_code 24 = .ok (.if_icmp .ne 5, 3) := by decide +kernel
theorem d1_27 : decode method_2_code 27 = .ok (.iconst 0, 1) := by decide +kernel
theorem d1_28 : decode method_2_code 28 = .ok (.ireturn, 1) := by decide +kernel
theorem d1_29 : decode method_2_code 29 = .ok (.iload_n 0, 1) := by decide +kernel
theorem d1_30 : decode method_2_code 30 = .ok (.ldc 7, 2) := by decide +kernel
theorem d1_32 : decode method_2_code 32 = .ok (.iand, 1) := by decide +kernel
theorem d1_33 : decode method_2_code 33 = .ok (.i2c, 1) := by decide +kernel
theorem d1_34 : decode method_2_code 34 = .ok (.ireturn, 1) := by decide +kernel
theorem pn_1 : plainFor (⟨"com/example/callimachus/callimachus/LocationIsFileNamePinLaw", "pick", "(I)C"⟩ : MethodName) = true := plainFor_of_name (by first | (simp [plainName, overriddenIn]; done) | decide +kernel)
theorem ef_con_own_pick (m : MethodId) (p1 : Int32)  : entryFrame m #[(.int p1)] 2 = mkF m 0 #[.val (.int p1), .unset] [] := by first | (simp [entryFrame, mkF, argsToLocals, Value.category]; done) | rfl
set_option maxRecDepth 65536 in
set_option maxHeartbeats 40000000 in
theorem con_own_pick (l : Launch) (Z : State) (a0 : Array Value) (hw : ∀ d ∈ tables_1, d.before a0 Z = true) (n0 : Nat) (h0 : Heap) (Z0 : n0 ≤ h0.size) (p1 : Int32)  :
    Con l Z n0 (⟨"com/example/callimachus/callimachus/LocationIsFileNamePinLaw", "pick", "(I)C"⟩ : MethodName) method_2_code 2 (some .char) ({ frames := 0, cells := 0, slots := 0, locals := 0 } : Room) #[(.int p1)] h0 (Val (PV (.int (own_pick p1)) h0)) := by
  refine Con.of_run pn_1 (fun m => ef_con_own_pick m p1 ) ?_
  refine Run.iloadN d1_0 rfl (pc' := 1) rfl ?_
  refine Run.bipush (16 : Int32) d1_1 (by decide) (pc' := 3) rfl ?_
  refine Run.iushr d1_3 (pc' := 4) rfl ?_
  refine Run.iconst (3 : Int32) d1_4 (by decide) (pc' := 5) rfl ?_
  refine Run.iand d1_5 (pc' := 6) rfl ?_
  refine Run.istoreN (l' := #[.val (.int p1), .val (.int ((XT.ushr p1 (16 : Int32)) &&& (3 : Int32)))]) d1_6 rfl (pc' := 7) rfl ?_
  refine Run.iloadN d1_7 rfl (pc' := 8) rfl ?_
  refine Run.if_ne d1_8 (by decide) (pc' := 14) (by decide) (pa := 11) rfl (fun hc8 => ?_) (fun hc8 => ?_)
  · -- pc 8 taken: ¬ ((XT.ushr p1 (16 : Int32)) &&& (3 : Int32)) = (0 : Int32)
    refine Run.iloadN d1_14 rfl (pc' := 15) rfl ?_
    refine Run.iconst (1 : Int32) d1_15 (by decide) (pc' := 16) rfl ?_
    refine Run.icmp_ne d1_16 (by decide) (pc' := 22) (by decide) (pa := 19) rfl (fun hc16 => ?_) (fun hc16 => ?_)
    · -- pc 16 taken: ¬ ((XT.ushr p1 (16 : Int32)) &&& (3 : Int32)) = (1 : Int32)
      refine Run.iloadN d1_22 rfl (pc' := 23) rfl ?_
      refine Run.iconst (2 : Int32) d1_23 (by decide) (pc' := 24) rfl ?_
      refine Run.icmp_ne d1_24 (by decide) (pc' := 29) (by decide) (pa := 27) rfl (fun hc24 => ?_) (fun hc24 => ?_)
      · -- pc 24 taken: ¬ ((XT.ushr p1 (16 : Int32)) &&& (3 : Int32)) = (2 : Int32)
        refine Run.iloadN d1_29 rfl (pc' := 30) rfl ?_
        refine Run.ldcI (v := (65535 : Int32)) d1_30 (hw _ (List.mem_of_getElem? (i := 102) rfl)) (pc' := 32) rfl ?_
        refine Run.iand d1_32 (pc' := 33) rfl ?_
        refine Run.i2c d1_33 (pc' := 34) rfl ?_
        exact Run.nreturn d1_34 (ty := .char) rfl (by simp) (by decide) (by decide) ⟨_, rfl, congrArg Value.int (by unfold own_pick; rw [if_neg hc8, if_neg hc16, if_neg hc24] <;> rfl), rfl⟩
      · -- pc 24 not taken: ((XT.ushr p1 (16 : Int32)) &&& (3 : Int32)) = (2 : Int32)
        refine Run.iconst (0 : Int32) d1_27 (by decide) (pc' := 28) rfl ?_
        exact Run.nreturn d1_28 (ty := .char) rfl (by simp) (by decide) (by decide) ⟨_, rfl, congrArg Value.int (by unfold own_pick; rw [if_neg hc8, if_neg hc16, if_pos hc24] <;> rfl), rfl⟩
    · -- pc 16 not taken: ((XT.ushr p1 (16 : Int32)) &&& (3 : Int32)) = (1 : Int32)
      refine Run.bipush (47 : Int32) d1_19 (by decide) (pc' := 21) rfl ?_
      exact Run.nreturn d1_21 (ty := .char) rfl (by simp) (by decide) (by decide) ⟨_, rfl, congrArg Value.int (by unfold own_pick; rw [if_neg hc8, if_pos hc16] <;> rfl), rfl⟩
  · -- pc 8 not taken: ((XT.ushr p1 (16 : Int32)) &&& (3 : Int32)) = (0 : Int32)
    refine Run.bipush (46 : Int32) d1_11 (by decide) (pc' := 13) rfl ?_
    exact Run.nreturn d1_13 (ty := .char) rfl (by simp) (by decide) (by decide) ⟨_, rfl, congrArg Value.int (by unfold own_pick; rw [if_pos hc8] <;> rfl), rfl⟩
def own_bad (p1 : Int32) : Int32 := (if p1 = (47 : Int32) then (1 : Int32) else (if p1 = (0 : Int32) then (1 : Int32) else (0 : Int32)))
theorem d10_0 : decode method_3_code 0 = .ok (.iload_n 0, 1) := by decide +kernel
theorem d10_1 : decode method_3_code 1 = .ok (.bipush 47, 2) := by decide +kernel
theorem d10_3 : decode method_3_code 3 = .ok (.if_icmp .eq 7, 3) := by decide +kernel
theorem d10_6 : decode method_3_code 6 = .ok (.iload_n 0, 1) := by decide +kernel
theorem d10_7 : decode method_3_code 7 = .ok (.ifCond .ne 7, 3) := by decide +kernel
theorem d10_10 : decode method_3_code 10 = .ok (.iconst 1, 1) := by decide +kernel
theorem d10_11 : decode method_3_code 11 = .ok (.goto 4, 3) := by decide +kernel
theorem d10_14 : decode method_3_code 14 = .ok (.iconst 0, 1) := by decide +kernel
theorem d10_15 : decode method_3_code 15 = .ok (.ireturn, 1) := by decide +kernel
theorem pn_10 : plainFor (⟨"com/example/callimachus/callimachus/LocationIsFileNamePinLaw", "bad", "(C)Z"⟩ : MethodName) = true := plainFor_of_name (by first | (simp [plainName, overriddenIn]; done) | decide +kernel)
theorem ef_con_own_bad (m : MethodId) (p1 : Int32)  : entryFrame m #[(.int p1)] 1 = mkF m 0 #[.val (.int p1)] [] := by first | (simp [entryFrame, mkF, argsToLocals, Value.category]; done) | rfl
set_option maxRecDepth 65536 in
set_option maxHeartbeats 40000000 in
theorem con_own_bad (l : Launch) (Z : State) (a0 : Array Value) (hw : ∀ d ∈ tables_1, d.before a0 Z = true) (n0 : Nat) (h0 : Heap) (Z0 : n0 ≤ h0.size) (p1 : Int32)  :
    Con l Z n0 (⟨"com/example/callimachus/callimachus/LocationIsFileNamePinLaw", "bad", "(C)Z"⟩ : MethodName) method_3_code 1 (some .boolean) ({ frames := 0, cells := 0, slots := 0, locals := 0 } : Room) #[(.int p1)] h0 (Val (PV (.int (own_bad p1)) h0)) := by
  refine Con.of_run pn_10 (fun m => ef_con_own_bad m p1 ) ?_
  refine Run.iloadN d10_0 rfl (pc' := 1) rfl ?_
  refine Run.bipush (47 : Int32) d10_1 (by decide) (pc' := 3) rfl ?_
  refine Run.icmp_eq d10_3 (by decide) (pc' := 10) (by decide) (pa := 6) rfl (fun hc3 => ?_) (fun hc3 => ?_)
  · -- pc 3 taken: p1 = (47 : Int32)
    refine Run.iconst (1 : Int32) d10_10 (by decide) (pc' := 11) rfl ?_
    refine Run.goto d10_11 (by decide) (pc' := 15) (by decide) ?_
    exact Run.nreturn d10_15 (ty := .boolean) rfl (by simp) (by decide) (by decide) ⟨_, rfl, congrArg Value.int (by unfold own_bad; rw [if_pos hc3] <;> rfl), rfl⟩
  · -- pc 3 not taken: ¬ p1 = (47 : Int32)
    refine Run.iloadN d10_6 rfl (pc' := 7) rfl ?_
    refine Run.if_ne d10_7 (by decide) (pc' := 14) (by decide) (pa := 10) rfl (fun hc7 => ?_) (fun hc7 => ?_)
    · -- pc 7 taken: ¬ p1 = (0 : Int32)
      refine Run.iconst (0 : Int32) d10_14 (by decide) (pc' := 15) rfl ?_
      exact Run.nreturn d10_15 (ty := .boolean) rfl (by simp) (by decide) (by decide) ⟨_, rfl, congrArg Value.int (by unfold own_bad; rw [if_neg hc3, if_neg hc7] <;> rfl), rfl⟩
    · -- pc 7 not taken: p1 = (0 : Int32)
      refine Run.iconst (1 : Int32) d10_10 (by decide) (pc' := 11) rfl ?_
      refine Run.goto d10_11 (by decide) (pc' := 15) (by decide) ?_
      exact Run.nreturn d10_15 (ty := .boolean) rfl (by simp) (by decide) (by decide) ⟨_, rfl, congrArg Value.int (by unfold own_bad; rw [if_neg hc3, if_pos hc7] <;> rfl), rfl⟩
theorem own_pkq (x : Int32) : nar .char (own_pick x) = own_pick x ∧ 0 ≤ (own_pick x).toInt ∧ (own_pick x).toInt ≤ 65535 := by
  have k : ∀ y : Int32, nar .char (nar .char y) = nar .char y ∧ 0 ≤ (nar .char y).toInt ∧ (nar .char y).toInt ≤ 65535 := fun y => by
    have q := c_i2c y
    change ((nar .char _).toInt - _) % 65536 = 0 ∧ 0 ≤ (nar .char _).toInt ∧ (nar .char _).toInt < 65536 at q
    exact ⟨own_ncc y, by omega, by omega⟩
  unfold own_pick
  repeat' split
  all_goals exact k _
theorem own_q0 : own_chr [] := fun c hc => absurd hc (by simp)
theorem own_q1 {a : Int32} (ha : 0 ≤ a.toInt ∧ a.toInt ≤ 65535) : own_chr [a] := by
  intro v hv; simp only [List.mem_cons, List.not_mem_nil, or_false] at hv; subst hv; exact ha
theorem own_q2 {a b : Int32} (ha : 0 ≤ a.toInt ∧ a.toInt ≤ 65535) (hb : 0 ≤ b.toInt ∧ b.toInt ≤ 65535) : own_chr [a, b] := by
  intro v hv; simp only [List.mem_cons, List.not_mem_nil, or_false] at hv
  rcases hv with rfl | rfl <;> assumption
theorem own_q3 {a b c : Int32} (ha : 0 ≤ a.toInt ∧ a.toInt ≤ 65535) (hb : 0 ≤ b.toInt ∧ b.toInt ≤ 65535) (hc : 0 ≤ c.toInt ∧ c.toInt ≤ 65535) : own_chr [a, b, c] := by
  intro v hv; simp only [List.mem_cons, List.not_mem_nil, or_false] at hv
  rcases hv with rfl | rfl | rfl <;> assumption
theorem own_ixFn {cs : List Int32} {ch : Int32} (hb : cs.length < 2 ^ 31) : ∀ t i, t + i = cs.length → (own_ixF cs ch t i < 0 ↔ ∀ j, i ≤ j → j < cs.length → cs.getD j 0 ≠ ch)
  | 0, i, h => ⟨fun _ j h1 h2 => absurd h1 (by omega), fun _ => by show (-1 : Int32) < 0; decide⟩
  | t + 1, i, h => by
    show (if cs.getD i 0 = ch then Int32.ofNat i else own_ixF cs ch t (i + 1)) < 0 ↔ _
    by_cases e : cs.getD i 0 = ch
    · rw [if_pos e]
      exact ⟨fun z => absurd z (own_nge (by omega)), fun z => absurd e (z i (Nat.le_refl _) (by omega))⟩
    · rw [if_neg e, own_ixFn hb t (i + 1) (by omega)]
      refine ⟨fun z j h1 h2 => ?_, fun z j h1 h2 => z j (by omega) h2⟩
      by_cases q : j = i
      · rw [q]; exact e
      · exact z j (by omega) h2
theorem own_ixm {cs : List Int32} {ch : Int32} (hb : cs.length < 2 ^ 31) : own_ix cs ch < 0 ↔ ch ∉ cs := by
  unfold own_ix; rw [own_ixFn hb cs.length 0 (by omega)]
  constructor
  · intro h hm
    obtain ⟨j, hj, e⟩ := List.getElem_of_mem hm
    exact h j (Nat.zero_le _) hj (by rw [own_gD hj]; exact e)
  · intro h j _ hj e
    exact h (e ▸ (by rw [own_gD hj]; exact List.getElem_mem hj))
theorem own_badI (c : Int32) : own_bad c = 0 ↔ c ≠ 47 ∧ c ≠ 0 := by
  unfold own_bad; by_cases h1 : c = 47
  · simp [h1]
  · by_cases h2 : c = 0 <;> simp [h1, h2]
theorem own_if1 {cs : List Int32} (h0 : cs ≠ []) (h1 : cs ≠ [46]) (h2 : cs ≠ [46, 46]) (h3 : ∀ c ∈ cs, own_bad c = 0) (hb : cs.length < 2 ^ 31 := by simp) : own_ifn cs = 1 := by
  have e0 : own_emp cs = 0 := by unfold own_emp; rw [if_neg (fun z => h0 (List.length_eq_zero_iff.mp z))]
  have e1 : own_eq cs [46] = 0 := by unfold own_eq; rw [if_neg h1]
  have e2 : own_eq cs [46, 46] = 0 := by unfold own_eq; rw [if_neg h2]
  have e3 : own_ix cs 47 < 0 := (own_ixm hb).mpr fun z => ((own_badI _).mp (h3 _ z)).1 rfl
  have e4 : own_ix cs 0 < 0 := (own_ixm hb).mpr fun z => ((own_badI _).mp (h3 _ z)).2 rfl
  unfold own_ifn
  rw [if_neg (fun z => z e0), if_neg (fun z => z e1), if_neg (fun z => z e2), if_neg (fun z => z e3), if_neg (fun z => z e4)]
theorem own_if0 {cs : List Int32} (h : cs = [] ∨ cs = [46] ∨ cs = [46, 46] ∨ ∃ c ∈ cs, ¬ own_bad c = 0) (hb : cs.length < 2 ^ 31 := by simp) : own_ifn cs = 0 := by
  unfold own_ifn
  split
  · rfl
  · rename_i e0
    split
    · rfl
    · rename_i e1
      split
      · rfl
      · rename_i e2
        split
        · rfl
        · rename_i e3
          split
          · rfl
          · rename_i e4
            exfalso
            simp only [Decidable.not_not] at e0 e1 e2 e3 e4
            rcases h with rfl | rfl | rfl | ⟨c, hc, q⟩
            · exact absurd e0 (by decide)
            · exact absurd e1 (by decide)
            · exact absurd e2 (by decide)
            · refine q ((own_badI c).mpr ⟨fun z => (own_ixm hb).mp e3 (z ▸ hc), fun z => (own_ixm hb).mp e4 (z ▸ hc)⟩)
theorem pn_0 : plainFor x = true := plainFor_of_name (by first | (simp [plainName, overriddenIn]; done) | decide +kernel)
theorem pd__C_Ljava_lang_String_ : parseMethodDescriptor "(C)Ljava/lang/String;" = some ⟨[.char], some (.object "java/lang/String")⟩ := by decide +kernel
theorem pd__I_C : parseMethodDescriptor "(I)C" = some ⟨[.int], some .char⟩ := by decide +kernel
theorem pd__Ljava_lang_String__Z : parseMethodDescriptor "(Ljava/lang/String;)Z" = some ⟨[(.object "java/lang/String")], some .boolean⟩ := by decide +kernel
theorem pd___C_V : parseMethodDescriptor "([C)V" = some ⟨[(.array .char)], none⟩ := by decide +kernel
theorem ef_con0 (m : MethodId) (p1 : Int32) (p2 : Int32) (p3 : Int32) (p4 : Int32) (fm : Value) (cz : Int32)  : entryFrame m #[(.int p1), (.int p2), (.int p3), (.int p4)] maxLocals = mkF m 0 #[.val (.int p1), .val (.int p2), .val (.int p3), .val (.int p4), .unset, .unset, .unset, .unset, .unset, .unset] [] := by first | (simp [entryFrame, mkF, argsToLocals, Value.category, maxLocals]; done) | rfl
set_option maxRecDepth 65536 in
set_option maxHeartbeats 40000000 in
theorem con0 (l : Launch) (Z : State) (a0 : Array Value) (hw : ∀ d ∈ tables_1, d.before a0 Z = true) (n0 : Nat) (h0 : Heap) (Z0 : n0 ≤ h0.size) (p1 : Int32) (p2 : Int32) (p3 : Int32) (p4 : Int32) (fm : Value) (cz : Int32) (od0 : Old Z n0 h0) (SF : Sta Z Z.heap "jdk/internal/util/Preconditions" "SIOOBE_FORMATTER" "Ljava/util/function/BiFunction;" fm) (hfm : fm.isRef = true) (SD : Sta Z Z.heap "java/lang/StringUTF16" "$assertionsDisabled" "Z" (.int (1 : Int32))) (SH8 : Sta Z Z.heap "java/lang/StringUTF16" "HI_BYTE_SHIFT" "I" (.int (0 : Int32))) (SL8 : Sta Z Z.heap "java/lang/StringUTF16" "LO_BYTE_SHIFT" "I" (.int (8 : Int32))) (SZ : Sta Z Z.heap "java/lang/String" "COMPACT_STRINGS" "Z" (.int cz)) (hcz : ¬ cz = 0) :
    ConW l Z own_EL n0 x code maxLocals ret room_1 #[(.int p1), (.int p2), (.int p3), (.int p4)] h0 [] (Val fun w _ => w = .int 1) := by
  refine ConW.of_run (own_EW hw) pn_0 (fun m => ef_con0 m p1 p2 p3 p4 fm cz ) ?_
  intro vm hal hsf
  refine RunW.iloadN at_0 rfl (pc' := 1) rfl ?_
  refine RunW.iconst (3 : Int32) at_1 (by decide) (pc' := 2) rfl ?_
  refine RunW.iand at_2 (pc' := 3) rfl ?_
  refine RunW.istore (l' := #[.val (.int p1), .val (.int p2), .val (.int p3), .val (.int p4), .val (.int (p1 &&& (3 : Int32))), .unset, .unset, .unset, .unset, .unset]) at_3 rfl (pc' := 5) rfl ?_
  refine RunW.iloadN at_5 rfl (pc' := 6) rfl ?_
  refine RunW.callS (k' := 0) (n' := 0) (as := [(.int p2)]) (rest := []) (con_own_pick l Z a0 hw n0 h0 Z0 p2 ) (by rintro _ _ ⟨_, -, -, rfl⟩; exact ⟨[], Keep.refl _ _, all0⟩) at_6 (hw _ (List.mem_of_getElem? (i := 0) rfl)) (hw _ (List.mem_of_getElem? (i := 1) rfl)) (hw _ (List.mem_of_getElem? (i := 2) rfl)) (hw _ (List.mem_of_getElem? (i := 3) rfl)) (by decide) pd__I_C rfl rfl rfl (by decide) (by show (0 : Nat) + (2 + 11) + 0 ≤ _; decide) (by decide) (by decide) (by decide) (by decide) (pc' := 9) rfl ?_
  rintro _ _ ⟨_, rfl, rfl, rfl⟩ -
  show RunW l Z own_EL n0 x.cls code maxLocals ret x.name room_1 _ 9 #[.val (.int p1), .val (.int p2), .val (.int p3), .val (.int p4), .val (.int (p1 &&& (3 : Int32))), .unset, .unset, .unset, .unset, .unset] [(.int (own_pick p2))] h0 vm 0 0
  have q0 := own_pkq p2
  generalize (own_pick p2) = c0 at q0 ⊢
  refine RunW.istore (l' := #[.val (.int p1), .val (.int p2), .val (.int p3), .val (.int p4), .val (.int (p1 &&& (3 : Int32))), .val (.int c0), .unset, .unset, .unset, .unset]) at_9 rfl (pc' := 11) rfl ?_
  refine RunW.iloadN at_11 rfl (pc' := 12) rfl ?_
  refine RunW.callS (k' := 0) (n' := 0) (as := [(.int p3)]) (rest := []) (con_own_pick l Z a0 hw n0 h0 Z0 p3 ) (by rintro _ _ ⟨_, -, -, rfl⟩; exact ⟨[], Keep.refl _ _, all0⟩) at_12 (hw _ (List.mem_of_getElem? (i := 0) rfl)) (hw _ (List.mem_of_getElem? (i := 1) rfl)) (hw _ (List.mem_of_getElem? (i := 2) rfl)) (hw _ (List.mem_of_getElem? (i := 3) rfl)) (by decide) pd__I_C rfl rfl rfl (by decide) (by show (0 : Nat) + (2 + 11) + 0 ≤ _; decide) (by decide) (by decide) (by decide) (by decide) (pc' := 15) rfl ?_
  rintro _ _ ⟨_, rfl, rfl, rfl⟩ -
  show RunW l Z own_EL n0 x.cls code maxLocals ret x.name room_1 _ 15 #[.val (.int p1), .val (.int p2), .val (.int p3), .val (.int p4), .val (.int (p1 &&& (3 : Int32))), .val (.int c0), .unset, .unset, .unset, .unset] [(.int (own_pick p3))] h0 vm 0 0
  have q1 := own_pkq p3
  generalize (own_pick p3) = c1 at q1 ⊢
  refine RunW.istore (l' := #[.val (.int p1), .val (.int p2), .val (.int p3), .val (.int p4), .val (.int (p1 &&& (3 : Int32))), .val (.int c0), .val (.int c1), .unset, .unset, .unset]) at_15 rfl (pc' := 17) rfl ?_
  refine RunW.iloadN at_17 rfl (pc' := 18) rfl ?_
  refine RunW.callS (k' := 0) (n' := 0) (as := [(.int p4)]) (rest := []) (con_own_pick l Z a0 hw n0 h0 Z0 p4 ) (by rintro _ _ ⟨_, -, -, rfl⟩; exact ⟨[], Keep.refl _ _, all0⟩) at_18 (hw _ (List.mem_of_getElem? (i := 0) rfl)) (hw _ (List.mem_of_getElem? (i := 1) rfl)) (hw _ (List.mem_of_getElem? (i := 2) rfl)) (hw _ (List.mem_of_getElem? (i := 3) rfl)) (by decide) pd__I_C rfl rfl rfl (by decide) (by show (0 : Nat) + (2 + 11) + 0 ≤ _; decide) (by decide) (by decide) (by decide) (by decide) (pc' := 21) rfl ?_
  rintro _ _ ⟨_, rfl, rfl, rfl⟩ -
  show RunW l Z own_EL n0 x.cls code maxLocals ret x.name room_1 _ 21 #[.val (.int p1), .val (.int p2), .val (.int p3), .val (.int p4), .val (.int (p1 &&& (3 : Int32))), .val (.int c0), .val (.int c1), .unset, .unset, .unset] [(.int (own_pick p4))] h0 vm 0 0
  have q2 := own_pkq p4
  generalize (own_pick p4) = c2 at q2 ⊢
  refine RunW.istore (l' := #[.val (.int p1), .val (.int p2), .val (.int p3), .val (.int p4), .val (.int (p1 &&& (3 : Int32))), .val (.int c0), .val (.int c1), .val (.int c2), .unset, .unset]) at_21 rfl (pc' := 23) rfl ?_
  refine RunW.iload at_23 rfl (pc' := 25) rfl ?_
  refine RunW.if_ne at_25 (by decide) (pc' := 46) (by decide) (pa := 28) rfl (fun hc25 => ?_) (fun hc25 => ?_)
  · -- pc 25 taken: ¬ (p1 &&& (3 : Int32)) = (0 : Int32)
    refine RunW.iload at_46 rfl (pc' := 48) rfl ?_
    refine RunW.iconst (1 : Int32) at_48 (by decide) (pc' := 49) rfl ?_
    refine RunW.icmp_ne at_49 (by decide) (pc' := 84) (by decide) (pa := 52) rfl (fun hc49 => ?_) (fun hc49 => ?_)
    · -- pc 49 taken: ¬ (p1 &&& (3 : Int32)) = (1 : Int32)
      refine RunW.iload at_84 rfl (pc' := 86) rfl ?_
      refine RunW.iconst (2 : Int32) at_86 (by decide) (pc' := 87) rfl ?_
      refine RunW.icmp_ne at_87 (by decide) (pc' := 152) (by decide) (pa := 90) rfl (fun hc87 => ?_) (fun hc87 => ?_)
      · -- pc 87 taken: ¬ (p1 &&& (3 : Int32)) = (2 : Int32)
        refine RunW.newO (k' := 1) (n' := 4) at_152 (hw _ (List.mem_of_getElem? (i := 4) rfl)) (hw _ (List.mem_of_getElem? (i := 5) rfl)) (hw _ (List.mem_of_getElem? (i := 6) rfl)) (by decide) (by decide) (by decide) (by decide) (pc' := 155) rfl ?_
        intro h11 b11 g11 E11 X11 D11 c11 sf11
        have ge_b11 : n0 ≤ b11 := by rw [g11]; exact Z0
        have bo_b11 : h0.size ≤ b11 := by rw [g11]; exact (Keep.refl h0 []).1
        have sz11 : n0 ≤ h11.size := Nat.le_trans Z0 E11.1
        have kp11 := Keep.ext (Keep.refl h0 []) E11
        have od11 := od0.ext E11
        have F_b11_value : Fld Z h11 b11 "java/lang/String" "value" "[B" .null := D11 (Or.inr (hw _ (List.mem_of_getElem? (i := 20) rfl))) (ty := (.array .byte)) (by decide)
        have F_b11_coder : Fld Z h11 b11 "java/lang/String" "coder" "B" (.int (0 : Int32)) := D11 (Or.inr (hw _ (List.mem_of_getElem? (i := 21) rfl))) (ty := .byte) (by decide)
        refine RunW.dup at_155 rfl (pc' := 156) rfl ?_
        refine RunW.iconst (3 : Int32) at_156 (by decide) (pc' := 157) rfl ?_
        refine RunW.newP (ty := .char) (m := 3) (cap := 3) (dv := (.int (0 : Int32))) (k' := 2) (n' := 7) at_157 rfl (hw _ (List.mem_of_getElem? (i := 7) rfl)) (by decide) (by decide) (Nat.le_refl _) rfl (by decide) (by decide) (by decide) (by decide) (by decide) (pc' := 159) rfl ?_
        intro h12 b12 g12 E12 A12 c12 sf12
        have ge_b12 : n0 ≤ b12 := by rw [g12]; exact sz11
        have bo_b12 : h0.size ≤ b12 := by rw [g12]; exact kp11.1
        have ne_b11_b12 : b11 ≠ b12 := by rw [g12]; exact Nat.ne_of_lt X11.lt
        have E_b11_12 := X11.ext E12
        have Z_b11_12 := CHr.safe c12 X11.lt sf11
        have F_b11_value_12 := F_b11_value.ext E12
        have F_b11_coder_12 := F_b11_coder.ext E12
        have sz12 : n0 ≤ h12.size := Nat.le_trans sz11 E12.1
        have kp12 := Keep.ext kp11 E12
        have od12 := od11.ext E12
        replace A12 : Ary Z h12 b12 .char [(.int (0 : Int32)), (.int (0 : Int32)), (.int (0 : Int32))] := A12
        refine RunW.dup at_159 rfl (pc' := 160) rfl ?_
        refine RunW.iconst (0 : Int32) at_160 (by decide) (pc' := 161) rfl ?_
        refine RunW.iload at_161 rfl (pc' := 163) rfl ?_
        refine RunW.castore (i := 0) at_163 A12 (by decide) (by show (0 : Nat) < 3; decide) ge_b12 sf12 (pc' := 164) rfl ?_
        intro h13 W13 c13 A13
        have E_b11_13 := E_b11_12.wr W13
        have Z_b11_13 := CHr.safe c13 E_b11_12.lt Z_b11_12
        have F_b11_value_13 := F_b11_value_12.other W13 (Or.inl ne_b11_b12)
        have F_b11_coder_13 := F_b11_coder_12.other W13 (Or.inl ne_b11_b12)
        have Z_b12_13 := CHr.safe c13 A12.lt sf12
        have sz13 : n0 ≤ h13.size := by rw [W13.size]; exact sz12
        have kp13 := Keep.wr kp12 W13 (Or.inr bo_b12)
        have od13 := od12.wr W13 ge_b12
        rw [q0.1] at A13
        replace A13 : Ary Z h13 b12 .char [(.int c0), (.int (0 : Int32)), (.int (0 : Int32))] := A13
        refine RunW.dup at_164 rfl (pc' := 165) rfl ?_
        refine RunW.iconst (1 : Int32) at_165 (by decide) (pc' := 166) rfl ?_
        refine RunW.iload at_166 rfl (pc' := 168) rfl ?_
        refine RunW.castore (i := 1) at_168 A13 (by decide) (by show (1 : Nat) < 3; decide) ge_b12 Z_b12_13 (pc' := 169) rfl ?_
        intro h14 W14 c14 A14
        have E_b11_14 := E_b11_13.wr W14
        have Z_b11_14 := CHr.safe c14 E_b11_13.lt Z_b11_13
        have F_b11_value_14 := F_b11_value_13.other W14 (Or.inl ne_b11_b12)
        have F_b11_coder_14 := F_b11_coder_13.other W14 (Or.inl ne_b11_b12)
        have Z_b12_14 := CHr.safe c14 A13.lt Z_b12_13
        have sz14 : n0 ≤ h14.size := by rw [W14.size]; exact sz13
        have kp14 := Keep.wr kp13 W14 (Or.inr bo_b12)
        have od14 := od13.wr W14 ge_b12
        rw [q1.1] at A14
        replace A14 : Ary Z h14 b12 .char [(.int c0), (.int c1), (.int (0 : Int32))] := A14
        refine RunW.dup at_169 rfl (pc' := 170) rfl ?_
        refine RunW.iconst (2 : Int32) at_170 (by decide) (pc' := 171) rfl ?_
        refine RunW.iload at_171 rfl (pc' := 173) rfl ?_
        refine RunW.castore (i := 2) at_173 A14 (by decide) (by show (2 : Nat) < 3; decide) ge_b12 Z_b12_14 (pc' := 174) rfl ?_
        intro h15 W15 c15 A15
        have E_b11_15 := E_b11_14.wr W15
        have Z_b11_15 := CHr.safe c15 E_b11_14.lt Z_b11_14
        have F_b11_value_15 := F_b11_value_14.other W15 (Or.inl ne_b11_b12)
        have F_b11_coder_15 := F_b11_coder_14.other W15 (Or.inl ne_b11_b12)
        have Z_b12_15 := CHr.safe c15 A14.lt Z_b12_14
        have sz15 : n0 ≤ h15.size := by rw [W15.size]; exact sz14
        have kp15 := Keep.wr kp14 W15 (Or.inr bo_b12)
        have od15 := od14.wr W15 ge_b12
        rw [q2.1] at A15
        replace A15 : Ary Z h15 b12 .char [(.int c0), (.int c1), (.int c2)] := A15
        refine RunW.callN (k' := 4) (n' := 16) (a := b11) (as := [(.ref b12)]) (rest := [(.ref b11)]) (con_si1 l Z a0 hw n0 h15 sz15 b11 b12 [c0, c1, c2]  cz .null (.int (0 : Int32)) od15 SD SH8 SL8 SZ hcz E_b11_15 F_b11_value_15 F_b11_coder_15 ge_b11 A15 (by simp) (by simp) (own_q3 q0.2 q1.2 q2.2) ne_b11_b12) (by rintro _ _ ⟨rfl, ⟨b_, bw_, K_, X_, FV_, FC_, P_⟩⟩; exact ⟨[b11], K_, (allS Z_b11_15 all0)⟩) rfl rfl at_174 (hw _ (List.mem_of_getElem? (i := 8) rfl)) (hw _ (List.mem_of_getElem? (i := 9) rfl)) (hw _ (List.mem_of_getElem? (i := 6) rfl)) (hw _ (List.mem_of_getElem? (i := 10) rfl)) (by decide) pd___C_V rfl rfl rfl (by decide) (by show (1 : Nat) + (2 + 11) + 74 ≤ _; decide) (by decide) (by decide) (by decide) (by decide) (pc' := 177) rfl ?_
        rintro _ h16 ⟨rfl, ⟨b16, bw16, K16, X16, FV16, FC16, P16⟩⟩ c16
        show RunW l Z own_EL n0 x.cls code maxLocals ret x.name room_1 _ 177 #[.val (.int p1), .val (.int p2), .val (.int p3), .val (.int p4), .val (.int (p1 &&& (3 : Int32))), .val (.int c0), .val (.int c1), .val (.int c2), .unset, .unset] [(.ref b11)] h16 vm 4 16
        have ge_b16 : n0 ≤ b16 := Nat.le_trans sz15 bw16
        have bo_b16 : h0.size ≤ b16 := Nat.le_trans kp15.1 bw16
        have ne_b11_b16 : b11 ≠ b16 := Nat.ne_of_lt (Nat.lt_of_lt_of_le E_b11_15.lt bw16)
        have ne_b12_b16 : b12 ≠ b16 := Nat.ne_of_lt (Nat.lt_of_lt_of_le A15.lt bw16)
        have E_b11_16 := E_b11_15.keep K16
        have Z_b11_16 := CHr.safe c16 E_b11_15.lt Z_b11_15
        have Z_b12_16 := CHr.safe c16 A15.lt Z_b12_15
        have A_b12_16 := A15.keep K16 (ninS (Ne.symm ne_b11_b12) nin0)
        have sz16 : n0 ≤ h16.size := Nat.le_trans sz15 K16.1
        have kp16 := Keep.trans kp15 K16 (allS (Or.inr bo_b11) all0)
        have od16 := od15.keep K16 (allS ge_b11 all0)
        refine RunW.astore (l' := #[.val (.int p1), .val (.int p2), .val (.int p3), .val (.int p4), .val (.int (p1 &&& (3 : Int32))), .val (.int c0), .val (.int c1), .val (.int c2), .val (.ref b11), .unset]) at_177 rfl rfl (pc' := 179) rfl ?_
        refine RunW.iload at_179 rfl (pc' := 181) rfl ?_
        refine RunW.callS (k' := 4) (n' := 16) (as := [(.int c0)]) (rest := []) (con_own_bad l Z a0 hw n0 h16 sz16 c0 ) (by rintro _ _ ⟨_, -, -, rfl⟩; exact ⟨[], Keep.refl _ _, all0⟩) at_181 (hw _ (List.mem_of_getElem? (i := 46) rfl)) (hw _ (List.mem_of_getElem? (i := 47) rfl)) (hw _ (List.mem_of_getElem? (i := 2) rfl)) (hw _ (List.mem_of_getElem? (i := 48) rfl)) (by decide) pd__C_Z rfl rfl rfl (by decide) (by show (0 : Nat) + (1 + 11) + 0 ≤ _; decide) (by decide) (by decide) (by decide) (by decide) (pc' := 184) rfl ?_
        rintro _ _ ⟨_, rfl, rfl, rfl⟩ -
        show RunW l Z own_EL n0 x.cls code maxLocals ret x.name room_1 _ 184 #[.val (.int p1), .val (.int p2), .val (.int p3), .val (.int p4), .val (.int (p1 &&& (3 : Int32))), .val (.int c0), .val (.int c1), .val (.int c2), .val (.ref b11), .unset] [(.int (own_bad c0))] h16 vm 4 16
        refine RunW.if_ne at_184 (by decide) (pc' := 207) (by decide) (pa := 187) rfl (fun hc184 => ?_) (fun hc184 => ?_)
        · -- pc 184 taken: ¬ (own_bad c0) = (0 : Int32)
          refine RunW.iconst (0 : Int32) at_207 (by decide) (pc' := 208) rfl ?_
          refine RunW.istore (l' := #[.val (.int p1), .val (.int p2), .val (.int p3), .val (.int p4), .val (.int (p1 &&& (3 : Int32))), .val (.int c0), .val (.int c1), .val (.int c2), .val (.ref b11), .val (.int (0 : Int32))]) at_208 rfl (pc' := 210) rfl ?_
          refine RunW.aload at_210 rfl rfl (pc' := 212) rfl ?_
          refine RunW.callSW (k' := 8) (n' := 36) (as := [(.ref b11)]) (rest := []) (con_ifn l Z a0 hw n0 h16 sz16 b11 b16 [c0, c1, c2] fm cz od16 SF hfm SD SH8 SL8 SZ hcz X16 FV16 FC16 P16 (by simp) (own_q3 q0.2 q1.2 q2.2)) all0 (own_EW hw) at_212 (hw _ (List.mem_of_getElem? (i := 26) rfl)) (hw _ (List.mem_of_getElem? (i := 27) rfl)) (hw _ (List.mem_of_getElem? (i := 28) rfl)) (hw _ (List.mem_of_getElem? (i := 29) rfl)) (by decide) pd__Ljava_lang_String__Z rfl rfl rfl (by decide) (by show (0 : Nat) + (1 + 11) + 100 ≤ _; decide) (by decide) (by decide) (by decide) (by decide) (pc' := 215) rfl ?_
          rintro _ h17 vm17 ⟨_, rfl, ⟨rfl, E17⟩⟩ c17
          show RunW l Z own_EL n0 x.cls code maxLocals ret x.name room_1 _ 215 #[.val (.int p1), .val (.int p2), .val (.int p3), .val (.int p4), .val (.int (p1 &&& (3 : Int32))), .val (.int c0), .val (.int c1), .val (.int c2), .val (.ref b11), .val (.int (0 : Int32))] [(.int (own_ifn [c0, c1, c2]))] h17 vm17 8 36
          have E_b11_17 := X16.ext E17
          have Z_b11_17 := CHr.safe c17 X16.lt Z_b11_16
          have Z_b12_17 := CHr.safe c17 A_b12_16.lt Z_b12_16
          have A_b12_17 := A_b12_16.ext E17
          have F_b11_value_17 := FV16.ext E17
          have F_b11_coder_17 := FC16.ext E17
          have A_b16_17 := P16.ext E17
          have sz17 : n0 ≤ h17.size := Nat.le_trans sz16 E17.1
          have kp17 := Keep.ext kp16 E17
          have od17 := od16.ext E17
          refine RunW.iload at_215 rfl (pc' := 217) rfl ?_
          refine RunW.icmp_ne at_217 (by decide) (pc' := 224) (by decide) (pa := 220) rfl (fun hc217 => ?_) (fun hc217 => ?_)
          · -- pc 217 taken: ¬ (own_ifn [c0, c1, c2]) = (0 : Int32)
            exact absurd (own_if0 (Or.inr (Or.inr (Or.inr ⟨c0, by simp, hc184⟩)))) hc217
          · -- pc 217 not taken: (own_ifn [c0, c1, c2]) = (0 : Int32)
            refine RunW.iconst (1 : Int32) at_220 (by decide) (pc' := 221) rfl ?_
            refine RunW.goto at_221 (by decide) (pc' := 225) (by decide) ?_
            exact RunW.nreturn at_225 (ty := .boolean) rfl (by simp) (by decide) (by decide) ⟨_, rfl, rfl⟩
        · -- pc 184 not taken: (own_bad c0) = (0 : Int32)
          refine RunW.iload at_187 rfl (pc' := 189) rfl ?_
          refine RunW.callS (k' := 4) (n' := 16) (as := [(.int c1)]) (rest := []) (con_own_bad l Z a0 hw n0 h16 sz16 c1 ) (by rintro _ _ ⟨_, -, -, rfl⟩; exact ⟨[], Keep.refl _ _, all0⟩) at_189 (hw _ (List.mem_of_getElem? (i := 46) rfl)) (hw _ (List.mem_of_getElem? (i := 47) rfl)) (hw _ (List.mem_of_getElem? (i := 2) rfl)) (hw _ (List.mem_of_getElem? (i := 48) rfl)) (by decide) pd__C_Z rfl rfl rfl (by decide) (by show (0 : Nat) + (1 + 11) + 0 ≤ _; decide) (by decide) (by decide) (by decide) (by decide) (pc' := 192) rfl ?_
          rintro _ _ ⟨_, rfl, rfl, rfl⟩ -
          show RunW l Z own_EL n0 x.cls code maxLocals ret x.name room_1 _ 192 #[.val (.int p1), .val (.int p2), .val (.int p3), .val (.int p4), .val (.int (p1 &&& (3 : Int32))), .val (.int c0), .val (.int c1), .val (.int c2), .val (.ref b11), .unset] [(.int (own_bad c1))] h16 vm 4 16
          refine RunW.if_ne at_192 (by decide) (pc' := 207) (by decide) (pa := 195) rfl (fun hc192 => ?_) (fun hc192 => ?_)
          · -- pc 192 taken: ¬ (own_bad c1) = (0 : Int32)
            refine RunW.iconst (0 : Int32) at_207 (by decide) (pc' := 208) rfl ?_
            refine RunW.istore (l' := #[.val (.int p1), .val (.int p2), .val (.int p3), .val (.int p4), .val (.int (p1 &&& (3 : Int32))), .val (.int c0), .val (.int c1), .val (.int c2), .val (.ref b11), .val (.int (0 : Int32))]) at_208 rfl (pc' := 210) rfl ?_
            refine RunW.aload at_210 rfl rfl (pc' := 212) rfl ?_
            refine RunW.callSW (k' := 8) (n' := 36) (as := [(.ref b11)]) (rest := []) (con_ifn l Z a0 hw n0 h16 sz16 b11 b16 [c0, c1, c2] fm cz od16 SF hfm SD SH8 SL8 SZ hcz X16 FV16 FC16 P16 (by simp) (own_q3 q0.2 q1.2 q2.2)) all0 (own_EW hw) at_212 (hw _ (List.mem_of_getElem? (i := 26) rfl)) (hw _ (List.mem_of_getElem? (i := 27) rfl)) (hw _ (List.mem_of_getElem? (i := 28) rfl)) (hw _ (List.mem_of_getElem? (i := 29) rfl)) (by decide) pd__Ljava_lang_String__Z rfl rfl rfl (by decide) (by show (0 : Nat) + (1 + 11) + 100 ≤ _; decide) (by decide) (by decide) (by decide) (by decide) (pc' := 215) rfl ?_
            rintro _ h18 vm18 ⟨_, rfl, ⟨rfl, E18⟩⟩ c18
            show RunW l Z own_EL n0 x.cls code maxLocals ret x.name room_1 _ 215 #[.val (.int p1), .val (.int p2), .val (.int p3), .val (.int p4), .val (.int (p1 &&& (3 : Int32))), .val (.int c0), .val (.int c1), .val (.int c2), .val (.ref b11), .val (.int (0 : Int32))] [(.int (own_ifn [c0, c1, c2]))] h18 vm18 8 36
            have E_b11_18 := X16.ext E18
            have Z_b11_18 := CHr.safe c18 X16.lt Z_b11_16
            have Z_b12_18 := CHr.safe c18 A_b12_16.lt Z_b12_16
            have A_b12_18 := A_b12_16.ext E18
            have F_b11_value_18 := FV16.ext E18
            have F_b11_coder_18 := FC16.ext E18
            have A_b16_18 := P16.ext E18
            have sz18 : n0 ≤ h18.size := Nat.le_trans sz16 E18.1
            have kp18 := Keep.ext kp16 E18
            have od18 := od16.ext E18
            refine RunW.iload at_215 rfl (pc' := 217) rfl ?_
            refine RunW.icmp_ne at_217 (by decide) (pc' := 224) (by decide) (pa := 220) rfl (fun hc217 => ?_) (fun hc217 => ?_)
            · -- pc 217 taken: ¬ (own_ifn [c0, c1, c2]) = (0 : Int32)
              exact absurd (own_if0 (Or.inr (Or.inr (Or.inr ⟨c1, by simp, hc192⟩)))) hc217
            · -- pc 217 not taken: (own_ifn [c0, c1, c2]) = (0 : Int32)
              refine RunW.iconst (1 : Int32) at_220 (by decide) (pc' := 221) rfl ?_
              refine RunW.goto at_221 (by decide) (pc' := 225) (by decide) ?_
              exact RunW.nreturn at_225 (ty := .boolean) rfl (by simp) (by decide) (by decide) ⟨_, rfl, rfl⟩
          · -- pc 192 not taken: (own_bad c1) = (0 : Int32)
            refine RunW.iload at_195 rfl (pc' := 197) rfl ?_
            refine RunW.callS (k' := 4) (n' := 16) (as := [(.int c2)]) (rest := []) (con_own_bad l Z a0 hw n0 h16 sz16 c2 ) (by rintro _ _ ⟨_, -, -, rfl⟩; exact ⟨[], Keep.refl _ _, all0⟩) at_197 (hw _ (List.mem_of_getElem? (i := 46) rfl)) (hw _ (List.mem_of_getElem? (i := 47) rfl)) (hw _ (List.mem_of_getElem? (i := 2) rfl)) (hw _ (List.mem_of_getElem? (i := 48) rfl)) (by decide) pd__C_Z rfl rfl rfl (by decide) (by show (0 : Nat) + (1 + 11) + 0 ≤ _; decide) (by decide) (by decide) (by decide) (by decide) (pc' := 200) rfl ?_
            rintro _ _ ⟨_, rfl, rfl, rfl⟩ -
            show RunW l Z own_EL n0 x.cls code maxLocals ret x.name room_1 _ 200 #[.val (.int p1), .val (.int p2), .val (.int p3), .val (.int p4), .val (.int (p1 &&& (3 : Int32))), .val (.int c0), .val (.int c1), .val (.int c2), .val (.ref b11), .unset] [(.int (own_bad c2))] h16 vm 4 16
            refine RunW.if_ne at_200 (by decide) (pc' := 207) (by decide) (pa := 203) rfl (fun hc200 => ?_) (fun hc200 => ?_)
            · -- pc 200 taken: ¬ (own_bad c2) = (0 : Int32)
              refine RunW.iconst (0 : Int32) at_207 (by decide) (pc' := 208) rfl ?_
              refine RunW.istore (l' := #[.val (.int p1), .val (.int p2), .val (.int p3), .val (.int p4), .val (.int (p1 &&& (3 : Int32))), .val (.int c0), .val (.int c1), .val (.int c2), .val (.ref b11), .val (.int (0 : Int32))]) at_208 rfl (pc' := 210) rfl ?_
              refine RunW.aload at_210 rfl rfl (pc' := 212) rfl ?_
              refine RunW.callSW (k' := 8) (n' := 36) (as := [(.ref b11)]) (rest := []) (con_ifn l Z a0 hw n0 h16 sz16 b11 b16 [c0, c1, c2] fm cz od16 SF hfm SD SH8 SL8 SZ hcz X16 FV16 FC16 P16 (by simp) (own_q3 q0.2 q1.2 q2.2)) all0 (own_EW hw) at_212 (hw _ (List.mem_of_getElem? (i := 26) rfl)) (hw _ (List.mem_of_getElem? (i := 27) rfl)) (hw _ (List.mem_of_getElem? (i := 28) rfl)) (hw _ (List.mem_of_getElem? (i := 29) rfl)) (by decide) pd__Ljava_lang_String__Z rfl rfl rfl (by decide) (by show (0 : Nat) + (1 + 11) + 100 ≤ _; decide) (by decide) (by decide) (by decide) (by decide) (pc' := 215) rfl ?_
              rintro _ h19 vm19 ⟨_, rfl, ⟨rfl, E19⟩⟩ c19
              show RunW l Z own_EL n0 x.cls code maxLocals ret x.name room_1 _ 215 #[.val (.int p1), .val (.int p2), .val (.int p3), .val (.int p4), .val (.int (p1 &&& (3 : Int32))), .val (.int c0), .val (.int c1), .val (.int c2), .val (.ref b11), .val (.int (0 : Int32))] [(.int (own_ifn [c0, c1, c2]))] h19 vm19 8 36
              have E_b11_19 := X16.ext E19
              have Z_b11_19 := CHr.safe c19 X16.lt Z_b11_16
              have Z_b12_19 := CHr.safe c19 A_b12_16.lt Z_b12_16
              have A_b12_19 := A_b12_16.ext E19
              have F_b11_value_19 := FV16.ext E19
              have F_b11_coder_19 := FC16.ext E19
              have A_b16_19 := P16.ext E19
              have sz19 : n0 ≤ h19.size := Nat.le_trans sz16 E19.1
              have kp19 := Keep.ext kp16 E19
              have od19 := od16.ext E19
              refine RunW.iload at_215 rfl (pc' := 217) rfl ?_
              refine RunW.icmp_ne at_217 (by decide) (pc' := 224) (by decide) (pa := 220) rfl (fun hc217 => ?_) (fun hc217 => ?_)
              · -- pc 217 taken: ¬ (own_ifn [c0, c1, c2]) = (0 : Int32)
                exact absurd (own_if0 (Or.inr (Or.inr (Or.inr ⟨c2, by simp, hc200⟩)))) hc217
              · -- pc 217 not taken: (own_ifn [c0, c1, c2]) = (0 : Int32)
                refine RunW.iconst (1 : Int32) at_220 (by decide) (pc' := 221) rfl ?_
                refine RunW.goto at_221 (by decide) (pc' := 225) (by decide) ?_
                exact RunW.nreturn at_225 (ty := .boolean) rfl (by simp) (by decide) (by decide) ⟨_, rfl, rfl⟩
            · -- pc 200 not taken: (own_bad c2) = (0 : Int32)
              refine RunW.iconst (1 : Int32) at_203 (by decide) (pc' := 204) rfl ?_
              refine RunW.goto at_204 (by decide) (pc' := 208) (by decide) ?_
              refine RunW.istore (l' := #[.val (.int p1), .val (.int p2), .val (.int p3), .val (.int p4), .val (.int (p1 &&& (3 : Int32))), .val (.int c0), .val (.int c1), .val (.int c2), .val (.ref b11), .val (.int (1 : Int32))]) at_208 rfl (pc' := 210) rfl ?_
              refine RunW.aload at_210 rfl rfl (pc' := 212) rfl ?_
              refine RunW.callSW (k' := 8) (n' := 36) (as := [(.ref b11)]) (rest := []) (con_ifn l Z a0 hw n0 h16 sz16 b11 b16 [c0, c1, c2] fm cz od16 SF hfm SD SH8 SL8 SZ hcz X16 FV16 FC16 P16 (by simp) (own_q3 q0.2 q1.2 q2.2)) all0 (own_EW hw) at_212 (hw _ (List.mem_of_getElem? (i := 26) rfl)) (hw _ (List.mem_of_getElem? (i := 27) rfl)) (hw _ (List.mem_of_getElem? (i := 28) rfl)) (hw _ (List.mem_of_getElem? (i := 29) rfl)) (by decide) pd__Ljava_lang_String__Z rfl rfl rfl (by decide) (by show (0 : Nat) + (1 + 11) + 100 ≤ _; decide) (by decide) (by decide) (by decide) (by decide) (pc' := 215) rfl ?_
              rintro _ h20 vm20 ⟨_, rfl, ⟨rfl, E20⟩⟩ c20
              show RunW l Z own_EL n0 x.cls code maxLocals ret x.name room_1 _ 215 #[.val (.int p1), .val (.int p2), .val (.int p3), .val (.int p4), .val (.int (p1 &&& (3 : Int32))), .val (.int c0), .val (.int c1), .val (.int c2), .val (.ref b11), .val (.int (1 : Int32))] [(.int (own_ifn [c0, c1, c2]))] h20 vm20 8 36
              have E_b11_20 := X16.ext E20
              have Z_b11_20 := CHr.safe c20 X16.lt Z_b11_16
              have Z_b12_20 := CHr.safe c20 A_b12_16.lt Z_b12_16
              have A_b12_20 := A_b12_16.ext E20
              have F_b11_value_20 := FV16.ext E20
              have F_b11_coder_20 := FC16.ext E20
              have A_b16_20 := P16.ext E20
              have sz20 : n0 ≤ h20.size := Nat.le_trans sz16 E20.1
              have kp20 := Keep.ext kp16 E20
              have od20 := od16.ext E20
              refine RunW.iload at_215 rfl (pc' := 217) rfl ?_
              refine RunW.icmp_ne at_217 (by decide) (pc' := 224) (by decide) (pa := 220) rfl (fun hc217 => ?_) (fun hc217 => ?_)
              · -- pc 217 taken: ¬ (own_ifn [c0, c1, c2]) = (1 : Int32)
                exact absurd (own_if1 (by simp) (by simp) (by simp) (by simp [hc184, hc192, hc200])) hc217
              · -- pc 217 not taken: (own_ifn [c0, c1, c2]) = (1 : Int32)
                refine RunW.iconst (1 : Int32) at_220 (by decide) (pc' := 221) rfl ?_
                refine RunW.goto at_221 (by decide) (pc' := 225) (by decide) ?_
                exact RunW.nreturn at_225 (ty := .boolean) rfl (by simp) (by decide) (by decide) ⟨_, rfl, rfl⟩
      · -- pc 87 not taken: (p1 &&& (3 : Int32)) = (2 : Int32)
        refine RunW.newO (k' := 1) (n' := 4) at_90 (hw _ (List.mem_of_getElem? (i := 4) rfl)) (hw _ (List.mem_of_getElem? (i := 5) rfl)) (hw _ (List.mem_of_getElem? (i := 6) rfl)) (by decide) (by decide) (by decide) (by decide) (pc' := 93) rfl ?_
        intro h21 b21 g21 E21 X21 D21 c21 sf21
        have ge_b21 : n0 ≤ b21 := by rw [g21]; exact Z0
        have bo_b21 : h0.size ≤ b21 := by rw [g21]; exact (Keep.refl h0 []).1
        have sz21 : n0 ≤ h21.size := Nat.le_trans Z0 E21.1
        have kp21 := Keep.ext (Keep.refl h0 []) E21
        have od21 := od0.ext E21
        have F_b21_value : Fld Z h21 b21 "java/lang/String" "value" "[B" .null := D21 (Or.inr (hw _ (List.mem_of_getElem? (i := 20) rfl))) (ty := (.array .byte)) (by decide)
        have F_b21_coder : Fld Z h21 b21 "java/lang/String" "coder" "B" (.int (0 : Int32)) := D21 (Or.inr (hw _ (List.mem_of_getElem? (i := 21) rfl))) (ty := .byte) (by decide)
        refine RunW.dup at_93 rfl (pc' := 94) rfl ?_
        refine RunW.iconst (2 : Int32) at_94 (by decide) (pc' := 95) rfl ?_
        refine RunW.newP (ty := .char) (m := 2) (cap := 2) (dv := (.int (0 : Int32))) (k' := 2) (n' := 6) at_95 rfl (hw _ (List.mem_of_getElem? (i := 7) rfl)) (by decide) (by decide) (Nat.le_refl _) rfl (by decide) (by decide) (by decide) (by decide) (by decide) (pc' := 97) rfl ?_
        intro h22 b22 g22 E22 A22 c22 sf22
        have ge_b22 : n0 ≤ b22 := by rw [g22]; exact sz21
        have bo_b22 : h0.size ≤ b22 := by rw [g22]; exact kp21.1
        have ne_b21_b22 : b21 ≠ b22 := by rw [g22]; exact Nat.ne_of_lt X21.lt
        have E_b21_22 := X21.ext E22
        have Z_b21_22 := CHr.safe c22 X21.lt sf21
        have F_b21_value_22 := F_b21_value.ext E22
        have F_b21_coder_22 := F_b21_coder.ext E22
        have sz22 : n0 ≤ h22.size := Nat.le_trans sz21 E22.1
        have kp22 := Keep.ext kp21 E22
        have od22 := od21.ext E22
        replace A22 : Ary Z h22 b22 .char [(.int (0 : Int32)), (.int (0 : Int32))] := A22
        refine RunW.dup at_97 rfl (pc' := 98) rfl ?_
        refine RunW.iconst (0 : Int32) at_98 (by decide) (pc' := 99) rfl ?_
        refine RunW.iload at_99 rfl (pc' := 101) rfl ?_
        refine RunW.castore (i := 0) at_101 A22 (by decide) (by show (0 : Nat) < 2; decide) ge_b22 sf22 (pc' := 102) rfl ?_
        intro h23 W23 c23 A23
        have E_b21_23 := E_b21_22.wr W23
        have Z_b21_23 := CHr.safe c23 E_b21_22.lt Z_b21_22
        have F_b21_value_23 := F_b21_value_22.other W23 (Or.inl ne_b21_b22)
        have F_b21_coder_23 := F_b21_coder_22.other W23 (Or.inl ne_b21_b22)
        have Z_b22_23 := CHr.safe c23 A22.lt sf22
        have sz23 : n0 ≤ h23.size := by rw [W23.size]; exact sz22
        have kp23 := Keep.wr kp22 W23 (Or.inr bo_b22)
        have od23 := od22.wr W23 ge_b22
        rw [q0.1] at A23
        replace A23 : Ary Z h23 b22 .char [(.int c0), (.int (0 : Int32))] := A23
        refine RunW.dup at_102 rfl (pc' := 103) rfl ?_
        refine RunW.iconst (1 : Int32) at_103 (by decide) (pc' := 104) rfl ?_
        refine RunW.iload at_104 rfl (pc' := 106) rfl ?_
        refine RunW.castore (i := 1) at_106 A23 (by decide) (by show (1 : Nat) < 2; decide) ge_b22 Z_b22_23 (pc' := 107) rfl ?_
        intro h24 W24 c24 A24
        have E_b21_24 := E_b21_23.wr W24
        have Z_b21_24 := CHr.safe c24 E_b21_23.lt Z_b21_23
        have F_b21_value_24 := F_b21_value_23.other W24 (Or.inl ne_b21_b22)
        have F_b21_coder_24 := F_b21_coder_23.other W24 (Or.inl ne_b21_b22)
        have Z_b22_24 := CHr.safe c24 A23.lt Z_b22_23
        have sz24 : n0 ≤ h24.size := by rw [W24.size]; exact sz23
        have kp24 := Keep.wr kp23 W24 (Or.inr bo_b22)
        have od24 := od23.wr W24 ge_b22
        rw [q1.1] at A24
        replace A24 : Ary Z h24 b22 .char [(.int c0), (.int c1)] := A24
        refine RunW.callN (k' := 4) (n' := 15) (a := b21) (as := [(.ref b22)]) (rest := [(.ref b21)]) (con_si1 l Z a0 hw n0 h24 sz24 b21 b22 [c0, c1]  cz .null (.int (0 : Int32)) od24 SD SH8 SL8 SZ hcz E_b21_24 F_b21_value_24 F_b21_coder_24 ge_b21 A24 (by simp) (by simp) (own_q2 q0.2 q1.2) ne_b21_b22) (by rintro _ _ ⟨rfl, ⟨b_, bw_, K_, X_, FV_, FC_, P_⟩⟩; exact ⟨[b21], K_, (allS Z_b21_24 all0)⟩) rfl rfl at_107 (hw _ (List.mem_of_getElem? (i := 8) rfl)) (hw _ (List.mem_of_getElem? (i := 9) rfl)) (hw _ (List.mem_of_getElem? (i := 6) rfl)) (hw _ (List.mem_of_getElem? (i := 10) rfl)) (by decide) pd___C_V rfl rfl rfl (by decide) (by show (1 : Nat) + (2 + 11) + 74 ≤ _; decide) (by decide) (by decide) (by decide) (by decide) (pc' := 110) rfl ?_
        rintro _ h25 ⟨rfl, ⟨b25, bw25, K25, X25, FV25, FC25, P25⟩⟩ c25
        show RunW l Z own_EL n0 x.cls code maxLocals ret x.name room_1 _ 110 #[.val (.int p1), .val (.int p2), .val (.int p3), .val (.int p4), .val (.int (p1 &&& (3 : Int32))), .val (.int c0), .val (.int c1), .val (.int c2), .unset, .unset] [(.ref b21)] h25 vm 4 15
        have ge_b25 : n0 ≤ b25 := Nat.le_trans sz24 bw25
        have bo_b25 : h0.size ≤ b25 := Nat.le_trans kp24.1 bw25
        have ne_b21_b25 : b21 ≠ b25 := Nat.ne_of_lt (Nat.lt_of_lt_of_le E_b21_24.lt bw25)
        have ne_b22_b25 : b22 ≠ b25 := Nat.ne_of_lt (Nat.lt_of_lt_of_le A24.lt bw25)
        have E_b21_25 := E_b21_24.keep K25
        have Z_b21_25 := CHr.safe c25 E_b21_24.lt Z_b21_24
        have Z_b22_25 := CHr.safe c25 A24.lt Z_b22_24
        have A_b22_25 := A24.keep K25 (ninS (Ne.symm ne_b21_b22) nin0)
        have sz25 : n0 ≤ h25.size := Nat.le_trans sz24 K25.1
        have kp25 := Keep.trans kp24 K25 (allS (Or.inr bo_b21) all0)
        have od25 := od24.keep K25 (allS ge_b21 all0)
        refine RunW.astore (l' := #[.val (.int p1), .val (.int p2), .val (.int p3), .val (.int p4), .val (.int (p1 &&& (3 : Int32))), .val (.int c0), .val (.int c1), .val (.int c2), .val (.ref b21), .unset]) at_110 rfl rfl (pc' := 112) rfl ?_
        refine RunW.iload at_112 rfl (pc' := 114) rfl ?_
        refine RunW.bipush (46 : Int32) at_114 (by decide) (pc' := 116) rfl ?_
        refine RunW.icmp_ne at_116 (by decide) (pc' := 126) (by decide) (pa := 119) rfl (fun hc116 => ?_) (fun hc116 => ?_)
        · -- pc 116 taken: ¬ c0 = (46 : Int32)
          refine RunW.iload at_126 rfl (pc' := 128) rfl ?_
          refine RunW.callS (k' := 4) (n' := 15) (as := [(.int c0)]) (rest := []) (con_own_bad l Z a0 hw n0 h25 sz25 c0 ) (by rintro _ _ ⟨_, -, -, rfl⟩; exact ⟨[], Keep.refl _ _, all0⟩) at_128 (hw _ (List.mem_of_getElem? (i := 46) rfl)) (hw _ (List.mem_of_getElem? (i := 47) rfl)) (hw _ (List.mem_of_getElem? (i := 2) rfl)) (hw _ (List.mem_of_getElem? (i := 48) rfl)) (by decide) pd__C_Z rfl rfl rfl (by decide) (by show (0 : Nat) + (1 + 11) + 0 ≤ _; decide) (by decide) (by decide) (by decide) (by decide) (pc' := 131) rfl ?_
          rintro _ _ ⟨_, rfl, rfl, rfl⟩ -
          show RunW l Z own_EL n0 x.cls code maxLocals ret x.name room_1 _ 131 #[.val (.int p1), .val (.int p2), .val (.int p3), .val (.int p4), .val (.int (p1 &&& (3 : Int32))), .val (.int c0), .val (.int c1), .val (.int c2), .val (.ref b21), .unset] [(.int (own_bad c0))] h25 vm 4 15
          refine RunW.if_ne at_131 (by decide) (pc' := 146) (by decide) (pa := 134) rfl (fun hc131 => ?_) (fun hc131 => ?_)
          · -- pc 131 taken: ¬ (own_bad c0) = (0 : Int32)
            refine RunW.iconst (0 : Int32) at_146 (by decide) (pc' := 147) rfl ?_
            refine RunW.istore (l' := #[.val (.int p1), .val (.int p2), .val (.int p3), .val (.int p4), .val (.int (p1 &&& (3 : Int32))), .val (.int c0), .val (.int c1), .val (.int c2), .val (.ref b21), .val (.int (0 : Int32))]) at_147 rfl (pc' := 149) rfl ?_
            refine RunW.goto at_149 (by decide) (pc' := 210) (by decide) ?_
            refine RunW.aload at_210 rfl rfl (pc' := 212) rfl ?_
            refine RunW.callSW (k' := 8) (n' := 35) (as := [(.ref b21)]) (rest := []) (con_ifn l Z a0 hw n0 h25 sz25 b21 b25 [c0, c1] fm cz od25 SF hfm SD SH8 SL8 SZ hcz X25 FV25 FC25 P25 (by simp) (own_q2 q0.2 q1.2)) all0 (own_EW hw) at_212 (hw _ (List.mem_of_getElem? (i := 26) rfl)) (hw _ (List.mem_of_getElem? (i := 27) rfl)) (hw _ (List.mem_of_getElem? (i := 28) rfl)) (hw _ (List.mem_of_getElem? (i := 29) rfl)) (by decide) pd__Ljava_lang_String__Z rfl rfl rfl (by decide) (by show (0 : Nat) + (1 + 11) + 100 ≤ _; decide) (by decide) (by decide) (by decide) (by decide) (pc' := 215) rfl ?_
            rintro _ h26 vm26 ⟨_, rfl, ⟨rfl, E26⟩⟩ c26
            show RunW l Z own_EL n0 x.cls code maxLocals ret x.name room_1 _ 215 #[.val (.int p1), .val (.int p2), .val (.int p3), .val (.int p4), .val (.int (p1 &&& (3 : Int32))), .val (.int c0), .val (.int c1), .val (.int c2), .val (.ref b21), .val (.int (0 : Int32))] [(.int (own_ifn [c0, c1]))] h26 vm26 8 35
            have E_b21_26 := X25.ext E26
            have Z_b21_26 := CHr.safe c26 X25.lt Z_b21_25
            have Z_b22_26 := CHr.safe c26 A_b22_25.lt Z_b22_25
            have A_b22_26 := A_b22_25.ext E26
            have F_b21_value_26 := FV25.ext E26
            have F_b21_coder_26 := FC25.ext E26
            have A_b25_26 := P25.ext E26
            have sz26 : n0 ≤ h26.size := Nat.le_trans sz25 E26.1
            have kp26 := Keep.ext kp25 E26
            have od26 := od25.ext E26
            refine RunW.iload at_215 rfl (pc' := 217) rfl ?_
            refine RunW.icmp_ne at_217 (by decide) (pc' := 224) (by decide) (pa := 220) rfl (fun hc217 => ?_) (fun hc217 => ?_)
            · -- pc 217 taken: ¬ (own_ifn [c0, c1]) = (0 : Int32)
              exact absurd (own_if0 (Or.inr (Or.inr (Or.inr ⟨c0, by simp, hc131⟩)))) hc217
            · -- pc 217 not taken: (own_ifn [c0, c1]) = (0 : Int32)
              refine RunW.iconst (1 : Int32) at_220 (by decide) (pc' := 221) rfl ?_
              refine RunW.goto at_221 (by decide) (pc' := 225) (by decide) ?_
              exact RunW.nreturn at_225 (ty := .boolean) rfl (by simp) (by decide) (by decide) ⟨_, rfl, rfl⟩
          · -- pc 131 not taken: (own_bad c0) = (0 : Int32)
            refine RunW.iload at_134 rfl (pc' := 136) rfl ?_
            refine RunW.callS (k' := 4) (n' := 15) (as := [(.int c1)]) (rest := []) (con_own_bad l Z a0 hw n0 h25 sz25 c1 ) (by rintro _ _ ⟨_, -, -, rfl⟩; exact ⟨[], Keep.refl _ _, all0⟩) at_136 (hw _ (List.mem_of_getElem? (i := 46) rfl)) (hw _ (List.mem_of_getElem? (i := 47) rfl)) (hw _ (List.mem_of_getElem? (i := 2) rfl)) (hw _ (List.mem_of_getElem? (i := 48) rfl)) (by decide) pd__C_Z rfl rfl rfl (by decide) (by show (0 : Nat) + (1 + 11) + 0 ≤ _; decide) (by decide) (by decide) (by decide) (by decide) (pc' := 139) rfl ?_
            rintro _ _ ⟨_, rfl, rfl, rfl⟩ -
            show RunW l Z own_EL n0 x.cls code maxLocals ret x.name room_1 _ 139 #[.val (.int p1), .val (.int p2), .val (.int p3), .val (.int p4), .val (.int (p1 &&& (3 : Int32))), .val (.int c0), .val (.int c1), .val (.int c2), .val (.ref b21), .unset] [(.int (own_bad c1))] h25 vm 4 15
            refine RunW.if_ne at_139 (by decide) (pc' := 146) (by decide) (pa := 142) rfl (fun hc139 => ?_) (fun hc139 => ?_)
            · -- pc 139 taken: ¬ (own_bad c1) = (0 : Int32)
              refine RunW.iconst (0 : Int32) at_146 (by decide) (pc' := 147) rfl ?_
              refine RunW.istore (l' := #[.val (.int p1), .val (.int p2), .val (.int p3), .val (.int p4), .val (.int (p1 &&& (3 : Int32))), .val (.int c0), .val (.int c1), .val (.int c2), .val (.ref b21), .val (.int (0 : Int32))]) at_147 rfl (pc' := 149) rfl ?_
              refine RunW.goto at_149 (by decide) (pc' := 210) (by decide) ?_
              refine RunW.aload at_210 rfl rfl (pc' := 212) rfl ?_
              refine RunW.callSW (k' := 8) (n' := 35) (as := [(.ref b21)]) (rest := []) (con_ifn l Z a0 hw n0 h25 sz25 b21 b25 [c0, c1] fm cz od25 SF hfm SD SH8 SL8 SZ hcz X25 FV25 FC25 P25 (by simp) (own_q2 q0.2 q1.2)) all0 (own_EW hw) at_212 (hw _ (List.mem_of_getElem? (i := 26) rfl)) (hw _ (List.mem_of_getElem? (i := 27) rfl)) (hw _ (List.mem_of_getElem? (i := 28) rfl)) (hw _ (List.mem_of_getElem? (i := 29) rfl)) (by decide) pd__Ljava_lang_String__Z rfl rfl rfl (by decide) (by show (0 : Nat) + (1 + 11) + 100 ≤ _; decide) (by decide) (by decide) (by decide) (by decide) (pc' := 215) rfl ?_
              rintro _ h27 vm27 ⟨_, rfl, ⟨rfl, E27⟩⟩ c27
              show RunW l Z own_EL n0 x.cls code maxLocals ret x.name room_1 _ 215 #[.val (.int p1), .val (.int p2), .val (.int p3), .val (.int p4), .val (.int (p1 &&& (3 : Int32))), .val (.int c0), .val (.int c1), .val (.int c2), .val (.ref b21), .val (.int (0 : Int32))] [(.int (own_ifn [c0, c1]))] h27 vm27 8 35
              have E_b21_27 := X25.ext E27
              have Z_b21_27 := CHr.safe c27 X25.lt Z_b21_25
              have Z_b22_27 := CHr.safe c27 A_b22_25.lt Z_b22_25
              have A_b22_27 := A_b22_25.ext E27
              have F_b21_value_27 := FV25.ext E27
              have F_b21_coder_27 := FC25.ext E27
              have A_b25_27 := P25.ext E27
              have sz27 : n0 ≤ h27.size := Nat.le_trans sz25 E27.1
              have kp27 := Keep.ext kp25 E27
              have od27 := od25.ext E27
              refine RunW.iload at_215 rfl (pc' := 217) rfl ?_
              refine RunW.icmp_ne at_217 (by decide) (pc' := 224) (by decide) (pa := 220) rfl (fun hc217 => ?_) (fun hc217 => ?_)
              · -- pc 217 taken: ¬ (own_ifn [c0, c1]) = (0 : Int32)
                exact absurd (own_if0 (Or.inr (Or.inr (Or.inr ⟨c1, by simp, hc139⟩)))) hc217
              · -- pc 217 not taken: (own_ifn [c0, c1]) = (0 : Int32)
                refine RunW.iconst (1 : Int32) at_220 (by decide) (pc' := 221) rfl ?_
                refine RunW.goto at_221 (by decide) (pc' := 225) (by decide) ?_
                exact RunW.nreturn at_225 (ty := .boolean) rfl (by simp) (by decide) (by decide) ⟨_, rfl, rfl⟩
            · -- pc 139 not taken: (own_bad c1) = (0 : Int32)
              refine RunW.iconst (1 : Int32) at_142 (by decide) (pc' := 143) rfl ?_
              refine RunW.goto at_143 (by decide) (pc' := 147) (by decide) ?_
              refine RunW.istore (l' := #[.val (.int p1), .val (.int p2), .val (.int p3), .val (.int p4), .val (.int (p1 &&& (3 : Int32))), .val (.int c0), .val (.int c1), .val (.int c2), .val (.ref b21), .val (.int (1 : Int32))]) at_147 rfl (pc' := 149) rfl ?_
              refine RunW.goto at_149 (by decide) (pc' := 210) (by decide) ?_
              refine RunW.aload at_210 rfl rfl (pc' := 212) rfl ?_
              refine RunW.callSW (k' := 8) (n' := 35) (as := [(.ref b21)]) (rest := []) (con_ifn l Z a0 hw n0 h25 sz25 b21 b25 [c0, c1] fm cz od25 SF hfm SD SH8 SL8 SZ hcz X25 FV25 FC25 P25 (by simp) (own_q2 q0.2 q1.2)) all0 (own_EW hw) at_212 (hw _ (List.mem_of_getElem? (i := 26) rfl)) (hw _ (List.mem_of_getElem? (i := 27) rfl)) (hw _ (List.mem_of_getElem? (i := 28) rfl)) (hw _ (List.mem_of_getElem? (i := 29) rfl)) (by decide) pd__Ljava_lang_String__Z rfl rfl rfl (by decide) (by show (0 : Nat) + (1 + 11) + 100 ≤ _; decide) (by decide) (by decide) (by decide) (by decide) (pc' := 215) rfl ?_
              rintro _ h28 vm28 ⟨_, rfl, ⟨rfl, E28⟩⟩ c28
              show RunW l Z own_EL n0 x.cls code maxLocals ret x.name room_1 _ 215 #[.val (.int p1), .val (.int p2), .val (.int p3), .val (.int p4), .val (.int (p1 &&& (3 : Int32))), .val (.int c0), .val (.int c1), .val (.int c2), .val (.ref b21), .val (.int (1 : Int32))] [(.int (own_ifn [c0, c1]))] h28 vm28 8 35
              have E_b21_28 := X25.ext E28
              have Z_b21_28 := CHr.safe c28 X25.lt Z_b21_25
              have Z_b22_28 := CHr.safe c28 A_b22_25.lt Z_b22_25
              have A_b22_28 := A_b22_25.ext E28
              have F_b21_value_28 := FV25.ext E28
              have F_b21_coder_28 := FC25.ext E28
              have A_b25_28 := P25.ext E28
              have sz28 : n0 ≤ h28.size := Nat.le_trans sz25 E28.1
              have kp28 := Keep.ext kp25 E28
              have od28 := od25.ext E28
              refine RunW.iload at_215 rfl (pc' := 217) rfl ?_
              refine RunW.icmp_ne at_217 (by decide) (pc' := 224) (by decide) (pa := 220) rfl (fun hc217 => ?_) (fun hc217 => ?_)
              · -- pc 217 taken: ¬ (own_ifn [c0, c1]) = (1 : Int32)
                exact absurd (own_if1 (by simp) (by simp) (fun z => hc116 (by injection z)) (by simp [hc131, hc139])) hc217
              · -- pc 217 not taken: (own_ifn [c0, c1]) = (1 : Int32)
                refine RunW.iconst (1 : Int32) at_220 (by decide) (pc' := 221) rfl ?_
                refine RunW.goto at_221 (by decide) (pc' := 225) (by decide) ?_
                exact RunW.nreturn at_225 (ty := .boolean) rfl (by simp) (by decide) (by decide) ⟨_, rfl, rfl⟩
        · -- pc 116 not taken: c0 = (46 : Int32)
          refine RunW.iload at_119 rfl (pc' := 121) rfl ?_
          refine RunW.bipush (46 : Int32) at_121 (by decide) (pc' := 123) rfl ?_
          refine RunW.icmp_eq at_123 (by decide) (pc' := 146) (by decide) (pa := 126) rfl (fun hc123 => ?_) (fun hc123 => ?_)
          · -- pc 123 taken: c1 = (46 : Int32)
            refine RunW.iconst (0 : Int32) at_146 (by decide) (pc' := 147) rfl ?_
            refine RunW.istore (l' := #[.val (.int p1), .val (.int p2), .val (.int p3), .val (.int p4), .val (.int (p1 &&& (3 : Int32))), .val (.int c0), .val (.int c1), .val (.int c2), .val (.ref b21), .val (.int (0 : Int32))]) at_147 rfl (pc' := 149) rfl ?_
            refine RunW.goto at_149 (by decide) (pc' := 210) (by decide) ?_
            refine RunW.aload at_210 rfl rfl (pc' := 212) rfl ?_
            refine RunW.callSW (k' := 8) (n' := 35) (as := [(.ref b21)]) (rest := []) (con_ifn l Z a0 hw n0 h25 sz25 b21 b25 [c0, c1] fm cz od25 SF hfm SD SH8 SL8 SZ hcz X25 FV25 FC25 P25 (by simp) (own_q2 q0.2 q1.2)) all0 (own_EW hw) at_212 (hw _ (List.mem_of_getElem? (i := 26) rfl)) (hw _ (List.mem_of_getElem? (i := 27) rfl)) (hw _ (List.mem_of_getElem? (i := 28) rfl)) (hw _ (List.mem_of_getElem? (i := 29) rfl)) (by decide) pd__Ljava_lang_String__Z rfl rfl rfl (by decide) (by show (0 : Nat) + (1 + 11) + 100 ≤ _; decide) (by decide) (by decide) (by decide) (by decide) (pc' := 215) rfl ?_
            rintro _ h29 vm29 ⟨_, rfl, ⟨rfl, E29⟩⟩ c29
            show RunW l Z own_EL n0 x.cls code maxLocals ret x.name room_1 _ 215 #[.val (.int p1), .val (.int p2), .val (.int p3), .val (.int p4), .val (.int (p1 &&& (3 : Int32))), .val (.int c0), .val (.int c1), .val (.int c2), .val (.ref b21), .val (.int (0 : Int32))] [(.int (own_ifn [c0, c1]))] h29 vm29 8 35
            have E_b21_29 := X25.ext E29
            have Z_b21_29 := CHr.safe c29 X25.lt Z_b21_25
            have Z_b22_29 := CHr.safe c29 A_b22_25.lt Z_b22_25
            have A_b22_29 := A_b22_25.ext E29
            have F_b21_value_29 := FV25.ext E29
            have F_b21_coder_29 := FC25.ext E29
            have A_b25_29 := P25.ext E29
            have sz29 : n0 ≤ h29.size := Nat.le_trans sz25 E29.1
            have kp29 := Keep.ext kp25 E29
            have od29 := od25.ext E29
            refine RunW.iload at_215 rfl (pc' := 217) rfl ?_
            refine RunW.icmp_ne at_217 (by decide) (pc' := 224) (by decide) (pa := 220) rfl (fun hc217 => ?_) (fun hc217 => ?_)
            · -- pc 217 taken: ¬ (own_ifn [c0, c1]) = (0 : Int32)
              exact absurd (own_if0 (Or.inr (Or.inr (Or.inl (by rw [hc116, hc123]))))) hc217
            · -- pc 217 not taken: (own_ifn [c0, c1]) = (0 : Int32)
              refine RunW.iconst (1 : Int32) at_220 (by decide) (pc' := 221) rfl ?_
              refine RunW.goto at_221 (by decide) (pc' := 225) (by decide) ?_
              exact RunW.nreturn at_225 (ty := .boolean) rfl (by simp) (by decide) (by decide) ⟨_, rfl, rfl⟩
          · -- pc 123 not taken: ¬ c1 = (46 : Int32)
            refine RunW.iload at_126 rfl (pc' := 128) rfl ?_
            refine RunW.callS (k' := 4) (n' := 15) (as := [(.int c0)]) (rest := []) (con_own_bad l Z a0 hw n0 h25 sz25 c0 ) (by rintro _ _ ⟨_, -, -, rfl⟩; exact ⟨[], Keep.refl _ _, all0⟩) at_128 (hw _ (List.mem_of_getElem? (i := 46) rfl)) (hw _ (List.mem_of_getElem? (i := 47) rfl)) (hw _ (List.mem_of_getElem? (i := 2) rfl)) (hw _ (List.mem_of_getElem? (i := 48) rfl)) (by decide) pd__C_Z rfl rfl rfl (by decide) (by show (0 : Nat) + (1 + 11) + 0 ≤ _; decide) (by decide) (by decide) (by decide) (by decide) (pc' := 131) rfl ?_
            rintro _ _ ⟨_, rfl, rfl, rfl⟩ -
            show RunW l Z own_EL n0 x.cls code maxLocals ret x.name room_1 _ 131 #[.val (.int p1), .val (.int p2), .val (.int p3), .val (.int p4), .val (.int (p1 &&& (3 : Int32))), .val (.int c0), .val (.int c1), .val (.int c2), .val (.ref b21), .unset] [(.int (own_bad c0))] h25 vm 4 15
            refine RunW.if_ne at_131 (by decide) (pc' := 146) (by decide) (pa := 134) rfl (fun hc131 => ?_) (fun hc131 => ?_)
            · -- pc 131 taken: ¬ (own_bad c0) = (0 : Int32)
              refine RunW.iconst (0 : Int32) at_146 (by decide) (pc' := 147) rfl ?_
              refine RunW.istore (l' := #[.val (.int p1), .val (.int p2), .val (.int p3), .val (.int p4), .val (.int (p1 &&& (3 : Int32))), .val (.int c0), .val (.int c1), .val (.int c2), .val (.ref b21), .val (.int (0 : Int32))]) at_147 rfl (pc' := 149) rfl ?_
              refine RunW.goto at_149 (by decide) (pc' := 210) (by decide) ?_
              refine RunW.aload at_210 rfl rfl (pc' := 212) rfl ?_
              refine RunW.callSW (k' := 8) (n' := 35) (as := [(.ref b21)]) (rest := []) (con_ifn l Z a0 hw n0 h25 sz25 b21 b25 [c0, c1] fm cz od25 SF hfm SD SH8 SL8 SZ hcz X25 FV25 FC25 P25 (by simp) (own_q2 q0.2 q1.2)) all0 (own_EW hw) at_212 (hw _ (List.mem_of_getElem? (i := 26) rfl)) (hw _ (List.mem_of_getElem? (i := 27) rfl)) (hw _ (List.mem_of_getElem? (i := 28) rfl)) (hw _ (List.mem_of_getElem? (i := 29) rfl)) (by decide) pd__Ljava_lang_String__Z rfl rfl rfl (by decide) (by show (0 : Nat) + (1 + 11) + 100 ≤ _; decide) (by decide) (by decide) (by decide) (by decide) (pc' := 215) rfl ?_
              rintro _ h30 vm30 ⟨_, rfl, ⟨rfl, E30⟩⟩ c30
              show RunW l Z own_EL n0 x.cls code maxLocals ret x.name room_1 _ 215 #[.val (.int p1), .val (.int p2), .val (.int p3), .val (.int p4), .val (.int (p1 &&& (3 : Int32))), .val (.int c0), .val (.int c1), .val (.int c2), .val (.ref b21), .val (.int (0 : Int32))] [(.int (own_ifn [c0, c1]))] h30 vm30 8 35
              have E_b21_30 := X25.ext E30
              have Z_b21_30 := CHr.safe c30 X25.lt Z_b21_25
              have Z_b22_30 := CHr.safe c30 A_b22_25.lt Z_b22_25
              have A_b22_30 := A_b22_25.ext E30
              have F_b21_value_30 := FV25.ext E30
              have F_b21_coder_30 := FC25.ext E30
              have A_b25_30 := P25.ext E30
              have sz30 : n0 ≤ h30.size := Nat.le_trans sz25 E30.1
              have kp30 := Keep.ext kp25 E30
              have od30 := od25.ext E30
              refine RunW.iload at_215 rfl (pc' := 217) rfl ?_
              refine RunW.icmp_ne at_217 (by decide) (pc' := 224) (by decide) (pa := 220) rfl (fun hc217 => ?_) (fun hc217 => ?_)
              · -- pc 217 taken: ¬ (own_ifn [c0, c1]) = (0 : Int32)
                exact absurd (own_if0 (Or.inr (Or.inr (Or.inr ⟨c0, by simp, hc131⟩)))) hc217
              · -- pc 217 not taken: (own_ifn [c0, c1]) = (0 : Int32)
                refine RunW.iconst (1 : Int32) at_220 (by decide) (pc' := 221) rfl ?_
                refine RunW.goto at_221 (by decide) (pc' := 225) (by decide) ?_
                exact RunW.nreturn at_225 (ty := .boolean) rfl (by simp) (by decide) (by decide) ⟨_, rfl, rfl⟩
            · -- pc 131 not taken: (own_bad c0) = (0 : Int32)
              refine RunW.iload at_134 rfl (pc' := 136) rfl ?_
              refine RunW.callS (k' := 4) (n' := 15) (as := [(.int c1)]) (rest := []) (con_own_bad l Z a0 hw n0 h25 sz25 c1 ) (by rintro _ _ ⟨_, -, -, rfl⟩; exact ⟨[], Keep.refl _ _, all0⟩) at_136 (hw _ (List.mem_of_getElem? (i := 46) rfl)) (hw _ (List.mem_of_getElem? (i := 47) rfl)) (hw _ (List.mem_of_getElem? (i := 2) rfl)) (hw _ (List.mem_of_getElem? (i := 48) rfl)) (by decide) pd__C_Z rfl rfl rfl (by decide) (by show (0 : Nat) + (1 + 11) + 0 ≤ _; decide) (by decide) (by decide) (by decide) (by decide) (pc' := 139) rfl ?_
              rintro _ _ ⟨_, rfl, rfl, rfl⟩ -
              show RunW l Z own_EL n0 x.cls code maxLocals ret x.name room_1 _ 139 #[.val (.int p1), .val (.int p2), .val (.int p3), .val (.int p4), .val (.int (p1 &&& (3 : Int32))), .val (.int c0), .val (.int c1), .val (.int c2), .val (.ref b21), .unset] [(.int (own_bad c1))] h25 vm 4 15
              refine RunW.if_ne at_139 (by decide) (pc' := 146) (by decide) (pa := 142) rfl (fun hc139 => ?_) (fun hc139 => ?_)
              · -- pc 139 taken: ¬ (own_bad c1) = (0 : Int32)
                refine RunW.iconst (0 : Int32) at_146 (by decide) (pc' := 147) rfl ?_
                refine RunW.istore (l' := #[.val (.int p1), .val (.int p2), .val (.int p3), .val (.int p4), .val (.int (p1 &&& (3 : Int32))), .val (.int c0), .val (.int c1), .val (.int c2), .val (.ref b21), .val (.int (0 : Int32))]) at_147 rfl (pc' := 149) rfl ?_
                refine RunW.goto at_149 (by decide) (pc' := 210) (by decide) ?_
                refine RunW.aload at_210 rfl rfl (pc' := 212) rfl ?_
                refine RunW.callSW (k' := 8) (n' := 35) (as := [(.ref b21)]) (rest := []) (con_ifn l Z a0 hw n0 h25 sz25 b21 b25 [c0, c1] fm cz od25 SF hfm SD SH8 SL8 SZ hcz X25 FV25 FC25 P25 (by simp) (own_q2 q0.2 q1.2)) all0 (own_EW hw) at_212 (hw _ (List.mem_of_getElem? (i := 26) rfl)) (hw _ (List.mem_of_getElem? (i := 27) rfl)) (hw _ (List.mem_of_getElem? (i := 28) rfl)) (hw _ (List.mem_of_getElem? (i := 29) rfl)) (by decide) pd__Ljava_lang_String__Z rfl rfl rfl (by decide) (by show (0 : Nat) + (1 + 11) + 100 ≤ _; decide) (by decide) (by decide) (by decide) (by decide) (pc' := 215) rfl ?_
                rintro _ h31 vm31 ⟨_, rfl, ⟨rfl, E31⟩⟩ c31
                show RunW l Z own_EL n0 x.cls code maxLocals ret x.name room_1 _ 215 #[.val (.int p1), .val (.int p2), .val (.int p3), .val (.int p4), .val (.int (p1 &&& (3 : Int32))), .val (.int c0), .val (.int c1), .val (.int c2), .val (.ref b21), .val (.int (0 : Int32))] [(.int (own_ifn [c0, c1]))] h31 vm31 8 35
                have E_b21_31 := X25.ext E31
                have Z_b21_31 := CHr.safe c31 X25.lt Z_b21_25
                have Z_b22_31 := CHr.safe c31 A_b22_25.lt Z_b22_25
                have A_b22_31 := A_b22_25.ext E31
                have F_b21_value_31 := FV25.ext E31
                have F_b21_coder_31 := FC25.ext E31
                have A_b25_31 := P25.ext E31
                have sz31 : n0 ≤ h31.size := Nat.le_trans sz25 E31.1
                have kp31 := Keep.ext kp25 E31
                have od31 := od25.ext E31
                refine RunW.iload at_215 rfl (pc' := 217) rfl ?_
                refine RunW.icmp_ne at_217 (by decide) (pc' := 224) (by decide) (pa := 220) rfl (fun hc217 => ?_) (fun hc217 => ?_)
                · -- pc 217 taken: ¬ (own_ifn [c0, c1]) = (0 : Int32)
                  exact absurd (own_if0 (Or.inr (Or.inr (Or.inr ⟨c1, by simp, hc139⟩)))) hc217
                · -- pc 217 not taken: (own_ifn [c0, c1]) = (0 : Int32)
                  refine RunW.iconst (1 : Int32) at_220 (by decide) (pc' := 221) rfl ?_
                  refine RunW.goto at_221 (by decide) (pc' := 225) (by decide) ?_
                  exact RunW.nreturn at_225 (ty := .boolean) rfl (by simp) (by decide) (by decide) ⟨_, rfl, rfl⟩
              · -- pc 139 not taken: (own_bad c1) = (0 : Int32)
                refine RunW.iconst (1 : Int32) at_142 (by decide) (pc' := 143) rfl ?_
                refine RunW.goto at_143 (by decide) (pc' := 147) (by decide) ?_
                refine RunW.istore (l' := #[.val (.int p1), .val (.int p2), .val (.int p3), .val (.int p4), .val (.int (p1 &&& (3 : Int32))), .val (.int c0), .val (.int c1), .val (.int c2), .val (.ref b21), .val (.int (1 : Int32))]) at_147 rfl (pc' := 149) rfl ?_
                refine RunW.goto at_149 (by decide) (pc' := 210) (by decide) ?_
                refine RunW.aload at_210 rfl rfl (pc' := 212) rfl ?_
                refine RunW.callSW (k' := 8) (n' := 35) (as := [(.ref b21)]) (rest := []) (con_ifn l Z a0 hw n0 h25 sz25 b21 b25 [c0, c1] fm cz od25 SF hfm SD SH8 SL8 SZ hcz X25 FV25 FC25 P25 (by simp) (own_q2 q0.2 q1.2)) all0 (own_EW hw) at_212 (hw _ (List.mem_of_getElem? (i := 26) rfl)) (hw _ (List.mem_of_getElem? (i := 27) rfl)) (hw _ (List.mem_of_getElem? (i := 28) rfl)) (hw _ (List.mem_of_getElem? (i := 29) rfl)) (by decide) pd__Ljava_lang_String__Z rfl rfl rfl (by decide) (by show (0 : Nat) + (1 + 11) + 100 ≤ _; decide) (by decide) (by decide) (by decide) (by decide) (pc' := 215) rfl ?_
                rintro _ h32 vm32 ⟨_, rfl, ⟨rfl, E32⟩⟩ c32
                show RunW l Z own_EL n0 x.cls code maxLocals ret x.name room_1 _ 215 #[.val (.int p1), .val (.int p2), .val (.int p3), .val (.int p4), .val (.int (p1 &&& (3 : Int32))), .val (.int c0), .val (.int c1), .val (.int c2), .val (.ref b21), .val (.int (1 : Int32))] [(.int (own_ifn [c0, c1]))] h32 vm32 8 35
                have E_b21_32 := X25.ext E32
                have Z_b21_32 := CHr.safe c32 X25.lt Z_b21_25
                have Z_b22_32 := CHr.safe c32 A_b22_25.lt Z_b22_25
                have A_b22_32 := A_b22_25.ext E32
                have F_b21_value_32 := FV25.ext E32
                have F_b21_coder_32 := FC25.ext E32
                have A_b25_32 := P25.ext E32
                have sz32 : n0 ≤ h32.size := Nat.le_trans sz25 E32.1
                have kp32 := Keep.ext kp25 E32
                have od32 := od25.ext E32
                refine RunW.iload at_215 rfl (pc' := 217) rfl ?_
                refine RunW.icmp_ne at_217 (by decide) (pc' := 224) (by decide) (pa := 220) rfl (fun hc217 => ?_) (fun hc217 => ?_)
                · -- pc 217 taken: ¬ (own_ifn [c0, c1]) = (1 : Int32)
                  exact absurd (own_if1 (by simp) (by simp) (fun z => hc123 (by injection z with _ z; injection z)) (by simp [hc131, hc139])) hc217
                · -- pc 217 not taken: (own_ifn [c0, c1]) = (1 : Int32)
                  refine RunW.iconst (1 : Int32) at_220 (by decide) (pc' := 221) rfl ?_
                  refine RunW.goto at_221 (by decide) (pc' := 225) (by decide) ?_
                  exact RunW.nreturn at_225 (ty := .boolean) rfl (by simp) (by decide) (by decide) ⟨_, rfl, rfl⟩
    · -- pc 49 not taken: (p1 &&& (3 : Int32)) = (1 : Int32)
      refine RunW.iload at_52 rfl (pc' := 54) rfl ?_
      refine RunW.callS (k' := 2) (n' := 6) (as := [(.int c0)]) (rest := []) (con_voc l Z a0 hw n0 h0 Z0 c0 cz od0 SD SH8 SL8 SZ hcz) (by rintro _ _ ⟨_, rfl, ⟨t_, b_, rfl, bw_, E_, X_, FV_, FC_, P_⟩⟩; exact ⟨[], Keep.ofExt E_, all0⟩) at_54 (hw _ (List.mem_of_getElem? (i := 103) rfl)) (hw _ (List.mem_of_getElem? (i := 104) rfl)) (hw _ (List.mem_of_getElem? (i := 6) rfl)) (hw _ (List.mem_of_getElem? (i := 105) rfl)) (by decide) pd__C_Ljava_lang_String_ rfl rfl rfl (by decide) (by show (0 : Nat) + (1 + 11) + 29 ≤ _; decide) (by decide) (by decide) (by decide) (by decide) (pc' := 57) rfl ?_
      rintro _ h33 ⟨_, rfl, ⟨t33, b33, rfl, bw33, E33, X33, FV33, FC33, P33⟩⟩ c33
      show RunW l Z own_EL n0 x.cls code maxLocals ret x.name room_1 _ 57 #[.val (.int p1), .val (.int p2), .val (.int p3), .val (.int p4), .val (.int (p1 &&& (3 : Int32))), .val (.int c0), .val (.int c1), .val (.int c2), .unset, .unset] [(.ref t33)] h33 vm 2 6
      have ge_t33 : n0 ≤ t33 := Nat.le_trans Z0 bw33
      have bo_t33 : h0.size ≤ t33 := Nat.le_trans (Keep.refl h0 []).1 bw33
      have sz33 : n0 ≤ h33.size := Nat.le_trans Z0 E33.1
      have kp33 := Keep.ext (Keep.refl h0 []) E33
      have od33 := od0.ext E33
      refine RunW.astore (l' := #[.val (.int p1), .val (.int p2), .val (.int p3), .val (.int p4), .val (.int (p1 &&& (3 : Int32))), .val (.int c0), .val (.int c1), .val (.int c2), .val (.ref t33), .unset]) at_57 rfl rfl (pc' := 59) rfl ?_
      refine RunW.iload at_59 rfl (pc' := 61) rfl ?_
      refine RunW.bipush (46 : Int32) at_61 (by decide) (pc' := 63) rfl ?_
      refine RunW.icmp_eq at_63 (by decide) (pc' := 78) (by decide) (pa := 66) rfl (fun hc63 => ?_) (fun hc63 => ?_)
      · -- pc 63 taken: c0 = (46 : Int32)
        refine RunW.iconst (0 : Int32) at_78 (by decide) (pc' := 79) rfl ?_
        refine RunW.istore (l' := #[.val (.int p1), .val (.int p2), .val (.int p3), .val (.int p4), .val (.int (p1 &&& (3 : Int32))), .val (.int c0), .val (.int c1), .val (.int c2), .val (.ref t33), .val (.int (0 : Int32))]) at_79 rfl (pc' := 81) rfl ?_
        refine RunW.goto at_81 (by decide) (pc' := 210) (by decide) ?_
        refine RunW.aload at_210 rfl rfl (pc' := 212) rfl ?_
        refine RunW.callSW (k' := 6) (n' := 26) (as := [(.ref t33)]) (rest := []) (con_ifn l Z a0 hw n0 h33 sz33 t33 b33 [c0] fm cz od33 SF hfm SD SH8 SL8 SZ hcz X33 FV33 FC33 P33 (by simp) (own_q1 q0.2)) all0 (own_EW hw) at_212 (hw _ (List.mem_of_getElem? (i := 26) rfl)) (hw _ (List.mem_of_getElem? (i := 27) rfl)) (hw _ (List.mem_of_getElem? (i := 28) rfl)) (hw _ (List.mem_of_getElem? (i := 29) rfl)) (by decide) pd__Ljava_lang_String__Z rfl rfl rfl (by decide) (by show (0 : Nat) + (1 + 11) + 100 ≤ _; decide) (by decide) (by decide) (by decide) (by decide) (pc' := 215) rfl ?_
        rintro _ h34 vm34 ⟨_, rfl, ⟨rfl, E34⟩⟩ c34
        show RunW l Z own_EL n0 x.cls code maxLocals ret x.name room_1 _ 215 #[.val (.int p1), .val (.int p2), .val (.int p3), .val (.int p4), .val (.int (p1 &&& (3 : Int32))), .val (.int c0), .val (.int c1), .val (.int c2), .val (.ref t33), .val (.int (0 : Int32))] [(.int (own_ifn [c0]))] h34 vm34 6 26
        have E_t33_34 := X33.ext E34
        have F_t33_value_34 := FV33.ext E34
        have F_t33_coder_34 := FC33.ext E34
        have A_b33_34 := P33.ext E34
        have sz34 : n0 ≤ h34.size := Nat.le_trans sz33 E34.1
        have kp34 := Keep.ext kp33 E34
        have od34 := od33.ext E34
        refine RunW.iload at_215 rfl (pc' := 217) rfl ?_
        refine RunW.icmp_ne at_217 (by decide) (pc' := 224) (by decide) (pa := 220) rfl (fun hc217 => ?_) (fun hc217 => ?_)
        · -- pc 217 taken: ¬ (own_ifn [c0]) = (0 : Int32)
          exact absurd (own_if0 (Or.inr (Or.inl (by rw [hc63])))) hc217
        · -- pc 217 not taken: (own_ifn [c0]) = (0 : Int32)
          refine RunW.iconst (1 : Int32) at_220 (by decide) (pc' := 221) rfl ?_
          refine RunW.goto at_221 (by decide) (pc' := 225) (by decide) ?_
          exact RunW.nreturn at_225 (ty := .boolean) rfl (by simp) (by decide) (by decide) ⟨_, rfl, rfl⟩
      · -- pc 63 not taken: ¬ c0 = (46 : Int32)
        refine RunW.iload at_66 rfl (pc' := 68) rfl ?_
        refine RunW.callS (k' := 2) (n' := 6) (as := [(.int c0)]) (rest := []) (con_own_bad l Z a0 hw n0 h33 sz33 c0 ) (by rintro _ _ ⟨_, -, -, rfl⟩; exact ⟨[], Keep.refl _ _, all0⟩) at_68 (hw _ (List.mem_of_getElem? (i := 46) rfl)) (hw _ (List.mem_of_getElem? (i := 47) rfl)) (hw _ (List.mem_of_getElem? (i := 2) rfl)) (hw _ (List.mem_of_getElem? (i := 48) rfl)) (by decide) pd__C_Z rfl rfl rfl (by decide) (by show (0 : Nat) + (1 + 11) + 0 ≤ _; decide) (by decide) (by decide) (by decide) (by decide) (pc' := 71) rfl ?_
        rintro _ _ ⟨_, rfl, rfl, rfl⟩ -
        show RunW l Z own_EL n0 x.cls code maxLocals ret x.name room_1 _ 71 #[.val (.int p1), .val (.int p2), .val (.int p3), .val (.int p4), .val (.int (p1 &&& (3 : Int32))), .val (.int c0), .val (.int c1), .val (.int c2), .val (.ref t33), .unset] [(.int (own_bad c0))] h33 vm 2 6
        refine RunW.if_ne at_71 (by decide) (pc' := 78) (by decide) (pa := 74) rfl (fun hc71 => ?_) (fun hc71 => ?_)
        · -- pc 71 taken: ¬ (own_bad c0) = (0 : Int32)
          refine RunW.iconst (0 : Int32) at_78 (by decide) (pc' := 79) rfl ?_
          refine RunW.istore (l' := #[.val (.int p1), .val (.int p2), .val (.int p3), .val (.int p4), .val (.int (p1 &&& (3 : Int32))), .val (.int c0), .val (.int c1), .val (.int c2), .val (.ref t33), .val (.int (0 : Int32))]) at_79 rfl (pc' := 81) rfl ?_
          refine RunW.goto at_81 (by decide) (pc' := 210) (by decide) ?_
          refine RunW.aload at_210 rfl rfl (pc' := 212) rfl ?_
          refine RunW.callSW (k' := 6) (n' := 26) (as := [(.ref t33)]) (rest := []) (con_ifn l Z a0 hw n0 h33 sz33 t33 b33 [c0] fm cz od33 SF hfm SD SH8 SL8 SZ hcz X33 FV33 FC33 P33 (by simp) (own_q1 q0.2)) all0 (own_EW hw) at_212 (hw _ (List.mem_of_getElem? (i := 26) rfl)) (hw _ (List.mem_of_getElem? (i := 27) rfl)) (hw _ (List.mem_of_getElem? (i := 28) rfl)) (hw _ (List.mem_of_getElem? (i := 29) rfl)) (by decide) pd__Ljava_lang_String__Z rfl rfl rfl (by decide) (by show (0 : Nat) + (1 + 11) + 100 ≤ _; decide) (by decide) (by decide) (by decide) (by decide) (pc' := 215) rfl ?_
          rintro _ h35 vm35 ⟨_, rfl, ⟨rfl, E35⟩⟩ c35
          show RunW l Z own_EL n0 x.cls code maxLocals ret x.name room_1 _ 215 #[.val (.int p1), .val (.int p2), .val (.int p3), .val (.int p4), .val (.int (p1 &&& (3 : Int32))), .val (.int c0), .val (.int c1), .val (.int c2), .val (.ref t33), .val (.int (0 : Int32))] [(.int (own_ifn [c0]))] h35 vm35 6 26
          have E_t33_35 := X33.ext E35
          have F_t33_value_35 := FV33.ext E35
          have F_t33_coder_35 := FC33.ext E35
          have A_b33_35 := P33.ext E35
          have sz35 : n0 ≤ h35.size := Nat.le_trans sz33 E35.1
          have kp35 := Keep.ext kp33 E35
          have od35 := od33.ext E35
          refine RunW.iload at_215 rfl (pc' := 217) rfl ?_
          refine RunW.icmp_ne at_217 (by decide) (pc' := 224) (by decide) (pa := 220) rfl (fun hc217 => ?_) (fun hc217 => ?_)
          · -- pc 217 taken: ¬ (own_ifn [c0]) = (0 : Int32)
            exact absurd (own_if0 (Or.inr (Or.inr (Or.inr ⟨c0, by simp, hc71⟩)))) hc217
          · -- pc 217 not taken: (own_ifn [c0]) = (0 : Int32)
            refine RunW.iconst (1 : Int32) at_220 (by decide) (pc' := 221) rfl ?_
            refine RunW.goto at_221 (by decide) (pc' := 225) (by decide) ?_
            exact RunW.nreturn at_225 (ty := .boolean) rfl (by simp) (by decide) (by decide) ⟨_, rfl, rfl⟩
        · -- pc 71 not taken: (own_bad c0) = (0 : Int32)
          refine RunW.iconst (1 : Int32) at_74 (by decide) (pc' := 75) rfl ?_
          refine RunW.goto at_75 (by decide) (pc' := 79) (by decide) ?_
          refine RunW.istore (l' := #[.val (.int p1), .val (.int p2), .val (.int p3), .val (.int p4), .val (.int (p1 &&& (3 : Int32))), .val (.int c0), .val (.int c1), .val (.int c2), .val (.ref t33), .val (.int (1 : Int32))]) at_79 rfl (pc' := 81) rfl ?_
          refine RunW.goto at_81 (by decide) (pc' := 210) (by decide) ?_
          refine RunW.aload at_210 rfl rfl (pc' := 212) rfl ?_
          refine RunW.callSW (k' := 6) (n' := 26) (as := [(.ref t33)]) (rest := []) (con_ifn l Z a0 hw n0 h33 sz33 t33 b33 [c0] fm cz od33 SF hfm SD SH8 SL8 SZ hcz X33 FV33 FC33 P33 (by simp) (own_q1 q0.2)) all0 (own_EW hw) at_212 (hw _ (List.mem_of_getElem? (i := 26) rfl)) (hw _ (List.mem_of_getElem? (i := 27) rfl)) (hw _ (List.mem_of_getElem? (i := 28) rfl)) (hw _ (List.mem_of_getElem? (i := 29) rfl)) (by decide) pd__Ljava_lang_String__Z rfl rfl rfl (by decide) (by show (0 : Nat) + (1 + 11) + 100 ≤ _; decide) (by decide) (by decide) (by decide) (by decide) (pc' := 215) rfl ?_
          rintro _ h36 vm36 ⟨_, rfl, ⟨rfl, E36⟩⟩ c36
          show RunW l Z own_EL n0 x.cls code maxLocals ret x.name room_1 _ 215 #[.val (.int p1), .val (.int p2), .val (.int p3), .val (.int p4), .val (.int (p1 &&& (3 : Int32))), .val (.int c0), .val (.int c1), .val (.int c2), .val (.ref t33), .val (.int (1 : Int32))] [(.int (own_ifn [c0]))] h36 vm36 6 26
          have E_t33_36 := X33.ext E36
          have F_t33_value_36 := FV33.ext E36
          have F_t33_coder_36 := FC33.ext E36
          have A_b33_36 := P33.ext E36
          have sz36 : n0 ≤ h36.size := Nat.le_trans sz33 E36.1
          have kp36 := Keep.ext kp33 E36
          have od36 := od33.ext E36
          refine RunW.iload at_215 rfl (pc' := 217) rfl ?_
          refine RunW.icmp_ne at_217 (by decide) (pc' := 224) (by decide) (pa := 220) rfl (fun hc217 => ?_) (fun hc217 => ?_)
          · -- pc 217 taken: ¬ (own_ifn [c0]) = (1 : Int32)
            exact absurd (own_if1 (by simp) (by simpa using hc63) (by simp) (by simpa using hc71)) hc217
          · -- pc 217 not taken: (own_ifn [c0]) = (1 : Int32)
            refine RunW.iconst (1 : Int32) at_220 (by decide) (pc' := 221) rfl ?_
            refine RunW.goto at_221 (by decide) (pc' := 225) (by decide) ?_
            exact RunW.nreturn at_225 (ty := .boolean) rfl (by simp) (by decide) (by decide) ⟨_, rfl, rfl⟩
  · -- pc 25 not taken: (p1 &&& (3 : Int32)) = (0 : Int32)
    refine RunW.newO (k' := 1) (n' := 4) at_28 (hw _ (List.mem_of_getElem? (i := 4) rfl)) (hw _ (List.mem_of_getElem? (i := 5) rfl)) (hw _ (List.mem_of_getElem? (i := 6) rfl)) (by decide) (by decide) (by decide) (by decide) (pc' := 31) rfl ?_
    intro h37 b37 g37 E37 X37 D37 c37 sf37
    have ge_b37 : n0 ≤ b37 := by rw [g37]; exact Z0
    have bo_b37 : h0.size ≤ b37 := by rw [g37]; exact (Keep.refl h0 []).1
    have sz37 : n0 ≤ h37.size := Nat.le_trans Z0 E37.1
    have kp37 := Keep.ext (Keep.refl h0 []) E37
    have od37 := od0.ext E37
    have F_b37_value : Fld Z h37 b37 "java/lang/String" "value" "[B" .null := D37 (Or.inr (hw _ (List.mem_of_getElem? (i := 20) rfl))) (ty := (.array .byte)) (by decide)
    have F_b37_coder : Fld Z h37 b37 "java/lang/String" "coder" "B" (.int (0 : Int32)) := D37 (Or.inr (hw _ (List.mem_of_getElem? (i := 21) rfl))) (ty := .byte) (by decide)
    refine RunW.dup at_31 rfl (pc' := 32) rfl ?_
    refine RunW.iconst (0 : Int32) at_32 (by decide) (pc' := 33) rfl ?_
    refine RunW.newP (ty := .char) (m := 0) (cap := 0) (dv := (.int (0 : Int32))) (k' := 2) (n' := 4) at_33 rfl (hw _ (List.mem_of_getElem? (i := 7) rfl)) (by decide) (by decide) (Nat.le_refl _) rfl (by decide) (by decide) (by decide) (by decide) (by decide) (pc' := 35) rfl ?_
    intro h38 b38 g38 E38 A38 c38 sf38
    have ge_b38 : n0 ≤ b38 := by rw [g38]; exact sz37
    have bo_b38 : h0.size ≤ b38 := by rw [g38]; exact kp37.1
    have ne_b37_b38 : b37 ≠ b38 := by rw [g38]; exact Nat.ne_of_lt X37.lt
    have E_b37_38 := X37.ext E38
    have Z_b37_38 := CHr.safe c38 X37.lt sf37
    have F_b37_value_38 := F_b37_value.ext E38
    have F_b37_coder_38 := F_b37_coder.ext E38
    have sz38 : n0 ≤ h38.size := Nat.le_trans sz37 E38.1
    have kp38 := Keep.ext kp37 E38
    have od38 := od37.ext E38
    replace A38 : Ary Z h38 b38 .char [] := A38
    refine RunW.callNW (k' := 6) (n' := 12) (a := b37) (as := [(.ref b38)]) (rest := [(.ref b37)]) (con_si10 l Z a0 hw n0 h38 sz38 b37 b38 .null (.int (0 : Int32)) E_b37_38 ge_b37 F_b37_value_38 F_b37_coder_38 A38) (allS Z_b37_38 all0) (own_EW hw) rfl rfl at_35 (hw _ (List.mem_of_getElem? (i := 8) rfl)) (hw _ (List.mem_of_getElem? (i := 9) rfl)) (hw _ (List.mem_of_getElem? (i := 6) rfl)) (hw _ (List.mem_of_getElem? (i := 10) rfl)) (by decide) pd___C_V rfl rfl rfl (by decide) (by show (1 : Nat) + (2 + 11) + 29 ≤ _; decide) (by decide) (by decide) (by decide) (by decide) (pc' := 38) rfl ?_
    rintro _ h39 vm39 ⟨rfl, ⟨b39, K39, X39, FV39, FC39, P39⟩⟩ c39
    show RunW l Z own_EL n0 x.cls code maxLocals ret x.name room_1 _ 38 #[.val (.int p1), .val (.int p2), .val (.int p3), .val (.int p4), .val (.int (p1 &&& (3 : Int32))), .val (.int c0), .val (.int c1), .val (.int c2), .unset, .unset] [(.ref b37)] h39 vm39 6 12
    have E_b37_39 := E_b37_38.keep K39
    have Z_b37_39 := CHr.safe c39 E_b37_38.lt Z_b37_38
    have Z_b38_39 := CHr.safe c39 A38.lt sf38
    have A_b38_39 := A38.keep K39 (ninS (Ne.symm ne_b37_b38) nin0)
    have sz39 : n0 ≤ h39.size := Nat.le_trans sz38 K39.1
    have kp39 := Keep.trans kp38 K39 (allS (Or.inr bo_b37) all0)
    have od39 := od38.keep K39 (allS ge_b37 all0)
    have FCl40 : Fld Z h39 b37 "java/lang/String" "coder" "B" (.int (own_coder [])) := by rw [own_l0c]; exact FC39
    have ABl40 : Ary Z h39 b39 .byte (own_enc []) := by rw [own_l0e]; exact P39
    refine RunW.astore (l' := #[.val (.int p1), .val (.int p2), .val (.int p3), .val (.int p4), .val (.int (p1 &&& (3 : Int32))), .val (.int c0), .val (.int c1), .val (.int c2), .val (.ref b37), .unset]) at_38 rfl rfl (pc' := 40) rfl ?_
    refine RunW.iconst (0 : Int32) at_40 (by decide) (pc' := 41) rfl ?_
    refine RunW.istore (l' := #[.val (.int p1), .val (.int p2), .val (.int p3), .val (.int p4), .val (.int (p1 &&& (3 : Int32))), .val (.int c0), .val (.int c1), .val (.int c2), .val (.ref b37), .val (.int (0 : Int32))]) at_41 rfl (pc' := 43) rfl ?_
    refine RunW.goto at_43 (by decide) (pc' := 210) (by decide) ?_
    refine RunW.aload at_210 rfl rfl (pc' := 212) rfl ?_
    refine RunW.callSW (k' := 10) (n' := 32) (as := [(.ref b37)]) (rest := []) (con_ifn l Z a0 hw n0 h39 sz39 b37 b39 [] fm cz od39 SF hfm SD SH8 SL8 SZ hcz X39 FV39 FCl40 ABl40 (by simp) own_q0) all0 (own_EW hw) at_212 (hw _ (List.mem_of_getElem? (i := 26) rfl)) (hw _ (List.mem_of_getElem? (i := 27) rfl)) (hw _ (List.mem_of_getElem? (i := 28) rfl)) (hw _ (List.mem_of_getElem? (i := 29) rfl)) (by decide) pd__Ljava_lang_String__Z rfl rfl rfl (by decide) (by show (0 : Nat) + (1 + 11) + 100 ≤ _; decide) (by decide) (by decide) (by decide) (by decide) (pc' := 215) rfl ?_
    rintro _ h41 vm41 ⟨_, rfl, ⟨rfl, E41⟩⟩ c41
    show RunW l Z own_EL n0 x.cls code maxLocals ret x.name room_1 _ 215 #[.val (.int p1), .val (.int p2), .val (.int p3), .val (.int p4), .val (.int (p1 &&& (3 : Int32))), .val (.int c0), .val (.int c1), .val (.int c2), .val (.ref b37), .val (.int (0 : Int32))] [(.int (own_ifn []))] h41 vm41 10 32
    have E_b37_41 := X39.ext E41
    have Z_b37_41 := CHr.safe c41 X39.lt Z_b37_39
    have Z_b38_41 := CHr.safe c41 A_b38_39.lt Z_b38_39
    have A_b38_41 := A_b38_39.ext E41
    have F_b37_value_41 := FV39.ext E41
    have F_b37_coder_41 := FCl40.ext E41
    have A_b39_41 := ABl40.ext E41
    have sz41 : n0 ≤ h41.size := Nat.le_trans sz39 E41.1
    have kp41 := Keep.ext kp39 E41
    have od41 := od39.ext E41
    refine RunW.iload at_215 rfl (pc' := 217) rfl ?_
    refine RunW.icmp_ne at_217 (by decide) (pc' := 224) (by decide) (pa := 220) rfl (fun hc217 => ?_) (fun hc217 => ?_)
    · -- pc 217 taken: ¬ (own_ifn []) = (0 : Int32)
      exact absurd (own_if0 (Or.inl rfl)) hc217
    · -- pc 217 not taken: (own_ifn []) = (0 : Int32)
      refine RunW.iconst (1 : Int32) at_220 (by decide) (pc' := 221) rfl ?_
      refine RunW.goto at_221 (by decide) (pc' := 225) (by decide) ?_
      exact RunW.nreturn at_225 (ty := .boolean) rfl (by simp) (by decide) (by decide) ⟨_, rfl, rfl⟩
set_option maxRecDepth 65536 in
set_option maxHeartbeats 40000000 in
theorem comes_1 {Post : Tables → Env → Array Value → State → Outcome → State → Prop} (hpost : ∀ tb e args s v u, (limb_1_1.after args s (.returned v) u = true ∧ limb_1_2.after args s (.returned v) u = true ∧ True) → Jvm.D.FramedW s (.returned v) u (Jvm.fieldLocs frame_1_writes args s ++ Jvm.arrayLocs frame_1_arrays args s ++ Jvm.staticLocs frame_1_statics s) 24 3200 → Post tb e args s (.returned v) u) :
    ArmFor flags0 classFile x code maxLocals ret World_1 tables_1 room_1 Calls_1 rest_1 Pre_1 Post := by
  intro l hfl _ _ p e ha hc hk s m args below hf hA hF happ hP
  obtain ⟨hcalls, hrest, hpre⟩ := hP
  obtain ⟨-, -, -, hnamed, -, -, -, hat⟩ := (Spec.applies_iff hf).mp happ
  obtain ⟨hg, hn⟩ := and_e (Cond.before_iff.mp (show (Jvm.Cond.and given_1 narrow_1).before args s = true from hpre))
  obtain ⟨hcnt, g0⟩ := and_e hg
  obtain ⟨ga0, g1⟩ := and_e g0
  obtain ⟨ga1, g2⟩ := and_e g1
  obtain ⟨ga2, g3⟩ := and_e g2
  obtain ⟨w0, w1, w2, w3, rfl⟩ : ∃ w0 w1 w2 w3 : Value, args = #[w0, w1, w2, w3] := by
    have hs : args.size = 4 := by simpa [Cond.value, given_1] using hcnt
    obtain ⟨L⟩ := args
    match L, hs with
    | [w0, w1, w2, w3], _ => exact ⟨w0, w1, w2, w3, rfl⟩
  have hw := fun d (hd : d ∈ tables_1) => atoms_spec (ws := Jvm.Cond.code x code maxLocals ret :: tables_1) hat d (List.mem_cons_of_mem _ hd)
  obtain ⟨hsets, hown0⟩ := atoms_of _ (rest_1_c_eq ▸ (show rest_1_c.before _ s = true from hrest))
  have hr0 := Cond.before_iff.mp hown0
  have hfit : Fit s := fun {y c} hc i hi => by
    obtain ⟨ha, rfl⟩ := Array.getElem?_eq_some_iff.mp hc
    have q := List.all_eq_true.mp ((Array.all_eq_true_iff_forall_mem.mp hF) _ (Array.getElem_mem ha)) i (List.mem_range.mpr hi)
    simpa [Array.getElem?_eq_getElem hi] using q
  obtain ⟨i0, e0⟩ := is_v ga0
  obtain rfl : w0 = (.int i0) := Option.some.inj e0
  obtain ⟨i1, e1⟩ := is_v ga1
  obtain rfl : w1 = (.int i1) := Option.some.inj e1
  obtain ⟨i2, e2⟩ := is_v ga2
  obtain rfl : w2 = (.int i2) := Option.some.inj e2
  obtain ⟨i3, e3⟩ := is_v g3
  obtain rfl : w3 = (.int i3) := Option.some.inj e3
  obtain ⟨fm, evF, hfm⟩ := isR_v (Cond.before_iff.mp (hsets _ (List.mem_of_getElem? (i := 8) rfl)))
  have SF := Sta.start evF (Or.inl (hsets _ (List.mem_of_getElem? (i := 7) rfl)))
  have SD := Sta.start (eqv_i (Term.int_eval (1)) (Cond.before_iff.mp (hsets _ (List.mem_of_getElem? (i := 12) rfl)))) (Or.inl (hsets _ (List.mem_of_getElem? (i := 11) rfl)))
  have SH8 := Sta.start (eqv_i (Term.int_eval (0)) (Cond.before_iff.mp (hsets _ (List.mem_of_getElem? (i := 15) rfl)))) (Or.inl (hsets _ (List.mem_of_getElem? (i := 14) rfl)))
  have SL8 := Sta.start (eqv_i (Term.int_eval (8)) (Cond.before_iff.mp (hsets _ (List.mem_of_getElem? (i := 18) rfl)))) (Or.inl (hsets _ (List.mem_of_getElem? (i := 17) rfl)))
  obtain ⟨cz, evZ⟩ := is_v (Cond.before_iff.mp (hsets _ (List.mem_of_getElem? (i := 1) rfl)))
  have SZ := Sta.start evZ (Or.inl (hsets _ (List.mem_of_getElem? (i := 0) rfl)))
  have hcz : ¬ cz = (0 : Int32) := gotF (Cond.eq_ints evZ (Term.int_eval (0))) (not_v (Cond.before_iff.mp (hsets _ (List.mem_of_getElem? (i := 2) rfl))))
  have hCH : CHv s own_EL s.vm s.heap := CHv.start (own_EW hw) (own_heldc hcalls) (hsets _ (List.mem_of_getElem? (i := 2) rfl)) (hw _ (List.mem_of_getElem? (i := 19) rfl)) (hw _ (List.mem_of_getElem? (i := 5) rfl))
  obtain ⟨n, o, h1, h2, h3, _, L, rfl, ⟨⟨_, rfl, rfl⟩, N⟩, -, hq⟩ := con0 l s _ hw s.heap.size s.heap (Nat.le_refl _) i0 i1 i2 i3 fm cz (Old.start s) SF hfm SD SH8 SL8 SZ hcz tables_1 p e ha hc hk s m _ below hf ((Spec.applies_iff_loose hf).mp happ).1 ⟨rfl, State.Warmed39.refl s, rfl, hCH, all0⟩ trivial
  refine ⟨n, _, h1, h2, h3, hpost _ _ _ _ _ _ ⟨Cond.after_iff.mpr rfl, Cond.after_iff.mpr (eq_i res_at (Term.int_eval (1)) rfl), trivial⟩ ⟨hq.1, hq.2.1, hq.2.2.1, (hq.2.2.2.sift fun y hy => Or.inr (N y hy)).mono (by decide) (by decide)⟩⟩
theorem main_1_1 : Claimed_1_1 := comes_1 fun _ _ _ _ _ _ h hF => ⟨h.1, hF⟩
theorem main_1_2 : Claimed_1_2 := comes_1 fun _ _ _ _ _ _ h hF => ⟨h.2.1, hF⟩
end Jvm.Pilot.@@N@@
namespace Jvm.Pilot.@@N@@
open Jvm Jvm.ClassFile Sem Op Lib Jvm.Free Jvm.Stand Jvm.Pilot.@@N@@.Jvm.D
/-! MADE BY PROGRAM (witnessworld.py) out of the Statement's table words and the real class files: 21 classes; the members and pool entries that the words name. The judged class is class 1, her method 3. -/
namespace start1
open Jvm.ClassFile
def u (s : String) : CpInfo := .utf8 (stringToUtf16 s)
/-- a pool by its gaps: so many unusable entries, then the entry; so many at the end -/
def gap : Nat → List CpInfo → List CpInfo
  | 0, r => r
  | n + 1, r => .unusable :: gap n r
def poolList (es : List (Nat × CpInfo)) (last : Nat) : List CpInfo := es.foldr (fun e r => gap e.1 (e.2 :: r)) (gap last [])
def pool (es : List (Nat × CpInfo)) (last : Nat) : Array CpInfo := ⟨poolList es last⟩
def fileOf (pool : Array CpInfo) (this : Nat) (attrs : Array Attribute := #[]) (ms : Array MethodInfo := #[]) (fl : Nat := 33) (sup : Nat := 0) (ifs : Array Nat := #[]) (fds : Array FieldInfo := #[]) : ClassFile where
  minorVersion := 0
  majorVersion := 65
  constantPool := pool
  accessFlags := fl
  thisClass := this
  superClass := sup
  interfaces := ifs
  fields := fds
  methods := ms
  attributes := attrs
def plain (name : String) (sup : Option ClassId) : Class where
  name := name
  kind := .ordinary
  loader := none
  accessFlags := 33
  super := sup
  interfaces := #[]
  cf := none
  fields := #[]
  methods := #[]
  instanceTypes := #[]
  staticTypes := #[]
  resolved := #[]
  callSites := []
  init := .initialized
  statics := none
  mirror := none

def pool0 : Array CpInfo := pool [(5, u "<init>"), (0, u "()V"), (1, .class_ 10), (1, u "java/lang/Object")] 113

def k0c0 : Code := { maxStack := 0, maxLocals := 1, code := object_method_1_code, exceptionTable := #[], attributes := #[] }
def k0m0 : Method := { name := "<init>", desc := "()V", sig := { parameters := [], returnType := none }, accessFlags := 1, code := some k0c0 }
/-- java/lang/Object -/
def k0 : Class := { plain "java/lang/Object" none with
  accessFlags := 33
  interfaces := #[]
  cf := some (fileOf pool0 8 #[] #[{ accessFlags := 1, nameIndex := 5, descriptorIndex := 6, attributes := #[] }] 33 0 #[] #[])
  fields := #[]
  methods := #[k0m0]
  instanceTypes := #[]
  staticTypes := #[]
  resolved := Array.replicate 124 none
  statics := none }

def pool1 : Array CpInfo := pool [(2, .class_ 4), (1, u "java/lang/Object"), (0, u "<init>"), (0, u "()V"), (0, .integer 65535), (0, .methodref 9 10), (0, .class_ 11), (0, .nameAndType 12 13), (0, u "com/example/callimachus/callimachus/LocationIsFileNamePinLaw"), (0, u "pick"), (0, u "(I)C"), (0, .class_ 15), (0, u "java/lang/String"), (0, .methodref 14 17), (0, .nameAndType 5 18), (0, u "([C)V"), (0, .methodref 14 20), (0, .nameAndType 21 22), (0, u "valueOf"), (0, u "(C)Ljava/lang/String;"), (0, .methodref 9 24), (0, .nameAndType 25 26), (0, u "bad"), (0, u "(C)Z"), (0, .methodref 28 29), (0, .class_ 30), (0, .nameAndType 31 32), (0, u "com/example/callimachus/callimachus/Location"), (0, u "isFileName"), (0, u "(Ljava/lang/String;)Z"), (3, u "law"), (0, u "(IIII)Z")] 2

def k1m0 : Method := { name := "<init>", desc := "()V", sig := { parameters := [], returnType := none }, accessFlags := 1, code := none }
def k1c1 : Code := { maxStack := 2, maxLocals := 2, code := method_2_code, exceptionTable := #[], attributes := #[] }
def k1m1 : Method := { name := "pick", desc := "(I)C", sig := { parameters := [.int], returnType := some .char }, accessFlags := 10, code := some k1c1 }
def k1c2 : Code := { maxStack := 2, maxLocals := 1, code := method_3_code, exceptionTable := #[], attributes := #[] }
def k1m2 : Method := { name := "bad", desc := "(C)Z", sig := { parameters := [.char], returnType := some .boolean }, accessFlags := 10, code := some k1c2 }
def k1c3 : Code := { maxStack := 6, maxLocals := 10, code := code, exceptionTable := #[], attributes := #[] }
def k1m3 : Method := { name := "law", desc := "(IIII)Z", sig := { parameters := [.int, .int, .int, .int], returnType := some .boolean }, accessFlags := 9, code := some k1c3 }
/-- com/example/callimachus/callimachus/LocationIsFileNamePinLaw -/
def k1 : Class := { plain "com/example/callimachus/callimachus/LocationIsFileNamePinLaw" (some 0) with
  accessFlags := 49
  interfaces := #[]
  cf := some (fileOf pool1 9 #[] #[{ accessFlags := 1, nameIndex := 5, descriptorIndex := 6, attributes := #[] }, { accessFlags := 10, nameIndex := 12, descriptorIndex := 13, attributes := #[] }, { accessFlags := 10, nameIndex := 25, descriptorIndex := 26, attributes := #[] }, { accessFlags := 9, nameIndex := 36, descriptorIndex := 37, attributes := #[] }] 49 2 #[] #[])
  fields := #[]
  methods := #[k1m0, k1m1, k1m2, k1m3]
  instanceTypes := #[]
  staticTypes := #[]
  resolved := Array.replicate 40 none
  statics := none }

def pool2 : Array CpInfo := pool [(1, .class_ 2), (0, u "java/io/Serializable"), (0, .class_ 4), (0, u "java/lang/Object")] 2

/-- java/io/Serializable -/
def k2 : Class := { plain "java/io/Serializable" (some 0) with
  accessFlags := 1537
  interfaces := #[]
  cf := some (fileOf pool2 1 #[] #[] 1537 3 #[] #[])
  fields := #[]
  methods := #[]
  instanceTypes := #[]
  staticTypes := #[]
  resolved := Array.replicate 7 none
  statics := none }

def pool3 : Array CpInfo := pool [(1, .class_ 2), (0, u "java/lang/Comparable"), (0, .class_ 4), (0, u "java/lang/Object")] 7

/-- java/lang/Comparable -/
def k3 : Class := { plain "java/lang/Comparable" (some 0) with
  accessFlags := 1537
  interfaces := #[]
  cf := some (fileOf pool3 1 #[] #[] 1537 3 #[] #[])
  fields := #[]
  methods := #[]
  instanceTypes := #[]
  staticTypes := #[]
  resolved := Array.replicate 12 none
  statics := none }

def pool4 : Array CpInfo := pool [(2, .class_ 4), (1, u "java/lang/CharSequence"), (42, .class_ 48), (0, u "java/lang/CharSequence$1CodePointIterator"), (10, .class_ 60), (0, u "java/lang/CharSequence$1CharIterator"), (5, .class_ 67), (0, u "java/lang/Object")] 63

/-- java/lang/CharSequence -/
def k4 : Class := { plain "java/lang/CharSequence" (some 0) with
  accessFlags := 1537
  interfaces := #[]
  cf := some (fileOf pool4 2 #[.nestMembers #[47, 59]] #[] 1537 66 #[] #[])
  fields := #[]
  methods := #[]
  instanceTypes := #[]
  staticTypes := #[]
  resolved := Array.replicate 131 none
  statics := none }

def pool5 : Array CpInfo := pool [(1, .class_ 2), (0, u "java/lang/constant/Constable"), (0, .class_ 4), (0, u "java/lang/Object")] 6

/-- java/lang/constant/Constable -/
def k5 : Class := { plain "java/lang/constant/Constable" (some 0) with
  accessFlags := 1537
  interfaces := #[]
  cf := some (fileOf pool5 1 #[] #[] 1537 3 #[] #[])
  fields := #[]
  methods := #[]
  instanceTypes := #[]
  staticTypes := #[]
  resolved := Array.replicate 11 none
  statics := none }

def pool6 : Array CpInfo := pool [(1, .class_ 2), (0, u "java/lang/constant/ConstantDesc"), (0, .class_ 4), (0, u "java/lang/Object")] 32

/-- java/lang/constant/ConstantDesc -/
def k6 : Class := { plain "java/lang/constant/ConstantDesc" (some 0) with
  accessFlags := 1537
  interfaces := #[]
  cf := some (fileOf pool6 1 #[] #[] 1537 3 #[] #[])
  fields := #[]
  methods := #[]
  instanceTypes := #[]
  staticTypes := #[]
  resolved := Array.replicate 37 none
  statics := none }

def pool7 : Array CpInfo := pool [(1, .methodref 2 3), (0, .class_ 4), (0, .nameAndType 5 6), (0, u "java/lang/Object"), (0, u "<init>"), (0, u "()V"), (0, .string 8), (0, u ""), (0, .fieldref 10 11), (0, .class_ 12), (0, .nameAndType 13 14), (0, u "java/lang/String"), (0, u "value"), (0, u "[B"), (0, .fieldref 10 16), (0, .nameAndType 17 18), (0, u "coder"), (0, u "B"), (2, u "hash"), (0, u "I"), (2, u "hashIsZero"), (0, u "Z"), (0, .methodref 10 28), (0, .nameAndType 5 29), (0, u "([CIILjava/lang/Void;)V"), (8, .fieldref 10 39), (0, .nameAndType 40 26), (0, u "COMPACT_STRINGS"), (1, .class_ 44), (1, u "java/lang/StringUTF16"), (0, u "compress"), (1, .methodref 42 48), (0, .nameAndType 49 50), (0, u "coderFromArrayLen"), (0, u "([BI)B"), (2, u "toBytes"), (53, .class_ 109), (1, u "java/lang/StringLatin1"), (32, u "()Z"), (34, .methodref 42 178), (0, .nameAndType 45 179), (0, u "([CII)[B"), (29, .methodref 10 210), (0, .nameAndType 5 211), (0, u "([BB)V"), (122, u "()I"), (0, .methodref 10 336), (0, .nameAndType 17 337), (0, u "()B"), (31, u "(C)Z"), (122, .methodref 10 493), (0, .nameAndType 494 142), (0, u "isLatin1"), (10, .methodref 10 506), (0, .nameAndType 507 334), (0, u "length"), (5, u "checkFromToIndex"), (9, u "checkBoundsBeginEnd"), (0, u "(III)V"), (16, .methodref 107 542), (0, .nameAndType 543 544), (0, u "equals"), (0, u "([B[B)Z"), (28, u "(Ljava/lang/Object;)Z"), (1, .class_ 576), (0, u "java/lang/CharSequence"), (22, u "CASE_INSENSITIVE_ORDER"), (0, u "Ljava/util/Comparator;"), (32, .methodref 10 634), (0, .nameAndType 635 636), (0, u "indexOf"), (0, u "(II)I"), (0, .methodref 107 638), (0, .nameAndType 635 639), (0, u "([BIII)I"), (0, .methodref 42 638), (51, u "isEmpty"), (72, u "(I)I"), (16, u "valueOf"), (0, u "(C)Ljava/lang/String;"), (226, u "([C)V"), (4, .methodref 107 1016), (0, .nameAndType 1017 369), (0, u "canEncode"), (0, .methodref 107 1019), (0, .nameAndType 53 1020), (0, u "(C)[B"), (0, .methodref 42 1019), (31, .fieldref 1054 1055), (0, .class_ 1056), (0, .nameAndType 1057 1058), (0, u "jdk/internal/util/Preconditions"), (0, u "SIOOBE_FORMATTER"), (0, u "Ljava/util/function/BiFunction;"), (3, .methodref 1054 1063), (0, .nameAndType 513 1064), (0, u "(IIILjava/util/function/BiFunction;)I"), (36, u "serialPersistentFields"), (0, u "[Ljava/io/ObjectStreamField;"), (0, .class_ 1104), (0, u "java/lang/String$CaseInsensitiveComparator"), (1, .class_ 1107), (0, u "java/io/Serializable"), (0, .class_ 1109), (0, u "java/lang/Comparable"), (0, .class_ 1111), (0, u "java/lang/constant/Constable"), (0, .class_ 1113), (0, u "java/lang/constant/ConstantDesc"), (2, u "serialVersionUID"), (0, u "J"), (3, u "REPL"), (0, u "C"), (2, u "LATIN1"), (1, u "UTF16")] 323

def k7m0 : Method := { name := "<init>", desc := "()V", sig := { parameters := [], returnType := none }, accessFlags := 1, code := none }
def k7c1 : Code := { maxStack := 5, maxLocals := 2, code := jdk_42_method_3_code, exceptionTable := #[], attributes := #[] }
def k7m1 : Method := { name := "<init>", desc := "([C)V", sig := { parameters := [(.array .char)], returnType := none }, accessFlags := 1, code := some k7c1 }
def k7c2 : Code := { maxStack := 2, maxLocals := 1, code := jdk_42_method_54_code, exceptionTable := #[], attributes := #[] }
def k7m2 : Method := { name := "length", desc := "()I", sig := { parameters := [], returnType := some .int }, accessFlags := 1, code := some k7c2 }
def k7c3 : Code := { maxStack := 1, maxLocals := 1, code := jdk_42_method_55_code, exceptionTable := #[], attributes := #[] }
def k7m3 : Method := { name := "isEmpty", desc := "()Z", sig := { parameters := [], returnType := some .boolean }, accessFlags := 1, code := some k7c3 }
def k7c4 : Code := { maxStack := 2, maxLocals := 3, code := jdk_42_method_66_code, exceptionTable := #[], attributes := #[] }
def k7m4 : Method := { name := "equals", desc := "(Ljava/lang/Object;)Z", sig := { parameters := [(.object "java/lang/Object")], returnType := some .boolean }, accessFlags := 1, code := some k7c4 }
def k7c5 : Code := { maxStack := 3, maxLocals := 2, code := jdk_42_method_79_code, exceptionTable := #[], attributes := #[] }
def k7m5 : Method := { name := "indexOf", desc := "(I)I", sig := { parameters := [.int], returnType := some .int }, accessFlags := 1, code := some k7c5 }
def k7c6 : Code := { maxStack := 4, maxLocals := 3, code := jdk_42_method_80_code, exceptionTable := #[], attributes := #[] }
def k7m6 : Method := { name := "indexOf", desc := "(II)I", sig := { parameters := [.int, .int], returnType := some .int }, accessFlags := 1, code := some k7c6 }
def k7c7 : Code := { maxStack := 4, maxLocals := 1, code := jdk_42_method_139_code, exceptionTable := #[], attributes := #[] }
def k7m7 : Method := { name := "valueOf", desc := "(C)Ljava/lang/String;", sig := { parameters := [.char], returnType := some (.object "java/lang/String") }, accessFlags := 9, code := some k7c7 }
def k7c8 : Code := { maxStack := 4, maxLocals := 6, code := jdk_42_method_149_code, exceptionTable := #[], attributes := #[] }
def k7m8 : Method := { name := "<init>", desc := "([CIILjava/lang/Void;)V", sig := { parameters := [(.array .char), .int, .int, (.object "java/lang/Void")], returnType := none }, accessFlags := 2, code := some k7c8 }
def k7c9 : Code := { maxStack := 2, maxLocals := 3, code := jdk_42_method_151_code, exceptionTable := #[], attributes := #[] }
def k7m9 : Method := { name := "<init>", desc := "([BB)V", sig := { parameters := [(.array .byte), .byte], returnType := none }, accessFlags := 0, code := some k7c9 }
def k7c10 : Code := { maxStack := 1, maxLocals := 1, code := jdk_42_method_152_code, exceptionTable := #[], attributes := #[] }
def k7m10 : Method := { name := "coder", desc := "()B", sig := { parameters := [], returnType := some .byte }, accessFlags := 0, code := some k7c10 }
def k7c11 : Code := { maxStack := 1, maxLocals := 1, code := jdk_42_method_154_code, exceptionTable := #[], attributes := #[] }
def k7m11 : Method := { name := "isLatin1", desc := "()Z", sig := { parameters := [], returnType := some .boolean }, accessFlags := 0, code := some k7c11 }
def k7c12 : Code := { maxStack := 4, maxLocals := 3, code := jdk_42_method_158_code, exceptionTable := #[], attributes := #[] }
def k7m12 : Method := { name := "checkBoundsBeginEnd", desc := "(III)V", sig := { parameters := [.int, .int, .int], returnType := none }, accessFlags := 8, code := some k7c12 }
/-- java/lang/String -/
def k7 : Class := { plain "java/lang/String" (some 0) with
  accessFlags := 49
  interfaces := #[2, 3, 4, 5, 6]
  cf := some (fileOf pool7 10 #[.nestMembers #[1103]] #[{ accessFlags := 1, nameIndex := 5, descriptorIndex := 6, attributes := #[] }, { accessFlags := 1, nameIndex := 5, descriptorIndex := 1010, attributes := #[] }, { accessFlags := 1, nameIndex := 507, descriptorIndex := 334, attributes := #[] }, { accessFlags := 1, nameIndex := 692, descriptorIndex := 142, attributes := #[] }, { accessFlags := 1, nameIndex := 543, descriptorIndex := 573, attributes := #[] }, { accessFlags := 1, nameIndex := 635, descriptorIndex := 765, attributes := #[] }, { accessFlags := 1, nameIndex := 635, descriptorIndex := 636, attributes := #[] }, { accessFlags := 9, nameIndex := 782, descriptorIndex := 783, attributes := #[] }, { accessFlags := 2, nameIndex := 5, descriptorIndex := 29, attributes := #[] }, { accessFlags := 0, nameIndex := 5, descriptorIndex := 211, attributes := #[] }, { accessFlags := 0, nameIndex := 17, descriptorIndex := 337, attributes := #[] }, { accessFlags := 0, nameIndex := 494, descriptorIndex := 142, attributes := #[] }, { accessFlags := 8, nameIndex := 523, descriptorIndex := 524, attributes := #[] }] 49 2 #[1106, 1108, 575, 1110, 1112] #[{ accessFlags := 18, nameIndex := 13, descriptorIndex := 14, attributes := #[] }, { accessFlags := 18, nameIndex := 17, descriptorIndex := 18, attributes := #[] }, { accessFlags := 2, nameIndex := 21, descriptorIndex := 22, attributes := #[] }, { accessFlags := 2, nameIndex := 25, descriptorIndex := 26, attributes := #[] }, { accessFlags := 26, nameIndex := 1116, descriptorIndex := 1117, attributes := #[] }, { accessFlags := 24, nameIndex := 40, descriptorIndex := 26, attributes := #[] }, { accessFlags := 26, nameIndex := 1101, descriptorIndex := 1102, attributes := #[] }, { accessFlags := 26, nameIndex := 1121, descriptorIndex := 1122, attributes := #[] }, { accessFlags := 25, nameIndex := 599, descriptorIndex := 600, attributes := #[] }, { accessFlags := 24, nameIndex := 1125, descriptorIndex := 18, attributes := #[] }, { accessFlags := 24, nameIndex := 1127, descriptorIndex := 18, attributes := #[] }])
  fields := #[{ name := "value", type := (.array .byte), accessFlags := 18, slot := 0, constantValue := 0 }, { name := "coder", type := .byte, accessFlags := 18, slot := 1, constantValue := 0 }, { name := "hash", type := .int, accessFlags := 2, slot := 2, constantValue := 0 }, { name := "hashIsZero", type := .boolean, accessFlags := 2, slot := 3, constantValue := 0 }, { name := "serialVersionUID", type := .long, accessFlags := 26, slot := 0, constantValue := 0 }, { name := "COMPACT_STRINGS", type := .boolean, accessFlags := 24, slot := 1, constantValue := 0 }, { name := "serialPersistentFields", type := (.array (.object "java/io/ObjectStreamField")), accessFlags := 26, slot := 2, constantValue := 0 }, { name := "REPL", type := .char, accessFlags := 26, slot := 3, constantValue := 0 }, { name := "CASE_INSENSITIVE_ORDER", type := (.object "java/util/Comparator"), accessFlags := 25, slot := 4, constantValue := 0 }, { name := "LATIN1", type := .byte, accessFlags := 24, slot := 5, constantValue := 0 }, { name := "UTF16", type := .byte, accessFlags := 24, slot := 6, constantValue := 0 }]
  methods := #[k7m0, k7m1, k7m2, k7m3, k7m4, k7m5, k7m6, k7m7, k7m8, k7m9, k7m10, k7m11, k7m12]
  instanceTypes := #[(.array .byte), .byte, .int, .boolean]
  staticTypes := #[.long, .boolean, (.array (.object "java/io/ObjectStreamField")), .char, (.object "java/util/Comparator"), .byte, .byte]
  resolved := Array.replicate 1451 none
  statics := some 0 }

def pool8 : Array CpInfo := pool [(2, .class_ 4), (1, u "java/lang/Object"), (3, .class_ 10), (1, u "com/example/callimachus/callimachus/Location"), (0, u "entryFile"), (0, u "Ljava/nio/file/Path;"), (2, u "folder"), (8, u "searched"), (0, u "Ljava/util/List;"), (2, u "held"), (0, u "Z"), (47, .methodref 78 79), (0, .class_ 80), (0, .nameAndType 81 82), (0, u "java/lang/String"), (0, u "isEmpty"), (0, u "()Z"), (0, .string 84), (0, u "."), (0, .methodref 78 86), (0, .nameAndType 87 88), (0, u "equals"), (0, u "(Ljava/lang/Object;)Z"), (0, .string 90), (0, u ".."), (0, .methodref 78 92), (0, .nameAndType 93 94), (0, u "indexOf"), (0, u "(I)I"), (10, u "isFileName"), (0, u "(Ljava/lang/String;)Z")] 20

def k8c0 : Code := { maxStack := 2, maxLocals := 1, code := prog_13_method_8_code, exceptionTable := #[], attributes := #[] }
def k8m0 : Method := { name := "isFileName", desc := "(Ljava/lang/String;)Z", sig := { parameters := [(.object "java/lang/String")], returnType := some .boolean }, accessFlags := 8, code := some k8c0 }
/-- com/example/callimachus/callimachus/Location -/
def k8 : Class := { plain "com/example/callimachus/callimachus/Location" (some 0) with
  accessFlags := 33
  interfaces := #[]
  cf := some (fileOf pool8 8 #[] #[{ accessFlags := 8, nameIndex := 105, descriptorIndex := 106, attributes := #[] }] 33 2 #[] #[{ accessFlags := 18, nameIndex := 11, descriptorIndex := 12, attributes := #[] }, { accessFlags := 18, nameIndex := 15, descriptorIndex := 12, attributes := #[] }, { accessFlags := 18, nameIndex := 24, descriptorIndex := 25, attributes := #[] }, { accessFlags := 18, nameIndex := 28, descriptorIndex := 29, attributes := #[] }])
  fields := #[{ name := "entryFile", type := (.object "java/nio/file/Path"), accessFlags := 18, slot := 0, constantValue := 0 }, { name := "folder", type := (.object "java/nio/file/Path"), accessFlags := 18, slot := 1, constantValue := 0 }, { name := "searched", type := (.object "java/util/List"), accessFlags := 18, slot := 2, constantValue := 0 }, { name := "held", type := .boolean, accessFlags := 18, slot := 3, constantValue := 0 }]
  methods := #[k8m0]
  instanceTypes := #[(.object "java/nio/file/Path"), (.object "java/nio/file/Path"), (.object "java/util/List"), .boolean]
  staticTypes := #[]
  resolved := Array.replicate 127 none
  statics := none }

def pool9 : Array CpInfo := pool [(3, .class_ 4), (0, u "java/lang/String"), (1, .class_ 8), (1, u "java/lang/Object"), (0, u "<init>"), (0, u "()V"), (0, .methodref 12 13), (0, .class_ 14), (0, .nameAndType 15 16), (0, u "java/lang/StringUTF16"), (0, u "newBytesLength"), (0, u "(I)I"), (3, .integer 1073741823), (23, .fieldref 12 45), (0, .nameAndType 46 47), (0, u "$assertionsDisabled"), (0, u "Z"), (0, .methodref 12 49), (0, .nameAndType 50 51), (0, u "length"), (0, u "([B)I"), (7, .fieldref 12 60), (0, .nameAndType 61 62), (0, u "HI_BYTE_SHIFT"), (0, u "I"), (0, .fieldref 12 64), (0, .nameAndType 65 62), (0, u "LO_BYTE_SHIFT"), (5, .methodref 12 72), (0, .nameAndType 73 74), (0, u "getChar"), (0, u "([BI)C"), (21, .methodref 12 97), (0, .nameAndType 98 99), (0, u "checkBoundsBeginEnd"), (0, u "(II[B)V"), (7, .methodref 12 108), (0, .nameAndType 109 110), (0, u "newBytesFor"), (0, u "(I)[B"), (0, .methodref 12 112), (0, .nameAndType 113 114), (0, u "putChar"), (0, u "([BII)V"), (0, .methodref 12 116), (0, .nameAndType 117 118), (0, u "compress"), (0, u "([CI[BII)I"), (0, .methodref 12 120), (0, .nameAndType 121 122), (0, u "toBytes"), (0, u "([CII)[B"), (60, .methodref 184 185), (0, .class_ 186), (0, .nameAndType 187 188), (0, u "java/lang/Math"), (0, u "min"), (0, u "(II)I"), (35, .methodref 184 225), (0, .nameAndType 226 188), (0, u "max"), (0, .integer 65536), (0, .methodref 12 229), (0, .nameAndType 230 231), (0, u "indexOfChar"), (0, u "([BIII)I"), (9, .methodref 3 242), (0, .nameAndType 98 243), (0, u "(III)V"), (0, .methodref 12 245), (0, .nameAndType 246 231), (0, u "indexOfCharUnsafe"), (14, u "coderFromArrayLen"), (0, u "([BI)B"), (5, u "indexOf"), (100, .class_ 371), (1, u "java/lang/StringUTF16$LinesSpliterator"), (58, u "MAX_LENGTH"), (44, u "(C)[B"), (151, .class_ 628), (0, u "java/lang/StringUTF16$CodePointsSpliterator"), (0, .class_ 630), (0, u "java/lang/StringUTF16$CharsSpliterator")] 4

def k9m0 : Method := { name := "<init>", desc := "()V", sig := { parameters := [], returnType := none }, accessFlags := 0, code := none }
def k9c1 : Code := { maxStack := 1, maxLocals := 1, code := jdk_52_method_2_code, exceptionTable := #[], attributes := #[] }
def k9m1 : Method := { name := "newBytesFor", desc := "(I)[B", sig := { parameters := [.int], returnType := some (.array .byte) }, accessFlags := 9, code := some k9c1 }
def k9c2 : Code := { maxStack := 4, maxLocals := 1, code := jdk_52_method_3_code, exceptionTable := #[], attributes := #[] }
def k9m2 : Method := { name := "newBytesLength", desc := "(I)I", sig := { parameters := [.int], returnType := some .int }, accessFlags := 9, code := some k9c2 }
def k9c3 : Code := { maxStack := 4, maxLocals := 3, code := jdk_52_method_4_code, exceptionTable := #[], attributes := #[] }
def k9m3 : Method := { name := "putChar", desc := "([BII)V", sig := { parameters := [(.array .byte), .int, .int], returnType := none }, accessFlags := 8, code := some k9c3 }
def k9c4 : Code := { maxStack := 3, maxLocals := 2, code := jdk_52_method_5_code, exceptionTable := #[], attributes := #[] }
def k9m4 : Method := { name := "getChar", desc := "([BI)C", sig := { parameters := [(.array .byte), .int], returnType := some .char }, accessFlags := 8, code := some k9c4 }
def k9c5 : Code := { maxStack := 2, maxLocals := 1, code := jdk_52_method_6_code, exceptionTable := #[], attributes := #[] }
def k9m5 : Method := { name := "length", desc := "([B)I", sig := { parameters := [(.array .byte)], returnType := some .int }, accessFlags := 9, code := some k9c5 }
def k9c6 : Code := { maxStack := 4, maxLocals := 5, code := jdk_52_method_14_code, exceptionTable := #[], attributes := #[] }
def k9m6 : Method := { name := "toBytes", desc := "([CII)[B", sig := { parameters := [(.array .char), .int, .int], returnType := some (.array .byte) }, accessFlags := 9, code := some k9c6 }
def k9c7 : Code := { maxStack := 2, maxLocals := 2, code := jdk_52_method_15_code, exceptionTable := #[], attributes := #[] }
def k9m7 : Method := { name := "coderFromArrayLen", desc := "([BI)B", sig := { parameters := [(.array .byte), .int], returnType := some .byte }, accessFlags := 8, code := some k9c7 }
def k9c8 : Code := { maxStack := 5, maxLocals := 6, code := jdk_52_method_16_code, exceptionTable := #[], attributes := #[] }
def k9m8 : Method := { name := "compress", desc := "([CII)[B", sig := { parameters := [(.array .char), .int, .int], returnType := some (.array .byte) }, accessFlags := 9, code := some k9c8 }
def k9c9 : Code := { maxStack := 3, maxLocals := 7, code := jdk_52_method_21_code, exceptionTable := #[], attributes := #[] }
def k9m9 : Method := { name := "compress", desc := "([CI[BII)I", sig := { parameters := [(.array .char), .int, (.array .byte), .int, .int], returnType := some .int }, accessFlags := 9, code := some k9c9 }
def k9c10 : Code := { maxStack := 3, maxLocals := 2, code := jdk_52_method_24_code, exceptionTable := #[], attributes := #[] }
def k9m10 : Method := { name := "toBytes", desc := "(C)[B", sig := { parameters := [.char], returnType := some (.array .byte) }, accessFlags := 9, code := some k9c10 }
def k9c11 : Code := { maxStack := 4, maxLocals := 4, code := jdk_52_method_40_code, exceptionTable := #[], attributes := #[] }
def k9m11 : Method := { name := "indexOf", desc := "([BIII)I", sig := { parameters := [(.array .byte), .int, .int, .int], returnType := some .int }, accessFlags := 9, code := some k9c11 }
def k9c12 : Code := { maxStack := 4, maxLocals := 4, code := jdk_52_method_47_code, exceptionTable := #[], attributes := #[] }
def k9m12 : Method := { name := "indexOfChar", desc := "([BIII)I", sig := { parameters := [(.array .byte), .int, .int, .int], returnType := some .int }, accessFlags := 10, code := some k9c12 }
def k9c13 : Code := { maxStack := 2, maxLocals := 5, code := jdk_52_method_48_code, exceptionTable := #[], attributes := #[] }
def k9m13 : Method := { name := "indexOfCharUnsafe", desc := "([BIII)I", sig := { parameters := [(.array .byte), .int, .int, .int], returnType := some .int }, accessFlags := 10, code := some k9c13 }
def k9c14 : Code := { maxStack := 3, maxLocals := 3, code := jdk_52_method_93_code, exceptionTable := #[], attributes := #[] }
def k9m14 : Method := { name := "checkBoundsBeginEnd", desc := "(II[B)V", sig := { parameters := [.int, .int, (.array .byte)], returnType := none }, accessFlags := 9, code := some k9c14 }
/-- java/lang/StringUTF16 -/
def k9 : Class := { plain "java/lang/StringUTF16" (some 0) with
  accessFlags := 48
  interfaces := #[]
  cf := some (fileOf pool9 12 #[.nestMembers #[627, 629, 369]] #[{ accessFlags := 0, nameIndex := 9, descriptorIndex := 10, attributes := #[] }, { accessFlags := 9, nameIndex := 109, descriptorIndex := 110, attributes := #[] }, { accessFlags := 9, nameIndex := 15, descriptorIndex := 16, attributes := #[] }, { accessFlags := 8, nameIndex := 113, descriptorIndex := 114, attributes := #[] }, { accessFlags := 8, nameIndex := 73, descriptorIndex := 74, attributes := #[] }, { accessFlags := 9, nameIndex := 50, descriptorIndex := 51, attributes := #[] }, { accessFlags := 9, nameIndex := 121, descriptorIndex := 122, attributes := #[] }, { accessFlags := 8, nameIndex := 261, descriptorIndex := 262, attributes := #[] }, { accessFlags := 9, nameIndex := 117, descriptorIndex := 122, attributes := #[] }, { accessFlags := 9, nameIndex := 117, descriptorIndex := 118, attributes := #[] }, { accessFlags := 9, nameIndex := 121, descriptorIndex := 475, attributes := #[] }, { accessFlags := 9, nameIndex := 268, descriptorIndex := 231, attributes := #[] }, { accessFlags := 10, nameIndex := 230, descriptorIndex := 231, attributes := #[] }, { accessFlags := 10, nameIndex := 246, descriptorIndex := 231, attributes := #[] }, { accessFlags := 9, nameIndex := 98, descriptorIndex := 99, attributes := #[] }] 48 6 #[] #[{ accessFlags := 26, nameIndex := 61, descriptorIndex := 62, attributes := #[] }, { accessFlags := 26, nameIndex := 65, descriptorIndex := 62, attributes := #[] }, { accessFlags := 24, nameIndex := 430, descriptorIndex := 62, attributes := #[] }, { accessFlags := 4120, nameIndex := 46, descriptorIndex := 47, attributes := #[] }])
  fields := #[{ name := "HI_BYTE_SHIFT", type := .int, accessFlags := 26, slot := 0, constantValue := 0 }, { name := "LO_BYTE_SHIFT", type := .int, accessFlags := 26, slot := 1, constantValue := 0 }, { name := "MAX_LENGTH", type := .int, accessFlags := 24, slot := 2, constantValue := 0 }, { name := "$assertionsDisabled", type := .boolean, accessFlags := 4120, slot := 3, constantValue := 0 }]
  methods := #[k9m0, k9m1, k9m2, k9m3, k9m4, k9m5, k9m6, k9m7, k9m8, k9m9, k9m10, k9m11, k9m12, k9m13, k9m14]
  instanceTypes := #[]
  staticTypes := #[.int, .int, .int, .boolean]
  resolved := Array.replicate 635 none
  statics := some 1 }

def pool10 : Array CpInfo := pool [(4, .class_ 6), (1, u "java/lang/Object"), (0, u "<init>"), (0, u "()V"), (5, .class_ 16), (1, u "java/lang/StringLatin1"), (21, .methodref 39 40), (0, .class_ 41), (0, .nameAndType 42 43), (0, u "java/lang/Math"), (0, u "min"), (0, u "(II)I"), (44, .methodref 14 89), (0, .nameAndType 90 91), (0, u "canEncode"), (0, u "(I)Z"), (0, .methodref 39 93), (0, .nameAndType 94 43), (0, u "max"), (0, .methodref 14 96), (0, .nameAndType 97 98), (0, u "indexOfChar"), (0, u "([BIII)I"), (2, u "indexOf"), (3, u "(C)Z"), (15, u "$assertionsDisabled"), (0, u "Z"), (98, .class_ 223), (1, u "java/lang/StringLatin1$LinesSpliterator"), (57, u "equals"), (0, u "([B[B)Z"), (97, u "toBytes"), (1, u "(C)[B"), (7, .class_ 391), (0, u "java/lang/StringLatin1$CharsSpliterator")] 3

def k10m0 : Method := { name := "<init>", desc := "()V", sig := { parameters := [], returnType := none }, accessFlags := 0, code := none }
def k10c1 : Code := { maxStack := 2, maxLocals := 1, code := jdk_43_method_3_code, exceptionTable := #[], attributes := #[] }
def k10m1 : Method := { name := "canEncode", desc := "(C)Z", sig := { parameters := [.char], returnType := some .boolean }, accessFlags := 9, code := some k10c1 }
def k10c2 : Code := { maxStack := 2, maxLocals := 1, code := jdk_43_method_4_code, exceptionTable := #[], attributes := #[] }
def k10m2 : Method := { name := "canEncode", desc := "(I)Z", sig := { parameters := [.int], returnType := some .boolean }, accessFlags := 9, code := some k10c2 }
def k10c3 : Code := { maxStack := 3, maxLocals := 3, code := jdk_43_method_13_code, exceptionTable := #[], attributes := #[] }
def k10m3 : Method := { name := "equals", desc := "([B[B)Z", sig := { parameters := [(.array .byte), (.array .byte)], returnType := some .boolean }, accessFlags := 9, code := some k10c3 }
def k10c4 : Code := { maxStack := 4, maxLocals := 4, code := jdk_43_method_22_code, exceptionTable := #[], attributes := #[] }
def k10m4 : Method := { name := "indexOf", desc := "([BIII)I", sig := { parameters := [(.array .byte), .int, .int, .int], returnType := some .int }, accessFlags := 9, code := some k10c4 }
def k10c5 : Code := { maxStack := 2, maxLocals := 6, code := jdk_43_method_23_code, exceptionTable := #[], attributes := #[] }
def k10m5 : Method := { name := "indexOfChar", desc := "([BIII)I", sig := { parameters := [(.array .byte), .int, .int, .int], returnType := some .int }, accessFlags := 10, code := some k10c5 }
def k10c6 : Code := { maxStack := 4, maxLocals := 1, code := jdk_43_method_46_code, exceptionTable := #[], attributes := #[] }
def k10m6 : Method := { name := "toBytes", desc := "(C)[B", sig := { parameters := [.char], returnType := some (.array .byte) }, accessFlags := 9, code := some k10c6 }
/-- java/lang/StringLatin1 -/
def k10 : Class := { plain "java/lang/StringLatin1" (some 0) with
  accessFlags := 48
  interfaces := #[]
  cf := some (fileOf pool10 14 #[.nestMembers #[390, 221]] #[{ accessFlags := 0, nameIndex := 7, descriptorIndex := 8, attributes := #[] }, { accessFlags := 9, nameIndex := 90, descriptorIndex := 105, attributes := #[] }, { accessFlags := 9, nameIndex := 90, descriptorIndex := 91, attributes := #[] }, { accessFlags := 9, nameIndex := 281, descriptorIndex := 282, attributes := #[] }, { accessFlags := 9, nameIndex := 101, descriptorIndex := 98, attributes := #[] }, { accessFlags := 10, nameIndex := 97, descriptorIndex := 98, attributes := #[] }, { accessFlags := 9, nameIndex := 380, descriptorIndex := 382, attributes := #[] }] 48 4 #[] #[{ accessFlags := 4120, nameIndex := 121, descriptorIndex := 122, attributes := #[] }])
  fields := #[{ name := "$assertionsDisabled", type := .boolean, accessFlags := 4120, slot := 0, constantValue := 0 }]
  methods := #[k10m0, k10m1, k10m2, k10m3, k10m4, k10m5, k10m6]
  instanceTypes := #[]
  staticTypes := #[.boolean]
  resolved := Array.replicate 395 none
  statics := none }

def pool11 : Array CpInfo := pool [(1, .class_ 2), (0, u "java/lang/Math"), (1, .class_ 6), (1, u "java/lang/Object"), (0, u "<init>"), (0, u "()V"), (89, .class_ 100), (1, u "java/lang/Math$RandomNumberGeneratorHolder"), (71, u "negativeZeroFloatBits"), (0, u "J"), (2, u "negativeZeroDoubleBits"), (21, u "max"), (2, u "min"), (43, u "$assertionsDisabled"), (0, u "Z"), (88, u "(II)I"), (2, u "twoToTheDoubleScaleDown"), (0, u "D"), (4, u "twoToTheDoubleScaleUp"), (9, u "E"), (3, u "PI"), (2, u "TAU"), (2, u "DEGREES_TO_RADIANS"), (0, u "RADIANS_TO_DEGREES")] 94

def k11m0 : Method := { name := "<init>", desc := "()V", sig := { parameters := [], returnType := none }, accessFlags := 2, code := none }
def k11c1 : Code := { maxStack := 2, maxLocals := 2, code := jdk_29_method_65_code, exceptionTable := #[], attributes := #[] }
def k11m1 : Method := { name := "max", desc := "(II)I", sig := { parameters := [.int, .int], returnType := some .int }, accessFlags := 9, code := some k11c1 }
def k11c2 : Code := { maxStack := 2, maxLocals := 2, code := jdk_29_method_69_code, exceptionTable := #[], attributes := #[] }
def k11m2 : Method := { name := "min", desc := "(II)I", sig := { parameters := [.int, .int], returnType := some .int }, accessFlags := 9, code := some k11c2 }
/-- java/lang/Math -/
def k11 : Class := { plain "java/lang/Math" (some 0) with
  accessFlags := 49
  interfaces := #[]
  cf := some (fileOf pool11 1 #[.nestMembers #[98]] #[{ accessFlags := 2, nameIndex := 7, descriptorIndex := 8, attributes := #[] }, { accessFlags := 9, nameIndex := 198, descriptorIndex := 335, attributes := #[] }, { accessFlags := 9, nameIndex := 201, descriptorIndex := 335, attributes := #[] }] 49 4 #[] #[{ accessFlags := 25, nameIndex := 354, descriptorIndex := 339, attributes := #[] }, { accessFlags := 25, nameIndex := 358, descriptorIndex := 339, attributes := #[] }, { accessFlags := 25, nameIndex := 361, descriptorIndex := 339, attributes := #[] }, { accessFlags := 26, nameIndex := 364, descriptorIndex := 339, attributes := #[] }, { accessFlags := 26, nameIndex := 365, descriptorIndex := 339, attributes := #[] }, { accessFlags := 26, nameIndex := 172, descriptorIndex := 173, attributes := #[] }, { accessFlags := 26, nameIndex := 176, descriptorIndex := 173, attributes := #[] }, { accessFlags := 8, nameIndex := 344, descriptorIndex := 339, attributes := #[] }, { accessFlags := 8, nameIndex := 338, descriptorIndex := 339, attributes := #[] }, { accessFlags := 4120, nameIndex := 245, descriptorIndex := 246, attributes := #[] }])
  fields := #[{ name := "E", type := .double, accessFlags := 25, slot := 0, constantValue := 0 }, { name := "PI", type := .double, accessFlags := 25, slot := 1, constantValue := 0 }, { name := "TAU", type := .double, accessFlags := 25, slot := 2, constantValue := 0 }, { name := "DEGREES_TO_RADIANS", type := .double, accessFlags := 26, slot := 3, constantValue := 0 }, { name := "RADIANS_TO_DEGREES", type := .double, accessFlags := 26, slot := 4, constantValue := 0 }, { name := "negativeZeroFloatBits", type := .long, accessFlags := 26, slot := 5, constantValue := 0 }, { name := "negativeZeroDoubleBits", type := .long, accessFlags := 26, slot := 6, constantValue := 0 }, { name := "twoToTheDoubleScaleUp", type := .double, accessFlags := 8, slot := 7, constantValue := 0 }, { name := "twoToTheDoubleScaleDown", type := .double, accessFlags := 8, slot := 8, constantValue := 0 }, { name := "$assertionsDisabled", type := .boolean, accessFlags := 4120, slot := 9, constantValue := 0 }]
  methods := #[k11m0, k11m1, k11m2]
  instanceTypes := #[]
  staticTypes := #[.double, .double, .double, .double, .double, .long, .long, .double, .double, .boolean]
  resolved := Array.replicate 460 none
  statics := none }

def pool12 : Array CpInfo := pool [(2, .class_ 4), (1, u "java/lang/Object"), (0, u "<init>"), (0, u "()V"), (17, .class_ 26), (1, u "jdk/internal/util/Preconditions"), (20, u "checkFromToIndex"), (7, .class_ 56), (0, u "jdk/internal/util/Preconditions$4"), (57, .class_ 115), (0, u "jdk/internal/util/Preconditions$1"), (7, u "SIOOBE_FORMATTER"), (0, u "Ljava/util/function/BiFunction;"), (0, .class_ 126), (0, u "jdk/internal/util/Preconditions$2"), (3, u "AIOOBE_FORMATTER"), (0, .class_ 132), (0, u "jdk/internal/util/Preconditions$3"), (3, u "IOOBE_FORMATTER"), (46, u "(IIILjava/util/function/BiFunction;)I")] 10

def k12m0 : Method := { name := "<init>", desc := "()V", sig := { parameters := [], returnType := none }, accessFlags := 1, code := none }
def k12c1 : Code := { maxStack := 4, maxLocals := 4, code := jdk_41_method_12_code, exceptionTable := #[], attributes := #[] }
def k12m1 : Method := { name := "checkFromToIndex", desc := "(IIILjava/util/function/BiFunction;)I", sig := { parameters := [.int, .int, .int, (.object "java/util/function/BiFunction")], returnType := some .int }, accessFlags := 9, code := some k12c1 }
/-- jdk/internal/util/Preconditions -/
def k12 : Class := { plain "jdk/internal/util/Preconditions" (some 0) with
  accessFlags := 33
  interfaces := #[]
  cf := some (fileOf pool12 24 #[.nestMembers #[55, 131, 125, 114]] #[{ accessFlags := 1, nameIndex := 5, descriptorIndex := 6, attributes := #[] }, { accessFlags := 9, nameIndex := 47, descriptorIndex := 183, attributes := #[] }] 33 2 #[] #[{ accessFlags := 25, nameIndex := 123, descriptorIndex := 124, attributes := #[] }, { accessFlags := 25, nameIndex := 130, descriptorIndex := 124, attributes := #[] }, { accessFlags := 25, nameIndex := 136, descriptorIndex := 124, attributes := #[] }])
  fields := #[{ name := "SIOOBE_FORMATTER", type := (.object "java/util/function/BiFunction"), accessFlags := 25, slot := 0, constantValue := 0 }, { name := "AIOOBE_FORMATTER", type := (.object "java/util/function/BiFunction"), accessFlags := 25, slot := 1, constantValue := 0 }, { name := "IOOBE_FORMATTER", type := (.object "java/util/function/BiFunction"), accessFlags := 25, slot := 2, constantValue := 0 }]
  methods := #[k12m0, k12m1]
  instanceTypes := #[]
  staticTypes := #[(.object "java/util/function/BiFunction"), (.object "java/util/function/BiFunction"), (.object "java/util/function/BiFunction")]
  resolved := Array.replicate 194 none
  statics := some 2 }

def pool13 : Array CpInfo := pool [(9, u "<init>"), (6, .class_ 18), (1, u "java/lang/Object"), (0, u "()V"), (1, .class_ 23), (1, u "jdk/internal/util/ArraysSupport"), (0, u "LOG2_ARRAY_LONG_INDEX_SCALE"), (0, u "I"), (2, u "U"), (0, u "Ljdk/internal/misc/Unsafe;"), (8, u "BIG_ENDIAN"), (0, u "Z"), (8, u "LOG2_BYTE_BIT_SIZE"), (4, u "LOG2_ARRAY_INT_INDEX_SCALE"), (54, u "JLA"), (0, u "Ljdk/internal/access/JavaLangAccess;"), (11, u "LOG2_ARRAY_BOOLEAN_INDEX_SCALE"), (9, u "LOG2_ARRAY_BYTE_INDEX_SCALE"), (5, u "LOG2_ARRAY_CHAR_INDEX_SCALE"), (5, u "LOG2_ARRAY_SHORT_INDEX_SCALE"), (18, u "LOG2_ARRAY_FLOAT_INDEX_SCALE"), (24, u "LOG2_ARRAY_DOUBLE_INDEX_SCALE"), (89, u "T_BOOLEAN"), (2, u "T_CHAR"), (1, u "T_FLOAT"), (1, u "T_DOUBLE"), (1, u "T_BYTE"), (1, u "T_SHORT"), (1, u "T_INT"), (1, u "T_LONG"), (1, u "SOFT_MAX_ARRAY_LENGTH")] 83

def k13m0 : Method := { name := "<init>", desc := "()V", sig := { parameters := [], returnType := none }, accessFlags := 2, code := none }
/-- jdk/internal/util/ArraysSupport -/
def k13 : Class := { plain "jdk/internal/util/ArraysSupport" (some 0) with
  accessFlags := 33
  interfaces := #[]
  cf := some (fileOf pool13 21 #[] #[{ accessFlags := 2, nameIndex := 9, descriptorIndex := 19, attributes := #[] }] 33 16 #[] #[{ accessFlags := 24, nameIndex := 28, descriptorIndex := 29, attributes := #[] }, { accessFlags := 26, nameIndex := 38, descriptorIndex := 39, attributes := #[] }, { accessFlags := 25, nameIndex := 121, descriptorIndex := 25, attributes := #[] }, { accessFlags := 25, nameIndex := 131, descriptorIndex := 25, attributes := #[] }, { accessFlags := 25, nameIndex := 137, descriptorIndex := 25, attributes := #[] }, { accessFlags := 25, nameIndex := 143, descriptorIndex := 25, attributes := #[] }, { accessFlags := 25, nameIndex := 53, descriptorIndex := 25, attributes := #[] }, { accessFlags := 25, nameIndex := 24, descriptorIndex := 25, attributes := #[] }, { accessFlags := 25, nameIndex := 162, descriptorIndex := 25, attributes := #[] }, { accessFlags := 25, nameIndex := 187, descriptorIndex := 25, attributes := #[] }, { accessFlags := 26, nameIndex := 48, descriptorIndex := 25, attributes := #[] }, { accessFlags := 25, nameIndex := 277, descriptorIndex := 25, attributes := #[] }, { accessFlags := 25, nameIndex := 280, descriptorIndex := 25, attributes := #[] }, { accessFlags := 25, nameIndex := 282, descriptorIndex := 25, attributes := #[] }, { accessFlags := 25, nameIndex := 284, descriptorIndex := 25, attributes := #[] }, { accessFlags := 25, nameIndex := 286, descriptorIndex := 25, attributes := #[] }, { accessFlags := 25, nameIndex := 288, descriptorIndex := 25, attributes := #[] }, { accessFlags := 25, nameIndex := 290, descriptorIndex := 25, attributes := #[] }, { accessFlags := 25, nameIndex := 292, descriptorIndex := 25, attributes := #[] }, { accessFlags := 26, nameIndex := 108, descriptorIndex := 109, attributes := #[] }, { accessFlags := 25, nameIndex := 294, descriptorIndex := 25, attributes := #[] }])
  fields := #[{ name := "U", type := (.object "jdk/internal/misc/Unsafe"), accessFlags := 24, slot := 0, constantValue := 0 }, { name := "BIG_ENDIAN", type := .boolean, accessFlags := 26, slot := 1, constantValue := 0 }, { name := "LOG2_ARRAY_BOOLEAN_INDEX_SCALE", type := .int, accessFlags := 25, slot := 2, constantValue := 0 }, { name := "LOG2_ARRAY_BYTE_INDEX_SCALE", type := .int, accessFlags := 25, slot := 3, constantValue := 0 }, { name := "LOG2_ARRAY_CHAR_INDEX_SCALE", type := .int, accessFlags := 25, slot := 4, constantValue := 0 }, { name := "LOG2_ARRAY_SHORT_INDEX_SCALE", type := .int, accessFlags := 25, slot := 5, constantValue := 0 }, { name := "LOG2_ARRAY_INT_INDEX_SCALE", type := .int, accessFlags := 25, slot := 6, constantValue := 0 }, { name := "LOG2_ARRAY_LONG_INDEX_SCALE", type := .int, accessFlags := 25, slot := 7, constantValue := 0 }, { name := "LOG2_ARRAY_FLOAT_INDEX_SCALE", type := .int, accessFlags := 25, slot := 8, constantValue := 0 }, { name := "LOG2_ARRAY_DOUBLE_INDEX_SCALE", type := .int, accessFlags := 25, slot := 9, constantValue := 0 }, { name := "LOG2_BYTE_BIT_SIZE", type := .int, accessFlags := 26, slot := 10, constantValue := 0 }, { name := "T_BOOLEAN", type := .int, accessFlags := 25, slot := 11, constantValue := 0 }, { name := "T_CHAR", type := .int, accessFlags := 25, slot := 12, constantValue := 0 }, { name := "T_FLOAT", type := .int, accessFlags := 25, slot := 13, constantValue := 0 }, { name := "T_DOUBLE", type := .int, accessFlags := 25, slot := 14, constantValue := 0 }, { name := "T_BYTE", type := .int, accessFlags := 25, slot := 15, constantValue := 0 }, { name := "T_SHORT", type := .int, accessFlags := 25, slot := 16, constantValue := 0 }, { name := "T_INT", type := .int, accessFlags := 25, slot := 17, constantValue := 0 }, { name := "T_LONG", type := .int, accessFlags := 25, slot := 18, constantValue := 0 }, { name := "JLA", type := (.object "jdk/internal/access/JavaLangAccess"), accessFlags := 26, slot := 19, constantValue := 0 }, { name := "SOFT_MAX_ARRAY_LENGTH", type := .int, accessFlags := 25, slot := 20, constantValue := 0 }]
  methods := #[k13m0]
  instanceTypes := #[]
  staticTypes := #[(.object "jdk/internal/misc/Unsafe"), .boolean, .int, .int, .int, .int, .int, .int, .int, .int, .int, .int, .int, .int, .int, .int, .int, .int, .int, (.object "jdk/internal/access/JavaLangAccess"), .int]
  resolved := Array.replicate 378 none
  statics := none }

def pool14 : Array CpInfo := pool [(1, u "java/lang/Cloneable"), (0, .class_ 1), (0, u "java/lang/Object"), (0, .class_ 3)] 3

/-- java/lang/Cloneable -/
def k14 : Class := { plain "java/lang/Cloneable" (some 0) with
  accessFlags := 1537
  interfaces := #[]
  cf := some (fileOf pool14 2 #[] #[] 1537 4 #[] #[])
  fields := #[]
  methods := #[]
  instanceTypes := #[]
  staticTypes := #[]
  resolved := Array.replicate 8 none
  statics := none }

/-- the primitive byte -/
def k15 : Class := { plain "byte" none with kind := .primitive 'B', accessFlags := 0x411 }
/-- [B -/
def k16 : Class := { plain "[B" (some 0) with kind := .array 15 .byte, interfaces := #[14, 2], accessFlags := 1041 }

/-- the primitive char -/
def k17 : Class := { plain "char" none with kind := .primitive 'C', accessFlags := 0x411 }
/-- [C -/
def k18 : Class := { plain "[C" (some 0) with kind := .array 17 .char, interfaces := #[14, 2], accessFlags := 1041 }

/-- the primitive int -/
def k19 : Class := { plain "int" none with kind := .primitive 'I', accessFlags := 0x411 }
/-- [I -/
def k20 : Class := { plain "[I" (some 0) with kind := .array 19 .int, interfaces := #[14, 2], accessFlags := 1041 }

def heap : Heap := #[{ cls := 7, slots := #[.long 0, .int 1, .null, .int 0, .null, .int 0, .int 0], vm := .statics 7 },
  { cls := 9, slots := #[.int 0, .int 8, .int 0, .int 1], vm := .statics 9 },
  { cls := 12, slots := #[.null, .null, .null], vm := .statics 12 }]
def classes : Array Class := #[k0, k1, k2, k3, k4, k5, k6, k7, k8, k9, k10, k11, k12, k13, k14, k15, k16, k17, k18, k19, k20]
def interned : List (Array UInt16 × Addr) := []
def slotsUsed : Nat := 14
def theMethod : MethodId := ⟨1, 3⟩
def args0 : Array Value := #[.int 2, .int 46, .int 200000, .int 9]
def aboutOver (below : List Frame) : State where
  vm := { classes := classes, interned := interned.toArray }
  heap := heap
  slotsUsed := slotsUsed
  threads := #[{ frames := .invoking theMethod args0 :: below }]
def below0 : List Frame := [.native { method := ⟨0, 0⟩, args := #[] }]
def about1 : State := aboutOver below0
def p0 : Program := .bare "" "" ""
def e0 : Env := launch0.env 0 0 0
theorem w_frames : about1.frames = Frame.invoking theMethod args0 :: below0 := rfl
set_option maxRecDepth 65536 in
theorem w_args : argsFit about1.vm theMethod args0 = true := by decide +kernel
set_option maxRecDepth 65536 in
theorem w_heap : heapFits about1 = true := by decide +kernel
set_option maxRecDepth 65536 in
theorem w_runnable : about1.curStatus? = some .runnable := by decide +kernel
set_option maxRecDepth 65536 in
theorem w_alone : about1.alone = true := by decide +kernel
set_option maxRecDepth 65536 in
theorem w_named : about1.methodNamed? x = some theMethod := by decide +kernel
set_option maxRecDepth 65536 in
theorem w_hears : about1.hears theMethod below0 = true := by decide +kernel
set_option maxRecDepth 65536 in
theorem w_ripe : about1.ripe theMethod args0 below0 = true := by decide +kernel
theorem w_running : about1.status = .running := rfl
set_option maxRecDepth 65536 in
theorem w_room : about1.hasRoom e0.platform room_1 = true :=
  launch0.hasRoom_least _ room_1 (by decide +kernel) (by decide +kernel) (by decide +kernel) (by decide +kernel) (by decide +kernel) (by decide +kernel)
theorem allAtoms_all (ts : List Jvm.Cond) (a : Array Jvm.Value) (st : Jvm.State) : (allAtoms ts).before a st = ts.all (fun c => c.before a st) := by
  induction ts with
  | nil => rfl
  | cons c t ih =>
    show (Jvm.Cond.and c (allAtoms t)).before a st = _
    rw [Jvm.Cond.before_and, ih, List.all_cons]
def words1 : List Jvm.Cond := Jvm.Cond.code x code maxLocals ret :: tables_1
/-- a 'code' word, met by the world's own term for the bytes: nothing is compared byte by byte -/
theorem code_word {y : MethodName} {bytes : ByteArray} {mx : Nat} {rt : Option FieldType} {a : Array Value} {s : State} {m : MethodId} {meth : Method} {c : Code} (h1 : s.methodNamed? y = some m) (h2 : s.vm.method? m = some meth) (h3 : meth.code = some c) (h4 : c.code = bytes)
    (h5 : (c.maxLocals == mx && c.exceptionTable.isEmpty && decide (c.maxStack ≤ mostOperands) && decide (meth.sig.returnType = rt) && !meth.locks && decide (parseMethodDescriptor y.desc = some meth.sig)) = true) : (Jvm.Cond.code y bytes mx rt).before a s = true := by
  simp only [Bool.and_eq_true, beq_iff_eq, Bool.not_eq_true', decide_eq_true_eq] at h5
  obtain ⟨⟨⟨⟨⟨g1, g2⟩, g3⟩, g4⟩, g5⟩, g6⟩ := h5
  simp [Cond.before, Cond.holds, Cond.value, h1, h2, h3, h4, g1, g2, g3, g4, g5, g6]
def isCode : Jvm.Cond → Bool
  | .code _ _ _ _ => true
  | _ => false
theorem all_split {L : List Jvm.Cond} {P : Jvm.Cond → Bool} (h1 : L.all (fun c => isCode c || P c) = true) (h2 : ∀ c ∈ L.filter isCode, P c = true) : L.all P = true := by
  refine List.all_eq_true.mpr fun c hc => ?_
  have h := List.all_eq_true.mp h1 c hc
  rcases Bool.eq_false_or_eq_true (isCode c) with hi | hi
  · exact h2 c (List.mem_filter.mpr ⟨hc, hi⟩)
  · simpa [hi] using h
set_option maxRecDepth 65536 in
theorem w_c0 : (Jvm.Cond.code x code maxLocals ret).before args0 about1 = true := code_word (m := ⟨1, 3⟩) (meth := k1m3) (c := k1c3) (by decide +kernel) rfl rfl rfl (by decide +kernel)
set_option maxRecDepth 65536 in
theorem w_c1 : (Jvm.Cond.code ({ cls := "com/example/callimachus/callimachus/LocationIsFileNamePinLaw", name := "pick", desc := "(I)C" } : Jvm.MethodName) method_2_code (2 : Nat) (Option.some Jvm.ClassFile.FieldType.char)).before args0 about1 = true := code_word (m := ⟨1, 1⟩) (meth := k1m1) (c := k1c1) (by decide +kernel) rfl rfl rfl (by decide +kernel)
set_option maxRecDepth 65536 in
theorem w_c2 : (Jvm.Cond.code ({ cls := "java/lang/String", name := "<init>", desc := "([C)V" } : Jvm.MethodName) jdk_42_method_3_code (2 : Nat) (Option.none : Option Jvm.ClassFile.FieldType)).before args0 about1 = true := code_word (m := ⟨7, 1⟩) (meth := k7m1) (c := k7c1) (by decide +kernel) rfl rfl rfl (by decide +kernel)
set_option maxRecDepth 65536 in
theorem w_c3 : (Jvm.Cond.code ({ cls := "java/lang/String", name := "<init>", desc := "([CIILjava/lang/Void;)V" } : Jvm.MethodName) jdk_42_method_149_code (6 : Nat) (Option.none : Option Jvm.ClassFile.FieldType)).before args0 about1 = true := code_word (m := ⟨7, 8⟩) (meth := k7m8) (c := k7c8) (by decide +kernel) rfl rfl rfl (by decide +kernel)
set_option maxRecDepth 65536 in
theorem w_c4 : (Jvm.Cond.code ({ cls := "java/lang/Object", name := "<init>", desc := "()V" } : Jvm.MethodName) object_method_1_code (1 : Nat) (Option.none : Option Jvm.ClassFile.FieldType)).before args0 about1 = true := code_word (m := ⟨0, 0⟩) (meth := k0m0) (c := k0c0) (by decide +kernel) rfl rfl rfl (by decide +kernel)
set_option maxRecDepth 65536 in
theorem w_c5 : (Jvm.Cond.code ({ cls := "com/example/callimachus/callimachus/Location", name := "isFileName", desc := "(Ljava/lang/String;)Z" } : Jvm.MethodName) prog_13_method_8_code (1 : Nat) (Option.some Jvm.ClassFile.FieldType.boolean)).before args0 about1 = true := code_word (m := ⟨8, 0⟩) (meth := k8m0) (c := k8c0) (by decide +kernel) rfl rfl rfl (by decide +kernel)
set_option maxRecDepth 65536 in
theorem w_c6 : (Jvm.Cond.code ({ cls := "java/lang/String", name := "isEmpty", desc := "()Z" } : Jvm.MethodName) jdk_42_method_55_code (1 : Nat) (Option.some Jvm.ClassFile.FieldType.boolean)).before args0 about1 = true := code_word (m := ⟨7, 3⟩) (meth := k7m3) (c := k7c3) (by decide +kernel) rfl rfl rfl (by decide +kernel)
set_option maxRecDepth 65536 in
theorem w_c7 : (Jvm.Cond.code ({ cls := "java/lang/StringUTF16", name := "compress", desc := "([CII)[B" } : Jvm.MethodName) jdk_52_method_16_code (6 : Nat) (Option.some (Jvm.ClassFile.FieldType.array Jvm.ClassFile.FieldType.byte))).before args0 about1 = true := code_word (m := ⟨9, 8⟩) (meth := k9m8) (c := k9c8) (by decide +kernel) rfl rfl rfl (by decide +kernel)
set_option maxRecDepth 65536 in
theorem w_c8 : (Jvm.Cond.code ({ cls := "java/lang/StringUTF16", name := "compress", desc := "([CI[BII)I" } : Jvm.MethodName) jdk_52_method_21_code (7 : Nat) (Option.some Jvm.ClassFile.FieldType.int)).before args0 about1 = true := code_word (m := ⟨9, 9⟩) (meth := k9m9) (c := k9c9) (by decide +kernel) rfl rfl rfl (by decide +kernel)
set_option maxRecDepth 65536 in
theorem w_c9 : (Jvm.Cond.code ({ cls := "java/lang/StringUTF16", name := "coderFromArrayLen", desc := "([BI)B" } : Jvm.MethodName) jdk_52_method_15_code (2 : Nat) (Option.some Jvm.ClassFile.FieldType.byte)).before args0 about1 = true := code_word (m := ⟨9, 7⟩) (meth := k9m7) (c := k9c7) (by decide +kernel) rfl rfl rfl (by decide +kernel)
set_option maxRecDepth 65536 in
theorem w_c10 : (Jvm.Cond.code ({ cls := "com/example/callimachus/callimachus/LocationIsFileNamePinLaw", name := "bad", desc := "(C)Z" } : Jvm.MethodName) method_3_code (1 : Nat) (Option.some Jvm.ClassFile.FieldType.boolean)).before args0 about1 = true := code_word (m := ⟨1, 2⟩) (meth := k1m2) (c := k1c2) (by decide +kernel) rfl rfl rfl (by decide +kernel)
set_option maxRecDepth 65536 in
theorem w_c11 : (Jvm.Cond.code ({ cls := "java/lang/String", name := "equals", desc := "(Ljava/lang/Object;)Z" } : Jvm.MethodName) jdk_42_method_66_code (3 : Nat) (Option.some Jvm.ClassFile.FieldType.boolean)).before args0 about1 = true := code_word (m := ⟨7, 4⟩) (meth := k7m4) (c := k7c4) (by decide +kernel) rfl rfl rfl (by decide +kernel)
set_option maxRecDepth 65536 in
theorem w_c12 : (Jvm.Cond.code ({ cls := "java/lang/StringLatin1", name := "equals", desc := "([B[B)Z" } : Jvm.MethodName) jdk_43_method_13_code (3 : Nat) (Option.some Jvm.ClassFile.FieldType.boolean)).before args0 about1 = true := code_word (m := ⟨10, 3⟩) (meth := k10m3) (c := k10c3) (by decide +kernel) rfl rfl rfl (by decide +kernel)
set_option maxRecDepth 65536 in
theorem w_c13 : (Jvm.Cond.code ({ cls := "java/lang/String", name := "indexOf", desc := "(I)I" } : Jvm.MethodName) jdk_42_method_79_code (2 : Nat) (Option.some Jvm.ClassFile.FieldType.int)).before args0 about1 = true := code_word (m := ⟨7, 5⟩) (meth := k7m5) (c := k7c5) (by decide +kernel) rfl rfl rfl (by decide +kernel)
set_option maxRecDepth 65536 in
theorem w_c14 : (Jvm.Cond.code ({ cls := "java/lang/String", name := "indexOf", desc := "(II)I" } : Jvm.MethodName) jdk_42_method_80_code (3 : Nat) (Option.some Jvm.ClassFile.FieldType.int)).before args0 about1 = true := code_word (m := ⟨7, 6⟩) (meth := k7m6) (c := k7c6) (by decide +kernel) rfl rfl rfl (by decide +kernel)
set_option maxRecDepth 65536 in
theorem w_c15 : (Jvm.Cond.code ({ cls := "java/lang/String", name := "isLatin1", desc := "()Z" } : Jvm.MethodName) jdk_42_method_154_code (1 : Nat) (Option.some Jvm.ClassFile.FieldType.boolean)).before args0 about1 = true := code_word (m := ⟨7, 11⟩) (meth := k7m11) (c := k7c11) (by decide +kernel) rfl rfl rfl (by decide +kernel)
set_option maxRecDepth 65536 in
theorem w_c16 : (Jvm.Cond.code ({ cls := "java/lang/String", name := "length", desc := "()I" } : Jvm.MethodName) jdk_42_method_54_code (1 : Nat) (Option.some Jvm.ClassFile.FieldType.int)).before args0 about1 = true := code_word (m := ⟨7, 2⟩) (meth := k7m2) (c := k7c2) (by decide +kernel) rfl rfl rfl (by decide +kernel)
set_option maxRecDepth 65536 in
theorem w_c17 : (Jvm.Cond.code ({ cls := "java/lang/String", name := "coder", desc := "()B" } : Jvm.MethodName) jdk_42_method_152_code (1 : Nat) (Option.some Jvm.ClassFile.FieldType.byte)).before args0 about1 = true := code_word (m := ⟨7, 10⟩) (meth := k7m10) (c := k7c10) (by decide +kernel) rfl rfl rfl (by decide +kernel)
set_option maxRecDepth 65536 in
theorem w_c18 : (Jvm.Cond.code ({ cls := "java/lang/StringLatin1", name := "indexOf", desc := "([BIII)I" } : Jvm.MethodName) jdk_43_method_22_code (4 : Nat) (Option.some Jvm.ClassFile.FieldType.int)).before args0 about1 = true := code_word (m := ⟨10, 4⟩) (meth := k10m4) (c := k10c4) (by decide +kernel) rfl rfl rfl (by decide +kernel)
set_option maxRecDepth 65536 in
theorem w_c19 : (Jvm.Cond.code ({ cls := "java/lang/StringLatin1", name := "canEncode", desc := "(I)Z" } : Jvm.MethodName) jdk_43_method_4_code (1 : Nat) (Option.some Jvm.ClassFile.FieldType.boolean)).before args0 about1 = true := code_word (m := ⟨10, 2⟩) (meth := k10m2) (c := k10c2) (by decide +kernel) rfl rfl rfl (by decide +kernel)
set_option maxRecDepth 65536 in
theorem w_c20 : (Jvm.Cond.code ({ cls := "java/lang/Math", name := "max", desc := "(II)I" } : Jvm.MethodName) jdk_29_method_65_code (2 : Nat) (Option.some Jvm.ClassFile.FieldType.int)).before args0 about1 = true := code_word (m := ⟨11, 1⟩) (meth := k11m1) (c := k11c1) (by decide +kernel) rfl rfl rfl (by decide +kernel)
set_option maxRecDepth 65536 in
theorem w_c21 : (Jvm.Cond.code ({ cls := "java/lang/Math", name := "min", desc := "(II)I" } : Jvm.MethodName) jdk_29_method_69_code (2 : Nat) (Option.some Jvm.ClassFile.FieldType.int)).before args0 about1 = true := code_word (m := ⟨11, 2⟩) (meth := k11m2) (c := k11c2) (by decide +kernel) rfl rfl rfl (by decide +kernel)
set_option maxRecDepth 65536 in
theorem w_c22 : (Jvm.Cond.code ({ cls := "java/lang/StringLatin1", name := "indexOfChar", desc := "([BIII)I" } : Jvm.MethodName) jdk_43_method_23_code (6 : Nat) (Option.some Jvm.ClassFile.FieldType.int)).before args0 about1 = true := code_word (m := ⟨10, 5⟩) (meth := k10m5) (c := k10c5) (by decide +kernel) rfl rfl rfl (by decide +kernel)
set_option maxRecDepth 65536 in
theorem w_c23 : (Jvm.Cond.code ({ cls := "java/lang/String", name := "valueOf", desc := "(C)Ljava/lang/String;" } : Jvm.MethodName) jdk_42_method_139_code (1 : Nat) (Option.some (Jvm.ClassFile.FieldType.object "java/lang/String"))).before args0 about1 = true := code_word (m := ⟨7, 7⟩) (meth := k7m7) (c := k7c7) (by decide +kernel) rfl rfl rfl (by decide +kernel)
set_option maxRecDepth 65536 in
theorem w_c24 : (Jvm.Cond.code ({ cls := "java/lang/StringLatin1", name := "canEncode", desc := "(C)Z" } : Jvm.MethodName) jdk_43_method_3_code (1 : Nat) (Option.some Jvm.ClassFile.FieldType.boolean)).before args0 about1 = true := code_word (m := ⟨10, 1⟩) (meth := k10m1) (c := k10c1) (by decide +kernel) rfl rfl rfl (by decide +kernel)
set_option maxRecDepth 65536 in
theorem w_c25 : (Jvm.Cond.code ({ cls := "java/lang/StringLatin1", name := "toBytes", desc := "(C)[B" } : Jvm.MethodName) jdk_43_method_46_code (1 : Nat) (Option.some (Jvm.ClassFile.FieldType.array Jvm.ClassFile.FieldType.byte))).before args0 about1 = true := code_word (m := ⟨10, 6⟩) (meth := k10m6) (c := k10c6) (by decide +kernel) rfl rfl rfl (by decide +kernel)
set_option maxRecDepth 65536 in
theorem w_c26 : (Jvm.Cond.code ({ cls := "java/lang/String", name := "<init>", desc := "([BB)V" } : Jvm.MethodName) jdk_42_method_151_code (3 : Nat) (Option.none : Option Jvm.ClassFile.FieldType)).before args0 about1 = true := code_word (m := ⟨7, 9⟩) (meth := k7m9) (c := k7c9) (by decide +kernel) rfl rfl rfl (by decide +kernel)
set_option maxRecDepth 65536 in
theorem w_c27 : (Jvm.Cond.code ({ cls := "java/lang/StringUTF16", name := "toBytes", desc := "([CII)[B" } : Jvm.MethodName) jdk_52_method_14_code (5 : Nat) (Option.some (Jvm.ClassFile.FieldType.array Jvm.ClassFile.FieldType.byte))).before args0 about1 = true := code_word (m := ⟨9, 6⟩) (meth := k9m6) (c := k9c6) (by decide +kernel) rfl rfl rfl (by decide +kernel)
set_option maxRecDepth 65536 in
theorem w_c28 : (Jvm.Cond.code ({ cls := "java/lang/StringUTF16", name := "newBytesFor", desc := "(I)[B" } : Jvm.MethodName) jdk_52_method_2_code (1 : Nat) (Option.some (Jvm.ClassFile.FieldType.array Jvm.ClassFile.FieldType.byte))).before args0 about1 = true := code_word (m := ⟨9, 1⟩) (meth := k9m1) (c := k9c1) (by decide +kernel) rfl rfl rfl (by decide +kernel)
set_option maxRecDepth 65536 in
theorem w_c29 : (Jvm.Cond.code ({ cls := "java/lang/StringUTF16", name := "newBytesLength", desc := "(I)I" } : Jvm.MethodName) jdk_52_method_3_code (1 : Nat) (Option.some Jvm.ClassFile.FieldType.int)).before args0 about1 = true := code_word (m := ⟨9, 2⟩) (meth := k9m2) (c := k9c2) (by decide +kernel) rfl rfl rfl (by decide +kernel)
set_option maxRecDepth 65536 in
theorem w_c30 : (Jvm.Cond.code ({ cls := "java/lang/StringUTF16", name := "putChar", desc := "([BII)V" } : Jvm.MethodName) jdk_52_method_4_code (3 : Nat) (Option.none : Option Jvm.ClassFile.FieldType)).before args0 about1 = true := code_word (m := ⟨9, 3⟩) (meth := k9m3) (c := k9c3) (by decide +kernel) rfl rfl rfl (by decide +kernel)
set_option maxRecDepth 65536 in
theorem w_c31 : (Jvm.Cond.code ({ cls := "java/lang/StringUTF16", name := "getChar", desc := "([BI)C" } : Jvm.MethodName) jdk_52_method_5_code (2 : Nat) (Option.some Jvm.ClassFile.FieldType.char)).before args0 about1 = true := code_word (m := ⟨9, 4⟩) (meth := k9m4) (c := k9c4) (by decide +kernel) rfl rfl rfl (by decide +kernel)
set_option maxRecDepth 65536 in
theorem w_c32 : (Jvm.Cond.code ({ cls := "java/lang/StringUTF16", name := "indexOf", desc := "([BIII)I" } : Jvm.MethodName) jdk_52_method_40_code (4 : Nat) (Option.some Jvm.ClassFile.FieldType.int)).before args0 about1 = true := code_word (m := ⟨9, 11⟩) (meth := k9m11) (c := k9c11) (by decide +kernel) rfl rfl rfl (by decide +kernel)
set_option maxRecDepth 65536 in
theorem w_c33 : (Jvm.Cond.code ({ cls := "java/lang/StringUTF16", name := "indexOfChar", desc := "([BIII)I" } : Jvm.MethodName) jdk_52_method_47_code (4 : Nat) (Option.some Jvm.ClassFile.FieldType.int)).before args0 about1 = true := code_word (m := ⟨9, 12⟩) (meth := k9m12) (c := k9c12) (by decide +kernel) rfl rfl rfl (by decide +kernel)
set_option maxRecDepth 65536 in
theorem w_c34 : (Jvm.Cond.code ({ cls := "java/lang/StringUTF16", name := "checkBoundsBeginEnd", desc := "(II[B)V" } : Jvm.MethodName) jdk_52_method_93_code (3 : Nat) (Option.none : Option Jvm.ClassFile.FieldType)).before args0 about1 = true := code_word (m := ⟨9, 14⟩) (meth := k9m14) (c := k9c14) (by decide +kernel) rfl rfl rfl (by decide +kernel)
set_option maxRecDepth 65536 in
theorem w_c35 : (Jvm.Cond.code ({ cls := "java/lang/StringUTF16", name := "length", desc := "([B)I" } : Jvm.MethodName) jdk_52_method_6_code (1 : Nat) (Option.some Jvm.ClassFile.FieldType.int)).before args0 about1 = true := code_word (m := ⟨9, 5⟩) (meth := k9m5) (c := k9c5) (by decide +kernel) rfl rfl rfl (by decide +kernel)
set_option maxRecDepth 65536 in
theorem w_c36 : (Jvm.Cond.code ({ cls := "java/lang/String", name := "checkBoundsBeginEnd", desc := "(III)V" } : Jvm.MethodName) jdk_42_method_158_code (3 : Nat) (Option.none : Option Jvm.ClassFile.FieldType)).before args0 about1 = true := code_word (m := ⟨7, 12⟩) (meth := k7m12) (c := k7c12) (by decide +kernel) rfl rfl rfl (by decide +kernel)
set_option maxRecDepth 65536 in
theorem w_c37 : (Jvm.Cond.code ({ cls := "jdk/internal/util/Preconditions", name := "checkFromToIndex", desc := "(IIILjava/util/function/BiFunction;)I" } : Jvm.MethodName) jdk_41_method_12_code (4 : Nat) (Option.some Jvm.ClassFile.FieldType.int)).before args0 about1 = true := code_word (m := ⟨12, 1⟩) (meth := k12m1) (c := k12c1) (by decide +kernel) rfl rfl rfl (by decide +kernel)
set_option maxRecDepth 65536 in
theorem w_c38 : (Jvm.Cond.code ({ cls := "java/lang/StringUTF16", name := "indexOfCharUnsafe", desc := "([BIII)I" } : Jvm.MethodName) jdk_52_method_48_code (5 : Nat) (Option.some Jvm.ClassFile.FieldType.int)).before args0 about1 = true := code_word (m := ⟨9, 13⟩) (meth := k9m13) (c := k9c13) (by decide +kernel) rfl rfl rfl (by decide +kernel)
set_option maxRecDepth 65536 in
theorem w_c39 : (Jvm.Cond.code ({ cls := "java/lang/StringUTF16", name := "toBytes", desc := "(C)[B" } : Jvm.MethodName) jdk_52_method_24_code (2 : Nat) (Option.some (Jvm.ClassFile.FieldType.array Jvm.ClassFile.FieldType.byte))).before args0 about1 = true := code_word (m := ⟨9, 10⟩) (meth := k9m10) (c := k9c10) (by decide +kernel) rfl rfl rfl (by decide +kernel)
def codes1 : List Jvm.Cond := [Jvm.Cond.code x code maxLocals ret, Jvm.Cond.code ({ cls := "com/example/callimachus/callimachus/LocationIsFileNamePinLaw", name := "pick", desc := "(I)C" } : Jvm.MethodName) method_2_code (2 : Nat) (Option.some Jvm.ClassFile.FieldType.char), Jvm.Cond.code ({ cls := "java/lang/String", name := "<init>", desc := "([C)V" } : Jvm.MethodName) jdk_42_method_3_code (2 : Nat) (Option.none : Option Jvm.ClassFile.FieldType), Jvm.Cond.code ({ cls := "java/lang/String", name := "<init>", desc := "([CIILjava/lang/Void;)V" } : Jvm.MethodName) jdk_42_method_149_code (6 : Nat) (Option.none : Option Jvm.ClassFile.FieldType), Jvm.Cond.code ({ cls := "java/lang/Object", name := "<init>", desc := "()V" } : Jvm.MethodName) object_method_1_code (1 : Nat) (Option.none : Option Jvm.ClassFile.FieldType), Jvm.Cond.code ({ cls := "com/example/callimachus/callimachus/Location", name := "isFileName", desc := "(Ljava/lang/String;)Z" } : Jvm.MethodName) prog_13_method_8_code (1 : Nat) (Option.some Jvm.ClassFile.FieldType.boolean), Jvm.Cond.code ({ cls := "java/lang/String", name := "isEmpty", desc := "()Z" } : Jvm.MethodName) jdk_42_method_55_code (1 : Nat) (Option.some Jvm.ClassFile.FieldType.boolean), Jvm.Cond.code ({ cls := "java/lang/StringUTF16", name := "compress", desc := "([CII)[B" } : Jvm.MethodName) jdk_52_method_16_code (6 : Nat) (Option.some (Jvm.ClassFile.FieldType.array Jvm.ClassFile.FieldType.byte)), Jvm.Cond.code ({ cls := "java/lang/StringUTF16", name := "compress", desc := "([CI[BII)I" } : Jvm.MethodName) jdk_52_method_21_code (7 : Nat) (Option.some Jvm.ClassFile.FieldType.int), Jvm.Cond.code ({ cls := "java/lang/StringUTF16", name := "coderFromArrayLen", desc := "([BI)B" } : Jvm.MethodName) jdk_52_method_15_code (2 : Nat) (Option.some Jvm.ClassFile.FieldType.byte), Jvm.Cond.code ({ cls := "com/example/callimachus/callimachus/LocationIsFileNamePinLaw", name := "bad", desc := "(C)Z" } : Jvm.MethodName) method_3_code (1 : Nat) (Option.some Jvm.ClassFile.FieldType.boolean), Jvm.Cond.code ({ cls := "java/lang/String", name := "equals", desc := "(Ljava/lang/Object;)Z" } : Jvm.MethodName) jdk_42_method_66_code (3 : Nat) (Option.some Jvm.ClassFile.FieldType.boolean), Jvm.Cond.code ({ cls := "java/lang/StringLatin1", name := "equals", desc := "([B[B)Z" } : Jvm.MethodName) jdk_43_method_13_code (3 : Nat) (Option.some Jvm.ClassFile.FieldType.boolean), Jvm.Cond.code ({ cls := "java/lang/String", name := "indexOf", desc := "(I)I" } : Jvm.MethodName) jdk_42_method_79_code (2 : Nat) (Option.some Jvm.ClassFile.FieldType.int), Jvm.Cond.code ({ cls := "java/lang/String", name := "indexOf", desc := "(II)I" } : Jvm.MethodName) jdk_42_method_80_code (3 : Nat) (Option.some Jvm.ClassFile.FieldType.int), Jvm.Cond.code ({ cls := "java/lang/String", name := "isLatin1", desc := "()Z" } : Jvm.MethodName) jdk_42_method_154_code (1 : Nat) (Option.some Jvm.ClassFile.FieldType.boolean), Jvm.Cond.code ({ cls := "java/lang/String", name := "length", desc := "()I" } : Jvm.MethodName) jdk_42_method_54_code (1 : Nat) (Option.some Jvm.ClassFile.FieldType.int), Jvm.Cond.code ({ cls := "java/lang/String", name := "coder", desc := "()B" } : Jvm.MethodName) jdk_42_method_152_code (1 : Nat) (Option.some Jvm.ClassFile.FieldType.byte), Jvm.Cond.code ({ cls := "java/lang/StringLatin1", name := "indexOf", desc := "([BIII)I" } : Jvm.MethodName) jdk_43_method_22_code (4 : Nat) (Option.some Jvm.ClassFile.FieldType.int), Jvm.Cond.code ({ cls := "java/lang/StringLatin1", name := "canEncode", desc := "(I)Z" } : Jvm.MethodName) jdk_43_method_4_code (1 : Nat) (Option.some Jvm.ClassFile.FieldType.boolean), Jvm.Cond.code ({ cls := "java/lang/Math", name := "max", desc := "(II)I" } : Jvm.MethodName) jdk_29_method_65_code (2 : Nat) (Option.some Jvm.ClassFile.FieldType.int), Jvm.Cond.code ({ cls := "java/lang/Math", name := "min", desc := "(II)I" } : Jvm.MethodName) jdk_29_method_69_code (2 : Nat) (Option.some Jvm.ClassFile.FieldType.int), Jvm.Cond.code ({ cls := "java/lang/StringLatin1", name := "indexOfChar", desc := "([BIII)I" } : Jvm.MethodName) jdk_43_method_23_code (6 : Nat) (Option.some Jvm.ClassFile.FieldType.int), Jvm.Cond.code ({ cls := "java/lang/String", name := "valueOf", desc := "(C)Ljava/lang/String;" } : Jvm.MethodName) jdk_42_method_139_code (1 : Nat) (Option.some (Jvm.ClassFile.FieldType.object "java/lang/String")), Jvm.Cond.code ({ cls := "java/lang/StringLatin1", name := "canEncode", desc := "(C)Z" } : Jvm.MethodName) jdk_43_method_3_code (1 : Nat) (Option.some Jvm.ClassFile.FieldType.boolean), Jvm.Cond.code ({ cls := "java/lang/StringLatin1", name := "toBytes", desc := "(C)[B" } : Jvm.MethodName) jdk_43_method_46_code (1 : Nat) (Option.some (Jvm.ClassFile.FieldType.array Jvm.ClassFile.FieldType.byte)), Jvm.Cond.code ({ cls := "java/lang/String", name := "<init>", desc := "([BB)V" } : Jvm.MethodName) jdk_42_method_151_code (3 : Nat) (Option.none : Option Jvm.ClassFile.FieldType), Jvm.Cond.code ({ cls := "java/lang/StringUTF16", name := "toBytes", desc := "([CII)[B" } : Jvm.MethodName) jdk_52_method_14_code (5 : Nat) (Option.some (Jvm.ClassFile.FieldType.array Jvm.ClassFile.FieldType.byte)), Jvm.Cond.code ({ cls := "java/lang/StringUTF16", name := "newBytesFor", desc := "(I)[B" } : Jvm.MethodName) jdk_52_method_2_code (1 : Nat) (Option.some (Jvm.ClassFile.FieldType.array Jvm.ClassFile.FieldType.byte)), Jvm.Cond.code ({ cls := "java/lang/StringUTF16", name := "newBytesLength", desc := "(I)I" } : Jvm.MethodName) jdk_52_method_3_code (1 : Nat) (Option.some Jvm.ClassFile.FieldType.int), Jvm.Cond.code ({ cls := "java/lang/StringUTF16", name := "putChar", desc := "([BII)V" } : Jvm.MethodName) jdk_52_method_4_code (3 : Nat) (Option.none : Option Jvm.ClassFile.FieldType), Jvm.Cond.code ({ cls := "java/lang/StringUTF16", name := "getChar", desc := "([BI)C" } : Jvm.MethodName) jdk_52_method_5_code (2 : Nat) (Option.some Jvm.ClassFile.FieldType.char), Jvm.Cond.code ({ cls := "java/lang/StringUTF16", name := "indexOf", desc := "([BIII)I" } : Jvm.MethodName) jdk_52_method_40_code (4 : Nat) (Option.some Jvm.ClassFile.FieldType.int), Jvm.Cond.code ({ cls := "java/lang/StringUTF16", name := "indexOfChar", desc := "([BIII)I" } : Jvm.MethodName) jdk_52_method_47_code (4 : Nat) (Option.some Jvm.ClassFile.FieldType.int), Jvm.Cond.code ({ cls := "java/lang/StringUTF16", name := "checkBoundsBeginEnd", desc := "(II[B)V" } : Jvm.MethodName) jdk_52_method_93_code (3 : Nat) (Option.none : Option Jvm.ClassFile.FieldType), Jvm.Cond.code ({ cls := "java/lang/StringUTF16", name := "length", desc := "([B)I" } : Jvm.MethodName) jdk_52_method_6_code (1 : Nat) (Option.some Jvm.ClassFile.FieldType.int), Jvm.Cond.code ({ cls := "java/lang/String", name := "checkBoundsBeginEnd", desc := "(III)V" } : Jvm.MethodName) jdk_42_method_158_code (3 : Nat) (Option.none : Option Jvm.ClassFile.FieldType), Jvm.Cond.code ({ cls := "jdk/internal/util/Preconditions", name := "checkFromToIndex", desc := "(IIILjava/util/function/BiFunction;)I" } : Jvm.MethodName) jdk_41_method_12_code (4 : Nat) (Option.some Jvm.ClassFile.FieldType.int), Jvm.Cond.code ({ cls := "java/lang/StringUTF16", name := "indexOfCharUnsafe", desc := "([BIII)I" } : Jvm.MethodName) jdk_52_method_48_code (5 : Nat) (Option.some Jvm.ClassFile.FieldType.int), Jvm.Cond.code ({ cls := "java/lang/StringUTF16", name := "toBytes", desc := "(C)[B" } : Jvm.MethodName) jdk_52_method_24_code (2 : Nat) (Option.some (Jvm.ClassFile.FieldType.array Jvm.ClassFile.FieldType.byte))]
set_option maxRecDepth 65536 in
theorem codes_eq : words1.filter isCode = codes1 := rfl
theorem w_codes : ∀ c ∈ words1.filter isCode, c.before args0 about1 = true := by
  rw [codes_eq]
  intro c hc
  simp only [codes1, List.mem_cons, List.not_mem_nil, or_false] at hc
  rcases hc with rfl | rfl | rfl | rfl | rfl | rfl | rfl | rfl | rfl | rfl | rfl | rfl | rfl | rfl | rfl | rfl | rfl | rfl | rfl | rfl | rfl | rfl | rfl | rfl | rfl | rfl | rfl | rfl | rfl | rfl | rfl | rfl | rfl | rfl | rfl | rfl | rfl | rfl | rfl | rfl
  · exact w_c0
  · exact w_c1
  · exact w_c2
  · exact w_c3
  · exact w_c4
  · exact w_c5
  · exact w_c6
  · exact w_c7
  · exact w_c8
  · exact w_c9
  · exact w_c10
  · exact w_c11
  · exact w_c12
  · exact w_c13
  · exact w_c14
  · exact w_c15
  · exact w_c16
  · exact w_c17
  · exact w_c18
  · exact w_c19
  · exact w_c20
  · exact w_c21
  · exact w_c22
  · exact w_c23
  · exact w_c24
  · exact w_c25
  · exact w_c26
  · exact w_c27
  · exact w_c28
  · exact w_c29
  · exact w_c30
  · exact w_c31
  · exact w_c32
  · exact w_c33
  · exact w_c34
  · exact w_c35
  · exact w_c36
  · exact w_c37
  · exact w_c38
  · exact w_c39
set_option maxRecDepth 65536 in
theorem w_t1 : (words1.take 24).all (fun c => isCode c || c.before args0 about1) = true := by decide +kernel
set_option maxRecDepth 65536 in
theorem w_t2 : ((words1.drop 24).take 24).all (fun c => isCode c || c.before args0 about1) = true := by decide +kernel
set_option maxRecDepth 65536 in
theorem w_t3 : (((words1.drop 24).drop 24).take 24).all (fun c => isCode c || c.before args0 about1) = true := by decide +kernel
set_option maxRecDepth 65536 in
theorem w_t4 : ((((words1.drop 24).drop 24).drop 24).take 24).all (fun c => isCode c || c.before args0 about1) = true := by decide +kernel
set_option maxRecDepth 65536 in
theorem w_t5 : (((((words1.drop 24).drop 24).drop 24).drop 24).take 24).all (fun c => isCode c || c.before args0 about1) = true := by decide +kernel
set_option maxRecDepth 65536 in
theorem w_t6 : ((((((words1.drop 24).drop 24).drop 24).drop 24).drop 24).take 24).all (fun c => isCode c || c.before args0 about1) = true := by decide +kernel
set_option maxRecDepth 65536 in
theorem w_t7 : ((((((words1.drop 24).drop 24).drop 24).drop 24).drop 24).drop 24).all (fun c => isCode c || c.before args0 about1) = true := by decide +kernel
theorem w_tables : (allAtoms (Jvm.Cond.code x code maxLocals ret :: tables_1)).before args0 about1 = true := by
  rw [allAtoms_all]
  show words1.all (fun c => c.before args0 about1) = true
  refine all_split ?_ w_codes
  rw [← List.take_append_drop 24 words1, List.all_append, w_t1, ← List.take_append_drop 24 (words1.drop 24), List.all_append, w_t2, ← List.take_append_drop 24 ((words1.drop 24).drop 24), List.all_append, w_t3, ← List.take_append_drop 24 (((words1.drop 24).drop 24).drop 24), List.all_append, w_t4, ← List.take_append_drop 24 ((((words1.drop 24).drop 24).drop 24).drop 24), List.all_append, w_t5, ← List.take_append_drop 24 (((((words1.drop 24).drop 24).drop 24).drop 24).drop 24), List.all_append, w_t6, w_t7]
  rfl
set_option maxRecDepth 65536 in
theorem w_rest : rest_1_c.before args0 about1 = true := by decide +kernel
set_option maxRecDepth 65536 in
theorem w_case : (Jvm.Cond.and given_1 narrow_1).before args0 about1 = true := by decide +kernel
set_option maxRecDepth 65536 in
theorem w_consts : constsHeld consts_1 about1 := Jvm.Lit.constsHeldB_iff.mp (by decide +kernel)
theorem w_applies : (headSpec (Jvm.Cond.code x code maxLocals ret :: tables_1) room_1).applies x e0.platform about1 = true :=
  (Spec.applies_iff w_frames).mpr ⟨w_running, w_runnable, w_alone, w_named, w_hears, w_ripe, w_room, w_tables⟩
theorem atStart : AtStart classFile x code maxLocals ret World_1 tables_1 room_1 Calls_1 rest_1 Pre_1 launch0 p0 e0 about1 theMethod args0 below0 :=
  ⟨lists_1, trivial, launch0.admits_env _ _ _, launch0.least_env, fairChoices_fair.cas, fairChoices_fair.clock, w_frames, w_args, w_heap, w_applies, ⟨w_consts, trivial⟩, w_rest, w_case⟩
end start1
theorem witness_1 : WitnessClaimed_1 := ⟨start1.p0, start1.e0, start1.about1, start1.theMethod, start1.args0, start1.below0, start1.atStart⟩
end Jvm.Pilot.@@N@@
