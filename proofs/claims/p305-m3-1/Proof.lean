import JvmDerived
import JvmDerived.Pilot.@@N@@Statement
import JvmDerived.Pilot.@@N@@Code
set_option linter.unusedVariables false
set_option linter.unusedSimpArgs false
namespace Jvm.GoKit
open Sem ClassFile Op Lib Jvm.Stand Jvm.Free Jvm.LawKit Jvm.RoadKit
/-! my own layer: a body's run in continuation style, over the library's Stand laws -/
def Val (P : Value → Heap → Prop) (v : Option Value) (h : Heap) : Prop := ∃ w, v = some w ∧ P w h
def Vd (P : Heap → Prop) (v : Option Value) (h : Heap) : Prop := v = none ∧ P h
def PV (w : Value) (h0 : Heap) (w' : Value) (h : Heap) : Prop := w = w' ∧ h0 = h
def Ctx (Z : State) (own : String) (code : ByteArray) (maxL : Nat) (ret : Option FieldType) (nm : String) (p : Program) (s : State) (m : MethodId) (meth : Method) (c : Code) : Prop :=
  p.tables.exec = Jvm.exec ∧ Z.Warmed39 s.vm ∧ s.vm.findClass own = some m.cls ∧ c.code = code ∧ c.maxLocals = maxL ∧ meth.sig.returnType = ret ∧ meth.locks = false ∧ meth.name = nm
def Go (p : Program) (e : Env) (below : List Frame) (s : State) (n0 K N : Nat) (Q : Option Value → Heap → Prop) (S : State) : Prop :=
  ∃ s₂ v L, Steps p.tables e below S s₂ ∧ s₂.status = .running ∧ Ended s₂ below (.returned v) ∧ (Q v s₂.heap ∧ Fr n0 L) ∧ FrameEnd s (.returned v) s₂ L K N
def Run (l : Launch) (Z : State) (n0 : Nat) (own : String) (code : ByteArray) (maxL : Nat) (ret : Option FieldType) (nm : String) (R : Room) (Q : Option Value → Heap → Prop) (pc : Nat) (Ls : Array Slot) (st : List Value) (h : Heap) (k n : Nat) : Prop :=
  ∀ (p : Program) (e : Env) (s : State) (m : MethodId) (args : Array Value) (below : List Frame) (meth : Method) (c : Code) (T : State) (locs : List Loc) (cells slots : Nat),
    Ctx Z own code maxL ret nm p s m meth c → Stand p l e R s m args below meth c T locs cells slots → T.heap = h → Fr n0 locs → cells ≤ k → slots ≤ n →
    Go p e below s n0 R.cells R.slots Q (T.setTop (mkF m pc Ls st))
def Con (l : Launch) (Z : State) (n0 : Nat) (y : MethodName) (bytes : ByteArray) (maxL : Nat) (ret : Option FieldType) (rm : Room) (as : Array Value) (h : Heap) (Q : Option Value → Heap → Prop) : Prop :=
  ∀ ws, MetFree l y (head1 (Cond.code y bytes maxL ret :: ws) rm) (fun a U => a = as ∧ Z.Warmed39 U.vm ∧ U.heap = h) (fun _ _ _ _ _ => True) (fun _ U o U' => ∃ v L, o = .returned v ∧ (Q v U'.heap ∧ Fr n0 L) ∧ FrameEnd U o U' L rm.cells rm.slots)
theorem Con.of_run {l : Launch} {Z : State} {n0 : Nat} {y : MethodName} {bytes : ByteArray} {maxL : Nat} {ret : Option FieldType} {rm : Room} {as : Array Value} {h : Heap} {Q : Option Value → Heap → Prop} {Ls : Array Slot}
    (hp : plainFor y = true) (he : ∀ m, entryFrame m as maxL = mkF m 0 Ls []) (run : Run l Z n0 y.cls bytes maxL ret y.name rm Q 0 Ls [] h 0 0) : Con l Z n0 y bytes maxL ret rm as h Q := by
  intro ws
  refine MetFree.of_bodySF hp hisR ?_
  intro p e s m args below meth c s₁ Bd hml0 hP hK
  obtain ⟨rfl, hZ, hh⟩ := hP
  obtain ⟨s₂, v, L, h1, h2, h3, h4, h5⟩ := run p e s m _ below meth c s₁ [] 0 0 ⟨Bd.exec, hZ, findClass_of_methodNamed Bd.named, Bd.bytes, hml0, Bd.returns, Bd.notSynchronized, (name_of_methodNamed Bd.named Bd.method).1⟩ (Stand.of_body Bd) (by rw [← hh, Bd.state]; rfl) (Fr.nil _) (Nat.zero_le _) (Nat.zero_le _)
  exact ⟨s₂, _, castTop (he m) h1, h2, h3, v, L, rfl, h4, h5⟩
theorem Con.mono {l : Launch} {Z : State} {n0 : Nat} {y : MethodName} {bytes : ByteArray} {maxL : Nat} {ret : Option FieldType} {rm : Room} {as : Array Value} {h : Heap} {Q Q' : Option Value → Heap → Prop}
    (H : Con l Z n0 y bytes maxL ret rm as h Q) (q : ∀ v h', Q v h' → Q' v h') : Con l Z n0 y bytes maxL ret rm as h Q' := by
  intro ws p e ha hc hk s m args below hf happ hP hK
  obtain ⟨n, o, h1, h2, h3, v, L, h4, h5, h6⟩ := H ws p e ha hc hk s m args below hf happ hP hK
  exact ⟨n, o, h1, h2, h3, v, L, h4, ⟨q _ _ h5.1, h5.2⟩, h6⟩
section Walk
variable {l : Launch} {Z : State} {n0 : Nat} {own : String} {code : ByteArray} {maxL : Nat} {ret : Option FieldType} {nm : String} {R : Room} {Q : Option Value → Heap → Prop} {pc pc' : Nat} {Ls : Array Slot} {st : List Value} {h : Heap} {k n k' n' : Nat}
theorem Run.via {Ls' : Array Slot} {st' : List Value} (f : ∀ (p : Program) (e : Env) (s : State) (m : MethodId) (args : Array Value) (below : List Frame) (meth : Method) (c : Code) (T : State) (locs : List Loc) (cells slots : Nat),
      Ctx Z own code maxL ret nm p s m meth c → Stand p l e R s m args below meth c T locs cells slots → T.heap = h → ∃ T', Stand p l e R s m args below meth c T' locs cells slots ∧ T'.heap = h ∧ ∀ t, Steps p.tables e below (T'.setTop (mkF m pc' Ls' st')) t → Steps p.tables e below (T.setTop (mkF m pc Ls st)) t)
    (nxt : Run l Z n0 own code maxL ret nm R Q pc' Ls' st' h k n) : Run l Z n0 own code maxL ret nm R Q pc Ls st h k n := by
  intro p e s m args below meth c T locs cells slots hC X eT hF hk hn
  obtain ⟨T', X', e', stp⟩ := f p e s m args below meth c T locs cells slots hC X eT
  obtain ⟨s₂, v, L, g1, g2⟩ := nxt p e s m args below meth c T' locs cells slots hC X' e' hF hk hn
  exact ⟨s₂, v, L, stp _ g1, g2⟩
theorem Run.stp {Ls' : Array Slot} {st' : List Value} (f : ∀ (p : Program) (e : Env) (below : List Frame) (T : State) (m : MethodId) (c : Code) (t : State), At T m c below → p.tables.exec = Jvm.exec → c.code = code → Steps p.tables e below (T.setTop (mkF m pc' Ls' st')) t → Steps p.tables e below (T.setTop (mkF m pc Ls st)) t)
    (nxt : Run l Z n0 own code maxL ret nm R Q pc' Ls' st' h k n) : Run l Z n0 own code maxL ret nm R Q pc Ls st h k n :=
  Run.via (fun p e s m args below meth c T locs cells slots hC X eT => ⟨T, X, eT, fun t q => f p e below T m c t X.here hC.1 hC.2.2.2.1 q⟩) nxt
theorem Run.more {ka na : Nat} (nxt : Run l Z n0 own code maxL ret nm R Q pc Ls st h k n) (h1 : ka ≤ k) (h2 : na ≤ n) : Run l Z n0 own code maxL ret nm R Q pc Ls st h ka na :=
  fun p e s m args below meth c T locs cells slots hC X eT hF hk hn => nxt p e s m args below meth c T locs cells slots hC X eT hF (Nat.le_trans hk h1) (Nat.le_trans hn h2)

theorem Run.iloadN {x : Fin 4} {v : Int32} (hd : decode code pc = .ok (.iload_n x, 1)) (hl : Ls[x.val]? = some (.val (.int v))) (hp : pc + 1 = pc') (nxt : Run l Z n0 own code maxL ret nm R Q pc' Ls (.int v :: st) h k n) : Run l Z n0 own code maxL ret nm R Q pc Ls st h k n := by
  subst hp
  exact Run.stp (fun p e below T m c t hA hx hc q => XS.iloadN hA hx rfl (hb hc hd) hl q) nxt
theorem Run.iload {x : Nat} {v : Int32} (hd : decode code pc = .ok (.iload x, 2)) (hl : Ls[x]? = some (.val (.int v))) (hp : pc + 2 = pc') (nxt : Run l Z n0 own code maxL ret nm R Q pc' Ls (.int v :: st) h k n) : Run l Z n0 own code maxL ret nm R Q pc Ls st h k n := by
  subst hp
  exact Run.stp (fun p e below T m c t hA hx hc q => XS.iload hA hx rfl (hb hc hd) hl q) nxt
theorem Run.lloadN {x : Fin 4} {v : Int64} (hd : decode code pc = .ok (.lload_n x, 1)) (hl : Ls[x.val]? = some (.val (.long v))) (hp : pc + 1 = pc') (nxt : Run l Z n0 own code maxL ret nm R Q pc' Ls (.long v :: st) h k n) : Run l Z n0 own code maxL ret nm R Q pc Ls st h k n := by
  subst hp
  exact Run.stp (fun p e below T m c t hA hx hc q => XT.lloadN hA hx rfl (hb hc hd) hl q) nxt
theorem Run.lload {x : Nat} {v : Int64} (hd : decode code pc = .ok (.lload x, 2)) (hl : Ls[x]? = some (.val (.long v))) (hp : pc + 2 = pc') (nxt : Run l Z n0 own code maxL ret nm R Q pc' Ls (.long v :: st) h k n) : Run l Z n0 own code maxL ret nm R Q pc Ls st h k n := by
  subst hp
  exact Run.stp (fun p e below T m c t hA hx hc q => XT.lload hA hx rfl (hb hc hd) hl q) nxt
theorem Run.aloadN {x : Fin 4} {v : Value} (hd : decode code pc = .ok (.aload_n x, 1)) (hl : Ls[x.val]? = some (.val v)) (hv : v.isRef = true) (hp : pc + 1 = pc') (nxt : Run l Z n0 own code maxL ret nm R Q pc' Ls (v :: st) h k n) : Run l Z n0 own code maxL ret nm R Q pc Ls st h k n := by
  subst hp
  exact Run.stp (fun p e below T m c t hA hx hc q => XS.aloadN hA hx rfl (hb hc hd) hl hv q) nxt
theorem Run.aload {x : Nat} {v : Value} (hd : decode code pc = .ok (.aload x, 2)) (hl : Ls[x]? = some (.val v)) (hv : v.isRef = true) (hp : pc + 2 = pc') (nxt : Run l Z n0 own code maxL ret nm R Q pc' Ls (v :: st) h k n) : Run l Z n0 own code maxL ret nm R Q pc Ls st h k n := by
  subst hp
  exact Run.stp (fun p e below T m c t hA hx hc q => XS.aload hA hx rfl (hb hc hd) hl hv q) nxt
theorem Run.iconst {i : Int} (v : Int32) (hd : decode code pc = .ok (.iconst i, 1)) (hv : Int32.ofInt i = v) (hp : pc + 1 = pc') (nxt : Run l Z n0 own code maxL ret nm R Q pc' Ls (.int v :: st) h k n) : Run l Z n0 own code maxL ret nm R Q pc Ls st h k n := by
  subst hp
  exact Run.stp (fun p e below T m c t hA hx hc q => XT.iconstV hA hx rfl v (hb hc hd) hv q) nxt
theorem Run.bipush {i : Int} (v : Int32) (hd : decode code pc = .ok (.bipush i, 2)) (hv : (Int8.ofInt i).toInt32 = v) (hp : pc + 2 = pc') (nxt : Run l Z n0 own code maxL ret nm R Q pc' Ls (.int v :: st) h k n) : Run l Z n0 own code maxL ret nm R Q pc Ls st h k n := by
  subst hp
  exact Run.stp (fun p e below T m c t hA hx hc q => XT.bipushV hA hx rfl v (hb hc hd) hv q) nxt
theorem Run.sipush {i : Int} (v : Int32) (hd : decode code pc = .ok (.sipush i, 3)) (hv : (Int16.ofInt i).toInt32 = v) (hp : pc + 3 = pc') (nxt : Run l Z n0 own code maxL ret nm R Q pc' Ls (.int v :: st) h k n) : Run l Z n0 own code maxL ret nm R Q pc Ls st h k n := by
  subst hp
  exact Run.stp (fun p e below T m c t hA hx hc q => XT.sipushV hA hx rfl v (hb hc hd) hv q) nxt
theorem Run.lconst {i : Fin 2} (v : Int64) (hd : decode code pc = .ok (.lconst i, 1)) (hv : Int64.ofNat i = v) (hp : pc + 1 = pc') (nxt : Run l Z n0 own code maxL ret nm R Q pc' Ls (.long v :: st) h k n) : Run l Z n0 own code maxL ret nm R Q pc Ls st h k n := by
  subst hp
  exact Run.stp (fun p e below T m c t hA hx hc q => XT.lconstV hA hx rfl v (hb hc hd) hv q) nxt
theorem Run.aconst  (hd : decode code pc = .ok (.aconst_null, 1))  (hp : pc + 1 = pc') (nxt : Run l Z n0 own code maxL ret nm R Q pc' Ls (.null :: st) h k n) : Run l Z n0 own code maxL ret nm R Q pc Ls st h k n := by
  subst hp
  exact Run.stp (fun p e below T m c t hA hx hc q => XS.aconstNull hA hx rfl (hb hc hd) q) nxt
theorem Run.istoreN {x : Fin 4} {v : Int32} (l' : Array Slot) (hd : decode code pc = .ok (.istore_n x, 1)) (hl : storeLocals Ls x.val (.int v) = some l') (hp : pc + 1 = pc') (nxt : Run l Z n0 own code maxL ret nm R Q pc' l' st h k n) : Run l Z n0 own code maxL ret nm R Q pc Ls (.int v :: st) h k n := by
  subst hp
  exact Run.stp (fun p e below T m c t hA hx hc q => XS.istoreN hA hx rfl (hb hc hd) rfl hl q) nxt
theorem Run.istore {x : Nat} {v : Int32} (l' : Array Slot) (hd : decode code pc = .ok (.istore x, 2)) (hl : storeLocals Ls x (.int v) = some l') (hp : pc + 2 = pc') (nxt : Run l Z n0 own code maxL ret nm R Q pc' l' st h k n) : Run l Z n0 own code maxL ret nm R Q pc Ls (.int v :: st) h k n := by
  subst hp
  exact Run.stp (fun p e below T m c t hA hx hc q => XS.istore hA hx rfl (hb hc hd) rfl hl q) nxt
theorem Run.lstoreN {x : Fin 4} {v : Int64} (l' : Array Slot) (hd : decode code pc = .ok (.lstore_n x, 1)) (hl : storeLocals Ls x.val (.long v) = some l') (hp : pc + 1 = pc') (nxt : Run l Z n0 own code maxL ret nm R Q pc' l' st h k n) : Run l Z n0 own code maxL ret nm R Q pc Ls (.long v :: st) h k n := by
  subst hp
  exact Run.stp (fun p e below T m c t hA hx hc q => XT.lstoreN hA hx rfl (hb hc hd) rfl hl q) nxt
theorem Run.lstore {x : Nat} {v : Int64} (l' : Array Slot) (hd : decode code pc = .ok (.lstore x, 2)) (hl : storeLocals Ls x (.long v) = some l') (hp : pc + 2 = pc') (nxt : Run l Z n0 own code maxL ret nm R Q pc' l' st h k n) : Run l Z n0 own code maxL ret nm R Q pc Ls (.long v :: st) h k n := by
  subst hp
  exact Run.stp (fun p e below T m c t hA hx hc q => XT.lstore hA hx rfl (hb hc hd) rfl hl q) nxt
theorem Run.astoreN {x : Fin 4} {v : Value} (l' : Array Slot) (hd : decode code pc = .ok (.astore_n x, 1)) (hv : v.isRef = true) (hl : storeLocals Ls x.val v = some l') (hp : pc + 1 = pc') (nxt : Run l Z n0 own code maxL ret nm R Q pc' l' st h k n) : Run l Z n0 own code maxL ret nm R Q pc Ls (v :: st) h k n := by
  subst hp
  exact Run.stp (fun p e below T m c t hA hx hc q => XS.astoreN hA hx rfl (hb hc hd) rfl hv hl q) nxt
theorem Run.astore {x : Nat} {v : Value} (l' : Array Slot) (hd : decode code pc = .ok (.astore x, 2)) (hv : v.isRef = true) (hl : storeLocals Ls x v = some l') (hp : pc + 2 = pc') (nxt : Run l Z n0 own code maxL ret nm R Q pc' l' st h k n) : Run l Z n0 own code maxL ret nm R Q pc Ls (v :: st) h k n := by
  subst hp
  exact Run.stp (fun p e below T m c t hA hx hc q => XS.astore hA hx rfl (hb hc hd) rfl hv hl q) nxt
theorem Run.iinc {x : Nat} {i : Int} {u : Int32} (v : Int32) (l' : Array Slot) (hd : decode code pc = .ok (.iinc x i, 3)) (hv : Int32.ofInt i = v) (hg : Ls[x]? = some (.val (.int u))) (hl : storeLocals Ls x (.int (u + v)) = some l') (hp : pc + 3 = pc') (nxt : Run l Z n0 own code maxL ret nm R Q pc' l' st h k n) : Run l Z n0 own code maxL ret nm R Q pc Ls st h k n := by
  subst hp
  exact Run.stp (fun p e below T m c t hA hx hc q => XT.iincV hA hx rfl v (hb hc hd) hv hg hl q) nxt
theorem Run.iadd {x y : Int32} (hd : decode code pc = .ok (.iadd, 1))  (hp : pc + 1 = pc') (nxt : Run l Z n0 own code maxL ret nm R Q pc' Ls (.int (x + y) :: st) h k n) : Run l Z n0 own code maxL ret nm R Q pc Ls (.int y :: .int x :: st) h k n := by
  subst hp
  exact Run.stp (fun p e below T m c t hA hx hc q => XS.iadd hA hx rfl (hb hc hd) rfl q) nxt
theorem Run.isub {x y : Int32} (hd : decode code pc = .ok (.isub, 1))  (hp : pc + 1 = pc') (nxt : Run l Z n0 own code maxL ret nm R Q pc' Ls (.int (x - y) :: st) h k n) : Run l Z n0 own code maxL ret nm R Q pc Ls (.int y :: .int x :: st) h k n := by
  subst hp
  exact Run.stp (fun p e below T m c t hA hx hc q => XS.isub hA hx rfl (hb hc hd) rfl q) nxt
theorem Run.imul {x y : Int32} (hd : decode code pc = .ok (.imul, 1))  (hp : pc + 1 = pc') (nxt : Run l Z n0 own code maxL ret nm R Q pc' Ls (.int (x * y) :: st) h k n) : Run l Z n0 own code maxL ret nm R Q pc Ls (.int y :: .int x :: st) h k n := by
  subst hp
  exact Run.stp (fun p e below T m c t hA hx hc q => XS.imul hA hx rfl (hb hc hd) rfl q) nxt
theorem Run.iand {x y : Int32} (hd : decode code pc = .ok (.iand, 1))  (hp : pc + 1 = pc') (nxt : Run l Z n0 own code maxL ret nm R Q pc' Ls (.int (x &&& y) :: st) h k n) : Run l Z n0 own code maxL ret nm R Q pc Ls (.int y :: .int x :: st) h k n := by
  subst hp
  exact Run.stp (fun p e below T m c t hA hx hc q => XS.iand hA hx rfl (hb hc hd) rfl q) nxt
theorem Run.ior {x y : Int32} (hd : decode code pc = .ok (.ior, 1))  (hp : pc + 1 = pc') (nxt : Run l Z n0 own code maxL ret nm R Q pc' Ls (.int (x ||| y) :: st) h k n) : Run l Z n0 own code maxL ret nm R Q pc Ls (.int y :: .int x :: st) h k n := by
  subst hp
  exact Run.stp (fun p e below T m c t hA hx hc q => XT.ior hA hx rfl (hb hc hd) rfl q) nxt
theorem Run.ixor {x y : Int32} (hd : decode code pc = .ok (.ixor, 1))  (hp : pc + 1 = pc') (nxt : Run l Z n0 own code maxL ret nm R Q pc' Ls (.int (x ^^^ y) :: st) h k n) : Run l Z n0 own code maxL ret nm R Q pc Ls (.int y :: .int x :: st) h k n := by
  subst hp
  exact Run.stp (fun p e below T m c t hA hx hc q => XT.ixor hA hx rfl (hb hc hd) rfl q) nxt
theorem Run.ishl {x y : Int32} (hd : decode code pc = .ok (.ishl, 1))  (hp : pc + 1 = pc') (nxt : Run l Z n0 own code maxL ret nm R Q pc' Ls (.int (x <<< (y &&& 31)) :: st) h k n) : Run l Z n0 own code maxL ret nm R Q pc Ls (.int y :: .int x :: st) h k n := by
  subst hp
  exact Run.stp (fun p e below T m c t hA hx hc q => XT.ishl hA hx rfl (hb hc hd) rfl q) nxt
theorem Run.ishr {x y : Int32} (hd : decode code pc = .ok (.ishr, 1))  (hp : pc + 1 = pc') (nxt : Run l Z n0 own code maxL ret nm R Q pc' Ls (.int (x >>> (y &&& 31)) :: st) h k n) : Run l Z n0 own code maxL ret nm R Q pc Ls (.int y :: .int x :: st) h k n := by
  subst hp
  exact Run.stp (fun p e below T m c t hA hx hc q => XT.ishr hA hx rfl (hb hc hd) rfl q) nxt
theorem Run.iushr {x y : Int32} (hd : decode code pc = .ok (.iushr, 1))  (hp : pc + 1 = pc') (nxt : Run l Z n0 own code maxL ret nm R Q pc' Ls (.int (XT.ushr x y) :: st) h k n) : Run l Z n0 own code maxL ret nm R Q pc Ls (.int y :: .int x :: st) h k n := by
  subst hp
  exact Run.stp (fun p e below T m c t hA hx hc q => XT.iushr hA hx rfl (hb hc hd) rfl q) nxt
theorem Run.ladd {x y : Int64} (hd : decode code pc = .ok (.ladd, 1))  (hp : pc + 1 = pc') (nxt : Run l Z n0 own code maxL ret nm R Q pc' Ls (.long (x + y) :: st) h k n) : Run l Z n0 own code maxL ret nm R Q pc Ls (.long y :: .long x :: st) h k n := by
  subst hp
  exact Run.stp (fun p e below T m c t hA hx hc q => XT.ladd hA hx rfl (hb hc hd) rfl q) nxt
theorem Run.lsub {x y : Int64} (hd : decode code pc = .ok (.lsub, 1))  (hp : pc + 1 = pc') (nxt : Run l Z n0 own code maxL ret nm R Q pc' Ls (.long (x - y) :: st) h k n) : Run l Z n0 own code maxL ret nm R Q pc Ls (.long y :: .long x :: st) h k n := by
  subst hp
  exact Run.stp (fun p e below T m c t hA hx hc q => XT.lsub hA hx rfl (hb hc hd) rfl q) nxt
theorem Run.lmul {x y : Int64} (hd : decode code pc = .ok (.lmul, 1))  (hp : pc + 1 = pc') (nxt : Run l Z n0 own code maxL ret nm R Q pc' Ls (.long (x * y) :: st) h k n) : Run l Z n0 own code maxL ret nm R Q pc Ls (.long y :: .long x :: st) h k n := by
  subst hp
  exact Run.stp (fun p e below T m c t hA hx hc q => XT.lmul hA hx rfl (hb hc hd) rfl q) nxt
theorem Run.land {x y : Int64} (hd : decode code pc = .ok (.land, 1))  (hp : pc + 1 = pc') (nxt : Run l Z n0 own code maxL ret nm R Q pc' Ls (.long (x &&& y) :: st) h k n) : Run l Z n0 own code maxL ret nm R Q pc Ls (.long y :: .long x :: st) h k n := by
  subst hp
  exact Run.stp (fun p e below T m c t hA hx hc q => XT.land hA hx rfl (hb hc hd) rfl q) nxt
theorem Run.lor {x y : Int64} (hd : decode code pc = .ok (.lor, 1))  (hp : pc + 1 = pc') (nxt : Run l Z n0 own code maxL ret nm R Q pc' Ls (.long (x ||| y) :: st) h k n) : Run l Z n0 own code maxL ret nm R Q pc Ls (.long y :: .long x :: st) h k n := by
  subst hp
  exact Run.stp (fun p e below T m c t hA hx hc q => XT.lor hA hx rfl (hb hc hd) rfl q) nxt
theorem Run.lxor {x y : Int64} (hd : decode code pc = .ok (.lxor, 1))  (hp : pc + 1 = pc') (nxt : Run l Z n0 own code maxL ret nm R Q pc' Ls (.long (x ^^^ y) :: st) h k n) : Run l Z n0 own code maxL ret nm R Q pc Ls (.long y :: .long x :: st) h k n := by
  subst hp
  exact Run.stp (fun p e below T m c t hA hx hc q => XT.lxor hA hx rfl (hb hc hd) rfl q) nxt
theorem Run.idiv {x y : Int32} (hd : decode code pc = .ok (.idiv, 1)) (hy : y ≠ 0) (hp : pc + 1 = pc') (nxt : Run l Z n0 own code maxL ret nm R Q pc' Ls (.int (x / y) :: st) h k n) : Run l Z n0 own code maxL ret nm R Q pc Ls (.int y :: .int x :: st) h k n := by
  subst hp
  exact Run.stp (fun p e below T m c t hA hx hc q => XS.idiv hA hx rfl (hb hc hd) rfl hy q) nxt
theorem Run.irem {x y : Int32} (hd : decode code pc = .ok (.irem, 1)) (hy : y ≠ 0) (hp : pc + 1 = pc') (nxt : Run l Z n0 own code maxL ret nm R Q pc' Ls (.int (x % y) :: st) h k n) : Run l Z n0 own code maxL ret nm R Q pc Ls (.int y :: .int x :: st) h k n := by
  subst hp
  exact Run.stp (fun p e below T m c t hA hx hc q => XS.irem hA hx rfl (hb hc hd) rfl hy (by rw [irem_eq_mod]; exact q)) nxt
theorem Run.ldiv {x y : Int64} (hd : decode code pc = .ok (.ldiv, 1)) (hy : y ≠ 0) (hp : pc + 1 = pc') (nxt : Run l Z n0 own code maxL ret nm R Q pc' Ls (.long (x / y) :: st) h k n) : Run l Z n0 own code maxL ret nm R Q pc Ls (.long y :: .long x :: st) h k n := by
  subst hp
  exact Run.stp (fun p e below T m c t hA hx hc q => XT.ldiv hA hx rfl (hb hc hd) rfl hy q) nxt
theorem Run.lrem {x y : Int64} (hd : decode code pc = .ok (.lrem, 1)) (hy : y ≠ 0) (hp : pc + 1 = pc') (nxt : Run l Z n0 own code maxL ret nm R Q pc' Ls (.long (x % y) :: st) h k n) : Run l Z n0 own code maxL ret nm R Q pc Ls (.long y :: .long x :: st) h k n := by
  subst hp
  exact Run.stp (fun p e below T m c t hA hx hc q => XT.lrem hA hx rfl (hb hc hd) rfl hy (by rw [lrem_mod]; exact q)) nxt
theorem Run.ineg {x : Int32} (hd : decode code pc = .ok (.ineg, 1))  (hp : pc + 1 = pc') (nxt : Run l Z n0 own code maxL ret nm R Q pc' Ls (.int (-x) :: st) h k n) : Run l Z n0 own code maxL ret nm R Q pc Ls (.int x :: st) h k n := by
  subst hp
  exact Run.stp (fun p e below T m c t hA hx hc q => XS.ineg hA hx rfl (hb hc hd) rfl q) nxt
theorem Run.lneg {x : Int64} (hd : decode code pc = .ok (.lneg, 1))  (hp : pc + 1 = pc') (nxt : Run l Z n0 own code maxL ret nm R Q pc' Ls (.long (-x) :: st) h k n) : Run l Z n0 own code maxL ret nm R Q pc Ls (.long x :: st) h k n := by
  subst hp
  exact Run.stp (fun p e below T m c t hA hx hc q => XT.lneg hA hx rfl (hb hc hd) rfl q) nxt
theorem Run.i2l {x : Int32} (hd : decode code pc = .ok (.i2l, 1))  (hp : pc + 1 = pc') (nxt : Run l Z n0 own code maxL ret nm R Q pc' Ls (.long x.toInt64 :: st) h k n) : Run l Z n0 own code maxL ret nm R Q pc Ls (.int x :: st) h k n := by
  subst hp
  exact Run.stp (fun p e below T m c t hA hx hc q => XT.i2l hA hx rfl (hb hc hd) rfl q) nxt
theorem Run.l2i {x : Int64} (hd : decode code pc = .ok (.l2i, 1))  (hp : pc + 1 = pc') (nxt : Run l Z n0 own code maxL ret nm R Q pc' Ls (.int x.toInt32 :: st) h k n) : Run l Z n0 own code maxL ret nm R Q pc Ls (.long x :: st) h k n := by
  subst hp
  exact Run.stp (fun p e below T m c t hA hx hc q => XT.l2i hA hx rfl (hb hc hd) rfl q) nxt
theorem Run.i2b {x : Int32} (hd : decode code pc = .ok (.i2b, 1))  (hp : pc + 1 = pc') (nxt : Run l Z n0 own code maxL ret nm R Q pc' Ls (.int (nar .byte x) :: st) h k n) : Run l Z n0 own code maxL ret nm R Q pc Ls (.int x :: st) h k n := by
  subst hp
  exact Run.stp (fun p e below T m c t hA hx hc q => XT.i2b hA hx rfl (hb hc hd) rfl q) nxt
theorem Run.i2c {x : Int32} (hd : decode code pc = .ok (.i2c, 1))  (hp : pc + 1 = pc') (nxt : Run l Z n0 own code maxL ret nm R Q pc' Ls (.int (nar .char x) :: st) h k n) : Run l Z n0 own code maxL ret nm R Q pc Ls (.int x :: st) h k n := by
  subst hp
  exact Run.stp (fun p e below T m c t hA hx hc q => XT.i2c hA hx rfl (hb hc hd) rfl q) nxt
theorem Run.i2s {x : Int32} (hd : decode code pc = .ok (.i2s, 1))  (hp : pc + 1 = pc') (nxt : Run l Z n0 own code maxL ret nm R Q pc' Ls (.int (nar .short x) :: st) h k n) : Run l Z n0 own code maxL ret nm R Q pc Ls (.int x :: st) h k n := by
  subst hp
  exact Run.stp (fun p e below T m c t hA hx hc q => XT.i2s hA hx rfl (hb hc hd) rfl q) nxt
theorem Run.lshl {x : Int64} {y : Int32} (hd : decode code pc = .ok (.lshl, 1))  (hp : pc + 1 = pc') (nxt : Run l Z n0 own code maxL ret nm R Q pc' Ls (.long (x <<< (y.toInt64 &&& 63)) :: st) h k n) : Run l Z n0 own code maxL ret nm R Q pc Ls (.int y :: .long x :: st) h k n := by
  subst hp
  exact Run.stp (fun p e below T m c t hA hx hc q => XT.lshl hA hx rfl (hb hc hd) rfl q) nxt
theorem Run.lshr {x : Int64} {y : Int32} (hd : decode code pc = .ok (.lshr, 1))  (hp : pc + 1 = pc') (nxt : Run l Z n0 own code maxL ret nm R Q pc' Ls (.long (x >>> (y.toInt64 &&& 63)) :: st) h k n) : Run l Z n0 own code maxL ret nm R Q pc Ls (.int y :: .long x :: st) h k n := by
  subst hp
  exact Run.stp (fun p e below T m c t hA hx hc q => XT.lshr hA hx rfl (hb hc hd) rfl q) nxt
theorem Run.lushr {x : Int64} {y : Int32} (hd : decode code pc = .ok (.lushr, 1))  (hp : pc + 1 = pc') (nxt : Run l Z n0 own code maxL ret nm R Q pc' Ls (.long (XT.ushrL x y) :: st) h k n) : Run l Z n0 own code maxL ret nm R Q pc Ls (.int y :: .long x :: st) h k n := by
  subst hp
  exact Run.stp (fun p e below T m c t hA hx hc q => XT.lushr hA hx rfl (hb hc hd) rfl q) nxt
theorem Run.lcmp {x y : Int64} (hd : decode code pc = .ok (.lcmp, 1))  (hp : pc + 1 = pc') (nxt : Run l Z n0 own code maxL ret nm R Q pc' Ls (.int (XT.cmpL x y) :: st) h k n) : Run l Z n0 own code maxL ret nm R Q pc Ls (.long y :: .long x :: st) h k n := by
  subst hp
  exact Run.stp (fun p e below T m c t hA hx hc q => XT.lcmp hA hx rfl (hb hc hd) rfl q) nxt
theorem Run.dup {x : Value} (hd : decode code pc = .ok (.dup, 1)) (hv : x.category = 1) (hp : pc + 1 = pc') (nxt : Run l Z n0 own code maxL ret nm R Q pc' Ls (x :: x :: st) h k n) : Run l Z n0 own code maxL ret nm R Q pc Ls (x :: st) h k n := by
  subst hp
  exact Run.stp (fun p e below T m c t hA hx hc q => XS.dup hA hx rfl (hb hc hd) rfl hv q) nxt
theorem Run.pop {x : Value} (hd : decode code pc = .ok (.pop, 1)) (hv : x.category = 1) (hp : pc + 1 = pc') (nxt : Run l Z n0 own code maxL ret nm R Q pc' Ls st h k n) : Run l Z n0 own code maxL ret nm R Q pc Ls (x :: st) h k n := by
  subst hp
  exact Run.stp (fun p e below T m c t hA hx hc q => XT.pop hA hx rfl (hb hc hd) rfl hv q) nxt
theorem Run.dupX1 {x y : Value} (hd : decode code pc = .ok (.dup_x1, 1)) (hv : x.category = 1) (hv' : y.category = 1) (hp : pc + 1 = pc') (nxt : Run l Z n0 own code maxL ret nm R Q pc' Ls (x :: y :: x :: st) h k n) : Run l Z n0 own code maxL ret nm R Q pc Ls (x :: y :: st) h k n := by
  subst hp
  exact Run.stp (fun p e below T m c t hA hx hc q => XT.dupX1 hA hx rfl (hb hc hd) rfl hv hv' q) nxt
theorem Run.dup2 {x y : Value} (hd : decode code pc = .ok (.dup2, 1)) (hv : x.category = 1) (hv' : y.category = 1) (hp : pc + 1 = pc') (nxt : Run l Z n0 own code maxL ret nm R Q pc' Ls (x :: y :: x :: y :: st) h k n) : Run l Z n0 own code maxL ret nm R Q pc Ls (x :: y :: st) h k n := by
  subst hp
  exact Run.stp (fun p e below T m c t hA hx hc q => XT.dup2 hA hx rfl (hb hc hd) rfl hv hv' q) nxt
theorem Run.dup2L {x : Int64} (hd : decode code pc = .ok (.dup2, 1))  (hp : pc + 1 = pc') (nxt : Run l Z n0 own code maxL ret nm R Q pc' Ls (.long x :: .long x :: st) h k n) : Run l Z n0 own code maxL ret nm R Q pc Ls (.long x :: st) h k n := by
  subst hp
  exact Run.stp (fun p e below T m c t hA hx hc q => XT.dup2L hA hx rfl (hb hc hd) rfl q) nxt
theorem Run.goto {o : Int} (hd : decode code pc = .ok (.goto o, 3)) (ho : 0 ≤ (pc : Int) + o) (hp : ((pc : Int) + o).toNat = pc') (nxt : Run l Z n0 own code maxL ret nm R Q pc' Ls st h k n) : Run l Z n0 own code maxL ret nm R Q pc Ls st h k n :=
  Run.stp (fun p e below T m c t hA hx hc q => XS.goto hA hx rfl rfl (hb hc hd) ho hp q) nxt
theorem Run.if_eq {x : Int32} {o : Int} {pa : Nat} (hd : decode code pc = .ok (.ifCond .eq o, 3)) (ho : 0 ≤ (pc : Int) + o) (hp : ((pc : Int) + o).toNat = pc') (hq : pc + 3 = pa)
    (yes : x = 0 → Run l Z n0 own code maxL ret nm R Q pc' Ls st h k n) (no : ¬ x = 0 → Run l Z n0 own code maxL ret nm R Q pa Ls st h k n) : Run l Z n0 own code maxL ret nm R Q pc Ls (.int x :: st) h k n := by
  subst hq
  by_cases hc : x = 0
  · exact Run.stp (fun p e below T m c t hA hx hb' q => XS.ifYes hA hx rfl rfl (hb hb' hd) rfl (XT.i0_eq_t hc) ho hp q) (yes hc)
  · exact Run.stp (fun p e below T m c t hA hx hb' q => XS.ifNo hA hx rfl (hb hb' hd) rfl (XT.i0_eq_f hc) q) (no hc)
theorem Run.icmp_eq {x y : Int32} {o : Int} {pa : Nat} (hd : decode code pc = .ok (.if_icmp .eq o, 3)) (ho : 0 ≤ (pc : Int) + o) (hp : ((pc : Int) + o).toNat = pc') (hq : pc + 3 = pa)
    (yes : x = y → Run l Z n0 own code maxL ret nm R Q pc' Ls st h k n) (no : ¬ x = y → Run l Z n0 own code maxL ret nm R Q pa Ls st h k n) : Run l Z n0 own code maxL ret nm R Q pc Ls (.int y :: .int x :: st) h k n := by
  subst hq
  by_cases hc : x = y
  · exact Run.stp (fun p e below T m c t hA hx hb' q => XS.icmpYes hA hx rfl rfl (hb hb' hd) rfl (XT.ii_eq_t hc) ho hp q) (yes hc)
  · exact Run.stp (fun p e below T m c t hA hx hb' q => XS.icmpNo hA hx rfl (hb hb' hd) rfl (XT.ii_eq_f hc) q) (no hc)
theorem Run.if_ne {x : Int32} {o : Int} {pa : Nat} (hd : decode code pc = .ok (.ifCond .ne o, 3)) (ho : 0 ≤ (pc : Int) + o) (hp : ((pc : Int) + o).toNat = pc') (hq : pc + 3 = pa)
    (yes : ¬ x = 0 → Run l Z n0 own code maxL ret nm R Q pc' Ls st h k n) (no : x = 0 → Run l Z n0 own code maxL ret nm R Q pa Ls st h k n) : Run l Z n0 own code maxL ret nm R Q pc Ls (.int x :: st) h k n := by
  subst hq
  by_cases hc : x = 0
  · exact Run.stp (fun p e below T m c t hA hx hb' q => XS.ifNo hA hx rfl (hb hb' hd) rfl (XT.i0_ne_f hc) q) (no (by simpa using hc))
  · exact Run.stp (fun p e below T m c t hA hx hb' q => XS.ifYes hA hx rfl rfl (hb hb' hd) rfl (XT.i0_ne_t hc) ho hp q) (yes hc)
theorem Run.icmp_ne {x y : Int32} {o : Int} {pa : Nat} (hd : decode code pc = .ok (.if_icmp .ne o, 3)) (ho : 0 ≤ (pc : Int) + o) (hp : ((pc : Int) + o).toNat = pc') (hq : pc + 3 = pa)
    (yes : ¬ x = y → Run l Z n0 own code maxL ret nm R Q pc' Ls st h k n) (no : x = y → Run l Z n0 own code maxL ret nm R Q pa Ls st h k n) : Run l Z n0 own code maxL ret nm R Q pc Ls (.int y :: .int x :: st) h k n := by
  subst hq
  by_cases hc : x = y
  · exact Run.stp (fun p e below T m c t hA hx hb' q => XS.icmpNo hA hx rfl (hb hb' hd) rfl (XT.ii_ne_f hc) q) (no (by simpa using hc))
  · exact Run.stp (fun p e below T m c t hA hx hb' q => XS.icmpYes hA hx rfl rfl (hb hb' hd) rfl (XT.ii_ne_t hc) ho hp q) (yes hc)
theorem Run.if_lt {x : Int32} {o : Int} {pa : Nat} (hd : decode code pc = .ok (.ifCond .lt o, 3)) (ho : 0 ≤ (pc : Int) + o) (hp : ((pc : Int) + o).toNat = pc') (hq : pc + 3 = pa)
    (yes : x < 0 → Run l Z n0 own code maxL ret nm R Q pc' Ls st h k n) (no : ¬ x < 0 → Run l Z n0 own code maxL ret nm R Q pa Ls st h k n) : Run l Z n0 own code maxL ret nm R Q pc Ls (.int x :: st) h k n := by
  subst hq
  by_cases hc : x < 0
  · exact Run.stp (fun p e below T m c t hA hx hb' q => XS.ifYes hA hx rfl rfl (hb hb' hd) rfl (XT.i0_lt_t hc) ho hp q) (yes hc)
  · exact Run.stp (fun p e below T m c t hA hx hb' q => XS.ifNo hA hx rfl (hb hb' hd) rfl (XT.i0_lt_f hc) q) (no hc)
theorem Run.icmp_lt {x y : Int32} {o : Int} {pa : Nat} (hd : decode code pc = .ok (.if_icmp .lt o, 3)) (ho : 0 ≤ (pc : Int) + o) (hp : ((pc : Int) + o).toNat = pc') (hq : pc + 3 = pa)
    (yes : x < y → Run l Z n0 own code maxL ret nm R Q pc' Ls st h k n) (no : ¬ x < y → Run l Z n0 own code maxL ret nm R Q pa Ls st h k n) : Run l Z n0 own code maxL ret nm R Q pc Ls (.int y :: .int x :: st) h k n := by
  subst hq
  by_cases hc : x < y
  · exact Run.stp (fun p e below T m c t hA hx hb' q => XS.icmpYes hA hx rfl rfl (hb hb' hd) rfl (XT.ii_lt_t hc) ho hp q) (yes hc)
  · exact Run.stp (fun p e below T m c t hA hx hb' q => XS.icmpNo hA hx rfl (hb hb' hd) rfl (XT.ii_lt_f hc) q) (no hc)
theorem Run.if_ge {x : Int32} {o : Int} {pa : Nat} (hd : decode code pc = .ok (.ifCond .ge o, 3)) (ho : 0 ≤ (pc : Int) + o) (hp : ((pc : Int) + o).toNat = pc') (hq : pc + 3 = pa)
    (yes : ¬ x < 0 → Run l Z n0 own code maxL ret nm R Q pc' Ls st h k n) (no : x < 0 → Run l Z n0 own code maxL ret nm R Q pa Ls st h k n) : Run l Z n0 own code maxL ret nm R Q pc Ls (.int x :: st) h k n := by
  subst hq
  by_cases hc : x < 0
  · exact Run.stp (fun p e below T m c t hA hx hb' q => XS.ifNo hA hx rfl (hb hb' hd) rfl (XT.i0_ge_f hc) q) (no (by simpa using hc))
  · exact Run.stp (fun p e below T m c t hA hx hb' q => XS.ifYes hA hx rfl rfl (hb hb' hd) rfl (XT.i0_ge_t hc) ho hp q) (yes hc)
theorem Run.icmp_ge {x y : Int32} {o : Int} {pa : Nat} (hd : decode code pc = .ok (.if_icmp .ge o, 3)) (ho : 0 ≤ (pc : Int) + o) (hp : ((pc : Int) + o).toNat = pc') (hq : pc + 3 = pa)
    (yes : ¬ x < y → Run l Z n0 own code maxL ret nm R Q pc' Ls st h k n) (no : x < y → Run l Z n0 own code maxL ret nm R Q pa Ls st h k n) : Run l Z n0 own code maxL ret nm R Q pc Ls (.int y :: .int x :: st) h k n := by
  subst hq
  by_cases hc : x < y
  · exact Run.stp (fun p e below T m c t hA hx hb' q => XS.icmpNo hA hx rfl (hb hb' hd) rfl (XT.ii_ge_f hc) q) (no (by simpa using hc))
  · exact Run.stp (fun p e below T m c t hA hx hb' q => XS.icmpYes hA hx rfl rfl (hb hb' hd) rfl (XT.ii_ge_t hc) ho hp q) (yes hc)
theorem Run.if_gt {x : Int32} {o : Int} {pa : Nat} (hd : decode code pc = .ok (.ifCond .gt o, 3)) (ho : 0 ≤ (pc : Int) + o) (hp : ((pc : Int) + o).toNat = pc') (hq : pc + 3 = pa)
    (yes : 0 < x → Run l Z n0 own code maxL ret nm R Q pc' Ls st h k n) (no : ¬ 0 < x → Run l Z n0 own code maxL ret nm R Q pa Ls st h k n) : Run l Z n0 own code maxL ret nm R Q pc Ls (.int x :: st) h k n := by
  subst hq
  by_cases hc : 0 < x
  · exact Run.stp (fun p e below T m c t hA hx hb' q => XS.ifYes hA hx rfl rfl (hb hb' hd) rfl (XT.i0_gt_t hc) ho hp q) (yes hc)
  · exact Run.stp (fun p e below T m c t hA hx hb' q => XS.ifNo hA hx rfl (hb hb' hd) rfl (XT.i0_gt_f hc) q) (no hc)
theorem Run.icmp_gt {x y : Int32} {o : Int} {pa : Nat} (hd : decode code pc = .ok (.if_icmp .gt o, 3)) (ho : 0 ≤ (pc : Int) + o) (hp : ((pc : Int) + o).toNat = pc') (hq : pc + 3 = pa)
    (yes : y < x → Run l Z n0 own code maxL ret nm R Q pc' Ls st h k n) (no : ¬ y < x → Run l Z n0 own code maxL ret nm R Q pa Ls st h k n) : Run l Z n0 own code maxL ret nm R Q pc Ls (.int y :: .int x :: st) h k n := by
  subst hq
  by_cases hc : y < x
  · exact Run.stp (fun p e below T m c t hA hx hb' q => XS.icmpYes hA hx rfl rfl (hb hb' hd) rfl (XT.ii_gt_t hc) ho hp q) (yes hc)
  · exact Run.stp (fun p e below T m c t hA hx hb' q => XS.icmpNo hA hx rfl (hb hb' hd) rfl (XT.ii_gt_f hc) q) (no hc)
theorem Run.if_le {x : Int32} {o : Int} {pa : Nat} (hd : decode code pc = .ok (.ifCond .le o, 3)) (ho : 0 ≤ (pc : Int) + o) (hp : ((pc : Int) + o).toNat = pc') (hq : pc + 3 = pa)
    (yes : ¬ 0 < x → Run l Z n0 own code maxL ret nm R Q pc' Ls st h k n) (no : 0 < x → Run l Z n0 own code maxL ret nm R Q pa Ls st h k n) : Run l Z n0 own code maxL ret nm R Q pc Ls (.int x :: st) h k n := by
  subst hq
  by_cases hc : 0 < x
  · exact Run.stp (fun p e below T m c t hA hx hb' q => XS.ifNo hA hx rfl (hb hb' hd) rfl (XT.i0_le_f hc) q) (no (by simpa using hc))
  · exact Run.stp (fun p e below T m c t hA hx hb' q => XS.ifYes hA hx rfl rfl (hb hb' hd) rfl (XT.i0_le_t hc) ho hp q) (yes hc)
theorem Run.icmp_le {x y : Int32} {o : Int} {pa : Nat} (hd : decode code pc = .ok (.if_icmp .le o, 3)) (ho : 0 ≤ (pc : Int) + o) (hp : ((pc : Int) + o).toNat = pc') (hq : pc + 3 = pa)
    (yes : ¬ y < x → Run l Z n0 own code maxL ret nm R Q pc' Ls st h k n) (no : y < x → Run l Z n0 own code maxL ret nm R Q pa Ls st h k n) : Run l Z n0 own code maxL ret nm R Q pc Ls (.int y :: .int x :: st) h k n := by
  subst hq
  by_cases hc : y < x
  · exact Run.stp (fun p e below T m c t hA hx hb' q => XS.icmpNo hA hx rfl (hb hb' hd) rfl (XT.ii_le_f hc) q) (no (by simpa using hc))
  · exact Run.stp (fun p e below T m c t hA hx hb' q => XS.icmpYes hA hx rfl rfl (hb hb' hd) rfl (XT.ii_le_t hc) ho hp q) (yes hc)
theorem Run.lif_eq {x y : Int64} {o : Int} {pa : Nat} (hd : decode code pc = .ok (.ifCond .eq o, 3)) (ho : 0 ≤ (pc : Int) + o) (hp : ((pc : Int) + o).toNat = pc') (hq : pc + 3 = pa)
    (yes : x = y → Run l Z n0 own code maxL ret nm R Q pc' Ls st h k n) (no : ¬ x = y → Run l Z n0 own code maxL ret nm R Q pa Ls st h k n) : Run l Z n0 own code maxL ret nm R Q pc Ls (.int (XT.cmpL x y) :: st) h k n := by
  subst hq
  by_cases hc : x = y
  · exact Run.stp (fun p e below T m c t hA hx hb' q => XS.ifYes hA hx rfl rfl (hb hb' hd) rfl (XT.ll_eq_t hc) ho hp q) (yes hc)
  · exact Run.stp (fun p e below T m c t hA hx hb' q => XS.ifNo hA hx rfl (hb hb' hd) rfl (XT.ll_eq_f hc) q) (no hc)
theorem Run.lif_ne {x y : Int64} {o : Int} {pa : Nat} (hd : decode code pc = .ok (.ifCond .ne o, 3)) (ho : 0 ≤ (pc : Int) + o) (hp : ((pc : Int) + o).toNat = pc') (hq : pc + 3 = pa)
    (yes : ¬ x = y → Run l Z n0 own code maxL ret nm R Q pc' Ls st h k n) (no : x = y → Run l Z n0 own code maxL ret nm R Q pa Ls st h k n) : Run l Z n0 own code maxL ret nm R Q pc Ls (.int (XT.cmpL x y) :: st) h k n := by
  subst hq
  by_cases hc : x = y
  · exact Run.stp (fun p e below T m c t hA hx hb' q => XS.ifNo hA hx rfl (hb hb' hd) rfl (XT.ll_ne_f hc) q) (no (by simpa using hc))
  · exact Run.stp (fun p e below T m c t hA hx hb' q => XS.ifYes hA hx rfl rfl (hb hb' hd) rfl (XT.ll_ne_t hc) ho hp q) (yes hc)
theorem Run.lif_lt {x y : Int64} {o : Int} {pa : Nat} (hd : decode code pc = .ok (.ifCond .lt o, 3)) (ho : 0 ≤ (pc : Int) + o) (hp : ((pc : Int) + o).toNat = pc') (hq : pc + 3 = pa)
    (yes : x < y → Run l Z n0 own code maxL ret nm R Q pc' Ls st h k n) (no : ¬ x < y → Run l Z n0 own code maxL ret nm R Q pa Ls st h k n) : Run l Z n0 own code maxL ret nm R Q pc Ls (.int (XT.cmpL x y) :: st) h k n := by
  subst hq
  by_cases hc : x < y
  · exact Run.stp (fun p e below T m c t hA hx hb' q => XS.ifYes hA hx rfl rfl (hb hb' hd) rfl (XT.ll_lt_t hc) ho hp q) (yes hc)
  · exact Run.stp (fun p e below T m c t hA hx hb' q => XS.ifNo hA hx rfl (hb hb' hd) rfl (XT.ll_lt_f hc) q) (no hc)
theorem Run.lif_ge {x y : Int64} {o : Int} {pa : Nat} (hd : decode code pc = .ok (.ifCond .ge o, 3)) (ho : 0 ≤ (pc : Int) + o) (hp : ((pc : Int) + o).toNat = pc') (hq : pc + 3 = pa)
    (yes : ¬ x < y → Run l Z n0 own code maxL ret nm R Q pc' Ls st h k n) (no : x < y → Run l Z n0 own code maxL ret nm R Q pa Ls st h k n) : Run l Z n0 own code maxL ret nm R Q pc Ls (.int (XT.cmpL x y) :: st) h k n := by
  subst hq
  by_cases hc : x < y
  · exact Run.stp (fun p e below T m c t hA hx hb' q => XS.ifNo hA hx rfl (hb hb' hd) rfl (XT.ll_ge_f hc) q) (no (by simpa using hc))
  · exact Run.stp (fun p e below T m c t hA hx hb' q => XS.ifYes hA hx rfl rfl (hb hb' hd) rfl (XT.ll_ge_t hc) ho hp q) (yes hc)
theorem Run.lif_gt {x y : Int64} {o : Int} {pa : Nat} (hd : decode code pc = .ok (.ifCond .gt o, 3)) (ho : 0 ≤ (pc : Int) + o) (hp : ((pc : Int) + o).toNat = pc') (hq : pc + 3 = pa)
    (yes : y < x → Run l Z n0 own code maxL ret nm R Q pc' Ls st h k n) (no : ¬ y < x → Run l Z n0 own code maxL ret nm R Q pa Ls st h k n) : Run l Z n0 own code maxL ret nm R Q pc Ls (.int (XT.cmpL x y) :: st) h k n := by
  subst hq
  by_cases hc : y < x
  · exact Run.stp (fun p e below T m c t hA hx hb' q => XS.ifYes hA hx rfl rfl (hb hb' hd) rfl (XT.ll_gt_t hc) ho hp q) (yes hc)
  · exact Run.stp (fun p e below T m c t hA hx hb' q => XS.ifNo hA hx rfl (hb hb' hd) rfl (XT.ll_gt_f hc) q) (no hc)
theorem Run.lif_le {x y : Int64} {o : Int} {pa : Nat} (hd : decode code pc = .ok (.ifCond .le o, 3)) (ho : 0 ≤ (pc : Int) + o) (hp : ((pc : Int) + o).toNat = pc') (hq : pc + 3 = pa)
    (yes : ¬ y < x → Run l Z n0 own code maxL ret nm R Q pc' Ls st h k n) (no : y < x → Run l Z n0 own code maxL ret nm R Q pa Ls st h k n) : Run l Z n0 own code maxL ret nm R Q pc Ls (.int (XT.cmpL x y) :: st) h k n := by
  subst hq
  by_cases hc : y < x
  · exact Run.stp (fun p e below T m c t hA hx hb' q => XS.ifNo hA hx rfl (hb hb' hd) rfl (XT.ll_le_f hc) q) (no (by simpa using hc))
  · exact Run.stp (fun p e below T m c t hA hx hb' q => XS.ifYes hA hx rfl rfl (hb hb' hd) rfl (XT.ll_le_t hc) ho hp q) (yes hc)
theorem Run.acmp_eq {x y : Value} {o : Int} {pa : Nat} (hd : decode code pc = .ok (.if_acmp .eq o, 3)) (hv : x.isRef = true) (hv' : y.isRef = true) (ho : 0 ≤ (pc : Int) + o) (hp : ((pc : Int) + o).toNat = pc') (hq : pc + 3 = pa)
    (yes : x = y → Run l Z n0 own code maxL ret nm R Q pc' Ls st h k n) (no : ¬ x = y → Run l Z n0 own code maxL ret nm R Q pa Ls st h k n) : Run l Z n0 own code maxL ret nm R Q pc Ls (y :: x :: st) h k n := by
  subst hq
  by_cases hc : x = y
  · exact Run.stp (fun p e below T m c t hA hx hb' q => XT.acmpYes hA hx rfl rfl (hb hb' hd) rfl hv hv' (XT.aa_eq_t hc) ho hp q) (yes hc)
  · exact Run.stp (fun p e below T m c t hA hx hb' q => XT.acmpNo hA hx rfl (hb hb' hd) rfl hv hv' (XT.aa_eq_f hc) q) (no hc)
theorem Run.acmp_ne {x y : Value} {o : Int} {pa : Nat} (hd : decode code pc = .ok (.if_acmp .ne o, 3)) (hv : x.isRef = true) (hv' : y.isRef = true) (ho : 0 ≤ (pc : Int) + o) (hp : ((pc : Int) + o).toNat = pc') (hq : pc + 3 = pa)
    (yes : ¬ x = y → Run l Z n0 own code maxL ret nm R Q pc' Ls st h k n) (no : x = y → Run l Z n0 own code maxL ret nm R Q pa Ls st h k n) : Run l Z n0 own code maxL ret nm R Q pc Ls (y :: x :: st) h k n := by
  subst hq
  by_cases hc : x = y
  · exact Run.stp (fun p e below T m c t hA hx hb' q => XT.acmpNo hA hx rfl (hb hb' hd) rfl hv hv' (XT.aa_ne_f hc) q) (no (by simpa using hc))
  · exact Run.stp (fun p e below T m c t hA hx hb' q => XT.acmpYes hA hx rfl rfl (hb hb' hd) rfl hv hv' (XT.aa_ne_t hc) ho hp q) (yes hc)
theorem Run.ifnull {v : Value} {o : Int} {pa : Nat} (hd : decode code pc = .ok (.ifnull o, 3)) (hv : v.isRef = true) (ho : 0 ≤ (pc : Int) + o) (hp : ((pc : Int) + o).toNat = pc') (hq : pc + 3 = pa)
    (yes : v = .null → Run l Z n0 own code maxL ret nm R Q pc' Ls st h k n) (no : ¬ v = .null → Run l Z n0 own code maxL ret nm R Q pa Ls st h k n) : Run l Z n0 own code maxL ret nm R Q pc Ls (v :: st) h k n := by
  subst hq
  by_cases hc : v = .null
  · exact Run.stp (fun p e below T m c t hA hx hb' q => XT.nullYes hA hx rfl rfl (hb hb' hd) rfl hc ho hp q) (yes hc)
  · exact Run.stp (fun p e below T m c t hA hx hb' q => XT.nullNo hA hx rfl (hb hb' hd) rfl hv hc q) (no hc)
theorem Run.ifnonnull {v : Value} {o : Int} {pa : Nat} (hd : decode code pc = .ok (.ifnonnull o, 3)) (hv : v.isRef = true) (ho : 0 ≤ (pc : Int) + o) (hp : ((pc : Int) + o).toNat = pc') (hq : pc + 3 = pa)
    (yes : ¬ v = .null → Run l Z n0 own code maxL ret nm R Q pc' Ls st h k n) (no : v = .null → Run l Z n0 own code maxL ret nm R Q pa Ls st h k n) : Run l Z n0 own code maxL ret nm R Q pc Ls (v :: st) h k n := by
  subst hq
  by_cases hc : v = .null
  · exact Run.stp (fun p e below T m c t hA hx hb' q => XT.nonnullNo hA hx rfl (hb hb' hd) rfl hc q) (no hc)
  · exact Run.stp (fun p e below T m c t hA hx hb' q => XT.nonnullYes hA hx rfl rfl (hb hb' hd) rfl hv hc ho hp q) (yes hc)
/-! the pool's constants, fields, statics -/
theorem Run.ldcI {a0 : Array Value} {i : Nat} {v : Int32} (hd : decode code pc = .ok (.ldc i, 2)) (w : (Cond.constant own i v).before a0 Z = true) (hp : pc + 2 = pc') (nxt : Run l Z n0 own code maxL ret nm R Q pc' Ls (.int v :: st) h k n) : Run l Z n0 own code maxL ret nm R Q pc Ls st h k n := by
  subst hp
  exact Run.via (fun p e s m args below meth c T locs cells slots hC X eT => ⟨T, X, eT, fun t q => X.ldcI hC.1 hC.2.2.1 (mvT hC.2.1 w) rfl (hb hC.2.2.2.1 hd) q⟩) nxt
theorem Run.ldcWI {a0 : Array Value} {i : Nat} {v : Int32} (hd : decode code pc = .ok (.ldc_w i, 3)) (w : (Cond.constant own i v).before a0 Z = true) (hp : pc + 3 = pc') (nxt : Run l Z n0 own code maxL ret nm R Q pc' Ls (.int v :: st) h k n) : Run l Z n0 own code maxL ret nm R Q pc Ls st h k n := by
  subst hp
  exact Run.via (fun p e s m args below meth c T locs cells slots hC X eT => ⟨T, X, eT, fun t q => X.ldcWI hC.1 hC.2.2.1 (mvT hC.2.1 w) rfl (hb hC.2.2.2.1 hd) q⟩) nxt
theorem Run.ldc2J {a0 : Array Value} {i : Nat} {v : Int64} (hd : decode code pc = .ok (.ldc2_w i, 3)) (w : (Cond.constantLong own i v).before a0 Z = true) (hp : pc + 3 = pc') (nxt : Run l Z n0 own code maxL ret nm R Q pc' Ls (.long v :: st) h k n) : Run l Z n0 own code maxL ret nm R Q pc Ls st h k n := by
  subst hp
  exact Run.via (fun p e s m args below meth c T locs cells slots hC X eT => ⟨T, X, eT, fun t q => X.ldc2J hC.1 hC.2.2.1 (mvT hC.2.1 w) rfl (hb hC.2.2.2.1 hd) q⟩) nxt
theorem Run.getS {a0 : Array Value} {R0 O f d host : String} {i : Nat} {v : Value} (hd : decode code pc = .ok (.getstatic i, 3)) (w : (Cond.fieldLink own i R0 f d).before a0 Z = true ∨ (Cond.fieldLinkNest own i R0 f d host).before a0 Z = true) (via : Via Z R0 O f d) (F : Sta Z h O f d v) (hp : pc + 3 = pc') (nxt : Run l Z n0 own code maxL ret nm R Q pc' Ls (v :: st) h k n) : Run l Z n0 own code maxL ret nm R Q pc Ls st h k n := by
  subst hp
  exact Run.via (fun p e s m args below meth c T locs cells slots hC X eT => getS2 X hC.1 hC.2.1 hC.2.2.1 w via eT F (g := mkF m pc Ls st) rfl (hb hC.2.2.2.1 hd)) nxt
theorem Run.getF {a0 : Array Value} {R0 O f d host : String} {i : Nat} {a : Addr} {v : Value} (hd : decode code pc = .ok (.getfield i, 3)) (w : (Cond.fieldLink own i R0 f d).before a0 Z = true ∨ (Cond.fieldLinkNest own i R0 f d host).before a0 Z = true) (via : Via Z R0 O f d) (F : Fld Z h a O f d v) (hp : pc + 3 = pc') (nxt : Run l Z n0 own code maxL ret nm R Q pc' Ls (v :: st) h k n) : Run l Z n0 own code maxL ret nm R Q pc Ls (.ref a :: st) h k n := by
  subst hp
  exact Run.via (fun p e s m args below meth c T locs cells slots hC X eT => getF X hC.1 hC.2.1 hC.2.2.1 w via eT F (g := mkF m pc Ls (.ref a :: st)) rfl rfl (hb hC.2.2.2.1 hd)) nxt
/-! the returns -/
theorem Go.fin {p : Program} {e : Env} {s : State} {m : MethodId} {args : Array Value} {below : List Frame} {meth : Method} {c : Code} {T S : State} {locs : List Loc} {cells slots : Nat} {v : Option Value} (X : Stand p l e R s m args below meth c T locs cells slots) (hv : meth.sig.returnType = none → v = none) (hlk : meth.locks = false) (hF : Fr n0 locs) (hk : cells ≤ R.cells) (hn : slots ≤ R.slots) (hQ : Q v T.heap)
    (f : ∀ fs, (∀ (f : JFrame) (acts : List Action), f.method = m → f.locked = none → f.entered = [] → (doReturn e (T.setTop f) acts v).1 = T.setFrames fs) → Steps p.tables e below S (T.setFrames fs)) : Go p e below s n0 R.cells R.slots Q S := by
  obtain ⟨fs, hr, hrun, hended, hW, hsame⟩ := X.leave (v := v) hv hlk
  exact ⟨_, v, locs, f fs hr, hrun, hended, ⟨hQ, hF⟩, ⟨_, rfl⟩, hW, hsame.mono hk hn⟩
theorem Run.ireturn {z : Int32} (hd : decode code pc = .ok (.ireturn, 1)) (hret : ret = some .int) (hk : k ≤ R.cells) (hn : n ≤ R.slots) (hQ : Q (some (.int z)) h) : Run l Z n0 own code maxL ret nm R Q pc Ls (.int z :: st) h k n := by
  intro p e s m args below meth c T locs cells slots hC X eT hF hk' hn'
  subst eT
  have hr := hC.2.2.2.2.2.1
  exact Go.fin X (fun q => by rw [hr, hret] at q; cases q) hC.2.2.2.2.2.2.1 hF (Nat.le_trans hk' hk) (Nat.le_trans hn' hn) hQ (fun fs hl => retOut X hC.1 (hr.trans hret) rfl (Or.inl ⟨rfl, Or.inl rfl, z, rfl⟩) (hb hC.2.2.2.1 hd) hl)
theorem Run.nreturn {z : Int32} {ty : FieldType} (hd : decode code pc = .ok (.ireturn, 1)) (hret : ret = some ty) (ht : ty = .boolean ∨ ty = .byte ∨ ty = .char ∨ ty = .short) (hk : k ≤ R.cells) (hn : n ≤ R.slots) (hQ : Q (some (.int (nar ty z))) h) : Run l Z n0 own code maxL ret nm R Q pc Ls (.int z :: st) h k n := by
  intro p e s m args below meth c T locs cells slots hC X eT hF hk' hn'
  subst eT
  have hr := hC.2.2.2.2.2.1
  exact Go.fin X (fun q => by rw [hr, hret] at q; cases q) hC.2.2.2.2.2.2.1 hF (Nat.le_trans hk' hk) (Nat.le_trans hn' hn) hQ (fun fs hl => retN X hC.1 (hr.trans hret) ht (hb hC.2.2.2.1 hd) hl)
theorem Run.lreturn {z : Int64} (hd : decode code pc = .ok (.lreturn, 1)) (hret : ret = some .long) (hk : k ≤ R.cells) (hn : n ≤ R.slots) (hQ : Q (some (.long z)) h) : Run l Z n0 own code maxL ret nm R Q pc Ls (.long z :: st) h k n := by
  intro p e s m args below meth c T locs cells slots hC X eT hF hk' hn'
  subst eT
  have hr := hC.2.2.2.2.2.1
  exact Go.fin X (fun q => by rw [hr, hret] at q; cases q) hC.2.2.2.2.2.2.1 hF (Nat.le_trans hk' hk) (Nat.le_trans hn' hn) hQ (fun fs hl => retOut X hC.1 (hr.trans hret) rfl (Or.inr (Or.inl ⟨rfl, rfl, z, rfl⟩)) (hb hC.2.2.2.1 hd) hl)
theorem go_narref {t : FieldType} {w : Value} (ht : t.isReference = true) (hw : w.isRef = true) : narrow t w = w := by
  cases t <;> first | rfl | (cases ht; done) | (cases w <;> first | rfl | cases hw)
theorem Run.areturn {w : Value} {ty : FieldType} (hd : decode code pc = .ok (.areturn, 1)) (hret : ret = some ty) (ht : ty.isReference = true) (hw : w.isRef = true) (hk : k ≤ R.cells) (hn : n ≤ R.slots) (hQ : Q (some w) h) : Run l Z n0 own code maxL ret nm R Q pc Ls (w :: st) h k n := by
  intro p e s m args below meth c T locs cells slots hC X eT hF hk' hn'
  subst eT
  have hr := hC.2.2.2.2.2.1
  exact Go.fin X (fun q => by rw [hr, hret] at q; cases q) hC.2.2.2.2.2.2.1 hF (Nat.le_trans hk' hk) (Nat.le_trans hn' hn) hQ (fun fs hl => retOut X hC.1 (hr.trans hret) (go_narref ht hw) (Or.inr (Or.inr (Or.inr (Or.inr ⟨rfl, ht, hw⟩)))) (hb hC.2.2.2.1 hd) hl)
theorem Run.vreturn (hd : decode code pc = .ok (.return_, 1)) (hret : ret = none) (hk : k ≤ R.cells) (hn : n ≤ R.slots) (hQ : Q none h) : Run l Z n0 own code maxL ret nm R Q pc Ls [] h k n := by
  intro p e s m args below meth c T locs cells slots hC X eT hF hk' hn'
  subst eT
  have hr := hC.2.2.2.2.2.1
  exact Go.fin X (fun _ => rfl) hC.2.2.2.2.2.2.1 hF (Nat.le_trans hk' hk) (Nat.le_trans hn' hn) hQ (fun fs hl => X.returnOut hC.1 (hr.trans hret) (hb hC.2.2.2.1 hd) hl)
/-! calls by a contract -/
theorem Run.callS {a0 : Array Value} {y : MethodName} {bytes : ByteArray} {mL : Nat} {rt : Option FieldType} {rm : Room} {as rest : List Value} {Qy : Option Value → Heap → Prop} {i : Nat} {ps : List FieldType} {rr : Option FieldType}
    (hC : Con l Z n0 y bytes mL rt rm as.toArray h Qy) (hd : decode code pc = .ok (.invokestatic i, 3)) (w1 : (Cond.methodLink own i y).before a0 Z = true) (w2 : (Cond.static y).before a0 Z = true) (w3 : (Cond.initialized y.cls).before a0 Z = true) (w4 : (Cond.code y bytes mL rt).before a0 Z = true)
    (hy : y.cls ≠ "java/lang/invoke/MethodHandle" ∧ y.cls ≠ "java/lang/invoke/VarHandle") (hds : parseMethodDescriptor y.desc = some ⟨ps, rr⟩) (hl : as.length = ps.length) (hst : st = as.reverse ++ rest) (hsz : Ls.size = maxL)
    (hf : rm.frames + 1 ≤ R.frames) (hlo : (rest.map fun v => v.category).sum + (mL + 11) + rm.locals ≤ R.locals) (hk : k + rm.cells ≤ k') (hk' : k' ≤ R.cells) (hn : n + rm.slots ≤ n') (hn' : n' ≤ R.slots) (hp : pc + 3 = pc')
    (nxt : ∀ v h', Qy v h' → Run l Z n0 own code maxL ret nm R Q pc' Ls (v.toList ++ rest) h' k' n') : Run l Z n0 own code maxL ret nm R Q pc Ls st h k n := by
  subst hp hst
  intro p e s m args below meth c T locs cells slots hX X eT hF hc hs
  obtain ⟨hx, hZ, hown, hby, hml, -⟩ := id hX
  obtain ⟨v, vm₁, ⟨B, L', cc, ss⟩, -, X', ⟨Lc, hQ, l1, y1, z1⟩, stp⟩ := Jvm.LawKit.callS X hx (y := y) hown (mvT hZ w1) (mvT hZ w2) (mvT hZ w3) (mvT hZ w4) hy (backOf (W := (rest.map fun v => v.category).sum) (Q := fun v h L => Qy v h ∧ Fr n0 L) (hC []) hZ w4 w3 hf hlo) (g := mkF m pc Ls (as.reverse ++ rest)) rfl (hsz.trans hml.symm) (argsL := as) (rest := rest) (lenOf hds hl) rfl (by show 2 * 0 + _ ≤ _; omega) (hb hby hd) (fun _ _ => ⟨rfl, eT, (by show cells + rm.cells ≤ R.cells; omega), (by show slots + rm.slots ≤ R.slots; omega)⟩)
  dsimp only [Pt.U, Pt.locs, Pt.cells, Pt.slots] at X' l1 y1 z1 stp hQ
  subst l1 y1 z1
  obtain ⟨s₂, v', L, g1, g2⟩ := nxt v _ hQ.1 p e s m args below meth c B _ _ _ hX X' rfl (Fr.app hF hQ.2) (by omega) (by omega)
  exact ⟨s₂, v', L, stp _ g1, g2⟩
theorem Run.callV {a0 : Array Value} {C : String} {y z : MethodName} {bytes : ByteArray} {mL : Nat} {rt : Option FieldType} {rm : Room} {a : Addr} {as rest : List Value} {Qy : Option Value → Heap → Prop} {i : Nat} {ps : List FieldType} {rr : Option FieldType}
    (hC : Con l Z n0 z bytes mL rt rm (.ref a :: as).toArray h Qy) (hE : Exa Z h a C) (hd : decode code pc = .ok (.invokevirtual i, 3)) (w1 : (Cond.methodLink own i y).before a0 Z = true) (w2 : (Cond.declares y).before a0 Z = true) (nf : ∀ (s : State), Z.Warmed39 s.vm → NotFace s y) (w3 : (Cond.selects C y z).before a0 Z = true) (w4 : (Cond.instanceMethod z).before a0 Z = true) (w5 : (Cond.initialized z.cls).before a0 Z = true) (w6 : (Cond.code z bytes mL rt).before a0 Z = true)
    (hy : y.cls ≠ "java/lang/invoke/MethodHandle" ∧ y.cls ≠ "java/lang/invoke/VarHandle") (hds : parseMethodDescriptor y.desc = some ⟨ps, rr⟩) (hl : as.length = ps.length) (hst : st = as.reverse ++ .ref a :: rest) (hsz : Ls.size = maxL)
    (hf : rm.frames + 1 ≤ R.frames) (hlo : (rest.map fun v => v.category).sum + (mL + 11) + rm.locals ≤ R.locals) (hk : k + rm.cells ≤ k') (hk' : k' ≤ R.cells) (hn : n + rm.slots ≤ n') (hn' : n' ≤ R.slots) (hp : pc + 3 = pc')
    (nxt : ∀ v h', Qy v h' → Run l Z n0 own code maxL ret nm R Q pc' Ls (v.toList ++ rest) h' k' n') : Run l Z n0 own code maxL ret nm R Q pc Ls st h k n := by
  subst hp hst
  intro p e s m args below meth c T locs cells slots hX X eT hF hc hs
  obtain ⟨hx, hZ, hown, hby, hml, -⟩ := id hX
  obtain ⟨cq, kq, qa, qb, qc⟩ := isOf hZ eT hE
  obtain ⟨v, vm₁, ⟨B, L', cc, ss⟩, -, X', ⟨Lc, hQ, l1, y1, z1⟩, stp⟩ := X.virtualBack hx (y := y) (z := z) hown (mvT hZ w1) (mvT hZ w2) (nf s hZ) (mvT hZ w3) (mvT hZ w4) hy (backOf (W := (rest.map fun v => v.category).sum) (Q := fun v h L => Qy v h ∧ Fr n0 L) (hC []) hZ w6 w5 hf hlo) qa qc (g := mkF m pc Ls (as.reverse ++ .ref a :: rest)) rfl (hsz.trans hml.symm) (Steps.refl _) (argsL := as) (rest := rest) (lenOf hds hl) rfl (by show 2 * 0 + _ ≤ _; omega) (hb hby hd) (fun _ _ => ⟨rfl, eT, (by show cells + rm.cells ≤ R.cells; omega), (by show slots + rm.slots ≤ R.slots; omega)⟩)
  dsimp only [Pt.U, Pt.locs, Pt.cells, Pt.slots] at X' l1 y1 z1 stp hQ
  subst l1 y1 z1
  obtain ⟨s₂, v', L, g1, g2⟩ := nxt v _ hQ.1 p e s m args below meth c B _ _ _ hX X' rfl (Fr.app hF hQ.2) (by omega) (by omega)
  exact ⟨s₂, v', L, stp.trans g1, g2⟩
theorem Run.callN {a0 : Array Value} {y : MethodName} {bytes : ByteArray} {mL : Nat} {rm : Room} {a : Addr} {as rest : List Value} {P : Heap → Prop} {i : Nat} {ps : List FieldType} {rr : Option FieldType}
    (hC : Con l Z n0 y bytes mL none rm (.ref a :: as).toArray h (Vd P)) (hy1 : y.name = "<init>") (hd : decode code pc = .ok (.invokespecial i, 3)) (w1 : (Cond.methodLink own i y).before a0 Z = true) (w2 : (Cond.instanceMethod y).before a0 Z = true) (w3 : (Cond.initialized y.cls).before a0 Z = true) (w4 : (Cond.code y bytes mL none).before a0 Z = true)
    (hy : y.cls ≠ "java/lang/invoke/MethodHandle" ∧ y.cls ≠ "java/lang/invoke/VarHandle") (hds : parseMethodDescriptor y.desc = some ⟨ps, rr⟩) (hl : as.length = ps.length) (hst : st = as.reverse ++ .ref a :: rest) (hsz : Ls.size = maxL)
    (hf : rm.frames + 1 ≤ R.frames) (hlo : (rest.map fun v => v.category).sum + (mL + 11) + rm.locals ≤ R.locals) (hk : k + rm.cells ≤ k') (hk' : k' ≤ R.cells) (hn : n + rm.slots ≤ n') (hn' : n' ≤ R.slots) (hp : pc + 3 = pc')
    (nxt : ∀ h', P h' → Run l Z n0 own code maxL ret nm R Q pc' Ls rest h' k' n') : Run l Z n0 own code maxL ret nm R Q pc Ls st h k n := by
  subst hp hst
  intro p e s m args below meth c T locs cells slots hX X eT hF hc hs
  obtain ⟨hx, hZ, hown, hby, hml, -⟩ := id hX
  obtain ⟨v, vm₁, ⟨B, L', cc, ss⟩, -, X', ⟨Lc, hQ, l1, y1, z1⟩, stp⟩ := X.specialBack hx (y := y) hy1 hown (mvT hZ w1) (mvT hZ w2) (mvT hZ w4) hy (backOf (W := (rest.map fun v => v.category).sum) (Q := fun v h L => Vd P v h ∧ Fr n0 L) (hC []) hZ w4 w3 hf hlo) (g := mkF m pc Ls (as.reverse ++ .ref a :: rest)) rfl (hsz.trans hml.symm) (Steps.refl _) (a := a) (argsL := as) (rest := rest) (lenOf hds hl) rfl (by show 2 * 0 + _ ≤ _; omega) (hb hby hd) (fun _ _ => ⟨rfl, eT, (by show cells + rm.cells ≤ R.cells; omega), (by show slots + rm.slots ≤ R.slots; omega)⟩)
  dsimp only [Pt.U, Pt.locs, Pt.cells, Pt.slots] at X' l1 y1 z1 stp hQ
  subst l1 y1 z1
  obtain ⟨⟨rfl, hP⟩, hL⟩ := hQ
  obtain ⟨s₂, v', L, g1, g2⟩ := nxt _ hP p e s m args below meth c B _ _ _ hX X' rfl (Fr.app hF hL) (by omega) (by omega)
  exact ⟨s₂, v', L, stp.trans g1, g2⟩
/-! the heap: new objects, fields written, arrays -/
theorem Run.wr {a : Addr} {sl : Nat} {v : Value} {Ls' : Array Slot} {st' : List Value} (f : ∀ (p : Program) (e : Env) (s : State) (m : MethodId) (args : Array Value) (below : List Frame) (meth : Method) (c : Code) (T : State) (locs : List Loc) (cells slots : Nat),
      Ctx Z own code maxL ret nm p s m meth c → Stand p l e R s m args below meth c T locs cells slots → T.heap = h → ∃ T' h', Stand p l e R s m args below meth c T' (locs ++ [⟨a, sl⟩]) cells slots ∧ T'.heap = h' ∧ Wr h h' a sl v ∧ ∀ t, Steps p.tables e below (T'.setTop (mkF m pc' Ls' st')) t → Steps p.tables e below (T.setTop (mkF m pc Ls st)) t)
    (ha : n0 ≤ a) (nxt : ∀ h', Wr h h' a sl v → Run l Z n0 own code maxL ret nm R Q pc' Ls' st' h' k n) : Run l Z n0 own code maxL ret nm R Q pc Ls st h k n := by
  intro p e s m args below meth c T locs cells slots hC X eT hF hk hn
  obtain ⟨T', h', X', e', W, stp⟩ := f p e s m args below meth c T locs cells slots hC X eT
  obtain ⟨s₂, v', L, g1, g2⟩ := nxt h' W p e s m args below meth c T' _ cells slots hC X' e' (Fr.snoc X' hF ha) hk hn
  exact ⟨s₂, v', L, stp _ g1, g2⟩
theorem Run.newO {a0 : Array Value} {C : String} {i sl : Nat} (hd : decode code pc = .ok (.new i, 3)) (w : (Cond.classLink own i C).before a0 Z = true) (wi : (Cond.instantiable C sl).before a0 Z = true) (wz : (Cond.initialized C).before a0 Z = true)
    (hk : k + 1 ≤ k') (hk' : k' ≤ R.cells) (hn : n + sl ≤ n') (hn' : n' ≤ R.slots) (hp : pc + 3 = pc')
    (nxt : ∀ h' a, a = h.size → Ext h h' → Exa Z h' a C → (∀ {O f d : String} {ty : FieldType}, Laid Z a0 C O f d → parseFieldDescriptor d = some ty → Fld Z h' a O f d (defaultValue ty)) → Run l Z n0 own code maxL ret nm R Q pc' Ls (.ref a :: st) h' k' n') : Run l Z n0 own code maxL ret nm R Q pc Ls st h k n := by
  subst hp
  intro p e s m args below meth c T locs cells slots hC X eT hF hkk hnn
  obtain ⟨T', h', X', e', E, A, D, -, stp⟩ := newO X hC.1 hC.2.1 hC.2.2.1 w wi wz eT (g := mkF m pc Ls st) rfl (hb hC.2.2.2.1 hd) (by omega) (by omega)
  obtain ⟨s₂, v, L, g1, g2⟩ := nxt h' h.size rfl E A D p e s m args below meth c T' locs _ _ hC X' e' hF (by omega) (by omega)
  exact ⟨s₂, v, L, stp _ g1, g2⟩
theorem Run.initO {a0 : Array Value} {i : Nat} {a : Addr} (hd : decode code pc = .ok (.invokespecial i, 3)) (w1 : (Cond.methodLink own i Lib.objectInit).before a0 Z = true) (w2 : (Cond.instanceMethod Lib.objectInit).before a0 Z = true) (w3 : (Cond.code Lib.objectInit ⟨#[0xb1]⟩ 1 none).before a0 Z = true)
    (hsz : Ls.size = maxL) (hf : 1 ≤ R.frames) (hl : (st.map fun v => v.category).sum + 12 ≤ R.locals) (hp : pc + 3 = pc') (nxt : Run l Z n0 own code maxL ret nm R Q pc' Ls st h k n) : Run l Z n0 own code maxL ret nm R Q pc Ls (.ref a :: st) h k n := by
  subst hp
  exact Run.via (fun p e s m args below meth c T locs cells slots hC X eT => initO X hC.1 hC.2.1 hC.2.2.1 w1 w2 w3 eT (g := mkF m pc Ls (.ref a :: st)) rfl (hsz.trans hC.2.2.2.2.1.symm) rfl (hb hC.2.2.2.1 hd) hf (W := (st.map fun v => v.category).sum) (by show 2 * 0 + _ ≤ _; omega) hl) nxt
theorem Run.putF {a0 : Array Value} {R0 O f d host C : String} {i sl : Nat} {ty : FieldType} {a : Addr} {v old : Value} (hd : decode code pc = .ok (.putfield i, 3)) (w : (Cond.fieldLink own i R0 f d).before a0 Z = true ∨ (Cond.fieldLinkNest own i R0 f d host).before a0 Z = true) (via : Via Z R0 O f d) (F : Fld Z h a O f d old) (E : Exa Z h a C)
    (L : (Cond.lays C O f d).before a0 Z = true ∨ ((Cond.laysFinal C O f d).before a0 Z = true ∧ own = O ∧ nm = "<init>")) (wi : (Cond.instantiable C sl).before a0 Z = true) (hty : parseFieldDescriptor d = some ty) (hnv : narrow ty v = v) (hfv : fits ty v = true) (ha : n0 ≤ a) (hp : pc + 3 = pc')
    (nxt : ∀ h', Wr h h' a (Jvm.RoadKit.slotOf Z O f d) v → Run l Z n0 own code maxL ret nm R Q pc' Ls st h' k n) : Run l Z n0 own code maxL ret nm R Q pc Ls (v :: .ref a :: st) h k n := by
  subst hp
  exact Run.wr (fun p e s m args below meth c T locs cells slots hC X eT => putF X hC.1 hC.2.1 hC.2.2.1 w via eT F E (L.imp id fun q => ⟨q.1, q.2.1, hC.2.2.2.2.2.2.2.trans q.2.2⟩) wi hty hnv hfv (g := mkF m pc Ls (v :: .ref a :: st)) rfl rfl (hb hC.2.2.2.1 hd)) ha nxt
theorem Run.putFN {a0 : Array Value} {R0 O f d C : String} {i sl : Nat} {ty : FieldType} {a : Addr} {v v' old : Value} (hd : decode code pc = .ok (.putfield i, 3)) (w : (Cond.fieldLink own i R0 f d).before a0 Z = true) (via : Via Z R0 O f d) (F : Fld Z h a O f d old) (E : Exa Z h a C)
    (L : (Cond.lays C O f d).before a0 Z = true ∨ ((Cond.laysFinal C O f d).before a0 Z = true ∧ own = O ∧ nm = "<init>")) (wi : (Cond.instantiable C sl).before a0 Z = true) (hty : parseFieldDescriptor d = some ty) (hnv : narrow ty v = v') (hfv : fits ty v' = true) (ha : n0 ≤ a) (hp : pc + 3 = pc')
    (nxt : ∀ h', Wr h h' a (Jvm.RoadKit.slotOf Z O f d) v' → Run l Z n0 own code maxL ret nm R Q pc' Ls st h' k n) : Run l Z n0 own code maxL ret nm R Q pc Ls (v :: .ref a :: st) h k n := by
  subst hp
  exact Run.wr (fun p e s m args below meth c T locs cells slots hC X eT => putFN X hC.1 hC.2.1 hC.2.2.1 w via eT F E (L.imp id fun q => ⟨q.1, q.2.1, hC.2.2.2.2.2.2.2.trans q.2.2⟩) wi hty hnv hfv (g := mkF m pc Ls (v :: .ref a :: st)) rfl rfl (hb hC.2.2.2.1 hd)) ha nxt
theorem Run.castY {a0 : Array Value} {K : String} {i : Nat} {a : Addr} (hd : decode code pc = .ok (.checkcast i, 3)) (w : (Cond.classLink own i K).before a0 Z = true) (F : Ins Z h a K true) (hp : pc + 3 = pc') (nxt : Run l Z n0 own code maxL ret nm R Q pc' Ls (.ref a :: st) h k n) : Run l Z n0 own code maxL ret nm R Q pc Ls (.ref a :: st) h k n := by
  subst hp
  exact Run.via (fun p e s m args below meth c T locs cells slots hC X eT => castY X hC.1 hC.2.1 hC.2.2.1 w eT F (g := mkF m pc Ls (.ref a :: st)) rfl rfl (hb hC.2.2.2.1 hd)) nxt
theorem Run.castNull {i : Nat} (hd : decode code pc = .ok (.checkcast i, 3)) (hp : pc + 3 = pc') (nxt : Run l Z n0 own code maxL ret nm R Q pc' Ls (.null :: st) h k n) : Run l Z n0 own code maxL ret nm R Q pc Ls (.null :: st) h k n := by
  subst hp
  exact Run.via (fun p e s m args below meth c T locs cells slots hC X eT => ⟨T, X, eT, fun t q => X.checkcastNull hC.1 (g := mkF m pc Ls (.null :: st)) rfl rfl (hb hC.2.2.2.1 hd) t q⟩) nxt
theorem Run.instY {a0 : Array Value} {K : String} {i : Nat} {a : Addr} (hd : decode code pc = .ok (.instanceof i, 3)) (w : (Cond.classLink own i K).before a0 Z = true) (F : Ins Z h a K true) (hp : pc + 3 = pc') (nxt : Run l Z n0 own code maxL ret nm R Q pc' Ls (.int 1 :: st) h k n) : Run l Z n0 own code maxL ret nm R Q pc Ls (.ref a :: st) h k n := by
  subst hp
  exact Run.via (fun p e s m args below meth c T locs cells slots hC X eT => instY X hC.1 hC.2.1 hC.2.2.1 w eT F (g := mkF m pc Ls (.ref a :: st)) rfl rfl (hb hC.2.2.2.1 hd)) nxt
theorem Run.instNo {a0 : Array Value} {K C : String} {i : Nat} {a : Addr} (hd : decode code pc = .ok (.instanceof i, 3)) (w : (Cond.classLink own i K).before a0 Z = true) (E : Exa Z h a C) (F : ∃ c t, Z.vm.findClass C = some c ∧ Z.vm.findClass K = some t ∧ Z.vm.assignable c t = false) (hp : pc + 3 = pc') (nxt : Run l Z n0 own code maxL ret nm R Q pc' Ls (.int 0 :: st) h k n) : Run l Z n0 own code maxL ret nm R Q pc Ls (.ref a :: st) h k n := by
  subst hp
  exact Run.via (fun p e s m args below meth c T locs cells slots hC X eT => instNo X hC.1 hC.2.1 hC.2.2.1 w eT E F (g := mkF m pc Ls (.ref a :: st)) rfl rfl (hb hC.2.2.2.1 hd)) nxt
theorem Run.instNull {i : Nat} (hd : decode code pc = .ok (.instanceof i, 3)) (hp : pc + 3 = pc') (nxt : Run l Z n0 own code maxL ret nm R Q pc' Ls (.int 0 :: st) h k n) : Run l Z n0 own code maxL ret nm R Q pc Ls (.null :: st) h k n := by
  subst hp
  exact Run.via (fun p e s m args below meth c T locs cells slots hC X eT => ⟨T, X, eT, fun t q => X.instanceofNull hC.1 (g := mkF m pc Ls (.null :: st)) rfl rfl (hb hC.2.2.2.1 hd) t q⟩) nxt
/-- the array at a holds just the list vs -/
def Ary (Z : State) (h : Heap) (a : Addr) (ty : FieldType) (vs : List Value) : Prop := ∃ c : Cell, Arr Z h a c ty ∧ c.slots.toList = vs
section Ar
variable {h' : Heap} {a b : Addr} {ty : FieldType} {vs : List Value} {sl : Nat} {v : Value} {ws : List Addr}
theorem Ary.lt (F : Ary Z h a ty vs) : a < h.size := by obtain ⟨c, A, -⟩ := F; exact A.lt
theorem Ary.ext (F : Ary Z h a ty vs) (E : Ext h h') : Ary Z h' a ty vs := by obtain ⟨c, A, r⟩ := F; exact ⟨c, A.ext E, r⟩
theorem Ary.other (F : Ary Z h b ty vs) (W : Wr h h' a sl v) (q : b ≠ a) : Ary Z h' b ty vs := by obtain ⟨c, A, r⟩ := F; exact ⟨c, A.other W q, r⟩
theorem Ary.keep (F : Ary Z h a ty vs) (K : Keep h h' ws) (q : a ∉ ws) : Ary Z h' a ty vs := by obtain ⟨c, A, r⟩ := F; exact ⟨c, ⟨K.2.1 a c A.1 q, A.2⟩, r⟩
theorem Ary.set (F : Ary Z h a ty vs) (W : Wr h h' a sl v) : Ary Z h' a ty (vs.set sl v) := by
  obtain ⟨c, A, r⟩ := F
  exact ⟨_, A.same W, by rw [← r]; simp [Cell.setSlot]⟩
theorem Ext.refl (h : Heap) : Ext h h := ⟨Nat.le_refl _, fun _ _ q => q⟩
theorem Ext.trans {h0 : Heap} (E : Ext h0 h) (E' : Ext h h') : Ext h0 h' := ⟨Nat.le_trans E.1 E'.1, fun a c q => E'.2 a c (E.2 a c q)⟩
theorem Ext.wr {h0 : Heap} (E : Ext h0 h) (W : Wr h h' a sl v) (q : h0.size ≤ a) : Ext h0 h' := by
  refine ⟨Nat.le_trans E.1 (Nat.le_of_eq W.size.symm), fun b c hb => ?_⟩
  obtain ⟨c', e1, -, -, -, e5, -⟩ := wr_at W (E.2 b c hb)
  have : b ≠ a := fun z => by subst z; exact absurd (Array.getElem?_eq_some_iff.mp hb).1 (Nat.not_lt.mpr q)
  rw [← e5 this]; exact e1
theorem Ext.keep {h0 : Heap} (E : Ext h0 h) (K : Keep h h' ws) (q : ∀ x ∈ ws, h0.size ≤ x) : Ext h0 h' :=
  ⟨Nat.le_trans E.1 K.1, fun b c hb => K.2.1 b c (E.2 b c hb) fun z => absurd (Array.getElem?_eq_some_iff.mp hb).1 (Nat.not_lt.mpr (q b z))⟩
theorem Keep.toExt (K : Keep h h' []) : Ext h h' := ⟨K.1, fun b c hb => K.2.1 b c hb nin0⟩
theorem own_fitsR {t : FieldType} (ht : refKind t = true) (hv : v.isRef = true) : fits t v = true := by cases t <;> first | (cases ht; done) | (cases v <;> first | rfl | cases hv)
theorem nst_exa {C : String} (E : Exa Z h a C) : ∃ c : Cell, h[a]? = some c ∧ c.vm.isStatics = false := by obtain ⟨c, _, h1, -, -, h4, -⟩ := E; exact ⟨c, h1, h4⟩
theorem nst_ary (A : Ary Z h a ty vs) : ∃ c : Cell, h[a]? = some c ∧ c.vm.isStatics = false := by obtain ⟨c, A, -⟩ := A; exact ⟨c, A.1, A.plain⟩
theorem sta_keep {C f d : String} (F : Sta Z h C f d v) (K : Keep h h' ws) (q : ∀ x ∈ ws, ∃ c : Cell, h[x]? = some c ∧ c.vm.isStatics = false) : Sta Z h' C f d v := by
  obtain ⟨cf, i, k, f, st, cell, h1, h2, h3, h4, h5, h6, h7⟩ := F
  refine ⟨cf, i, k, f, st, cell, h1, h2, h3, h4, K.2.1 st cell h5 fun hx => ?_, h6, h7⟩
  obtain ⟨c, e1, e2⟩ := q st hx
  cases e1.symm.trans h5
  rw [h6] at e2; cases e2
theorem Keep.ofExt (E : Ext h h') : Keep h h' [] := (Keep.refl h []).ext E
theorem idxIn {c : Cell} {j : Int32} {i : Nat} (hj : j.toInt = (i : Int)) (hi : i < c.slots.size) : ¬ (j < 0 ∨ c.slots.size ≤ j.toNatClampNeg) ∧ j.toNatClampNeg = i := by
  have e : j.toNatClampNeg = i := by have : j.toNatClampNeg = j.toInt.toNat := rfl; rw [this, hj]; rfl
  refine ⟨fun q => ?_, e⟩
  rcases q with q | q
  · rw [Int32.lt_iff_toInt_lt, hj] at q; have : (0 : Int32).toInt = 0 := rfl; omega
  · omega
theorem sizeOf {c : Cell} (r : c.slots.toList = vs) : c.slots.size = vs.length := by rw [← r]; simp
theorem getOf {c : Cell} {i : Nat} (r : c.slots.toList = vs) (hv : vs[i]? = some v) : c.slots[i]? = some v := by rw [← r] at hv; simpa using hv
end Ar
theorem ns_root {a0 : Array Value} {O K : String} {m : Nat} (w : (Cond.noSuperclass O).before a0 Z = true) (wk : (Cond.instantiable K m).before a0 Z = true) (hn : O ≠ K) : NS Z O K := by
  obtain ⟨c, k, h1, h2, h3, -, -⟩ := Cond.noSuperclass_spec w
  obtain ⟨t, k2, g1, -⟩ := Cond.instantiable_spec wk
  have ne := ids_ne h1 g1 hn
  refine ⟨c, t, h1, g1, fun fuel => ?_⟩
  cases fuel with
  | zero => rfl
  | succ f => simp [Vm.isSubclassAux, ne, h2, h3]
theorem ns_no {a0 : Array Value} {C S K : String} {m : Nat} (w : (Cond.superclass C S).before a0 Z = true) (wk : (Cond.instantiable K m).before a0 Z = true) (n : NS Z C K) (hn : C ≠ K) : ∃ c t, Z.vm.findClass C = some c ∧ Z.vm.findClass K = some t ∧ Z.vm.assignable c t = false := by
  obtain ⟨c, t, h0, g0, n3⟩ := n
  obtain ⟨p, k, kp, h1, h2, h3, h4, h5, -, h7⟩ := Cond.superclass_spec h0 w
  obtain ⟨t', k', g1, g2, g5, g7, -⟩ := Cond.instantiable_spec wk
  cases g0.symm.trans g1
  have ne := ids_ne h0 g0 hn
  have g8 : k'.isInterface = false := by cases hq : k'.isInterface <;> simp [hq] at g7 ⊢
  refine ⟨c, t, h0, g0, ?_⟩
  show Z.vm.assignableAux (255 + 1) c t = false
  simp [Vm.assignableAux, ne, h2, g2, h5, g5, g8, Vm.isSubclass, n3]
theorem Run.alen {a : Addr} {ty : FieldType} {vs : List Value} {z : Int32} (hd : decode code pc = .ok (.arraylength, 1)) (A : Ary Z h a ty vs) (hz : vs.length.toInt32 = z) (hp : pc + 1 = pc') (nxt : Run l Z n0 own code maxL ret nm R Q pc' Ls (.int z :: st) h k n) : Run l Z n0 own code maxL ret nm R Q pc Ls (.ref a :: st) h k n := by
  subst hp hz
  obtain ⟨c0, A, r⟩ := A
  exact Run.via (fun p e s m args below meth c T locs cells slots hC X eT => ⟨T, X, eT, fun t q => X.arraylength hC.1 (by rw [eT]; exact A.1) (State.isArrayOf_alike hC.2.1.alike A.2.1) (g := mkF m pc Ls (.ref a :: st)) rfl rfl (hb hC.2.2.2.1 hd) t (by rw [sizeOf r]; exact q)⟩) nxt
theorem Run.iaload {a : Addr} {vs : List Value} {j : Int32} {i : Nat} {v : Value} (hd : decode code pc = .ok (.iaload, 1)) (A : Ary Z h a .int vs) (hj : j.toInt = (i : Int)) (hv : vs[i]? = some v) (hp : pc + 1 = pc') (nxt : Run l Z n0 own code maxL ret nm R Q pc' Ls (v :: st) h k n) : Run l Z n0 own code maxL ret nm R Q pc Ls (.int j :: .ref a :: st) h k n := by
  subst hp
  obtain ⟨c0, A, r⟩ := A
  obtain ⟨hin, e0⟩ := idxIn (c := c0) hj (by rw [sizeOf r]; exact (List.getElem?_eq_some_iff.mp hv).1)
  exact Run.via (fun p e s m args below meth c T locs cells slots hC X eT => ⟨T, X, eT, fun t q => X.iaload hC.1 (by rw [eT]; exact A.1) (State.isArrayOf_alike hC.2.1.alike A.2.1) A.2.2 hin (by rw [e0]; exact getOf r hv) (g := mkF m pc Ls (.int j :: .ref a :: st)) rfl rfl (hb hC.2.2.2.1 hd) t q⟩) nxt
theorem Run.laload {a : Addr} {vs : List Value} {j : Int32} {i : Nat} {v : Value} (hd : decode code pc = .ok (.laload, 1)) (A : Ary Z h a .long vs) (hj : j.toInt = (i : Int)) (hv : vs[i]? = some v) (hp : pc + 1 = pc') (nxt : Run l Z n0 own code maxL ret nm R Q pc' Ls (v :: st) h k n) : Run l Z n0 own code maxL ret nm R Q pc Ls (.int j :: .ref a :: st) h k n := by
  subst hp
  obtain ⟨c0, A, r⟩ := A
  obtain ⟨hin, e0⟩ := idxIn (c := c0) hj (by rw [sizeOf r]; exact (List.getElem?_eq_some_iff.mp hv).1)
  exact Run.via (fun p e s m args below meth c T locs cells slots hC X eT => ⟨T, X, eT, fun t q => X.laload hC.1 (by rw [eT]; exact A.1) (State.isArrayOf_alike hC.2.1.alike A.2.1) A.2.2 hin (by rw [e0]; exact getOf r hv) (g := mkF m pc Ls (.int j :: .ref a :: st)) rfl rfl (hb hC.2.2.2.1 hd) t q⟩) nxt
theorem Run.caload {a : Addr} {vs : List Value} {j : Int32} {i : Nat} {v : Value} (hd : decode code pc = .ok (.caload, 1)) (A : Ary Z h a .char vs) (hj : j.toInt = (i : Int)) (hv : vs[i]? = some v) (hp : pc + 1 = pc') (nxt : Run l Z n0 own code maxL ret nm R Q pc' Ls (v :: st) h k n) : Run l Z n0 own code maxL ret nm R Q pc Ls (.int j :: .ref a :: st) h k n := by
  subst hp
  obtain ⟨c0, A, r⟩ := A
  obtain ⟨hin, e0⟩ := idxIn (c := c0) hj (by rw [sizeOf r]; exact (List.getElem?_eq_some_iff.mp hv).1)
  exact Run.via (fun p e s m args below meth c T locs cells slots hC X eT => ⟨T, X, eT, fun t q => X.caload hC.1 (by rw [eT]; exact A.1) (State.isArrayOf_alike hC.2.1.alike A.2.1) A.2.2 hin (by rw [e0]; exact getOf r hv) (g := mkF m pc Ls (.int j :: .ref a :: st)) rfl rfl (hb hC.2.2.2.1 hd) t q⟩) nxt
theorem Run.saload {a : Addr} {vs : List Value} {j : Int32} {i : Nat} {v : Value} (hd : decode code pc = .ok (.saload, 1)) (A : Ary Z h a .short vs) (hj : j.toInt = (i : Int)) (hv : vs[i]? = some v) (hp : pc + 1 = pc') (nxt : Run l Z n0 own code maxL ret nm R Q pc' Ls (v :: st) h k n) : Run l Z n0 own code maxL ret nm R Q pc Ls (.int j :: .ref a :: st) h k n := by
  subst hp
  obtain ⟨c0, A, r⟩ := A
  obtain ⟨hin, e0⟩ := idxIn (c := c0) hj (by rw [sizeOf r]; exact (List.getElem?_eq_some_iff.mp hv).1)
  exact Run.via (fun p e s m args below meth c T locs cells slots hC X eT => ⟨T, X, eT, fun t q => X.saload hC.1 (by rw [eT]; exact A.1) (State.isArrayOf_alike hC.2.1.alike A.2.1) A.2.2 hin (by rw [e0]; exact getOf r hv) (g := mkF m pc Ls (.int j :: .ref a :: st)) rfl rfl (hb hC.2.2.2.1 hd) t q⟩) nxt
theorem Run.baload {a : Addr} {vs : List Value} {j : Int32} {i : Nat} {v : Value} (hd : decode code pc = .ok (.baload, 1)) (A : Ary Z h a .byte vs) (hj : j.toInt = (i : Int)) (hv : vs[i]? = some v) (hp : pc + 1 = pc') (nxt : Run l Z n0 own code maxL ret nm R Q pc' Ls (v :: st) h k n) : Run l Z n0 own code maxL ret nm R Q pc Ls (.int j :: .ref a :: st) h k n := by
  subst hp
  obtain ⟨c0, A, r⟩ := A
  obtain ⟨hin, e0⟩ := idxIn (c := c0) hj (by rw [sizeOf r]; exact (List.getElem?_eq_some_iff.mp hv).1)
  exact Run.via (fun p e s m args below meth c T locs cells slots hC X eT => ⟨T, X, eT, fun t q => X.baloadBytes hC.1 (by rw [eT]; exact A.1) (State.isArrayOf_alike hC.2.1.alike A.2.1) A.2.2 hin (by rw [e0]; exact getOf r hv) (g := mkF m pc Ls (.int j :: .ref a :: st)) rfl rfl (hb hC.2.2.2.1 hd) t q⟩) nxt
theorem Run.aaload {a : Addr} {vs : List Value} {j : Int32} {i : Nat} {v : Value} {ty : FieldType} (hd : decode code pc = .ok (.aaload, 1)) (A : Ary Z h a ty vs) (hty : ty.isReference = true) (hj : j.toInt = (i : Int)) (hv : vs[i]? = some v) (hp : pc + 1 = pc') (nxt : Run l Z n0 own code maxL ret nm R Q pc' Ls (v :: st) h k n) : Run l Z n0 own code maxL ret nm R Q pc Ls (.int j :: .ref a :: st) h k n := by
  subst hp
  obtain ⟨c0, A, r⟩ := A
  obtain ⟨hin, e0⟩ := idxIn (c := c0) hj (by rw [sizeOf r]; exact (List.getElem?_eq_some_iff.mp hv).1)
  exact Run.via (fun p e s m args below meth c T locs cells slots hC X eT => ⟨T, X, eT, fun t q => X.aaload hC.1 (by rw [eT]; exact A.1) (State.isArrayOf_alike hC.2.1.alike A.2.1) hty A.2.2 hin (by rw [e0]; exact getOf r hv) (g := mkF m pc Ls (.int j :: .ref a :: st)) rfl rfl (hb hC.2.2.2.1 hd) t q⟩) nxt
theorem Run.iastore {a : Addr} {vs : List Value} {j : Int32} {i : Nat} {x : Int32} (hd : decode code pc = .ok (.iastore, 1)) (A : Ary Z h a .int vs) (hj : j.toInt = (i : Int)) (hi : i < vs.length) (ha : n0 ≤ a) (hp : pc + 1 = pc') (nxt : ∀ h', Wr h h' a i (.int x) → Ary Z h' a .int (vs.set i (.int x)) → Run l Z n0 own code maxL ret nm R Q pc' Ls st h' k n) : Run l Z n0 own code maxL ret nm R Q pc Ls (.int x :: .int j :: .ref a :: st) h k n := by
  subst hp
  have A' := A
  obtain ⟨c0, A, r⟩ := A
  obtain ⟨hin, e0⟩ := idxIn (c := c0) hj (by rw [sizeOf r]; exact hi)
  refine Run.wr (fun p e s m args below meth c T locs cells slots hC X eT => ?_) ha (fun h' W => nxt h' W (A'.set W))
  have q := stI X hC.1 hC.2.1 eT A hin (g := mkF m pc Ls (.int x :: .int j :: .ref a :: st)) rfl rfl (hb hC.2.2.2.1 hd)
  rw [e0] at q
  exact q
theorem Run.lastore {a : Addr} {vs : List Value} {j : Int32} {i : Nat} {x : Int64} (hd : decode code pc = .ok (.lastore, 1)) (A : Ary Z h a .long vs) (hj : j.toInt = (i : Int)) (hi : i < vs.length) (ha : n0 ≤ a) (hp : pc + 1 = pc') (nxt : ∀ h', Wr h h' a i (.long x) → Ary Z h' a .long (vs.set i (.long x)) → Run l Z n0 own code maxL ret nm R Q pc' Ls st h' k n) : Run l Z n0 own code maxL ret nm R Q pc Ls (.long x :: .int j :: .ref a :: st) h k n := by
  subst hp
  have A' := A
  obtain ⟨c0, A, r⟩ := A
  obtain ⟨hin, e0⟩ := idxIn (c := c0) hj (by rw [sizeOf r]; exact hi)
  refine Run.wr (fun p e s m args below meth c T locs cells slots hC X eT => ?_) ha (fun h' W => nxt h' W (A'.set W))
  have q := stJ X hC.1 hC.2.1 eT A hin (g := mkF m pc Ls (.long x :: .int j :: .ref a :: st)) rfl rfl (hb hC.2.2.2.1 hd)
  rw [e0] at q
  exact q
theorem Run.castore {a : Addr} {vs : List Value} {j : Int32} {i : Nat} {x : Int32} (hd : decode code pc = .ok (.castore, 1)) (A : Ary Z h a .char vs) (hj : j.toInt = (i : Int)) (hi : i < vs.length) (ha : n0 ≤ a) (hp : pc + 1 = pc') (nxt : ∀ h', Wr h h' a i (.int (nar .char x)) → Ary Z h' a .char (vs.set i (.int (nar .char x))) → Run l Z n0 own code maxL ret nm R Q pc' Ls st h' k n) : Run l Z n0 own code maxL ret nm R Q pc Ls (.int x :: .int j :: .ref a :: st) h k n := by
  subst hp
  have A' := A
  obtain ⟨c0, A, r⟩ := A
  obtain ⟨hin, e0⟩ := idxIn (c := c0) hj (by rw [sizeOf r]; exact hi)
  refine Run.wr (fun p e s m args below meth c T locs cells slots hC X eT => ?_) ha (fun h' W => nxt h' W (A'.set W))
  have q := stC X hC.1 hC.2.1 eT A hin (g := mkF m pc Ls (.int x :: .int j :: .ref a :: st)) rfl rfl (hb hC.2.2.2.1 hd)
  rw [e0] at q
  exact q
theorem Run.sastore {a : Addr} {vs : List Value} {j : Int32} {i : Nat} {x : Int32} (hd : decode code pc = .ok (.sastore, 1)) (A : Ary Z h a .short vs) (hj : j.toInt = (i : Int)) (hi : i < vs.length) (ha : n0 ≤ a) (hp : pc + 1 = pc') (nxt : ∀ h', Wr h h' a i (.int (nar .short x)) → Ary Z h' a .short (vs.set i (.int (nar .short x))) → Run l Z n0 own code maxL ret nm R Q pc' Ls st h' k n) : Run l Z n0 own code maxL ret nm R Q pc Ls (.int x :: .int j :: .ref a :: st) h k n := by
  subst hp
  have A' := A
  obtain ⟨c0, A, r⟩ := A
  obtain ⟨hin, e0⟩ := idxIn (c := c0) hj (by rw [sizeOf r]; exact hi)
  refine Run.wr (fun p e s m args below meth c T locs cells slots hC X eT => ?_) ha (fun h' W => nxt h' W (A'.set W))
  have q := stS X hC.1 hC.2.1 eT A hin (g := mkF m pc Ls (.int x :: .int j :: .ref a :: st)) rfl rfl (hb hC.2.2.2.1 hd)
  rw [e0] at q
  exact q
theorem Run.bastore {a : Addr} {vs : List Value} {j : Int32} {i : Nat} {x : Int32} (hd : decode code pc = .ok (.bastore, 1)) (A : Ary Z h a .byte vs) (hj : j.toInt = (i : Int)) (hi : i < vs.length) (ha : n0 ≤ a) (hp : pc + 1 = pc') (nxt : ∀ h', Wr h h' a i (.int (nar .byte x)) → Ary Z h' a .byte (vs.set i (.int (nar .byte x))) → Run l Z n0 own code maxL ret nm R Q pc' Ls st h' k n) : Run l Z n0 own code maxL ret nm R Q pc Ls (.int x :: .int j :: .ref a :: st) h k n := by
  subst hp
  have A' := A
  obtain ⟨c0, A, r⟩ := A
  obtain ⟨hin, e0⟩ := idxIn (c := c0) hj (by rw [sizeOf r]; exact hi)
  refine Run.wr (fun p e s m args below meth c T locs cells slots hC X eT => ?_) ha (fun h' W => nxt h' W (A'.set W))
  have q := stB X hC.1 hC.2.1 eT A hin (g := mkF m pc Ls (.int x :: .int j :: .ref a :: st)) rfl rfl (hb hC.2.2.2.1 hd)
  rw [e0] at q
  exact q
theorem Run.newP {a0 : Array Value} {aty : ArrayType} {ty : FieldType} {z : Int32} {cap m : Nat} {dv : Value} (hd : decode code pc = .ok (.newarray aty, 2)) (hty : newarray.typeOf aty = ty) (w : (Cond.arrayClass ty).before a0 Z = true) (hz : ¬ z < 0) (hcap : z.toNatClampNeg = m) (hm : m ≤ cap) (hdv : defaultValue ty = dv) (hcb : cap * 8 ≤ 536870912)
    (hk : k + 1 ≤ k') (hk' : k' ≤ R.cells) (hn : n + cap ≤ n') (hn' : n' ≤ R.slots) (hp : pc + 2 = pc')
    (nxt : ∀ h' a, a = h.size → Ext h h' → Ary Z h' a ty (List.replicate m dv) → Run l Z n0 own code maxL ret nm R Q pc' Ls (.ref a :: st) h' k' n') : Run l Z n0 own code maxL ret nm R Q pc Ls (.int z :: st) h k n := by
  subst hp hty hdv
  intro p e s m args below meth c T locs cells slots hC X eT hF hkk hnn
  obtain ⟨T', h', cA, X', e', E, A, stp⟩ := newP X hC.1 hC.2.1 w eT (g := mkF m pc Ls (.int z :: st)) rfl (hb hC.2.2.2.1 hd) rfl hz (by omega) hcb (by omega) (by omega)
  obtain ⟨s₂, v, L, g1, g2⟩ := nxt h' h.size rfl E ⟨_, A, by simp [newA, hcap]⟩ p e s m args below meth c T' locs _ _ hC X' e' hF (by omega) (by omega)
  exact ⟨s₂, v, L, stp _ g1, g2⟩
theorem Ary.toArv {h : Heap} {a : Addr} {ty : FieldType} {vs : List Value} {z : Int32} (dv : Value) (F : Ary Z h a ty vs) (hz : z.toInt = (vs.length : Int)) (hf : ∀ v ∈ vs, fits ty v = true) : ∃ kc, Arv Z h a kc ty z vs dv := by
  obtain ⟨c, A, r⟩ := F
  have hsz := sizeOf r
  have e : z.toNatClampNeg = vs.length := by have : z.toNatClampNeg = z.toInt.toNat := rfl; rw [this, hz]; rfl
  refine ⟨c.cls, c, A, rfl, by rw [e, hsz], ?_, fun j hj => ?_, fun j hj => ?_⟩
  · rw [Int32.lt_iff_toInt_lt, hz]; have : (0 : Int32).toInt = 0 := rfl; omega
  · have hj' : j < vs.length := by omega
    rw [getOf r (List.getElem?_eq_getElem hj')]
    simp [List.getD_eq_getElem?_getD, List.getElem?_eq_getElem hj']
  · have hj' : j < vs.length := by omega
    have q := hf _ (List.getElem_mem hj')
    simpa [List.getD_eq_getElem?_getD, List.getElem?_eq_getElem hj'] using q
theorem Ary.ofArv {h : Heap} {a : Addr} {ty : FieldType} {vs : List Value} {z : Int32} {dv : Value} {kc : ClassId} (F : Arv Z h a kc ty z vs dv) (hz : z.toInt = (vs.length : Int)) : Ary Z h a ty vs := by
  obtain ⟨c, A, -, S, -, H, -⟩ := F
  have e : z.toNatClampNeg = vs.length := by have : z.toNatClampNeg = z.toInt.toNat := rfl; rw [this, hz]; rfl
  refine ⟨c, A, List.ext_getElem? fun j => ?_⟩
  by_cases hj : j < vs.length
  · have q := H j (by omega)
    rw [Array.getElem?_toList, q]
    simp [List.getD_eq_getElem?_getD, List.getElem?_eq_getElem hj]
  · rw [List.getElem?_eq_none (l := c.slots.toList) (by rw [Array.length_toList]; omega), List.getElem?_eq_none (l := vs) (by omega)]
/-- System.arraycopy(a, 0, b, 0, a.length) of plain components -/
theorem Run.acopy {a0 : Array Value} {i : Nat} {a b : Addr} {ty : FieldType} {vs us : List Value} {z z' : Int32} (hd : decode code pc = .ok (.invokestatic i, 3)) (w1 : (Cond.methodLink own i Jvm.Stand.acN).before a0 Z = true) (w2 : (Cond.native Jvm.Stand.acN).before a0 Z = true) (w3 : (Cond.static Jvm.Stand.acN).before a0 Z = true) (w4 : (Cond.initialized "java/lang/System").before a0 Z = true)
    (A : Ary Z h a ty vs) (B : Ary Z h b ty us) (hk : refKind ty = false) (hz : z.toInt = (vs.length : Int)) (hz' : z'.toInt = (us.length : Int)) (hle : vs.length ≤ us.length) (fa : ∀ v ∈ vs, fits ty v = true) (fb : ∀ v ∈ us, fits ty v = true) (ge : n0 ≤ b)
    (hsz : Ls.size = maxL) (hf : 1 ≤ R.frames) (hl : (st.map fun v => v.category).sum + (nativeFrameWords "java/lang/System" "arraycopy" 5 + 11) ≤ R.locals) (hp : pc + 3 = pc')
    (nxt : ∀ h', Keep h h' [b] → Ary Z h' b ty (vs ++ us.drop vs.length) → Run l Z n0 own code maxL ret nm R Q pc' Ls st h' k n) : Run l Z n0 own code maxL ret nm R Q pc Ls (.int z :: .int 0 :: .ref b :: .int 0 :: .ref a :: st) h k n := by
  subst hp
  intro p e s m args below meth c T locs cells slots hC X eT hF hkk hnn
  obtain ⟨k1, A1⟩ := A.toArv (z := z) .null hz fa
  obtain ⟨k2, B1⟩ := B.toArv (z := z') .null hz' fb
  have e1 : z.toNatClampNeg = vs.length := by have : z.toNatClampNeg = z.toInt.toNat := rfl; rw [this, hz]; rfl
  have e2 : z'.toNatClampNeg = us.length := by have : z'.toNatClampNeg = z'.toInt.toNat := rfl; rw [this, hz']; rfl
  have e0 : (0 : Int32).toNatClampNeg = 0 := rfl
  have n1 : ¬ z < 0 := by rw [Int32.lt_iff_toInt_lt, hz]; have : (0 : Int32).toInt = 0 := rfl; omega
  have hus : vs = (List.range z.toNatClampNeg).map fun j => vs.getD ((0 : Int32).toNatClampNeg + j) .null := by
    rw [e1, e0]
    apply List.ext_getElem?
    intro j
    by_cases hj : j < vs.length
    · simp [hj, List.getD_eq_getElem?_getD]
    · rw [List.getElem?_eq_none (by omega), List.getElem?_eq_none (by simp; omega)]
  obtain ⟨T', h', L, X', e', N', K, B', stp⟩ := cpA X hC.1 hC.2.1 hC.2.2.1 w1 w2 w3 w4 eT A1 B1 (Or.inl ⟨rfl, hk⟩) (by decide) (by decide) n1 (by rw [e0]; omega) (by rw [e0]; omega) hus (by rw [e0]; omega) hF ge (g := mkF m pc Ls (.int z :: .int 0 :: .ref b :: .int 0 :: .ref a :: st)) rfl (hsz.trans hC.2.2.2.2.1.symm) rfl (hb hC.2.2.2.1 hd) hf (W := (st.map fun v => v.category).sum) (by show 2 * 0 + _ ≤ _; omega) hl
  have hB : Ary Z h' b ty (vs ++ us.drop vs.length) := by
    have q : us.take (0 : Int32).toNatClampNeg ++ vs ++ us.drop ((0 : Int32).toNatClampNeg + z.toNatClampNeg) = vs ++ us.drop vs.length := by rw [e0, e1]; simp
    rw [q] at B'
    exact Ary.ofArv B' (by rw [hz']; simp; omega)
  obtain ⟨s₂, v, L2, g1, g2⟩ := nxt h' K hB p e s m args below meth c T' L cells slots hC X' e' N' hkk hnn
  exact ⟨s₂, v, L2, stp _ g1, g2⟩
/-- System.arraycopy of a part -/
theorem Run.acopyG {a0 : Array Value} {ix i j m : Nat} {a b : Addr} {ty : FieldType} {vs us : List Value} {z z1 z' sp dp : Int32} (hd : decode code pc = .ok (.invokestatic ix, 3)) (w1 : (Cond.methodLink own ix Jvm.Stand.acN).before a0 Z = true) (w2 : (Cond.native Jvm.Stand.acN).before a0 Z = true) (w3 : (Cond.static Jvm.Stand.acN).before a0 Z = true) (w4 : (Cond.initialized "java/lang/System").before a0 Z = true)
    (A : Ary Z h a ty vs) (B : Ary Z h b ty us) (hk : refKind ty = false) (hz1 : z1.toInt = (vs.length : Int)) (hz' : z'.toInt = (us.length : Int)) (hz : z.toInt = (m : Int)) (hsp : sp.toInt = (i : Int)) (hdp : dp.toInt = (j : Int)) (hle : i + m ≤ vs.length) (hle' : j + m ≤ us.length) (fa : ∀ v ∈ vs, fits ty v = true) (fb : ∀ v ∈ us, fits ty v = true) (ge : n0 ≤ b)
    (hsz : Ls.size = maxL) (hf : 1 ≤ R.frames) (hl : (st.map fun v => v.category).sum + (nativeFrameWords "java/lang/System" "arraycopy" 5 + 11) ≤ R.locals) (hp : pc + 3 = pc')
    (nxt : ∀ h', Keep h h' [b] → Ary Z h' b ty (us.take j ++ (vs.drop i).take m ++ us.drop (j + m)) → Run l Z n0 own code maxL ret nm R Q pc' Ls st h' k n) : Run l Z n0 own code maxL ret nm R Q pc Ls (.int z :: .int dp :: .ref b :: .int sp :: .ref a :: st) h k n := by
  subst hp
  intro p e s m' args below meth c T locs cells slots hC X eT hF hkk hnn
  obtain ⟨k1, A1⟩ := A.toArv (z := z1) .null hz1 fa
  obtain ⟨k2, B1⟩ := B.toArv (z := z') .null hz' fb
  have cl : ∀ {x : Int32} {q : Nat}, x.toInt = (q : Int) → x.toNatClampNeg = q ∧ ¬ x < 0 := fun {x q} hx => ⟨by have : x.toNatClampNeg = x.toInt.toNat := rfl; rw [this, hx]; rfl, by rw [Int32.lt_iff_toInt_lt, hx]; have : (0 : Int32).toInt = 0 := rfl; omega⟩
  have e0 := cl hz; have e1 := cl hz1; have e2 := cl hz'; have e3 := cl hsp; have e4 := cl hdp
  have hus : (vs.drop i).take m = (List.range z.toNatClampNeg).map fun q => vs.getD (sp.toNatClampNeg + q) .null := by
    rw [e0.1, e3.1]
    apply List.ext_getElem?
    intro q
    by_cases hj : q < m
    · rw [List.getElem?_take_of_lt hj, List.getElem?_drop]; simp [hj, List.getD_eq_getElem?_getD, show i + q < vs.length by omega]
    · rw [List.getElem?_eq_none (by simp; omega), List.getElem?_eq_none (by simp; omega)]
  obtain ⟨T', h', L, X', e', N', K, B', stp⟩ := cpA X hC.1 hC.2.1 hC.2.2.1 w1 w2 w3 w4 eT A1 B1 (Or.inl ⟨rfl, hk⟩) e3.2 e4.2 e0.2 (by rw [e0.1, e1.1, e3.1]; exact hle) (by rw [e0.1, e2.1, e4.1]; exact hle') hus (by rw [e0.1, e4.1]; exact hle') hF ge (g := mkF m' pc Ls (.int z :: .int dp :: .ref b :: .int sp :: .ref a :: st)) rfl (hsz.trans hC.2.2.2.2.1.symm) rfl (hb hC.2.2.2.1 hd) hf (W := (st.map fun v => v.category).sum) (by show 2 * 0 + _ ≤ _; omega) hl
  rw [e4.1, e0.1] at B'
  have hB := Ary.ofArv B' (by rw [hz']; simp; omega)
  obtain ⟨s₂, v, L2, g1, g2⟩ := nxt h' K hB p e s m' args below meth c T' L cells slots hC X' e' N' hkk hnn
  exact ⟨s₂, v, L2, stp _ g1, g2⟩
/-- clone of an array -/
theorem Run.aclone {a0 : Array Value} {i cap : Nat} {a : Addr} {ty : FieldType} {cl : Cell} {ad : String} (hd : decode code pc = .ok (.invokevirtual i, 3)) (w1 : (Cond.methodLink own i ⟨ad, "clone", "()Ljava/lang/Object;"⟩).before a0 Z = true) (w2 : (Cond.sameMethod ad "java/lang/Object" "clone" "()Ljava/lang/Object;").before a0 Z = true) (w3 : (Cond.native ⟨"java/lang/Object", "clone", "()Ljava/lang/Object;"⟩).before a0 Z = true)
    (w4 : (Cond.instanceMethod ⟨"java/lang/Object", "clone", "()Ljava/lang/Object;"⟩).before a0 Z = true) (w5 : (Cond.selects ad ⟨ad, "clone", "()Ljava/lang/Object;"⟩ ⟨"java/lang/Object", "clone", "()Ljava/lang/Object;"⟩).before a0 Z = true) (w6 : (Cond.castable ad "java/lang/Cloneable").before a0 Z = true)
    (A : Arr Z h a cl ty) (E : Exa Z h a ad) (F : FitC Z cl) (hsz : Ls.size = maxL) (hf : 1 ≤ R.frames) (hl : (st.map fun v => v.category).sum + 14 ≤ R.locals) (hcap : cl.slots.size ≤ cap) (hk : k + 1 ≤ k') (hk' : k' ≤ R.cells) (hn : n + cap ≤ n') (hn' : n' ≤ R.slots) (hp : pc + 3 = pc')
    (nxt : ∀ h' b, b = h.size → Ext h h' → Ary Z h' b ty cl.slots.toList → Exa Z h' b ad → Run l Z n0 own code maxL ret nm R Q pc' Ls (.ref b :: st) h' k' n') : Run l Z n0 own code maxL ret nm R Q pc Ls (.ref a :: st) h k n := by
  subst hp
  intro p e s m args below meth c T locs cells slots hC X eT hF hkk hnn
  obtain ⟨T', h', X', e', E', A', X2, stp⟩ := cloneA X hC.1 hC.2.1 hC.2.2.1 w1 w2 w3 w4 w5 w6 eT A E F (g := mkF m pc Ls (.ref a :: st)) rfl (hsz.trans hC.2.2.2.2.1.symm) rfl (hb hC.2.2.2.1 hd) hf (W := (st.map fun v => v.category).sum) (by show 2 * 0 + _ ≤ _; omega) hl hcap (by omega) (by omega)
  obtain ⟨s₂, v, L, g1, g2⟩ := nxt h' h.size rfl E' ⟨_, A', rfl⟩ X2 p e s m args below meth c T' locs _ _ hC X' e' hF (by omega) (by omega)
  exact ⟨s₂, v, L, stp _ g1, g2⟩
end Walk
end Jvm.GoKit
namespace Jvm.GoKit
open Sem ClassFile Op Lib Jvm.Stand Jvm.Free Jvm.LawKit Jvm.RoadKit
/-! the wide twin: walks that may load String constants cold; vm: the tables as they stand but for what is warmed narrowly -/
def GoW (p : Program) (e : Env) (below : List Frame) (Z s : State) (EL : List (String × Nat)) (n0 K N : Nat) (Q : Option Value → Heap → Prop) (S : State) : Prop :=
  ∃ s₂ v L, Steps p.tables e below S s₂ ∧ s₂.status = .running ∧ Ended s₂ below (.returned v) ∧ (Q v s₂.heap ∧ Fr n0 L) ∧ CHr Z EL s.vm s.heap s₂.vm s₂.heap ∧ ReturnedEndW s (.returned v) s₂ L K N
def RunW (l : Launch) (Z : State) (EL : List (String × Nat)) (n0 : Nat) (own : String) (code : ByteArray) (maxL : Nat) (ret : Option FieldType) (nm : String) (R : Room) (Q : Option Value → Heap → Prop) (pc : Nat) (Ls : Array Slot) (st : List Value) (h : Heap) (vm : Vm) (k n : Nat) : Prop :=
  ∀ (p : Program) (e : Env) (s : State) (m : MethodId) (args : Array Value) (below : List Frame) (meth : Method) (c : Code) (T : State) (locs : List Loc) (cells slots k0 : Nat),
    Ctx Z own code maxL ret nm p (s.setVm vm) m meth c → Stand p l e R (s.setVm vm) m args below meth c T locs cells slots → s.Since vm k0 → k0 ≤ h.size → CHr Z EL s.vm s.heap vm h → (∃ a0, EW Z a0 EL) → T.heap = h → Fr n0 locs → cells ≤ k → slots ≤ n →
    GoW p e below Z s EL n0 R.cells R.slots Q (T.setTop (mkF m pc Ls st))
def ConW (l : Launch) (Z : State) (EL : List (String × Nat)) (n0 : Nat) (y : MethodName) (bytes : ByteArray) (maxL : Nat) (ret : Option FieldType) (rm : Room) (as : Array Value) (h : Heap) (sf : List Addr) (Q : Option Value → Heap → Prop) : Prop :=
  ∀ ws, MetFree l y (head1 (Cond.code y bytes maxL ret :: ws) rm) (fun a U => a = as ∧ Z.Warmed39 U.vm ∧ U.heap = h ∧ CHv Z EL U.vm h ∧ ∀ x ∈ sf, Safe Z EL U.vm h x) (fun _ _ _ _ _ => True) (fun _ U o U' => ∃ v L, o = .returned v ∧ (Q v U'.heap ∧ Fr n0 L) ∧ CHr Z EL U.vm U.heap U'.vm U'.heap ∧ ReturnedEndW U o U' L rm.cells rm.slots)
theorem since_refl (s : State) : s.Since s.vm s.heap.size := ⟨State.Warmed39.refl s, fun j p hj hp => absurd (Array.getElem?_eq_some_iff.mp hp).1 (Nat.not_lt.mpr hj)⟩
theorem setVm_self (s : State) : s.setVm s.vm = s := rfl
section WalkW
variable {l : Launch} {Z : State} {EL : List (String × Nat)} {n0 : Nat} {own : String} {code : ByteArray} {maxL : Nat} {ret : Option FieldType} {nm : String} {R : Room} {Q : Option Value → Heap → Prop} {pc pc' : Nat} {Ls : Array Slot} {st : List Value} {h : Heap} {vm : Vm} {k n k' n' : Nat}
theorem ConW.of_run {y : MethodName} {bytes : ByteArray} {rm : Room} {as : Array Value} {sf : List Addr} {a0 : Array Value} (hEL : EW Z a0 EL)
    (hp : plainFor y = true) (he : ∀ m, entryFrame m as maxL = mkF m 0 Ls []) (run : ∀ vm, Z.vm.Alike vm → (∀ x ∈ sf, Safe Z EL vm h x) → RunW l Z EL n0 y.cls bytes maxL ret y.name rm Q 0 Ls [] h vm 0 0) : ConW l Z EL n0 y bytes maxL ret rm as h sf Q := by
  intro ws
  refine MetFree.of_bodySF hp hisR ?_
  intro p e s m args below meth c s₁ Bd hml0 hP hK
  obtain ⟨rfl, hZ, hh, hC, hsf⟩ := hP
  have hh2 : s₁.heap = h := by rw [← hh, Bd.state]; rfl
  obtain ⟨s₂, v, L, h1, h2, h3, h4, h5, h6⟩ := run s.vm hZ.alike hsf p e s m _ below meth c s₁ [] 0 0 s.heap.size ⟨Bd.exec, hZ, findClass_of_methodNamed Bd.named, Bd.bytes, hml0, Bd.returns, Bd.notSynchronized, (name_of_methodNamed Bd.named Bd.method).1⟩ (Stand.of_body Bd) (since_refl s) (by rw [hh]; exact Nat.le_refl _) (by rw [hh]; exact CHr.refl hC) ⟨a0, hEL⟩ hh2 (Fr.nil _) (Nat.zero_le _) (Nat.zero_le _)
  exact ⟨s₂, _, castTop (he m) h1, h2, h3, v, L, rfl, h4, h5, h6⟩
theorem RunW.via {Ls' : Array Slot} {st' : List Value} (f : ∀ (p : Program) (e : Env) (s : State) (m : MethodId) (args : Array Value) (below : List Frame) (meth : Method) (c : Code) (T : State) (locs : List Loc) (cells slots : Nat),
      Ctx Z own code maxL ret nm p s m meth c → Stand p l e R s m args below meth c T locs cells slots → T.heap = h → ∃ T', Stand p l e R s m args below meth c T' locs cells slots ∧ T'.heap = h ∧ ∀ t, Steps p.tables e below (T'.setTop (mkF m pc' Ls' st')) t → Steps p.tables e below (T.setTop (mkF m pc Ls st)) t)
    (nxt : RunW l Z EL n0 own code maxL ret nm R Q pc' Ls' st' h vm k n) : RunW l Z EL n0 own code maxL ret nm R Q pc Ls st h vm k n := by
  intro p e s m args below meth c T locs cells slots k0 hC X hS hk0 hR hE eT hF hk hn
  obtain ⟨T', X', e', stp⟩ := f p e (s.setVm vm) m args below meth c T locs cells slots hC X eT
  obtain ⟨s₂, v, L, g1, g2⟩ := nxt p e s m args below meth c T' locs cells slots k0 hC X' hS hk0 hR hE e' hF hk hn
  exact ⟨s₂, v, L, stp _ g1, g2⟩
theorem RunW.stp {Ls' : Array Slot} {st' : List Value} (f : ∀ (p : Program) (e : Env) (below : List Frame) (T : State) (m : MethodId) (c : Code) (t : State), At T m c below → p.tables.exec = Jvm.exec → c.code = code → Steps p.tables e below (T.setTop (mkF m pc' Ls' st')) t → Steps p.tables e below (T.setTop (mkF m pc Ls st)) t)
    (nxt : RunW l Z EL n0 own code maxL ret nm R Q pc' Ls' st' h vm k n) : RunW l Z EL n0 own code maxL ret nm R Q pc Ls st h vm k n :=
  RunW.via (fun p e s m args below meth c T locs cells slots hC X eT => ⟨T, X, eT, fun t q => f p e below T m c t X.here hC.1 hC.2.2.2.1 q⟩) nxt
theorem RunW.more {ka na : Nat} (nxt : RunW l Z EL n0 own code maxL ret nm R Q pc Ls st h vm k n) (h1 : ka ≤ k) (h2 : na ≤ n) : RunW l Z EL n0 own code maxL ret nm R Q pc Ls st h vm ka na :=
  fun p e s m args below meth c T locs cells slots k0 hC X hS hk0 hR hE eT hF hk hn => nxt p e s m args below meth c T locs cells slots k0 hC X hS hk0 hR hE eT hF (Nat.le_trans hk h1) (Nat.le_trans hn h2)
theorem RunW.alike (f : Z.vm.Alike vm → RunW l Z EL n0 own code maxL ret nm R Q pc Ls st h vm k n) : RunW l Z EL n0 own code maxL ret nm R Q pc Ls st h vm k n :=
  fun p e s m args below meth c T locs cells slots k0 hC X hS hk0 hR hE eT hF hk hn => f hC.2.1.alike p e s m args below meth c T locs cells slots k0 hC X hS hk0 hR hE eT hF hk hn

theorem RunW.iloadN {x : Fin 4} {v : Int32} (hd : decode code pc = .ok (.iload_n x, 1)) (hl : Ls[x.val]? = some (.val (.int v))) (hp : pc + 1 = pc') (nxt : RunW l Z EL n0 own code maxL ret nm R Q pc' Ls (.int v :: st) h vm k n) : RunW l Z EL n0 own code maxL ret nm R Q pc Ls st h vm k n := by
  subst hp
  exact RunW.stp (fun p e below T m c t hA hx hc q => XS.iloadN hA hx rfl (hb hc hd) hl q) nxt
theorem RunW.iload {x : Nat} {v : Int32} (hd : decode code pc = .ok (.iload x, 2)) (hl : Ls[x]? = some (.val (.int v))) (hp : pc + 2 = pc') (nxt : RunW l Z EL n0 own code maxL ret nm R Q pc' Ls (.int v :: st) h vm k n) : RunW l Z EL n0 own code maxL ret nm R Q pc Ls st h vm k n := by
  subst hp
  exact RunW.stp (fun p e below T m c t hA hx hc q => XS.iload hA hx rfl (hb hc hd) hl q) nxt
theorem RunW.lloadN {x : Fin 4} {v : Int64} (hd : decode code pc = .ok (.lload_n x, 1)) (hl : Ls[x.val]? = some (.val (.long v))) (hp : pc + 1 = pc') (nxt : RunW l Z EL n0 own code maxL ret nm R Q pc' Ls (.long v :: st) h vm k n) : RunW l Z EL n0 own code maxL ret nm R Q pc Ls st h vm k n := by
  subst hp
  exact RunW.stp (fun p e below T m c t hA hx hc q => XT.lloadN hA hx rfl (hb hc hd) hl q) nxt
theorem RunW.lload {x : Nat} {v : Int64} (hd : decode code pc = .ok (.lload x, 2)) (hl : Ls[x]? = some (.val (.long v))) (hp : pc + 2 = pc') (nxt : RunW l Z EL n0 own code maxL ret nm R Q pc' Ls (.long v :: st) h vm k n) : RunW l Z EL n0 own code maxL ret nm R Q pc Ls st h vm k n := by
  subst hp
  exact RunW.stp (fun p e below T m c t hA hx hc q => XT.lload hA hx rfl (hb hc hd) hl q) nxt
theorem RunW.aloadN {x : Fin 4} {v : Value} (hd : decode code pc = .ok (.aload_n x, 1)) (hl : Ls[x.val]? = some (.val v)) (hv : v.isRef = true) (hp : pc + 1 = pc') (nxt : RunW l Z EL n0 own code maxL ret nm R Q pc' Ls (v :: st) h vm k n) : RunW l Z EL n0 own code maxL ret nm R Q pc Ls st h vm k n := by
  subst hp
  exact RunW.stp (fun p e below T m c t hA hx hc q => XS.aloadN hA hx rfl (hb hc hd) hl hv q) nxt
theorem RunW.aload {x : Nat} {v : Value} (hd : decode code pc = .ok (.aload x, 2)) (hl : Ls[x]? = some (.val v)) (hv : v.isRef = true) (hp : pc + 2 = pc') (nxt : RunW l Z EL n0 own code maxL ret nm R Q pc' Ls (v :: st) h vm k n) : RunW l Z EL n0 own code maxL ret nm R Q pc Ls st h vm k n := by
  subst hp
  exact RunW.stp (fun p e below T m c t hA hx hc q => XS.aload hA hx rfl (hb hc hd) hl hv q) nxt
theorem RunW.iconst {i : Int} (v : Int32) (hd : decode code pc = .ok (.iconst i, 1)) (hv : Int32.ofInt i = v) (hp : pc + 1 = pc') (nxt : RunW l Z EL n0 own code maxL ret nm R Q pc' Ls (.int v :: st) h vm k n) : RunW l Z EL n0 own code maxL ret nm R Q pc Ls st h vm k n := by
  subst hp
  exact RunW.stp (fun p e below T m c t hA hx hc q => XT.iconstV hA hx rfl v (hb hc hd) hv q) nxt
theorem RunW.bipush {i : Int} (v : Int32) (hd : decode code pc = .ok (.bipush i, 2)) (hv : (Int8.ofInt i).toInt32 = v) (hp : pc + 2 = pc') (nxt : RunW l Z EL n0 own code maxL ret nm R Q pc' Ls (.int v :: st) h vm k n) : RunW l Z EL n0 own code maxL ret nm R Q pc Ls st h vm k n := by
  subst hp
  exact RunW.stp (fun p e below T m c t hA hx hc q => XT.bipushV hA hx rfl v (hb hc hd) hv q) nxt
theorem RunW.sipush {i : Int} (v : Int32) (hd : decode code pc = .ok (.sipush i, 3)) (hv : (Int16.ofInt i).toInt32 = v) (hp : pc + 3 = pc') (nxt : RunW l Z EL n0 own code maxL ret nm R Q pc' Ls (.int v :: st) h vm k n) : RunW l Z EL n0 own code maxL ret nm R Q pc Ls st h vm k n := by
  subst hp
  exact RunW.stp (fun p e below T m c t hA hx hc q => XT.sipushV hA hx rfl v (hb hc hd) hv q) nxt
theorem RunW.lconst {i : Fin 2} (v : Int64) (hd : decode code pc = .ok (.lconst i, 1)) (hv : Int64.ofNat i = v) (hp : pc + 1 = pc') (nxt : RunW l Z EL n0 own code maxL ret nm R Q pc' Ls (.long v :: st) h vm k n) : RunW l Z EL n0 own code maxL ret nm R Q pc Ls st h vm k n := by
  subst hp
  exact RunW.stp (fun p e below T m c t hA hx hc q => XT.lconstV hA hx rfl v (hb hc hd) hv q) nxt
theorem RunW.aconst  (hd : decode code pc = .ok (.aconst_null, 1))  (hp : pc + 1 = pc') (nxt : RunW l Z EL n0 own code maxL ret nm R Q pc' Ls (.null :: st) h vm k n) : RunW l Z EL n0 own code maxL ret nm R Q pc Ls st h vm k n := by
  subst hp
  exact RunW.stp (fun p e below T m c t hA hx hc q => XS.aconstNull hA hx rfl (hb hc hd) q) nxt
theorem RunW.istoreN {x : Fin 4} {v : Int32} (l' : Array Slot) (hd : decode code pc = .ok (.istore_n x, 1)) (hl : storeLocals Ls x.val (.int v) = some l') (hp : pc + 1 = pc') (nxt : RunW l Z EL n0 own code maxL ret nm R Q pc' l' st h vm k n) : RunW l Z EL n0 own code maxL ret nm R Q pc Ls (.int v :: st) h vm k n := by
  subst hp
  exact RunW.stp (fun p e below T m c t hA hx hc q => XS.istoreN hA hx rfl (hb hc hd) rfl hl q) nxt
theorem RunW.istore {x : Nat} {v : Int32} (l' : Array Slot) (hd : decode code pc = .ok (.istore x, 2)) (hl : storeLocals Ls x (.int v) = some l') (hp : pc + 2 = pc') (nxt : RunW l Z EL n0 own code maxL ret nm R Q pc' l' st h vm k n) : RunW l Z EL n0 own code maxL ret nm R Q pc Ls (.int v :: st) h vm k n := by
  subst hp
  exact RunW.stp (fun p e below T m c t hA hx hc q => XS.istore hA hx rfl (hb hc hd) rfl hl q) nxt
theorem RunW.lstoreN {x : Fin 4} {v : Int64} (l' : Array Slot) (hd : decode code pc = .ok (.lstore_n x, 1)) (hl : storeLocals Ls x.val (.long v) = some l') (hp : pc + 1 = pc') (nxt : RunW l Z EL n0 own code maxL ret nm R Q pc' l' st h vm k n) : RunW l Z EL n0 own code maxL ret nm R Q pc Ls (.long v :: st) h vm k n := by
  subst hp
  exact RunW.stp (fun p e below T m c t hA hx hc q => XT.lstoreN hA hx rfl (hb hc hd) rfl hl q) nxt
theorem RunW.lstore {x : Nat} {v : Int64} (l' : Array Slot) (hd : decode code pc = .ok (.lstore x, 2)) (hl : storeLocals Ls x (.long v) = some l') (hp : pc + 2 = pc') (nxt : RunW l Z EL n0 own code maxL ret nm R Q pc' l' st h vm k n) : RunW l Z EL n0 own code maxL ret nm R Q pc Ls (.long v :: st) h vm k n := by
  subst hp
  exact RunW.stp (fun p e below T m c t hA hx hc q => XT.lstore hA hx rfl (hb hc hd) rfl hl q) nxt
theorem RunW.astoreN {x : Fin 4} {v : Value} (l' : Array Slot) (hd : decode code pc = .ok (.astore_n x, 1)) (hv : v.isRef = true) (hl : storeLocals Ls x.val v = some l') (hp : pc + 1 = pc') (nxt : RunW l Z EL n0 own code maxL ret nm R Q pc' l' st h vm k n) : RunW l Z EL n0 own code maxL ret nm R Q pc Ls (v :: st) h vm k n := by
  subst hp
  exact RunW.stp (fun p e below T m c t hA hx hc q => XS.astoreN hA hx rfl (hb hc hd) rfl hv hl q) nxt
theorem RunW.astore {x : Nat} {v : Value} (l' : Array Slot) (hd : decode code pc = .ok (.astore x, 2)) (hv : v.isRef = true) (hl : storeLocals Ls x v = some l') (hp : pc + 2 = pc') (nxt : RunW l Z EL n0 own code maxL ret nm R Q pc' l' st h vm k n) : RunW l Z EL n0 own code maxL ret nm R Q pc Ls (v :: st) h vm k n := by
  subst hp
  exact RunW.stp (fun p e below T m c t hA hx hc q => XS.astore hA hx rfl (hb hc hd) rfl hv hl q) nxt
theorem RunW.iinc {x : Nat} {i : Int} {u : Int32} (v : Int32) (l' : Array Slot) (hd : decode code pc = .ok (.iinc x i, 3)) (hv : Int32.ofInt i = v) (hg : Ls[x]? = some (.val (.int u))) (hl : storeLocals Ls x (.int (u + v)) = some l') (hp : pc + 3 = pc') (nxt : RunW l Z EL n0 own code maxL ret nm R Q pc' l' st h vm k n) : RunW l Z EL n0 own code maxL ret nm R Q pc Ls st h vm k n := by
  subst hp
  exact RunW.stp (fun p e below T m c t hA hx hc q => XT.iincV hA hx rfl v (hb hc hd) hv hg hl q) nxt
theorem RunW.iadd {x y : Int32} (hd : decode code pc = .ok (.iadd, 1))  (hp : pc + 1 = pc') (nxt : RunW l Z EL n0 own code maxL ret nm R Q pc' Ls (.int (x + y) :: st) h vm k n) : RunW l Z EL n0 own code maxL ret nm R Q pc Ls (.int y :: .int x :: st) h vm k n := by
  subst hp
  exact RunW.stp (fun p e below T m c t hA hx hc q => XS.iadd hA hx rfl (hb hc hd) rfl q) nxt
theorem RunW.isub {x y : Int32} (hd : decode code pc = .ok (.isub, 1))  (hp : pc + 1 = pc') (nxt : RunW l Z EL n0 own code maxL ret nm R Q pc' Ls (.int (x - y) :: st) h vm k n) : RunW l Z EL n0 own code maxL ret nm R Q pc Ls (.int y :: .int x :: st) h vm k n := by
  subst hp
  exact RunW.stp (fun p e below T m c t hA hx hc q => XS.isub hA hx rfl (hb hc hd) rfl q) nxt
theorem RunW.imul {x y : Int32} (hd : decode code pc = .ok (.imul, 1))  (hp : pc + 1 = pc') (nxt : RunW l Z EL n0 own code maxL ret nm R Q pc' Ls (.int (x * y) :: st) h vm k n) : RunW l Z EL n0 own code maxL ret nm R Q pc Ls (.int y :: .int x :: st) h vm k n := by
  subst hp
  exact RunW.stp (fun p e below T m c t hA hx hc q => XS.imul hA hx rfl (hb hc hd) rfl q) nxt
theorem RunW.iand {x y : Int32} (hd : decode code pc = .ok (.iand, 1))  (hp : pc + 1 = pc') (nxt : RunW l Z EL n0 own code maxL ret nm R Q pc' Ls (.int (x &&& y) :: st) h vm k n) : RunW l Z EL n0 own code maxL ret nm R Q pc Ls (.int y :: .int x :: st) h vm k n := by
  subst hp
  exact RunW.stp (fun p e below T m c t hA hx hc q => XS.iand hA hx rfl (hb hc hd) rfl q) nxt
theorem RunW.ior {x y : Int32} (hd : decode code pc = .ok (.ior, 1))  (hp : pc + 1 = pc') (nxt : RunW l Z EL n0 own code maxL ret nm R Q pc' Ls (.int (x ||| y) :: st) h vm k n) : RunW l Z EL n0 own code maxL ret nm R Q pc Ls (.int y :: .int x :: st) h vm k n := by
  subst hp
  exact RunW.stp (fun p e below T m c t hA hx hc q => XT.ior hA hx rfl (hb hc hd) rfl q) nxt
theorem RunW.ixor {x y : Int32} (hd : decode code pc = .ok (.ixor, 1))  (hp : pc + 1 = pc') (nxt : RunW l Z EL n0 own code maxL ret nm R Q pc' Ls (.int (x ^^^ y) :: st) h vm k n) : RunW l Z EL n0 own code maxL ret nm R Q pc Ls (.int y :: .int x :: st) h vm k n := by
  subst hp
  exact RunW.stp (fun p e below T m c t hA hx hc q => XT.ixor hA hx rfl (hb hc hd) rfl q) nxt
theorem RunW.ishl {x y : Int32} (hd : decode code pc = .ok (.ishl, 1))  (hp : pc + 1 = pc') (nxt : RunW l Z EL n0 own code maxL ret nm R Q pc' Ls (.int (x <<< (y &&& 31)) :: st) h vm k n) : RunW l Z EL n0 own code maxL ret nm R Q pc Ls (.int y :: .int x :: st) h vm k n := by
  subst hp
  exact RunW.stp (fun p e below T m c t hA hx hc q => XT.ishl hA hx rfl (hb hc hd) rfl q) nxt
theorem RunW.ishr {x y : Int32} (hd : decode code pc = .ok (.ishr, 1))  (hp : pc + 1 = pc') (nxt : RunW l Z EL n0 own code maxL ret nm R Q pc' Ls (.int (x >>> (y &&& 31)) :: st) h vm k n) : RunW l Z EL n0 own code maxL ret nm R Q pc Ls (.int y :: .int x :: st) h vm k n := by
  subst hp
  exact RunW.stp (fun p e below T m c t hA hx hc q => XT.ishr hA hx rfl (hb hc hd) rfl q) nxt
theorem RunW.iushr {x y : Int32} (hd : decode code pc = .ok (.iushr, 1))  (hp : pc + 1 = pc') (nxt : RunW l Z EL n0 own code maxL ret nm R Q pc' Ls (.int (XT.ushr x y) :: st) h vm k n) : RunW l Z EL n0 own code maxL ret nm R Q pc Ls (.int y :: .int x :: st) h vm k n := by
  subst hp
  exact RunW.stp (fun p e below T m c t hA hx hc q => XT.iushr hA hx rfl (hb hc hd) rfl q) nxt
theorem RunW.ladd {x y : Int64} (hd : decode code pc = .ok (.ladd, 1))  (hp : pc + 1 = pc') (nxt : RunW l Z EL n0 own code maxL ret nm R Q pc' Ls (.long (x + y) :: st) h vm k n) : RunW l Z EL n0 own code maxL ret nm R Q pc Ls (.long y :: .long x :: st) h vm k n := by
  subst hp
  exact RunW.stp (fun p e below T m c t hA hx hc q => XT.ladd hA hx rfl (hb hc hd) rfl q) nxt
theorem RunW.lsub {x y : Int64} (hd : decode code pc = .ok (.lsub, 1))  (hp : pc + 1 = pc') (nxt : RunW l Z EL n0 own code maxL ret nm R Q pc' Ls (.long (x - y) :: st) h vm k n) : RunW l Z EL n0 own code maxL ret nm R Q pc Ls (.long y :: .long x :: st) h vm k n := by
  subst hp
  exact RunW.stp (fun p e below T m c t hA hx hc q => XT.lsub hA hx rfl (hb hc hd) rfl q) nxt
theorem RunW.lmul {x y : Int64} (hd : decode code pc = .ok (.lmul, 1))  (hp : pc + 1 = pc') (nxt : RunW l Z EL n0 own code maxL ret nm R Q pc' Ls (.long (x * y) :: st) h vm k n) : RunW l Z EL n0 own code maxL ret nm R Q pc Ls (.long y :: .long x :: st) h vm k n := by
  subst hp
  exact RunW.stp (fun p e below T m c t hA hx hc q => XT.lmul hA hx rfl (hb hc hd) rfl q) nxt
theorem RunW.land {x y : Int64} (hd : decode code pc = .ok (.land, 1))  (hp : pc + 1 = pc') (nxt : RunW l Z EL n0 own code maxL ret nm R Q pc' Ls (.long (x &&& y) :: st) h vm k n) : RunW l Z EL n0 own code maxL ret nm R Q pc Ls (.long y :: .long x :: st) h vm k n := by
  subst hp
  exact RunW.stp (fun p e below T m c t hA hx hc q => XT.land hA hx rfl (hb hc hd) rfl q) nxt
theorem RunW.lor {x y : Int64} (hd : decode code pc = .ok (.lor, 1))  (hp : pc + 1 = pc') (nxt : RunW l Z EL n0 own code maxL ret nm R Q pc' Ls (.long (x ||| y) :: st) h vm k n) : RunW l Z EL n0 own code maxL ret nm R Q pc Ls (.long y :: .long x :: st) h vm k n := by
  subst hp
  exact RunW.stp (fun p e below T m c t hA hx hc q => XT.lor hA hx rfl (hb hc hd) rfl q) nxt
theorem RunW.lxor {x y : Int64} (hd : decode code pc = .ok (.lxor, 1))  (hp : pc + 1 = pc') (nxt : RunW l Z EL n0 own code maxL ret nm R Q pc' Ls (.long (x ^^^ y) :: st) h vm k n) : RunW l Z EL n0 own code maxL ret nm R Q pc Ls (.long y :: .long x :: st) h vm k n := by
  subst hp
  exact RunW.stp (fun p e below T m c t hA hx hc q => XT.lxor hA hx rfl (hb hc hd) rfl q) nxt
theorem RunW.idiv {x y : Int32} (hd : decode code pc = .ok (.idiv, 1)) (hy : y ≠ 0) (hp : pc + 1 = pc') (nxt : RunW l Z EL n0 own code maxL ret nm R Q pc' Ls (.int (x / y) :: st) h vm k n) : RunW l Z EL n0 own code maxL ret nm R Q pc Ls (.int y :: .int x :: st) h vm k n := by
  subst hp
  exact RunW.stp (fun p e below T m c t hA hx hc q => XS.idiv hA hx rfl (hb hc hd) rfl hy q) nxt
theorem RunW.irem {x y : Int32} (hd : decode code pc = .ok (.irem, 1)) (hy : y ≠ 0) (hp : pc + 1 = pc') (nxt : RunW l Z EL n0 own code maxL ret nm R Q pc' Ls (.int (x % y) :: st) h vm k n) : RunW l Z EL n0 own code maxL ret nm R Q pc Ls (.int y :: .int x :: st) h vm k n := by
  subst hp
  exact RunW.stp (fun p e below T m c t hA hx hc q => XS.irem hA hx rfl (hb hc hd) rfl hy (by rw [irem_eq_mod]; exact q)) nxt
theorem RunW.ldiv {x y : Int64} (hd : decode code pc = .ok (.ldiv, 1)) (hy : y ≠ 0) (hp : pc + 1 = pc') (nxt : RunW l Z EL n0 own code maxL ret nm R Q pc' Ls (.long (x / y) :: st) h vm k n) : RunW l Z EL n0 own code maxL ret nm R Q pc Ls (.long y :: .long x :: st) h vm k n := by
  subst hp
  exact RunW.stp (fun p e below T m c t hA hx hc q => XT.ldiv hA hx rfl (hb hc hd) rfl hy q) nxt
theorem RunW.lrem {x y : Int64} (hd : decode code pc = .ok (.lrem, 1)) (hy : y ≠ 0) (hp : pc + 1 = pc') (nxt : RunW l Z EL n0 own code maxL ret nm R Q pc' Ls (.long (x % y) :: st) h vm k n) : RunW l Z EL n0 own code maxL ret nm R Q pc Ls (.long y :: .long x :: st) h vm k n := by
  subst hp
  exact RunW.stp (fun p e below T m c t hA hx hc q => XT.lrem hA hx rfl (hb hc hd) rfl hy (by rw [lrem_mod]; exact q)) nxt
theorem RunW.ineg {x : Int32} (hd : decode code pc = .ok (.ineg, 1))  (hp : pc + 1 = pc') (nxt : RunW l Z EL n0 own code maxL ret nm R Q pc' Ls (.int (-x) :: st) h vm k n) : RunW l Z EL n0 own code maxL ret nm R Q pc Ls (.int x :: st) h vm k n := by
  subst hp
  exact RunW.stp (fun p e below T m c t hA hx hc q => XS.ineg hA hx rfl (hb hc hd) rfl q) nxt
theorem RunW.lneg {x : Int64} (hd : decode code pc = .ok (.lneg, 1))  (hp : pc + 1 = pc') (nxt : RunW l Z EL n0 own code maxL ret nm R Q pc' Ls (.long (-x) :: st) h vm k n) : RunW l Z EL n0 own code maxL ret nm R Q pc Ls (.long x :: st) h vm k n := by
  subst hp
  exact RunW.stp (fun p e below T m c t hA hx hc q => XT.lneg hA hx rfl (hb hc hd) rfl q) nxt
theorem RunW.i2l {x : Int32} (hd : decode code pc = .ok (.i2l, 1))  (hp : pc + 1 = pc') (nxt : RunW l Z EL n0 own code maxL ret nm R Q pc' Ls (.long x.toInt64 :: st) h vm k n) : RunW l Z EL n0 own code maxL ret nm R Q pc Ls (.int x :: st) h vm k n := by
  subst hp
  exact RunW.stp (fun p e below T m c t hA hx hc q => XT.i2l hA hx rfl (hb hc hd) rfl q) nxt
theorem RunW.l2i {x : Int64} (hd : decode code pc = .ok (.l2i, 1))  (hp : pc + 1 = pc') (nxt : RunW l Z EL n0 own code maxL ret nm R Q pc' Ls (.int x.toInt32 :: st) h vm k n) : RunW l Z EL n0 own code maxL ret nm R Q pc Ls (.long x :: st) h vm k n := by
  subst hp
  exact RunW.stp (fun p e below T m c t hA hx hc q => XT.l2i hA hx rfl (hb hc hd) rfl q) nxt
theorem RunW.i2b {x : Int32} (hd : decode code pc = .ok (.i2b, 1))  (hp : pc + 1 = pc') (nxt : RunW l Z EL n0 own code maxL ret nm R Q pc' Ls (.int (nar .byte x) :: st) h vm k n) : RunW l Z EL n0 own code maxL ret nm R Q pc Ls (.int x :: st) h vm k n := by
  subst hp
  exact RunW.stp (fun p e below T m c t hA hx hc q => XT.i2b hA hx rfl (hb hc hd) rfl q) nxt
theorem RunW.i2c {x : Int32} (hd : decode code pc = .ok (.i2c, 1))  (hp : pc + 1 = pc') (nxt : RunW l Z EL n0 own code maxL ret nm R Q pc' Ls (.int (nar .char x) :: st) h vm k n) : RunW l Z EL n0 own code maxL ret nm R Q pc Ls (.int x :: st) h vm k n := by
  subst hp
  exact RunW.stp (fun p e below T m c t hA hx hc q => XT.i2c hA hx rfl (hb hc hd) rfl q) nxt
theorem RunW.i2s {x : Int32} (hd : decode code pc = .ok (.i2s, 1))  (hp : pc + 1 = pc') (nxt : RunW l Z EL n0 own code maxL ret nm R Q pc' Ls (.int (nar .short x) :: st) h vm k n) : RunW l Z EL n0 own code maxL ret nm R Q pc Ls (.int x :: st) h vm k n := by
  subst hp
  exact RunW.stp (fun p e below T m c t hA hx hc q => XT.i2s hA hx rfl (hb hc hd) rfl q) nxt
theorem RunW.lshl {x : Int64} {y : Int32} (hd : decode code pc = .ok (.lshl, 1))  (hp : pc + 1 = pc') (nxt : RunW l Z EL n0 own code maxL ret nm R Q pc' Ls (.long (x <<< (y.toInt64 &&& 63)) :: st) h vm k n) : RunW l Z EL n0 own code maxL ret nm R Q pc Ls (.int y :: .long x :: st) h vm k n := by
  subst hp
  exact RunW.stp (fun p e below T m c t hA hx hc q => XT.lshl hA hx rfl (hb hc hd) rfl q) nxt
theorem RunW.lshr {x : Int64} {y : Int32} (hd : decode code pc = .ok (.lshr, 1))  (hp : pc + 1 = pc') (nxt : RunW l Z EL n0 own code maxL ret nm R Q pc' Ls (.long (x >>> (y.toInt64 &&& 63)) :: st) h vm k n) : RunW l Z EL n0 own code maxL ret nm R Q pc Ls (.int y :: .long x :: st) h vm k n := by
  subst hp
  exact RunW.stp (fun p e below T m c t hA hx hc q => XT.lshr hA hx rfl (hb hc hd) rfl q) nxt
theorem RunW.lushr {x : Int64} {y : Int32} (hd : decode code pc = .ok (.lushr, 1))  (hp : pc + 1 = pc') (nxt : RunW l Z EL n0 own code maxL ret nm R Q pc' Ls (.long (XT.ushrL x y) :: st) h vm k n) : RunW l Z EL n0 own code maxL ret nm R Q pc Ls (.int y :: .long x :: st) h vm k n := by
  subst hp
  exact RunW.stp (fun p e below T m c t hA hx hc q => XT.lushr hA hx rfl (hb hc hd) rfl q) nxt
theorem RunW.lcmp {x y : Int64} (hd : decode code pc = .ok (.lcmp, 1))  (hp : pc + 1 = pc') (nxt : RunW l Z EL n0 own code maxL ret nm R Q pc' Ls (.int (XT.cmpL x y) :: st) h vm k n) : RunW l Z EL n0 own code maxL ret nm R Q pc Ls (.long y :: .long x :: st) h vm k n := by
  subst hp
  exact RunW.stp (fun p e below T m c t hA hx hc q => XT.lcmp hA hx rfl (hb hc hd) rfl q) nxt
theorem RunW.dup {x : Value} (hd : decode code pc = .ok (.dup, 1)) (hv : x.category = 1) (hp : pc + 1 = pc') (nxt : RunW l Z EL n0 own code maxL ret nm R Q pc' Ls (x :: x :: st) h vm k n) : RunW l Z EL n0 own code maxL ret nm R Q pc Ls (x :: st) h vm k n := by
  subst hp
  exact RunW.stp (fun p e below T m c t hA hx hc q => XS.dup hA hx rfl (hb hc hd) rfl hv q) nxt
theorem RunW.pop {x : Value} (hd : decode code pc = .ok (.pop, 1)) (hv : x.category = 1) (hp : pc + 1 = pc') (nxt : RunW l Z EL n0 own code maxL ret nm R Q pc' Ls st h vm k n) : RunW l Z EL n0 own code maxL ret nm R Q pc Ls (x :: st) h vm k n := by
  subst hp
  exact RunW.stp (fun p e below T m c t hA hx hc q => XT.pop hA hx rfl (hb hc hd) rfl hv q) nxt
theorem RunW.dupX1 {x y : Value} (hd : decode code pc = .ok (.dup_x1, 1)) (hv : x.category = 1) (hv' : y.category = 1) (hp : pc + 1 = pc') (nxt : RunW l Z EL n0 own code maxL ret nm R Q pc' Ls (x :: y :: x :: st) h vm k n) : RunW l Z EL n0 own code maxL ret nm R Q pc Ls (x :: y :: st) h vm k n := by
  subst hp
  exact RunW.stp (fun p e below T m c t hA hx hc q => XT.dupX1 hA hx rfl (hb hc hd) rfl hv hv' q) nxt
theorem RunW.dup2 {x y : Value} (hd : decode code pc = .ok (.dup2, 1)) (hv : x.category = 1) (hv' : y.category = 1) (hp : pc + 1 = pc') (nxt : RunW l Z EL n0 own code maxL ret nm R Q pc' Ls (x :: y :: x :: y :: st) h vm k n) : RunW l Z EL n0 own code maxL ret nm R Q pc Ls (x :: y :: st) h vm k n := by
  subst hp
  exact RunW.stp (fun p e below T m c t hA hx hc q => XT.dup2 hA hx rfl (hb hc hd) rfl hv hv' q) nxt
theorem RunW.dup2L {x : Int64} (hd : decode code pc = .ok (.dup2, 1))  (hp : pc + 1 = pc') (nxt : RunW l Z EL n0 own code maxL ret nm R Q pc' Ls (.long x :: .long x :: st) h vm k n) : RunW l Z EL n0 own code maxL ret nm R Q pc Ls (.long x :: st) h vm k n := by
  subst hp
  exact RunW.stp (fun p e below T m c t hA hx hc q => XT.dup2L hA hx rfl (hb hc hd) rfl q) nxt
theorem RunW.goto {o : Int} (hd : decode code pc = .ok (.goto o, 3)) (ho : 0 ≤ (pc : Int) + o) (hp : ((pc : Int) + o).toNat = pc') (nxt : RunW l Z EL n0 own code maxL ret nm R Q pc' Ls st h vm k n) : RunW l Z EL n0 own code maxL ret nm R Q pc Ls st h vm k n :=
  RunW.stp (fun p e below T m c t hA hx hc q => XS.goto hA hx rfl rfl (hb hc hd) ho hp q) nxt
theorem RunW.if_eq {x : Int32} {o : Int} {pa : Nat} (hd : decode code pc = .ok (.ifCond .eq o, 3)) (ho : 0 ≤ (pc : Int) + o) (hp : ((pc : Int) + o).toNat = pc') (hq : pc + 3 = pa)
    (yes : x = 0 → RunW l Z EL n0 own code maxL ret nm R Q pc' Ls st h vm k n) (no : ¬ x = 0 → RunW l Z EL n0 own code maxL ret nm R Q pa Ls st h vm k n) : RunW l Z EL n0 own code maxL ret nm R Q pc Ls (.int x :: st) h vm k n := by
  subst hq
  by_cases hc : x = 0
  · exact RunW.stp (fun p e below T m c t hA hx hb' q => XS.ifYes hA hx rfl rfl (hb hb' hd) rfl (XT.i0_eq_t hc) ho hp q) (yes hc)
  · exact RunW.stp (fun p e below T m c t hA hx hb' q => XS.ifNo hA hx rfl (hb hb' hd) rfl (XT.i0_eq_f hc) q) (no hc)
theorem RunW.icmp_eq {x y : Int32} {o : Int} {pa : Nat} (hd : decode code pc = .ok (.if_icmp .eq o, 3)) (ho : 0 ≤ (pc : Int) + o) (hp : ((pc : Int) + o).toNat = pc') (hq : pc + 3 = pa)
    (yes : x = y → RunW l Z EL n0 own code maxL ret nm R Q pc' Ls st h vm k n) (no : ¬ x = y → RunW l Z EL n0 own code maxL ret nm R Q pa Ls st h vm k n) : RunW l Z EL n0 own code maxL ret nm R Q pc Ls (.int y :: .int x :: st) h vm k n := by
  subst hq
  by_cases hc : x = y
  · exact RunW.stp (fun p e below T m c t hA hx hb' q => XS.icmpYes hA hx rfl rfl (hb hb' hd) rfl (XT.ii_eq_t hc) ho hp q) (yes hc)
  · exact RunW.stp (fun p e below T m c t hA hx hb' q => XS.icmpNo hA hx rfl (hb hb' hd) rfl (XT.ii_eq_f hc) q) (no hc)
theorem RunW.if_ne {x : Int32} {o : Int} {pa : Nat} (hd : decode code pc = .ok (.ifCond .ne o, 3)) (ho : 0 ≤ (pc : Int) + o) (hp : ((pc : Int) + o).toNat = pc') (hq : pc + 3 = pa)
    (yes : ¬ x = 0 → RunW l Z EL n0 own code maxL ret nm R Q pc' Ls st h vm k n) (no : x = 0 → RunW l Z EL n0 own code maxL ret nm R Q pa Ls st h vm k n) : RunW l Z EL n0 own code maxL ret nm R Q pc Ls (.int x :: st) h vm k n := by
  subst hq
  by_cases hc : x = 0
  · exact RunW.stp (fun p e below T m c t hA hx hb' q => XS.ifNo hA hx rfl (hb hb' hd) rfl (XT.i0_ne_f hc) q) (no (by simpa using hc))
  · exact RunW.stp (fun p e below T m c t hA hx hb' q => XS.ifYes hA hx rfl rfl (hb hb' hd) rfl (XT.i0_ne_t hc) ho hp q) (yes hc)
theorem RunW.icmp_ne {x y : Int32} {o : Int} {pa : Nat} (hd : decode code pc = .ok (.if_icmp .ne o, 3)) (ho : 0 ≤ (pc : Int) + o) (hp : ((pc : Int) + o).toNat = pc') (hq : pc + 3 = pa)
    (yes : ¬ x = y → RunW l Z EL n0 own code maxL ret nm R Q pc' Ls st h vm k n) (no : x = y → RunW l Z EL n0 own code maxL ret nm R Q pa Ls st h vm k n) : RunW l Z EL n0 own code maxL ret nm R Q pc Ls (.int y :: .int x :: st) h vm k n := by
  subst hq
  by_cases hc : x = y
  · exact RunW.stp (fun p e below T m c t hA hx hb' q => XS.icmpNo hA hx rfl (hb hb' hd) rfl (XT.ii_ne_f hc) q) (no (by simpa using hc))
  · exact RunW.stp (fun p e below T m c t hA hx hb' q => XS.icmpYes hA hx rfl rfl (hb hb' hd) rfl (XT.ii_ne_t hc) ho hp q) (yes hc)
theorem RunW.if_lt {x : Int32} {o : Int} {pa : Nat} (hd : decode code pc = .ok (.ifCond .lt o, 3)) (ho : 0 ≤ (pc : Int) + o) (hp : ((pc : Int) + o).toNat = pc') (hq : pc + 3 = pa)
    (yes : x < 0 → RunW l Z EL n0 own code maxL ret nm R Q pc' Ls st h vm k n) (no : ¬ x < 0 → RunW l Z EL n0 own code maxL ret nm R Q pa Ls st h vm k n) : RunW l Z EL n0 own code maxL ret nm R Q pc Ls (.int x :: st) h vm k n := by
  subst hq
  by_cases hc : x < 0
  · exact RunW.stp (fun p e below T m c t hA hx hb' q => XS.ifYes hA hx rfl rfl (hb hb' hd) rfl (XT.i0_lt_t hc) ho hp q) (yes hc)
  · exact RunW.stp (fun p e below T m c t hA hx hb' q => XS.ifNo hA hx rfl (hb hb' hd) rfl (XT.i0_lt_f hc) q) (no hc)
theorem RunW.icmp_lt {x y : Int32} {o : Int} {pa : Nat} (hd : decode code pc = .ok (.if_icmp .lt o, 3)) (ho : 0 ≤ (pc : Int) + o) (hp : ((pc : Int) + o).toNat = pc') (hq : pc + 3 = pa)
    (yes : x < y → RunW l Z EL n0 own code maxL ret nm R Q pc' Ls st h vm k n) (no : ¬ x < y → RunW l Z EL n0 own code maxL ret nm R Q pa Ls st h vm k n) : RunW l Z EL n0 own code maxL ret nm R Q pc Ls (.int y :: .int x :: st) h vm k n := by
  subst hq
  by_cases hc : x < y
  · exact RunW.stp (fun p e below T m c t hA hx hb' q => XS.icmpYes hA hx rfl rfl (hb hb' hd) rfl (XT.ii_lt_t hc) ho hp q) (yes hc)
  · exact RunW.stp (fun p e below T m c t hA hx hb' q => XS.icmpNo hA hx rfl (hb hb' hd) rfl (XT.ii_lt_f hc) q) (no hc)
theorem RunW.if_ge {x : Int32} {o : Int} {pa : Nat} (hd : decode code pc = .ok (.ifCond .ge o, 3)) (ho : 0 ≤ (pc : Int) + o) (hp : ((pc : Int) + o).toNat = pc') (hq : pc + 3 = pa)
    (yes : ¬ x < 0 → RunW l Z EL n0 own code maxL ret nm R Q pc' Ls st h vm k n) (no : x < 0 → RunW l Z EL n0 own code maxL ret nm R Q pa Ls st h vm k n) : RunW l Z EL n0 own code maxL ret nm R Q pc Ls (.int x :: st) h vm k n := by
  subst hq
  by_cases hc : x < 0
  · exact RunW.stp (fun p e below T m c t hA hx hb' q => XS.ifNo hA hx rfl (hb hb' hd) rfl (XT.i0_ge_f hc) q) (no (by simpa using hc))
  · exact RunW.stp (fun p e below T m c t hA hx hb' q => XS.ifYes hA hx rfl rfl (hb hb' hd) rfl (XT.i0_ge_t hc) ho hp q) (yes hc)
theorem RunW.icmp_ge {x y : Int32} {o : Int} {pa : Nat} (hd : decode code pc = .ok (.if_icmp .ge o, 3)) (ho : 0 ≤ (pc : Int) + o) (hp : ((pc : Int) + o).toNat = pc') (hq : pc + 3 = pa)
    (yes : ¬ x < y → RunW l Z EL n0 own code maxL ret nm R Q pc' Ls st h vm k n) (no : x < y → RunW l Z EL n0 own code maxL ret nm R Q pa Ls st h vm k n) : RunW l Z EL n0 own code maxL ret nm R Q pc Ls (.int y :: .int x :: st) h vm k n := by
  subst hq
  by_cases hc : x < y
  · exact RunW.stp (fun p e below T m c t hA hx hb' q => XS.icmpNo hA hx rfl (hb hb' hd) rfl (XT.ii_ge_f hc) q) (no (by simpa using hc))
  · exact RunW.stp (fun p e below T m c t hA hx hb' q => XS.icmpYes hA hx rfl rfl (hb hb' hd) rfl (XT.ii_ge_t hc) ho hp q) (yes hc)
theorem RunW.if_gt {x : Int32} {o : Int} {pa : Nat} (hd : decode code pc = .ok (.ifCond .gt o, 3)) (ho : 0 ≤ (pc : Int) + o) (hp : ((pc : Int) + o).toNat = pc') (hq : pc + 3 = pa)
    (yes : 0 < x → RunW l Z EL n0 own code maxL ret nm R Q pc' Ls st h vm k n) (no : ¬ 0 < x → RunW l Z EL n0 own code maxL ret nm R Q pa Ls st h vm k n) : RunW l Z EL n0 own code maxL ret nm R Q pc Ls (.int x :: st) h vm k n := by
  subst hq
  by_cases hc : 0 < x
  · exact RunW.stp (fun p e below T m c t hA hx hb' q => XS.ifYes hA hx rfl rfl (hb hb' hd) rfl (XT.i0_gt_t hc) ho hp q) (yes hc)
  · exact RunW.stp (fun p e below T m c t hA hx hb' q => XS.ifNo hA hx rfl (hb hb' hd) rfl (XT.i0_gt_f hc) q) (no hc)
theorem RunW.icmp_gt {x y : Int32} {o : Int} {pa : Nat} (hd : decode code pc = .ok (.if_icmp .gt o, 3)) (ho : 0 ≤ (pc : Int) + o) (hp : ((pc : Int) + o).toNat = pc') (hq : pc + 3 = pa)
    (yes : y < x → RunW l Z EL n0 own code maxL ret nm R Q pc' Ls st h vm k n) (no : ¬ y < x → RunW l Z EL n0 own code maxL ret nm R Q pa Ls st h vm k n) : RunW l Z EL n0 own code maxL ret nm R Q pc Ls (.int y :: .int x :: st) h vm k n := by
  subst hq
  by_cases hc : y < x
  · exact RunW.stp (fun p e below T m c t hA hx hb' q => XS.icmpYes hA hx rfl rfl (hb hb' hd) rfl (XT.ii_gt_t hc) ho hp q) (yes hc)
  · exact RunW.stp (fun p e below T m c t hA hx hb' q => XS.icmpNo hA hx rfl (hb hb' hd) rfl (XT.ii_gt_f hc) q) (no hc)
theorem RunW.if_le {x : Int32} {o : Int} {pa : Nat} (hd : decode code pc = .ok (.ifCond .le o, 3)) (ho : 0 ≤ (pc : Int) + o) (hp : ((pc : Int) + o).toNat = pc') (hq : pc + 3 = pa)
    (yes : ¬ 0 < x → RunW l Z EL n0 own code maxL ret nm R Q pc' Ls st h vm k n) (no : 0 < x → RunW l Z EL n0 own code maxL ret nm R Q pa Ls st h vm k n) : RunW l Z EL n0 own code maxL ret nm R Q pc Ls (.int x :: st) h vm k n := by
  subst hq
  by_cases hc : 0 < x
  · exact RunW.stp (fun p e below T m c t hA hx hb' q => XS.ifNo hA hx rfl (hb hb' hd) rfl (XT.i0_le_f hc) q) (no (by simpa using hc))
  · exact RunW.stp (fun p e below T m c t hA hx hb' q => XS.ifYes hA hx rfl rfl (hb hb' hd) rfl (XT.i0_le_t hc) ho hp q) (yes hc)
theorem RunW.icmp_le {x y : Int32} {o : Int} {pa : Nat} (hd : decode code pc = .ok (.if_icmp .le o, 3)) (ho : 0 ≤ (pc : Int) + o) (hp : ((pc : Int) + o).toNat = pc') (hq : pc + 3 = pa)
    (yes : ¬ y < x → RunW l Z EL n0 own code maxL ret nm R Q pc' Ls st h vm k n) (no : y < x → RunW l Z EL n0 own code maxL ret nm R Q pa Ls st h vm k n) : RunW l Z EL n0 own code maxL ret nm R Q pc Ls (.int y :: .int x :: st) h vm k n := by
  subst hq
  by_cases hc : y < x
  · exact RunW.stp (fun p e below T m c t hA hx hb' q => XS.icmpNo hA hx rfl (hb hb' hd) rfl (XT.ii_le_f hc) q) (no (by simpa using hc))
  · exact RunW.stp (fun p e below T m c t hA hx hb' q => XS.icmpYes hA hx rfl rfl (hb hb' hd) rfl (XT.ii_le_t hc) ho hp q) (yes hc)
theorem RunW.lif_eq {x y : Int64} {o : Int} {pa : Nat} (hd : decode code pc = .ok (.ifCond .eq o, 3)) (ho : 0 ≤ (pc : Int) + o) (hp : ((pc : Int) + o).toNat = pc') (hq : pc + 3 = pa)
    (yes : x = y → RunW l Z EL n0 own code maxL ret nm R Q pc' Ls st h vm k n) (no : ¬ x = y → RunW l Z EL n0 own code maxL ret nm R Q pa Ls st h vm k n) : RunW l Z EL n0 own code maxL ret nm R Q pc Ls (.int (XT.cmpL x y) :: st) h vm k n := by
  subst hq
  by_cases hc : x = y
  · exact RunW.stp (fun p e below T m c t hA hx hb' q => XS.ifYes hA hx rfl rfl (hb hb' hd) rfl (XT.ll_eq_t hc) ho hp q) (yes hc)
  · exact RunW.stp (fun p e below T m c t hA hx hb' q => XS.ifNo hA hx rfl (hb hb' hd) rfl (XT.ll_eq_f hc) q) (no hc)
theorem RunW.lif_ne {x y : Int64} {o : Int} {pa : Nat} (hd : decode code pc = .ok (.ifCond .ne o, 3)) (ho : 0 ≤ (pc : Int) + o) (hp : ((pc : Int) + o).toNat = pc') (hq : pc + 3 = pa)
    (yes : ¬ x = y → RunW l Z EL n0 own code maxL ret nm R Q pc' Ls st h vm k n) (no : x = y → RunW l Z EL n0 own code maxL ret nm R Q pa Ls st h vm k n) : RunW l Z EL n0 own code maxL ret nm R Q pc Ls (.int (XT.cmpL x y) :: st) h vm k n := by
  subst hq
  by_cases hc : x = y
  · exact RunW.stp (fun p e below T m c t hA hx hb' q => XS.ifNo hA hx rfl (hb hb' hd) rfl (XT.ll_ne_f hc) q) (no (by simpa using hc))
  · exact RunW.stp (fun p e below T m c t hA hx hb' q => XS.ifYes hA hx rfl rfl (hb hb' hd) rfl (XT.ll_ne_t hc) ho hp q) (yes hc)
theorem RunW.lif_lt {x y : Int64} {o : Int} {pa : Nat} (hd : decode code pc = .ok (.ifCond .lt o, 3)) (ho : 0 ≤ (pc : Int) + o) (hp : ((pc : Int) + o).toNat = pc') (hq : pc + 3 = pa)
    (yes : x < y → RunW l Z EL n0 own code maxL ret nm R Q pc' Ls st h vm k n) (no : ¬ x < y → RunW l Z EL n0 own code maxL ret nm R Q pa Ls st h vm k n) : RunW l Z EL n0 own code maxL ret nm R Q pc Ls (.int (XT.cmpL x y) :: st) h vm k n := by
  subst hq
  by_cases hc : x < y
  · exact RunW.stp (fun p e below T m c t hA hx hb' q => XS.ifYes hA hx rfl rfl (hb hb' hd) rfl (XT.ll_lt_t hc) ho hp q) (yes hc)
  · exact RunW.stp (fun p e below T m c t hA hx hb' q => XS.ifNo hA hx rfl (hb hb' hd) rfl (XT.ll_lt_f hc) q) (no hc)
theorem RunW.lif_ge {x y : Int64} {o : Int} {pa : Nat} (hd : decode code pc = .ok (.ifCond .ge o, 3)) (ho : 0 ≤ (pc : Int) + o) (hp : ((pc : Int) + o).toNat = pc') (hq : pc + 3 = pa)
    (yes : ¬ x < y → RunW l Z EL n0 own code maxL ret nm R Q pc' Ls st h vm k n) (no : x < y → RunW l Z EL n0 own code maxL ret nm R Q pa Ls st h vm k n) : RunW l Z EL n0 own code maxL ret nm R Q pc Ls (.int (XT.cmpL x y) :: st) h vm k n := by
  subst hq
  by_cases hc : x < y
  · exact RunW.stp (fun p e below T m c t hA hx hb' q => XS.ifNo hA hx rfl (hb hb' hd) rfl (XT.ll_ge_f hc) q) (no (by simpa using hc))
  · exact RunW.stp (fun p e below T m c t hA hx hb' q => XS.ifYes hA hx rfl rfl (hb hb' hd) rfl (XT.ll_ge_t hc) ho hp q) (yes hc)
theorem RunW.lif_gt {x y : Int64} {o : Int} {pa : Nat} (hd : decode code pc = .ok (.ifCond .gt o, 3)) (ho : 0 ≤ (pc : Int) + o) (hp : ((pc : Int) + o).toNat = pc') (hq : pc + 3 = pa)
    (yes : y < x → RunW l Z EL n0 own code maxL ret nm R Q pc' Ls st h vm k n) (no : ¬ y < x → RunW l Z EL n0 own code maxL ret nm R Q pa Ls st h vm k n) : RunW l Z EL n0 own code maxL ret nm R Q pc Ls (.int (XT.cmpL x y) :: st) h vm k n := by
  subst hq
  by_cases hc : y < x
  · exact RunW.stp (fun p e below T m c t hA hx hb' q => XS.ifYes hA hx rfl rfl (hb hb' hd) rfl (XT.ll_gt_t hc) ho hp q) (yes hc)
  · exact RunW.stp (fun p e below T m c t hA hx hb' q => XS.ifNo hA hx rfl (hb hb' hd) rfl (XT.ll_gt_f hc) q) (no hc)
theorem RunW.lif_le {x y : Int64} {o : Int} {pa : Nat} (hd : decode code pc = .ok (.ifCond .le o, 3)) (ho : 0 ≤ (pc : Int) + o) (hp : ((pc : Int) + o).toNat = pc') (hq : pc + 3 = pa)
    (yes : ¬ y < x → RunW l Z EL n0 own code maxL ret nm R Q pc' Ls st h vm k n) (no : y < x → RunW l Z EL n0 own code maxL ret nm R Q pa Ls st h vm k n) : RunW l Z EL n0 own code maxL ret nm R Q pc Ls (.int (XT.cmpL x y) :: st) h vm k n := by
  subst hq
  by_cases hc : y < x
  · exact RunW.stp (fun p e below T m c t hA hx hb' q => XS.ifNo hA hx rfl (hb hb' hd) rfl (XT.ll_le_f hc) q) (no (by simpa using hc))
  · exact RunW.stp (fun p e below T m c t hA hx hb' q => XS.ifYes hA hx rfl rfl (hb hb' hd) rfl (XT.ll_le_t hc) ho hp q) (yes hc)
theorem RunW.acmp_eq {x y : Value} {o : Int} {pa : Nat} (hd : decode code pc = .ok (.if_acmp .eq o, 3)) (hv : x.isRef = true) (hv' : y.isRef = true) (ho : 0 ≤ (pc : Int) + o) (hp : ((pc : Int) + o).toNat = pc') (hq : pc + 3 = pa)
    (yes : x = y → RunW l Z EL n0 own code maxL ret nm R Q pc' Ls st h vm k n) (no : ¬ x = y → RunW l Z EL n0 own code maxL ret nm R Q pa Ls st h vm k n) : RunW l Z EL n0 own code maxL ret nm R Q pc Ls (y :: x :: st) h vm k n := by
  subst hq
  by_cases hc : x = y
  · exact RunW.stp (fun p e below T m c t hA hx hb' q => XT.acmpYes hA hx rfl rfl (hb hb' hd) rfl hv hv' (XT.aa_eq_t hc) ho hp q) (yes hc)
  · exact RunW.stp (fun p e below T m c t hA hx hb' q => XT.acmpNo hA hx rfl (hb hb' hd) rfl hv hv' (XT.aa_eq_f hc) q) (no hc)
theorem RunW.acmp_ne {x y : Value} {o : Int} {pa : Nat} (hd : decode code pc = .ok (.if_acmp .ne o, 3)) (hv : x.isRef = true) (hv' : y.isRef = true) (ho : 0 ≤ (pc : Int) + o) (hp : ((pc : Int) + o).toNat = pc') (hq : pc + 3 = pa)
    (yes : ¬ x = y → RunW l Z EL n0 own code maxL ret nm R Q pc' Ls st h vm k n) (no : x = y → RunW l Z EL n0 own code maxL ret nm R Q pa Ls st h vm k n) : RunW l Z EL n0 own code maxL ret nm R Q pc Ls (y :: x :: st) h vm k n := by
  subst hq
  by_cases hc : x = y
  · exact RunW.stp (fun p e below T m c t hA hx hb' q => XT.acmpNo hA hx rfl (hb hb' hd) rfl hv hv' (XT.aa_ne_f hc) q) (no (by simpa using hc))
  · exact RunW.stp (fun p e below T m c t hA hx hb' q => XT.acmpYes hA hx rfl rfl (hb hb' hd) rfl hv hv' (XT.aa_ne_t hc) ho hp q) (yes hc)
theorem RunW.ifnull {v : Value} {o : Int} {pa : Nat} (hd : decode code pc = .ok (.ifnull o, 3)) (hv : v.isRef = true) (ho : 0 ≤ (pc : Int) + o) (hp : ((pc : Int) + o).toNat = pc') (hq : pc + 3 = pa)
    (yes : v = .null → RunW l Z EL n0 own code maxL ret nm R Q pc' Ls st h vm k n) (no : ¬ v = .null → RunW l Z EL n0 own code maxL ret nm R Q pa Ls st h vm k n) : RunW l Z EL n0 own code maxL ret nm R Q pc Ls (v :: st) h vm k n := by
  subst hq
  by_cases hc : v = .null
  · exact RunW.stp (fun p e below T m c t hA hx hb' q => XT.nullYes hA hx rfl rfl (hb hb' hd) rfl hc ho hp q) (yes hc)
  · exact RunW.stp (fun p e below T m c t hA hx hb' q => XT.nullNo hA hx rfl (hb hb' hd) rfl hv hc q) (no hc)
theorem RunW.ifnonnull {v : Value} {o : Int} {pa : Nat} (hd : decode code pc = .ok (.ifnonnull o, 3)) (hv : v.isRef = true) (ho : 0 ≤ (pc : Int) + o) (hp : ((pc : Int) + o).toNat = pc') (hq : pc + 3 = pa)
    (yes : ¬ v = .null → RunW l Z EL n0 own code maxL ret nm R Q pc' Ls st h vm k n) (no : v = .null → RunW l Z EL n0 own code maxL ret nm R Q pa Ls st h vm k n) : RunW l Z EL n0 own code maxL ret nm R Q pc Ls (v :: st) h vm k n := by
  subst hq
  by_cases hc : v = .null
  · exact RunW.stp (fun p e below T m c t hA hx hb' q => XT.nonnullNo hA hx rfl (hb hb' hd) rfl hc q) (no hc)
  · exact RunW.stp (fun p e below T m c t hA hx hb' q => XT.nonnullYes hA hx rfl rfl (hb hb' hd) rfl hv hc ho hp q) (yes hc)
theorem RunW.ldcI {a0 : Array Value} {i : Nat} {v : Int32} (hd : decode code pc = .ok (.ldc i, 2)) (w : (Cond.constant own i v).before a0 Z = true) (hp : pc + 2 = pc') (nxt : RunW l Z EL n0 own code maxL ret nm R Q pc' Ls (.int v :: st) h vm k n) : RunW l Z EL n0 own code maxL ret nm R Q pc Ls st h vm k n := by
  subst hp
  exact RunW.via (fun p e s m args below meth c T locs cells slots hC X eT => ⟨T, X, eT, fun t q => X.ldcI hC.1 hC.2.2.1 (mvT hC.2.1 w) rfl (hb hC.2.2.2.1 hd) q⟩) nxt
theorem RunW.ldcWI {a0 : Array Value} {i : Nat} {v : Int32} (hd : decode code pc = .ok (.ldc_w i, 3)) (w : (Cond.constant own i v).before a0 Z = true) (hp : pc + 3 = pc') (nxt : RunW l Z EL n0 own code maxL ret nm R Q pc' Ls (.int v :: st) h vm k n) : RunW l Z EL n0 own code maxL ret nm R Q pc Ls st h vm k n := by
  subst hp
  exact RunW.via (fun p e s m args below meth c T locs cells slots hC X eT => ⟨T, X, eT, fun t q => X.ldcWI hC.1 hC.2.2.1 (mvT hC.2.1 w) rfl (hb hC.2.2.2.1 hd) q⟩) nxt
theorem RunW.ldc2J {a0 : Array Value} {i : Nat} {v : Int64} (hd : decode code pc = .ok (.ldc2_w i, 3)) (w : (Cond.constantLong own i v).before a0 Z = true) (hp : pc + 3 = pc') (nxt : RunW l Z EL n0 own code maxL ret nm R Q pc' Ls (.long v :: st) h vm k n) : RunW l Z EL n0 own code maxL ret nm R Q pc Ls st h vm k n := by
  subst hp
  exact RunW.via (fun p e s m args below meth c T locs cells slots hC X eT => ⟨T, X, eT, fun t q => X.ldc2J hC.1 hC.2.2.1 (mvT hC.2.1 w) rfl (hb hC.2.2.2.1 hd) q⟩) nxt
theorem RunW.getS {a0 : Array Value} {R0 O f d host : String} {i : Nat} {v : Value} (hd : decode code pc = .ok (.getstatic i, 3)) (w : (Cond.fieldLink own i R0 f d).before a0 Z = true ∨ (Cond.fieldLinkNest own i R0 f d host).before a0 Z = true) (via : Via Z R0 O f d) (F : Sta Z h O f d v) (hp : pc + 3 = pc') (nxt : RunW l Z EL n0 own code maxL ret nm R Q pc' Ls (v :: st) h vm k n) : RunW l Z EL n0 own code maxL ret nm R Q pc Ls st h vm k n := by
  subst hp
  exact RunW.via (fun p e s m args below meth c T locs cells slots hC X eT => getS2 X hC.1 hC.2.1 hC.2.2.1 w via eT F (g := mkF m pc Ls st) rfl (hb hC.2.2.2.1 hd)) nxt
theorem RunW.getF {a0 : Array Value} {R0 O f d host : String} {i : Nat} {a : Addr} {v : Value} (hd : decode code pc = .ok (.getfield i, 3)) (w : (Cond.fieldLink own i R0 f d).before a0 Z = true ∨ (Cond.fieldLinkNest own i R0 f d host).before a0 Z = true) (via : Via Z R0 O f d) (F : Fld Z h a O f d v) (hp : pc + 3 = pc') (nxt : RunW l Z EL n0 own code maxL ret nm R Q pc' Ls (v :: st) h vm k n) : RunW l Z EL n0 own code maxL ret nm R Q pc Ls (.ref a :: st) h vm k n := by
  subst hp
  exact RunW.via (fun p e s m args below meth c T locs cells slots hC X eT => getF X hC.1 hC.2.1 hC.2.2.1 w via eT F (g := mkF m pc Ls (.ref a :: st)) rfl rfl (hb hC.2.2.2.1 hd)) nxt
theorem RunW.initO {a0 : Array Value} {i : Nat} {a : Addr} (hd : decode code pc = .ok (.invokespecial i, 3)) (w1 : (Cond.methodLink own i Lib.objectInit).before a0 Z = true) (w2 : (Cond.instanceMethod Lib.objectInit).before a0 Z = true) (w3 : (Cond.code Lib.objectInit ⟨#[0xb1]⟩ 1 none).before a0 Z = true)
    (hsz : Ls.size = maxL) (hf : 1 ≤ R.frames) (hl : (st.map fun v => v.category).sum + 12 ≤ R.locals) (hp : pc + 3 = pc') (nxt : RunW l Z EL n0 own code maxL ret nm R Q pc' Ls st h vm k n) : RunW l Z EL n0 own code maxL ret nm R Q pc Ls (.ref a :: st) h vm k n := by
  subst hp
  exact RunW.via (fun p e s m args below meth c T locs cells slots hC X eT => initO X hC.1 hC.2.1 hC.2.2.1 w1 w2 w3 eT (g := mkF m pc Ls (.ref a :: st)) rfl (hsz.trans hC.2.2.2.2.1.symm) rfl (hb hC.2.2.2.1 hd) hf (W := (st.map fun v => v.category).sum) (by show 2 * 0 + _ ≤ _; omega) hl) nxt
theorem RunW.castY {a0 : Array Value} {K : String} {i : Nat} {a : Addr} (hd : decode code pc = .ok (.checkcast i, 3)) (w : (Cond.classLink own i K).before a0 Z = true) (F : Ins Z h a K true) (hp : pc + 3 = pc') (nxt : RunW l Z EL n0 own code maxL ret nm R Q pc' Ls (.ref a :: st) h vm k n) : RunW l Z EL n0 own code maxL ret nm R Q pc Ls (.ref a :: st) h vm k n := by
  subst hp
  exact RunW.via (fun p e s m args below meth c T locs cells slots hC X eT => castY X hC.1 hC.2.1 hC.2.2.1 w eT F (g := mkF m pc Ls (.ref a :: st)) rfl rfl (hb hC.2.2.2.1 hd)) nxt
theorem RunW.castNull {i : Nat} (hd : decode code pc = .ok (.checkcast i, 3)) (hp : pc + 3 = pc') (nxt : RunW l Z EL n0 own code maxL ret nm R Q pc' Ls (.null :: st) h vm k n) : RunW l Z EL n0 own code maxL ret nm R Q pc Ls (.null :: st) h vm k n := by
  subst hp
  exact RunW.via (fun p e s m args below meth c T locs cells slots hC X eT => ⟨T, X, eT, fun t q => X.checkcastNull hC.1 (g := mkF m pc Ls (.null :: st)) rfl rfl (hb hC.2.2.2.1 hd) t q⟩) nxt
theorem RunW.instY {a0 : Array Value} {K : String} {i : Nat} {a : Addr} (hd : decode code pc = .ok (.instanceof i, 3)) (w : (Cond.classLink own i K).before a0 Z = true) (F : Ins Z h a K true) (hp : pc + 3 = pc') (nxt : RunW l Z EL n0 own code maxL ret nm R Q pc' Ls (.int 1 :: st) h vm k n) : RunW l Z EL n0 own code maxL ret nm R Q pc Ls (.ref a :: st) h vm k n := by
  subst hp
  exact RunW.via (fun p e s m args below meth c T locs cells slots hC X eT => instY X hC.1 hC.2.1 hC.2.2.1 w eT F (g := mkF m pc Ls (.ref a :: st)) rfl rfl (hb hC.2.2.2.1 hd)) nxt
theorem RunW.instNo {a0 : Array Value} {K C : String} {i : Nat} {a : Addr} (hd : decode code pc = .ok (.instanceof i, 3)) (w : (Cond.classLink own i K).before a0 Z = true) (E : Exa Z h a C) (F : ∃ c t, Z.vm.findClass C = some c ∧ Z.vm.findClass K = some t ∧ Z.vm.assignable c t = false) (hp : pc + 3 = pc') (nxt : RunW l Z EL n0 own code maxL ret nm R Q pc' Ls (.int 0 :: st) h vm k n) : RunW l Z EL n0 own code maxL ret nm R Q pc Ls (.ref a :: st) h vm k n := by
  subst hp
  exact RunW.via (fun p e s m args below meth c T locs cells slots hC X eT => instNo X hC.1 hC.2.1 hC.2.2.1 w eT E F (g := mkF m pc Ls (.ref a :: st)) rfl rfl (hb hC.2.2.2.1 hd)) nxt
theorem RunW.instNull {i : Nat} (hd : decode code pc = .ok (.instanceof i, 3)) (hp : pc + 3 = pc') (nxt : RunW l Z EL n0 own code maxL ret nm R Q pc' Ls (.int 0 :: st) h vm k n) : RunW l Z EL n0 own code maxL ret nm R Q pc Ls (.null :: st) h vm k n := by
  subst hp
  exact RunW.via (fun p e s m args below meth c T locs cells slots hC X eT => ⟨T, X, eT, fun t q => X.instanceofNull hC.1 (g := mkF m pc Ls (.null :: st)) rfl rfl (hb hC.2.2.2.1 hd) t q⟩) nxt
theorem RunW.alen {a : Addr} {ty : FieldType} {vs : List Value} {z : Int32} (hd : decode code pc = .ok (.arraylength, 1)) (A : Ary Z h a ty vs) (hz : vs.length.toInt32 = z) (hp : pc + 1 = pc') (nxt : RunW l Z EL n0 own code maxL ret nm R Q pc' Ls (.int z :: st) h vm k n) : RunW l Z EL n0 own code maxL ret nm R Q pc Ls (.ref a :: st) h vm k n := by
  subst hp hz
  obtain ⟨c0, A, r⟩ := A
  exact RunW.via (fun p e s m args below meth c T locs cells slots hC X eT => ⟨T, X, eT, fun t q => X.arraylength hC.1 (by rw [eT]; exact A.1) (State.isArrayOf_alike hC.2.1.alike A.2.1) (g := mkF m pc Ls (.ref a :: st)) rfl rfl (hb hC.2.2.2.1 hd) t (by rw [sizeOf r]; exact q)⟩) nxt
theorem RunW.iaload {a : Addr} {vs : List Value} {j : Int32} {i : Nat} {v : Value} (hd : decode code pc = .ok (.iaload, 1)) (A : Ary Z h a .int vs) (hj : j.toInt = (i : Int)) (hv : vs[i]? = some v) (hp : pc + 1 = pc') (nxt : RunW l Z EL n0 own code maxL ret nm R Q pc' Ls (v :: st) h vm k n) : RunW l Z EL n0 own code maxL ret nm R Q pc Ls (.int j :: .ref a :: st) h vm k n := by
  subst hp
  obtain ⟨c0, A, r⟩ := A
  obtain ⟨hin, e0⟩ := idxIn (c := c0) hj (by rw [sizeOf r]; exact (List.getElem?_eq_some_iff.mp hv).1)
  exact RunW.via (fun p e s m args below meth c T locs cells slots hC X eT => ⟨T, X, eT, fun t q => X.iaload hC.1 (by rw [eT]; exact A.1) (State.isArrayOf_alike hC.2.1.alike A.2.1) A.2.2 hin (by rw [e0]; exact getOf r hv) (g := mkF m pc Ls (.int j :: .ref a :: st)) rfl rfl (hb hC.2.2.2.1 hd) t q⟩) nxt
theorem RunW.laload {a : Addr} {vs : List Value} {j : Int32} {i : Nat} {v : Value} (hd : decode code pc = .ok (.laload, 1)) (A : Ary Z h a .long vs) (hj : j.toInt = (i : Int)) (hv : vs[i]? = some v) (hp : pc + 1 = pc') (nxt : RunW l Z EL n0 own code maxL ret nm R Q pc' Ls (v :: st) h vm k n) : RunW l Z EL n0 own code maxL ret nm R Q pc Ls (.int j :: .ref a :: st) h vm k n := by
  subst hp
  obtain ⟨c0, A, r⟩ := A
  obtain ⟨hin, e0⟩ := idxIn (c := c0) hj (by rw [sizeOf r]; exact (List.getElem?_eq_some_iff.mp hv).1)
  exact RunW.via (fun p e s m args below meth c T locs cells slots hC X eT => ⟨T, X, eT, fun t q => X.laload hC.1 (by rw [eT]; exact A.1) (State.isArrayOf_alike hC.2.1.alike A.2.1) A.2.2 hin (by rw [e0]; exact getOf r hv) (g := mkF m pc Ls (.int j :: .ref a :: st)) rfl rfl (hb hC.2.2.2.1 hd) t q⟩) nxt
theorem RunW.caload {a : Addr} {vs : List Value} {j : Int32} {i : Nat} {v : Value} (hd : decode code pc = .ok (.caload, 1)) (A : Ary Z h a .char vs) (hj : j.toInt = (i : Int)) (hv : vs[i]? = some v) (hp : pc + 1 = pc') (nxt : RunW l Z EL n0 own code maxL ret nm R Q pc' Ls (v :: st) h vm k n) : RunW l Z EL n0 own code maxL ret nm R Q pc Ls (.int j :: .ref a :: st) h vm k n := by
  subst hp
  obtain ⟨c0, A, r⟩ := A
  obtain ⟨hin, e0⟩ := idxIn (c := c0) hj (by rw [sizeOf r]; exact (List.getElem?_eq_some_iff.mp hv).1)
  exact RunW.via (fun p e s m args below meth c T locs cells slots hC X eT => ⟨T, X, eT, fun t q => X.caload hC.1 (by rw [eT]; exact A.1) (State.isArrayOf_alike hC.2.1.alike A.2.1) A.2.2 hin (by rw [e0]; exact getOf r hv) (g := mkF m pc Ls (.int j :: .ref a :: st)) rfl rfl (hb hC.2.2.2.1 hd) t q⟩) nxt
theorem RunW.saload {a : Addr} {vs : List Value} {j : Int32} {i : Nat} {v : Value} (hd : decode code pc = .ok (.saload, 1)) (A : Ary Z h a .short vs) (hj : j.toInt = (i : Int)) (hv : vs[i]? = some v) (hp : pc + 1 = pc') (nxt : RunW l Z EL n0 own code maxL ret nm R Q pc' Ls (v :: st) h vm k n) : RunW l Z EL n0 own code maxL ret nm R Q pc Ls (.int j :: .ref a :: st) h vm k n := by
  subst hp
  obtain ⟨c0, A, r⟩ := A
  obtain ⟨hin, e0⟩ := idxIn (c := c0) hj (by rw [sizeOf r]; exact (List.getElem?_eq_some_iff.mp hv).1)
  exact RunW.via (fun p e s m args below meth c T locs cells slots hC X eT => ⟨T, X, eT, fun t q => X.saload hC.1 (by rw [eT]; exact A.1) (State.isArrayOf_alike hC.2.1.alike A.2.1) A.2.2 hin (by rw [e0]; exact getOf r hv) (g := mkF m pc Ls (.int j :: .ref a :: st)) rfl rfl (hb hC.2.2.2.1 hd) t q⟩) nxt
theorem RunW.baload {a : Addr} {vs : List Value} {j : Int32} {i : Nat} {v : Value} (hd : decode code pc = .ok (.baload, 1)) (A : Ary Z h a .byte vs) (hj : j.toInt = (i : Int)) (hv : vs[i]? = some v) (hp : pc + 1 = pc') (nxt : RunW l Z EL n0 own code maxL ret nm R Q pc' Ls (v :: st) h vm k n) : RunW l Z EL n0 own code maxL ret nm R Q pc Ls (.int j :: .ref a :: st) h vm k n := by
  subst hp
  obtain ⟨c0, A, r⟩ := A
  obtain ⟨hin, e0⟩ := idxIn (c := c0) hj (by rw [sizeOf r]; exact (List.getElem?_eq_some_iff.mp hv).1)
  exact RunW.via (fun p e s m args below meth c T locs cells slots hC X eT => ⟨T, X, eT, fun t q => X.baloadBytes hC.1 (by rw [eT]; exact A.1) (State.isArrayOf_alike hC.2.1.alike A.2.1) A.2.2 hin (by rw [e0]; exact getOf r hv) (g := mkF m pc Ls (.int j :: .ref a :: st)) rfl rfl (hb hC.2.2.2.1 hd) t q⟩) nxt
theorem RunW.aaload {a : Addr} {vs : List Value} {j : Int32} {i : Nat} {v : Value} {ty : FieldType} (hd : decode code pc = .ok (.aaload, 1)) (A : Ary Z h a ty vs) (hty : ty.isReference = true) (hj : j.toInt = (i : Int)) (hv : vs[i]? = some v) (hp : pc + 1 = pc') (nxt : RunW l Z EL n0 own code maxL ret nm R Q pc' Ls (v :: st) h vm k n) : RunW l Z EL n0 own code maxL ret nm R Q pc Ls (.int j :: .ref a :: st) h vm k n := by
  subst hp
  obtain ⟨c0, A, r⟩ := A
  obtain ⟨hin, e0⟩ := idxIn (c := c0) hj (by rw [sizeOf r]; exact (List.getElem?_eq_some_iff.mp hv).1)
  exact RunW.via (fun p e s m args below meth c T locs cells slots hC X eT => ⟨T, X, eT, fun t q => X.aaload hC.1 (by rw [eT]; exact A.1) (State.isArrayOf_alike hC.2.1.alike A.2.1) hty A.2.2 hin (by rw [e0]; exact getOf r hv) (g := mkF m pc Ls (.int j :: .ref a :: st)) rfl rfl (hb hC.2.2.2.1 hd) t q⟩) nxt
theorem GoW.fin {p : Program} {e : Env} {s : State} {m : MethodId} {args : Array Value} {below : List Frame} {meth : Method} {c : Code} {T S : State} {locs : List Loc} {cells slots k0 : Nat} {v : Option Value} (X : Stand p l e R (s.setVm vm) m args below meth c T locs cells slots) (hZ : Z.Warmed39 (s.setVm vm).vm) (hS : s.Since vm k0) (hk0 : k0 ≤ h.size) (hR : CHr Z EL s.vm s.heap vm h) (hE : ∃ a0, EW Z a0 EL) (eT : T.heap = h) (hv : meth.sig.returnType = none → v = none) (hlk : meth.locks = false) (hF : Fr n0 locs) (hk : cells ≤ R.cells) (hn : slots ≤ R.slots) (hQ : Q v h)
    (f : ∀ fs, (∀ (f : JFrame) (acts : List Action), f.method = m → f.locked = none → f.entered = [] → (doReturn e (T.setTop f) acts v).1 = T.setFrames fs) → Steps p.tables e below S (T.setFrames fs)) : GoW p e below Z s EL n0 R.cells R.slots Q S := by
  subst eT
  obtain ⟨a0, hE⟩ := hE
  have hRq := hR.trans (CHv.at X hZ hE hR.1)
  obtain ⟨fs, hr, hrun, hended, hW⟩ := X.leaveW hS hk0 (v := v) hv hlk
  exact ⟨_, v, locs, f fs hr, hrun, hended, ⟨hQ, hF⟩, hRq, hW.1, hW.2.1, hW.2.2.1, hW.2.2.2.mono hk hn⟩
theorem RunW.ireturn {z : Int32} (hd : decode code pc = .ok (.ireturn, 1)) (hret : ret = some .int) (hk : k ≤ R.cells) (hn : n ≤ R.slots) (hQ : Q (some (.int z)) h) : RunW l Z EL n0 own code maxL ret nm R Q pc Ls (.int z :: st) h vm k n := by
  intro p e s m args below meth c T locs cells slots k0 hC X hS hk0 hR hE eT hF hk' hn'
  have hr := hC.2.2.2.2.2.1
  exact GoW.fin X hC.2.1 hS hk0 hR hE eT (fun q => by rw [hr, hret] at q; cases q) hC.2.2.2.2.2.2.1 hF (Nat.le_trans hk' hk) (Nat.le_trans hn' hn) hQ (fun fs hl => retOut X hC.1 (hr.trans hret) rfl (Or.inl ⟨rfl, Or.inl rfl, z, rfl⟩) (hb hC.2.2.2.1 hd) hl)
theorem RunW.nreturn {z : Int32} {ty : FieldType} (hd : decode code pc = .ok (.ireturn, 1)) (hret : ret = some ty) (ht : ty = .boolean ∨ ty = .byte ∨ ty = .char ∨ ty = .short) (hk : k ≤ R.cells) (hn : n ≤ R.slots) (hQ : Q (some (.int (nar ty z))) h) : RunW l Z EL n0 own code maxL ret nm R Q pc Ls (.int z :: st) h vm k n := by
  intro p e s m args below meth c T locs cells slots k0 hC X hS hk0 hR hE eT hF hk' hn'
  have hr := hC.2.2.2.2.2.1
  exact GoW.fin X hC.2.1 hS hk0 hR hE eT (fun q => by rw [hr, hret] at q; cases q) hC.2.2.2.2.2.2.1 hF (Nat.le_trans hk' hk) (Nat.le_trans hn' hn) hQ (fun fs hl => retN X hC.1 (hr.trans hret) ht (hb hC.2.2.2.1 hd) hl)
theorem RunW.lreturn {z : Int64} (hd : decode code pc = .ok (.lreturn, 1)) (hret : ret = some .long) (hk : k ≤ R.cells) (hn : n ≤ R.slots) (hQ : Q (some (.long z)) h) : RunW l Z EL n0 own code maxL ret nm R Q pc Ls (.long z :: st) h vm k n := by
  intro p e s m args below meth c T locs cells slots k0 hC X hS hk0 hR hE eT hF hk' hn'
  have hr := hC.2.2.2.2.2.1
  exact GoW.fin X hC.2.1 hS hk0 hR hE eT (fun q => by rw [hr, hret] at q; cases q) hC.2.2.2.2.2.2.1 hF (Nat.le_trans hk' hk) (Nat.le_trans hn' hn) hQ (fun fs hl => retOut X hC.1 (hr.trans hret) rfl (Or.inr (Or.inl ⟨rfl, rfl, z, rfl⟩)) (hb hC.2.2.2.1 hd) hl)
theorem RunW.areturn {w : Value} {ty : FieldType} (hd : decode code pc = .ok (.areturn, 1)) (hret : ret = some ty) (ht : ty.isReference = true) (hw : w.isRef = true) (hk : k ≤ R.cells) (hn : n ≤ R.slots) (hQ : Q (some w) h) : RunW l Z EL n0 own code maxL ret nm R Q pc Ls (w :: st) h vm k n := by
  intro p e s m args below meth c T locs cells slots k0 hC X hS hk0 hR hE eT hF hk' hn'
  have hr := hC.2.2.2.2.2.1
  exact GoW.fin X hC.2.1 hS hk0 hR hE eT (fun q => by rw [hr, hret] at q; cases q) hC.2.2.2.2.2.2.1 hF (Nat.le_trans hk' hk) (Nat.le_trans hn' hn) hQ (fun fs hl => retOut X hC.1 (hr.trans hret) (go_narref ht hw) (Or.inr (Or.inr (Or.inr (Or.inr ⟨rfl, ht, hw⟩)))) (hb hC.2.2.2.1 hd) hl)
theorem RunW.vreturn  (hd : decode code pc = .ok (.return_, 1)) (hret : ret = none) (hk : k ≤ R.cells) (hn : n ≤ R.slots) (hQ : Q none h) : RunW l Z EL n0 own code maxL ret nm R Q pc Ls [] h vm k n := by
  intro p e s m args below meth c T locs cells slots k0 hC X hS hk0 hR hE eT hF hk' hn'
  have hr := hC.2.2.2.2.2.1
  exact GoW.fin X hC.2.1 hS hk0 hR hE eT (fun _ => rfl) hC.2.2.2.2.2.2.1 hF (Nat.le_trans hk' hk) (Nat.le_trans hn' hn) hQ (fun fs hl => X.returnOut hC.1 (hr.trans hret) (hb hC.2.2.2.1 hd) hl)

theorem RunW.wr {a : Addr} {sl : Nat} {v : Value} {Ls' : Array Slot} {st' : List Value} (f : ∀ (p : Program) (e : Env) (s : State) (m : MethodId) (args : Array Value) (below : List Frame) (meth : Method) (c : Code) (T : State) (locs : List Loc) (cells slots : Nat),
      Ctx Z own code maxL ret nm p s m meth c → Stand p l e R s m args below meth c T locs cells slots → T.heap = h → ∃ T' h', Stand p l e R s m args below meth c T' (locs ++ [⟨a, sl⟩]) cells slots ∧ T'.heap = h' ∧ Wr h h' a sl v ∧ ∀ t, Steps p.tables e below (T'.setTop (mkF m pc' Ls' st')) t → Steps p.tables e below (T.setTop (mkF m pc Ls st)) t)
    (ha : n0 ≤ a) (sa : Safe Z EL vm h a) (nxt : ∀ h', Wr h h' a sl v → CHr Z EL vm h vm h' → RunW l Z EL n0 own code maxL ret nm R Q pc' Ls' st' h' vm k n) : RunW l Z EL n0 own code maxL ret nm R Q pc Ls st h vm k n := by
  intro p e s m args below meth c T locs cells slots k0 hC X hS hk0 hR hE eT hF hk hn
  obtain ⟨T', h', X', e', W, stp⟩ := f p e (s.setVm vm) m args below meth c T locs cells slots hC X eT
  have c1 := CHr.wr W sa hR.1
  obtain ⟨s₂, v', L, g1, g2⟩ := nxt h' W c1 p e s m args below meth c T' _ cells slots k0 hC X' hS (by rw [W.size]; exact hk0) (hR.trans c1) hE e' (Fr.snoc X' hF ha) hk hn
  exact ⟨s₂, v', L, stp _ g1, g2⟩
theorem RunW.newO {a0 : Array Value} {C : String} {i sl : Nat} (hd : decode code pc = .ok (.new i, 3)) (w : (Cond.classLink own i C).before a0 Z = true) (wi : (Cond.instantiable C sl).before a0 Z = true) (wz : (Cond.initialized C).before a0 Z = true)
    (hk : k + 1 ≤ k') (hk' : k' ≤ R.cells) (hn : n + sl ≤ n') (hn' : n' ≤ R.slots) (hp : pc + 3 = pc')
    (nxt : ∀ h' a, a = h.size → Ext h h' → Exa Z h' a C → (∀ {O f d : String} {ty : FieldType}, Laid Z a0 C O f d → parseFieldDescriptor d = some ty → Fld Z h' a O f d (defaultValue ty)) → CHr Z EL vm h vm h' → Safe Z EL vm h' a → RunW l Z EL n0 own code maxL ret nm R Q pc' Ls (.ref a :: st) h' vm k' n') : RunW l Z EL n0 own code maxL ret nm R Q pc Ls st h vm k n := by
  subst hp
  intro p e s m args below meth c T locs cells slots k0 hC X hS hk0 hR hE eT hF hkk hnn
  obtain ⟨T', h', X', e', E, A, D, -, stp⟩ := newO X hC.1 hC.2.1 hC.2.2.1 w wi wz eT (g := mkF m pc Ls st) rfl (hb hC.2.2.2.1 hd) (by omega) (by omega)
  have c1 := CHr.ext E hR.1
  obtain ⟨s₂, v, L, g1, g2⟩ := nxt h' h.size rfl E A D c1 (Safe.ext E hR.1 (Safe.new (Nat.le_refl _))) p e s m args below meth c T' locs _ _ k0 hC X' hS (Nat.le_trans hk0 E.1) (hR.trans c1) hE e' hF (by omega) (by omega)
  exact ⟨s₂, v, L, stp _ g1, g2⟩
theorem RunW.newP {a0 : Array Value} {aty : ArrayType} {ty : FieldType} {z : Int32} {cap m : Nat} {dv : Value} (hd : decode code pc = .ok (.newarray aty, 2)) (hty : newarray.typeOf aty = ty) (w : (Cond.arrayClass ty).before a0 Z = true) (hz : ¬ z < 0) (hcap : z.toNatClampNeg = m) (hm : m ≤ cap) (hdv : defaultValue ty = dv) (hcb : cap * 8 ≤ 536870912)
    (hk : k + 1 ≤ k') (hk' : k' ≤ R.cells) (hn : n + cap ≤ n') (hn' : n' ≤ R.slots) (hp : pc + 2 = pc')
    (nxt : ∀ h' a, a = h.size → Ext h h' → Ary Z h' a ty (List.replicate m dv) → CHr Z EL vm h vm h' → Safe Z EL vm h' a → RunW l Z EL n0 own code maxL ret nm R Q pc' Ls (.ref a :: st) h' vm k' n') : RunW l Z EL n0 own code maxL ret nm R Q pc Ls (.int z :: st) h vm k n := by
  subst hp hty hdv
  intro p e s m' args below meth c T locs cells slots k0 hC X hS hk0 hR hE eT hF hkk hnn
  obtain ⟨T', h', cA, X', e', E, A, stp⟩ := newP X hC.1 hC.2.1 w eT (g := mkF m' pc Ls (.int z :: st)) rfl (hb hC.2.2.2.1 hd) rfl hz (by omega) hcb (by omega) (by omega)
  have c1 := CHr.ext E hR.1
  obtain ⟨s₂, v, L, g1, g2⟩ := nxt h' h.size rfl E ⟨_, A, by simp [newA, hcap]⟩ c1 (Safe.ext E hR.1 (Safe.new (Nat.le_refl _))) p e s m' args below meth c T' locs _ _ k0 hC X' hS (Nat.le_trans hk0 E.1) (hR.trans c1) hE e' hF (by omega) (by omega)
  exact ⟨s₂, v, L, stp _ g1, g2⟩
theorem RunW.putF {a0 : Array Value} {R0 O f d host C : String} {i sl : Nat} {ty : FieldType} {a : Addr} {v old : Value} (hd : decode code pc = .ok (.putfield i, 3)) (w : (Cond.fieldLink own i R0 f d).before a0 Z = true ∨ (Cond.fieldLinkNest own i R0 f d host).before a0 Z = true) (via : Via Z R0 O f d) (F : Fld Z h a O f d old) (E : Exa Z h a C)
    (L : (Cond.lays C O f d).before a0 Z = true ∨ ((Cond.laysFinal C O f d).before a0 Z = true ∧ own = O ∧ nm = "<init>")) (wi : (Cond.instantiable C sl).before a0 Z = true) (hty : parseFieldDescriptor d = some ty) (hnv : narrow ty v = v) (hfv : fits ty v = true) (ha : n0 ≤ a) (sa : Safe Z EL vm h a) (hp : pc + 3 = pc')
    (nxt : ∀ h', Wr h h' a (Jvm.RoadKit.slotOf Z O f d) v → CHr Z EL vm h vm h' → RunW l Z EL n0 own code maxL ret nm R Q pc' Ls st h' vm k n) : RunW l Z EL n0 own code maxL ret nm R Q pc Ls (v :: .ref a :: st) h vm k n := by
  subst hp
  exact RunW.wr (fun p e s m args below meth c T locs cells slots hC X eT => putF X hC.1 hC.2.1 hC.2.2.1 w via eT F E (L.imp id fun q => ⟨q.1, q.2.1, hC.2.2.2.2.2.2.2.trans q.2.2⟩) wi hty hnv hfv (g := mkF m pc Ls (v :: .ref a :: st)) rfl rfl (hb hC.2.2.2.1 hd)) ha sa nxt
theorem RunW.putFN {a0 : Array Value} {R0 O f d C : String} {i sl : Nat} {ty : FieldType} {a : Addr} {v v' old : Value} (hd : decode code pc = .ok (.putfield i, 3)) (w : (Cond.fieldLink own i R0 f d).before a0 Z = true) (via : Via Z R0 O f d) (F : Fld Z h a O f d old) (E : Exa Z h a C)
    (L : (Cond.lays C O f d).before a0 Z = true ∨ ((Cond.laysFinal C O f d).before a0 Z = true ∧ own = O ∧ nm = "<init>")) (wi : (Cond.instantiable C sl).before a0 Z = true) (hty : parseFieldDescriptor d = some ty) (hnv : narrow ty v = v') (hfv : fits ty v' = true) (ha : n0 ≤ a) (sa : Safe Z EL vm h a) (hp : pc + 3 = pc')
    (nxt : ∀ h', Wr h h' a (Jvm.RoadKit.slotOf Z O f d) v' → CHr Z EL vm h vm h' → RunW l Z EL n0 own code maxL ret nm R Q pc' Ls st h' vm k n) : RunW l Z EL n0 own code maxL ret nm R Q pc Ls (v :: .ref a :: st) h vm k n := by
  subst hp
  exact RunW.wr (fun p e s m args below meth c T locs cells slots hC X eT => putFN X hC.1 hC.2.1 hC.2.2.1 w via eT F E (L.imp id fun q => ⟨q.1, q.2.1, hC.2.2.2.2.2.2.2.trans q.2.2⟩) wi hty hnv hfv (g := mkF m pc Ls (v :: .ref a :: st)) rfl rfl (hb hC.2.2.2.1 hd)) ha sa nxt
theorem RunW.iastore {a : Addr} {vs : List Value} {j : Int32} {i : Nat} {x : Int32} (hd : decode code pc = .ok (.iastore, 1)) (A : Ary Z h a .int vs) (hj : j.toInt = (i : Int)) (hi : i < vs.length) (ha : n0 ≤ a) (sa : Safe Z EL vm h a) (hp : pc + 1 = pc') (nxt : ∀ h', Wr h h' a i (.int x) → CHr Z EL vm h vm h' → Ary Z h' a .int (vs.set i (.int x)) → RunW l Z EL n0 own code maxL ret nm R Q pc' Ls st h' vm k n) : RunW l Z EL n0 own code maxL ret nm R Q pc Ls (.int x :: .int j :: .ref a :: st) h vm k n := by
  subst hp
  have A' := A
  obtain ⟨c0, A, r⟩ := A
  obtain ⟨hin, e0⟩ := idxIn (c := c0) hj (by rw [sizeOf r]; exact hi)
  refine RunW.wr (fun p e s m args below meth c T locs cells slots hC X eT => ?_) ha sa (fun h' W c1 => nxt h' W c1 (A'.set W))
  have q := stI X hC.1 hC.2.1 eT A hin (g := mkF m pc Ls (.int x :: .int j :: .ref a :: st)) rfl rfl (hb hC.2.2.2.1 hd)
  rw [e0] at q
  exact q
theorem RunW.lastore {a : Addr} {vs : List Value} {j : Int32} {i : Nat} {x : Int64} (hd : decode code pc = .ok (.lastore, 1)) (A : Ary Z h a .long vs) (hj : j.toInt = (i : Int)) (hi : i < vs.length) (ha : n0 ≤ a) (sa : Safe Z EL vm h a) (hp : pc + 1 = pc') (nxt : ∀ h', Wr h h' a i (.long x) → CHr Z EL vm h vm h' → Ary Z h' a .long (vs.set i (.long x)) → RunW l Z EL n0 own code maxL ret nm R Q pc' Ls st h' vm k n) : RunW l Z EL n0 own code maxL ret nm R Q pc Ls (.long x :: .int j :: .ref a :: st) h vm k n := by
  subst hp
  have A' := A
  obtain ⟨c0, A, r⟩ := A
  obtain ⟨hin, e0⟩ := idxIn (c := c0) hj (by rw [sizeOf r]; exact hi)
  refine RunW.wr (fun p e s m args below meth c T locs cells slots hC X eT => ?_) ha sa (fun h' W c1 => nxt h' W c1 (A'.set W))
  have q := stJ X hC.1 hC.2.1 eT A hin (g := mkF m pc Ls (.long x :: .int j :: .ref a :: st)) rfl rfl (hb hC.2.2.2.1 hd)
  rw [e0] at q
  exact q
theorem RunW.castore {a : Addr} {vs : List Value} {j : Int32} {i : Nat} {x : Int32} (hd : decode code pc = .ok (.castore, 1)) (A : Ary Z h a .char vs) (hj : j.toInt = (i : Int)) (hi : i < vs.length) (ha : n0 ≤ a) (sa : Safe Z EL vm h a) (hp : pc + 1 = pc') (nxt : ∀ h', Wr h h' a i (.int (nar .char x)) → CHr Z EL vm h vm h' → Ary Z h' a .char (vs.set i (.int (nar .char x))) → RunW l Z EL n0 own code maxL ret nm R Q pc' Ls st h' vm k n) : RunW l Z EL n0 own code maxL ret nm R Q pc Ls (.int x :: .int j :: .ref a :: st) h vm k n := by
  subst hp
  have A' := A
  obtain ⟨c0, A, r⟩ := A
  obtain ⟨hin, e0⟩ := idxIn (c := c0) hj (by rw [sizeOf r]; exact hi)
  refine RunW.wr (fun p e s m args below meth c T locs cells slots hC X eT => ?_) ha sa (fun h' W c1 => nxt h' W c1 (A'.set W))
  have q := stC X hC.1 hC.2.1 eT A hin (g := mkF m pc Ls (.int x :: .int j :: .ref a :: st)) rfl rfl (hb hC.2.2.2.1 hd)
  rw [e0] at q
  exact q
theorem RunW.sastore {a : Addr} {vs : List Value} {j : Int32} {i : Nat} {x : Int32} (hd : decode code pc = .ok (.sastore, 1)) (A : Ary Z h a .short vs) (hj : j.toInt = (i : Int)) (hi : i < vs.length) (ha : n0 ≤ a) (sa : Safe Z EL vm h a) (hp : pc + 1 = pc') (nxt : ∀ h', Wr h h' a i (.int (nar .short x)) → CHr Z EL vm h vm h' → Ary Z h' a .short (vs.set i (.int (nar .short x))) → RunW l Z EL n0 own code maxL ret nm R Q pc' Ls st h' vm k n) : RunW l Z EL n0 own code maxL ret nm R Q pc Ls (.int x :: .int j :: .ref a :: st) h vm k n := by
  subst hp
  have A' := A
  obtain ⟨c0, A, r⟩ := A
  obtain ⟨hin, e0⟩ := idxIn (c := c0) hj (by rw [sizeOf r]; exact hi)
  refine RunW.wr (fun p e s m args below meth c T locs cells slots hC X eT => ?_) ha sa (fun h' W c1 => nxt h' W c1 (A'.set W))
  have q := stS X hC.1 hC.2.1 eT A hin (g := mkF m pc Ls (.int x :: .int j :: .ref a :: st)) rfl rfl (hb hC.2.2.2.1 hd)
  rw [e0] at q
  exact q
theorem RunW.bastore {a : Addr} {vs : List Value} {j : Int32} {i : Nat} {x : Int32} (hd : decode code pc = .ok (.bastore, 1)) (A : Ary Z h a .byte vs) (hj : j.toInt = (i : Int)) (hi : i < vs.length) (ha : n0 ≤ a) (sa : Safe Z EL vm h a) (hp : pc + 1 = pc') (nxt : ∀ h', Wr h h' a i (.int (nar .byte x)) → CHr Z EL vm h vm h' → Ary Z h' a .byte (vs.set i (.int (nar .byte x))) → RunW l Z EL n0 own code maxL ret nm R Q pc' Ls st h' vm k n) : RunW l Z EL n0 own code maxL ret nm R Q pc Ls (.int x :: .int j :: .ref a :: st) h vm k n := by
  subst hp
  have A' := A
  obtain ⟨c0, A, r⟩ := A
  obtain ⟨hin, e0⟩ := idxIn (c := c0) hj (by rw [sizeOf r]; exact hi)
  refine RunW.wr (fun p e s m args below meth c T locs cells slots hC X eT => ?_) ha sa (fun h' W c1 => nxt h' W c1 (A'.set W))
  have q := stB X hC.1 hC.2.1 eT A hin (g := mkF m pc Ls (.int x :: .int j :: .ref a :: st)) rfl rfl (hb hC.2.2.2.1 hd)
  rw [e0] at q
  exact q
theorem backW {p : Program} {e : Env} {s : State} {args : Array Value} {below : List Frame} {a0 a1 : Array Value} {y : MethodName} {bytes : ByteArray} {mL : Nat} {rt : Option FieldType} {rm : Room} {len W : Nat} {as' : Array Value} {sf : List Addr} {Q : Option Value → Heap → List Loc → Prop}
    (hM : MetFree l y (head1 [Cond.code y bytes mL rt] rm) (fun a U => a = as' ∧ Z.Warmed39 U.vm ∧ U.heap = h ∧ CHv Z EL U.vm h ∧ ∀ x ∈ sf, Safe Z EL U.vm h x) (fun _ _ _ _ _ => True) (fun _ U o U' => ∃ v L, o = .returned v ∧ Q v U'.heap L ∧ CHr Z EL U.vm U.heap U'.vm U'.heap ∧ ReturnedEndW U o U' L rm.cells rm.slots))
    (hZ : Z.Warmed39 (s.setVm vm).vm) (wc : (Cond.code y bytes mL rt).before a0 Z = true) (wz : (Cond.initialized y.cls).before a0 Z = true) (hf : rm.frames + 1 ≤ R.frames) (hl : W + (mL + 11) + rm.locals ≤ R.locals) (hEL : EW Z a1 EL) (H : CHv Z EL vm h) (hsf : ∀ x ∈ sf, Safe Z EL vm h x) :
    BackS l R p e below (s.setVm vm) args y len W (fun A a => a = as' ∧ A.U.heap = h ∧ A.cells + rm.cells ≤ R.cells ∧ A.slots + rm.slots ≤ R.slots)
      (fun A _ v B => ∃ L, Q v B.U.heap L ∧ B.locs = A.locs ++ L ∧ B.cells = A.cells + rm.cells ∧ B.slots = A.slots + rm.slots ∧ CHr Z EL vm h B.U.vm B.U.heap) := by
  refine BackS.of_freeW (bytes := bytes) (maxL := mL) (ret := rt) (E := fun _ first o t L k n => k = rm.cells ∧ n = rm.slots ∧ (∃ v, o = .returned v ∧ Q v t.heap L) ∧ CHr Z EL first.vm first.heap t.vm t.heap) hM hf hl ?_ ?_ (fun _ _ _ _ _ _ _ _ _ => trivial) (fun _ _ _ _ ⟨v, L, h1, h2, h3, h4⟩ => ⟨L, _, _, h4, rfl, rfl, ⟨v, h1, h2⟩, h3⟩) ?_
  · intro m meth c A a Y hp
    have hU : Z.Warmed39 A.U.vm := wtrans (s := s.setVm vm) hZ Y.warmed
    exact ⟨by show (Cond.and _ .tt).before a A.U = true; rw [Cond.before_and, mv hU wc]; rfl, mv hU wc, mv hU wz, hp.2.2.1, hp.2.2.2⟩
  · intro m meth c A a g mk Y hp
    have c1 := CHv.at Y hZ hEL H
    refine ⟨hp.1, wtrans (s := s.setVm vm) hZ Y.warmed, hp.2.1, c1.1, fun x hx => ?_⟩
    exact fun B => by
      rcases c1.2.2 x B with q | q
      · exact hsf x hx q
      · obtain ⟨cell, q2⟩ := B.there
        exact absurd (Array.getElem?_eq_some_iff.mp q2).1 (Nat.not_lt.mpr q)
  · intro m meth c A a g mk v t L k n Y hp _ _ hq
    obtain ⟨e1, e2, ⟨v', e3, e4⟩, e5⟩ := hq
    cases e3; subst e1 e2
    refine ⟨L, e4, rfl, rfl, rfl, (CHv.at Y hZ hEL H).trans ?_⟩
    rw [← hp.2.1]; exact e5
theorem RunW.callS {a0 : Array Value} {y : MethodName} {bytes : ByteArray} {mL : Nat} {rt : Option FieldType} {rm : Room} {as rest : List Value} {Qy : Option Value → Heap → Prop} {i : Nat} {ps : List FieldType} {rr : Option FieldType}
    (hC : Con l Z n0 y bytes mL rt rm as.toArray h Qy) (hs : ∀ v h', Qy v h' → ∃ ws, Keep h h' ws ∧ ∀ x ∈ ws, Safe Z EL vm h x) (hd : decode code pc = .ok (.invokestatic i, 3)) (w1 : (Cond.methodLink own i y).before a0 Z = true) (w2 : (Cond.static y).before a0 Z = true) (w3 : (Cond.initialized y.cls).before a0 Z = true) (w4 : (Cond.code y bytes mL rt).before a0 Z = true)
    (hy : y.cls ≠ "java/lang/invoke/MethodHandle" ∧ y.cls ≠ "java/lang/invoke/VarHandle") (hds : parseMethodDescriptor y.desc = some ⟨ps, rr⟩) (hl : as.length = ps.length) (hst : st = as.reverse ++ rest) (hsz : Ls.size = maxL)
    (hf : rm.frames + 1 ≤ R.frames) (hlo : (rest.map fun v => v.category).sum + (mL + 11) + rm.locals ≤ R.locals) (hk : k + rm.cells ≤ k') (hk' : k' ≤ R.cells) (hn : n + rm.slots ≤ n') (hn' : n' ≤ R.slots) (hp : pc + 3 = pc')
    (nxt : ∀ v h', Qy v h' → CHr Z EL vm h vm h' → RunW l Z EL n0 own code maxL ret nm R Q pc' Ls (v.toList ++ rest) h' vm k' n') : RunW l Z EL n0 own code maxL ret nm R Q pc Ls st h vm k n := by
  subst hp hst
  intro p e s m args below meth c T locs cells slots k0 hX X hS hk0 hR hE eT hF hc hss
  obtain ⟨hx, hZ, hown, hby, hml, -⟩ := id hX
  obtain ⟨v, vm₁, ⟨B, L', cc, ss⟩, -, X', ⟨Lc, hQ, l1, y1, z1⟩, stp⟩ := Jvm.LawKit.callS X hx (y := y) hown (mvT hZ w1) (mvT hZ w2) (mvT hZ w3) (mvT hZ w4) hy (backOf (W := (rest.map fun v => v.category).sum) (Q := fun v h L => Qy v h ∧ Fr n0 L) (hC []) hZ w4 w3 hf hlo) (g := mkF m pc Ls (as.reverse ++ rest)) rfl (hsz.trans hml.symm) (argsL := as) (rest := rest) (lenOf hds hl) rfl (by show 2 * 0 + _ ≤ _; omega) (hb hby hd) (fun _ _ => ⟨rfl, eT, (by show cells + rm.cells ≤ R.cells; omega), (by show slots + rm.slots ≤ R.slots; omega)⟩)
  dsimp only [Pt.U, Pt.locs, Pt.cells, Pt.slots] at X' l1 y1 z1 stp hQ
  subst l1 y1 z1
  obtain ⟨ws, K, hsw⟩ := hs v _ hQ.1
  have c1 := CHr.keep K hsw hR.1
  obtain ⟨s₂, v', L, g1, g2⟩ := nxt v _ hQ.1 c1 p e s m args below meth c B _ _ _ k0 hX X' hS (Nat.le_trans hk0 K.1) (hR.trans c1) hE rfl (Fr.app hF hQ.2) (by omega) (by omega)
  exact ⟨s₂, v', L, stp _ g1, g2⟩
theorem RunW.callSW {a0 a1 : Array Value} {sf : List Addr} {y : MethodName} {bytes : ByteArray} {mL : Nat} {rt : Option FieldType} {rm : Room} {as rest : List Value} {Qy : Option Value → Heap → Prop} {i : Nat} {ps : List FieldType} {rr : Option FieldType}
    (hC : ConW l Z EL n0 y bytes mL rt rm as.toArray h sf Qy) (hsf : ∀ x ∈ sf, Safe Z EL vm h x) (hEL : EW Z a1 EL) (hd : decode code pc = .ok (.invokestatic i, 3)) (w1 : (Cond.methodLink own i y).before a0 Z = true) (w2 : (Cond.static y).before a0 Z = true) (w3 : (Cond.initialized y.cls).before a0 Z = true) (w4 : (Cond.code y bytes mL rt).before a0 Z = true)
    (hy : y.cls ≠ "java/lang/invoke/MethodHandle" ∧ y.cls ≠ "java/lang/invoke/VarHandle") (hds : parseMethodDescriptor y.desc = some ⟨ps, rr⟩) (hl : as.length = ps.length) (hst : st = as.reverse ++ rest) (hsz : Ls.size = maxL)
    (hf : rm.frames + 1 ≤ R.frames) (hlo : (rest.map fun v => v.category).sum + (mL + 11) + rm.locals ≤ R.locals) (hk : k + rm.cells ≤ k') (hk' : k' ≤ R.cells) (hn : n + rm.slots ≤ n') (hn' : n' ≤ R.slots) (hp : pc + 3 = pc')
    (nxt : ∀ v h' vm', Qy v h' → CHr Z EL vm h vm' h' → RunW l Z EL n0 own code maxL ret nm R Q pc' Ls (v.toList ++ rest) h' vm' k' n') : RunW l Z EL n0 own code maxL ret nm R Q pc Ls st h vm k n := by
  subst hp hst
  intro p e s m args below meth c T locs cells slots k0 hX X hS hk0 hR hE eT hF hc hss
  obtain ⟨hx, hZ, hown, hby, hml, hrt, hlk, hnm⟩ := id hX
  obtain ⟨v, vm₁, ⟨B, L', cc, ss⟩, -, X', hS2, hgr, ⟨Lc, hQ, l1, y1, z1, c1⟩, stp⟩ := callSS X hx (y := y) hown (mvT hZ w1) (mvT hZ w2) (mvT hZ w3) (mvT hZ w4) hy (backW (W := (rest.map fun v => v.category).sum) (Q := fun v h L => Qy v h ∧ Fr n0 L) (hC []) hZ w4 w3 hf hlo hEL hR.1 hsf) (g := mkF m pc Ls (as.reverse ++ rest)) rfl (hsz.trans hml.symm) (argsL := as) (rest := rest) (lenOf hds hl) rfl (by show 2 * 0 + _ ≤ _; omega) (hb hby hd) (fun _ _ => ⟨rfl, eT, (by show cells + rm.cells ≤ R.cells; omega), (by show slots + rm.slots ≤ R.slots; omega)⟩)
  dsimp only [Pt.U, Pt.locs, Pt.cells, Pt.slots] at X' hS2 hgr l1 y1 z1 stp hQ c1
  subst l1 y1 z1
  have hZ2 : Z.Warmed39 B.vm := State.Warmed39.trans (t := s.setVm vm) hZ hS2.1
  obtain ⟨s₂, v', L, g1, g2⟩ := nxt v _ B.vm hQ.1 c1 p e s m args below meth c B _ _ _ B.heap.size ⟨hx, hZ2, (by rw [show (s.setVm B.vm).vm = B.vm from rfl, hS2.1.alike.findClass]; exact hown), hby, hml, hrt, hlk, hnm⟩ X' (hS.trans hS2 (by rw [← eT] at hk0; omega)) (Nat.le_refl _) (hR.trans c1) hE rfl (Fr.app hF hQ.2) (by omega) (by omega)
  exact ⟨s₂, v', L, stp.trans g1, g2⟩
theorem RunW.callV {a0 : Array Value} {C : String} {y z : MethodName} {bytes : ByteArray} {mL : Nat} {rt : Option FieldType} {rm : Room} {a : Addr} {as rest : List Value} {Qy : Option Value → Heap → Prop} {i : Nat} {ps : List FieldType} {rr : Option FieldType}
    (hC : Con l Z n0 z bytes mL rt rm (.ref a :: as).toArray h Qy) (hs : ∀ v h', Qy v h' → ∃ ws, Keep h h' ws ∧ ∀ x ∈ ws, Safe Z EL vm h x) (hX0 : Exa Z h a C) (hd : decode code pc = .ok (.invokevirtual i, 3)) (w1 : (Cond.methodLink own i y).before a0 Z = true) (w2 : (Cond.declares y).before a0 Z = true) (nf : ∀ (s : State), Z.Warmed39 s.vm → NotFace s y) (w3 : (Cond.selects C y z).before a0 Z = true) (w4 : (Cond.instanceMethod z).before a0 Z = true) (w5 : (Cond.initialized z.cls).before a0 Z = true) (w6 : (Cond.code z bytes mL rt).before a0 Z = true)
    (hy : y.cls ≠ "java/lang/invoke/MethodHandle" ∧ y.cls ≠ "java/lang/invoke/VarHandle") (hds : parseMethodDescriptor y.desc = some ⟨ps, rr⟩) (hl : as.length = ps.length) (hst : st = as.reverse ++ .ref a :: rest) (hsz : Ls.size = maxL)
    (hf : rm.frames + 1 ≤ R.frames) (hlo : (rest.map fun v => v.category).sum + (mL + 11) + rm.locals ≤ R.locals) (hk : k + rm.cells ≤ k') (hk' : k' ≤ R.cells) (hn : n + rm.slots ≤ n') (hn' : n' ≤ R.slots) (hp : pc + 3 = pc')
    (nxt : ∀ v h', Qy v h' → CHr Z EL vm h vm h' → RunW l Z EL n0 own code maxL ret nm R Q pc' Ls (v.toList ++ rest) h' vm k' n') : RunW l Z EL n0 own code maxL ret nm R Q pc Ls st h vm k n := by
  subst hp hst
  intro p e s m args below meth c T locs cells slots k0 hX X hS hk0 hR hE eT hF hc hss
  obtain ⟨hx, hZ, hown, hby, hml, -⟩ := id hX
  obtain ⟨cq, kq, qa, qb, qc⟩ := isOf hZ eT hX0
  obtain ⟨v, vm₁, ⟨B, L', cc, ss⟩, -, X', ⟨Lc, hQ, l1, y1, z1⟩, stp⟩ := X.virtualBack hx (y := y) (z := z) hown (mvT hZ w1) (mvT hZ w2) (nf (s.setVm vm) hZ) (mvT hZ w3) (mvT hZ w4) hy (backOf (W := (rest.map fun v => v.category).sum) (Q := fun v h L => Qy v h ∧ Fr n0 L) (hC []) hZ w6 w5 hf hlo) qa qc (g := mkF m pc Ls (as.reverse ++ .ref a :: rest)) rfl (hsz.trans hml.symm) (Steps.refl _) (argsL := as) (rest := rest) (lenOf hds hl) rfl (by show 2 * 0 + _ ≤ _; omega) (hb hby hd) (fun _ _ => ⟨rfl, eT, (by show cells + rm.cells ≤ R.cells; omega), (by show slots + rm.slots ≤ R.slots; omega)⟩)
  dsimp only [Pt.U, Pt.locs, Pt.cells, Pt.slots] at X' l1 y1 z1 stp hQ
  subst l1 y1 z1
  obtain ⟨ws, K, hsw⟩ := hs v _ hQ.1
  have c1 := CHr.keep K hsw hR.1
  obtain ⟨s₂, v', L, g1, g2⟩ := nxt v _ hQ.1 c1 p e s m args below meth c B _ _ _ k0 hX X' hS (Nat.le_trans hk0 K.1) (hR.trans c1) hE rfl (Fr.app hF hQ.2) (by omega) (by omega)
  exact ⟨s₂, v', L, stp.trans g1, g2⟩
theorem RunW.callVW {a0 a1 : Array Value} {sf : List Addr} {C : String} {y z : MethodName} {bytes : ByteArray} {mL : Nat} {rt : Option FieldType} {rm : Room} {a : Addr} {as rest : List Value} {Qy : Option Value → Heap → Prop} {i : Nat} {ps : List FieldType} {rr : Option FieldType}
    (hC : ConW l Z EL n0 z bytes mL rt rm (.ref a :: as).toArray h sf Qy) (hsf : ∀ x ∈ sf, Safe Z EL vm h x) (hEL : EW Z a1 EL) (hX0 : Exa Z h a C) (hd : decode code pc = .ok (.invokevirtual i, 3)) (w1 : (Cond.methodLink own i y).before a0 Z = true) (w2 : (Cond.declares y).before a0 Z = true) (nf : ∀ (s : State), Z.Warmed39 s.vm → NotFace s y) (w3 : (Cond.selects C y z).before a0 Z = true) (w4 : (Cond.instanceMethod z).before a0 Z = true) (w5 : (Cond.initialized z.cls).before a0 Z = true) (w6 : (Cond.code z bytes mL rt).before a0 Z = true)
    (hy : y.cls ≠ "java/lang/invoke/MethodHandle" ∧ y.cls ≠ "java/lang/invoke/VarHandle") (hds : parseMethodDescriptor y.desc = some ⟨ps, rr⟩) (hl : as.length = ps.length) (hst : st = as.reverse ++ .ref a :: rest) (hsz : Ls.size = maxL)
    (hf : rm.frames + 1 ≤ R.frames) (hlo : (rest.map fun v => v.category).sum + (mL + 11) + rm.locals ≤ R.locals) (hk : k + rm.cells ≤ k') (hk' : k' ≤ R.cells) (hn : n + rm.slots ≤ n') (hn' : n' ≤ R.slots) (hp : pc + 3 = pc')
    (nxt : ∀ v h' vm', Qy v h' → CHr Z EL vm h vm' h' → RunW l Z EL n0 own code maxL ret nm R Q pc' Ls (v.toList ++ rest) h' vm' k' n') : RunW l Z EL n0 own code maxL ret nm R Q pc Ls st h vm k n := by
  subst hp hst
  intro p e s m args below meth c T locs cells slots k0 hX X hS hk0 hR hE eT hF hc hss
  obtain ⟨hx, hZ, hown, hby, hml, hrt, hlk, hnm⟩ := id hX
  obtain ⟨cq, kq, qa, qb, qc⟩ := isOf hZ eT hX0
  obtain ⟨v, vm₁, ⟨B, L', cc, ss⟩, -, X', hS2, hgr, ⟨Lc, hQ, l1, y1, z1, c1⟩, stp⟩ := X.virtualBackS hx (y := y) (z := z) hown (mvT hZ w1) (mvT hZ w2) (nf (s.setVm vm) hZ) (mvT hZ w3) (mvT hZ w4) hy (backW (W := (rest.map fun v => v.category).sum) (Q := fun v h L => Qy v h ∧ Fr n0 L) (hC []) hZ w6 w5 hf hlo hEL hR.1 hsf) qa qc (g := mkF m pc Ls (as.reverse ++ .ref a :: rest)) rfl (hsz.trans hml.symm) (Steps.refl _) (argsL := as) (rest := rest) (lenOf hds hl) rfl (by show 2 * 0 + _ ≤ _; omega) (hb hby hd) (fun _ _ => ⟨rfl, eT, (by show cells + rm.cells ≤ R.cells; omega), (by show slots + rm.slots ≤ R.slots; omega)⟩)
  dsimp only [Pt.U, Pt.locs, Pt.cells, Pt.slots] at X' hS2 hgr l1 y1 z1 stp hQ c1
  subst l1 y1 z1
  have hZ2 : Z.Warmed39 B.vm := State.Warmed39.trans (t := s.setVm vm) hZ hS2.1
  obtain ⟨s₂, v', L, g1, g2⟩ := nxt v _ B.vm hQ.1 c1 p e s m args below meth c B _ _ _ B.heap.size ⟨hx, hZ2, (by rw [show (s.setVm B.vm).vm = B.vm from rfl, hS2.1.alike.findClass]; exact hown), hby, hml, hrt, hlk, hnm⟩ X' (hS.trans hS2 (by rw [← eT] at hk0; omega)) (Nat.le_refl _) (hR.trans c1) hE rfl (Fr.app hF hQ.2) (by omega) (by omega)
  exact ⟨s₂, v', L, stp.trans g1, g2⟩
theorem RunW.callN {a0 : Array Value} {y : MethodName} {bytes : ByteArray} {mL : Nat} {rt : Option FieldType} {rm : Room} {a : Addr} {as rest : List Value} {Qy : Option Value → Heap → Prop} {i : Nat} {ps : List FieldType} {rr : Option FieldType}
    (hC : Con l Z n0 y bytes mL rt rm (.ref a :: as).toArray h Qy) (hs : ∀ v h', Qy v h' → ∃ ws, Keep h h' ws ∧ ∀ x ∈ ws, Safe Z EL vm h x) (hrt : rt = none) (hy1 : y.name = "<init>") (hd : decode code pc = .ok (.invokespecial i, 3)) (w1 : (Cond.methodLink own i y).before a0 Z = true) (w2 : (Cond.instanceMethod y).before a0 Z = true) (w3 : (Cond.initialized y.cls).before a0 Z = true) (w4 : (Cond.code y bytes mL rt).before a0 Z = true)
    (hy : y.cls ≠ "java/lang/invoke/MethodHandle" ∧ y.cls ≠ "java/lang/invoke/VarHandle") (hds : parseMethodDescriptor y.desc = some ⟨ps, rr⟩) (hl : as.length = ps.length) (hst : st = as.reverse ++ .ref a :: rest) (hsz : Ls.size = maxL)
    (hf : rm.frames + 1 ≤ R.frames) (hlo : (rest.map fun v => v.category).sum + (mL + 11) + rm.locals ≤ R.locals) (hk : k + rm.cells ≤ k') (hk' : k' ≤ R.cells) (hn : n + rm.slots ≤ n') (hn' : n' ≤ R.slots) (hp : pc + 3 = pc')
    (nxt : ∀ v h', Qy v h' → CHr Z EL vm h vm h' → RunW l Z EL n0 own code maxL ret nm R Q pc' Ls (v.toList ++ rest) h' vm k' n') : RunW l Z EL n0 own code maxL ret nm R Q pc Ls st h vm k n := by
  subst hp hst
  intro p e s m args below meth c T locs cells slots k0 hX X hS hk0 hR hE eT hF hc hss
  obtain ⟨hx, hZ, hown, hby, hml, -⟩ := id hX
  subst hrt
  obtain ⟨v, vm₁, ⟨B, L', cc, ss⟩, -, X', ⟨Lc, hQ, l1, y1, z1⟩, stp⟩ := X.specialBack hx (y := y) hy1 hown (mvT hZ w1) (mvT hZ w2) (mvT hZ w4) hy (backOf (W := (rest.map fun v => v.category).sum) (Q := fun v h L => Qy v h ∧ Fr n0 L) (hC []) hZ w4 w3 hf hlo) (g := mkF m pc Ls (as.reverse ++ .ref a :: rest)) rfl (hsz.trans hml.symm) (Steps.refl _) (a := a) (argsL := as) (rest := rest) (lenOf hds hl) rfl (by show 2 * 0 + _ ≤ _; omega) (hb hby hd) (fun _ _ => ⟨rfl, eT, (by show cells + rm.cells ≤ R.cells; omega), (by show slots + rm.slots ≤ R.slots; omega)⟩)
  dsimp only [Pt.U, Pt.locs, Pt.cells, Pt.slots] at X' l1 y1 z1 stp hQ
  subst l1 y1 z1
  obtain ⟨ws, K, hsw⟩ := hs v _ hQ.1
  have c1 := CHr.keep K hsw hR.1
  obtain ⟨s₂, v', L, g1, g2⟩ := nxt v _ hQ.1 c1 p e s m args below meth c B _ _ _ k0 hX X' hS (Nat.le_trans hk0 K.1) (hR.trans c1) hE rfl (Fr.app hF hQ.2) (by omega) (by omega)
  exact ⟨s₂, v', L, stp.trans g1, g2⟩
theorem RunW.callNW {a0 a1 : Array Value} {sf : List Addr} {y : MethodName} {bytes : ByteArray} {mL : Nat} {rt : Option FieldType} {rm : Room} {a : Addr} {as rest : List Value} {Qy : Option Value → Heap → Prop} {i : Nat} {ps : List FieldType} {rr : Option FieldType}
    (hC : ConW l Z EL n0 y bytes mL rt rm (.ref a :: as).toArray h sf Qy) (hsf : ∀ x ∈ sf, Safe Z EL vm h x) (hEL : EW Z a1 EL) (hrt : rt = none) (hy1 : y.name = "<init>") (hd : decode code pc = .ok (.invokespecial i, 3)) (w1 : (Cond.methodLink own i y).before a0 Z = true) (w2 : (Cond.instanceMethod y).before a0 Z = true) (w3 : (Cond.initialized y.cls).before a0 Z = true) (w4 : (Cond.code y bytes mL rt).before a0 Z = true)
    (hy : y.cls ≠ "java/lang/invoke/MethodHandle" ∧ y.cls ≠ "java/lang/invoke/VarHandle") (hds : parseMethodDescriptor y.desc = some ⟨ps, rr⟩) (hl : as.length = ps.length) (hst : st = as.reverse ++ .ref a :: rest) (hsz : Ls.size = maxL)
    (hf : rm.frames + 1 ≤ R.frames) (hlo : (rest.map fun v => v.category).sum + (mL + 11) + rm.locals ≤ R.locals) (hk : k + rm.cells ≤ k') (hk' : k' ≤ R.cells) (hn : n + rm.slots ≤ n') (hn' : n' ≤ R.slots) (hp : pc + 3 = pc')
    (nxt : ∀ v h' vm', Qy v h' → CHr Z EL vm h vm' h' → RunW l Z EL n0 own code maxL ret nm R Q pc' Ls (v.toList ++ rest) h' vm' k' n') : RunW l Z EL n0 own code maxL ret nm R Q pc Ls st h vm k n := by
  subst hp hst
  intro p e s m args below meth c T locs cells slots k0 hX X hS hk0 hR hE eT hF hc hss
  obtain ⟨hx, hZ, hown, hby, hml, hrtt, hlk, hnm⟩ := id hX
  subst hrt
  obtain ⟨v, vm₁, ⟨B, L', cc, ss⟩, -, X', hS2, hgr, ⟨Lc, hQ, l1, y1, z1, c1⟩, stp⟩ := X.specialBackS hx (y := y) hy1 hown (mvT hZ w1) (mvT hZ w2) (mvT hZ w4) hy (backW (W := (rest.map fun v => v.category).sum) (Q := fun v h L => Qy v h ∧ Fr n0 L) (hC []) hZ w4 w3 hf hlo hEL hR.1 hsf) (g := mkF m pc Ls (as.reverse ++ .ref a :: rest)) rfl (hsz.trans hml.symm) (Steps.refl _) (a := a) (argsL := as) (rest := rest) (lenOf hds hl) rfl (by show 2 * 0 + _ ≤ _; omega) (hb hby hd) (fun _ _ => ⟨rfl, eT, (by show cells + rm.cells ≤ R.cells; omega), (by show slots + rm.slots ≤ R.slots; omega)⟩)
  dsimp only [Pt.U, Pt.locs, Pt.cells, Pt.slots] at X' hS2 hgr l1 y1 z1 stp hQ c1
  subst l1 y1 z1
  have hZ2 : Z.Warmed39 B.vm := State.Warmed39.trans (t := s.setVm vm) hZ hS2.1
  obtain ⟨s₂, v', L, g1, g2⟩ := nxt v _ B.vm hQ.1 c1 p e s m args below meth c B _ _ _ B.heap.size ⟨hx, hZ2, (by rw [show (s.setVm B.vm).vm = B.vm from rfl, hS2.1.alike.findClass]; exact hown), hby, hml, hrtt, hlk, hnm⟩ X' (hS.trans hS2 (by rw [← eT] at hk0; omega)) (Nat.le_refl _) (hR.trans c1) hE rfl (Fr.app hF hQ.2) (by omega) (by omega)
  exact ⟨s₂, v', L, stp.trans g1, g2⟩
theorem safeA {Z : State} {EL : List (String × Nat)} {vm : Vm} {h : Heap} {a : Addr} {ty : FieldType} {vs : List Value} (hal : Z.vm.Alike vm) (A : Ary Z h a ty vs) (ht : ty ≠ .byte) : Safe Z EL vm h a := by obtain ⟨cl, A1, -⟩ := A; exact Safe.arr hal A1 ht
/-- ldc of a String constant whose text is known -/
theorem RunW.ldcT {a0 : Array Value} {i len : Nat} {text : String} {bs : List Value} {z : Int32} (hd : decode code pc = .ok (.ldc i, 2)) (w : (Cond.stringLink own i text).before a0 Z = true) (wS : ∀ a ∈ Bundle.stringAtoms, a.before a0 Z = true) (hEL : EW Z a0 EL) (hmem : (own, i) ∈ EL)
    (ht : (∀ c ∈ text.toList, c.toNat < 256) ∧ text.toList.map (fun c => Value.int (Jvm.Lit.byteI c.toNat.toUInt16)) = bs) (hz : z.toInt = (bs.length : Int)) (hln : 4 * text.toList.length ≤ len) (hbig : len ≤ 536870912) (hk : k + 2 ≤ k') (hk' : k' ≤ R.cells) (hn : n + (len + 4) ≤ n') (hn' : n' ≤ R.slots) (hp : pc + 2 = pc')
    (nxt : ∀ h' vm' a b, Ext h h' → CHr Z EL vm h vm' h' → Exa Z h' a "java/lang/String" → Fld Z h' a "java/lang/String" "coder" "B" (.int 0) → Fld Z h' a "java/lang/String" "value" "[B" (.ref b) → Ary Z h' b .byte bs → (∀ x, Safe Z EL vm' h' x → x ≠ a ∧ x ≠ b) → RunW l Z EL n0 own code maxL ret nm R Q pc' Ls (.ref a :: st) h' vm' k' n') : RunW l Z EL n0 own code maxL ret nm R Q pc Ls st h vm k n := by
  subst hp
  intro p e s m args below meth c T locs cells slots k0 hX X hS hk0 hR hE eT hF hc hss
  obtain ⟨hx, hZ, hown, hby, hml, hrt, hlk, hnm⟩ := id hX
  have e1 : z.toNatClampNeg = bs.length := by have : z.toNatClampNeg = z.toInt.toNat := rfl; rw [this, hz]; rfl
  have e2 : ¬ z < 0 := by rw [Int32.lt_iff_toInt_lt, hz]; have : (0 : Int32).toInt = 0 := rfl; omega
  obtain ⟨a, T', h', k1, b, kc, X', e', E, hS2, hk1, hZ2, hown2, E1, F1, F2, A, -, -, c1, -, hsf, stp⟩ := ldcCH X hx hZ hown w wS eT hS hk0 hEL hmem hR.1 ht e2 e1 (g := mkF m pc Ls st) rfl (hb hby hd) hln hbig (by omega) (by omega)
  obtain ⟨s₂, v', L, g1, g2⟩ := nxt h' T'.vm a b E c1 E1 F1 F2 (Ary.ofArv A hz) hsf p e s m args below meth c T' _ _ _ k1 ⟨hx, hZ2, hown2, hby, hml, hrt, hlk, hnm⟩ X' hS2 hk1 (hR.trans c1) hE e' hF (by omega) (by omega)
  exact ⟨s₂, v', L, stp _ g1, g2⟩
end WalkW
end Jvm.GoKit
namespace Jvm.Pilot.@@N@@
open Jvm Jvm.ClassFile Sem Op Lib Jvm.Free Jvm.Stand Jvm.LawKit Jvm.RoadKit Jvm.GoKit Bundle Jvm.Pilot.@@N@@.Jvm.D
theorem own_ofn {i : Nat} (h : i < 2 ^ 31) : (Int32.ofNat i).toInt = (i : Int) := toInt_of rfl h
theorem own_inc (i : Nat) : Int32.ofNat i + (1 : Int32) = Int32.ofNat (i + 1) := (inc_ofNat i).symm
theorem own_lt {i j : Nat} (hi : i < 2 ^ 31) (hj : j < 2 ^ 31) : Int32.ofNat i < Int32.ofNat j ↔ i < j := by rw [Int32.lt_iff_toInt_lt, own_ofn hi, own_ofn hj]; omega
theorem own_z : (0 : Int32).toInt = 0 := rfl
theorem own_eqi {x y : Int32} (h : x.toInt = y.toInt) : x = y := Int32.toInt_inj.mp h
def own_chr (cs : List Int32) : Prop := ∀ c ∈ cs, 0 ≤ c.toInt ∧ c.toInt ≤ 65535
def own_by (cs : List Int32) : List Value := cs.map fun c => Value.int (nar .byte c)
def own_b0 (c : Int32) : Int32 := nar .byte (c >>> ((0 : Int32) &&& 31))
def own_b1 (c : Int32) : Int32 := nar .byte (c >>> ((8 : Int32) &&& 31))
def own_u16 (cs : List Int32) : List Value := cs.flatMap fun c => [Value.int (own_b0 c), Value.int (own_b1 c)]
def own_pfx : List Int32 → Nat
  | [] => 0
  | c :: r => if (255 : Int32) < c then 0 else own_pfx r + 1
def own_enc (cs : List Int32) : List Value := if own_pfx cs = cs.length then own_by cs else own_u16 cs
def own_coder (cs : List Int32) : Int32 := if own_pfx cs = cs.length then 0 else 1
def own_gc (x y : Int32) : Int32 := nar .char (nar .char (((x &&& (255 : Int32)) <<< ((0 : Int32) &&& 31)) ||| ((y &&& (255 : Int32)) <<< ((8 : Int32) &&& 31))))
theorem own_nbb (x : Int32) : nar .byte (nar .byte x) = nar .byte x := by simp [nar]
theorem own_ncc (x : Int32) : nar .char (nar .char x) = nar .char x := by simp only [nar, UInt32.toUInt32_toInt32, UInt16.toUInt16_toUInt32]
theorem own_pfx_le : ∀ r : List Int32, own_pfx r ≤ r.length
  | [] => Nat.le_refl _
  | c :: r => by unfold own_pfx; split; omega; have := own_pfx_le r; simp; omega
theorem own_pfx_end {cs : List Int32} {i : Nat} (h : cs.length ≤ i) : own_pfx (cs.drop i) = 0 := by rw [List.drop_eq_nil_of_le h]; rfl
theorem own_gD {cs : List Int32} {i : Nat} (h : i < cs.length) : cs.getD i 0 = cs[i] := by simp [List.getD_eq_getElem?_getD, h]
theorem own_pfx_at {cs : List Int32} {i : Nat} (h : i < cs.length) : own_pfx (cs.drop i) = if (255 : Int32) < cs.getD i 0 then 0 else own_pfx (cs.drop (i + 1)) + 1 := by
  rw [List.drop_eq_getElem_cons h, own_gD h]; rfl
theorem own_pfx_stop {cs : List Int32} (h : ¬ own_pfx cs = cs.length) : own_pfx cs < cs.length ∧ (255 : Int32) < cs.getD (own_pfx cs) 0 := by
  induction cs with
  | nil => exact absurd rfl h
  | cons c r ih =>
    unfold own_pfx at h ⊢
    split at h
    · rename_i q; rw [if_pos q]; exact ⟨by simp, q⟩
    · rename_i q; rw [if_neg q]
      obtain ⟨h1, h2⟩ := ih (fun e => h (by simp [e]))
      exact ⟨by simp; omega, by simpa [List.getD_cons_succ] using h2⟩
theorem own_u16_len (cs : List Int32) : (own_u16 cs).length = 2 * cs.length := by
  induction cs with
  | nil => rfl
  | cons c r ih => simp only [own_u16, List.flatMap_cons, List.length_append] at ih ⊢; rw [ih]; simp; omega
theorem own_u16_cons (c : Int32) (r : List Int32) : own_u16 (c :: r) = Value.int (own_b0 c) :: Value.int (own_b1 c) :: own_u16 r := by simp [own_u16]
theorem own_u16_get {cs : List Int32} {i : Nat} (h : i < cs.length) : (own_u16 cs)[2 * i]? = some (Value.int (own_b0 (cs.getD i 0))) ∧ (own_u16 cs)[2 * i + 1]? = some (Value.int (own_b1 (cs.getD i 0))) := by
  induction cs generalizing i with
  | nil => simp at h
  | cons c r ih =>
    rw [own_u16_cons]
    cases i with
    | zero => exact ⟨rfl, rfl⟩
    | succ i =>
      have := ih (i := i) (by simpa using h)
      rw [show 2 * (i + 1) = (2 * i + 1) + 1 by omega, List.getElem?_cons_succ, List.getElem?_cons_succ, List.getElem?_cons_succ, List.getElem?_cons_succ, List.getD_cons_succ]
      exact this
theorem own_u16_app (a b : List Int32) : own_u16 (a ++ b) = own_u16 a ++ own_u16 b := by simp [own_u16]
theorem own_by_get {cs : List Int32} {i : Nat} (h : i < cs.length) : (own_by cs)[i]? = some (Value.int (nar .byte (cs.getD i 0))) := by rw [own_gD h]; simp [own_by, h]
theorem own_u16_set {cs : List Int32} {i : Nat} (h : i < cs.length) :
    ((own_u16 (cs.take i) ++ List.replicate (2 * (cs.length - i)) (Value.int (0 : Int32))).set (2 * i) (Value.int (own_b0 (cs.getD i 0)))).set (2 * i + 1) (Value.int (own_b1 (cs.getD i 0))) = own_u16 (cs.take (i + 1)) ++ List.replicate (2 * (cs.length - (i + 1))) (Value.int (0 : Int32)) := by
  have e1 : 2 * (cs.length - i) = (2 * (cs.length - (i + 1)) + 1) + 1 := by omega
  have l1 : (own_u16 (cs.take i)).length = 2 * i := by rw [own_u16_len, List.length_take]; omega
  rw [e1, List.replicate_succ, List.replicate_succ, List.set_append_right _ _ (by omega), l1, Nat.sub_self, List.set_cons_zero, List.set_append_right _ _ (by omega), l1, show 2 * i + 1 - 2 * i = 1 by omega, List.set_cons_succ, List.set_cons_zero, List.take_succ_eq_append_getElem h, own_u16_app, own_gD h]
  simp [own_u16]
theorem own_by_set {cs : List Int32} {i : Nat} (h : i < cs.length) :
    ((own_by (cs.take i)) ++ List.replicate (cs.length - i) (Value.int (0 : Int32))).set i (Value.int (nar .byte (cs.getD i 0))) = own_by (cs.take (i + 1)) ++ List.replicate (cs.length - (i + 1)) (Value.int (0 : Int32)) := by
  have e1 : cs.length - i = (cs.length - (i + 1)) + 1 := by omega
  have l1 : (own_by (cs.take i)).length = i := by simp [own_by]; omega
  rw [e1, List.replicate_succ, List.set_append_right _ _ (by omega), l1, Nat.sub_self, List.set_cons_zero, List.take_succ_eq_append_getElem h, own_gD h]
  simp only [own_by, List.map_append, List.map_cons, List.map_nil, List.append_assoc, List.cons_append, List.nil_append]
theorem own_chrD {cs : List Int32} (h : own_chr cs) {i : Nat} (hi : i < cs.length) : 0 ≤ (cs.getD i 0).toInt ∧ (cs.getD i 0).toInt ≤ 65535 := by rw [own_gD hi]; exact h _ (List.getElem_mem hi)
theorem own_gcb {c : Int32} (h : 0 ≤ c.toInt ∧ c.toInt ≤ 65535) : own_gc (own_b0 c) (own_b1 c) = c := by
  apply Int32.toInt_inj.mp
  have s0 := c_ishr c 0 0 (by decide)
  have s1 := c_ishr c 8 8 (by decide)
  have b0 := c_i2b (c >>> ((0 : Int32) &&& 31))
  have b1 := c_i2b (c >>> ((8 : Int32) &&& 31))
  have m0 := c_mask (own_b0 c) 255 8 (by decide) (by decide)
  have m1 := c_mask (own_b1 c) 255 8 (by decide) (by decide)
  have l0 := c_ishl (own_b0 c &&& 255) 0 0 (by decide)
  have l1 := c_ishl (own_b1 c &&& 255) 8 8 (by decide)
  have r0 := rng32 ((own_b0 c &&& 255) <<< ((0 : Int32) &&& 31))
  have r1 := rng32 ((own_b1 c &&& 255) <<< ((8 : Int32) &&& 31))
  change ((own_b0 c).toInt - _) % 256 = 0 ∧ _ at b0
  change ((own_b1 c).toInt - _) % 256 = 0 ∧ _ at b1
  simp only [Nat.reducePow, Int.mul_one] at s0 s1 m0 m1 l0 l1
  have o := c_or' ((own_b0 c &&& 255) <<< ((0 : Int32) &&& 31)) ((own_b1 c &&& 255) <<< ((8 : Int32) &&& 31)) 8 (by decide) 256 (by decide) (by omega) (by omega) (by omega)
  unfold own_gc
  rw [own_ncc]
  have q := c_i2c (((own_b0 c &&& (255 : Int32)) <<< ((0 : Int32) &&& 31)) ||| ((own_b1 c &&& (255 : Int32)) <<< ((8 : Int32) &&& 31)))
  change ((nar .char _).toInt - _) % 65536 = 0 ∧ 0 ≤ (nar .char _).toInt ∧ (nar .char _).toInt < 65536 at q
  omega
theorem own_latc {c : Int32} (h0 : 0 ≤ c.toInt) (h : ¬ (255 : Int32) < c) : nar .char (nar .char (nar .byte c &&& (255 : Int32))) = c := by
  apply Int32.toInt_inj.mp
  rw [Int32.lt_iff_toInt_lt] at h; have e : (255 : Int32).toInt = 255 := rfl
  have b := c_i2b c; have m := c_mask (nar .byte c) 255 8 (by decide) (by decide); have q := c_i2c (nar .byte c &&& 255)
  change ((nar .byte c).toInt - _) % 256 = 0 ∧ _ at b
  change ((nar .char _).toInt - _) % 65536 = 0 ∧ 0 ≤ (nar .char _).toInt ∧ (nar .char _).toInt < 65536 at q
  simp only [Nat.reducePow] at m
  rw [own_ncc]; omega
theorem own_pfx_all {cs : List Int32} (h : own_pfx cs = cs.length) {i : Nat} (hi : i < cs.length) : ¬ (255 : Int32) < cs.getD i 0 := by
  induction cs generalizing i with
  | nil => simp at hi
  | cons c r ih =>
    unfold own_pfx at h
    split at h
    · simp at h
    · rename_i q
      cases i with
      | zero => simpa using q
      | succ i => rw [List.getD_cons_succ]; exact ih (by simpa using h) (by simpa using hi)
theorem own_shl1 {n : Nat} (h : n < 2 ^ 30) : Int32.ofNat n <<< ((1 : Int32) &&& 31) = Int32.ofNat (2 * n) := by
  apply Int32.toInt_inj.mp
  have a := c_ishl (Int32.ofNat n) 1 1 (by decide); have b := own_ofn (i := n) (by omega); have c := own_ofn (i := 2 * n) (by omega); have d := rng32 (Int32.ofNat n <<< ((1 : Int32) &&& 31))
  simp only [Nat.reducePow] at a; omega
theorem own_shr1 {n : Nat} (h : n < 2 ^ 30) : Int32.ofNat (2 * n) >>> ((1 : Int32) &&& 31) = Int32.ofNat n := by
  apply Int32.toInt_inj.mp
  have a := c_ishr (Int32.ofNat (2 * n)) 1 1 (by decide); have b := own_ofn (i := n) (by omega); have c := own_ofn (i := 2 * n) (by omega)
  simp only [Nat.reducePow] at a; omega
theorem own_shr0 (x : Int32) : x >>> ((0 : Int32) &&& 31) = x := by
  apply Int32.toInt_inj.mp
  have a := c_ishr x 0 0 (by decide)
  simp only [Nat.reducePow] at a; omega
theorem own_enc_len (cs : List Int32) : (own_enc cs).length = if own_pfx cs = cs.length then cs.length else 2 * cs.length := by
  unfold own_enc; split <;> simp [own_by, own_u16_len]
theorem own_cfl {cs : List Int32} (h : cs ≠ []) (hb : cs.length < 2 ^ 30) : nar .byte (nar .byte (XT.ushr (Int32.ofNat cs.length - Int32.ofNat (own_enc cs).length) (31 : Int32))) = own_coder cs := by
  have h1 := List.length_pos_iff.mpr h
  unfold own_coder
  rw [own_enc_len, own_nbb]
  split
  · rw [Int32.sub_self]; rfl
  · apply Int32.toInt_inj.mp
    have a := c_isub (Int32.ofNat cs.length) (Int32.ofNat (2 * cs.length)); have b := own_ofn (i := cs.length) (by omega); have c := own_ofn (i := 2 * cs.length) (by omega); have d := rng32 (Int32.ofNat cs.length - Int32.ofNat (2 * cs.length))
    have u := c_iushr (Int32.ofNat cs.length - Int32.ofNat (2 * cs.length)) 31 31 (by decide) (by decide)
    have v := c_i2b (XT.ushr (Int32.ofNat cs.length - Int32.ofNat (2 * cs.length)) (31 : Int32))
    change ((nar .byte _).toInt - _) % 256 = 0 ∧ -128 ≤ (nar .byte _).toInt ∧ (nar .byte _).toInt < 128 at v
    change (XT.ushr (Int32.ofNat cs.length - Int32.ofNat (2 * cs.length)) (31 : Int32)).toInt = _ at u
    have e : (1 : Int32).toInt = 1 := rfl
    simp only [Nat.reducePow] at u
    omega
theorem own_cg {cs : List Int32} {us : List Value} {i : Nat} (h : i < cs.length) : (cs.map Value.int ++ us)[i]? = some (Value.int (cs.getD i 0)) := by
  rw [List.getElem?_append_left (by simpa using h), List.getElem?_map, List.getElem?_eq_getElem h, own_gD h]; rfl
theorem d6_0 : decode jdk_52_method_21_code 0 = .ok (.iconst 0, 1) := by decide +kernel
theorem d6_1 : decode jdk_52_method_21_code 1 = .ok (.istore 5, 2) := by decide +kernel
theorem d6_3 : decode jdk_52_method_21_code 3 = .ok (.iload 5, 2) := by decide +kernel
theorem d6_5 : decode jdk_52_method_21_code 5 = .ok (.iload 4, 2) := by decide +kernel
theorem d6_7 : decode jdk_52_method_21_code 7 = .ok (.if_icmp .ge 37, 3) := by decide +kernel
theorem d6_10 : decode jdk_52_method_21_code 10 = .ok (.aload_n 0, 1) := by decide +kernel
theorem d6_11 : decode jdk_52_method_21_code 11 = .ok (.iload_n 1, 1) := by decide +kernel
theorem d6_12 : decode jdk_52_method_21_code 12 = .ok (.caload, 1) := by decide +kernel
theorem d6_13 : decode jdk_52_method_21_code 13 = .ok (.istore 6, 2) := by decide +kernel
theorem d6_15 : decode jdk_52_method_21_code 15 = .ok (.iload 6, 2) := by decide +kernel
theorem d6_17 : decode jdk_52_method_21_code 17 = .ok (.sipush 255, 3) := by decide +kernel
theorem d6_20 : decode jdk_52_method_21_code 20 = .ok (.if_icmp .le 6, 3) := by decide +kernel
theorem d6_23 : decode jdk_52_method_21_code 23 = .ok (.iload 5, 2) := by decide +kernel
theorem d6_25 : decode jdk_52_method_21_code 25 = .ok (.ireturn, 1) := by decide +kernel
theorem d6_26 : decode jdk_52_method_21_code 26 = .ok (.aload_n 2, 1) := by decide +kernel
theorem d6_27 : decode jdk_52_method_21_code 27 = .ok (.iload_n 3, 1) := by decide +kernel
theorem d6_28 : decode jdk_52_method_21_code 28 = .ok (.iload 6, 2) := by decide +kernel
theorem d6_30 : decode jdk_52_method_21_code 30 = .ok (.i2b, 1) := by decide +kernel
theorem d6_31 : decode jdk_52_method_21_code 31 = .ok (.bastore, 1) := by decide +kernel
theorem d6_32 : decode jdk_52_method_21_code 32 = .ok (.iinc 1 1, 3) := by decide +kernel
theorem d6_35 : decode jdk_52_method_21_code 35 = .ok (.iinc 3 1, 3) := by decide +kernel
theorem d6_38 : decode jdk_52_method_21_code 38 = .ok (.iinc 5 1, 3) := by decide +kernel
theorem d6_41 : decode jdk_52_method_21_code 41 = .ok (.goto (-38), 3) := by decide +kernel
theorem d6_44 : decode jdk_52_method_21_code 44 = .ok (.iload 4, 2) := by decide +kernel
theorem d6_46 : decode jdk_52_method_21_code 46 = .ok (.ireturn, 1) := by decide +kernel
theorem pn_6 : plainFor (⟨"java/lang/StringUTF16", "compress", "([CI[BII)I"⟩ : MethodName) = true := plainFor_of_name (by first | (simp [plainName, overriddenIn]; done) | decide +kernel)
theorem ef_con_cmp5 (m : MethodId) (a b : Addr) (cs : List Int32) (us : List Value)  : entryFrame m #[(.ref a), (.int (0 : Int32)), (.ref b), (.int (0 : Int32)), (.int (Int32.ofNat cs.length))] 7 = mkF m 0 #[.val (.ref a), .val (.int (0 : Int32)), .val (.ref b), .val (.int (0 : Int32)), .val (.int (Int32.ofNat cs.length)), .unset, .unset] [] := by first | (simp [entryFrame, mkF, argsToLocals, Value.category]; done) | rfl
set_option maxRecDepth 65536 in
set_option maxHeartbeats 40000000 in
theorem con_cmp5 (l : Launch) (Z : State) (a0 : Array Value) (hw : ∀ d ∈ tables_1, d.before a0 Z = true) (n0 : Nat) (h0 : Heap) (Z0 : n0 ≤ h0.size) (a b : Addr) (cs : List Int32) (us : List Value) (AC : Ary Z h0 a .char (cs.map Value.int ++ us)) (AB : Ary Z h0 b .byte (List.replicate cs.length (.int (0 : Int32)))) (hab : a ≠ b) (gb : n0 ≤ b) (hn : cs.length < 2 ^ 30) :
    Con l Z n0 (⟨"java/lang/StringUTF16", "compress", "([CI[BII)I"⟩ : MethodName) jdk_52_method_21_code 7 (some .int) ({ frames := 0, cells := 0, slots := 0, locals := 0 } : Room) #[(.ref a), (.int (0 : Int32)), (.ref b), (.int (0 : Int32)), (.int (Int32.ofNat cs.length))] h0 (Val fun w h' => .int (Int32.ofNat (own_pfx cs)) = w ∧ Keep h0 h' [b] ∧ Ary Z h' b .byte (own_by (cs.take (own_pfx cs)) ++ List.replicate (cs.length - (own_pfx cs)) (.int (0 : Int32)))) := by
  refine Con.of_run pn_6 (fun m => ef_con_cmp5 m a b cs us ) ?_
  refine Run.iconst (0 : Int32) d6_0 (by decide) (pc' := 1) rfl ?_
  refine Run.istore (l' := #[.val (.ref a), .val (.int (0 : Int32)), .val (.ref b), .val (.int (0 : Int32)), .val (.int (Int32.ofNat cs.length)), .val (.int (0 : Int32)), .unset]) d6_1 rfl (pc' := 3) rfl ?_
  have loop : ∀ (t i : Nat) (hh : Heap) (s6 : Slot), t + i = cs.length → i + own_pfx (cs.drop i) = own_pfx cs → One s6 → n0 ≤ hh.size → Keep h0 hh [b] → Ary Z hh a .char (cs.map Value.int ++ us) → Ary Z hh b .byte (own_by (cs.take i) ++ List.replicate (cs.length - i) (.int (0 : Int32))) → Run l Z n0 "java/lang/StringUTF16" jdk_52_method_21_code 7 (some .int) "compress" ({ frames := 0, cells := 0, slots := 0, locals := 0 } : Room) (Val fun w h' => .int (Int32.ofNat (own_pfx cs)) = w ∧ Keep h0 h' [b] ∧ Ary Z h' b .byte (own_by (cs.take (own_pfx cs)) ++ List.replicate (cs.length - (own_pfx cs)) (.int (0 : Int32)))) 3 #[.val (.ref a), .val (.int (Int32.ofNat i)), .val (.ref b), .val (.int (Int32.ofNat i)), .val (.int (Int32.ofNat cs.length)), .val (.int (Int32.ofNat i)), s6] [] hh 0 0 := by
    intro t
    induction t with
    | zero =>
      intro i hh s6 hti hiv h_s6 szh kph ACh ABh
      have hi : own_pfx cs = cs.length := by rw [← hiv, own_pfx_end (by omega)]; omega
      obtain rfl : i = cs.length := by omega
      refine Run.iload d6_3 rfl (pc' := 5) rfl ?_
      refine Run.iload d6_5 rfl (pc' := 7) rfl ?_
      refine Run.icmp_ge d6_7 (by decide) (pc' := 44) (by decide) (pa := 10) rfl (fun hc7 => ?_) (fun hc7 => ?_)
      · -- pc 7 taken: ¬ (Int32.ofNat cs.length) < (Int32.ofNat cs.length)
        refine Run.iload d6_44 rfl (pc' := 46) rfl ?_
        exact Run.ireturn d6_46 rfl (by decide) (by decide) ⟨_, rfl, by rw [hi], kph, (by rw [hi]; exact ABh)⟩
      · -- pc 7 not taken: (Int32.ofNat cs.length) < (Int32.ofNat cs.length)
        exact absurd ((own_lt (by omega) (by omega)).mp hc7) (by omega)
    | succ t ih =>
      intro i hh s6 hti hiv h_s6 szh kph ACh ABh
      have hil : i < cs.length := by omega
      refine Run.iload d6_3 rfl (pc' := 5) rfl ?_
      refine Run.iload d6_5 rfl (pc' := 7) rfl ?_
      refine Run.icmp_ge d6_7 (by decide) (pc' := 44) (by decide) (pa := 10) rfl (fun hc7 => ?_) (fun hc7 => ?_)
      · -- pc 7 taken: ¬ (Int32.ofNat i) < (Int32.ofNat cs.length)
        exact absurd ((own_lt (by omega) (by omega)).mpr hil) hc7
      · -- pc 7 not taken: (Int32.ofNat i) < (Int32.ofNat cs.length)
        refine Run.aloadN d6_10 rfl rfl (pc' := 11) rfl ?_
        refine Run.iloadN d6_11 rfl (pc' := 12) rfl ?_
        refine Run.caload (i := i) (v := (.int (cs.getD i 0))) d6_12 ACh (own_ofn (by omega)) (own_cg hil) (pc' := 13) rfl ?_
        refine Run.istore (l' := #[.val (.ref a), .val (.int (Int32.ofNat i)), .val (.ref b), .val (.int (Int32.ofNat i)), .val (.int (Int32.ofNat cs.length)), .val (.int (Int32.ofNat i)), .val (.int (cs.getD i 0))]) d6_13 (XS.store1 rfl h_s6 rfl) (pc' := 15) rfl ?_
        refine Run.iload d6_15 rfl (pc' := 17) rfl ?_
        refine Run.sipush (255 : Int32) d6_17 (by decide) (pc' := 20) rfl ?_
        refine Run.icmp_le d6_20 (by decide) (pc' := 26) (by decide) (pa := 23) rfl (fun hc20 => ?_) (fun hc20 => ?_)
        · -- pc 20 taken: ¬ (255 : Int32) < (cs.getD i 0)
          refine Run.aloadN d6_26 rfl rfl (pc' := 27) rfl ?_
          refine Run.iloadN d6_27 rfl (pc' := 28) rfl ?_
          refine Run.iload d6_28 rfl (pc' := 30) rfl ?_
          refine Run.i2b d6_30 (pc' := 31) rfl ?_
          refine Run.bastore (i := i) d6_31 ABh (own_ofn (by omega)) (by simp [own_by]; omega) gb (pc' := 32) rfl ?_
          intro h11 W11 A11
          have A_a_11 := ACh.other W11 hab
          have sz11 : n0 ≤ h11.size := by rw [W11.size]; exact szh
          have kp11 := Keep.wr kph W11 (Or.inl (List.mem_of_getElem? (i := 0) rfl))
          refine Run.iinc (1 : Int32) #[.val (.ref a), .val (.int ((Int32.ofNat i) + (1 : Int32))), .val (.ref b), .val (.int (Int32.ofNat i)), .val (.int (Int32.ofNat cs.length)), .val (.int (Int32.ofNat i)), .val (.int (cs.getD i 0))] d6_32 (by decide) rfl rfl (pc' := 35) rfl ?_
          refine Run.iinc (1 : Int32) #[.val (.ref a), .val (.int ((Int32.ofNat i) + (1 : Int32))), .val (.ref b), .val (.int ((Int32.ofNat i) + (1 : Int32))), .val (.int (Int32.ofNat cs.length)), .val (.int (Int32.ofNat i)), .val (.int (cs.getD i 0))] d6_35 (by decide) rfl rfl (pc' := 38) rfl ?_
          refine Run.iinc (1 : Int32) #[.val (.ref a), .val (.int ((Int32.ofNat i) + (1 : Int32))), .val (.ref b), .val (.int ((Int32.ofNat i) + (1 : Int32))), .val (.int (Int32.ofNat cs.length)), .val (.int ((Int32.ofNat i) + (1 : Int32))), .val (.int (cs.getD i 0))] d6_38 (by decide) rfl rfl (pc' := 41) rfl ?_
          refine Run.goto d6_41 (by decide) (pc' := 3) (by decide) ?_
          simp only [own_inc]
          exact ih (i + 1) h11 _ (by omega) (by have z := own_pfx_at (i := i) hil; rw [if_neg hc20] at z; omega) (Or.inr ⟨_, rfl, rfl⟩) sz11 kp11 A_a_11 (by have z := A11; rw [own_nbb] at z; rw [← own_by_set hil]; exact z)
        · -- pc 20 not taken: (255 : Int32) < (cs.getD i 0)
          refine Run.iload d6_23 rfl (pc' := 25) rfl ?_
          have hi : i = own_pfx cs := by have z := own_pfx_at (i := i) hil; rw [if_pos hc20] at z; omega
          exact Run.ireturn d6_25 rfl (by decide) (by decide) ⟨_, rfl, by rw [← hi], kph, (by rw [← hi]; exact ABh)⟩
  exact loop cs.length 0 h0 .unset (by omega) (by rw [List.drop_zero]; omega) (Or.inl rfl) Z0 (Keep.refl h0 [b]) AC (by simpa [own_by] using AB)
theorem own_nge {n : Nat} (h : n < 2 ^ 31) : ¬ Int32.ofNat n < (0 : Int32) := by rw [Int32.lt_iff_toInt_lt, own_ofn h, own_z]; omega
theorem own_nlt {n : Nat} (h : n < 2 ^ 29) : Int32.ofNat n < (1073741823 : Int32) := by rw [Int32.lt_iff_toInt_lt, own_ofn (by omega)]; have e : (1073741823 : Int32).toInt = 1073741823 := rfl; omega
theorem d34_0 : decode jdk_52_method_3_code 0 = .ok (.iload_n 0, 1) := by decide +kernel
theorem d34_1 : decode jdk_52_method_3_code 1 = .ok (.ifCond .ge 11, 3) := by decide +kernel
theorem d34_12 : decode jdk_52_method_3_code 12 = .ok (.iload_n 0, 1) := by decide +kernel
theorem d34_13 : decode jdk_52_method_3_code 13 = .ok (.ldc 20, 2) := by decide +kernel
theorem d34_15 : decode jdk_52_method_3_code 15 = .ok (.if_icmp .lt 40, 3) := by decide +kernel
theorem d34_55 : decode jdk_52_method_3_code 55 = .ok (.iload_n 0, 1) := by decide +kernel
theorem d34_56 : decode jdk_52_method_3_code 56 = .ok (.iconst 1, 1) := by decide +kernel
theorem d34_57 : decode jdk_52_method_3_code 57 = .ok (.ishl, 1) := by decide +kernel
theorem d34_58 : decode jdk_52_method_3_code 58 = .ok (.ireturn, 1) := by decide +kernel
theorem pn_34 : plainFor (⟨"java/lang/StringUTF16", "newBytesLength", "(I)I"⟩ : MethodName) = true := plainFor_of_name (by first | (simp [plainName, overriddenIn]; done) | decide +kernel)
theorem ef_con_nbl (m : MethodId) (n : Nat)  : entryFrame m #[(.int (Int32.ofNat n))] 1 = mkF m 0 #[.val (.int (Int32.ofNat n))] [] := by first | (simp [entryFrame, mkF, argsToLocals, Value.category]; done) | rfl
set_option maxRecDepth 65536 in
set_option maxHeartbeats 40000000 in
theorem con_nbl (l : Launch) (Z : State) (a0 : Array Value) (hw : ∀ d ∈ tables_1, d.before a0 Z = true) (n0 : Nat) (h0 : Heap) (Z0 : n0 ≤ h0.size) (n : Nat) (hn : n < 2 ^ 29) :
    Con l Z n0 (⟨"java/lang/StringUTF16", "newBytesLength", "(I)I"⟩ : MethodName) jdk_52_method_3_code 1 (some .int) ({ frames := 0, cells := 0, slots := 0, locals := 0 } : Room) #[(.int (Int32.ofNat n))] h0 (Val (PV (.int (Int32.ofNat (2 * n))) h0)) := by
  refine Con.of_run pn_34 (fun m => ef_con_nbl m n ) ?_
  refine Run.iloadN d34_0 rfl (pc' := 1) rfl ?_
  refine Run.if_ge d34_1 (by decide) (pc' := 12) (by decide) (pa := 4) rfl (fun hc1 => ?_) (fun hc1 => ?_)
  · -- pc 1 taken: ¬ (Int32.ofNat n) < (0 : Int32)
    refine Run.iloadN d34_12 rfl (pc' := 13) rfl ?_
    refine Run.ldcI (v := (1073741823 : Int32)) d34_13 (hw _ (List.mem_of_getElem? (i := 144) rfl)) (pc' := 15) rfl ?_
    refine Run.icmp_lt d34_15 (by decide) (pc' := 55) (by decide) (pa := 18) rfl (fun hc15 => ?_) (fun hc15 => ?_)
    · -- pc 15 taken: (Int32.ofNat n) < (1073741823 : Int32)
      refine Run.iloadN d34_55 rfl (pc' := 56) rfl ?_
      refine Run.iconst (1 : Int32) d34_56 (by decide) (pc' := 57) rfl ?_
      refine Run.ishl d34_57 (pc' := 58) rfl ?_
      exact Run.ireturn d34_58 rfl (by decide) (by decide) ⟨_, rfl, congrArg Value.int (own_shl1 (by omega)).symm, rfl⟩
    · -- pc 15 not taken: ¬ (Int32.ofNat n) < (1073741823 : Int32)
      exact absurd (own_nlt (by omega)) hc15
  · -- pc 1 not taken: (Int32.ofNat n) < (0 : Int32)
    exact absurd hc1 (own_nge (by omega))
theorem d33_0 : decode jdk_52_method_2_code 0 = .ok (.iload_n 0, 1) := by decide +kernel
theorem d33_1 : decode jdk_52_method_2_code 1 = .ok (.invokestatic 11, 3) := by decide +kernel
theorem d33_4 : decode jdk_52_method_2_code 4 = .ok (.newarray .byte, 2) := by decide +kernel
theorem d33_6 : decode jdk_52_method_2_code 6 = .ok (.areturn, 1) := by decide +kernel
theorem pn_33 : plainFor (⟨"java/lang/StringUTF16", "newBytesFor", "(I)[B"⟩ : MethodName) = true := plainFor_of_name (by first | (simp [plainName, overriddenIn]; done) | decide +kernel)
theorem pd__I_I : parseMethodDescriptor "(I)I" = some ⟨[.int], some .int⟩ := by decide +kernel
theorem ef_con_nbf (m : MethodId) (n : Nat)  : entryFrame m #[(.int (Int32.ofNat n))] 1 = mkF m 0 #[.val (.int (Int32.ofNat n))] [] := by first | (simp [entryFrame, mkF, argsToLocals, Value.category]; done) | rfl
set_option maxRecDepth 65536 in
set_option maxHeartbeats 40000000 in
theorem con_nbf (l : Launch) (Z : State) (a0 : Array Value) (hw : ∀ d ∈ tables_1, d.before a0 Z = true) (n0 : Nat) (h0 : Heap) (Z0 : n0 ≤ h0.size) (n : Nat) (hn : n ≤ 2) :
    Con l Z n0 (⟨"java/lang/StringUTF16", "newBytesFor", "(I)[B"⟩ : MethodName) jdk_52_method_2_code 1 (some (.array .byte)) ({ frames := 1, cells := 1, slots := 4, locals := 12 } : Room) #[(.int (Int32.ofNat n))] h0 (Val fun w h' => ∃ b, w = .ref b ∧ h0.size ≤ b ∧ Ext h0 h' ∧ Ary Z h' b .byte (List.replicate (2 * n) (.int (0 : Int32)))) := by
  refine Con.of_run pn_33 (fun m => ef_con_nbf m n ) ?_
  refine Run.iloadN d33_0 rfl (pc' := 1) rfl ?_
  refine Run.callS (k' := 0) (n' := 0) (as := [(.int (Int32.ofNat n))]) (rest := []) (con_nbl l Z a0 hw n0 h0 Z0 n (by omega) ) d33_1 (hw _ (List.mem_of_getElem? (i := 141) rfl)) (hw _ (List.mem_of_getElem? (i := 142) rfl)) (hw _ (List.mem_of_getElem? (i := 22) rfl)) (hw _ (List.mem_of_getElem? (i := 143) rfl)) (by decide) pd__I_I rfl rfl rfl (by decide) (by show (0 : Nat) + (1 + 11) + 0 ≤ _; decide) (by decide) (by decide) (by decide) (by decide) (pc' := 4) rfl ?_
  rintro _ _ ⟨_, rfl, rfl, rfl⟩
  show Run l Z n0 "java/lang/StringUTF16" jdk_52_method_2_code 1 (some (.array .byte)) "newBytesFor" ({ frames := 1, cells := 1, slots := 4, locals := 12 } : Room) _ 4 #[.val (.int (Int32.ofNat n))] [(.int (Int32.ofNat (2 * n)))] h0 0 0
  refine Run.newP (ty := .byte) (m := (2 * n)) (cap := 4) (dv := (.int (0 : Int32))) (k' := 1) (n' := 4) d33_4 rfl (hw _ (List.mem_of_getElem? (i := 24) rfl)) (own_nge (by omega)) (clamp_of rfl (by omega)) (by omega) rfl (by decide) (by decide) (by decide) (by decide) (by decide) (pc' := 6) rfl ?_
  intro h11 b11 g11 E11 A11
  have ge_b11 : n0 ≤ b11 := by rw [g11]; exact Z0
  have bo_b11 : h0.size ≤ b11 := by rw [g11]; exact (Keep.refl h0 []).1
  have sz11 : n0 ≤ h11.size := Nat.le_trans Z0 E11.1
  have kp11 := Keep.ext (Keep.refl h0 []) E11
  exact Run.areturn d33_6 (ty := (.array .byte)) rfl rfl rfl (by decide) (by decide) ⟨_, rfl, b11, rfl, bo_b11, Keep.toExt kp11, A11⟩
theorem d17_0 : decode jdk_52_method_4_code 0 = .ok (.getstatic 44, 3) := by decide +kernel
theorem d17_3 : decode jdk_52_method_4_code 3 = .ok (.ifCond .ne 25, 3) := by decide +kernel
theorem d17_28 : decode jdk_52_method_4_code 28 = .ok (.iload_n 1, 1) := by decide +kernel
theorem d17_29 : decode jdk_52_method_4_code 29 = .ok (.iconst 1, 1) := by decide +kernel
theorem d17_30 : decode jdk_52_method_4_code 30 = .ok (.ishl, 1) := by decide +kernel
theorem d17_31 : decode jdk_52_method_4_code 31 = .ok (.istore_n 1, 1) := by decide +kernel
theorem d17_32 : decode jdk_52_method_4_code 32 = .ok (.aload_n 0, 1) := by decide +kernel
theorem d17_33 : decode jdk_52_method_4_code 33 = .ok (.iload_n 1, 1) := by decide +kernel
theorem d17_34 : decode jdk_52_method_4_code 34 = .ok (.iinc 1 1, 3) := by decide +kernel
theorem d17_37 : decode jdk_52_method_4_code 37 = .ok (.iload_n 2, 1) := by decide +kernel
theorem d17_38 : decode jdk_52_method_4_code 38 = .ok (.getstatic 59, 3) := by decide +kernel
theorem d17_41 : decode jdk_52_method_4_code 41 = .ok (.ishr, 1) := by decide +kernel
theorem d17_42 : decode jdk_52_method_4_code 42 = .ok (.i2b, 1) := by decide +kernel
theorem d17_43 : decode jdk_52_method_4_code 43 = .ok (.bastore, 1) := by decide +kernel
theorem d17_44 : decode jdk_52_method_4_code 44 = .ok (.aload_n 0, 1) := by decide +kernel
theorem d17_45 : decode jdk_52_method_4_code 45 = .ok (.iload_n 1, 1) := by decide +kernel
theorem d17_46 : decode jdk_52_method_4_code 46 = .ok (.iload_n 2, 1) := by decide +kernel
theorem d17_47 : decode jdk_52_method_4_code 47 = .ok (.getstatic 63, 3) := by decide +kernel
theorem d17_50 : decode jdk_52_method_4_code 50 = .ok (.ishr, 1) := by decide +kernel
theorem d17_51 : decode jdk_52_method_4_code 51 = .ok (.i2b, 1) := by decide +kernel
theorem d17_52 : decode jdk_52_method_4_code 52 = .ok (.bastore, 1) := by decide +kernel
theorem d17_53 : decode jdk_52_method_4_code 53 = .ok (.return_, 1) := by decide +kernel
theorem pn_17 : plainFor (⟨"java/lang/StringUTF16", "putChar", "([BII)V"⟩ : MethodName) = true := plainFor_of_name (by first | (simp [plainName, overriddenIn]; done) | decide +kernel)
theorem ef_con_puc (m : MethodId) (b : Addr) (i : Nat) (c : Int32) (bs : List Value)  : entryFrame m #[(.ref b), (.int (Int32.ofNat i)), (.int c)] 3 = mkF m 0 #[.val (.ref b), .val (.int (Int32.ofNat i)), .val (.int c)] [] := by first | (simp [entryFrame, mkF, argsToLocals, Value.category]; done) | rfl
set_option maxRecDepth 65536 in
set_option maxHeartbeats 40000000 in
theorem con_puc (l : Launch) (Z : State) (a0 : Array Value) (hw : ∀ d ∈ tables_1, d.before a0 Z = true) (n0 : Nat) (h0 : Heap) (Z0 : n0 ≤ h0.size) (b : Addr) (i : Nat) (c : Int32) (bs : List Value) (od0 : Old Z n0 h0) (SD : Sta Z Z.heap "java/lang/StringUTF16" "$assertionsDisabled" "Z" (.int (1 : Int32))) (SH8 : Sta Z Z.heap "java/lang/StringUTF16" "HI_BYTE_SHIFT" "I" (.int (0 : Int32))) (SL8 : Sta Z Z.heap "java/lang/StringUTF16" "LO_BYTE_SHIFT" "I" (.int (8 : Int32))) (AB : Ary Z h0 b .byte bs) (gb : n0 ≤ b) (hi : 2 * i + 1 < bs.length) (hi2 : i < 2 ^ 29) :
    Con l Z n0 (⟨"java/lang/StringUTF16", "putChar", "([BII)V"⟩ : MethodName) jdk_52_method_4_code 3 none ({ frames := 0, cells := 0, slots := 0, locals := 0 } : Room) #[(.ref b), (.int (Int32.ofNat i)), (.int c)] h0 (Vd fun h' => Keep h0 h' [b] ∧ Ary Z h' b .byte ((bs.set (2 * i) (.int (own_b0 c))).set (2 * i + 1) (.int (own_b1 c)))) := by
  refine Con.of_run pn_17 (fun m => ef_con_puc m b i c bs ) ?_
  refine Run.getS d17_0 (host := "") (Or.inl (hw _ (List.mem_of_getElem? (i := 77) rfl))) Via.refl (SD.ext od0.2) (pc' := 3) rfl ?_
  refine Run.if_ne d17_3 (by decide) (pc' := 28) (by decide) (pa := 6) rfl (fun hc3 => ?_) (fun hc3 => ?_)
  · -- pc 3 taken: ¬ (1 : Int32) = (0 : Int32)
    refine Run.iloadN d17_28 rfl (pc' := 29) rfl ?_
    refine Run.iconst (1 : Int32) d17_29 (by decide) (pc' := 30) rfl ?_
    refine Run.ishl d17_30 (pc' := 31) rfl ?_
    rw [own_shl1 (by omega)]
    refine Run.istoreN (l' := #[.val (.ref b), .val (.int (Int32.ofNat (2 * i))), .val (.int c)]) d17_31 rfl (pc' := 32) rfl ?_
    refine Run.aloadN d17_32 rfl rfl (pc' := 33) rfl ?_
    refine Run.iloadN d17_33 rfl (pc' := 34) rfl ?_
    refine Run.iinc (1 : Int32) #[.val (.ref b), .val (.int ((Int32.ofNat (2 * i)) + (1 : Int32))), .val (.int c)] d17_34 (by decide) rfl rfl (pc' := 37) rfl ?_
    rw [own_inc]
    refine Run.iloadN d17_37 rfl (pc' := 38) rfl ?_
    refine Run.getS d17_38 (host := "") (Or.inl (hw _ (List.mem_of_getElem? (i := 78) rfl))) Via.refl (SH8.ext od0.2) (pc' := 41) rfl ?_
    refine Run.ishr d17_41 (pc' := 42) rfl ?_
    refine Run.i2b d17_42 (pc' := 43) rfl ?_
    refine Run.bastore (i := (2 * i)) d17_43 AB (own_ofn (by omega)) (by omega) gb (pc' := 44) rfl ?_
    intro h11 W11 A11
    have sz11 : n0 ≤ h11.size := by rw [W11.size]; exact Z0
    have kp11 := Keep.wr (Keep.refl h0 [b]) W11 (Or.inl (List.mem_of_getElem? (i := 0) rfl))
    have od11 := od0.wr W11 gb
    refine Run.aloadN d17_44 rfl rfl (pc' := 45) rfl ?_
    refine Run.iloadN d17_45 rfl (pc' := 46) rfl ?_
    refine Run.iloadN d17_46 rfl (pc' := 47) rfl ?_
    refine Run.getS d17_47 (host := "") (Or.inl (hw _ (List.mem_of_getElem? (i := 79) rfl))) Via.refl (SL8.ext od11.2) (pc' := 50) rfl ?_
    refine Run.ishr d17_50 (pc' := 51) rfl ?_
    refine Run.i2b d17_51 (pc' := 52) rfl ?_
    refine Run.bastore (i := (2 * i + 1)) d17_52 A11 (own_ofn (by omega)) (by rw [List.length_set]; omega) gb (pc' := 53) rfl ?_
    intro h12 W12 A12
    have sz12 : n0 ≤ h12.size := by rw [W12.size]; exact sz11
    have kp12 := Keep.wr kp11 W12 (Or.inl (List.mem_of_getElem? (i := 0) rfl))
    have od12 := od11.wr W12 gb
    exact Run.vreturn d17_53 rfl (by decide) (by decide) ⟨rfl, kp12, (by have z := A12; rw [own_nbb, own_nbb] at z; exact z)⟩
  · -- pc 3 not taken: (1 : Int32) = (0 : Int32)
    exact absurd hc3 (by decide)
theorem d27_0 : decode jdk_52_method_5_code 0 = .ok (.getstatic 44, 3) := by decide +kernel
theorem d27_3 : decode jdk_52_method_5_code 3 = .ok (.ifCond .ne 25, 3) := by decide +kernel
theorem d27_28 : decode jdk_52_method_5_code 28 = .ok (.iload_n 1, 1) := by decide +kernel
theorem d27_29 : decode jdk_52_method_5_code 29 = .ok (.iconst 1, 1) := by decide +kernel
theorem d27_30 : decode jdk_52_method_5_code 30 = .ok (.ishl, 1) := by decide +kernel
theorem d27_31 : decode jdk_52_method_5_code 31 = .ok (.istore_n 1, 1) := by decide +kernel
theorem d27_32 : decode jdk_52_method_5_code 32 = .ok (.aload_n 0, 1) := by decide +kernel
theorem d27_33 : decode jdk_52_method_5_code 33 = .ok (.iload_n 1, 1) := by decide +kernel
theorem d27_34 : decode jdk_52_method_5_code 34 = .ok (.iinc 1 1, 3) := by decide +kernel
theorem d27_37 : decode jdk_52_method_5_code 37 = .ok (.baload, 1) := by decide +kernel
theorem d27_38 : decode jdk_52_method_5_code 38 = .ok (.sipush 255, 3) := by decide +kernel
theorem d27_41 : decode jdk_52_method_5_code 41 = .ok (.iand, 1) := by decide +kernel
theorem d27_42 : decode jdk_52_method_5_code 42 = .ok (.getstatic 59, 3) := by decide +kernel
theorem d27_45 : decode jdk_52_method_5_code 45 = .ok (.ishl, 1) := by decide +kernel
theorem d27_46 : decode jdk_52_method_5_code 46 = .ok (.aload_n 0, 1) := by decide +kernel
theorem d27_47 : decode jdk_52_method_5_code 47 = .ok (.iload_n 1, 1) := by decide +kernel
theorem d27_48 : decode jdk_52_method_5_code 48 = .ok (.baload, 1) := by decide +kernel
theorem d27_49 : decode jdk_52_method_5_code 49 = .ok (.sipush 255, 3) := by decide +kernel
theorem d27_52 : decode jdk_52_method_5_code 52 = .ok (.iand, 1) := by decide +kernel
theorem d27_53 : decode jdk_52_method_5_code 53 = .ok (.getstatic 63, 3) := by decide +kernel
theorem d27_56 : decode jdk_52_method_5_code 56 = .ok (.ishl, 1) := by decide +kernel
theorem d27_57 : decode jdk_52_method_5_code 57 = .ok (.ior, 1) := by decide +kernel
theorem d27_58 : decode jdk_52_method_5_code 58 = .ok (.i2c, 1) := by decide +kernel
theorem d27_59 : decode jdk_52_method_5_code 59 = .ok (.ireturn, 1) := by decide +kernel
theorem pn_27 : plainFor (⟨"java/lang/StringUTF16", "getChar", "([BI)C"⟩ : MethodName) = true := plainFor_of_name (by first | (simp [plainName, overriddenIn]; done) | decide +kernel)
theorem ef_con_gec (m : MethodId) (b : Addr) (i : Nat) (x y : Int32) (bs : List Value)  : entryFrame m #[(.ref b), (.int (Int32.ofNat i))] 2 = mkF m 0 #[.val (.ref b), .val (.int (Int32.ofNat i))] [] := by first | (simp [entryFrame, mkF, argsToLocals, Value.category]; done) | rfl
set_option maxRecDepth 65536 in
set_option maxHeartbeats 40000000 in
theorem con_gec (l : Launch) (Z : State) (a0 : Array Value) (hw : ∀ d ∈ tables_1, d.before a0 Z = true) (n0 : Nat) (h0 : Heap) (Z0 : n0 ≤ h0.size) (b : Addr) (i : Nat) (x y : Int32) (bs : List Value) (od0 : Old Z n0 h0) (SD : Sta Z Z.heap "java/lang/StringUTF16" "$assertionsDisabled" "Z" (.int (1 : Int32))) (SH8 : Sta Z Z.heap "java/lang/StringUTF16" "HI_BYTE_SHIFT" "I" (.int (0 : Int32))) (SL8 : Sta Z Z.heap "java/lang/StringUTF16" "LO_BYTE_SHIFT" "I" (.int (8 : Int32))) (AB : Ary Z h0 b .byte bs) (hx : bs[2 * i]? = some (.int x)) (hy : bs[2 * i + 1]? = some (.int y)) (hi2 : i < 2 ^ 29) :
    Con l Z n0 (⟨"java/lang/StringUTF16", "getChar", "([BI)C"⟩ : MethodName) jdk_52_method_5_code 2 (some .char) ({ frames := 0, cells := 0, slots := 0, locals := 0 } : Room) #[(.ref b), (.int (Int32.ofNat i))] h0 (Val (PV (.int (own_gc x y)) h0)) := by
  refine Con.of_run pn_27 (fun m => ef_con_gec m b i x y bs ) ?_
  refine Run.getS d27_0 (host := "") (Or.inl (hw _ (List.mem_of_getElem? (i := 77) rfl))) Via.refl (SD.ext od0.2) (pc' := 3) rfl ?_
  refine Run.if_ne d27_3 (by decide) (pc' := 28) (by decide) (pa := 6) rfl (fun hc3 => ?_) (fun hc3 => ?_)
  · -- pc 3 taken: ¬ (1 : Int32) = (0 : Int32)
    refine Run.iloadN d27_28 rfl (pc' := 29) rfl ?_
    refine Run.iconst (1 : Int32) d27_29 (by decide) (pc' := 30) rfl ?_
    refine Run.ishl d27_30 (pc' := 31) rfl ?_
    rw [own_shl1 (by omega)]
    refine Run.istoreN (l' := #[.val (.ref b), .val (.int (Int32.ofNat (2 * i)))]) d27_31 rfl (pc' := 32) rfl ?_
    refine Run.aloadN d27_32 rfl rfl (pc' := 33) rfl ?_
    refine Run.iloadN d27_33 rfl (pc' := 34) rfl ?_
    refine Run.iinc (1 : Int32) #[.val (.ref b), .val (.int ((Int32.ofNat (2 * i)) + (1 : Int32)))] d27_34 (by decide) rfl rfl (pc' := 37) rfl ?_
    rw [own_inc]
    refine Run.baload (i := (2 * i)) (v := (.int x)) d27_37 AB (own_ofn (by omega)) hx (pc' := 38) rfl ?_
    refine Run.sipush (255 : Int32) d27_38 (by decide) (pc' := 41) rfl ?_
    refine Run.iand d27_41 (pc' := 42) rfl ?_
    refine Run.getS d27_42 (host := "") (Or.inl (hw _ (List.mem_of_getElem? (i := 78) rfl))) Via.refl (SH8.ext od0.2) (pc' := 45) rfl ?_
    refine Run.ishl d27_45 (pc' := 46) rfl ?_
    refine Run.aloadN d27_46 rfl rfl (pc' := 47) rfl ?_
    refine Run.iloadN d27_47 rfl (pc' := 48) rfl ?_
    refine Run.baload (i := (2 * i + 1)) (v := (.int y)) d27_48 AB (own_ofn (by omega)) hy (pc' := 49) rfl ?_
    refine Run.sipush (255 : Int32) d27_49 (by decide) (pc' := 52) rfl ?_
    refine Run.iand d27_52 (pc' := 53) rfl ?_
    refine Run.getS d27_53 (host := "") (Or.inl (hw _ (List.mem_of_getElem? (i := 79) rfl))) Via.refl (SL8.ext od0.2) (pc' := 56) rfl ?_
    refine Run.ishl d27_56 (pc' := 57) rfl ?_
    refine Run.ior d27_57 (pc' := 58) rfl ?_
    refine Run.i2c d27_58 (pc' := 59) rfl ?_
    exact Run.nreturn d27_59 (ty := .char) rfl (by simp) (by decide) (by decide) ⟨_, rfl, rfl, rfl⟩
  · -- pc 3 not taken: (1 : Int32) = (0 : Int32)
    exact absurd hc3 (by decide)
theorem d32_0 : decode jdk_52_method_14_code 0 = .ok (.iload_n 2, 1) := by decide +kernel
theorem d32_1 : decode jdk_52_method_14_code 1 = .ok (.invokestatic 107, 3) := by decide +kernel
theorem d32_4 : decode jdk_52_method_14_code 4 = .ok (.astore_n 3, 1) := by decide +kernel
theorem d32_5 : decode jdk_52_method_14_code 5 = .ok (.iconst 0, 1) := by decide +kernel
theorem d32_6 : decode jdk_52_method_14_code 6 = .ok (.istore 4, 2) := by decide +kernel
theorem d32_8 : decode jdk_52_method_14_code 8 = .ok (.iload 4, 2) := by decide +kernel
theorem d32_10 : decode jdk_52_method_14_code 10 = .ok (.iload_n 2, 1) := by decide +kernel
theorem d32_11 : decode jdk_52_method_14_code 11 = .ok (.if_icmp .ge 21, 3) := by decide +kernel
theorem d32_14 : decode jdk_52_method_14_code 14 = .ok (.aload_n 3, 1) := by decide +kernel
theorem d32_15 : decode jdk_52_method_14_code 15 = .ok (.iload 4, 2) := by decide +kernel
theorem d32_17 : decode jdk_52_method_14_code 17 = .ok (.aload_n 0, 1) := by decide +kernel
theorem d32_18 : decode jdk_52_method_14_code 18 = .ok (.iload_n 1, 1) := by decide +kernel
theorem d32_19 : decode jdk_52_method_14_code 19 = .ok (.caload, 1) := by decide +kernel
theorem d32_20 : decode jdk_52_method_14_code 20 = .ok (.invokestatic 111, 3) := by decide +kernel
theorem d32_23 : decode jdk_52_method_14_code 23 = .ok (.iinc 1 1, 3) := by decide +kernel
theorem d32_26 : decode jdk_52_method_14_code 26 = .ok (.iinc 4 1, 3) := by decide +kernel
theorem d32_29 : decode jdk_52_method_14_code 29 = .ok (.goto (-21), 3) := by decide +kernel
theorem d32_32 : decode jdk_52_method_14_code 32 = .ok (.aload_n 3, 1) := by decide +kernel
theorem d32_33 : decode jdk_52_method_14_code 33 = .ok (.areturn, 1) := by decide +kernel
theorem pn_32 : plainFor (⟨"java/lang/StringUTF16", "toBytes", "([CII)[B"⟩ : MethodName) = true := plainFor_of_name (by first | (simp [plainName, overriddenIn]; done) | decide +kernel)
theorem pd__I__B : parseMethodDescriptor "(I)[B" = some ⟨[.int], some (.array .byte)⟩ := by decide +kernel
theorem pd___BII_V : parseMethodDescriptor "([BII)V" = some ⟨[(.array .byte), .int, .int], none⟩ := by decide +kernel
theorem ef_con_tby (m : MethodId) (a : Addr) (cs : List Int32) (us : List Value)  : entryFrame m #[(.ref a), (.int (0 : Int32)), (.int (Int32.ofNat cs.length))] 5 = mkF m 0 #[.val (.ref a), .val (.int (0 : Int32)), .val (.int (Int32.ofNat cs.length)), .unset, .unset] [] := by first | (simp [entryFrame, mkF, argsToLocals, Value.category]; done) | rfl
set_option maxRecDepth 65536 in
set_option maxHeartbeats 40000000 in
theorem con_tby (l : Launch) (Z : State) (a0 : Array Value) (hw : ∀ d ∈ tables_1, d.before a0 Z = true) (n0 : Nat) (h0 : Heap) (Z0 : n0 ≤ h0.size) (a : Addr) (cs : List Int32) (us : List Value) (od0 : Old Z n0 h0) (SD : Sta Z Z.heap "java/lang/StringUTF16" "$assertionsDisabled" "Z" (.int (1 : Int32))) (SH8 : Sta Z Z.heap "java/lang/StringUTF16" "HI_BYTE_SHIFT" "I" (.int (0 : Int32))) (SL8 : Sta Z Z.heap "java/lang/StringUTF16" "LO_BYTE_SHIFT" "I" (.int (8 : Int32))) (AC : Ary Z h0 a .char (cs.map Value.int ++ us)) (hn : cs.length ≤ 2) :
    Con l Z n0 (⟨"java/lang/StringUTF16", "toBytes", "([CII)[B"⟩ : MethodName) jdk_52_method_14_code 5 (some (.array .byte)) ({ frames := 2, cells := 1, slots := 4, locals := 24 } : Room) #[(.ref a), (.int (0 : Int32)), (.int (Int32.ofNat cs.length))] h0 (Val fun w h' => ∃ b, w = .ref b ∧ h0.size ≤ b ∧ Ext h0 h' ∧ Ary Z h' b .byte (own_u16 cs)) := by
  refine Con.of_run pn_32 (fun m => ef_con_tby m a cs us ) ?_
  refine Run.iloadN d32_0 rfl (pc' := 1) rfl ?_
  refine Run.callS (k' := 1) (n' := 4) (as := [(.int (Int32.ofNat cs.length))]) (rest := []) (con_nbf l Z a0 hw n0 h0 Z0 cs.length hn) d32_1 (hw _ (List.mem_of_getElem? (i := 138) rfl)) (hw _ (List.mem_of_getElem? (i := 139) rfl)) (hw _ (List.mem_of_getElem? (i := 22) rfl)) (hw _ (List.mem_of_getElem? (i := 140) rfl)) (by decide) pd__I__B rfl rfl rfl (by decide) (by show (0 : Nat) + (1 + 11) + 12 ≤ _; decide) (by decide) (by decide) (by decide) (by decide) (pc' := 4) rfl ?_
  rintro _ h11 ⟨_, rfl, ⟨b11, rfl, bw11, E11, P11⟩⟩
  show Run l Z n0 "java/lang/StringUTF16" jdk_52_method_14_code 5 (some (.array .byte)) "toBytes" ({ frames := 2, cells := 1, slots := 4, locals := 24 } : Room) _ 4 #[.val (.ref a), .val (.int (0 : Int32)), .val (.int (Int32.ofNat cs.length)), .unset, .unset] [(.ref b11)] h11 1 4
  have ge_b11 : n0 ≤ b11 := Nat.le_trans Z0 bw11
  have bo_b11 : h0.size ≤ b11 := Nat.le_trans (Keep.refl h0 []).1 bw11
  have ne_a_b11 : a ≠ b11 := Nat.ne_of_lt (Nat.lt_of_lt_of_le AC.lt bw11)
  have A_a_11 := AC.ext E11
  have sz11 : n0 ≤ h11.size := Nat.le_trans Z0 E11.1
  have kp11 := Keep.ext (Keep.refl h0 []) E11
  have od11 := od0.ext E11
  refine Run.astoreN (l' := #[.val (.ref a), .val (.int (0 : Int32)), .val (.int (Int32.ofNat cs.length)), .val (.ref b11), .unset]) d32_4 rfl rfl (pc' := 5) rfl ?_
  refine Run.iconst (0 : Int32) d32_5 (by decide) (pc' := 6) rfl ?_
  refine Run.istore (l' := #[.val (.ref a), .val (.int (0 : Int32)), .val (.int (Int32.ofNat cs.length)), .val (.ref b11), .val (.int (0 : Int32))]) d32_6 rfl (pc' := 8) rfl ?_
  have loop : ∀ (t i : Nat) (hh : Heap), t + i = cs.length → n0 ≤ hh.size → Keep h0 hh [] → Old Z n0 hh → Ary Z hh a .char (cs.map Value.int ++ us) → Ary Z hh b11 .byte (own_u16 (cs.take i) ++ List.replicate (2 * (cs.length - i)) (.int (0 : Int32))) → Run l Z n0 "java/lang/StringUTF16" jdk_52_method_14_code 5 (some (.array .byte)) "toBytes" ({ frames := 2, cells := 1, slots := 4, locals := 24 } : Room) (Val fun w h' => ∃ b, w = .ref b ∧ h0.size ≤ b ∧ Ext h0 h' ∧ Ary Z h' b .byte (own_u16 cs)) 8 #[.val (.ref a), .val (.int (Int32.ofNat i)), .val (.int (Int32.ofNat cs.length)), .val (.ref b11), .val (.int (Int32.ofNat i))] [] hh 1 4 := by
    intro t
    induction t with
    | zero =>
      intro i hh hti szh kph odh ACh ABh
      obtain rfl : i = cs.length := by omega
      refine Run.iload d32_8 rfl (pc' := 10) rfl ?_
      refine Run.iloadN d32_10 rfl (pc' := 11) rfl ?_
      refine Run.icmp_ge d32_11 (by decide) (pc' := 32) (by decide) (pa := 14) rfl (fun hc11 => ?_) (fun hc11 => ?_)
      · -- pc 11 taken: ¬ (Int32.ofNat cs.length) < (Int32.ofNat cs.length)
        refine Run.aloadN d32_32 rfl rfl (pc' := 33) rfl ?_
        exact Run.areturn d32_33 (ty := (.array .byte)) rfl rfl rfl (by decide) (by decide) ⟨_, rfl, b11, rfl, bo_b11, Keep.toExt kph, (by simpa using ABh)⟩
      · -- pc 11 not taken: (Int32.ofNat cs.length) < (Int32.ofNat cs.length)
        exact absurd ((own_lt (by omega) (by omega)).mp hc11) (by omega)
    | succ t ih =>
      intro i hh hti szh kph odh ACh ABh
      have hil : i < cs.length := by omega
      refine Run.iload d32_8 rfl (pc' := 10) rfl ?_
      refine Run.iloadN d32_10 rfl (pc' := 11) rfl ?_
      refine Run.icmp_ge d32_11 (by decide) (pc' := 32) (by decide) (pa := 14) rfl (fun hc11 => ?_) (fun hc11 => ?_)
      · -- pc 11 taken: ¬ (Int32.ofNat i) < (Int32.ofNat cs.length)
        exact absurd ((own_lt (by omega) (by omega)).mpr hil) hc11
      · -- pc 11 not taken: (Int32.ofNat i) < (Int32.ofNat cs.length)
        refine Run.aloadN d32_14 rfl rfl (pc' := 15) rfl ?_
        refine Run.iload d32_15 rfl (pc' := 17) rfl ?_
        refine Run.aloadN d32_17 rfl rfl (pc' := 18) rfl ?_
        refine Run.iloadN d32_18 rfl (pc' := 19) rfl ?_
        refine Run.caload (i := i) (v := (.int (cs.getD i 0))) d32_19 ACh (own_ofn (by omega)) (own_cg hil) (pc' := 20) rfl ?_
        refine Run.callS (k' := 1) (n' := 4) (as := [(.ref b11), (.int (Int32.ofNat i)), (.int (cs.getD i 0))]) (rest := []) (con_puc l Z a0 hw n0 hh szh b11 i (cs.getD i 0) (own_u16 (cs.take i) ++ List.replicate (2 * (cs.length - i)) (.int (0 : Int32))) odh SD SH8 SL8 ABh ge_b11 (by rw [List.length_append, own_u16_len, List.length_take, List.length_replicate]; omega) (by omega)) d32_20 (hw _ (List.mem_of_getElem? (i := 74) rfl)) (hw _ (List.mem_of_getElem? (i := 75) rfl)) (hw _ (List.mem_of_getElem? (i := 22) rfl)) (hw _ (List.mem_of_getElem? (i := 76) rfl)) (by decide) pd___BII_V rfl rfl rfl (by decide) (by show (0 : Nat) + (3 + 11) + 0 ≤ _; decide) (by decide) (by decide) (by decide) (by decide) (pc' := 23) rfl ?_
        rintro _ h12 ⟨rfl, ⟨K12, P12⟩⟩
        show Run l Z n0 "java/lang/StringUTF16" jdk_52_method_14_code 5 (some (.array .byte)) "toBytes" ({ frames := 2, cells := 1, slots := 4, locals := 24 } : Room) _ 23 #[.val (.ref a), .val (.int (Int32.ofNat i)), .val (.int (Int32.ofNat cs.length)), .val (.ref b11), .val (.int (Int32.ofNat i))] [] h12 1 4
        have A_a_12 := ACh.keep K12 (ninS ne_a_b11 nin0)
        have sz12 : n0 ≤ h12.size := Nat.le_trans szh K12.1
        have kp12 := Keep.trans kph K12 (allS (Or.inr bo_b11) all0)
        have od12 := odh.keep K12 (allS ge_b11 all0)
        refine Run.iinc (1 : Int32) #[.val (.ref a), .val (.int ((Int32.ofNat i) + (1 : Int32))), .val (.int (Int32.ofNat cs.length)), .val (.ref b11), .val (.int (Int32.ofNat i))] d32_23 (by decide) rfl rfl (pc' := 26) rfl ?_
        refine Run.iinc (1 : Int32) #[.val (.ref a), .val (.int ((Int32.ofNat i) + (1 : Int32))), .val (.int (Int32.ofNat cs.length)), .val (.ref b11), .val (.int ((Int32.ofNat i) + (1 : Int32)))] d32_26 (by decide) rfl rfl (pc' := 29) rfl ?_
        refine Run.goto d32_29 (by decide) (pc' := 8) (by decide) ?_
        simp only [own_inc]
        exact ih (i + 1) h12 (by omega) sz12 kp12 od12 A_a_12 (by rw [← own_u16_set hil]; exact P12)
  exact loop cs.length 0 h11 (by omega) sz11 kp11 od11 A_a_11 (by simpa [own_u16] using P11)
theorem own_ofne {a b : Nat} (h : ¬ Int32.ofNat a = Int32.ofNat b) : ¬ a = b := fun e => h (by rw [e])
theorem own_ofeq {cs : List Int32} {B : Nat} (h : Int32.ofNat (own_pfx cs) = Int32.ofNat cs.length) (hn : cs.length ≤ B) (hB : B < 2 ^ 30 := by decide) : own_pfx cs = cs.length := by
  have h1 := own_pfx_le cs; have h2 := own_ofn (i := own_pfx cs) (by omega); have h3 := own_ofn (i := cs.length) (by omega)
  rw [h] at h2; omega
theorem d5_0 : decode jdk_52_method_16_code 0 = .ok (.iload_n 2, 1) := by decide +kernel
theorem d5_1 : decode jdk_52_method_16_code 1 = .ok (.newarray .byte, 2) := by decide +kernel
theorem d5_3 : decode jdk_52_method_16_code 3 = .ok (.astore_n 3, 1) := by decide +kernel
theorem d5_4 : decode jdk_52_method_16_code 4 = .ok (.aload_n 0, 1) := by decide +kernel
theorem d5_5 : decode jdk_52_method_16_code 5 = .ok (.iload_n 1, 1) := by decide +kernel
theorem d5_6 : decode jdk_52_method_16_code 6 = .ok (.aload_n 3, 1) := by decide +kernel
theorem d5_7 : decode jdk_52_method_16_code 7 = .ok (.iconst 0, 1) := by decide +kernel
theorem d5_8 : decode jdk_52_method_16_code 8 = .ok (.iload_n 2, 1) := by decide +kernel
theorem d5_9 : decode jdk_52_method_16_code 9 = .ok (.invokestatic 115, 3) := by decide +kernel
theorem d5_12 : decode jdk_52_method_16_code 12 = .ok (.istore 4, 2) := by decide +kernel
theorem d5_14 : decode jdk_52_method_16_code 14 = .ok (.iload 4, 2) := by decide +kernel
theorem d5_16 : decode jdk_52_method_16_code 16 = .ok (.iload_n 2, 1) := by decide +kernel
theorem d5_17 : decode jdk_52_method_16_code 17 = .ok (.if_icmp .eq 40, 3) := by decide +kernel
theorem d5_20 : decode jdk_52_method_16_code 20 = .ok (.aload_n 0, 1) := by decide +kernel
theorem d5_21 : decode jdk_52_method_16_code 21 = .ok (.iload_n 1, 1) := by decide +kernel
theorem d5_22 : decode jdk_52_method_16_code 22 = .ok (.iload_n 2, 1) := by decide +kernel
theorem d5_23 : decode jdk_52_method_16_code 23 = .ok (.invokestatic 119, 3) := by decide +kernel
theorem d5_26 : decode jdk_52_method_16_code 26 = .ok (.astore 5, 2) := by decide +kernel
theorem d5_28 : decode jdk_52_method_16_code 28 = .ok (.aload 5, 2) := by decide +kernel
theorem d5_30 : decode jdk_52_method_16_code 30 = .ok (.iload 4, 2) := by decide +kernel
theorem d5_32 : decode jdk_52_method_16_code 32 = .ok (.invokestatic 71, 3) := by decide +kernel
theorem d5_35 : decode jdk_52_method_16_code 35 = .ok (.sipush 255, 3) := by decide +kernel
theorem d5_38 : decode jdk_52_method_16_code 38 = .ok (.if_icmp .gt 16, 3) := by decide +kernel
theorem d5_54 : decode jdk_52_method_16_code 54 = .ok (.aload 5, 2) := by decide +kernel
theorem d5_56 : decode jdk_52_method_16_code 56 = .ok (.areturn, 1) := by decide +kernel
theorem d5_57 : decode jdk_52_method_16_code 57 = .ok (.aload_n 3, 1) := by decide +kernel
theorem d5_58 : decode jdk_52_method_16_code 58 = .ok (.areturn, 1) := by decide +kernel
theorem pn_5 : plainFor (⟨"java/lang/StringUTF16", "compress", "([CII)[B"⟩ : MethodName) = true := plainFor_of_name (by first | (simp [plainName, overriddenIn]; done) | decide +kernel)
theorem pd___BI_C : parseMethodDescriptor "([BI)C" = some ⟨[(.array .byte), .int], some .char⟩ := by decide +kernel
theorem pd___CII__B : parseMethodDescriptor "([CII)[B" = some ⟨[(.array .char), .int, .int], some (.array .byte)⟩ := by decide +kernel
theorem pd___CI_BII_I : parseMethodDescriptor "([CI[BII)I" = some ⟨[(.array .char), .int, (.array .byte), .int, .int], some .int⟩ := by decide +kernel
theorem ef_con_cmp3 (m : MethodId) (a : Addr) (cs : List Int32) (us : List Value)  : entryFrame m #[(.ref a), (.int (0 : Int32)), (.int (Int32.ofNat cs.length))] 6 = mkF m 0 #[.val (.ref a), .val (.int (0 : Int32)), .val (.int (Int32.ofNat cs.length)), .unset, .unset, .unset] [] := by first | (simp [entryFrame, mkF, argsToLocals, Value.category]; done) | rfl
set_option maxRecDepth 65536 in
set_option maxHeartbeats 40000000 in
theorem con_cmp3 (l : Launch) (Z : State) (a0 : Array Value) (hw : ∀ d ∈ tables_1, d.before a0 Z = true) (n0 : Nat) (h0 : Heap) (Z0 : n0 ≤ h0.size) (a : Addr) (cs : List Int32) (us : List Value) (od0 : Old Z n0 h0) (SD : Sta Z Z.heap "java/lang/StringUTF16" "$assertionsDisabled" "Z" (.int (1 : Int32))) (SH8 : Sta Z Z.heap "java/lang/StringUTF16" "HI_BYTE_SHIFT" "I" (.int (0 : Int32))) (SL8 : Sta Z Z.heap "java/lang/StringUTF16" "LO_BYTE_SHIFT" "I" (.int (8 : Int32))) (AC : Ary Z h0 a .char (cs.map Value.int ++ us)) (hn : cs.length ≤ 2) (hch : own_chr cs) :
    Con l Z n0 (⟨"java/lang/StringUTF16", "compress", "([CII)[B"⟩ : MethodName) jdk_52_method_16_code 6 (some (.array .byte)) ({ frames := 3, cells := 2, slots := 6, locals := 40 } : Room) #[(.ref a), (.int (0 : Int32)), (.int (Int32.ofNat cs.length))] h0 (Val fun w h' => ∃ b, w = .ref b ∧ h0.size ≤ b ∧ Ext h0 h' ∧ Ary Z h' b .byte (own_enc cs)) := by
  refine Con.of_run pn_5 (fun m => ef_con_cmp3 m a cs us ) ?_
  refine Run.iloadN d5_0 rfl (pc' := 1) rfl ?_
  refine Run.newP (ty := .byte) (m := cs.length) (cap := 2) (dv := (.int (0 : Int32))) (k' := 1) (n' := 2) d5_1 rfl (hw _ (List.mem_of_getElem? (i := 24) rfl)) (own_nge (by omega)) (clamp_of rfl (by omega)) hn rfl (by decide) (by decide) (by decide) (by decide) (by decide) (pc' := 3) rfl ?_
  intro h11 b11 g11 E11 A11
  have ge_b11 : n0 ≤ b11 := by rw [g11]; exact Z0
  have bo_b11 : h0.size ≤ b11 := by rw [g11]; exact (Keep.refl h0 []).1
  have ne_a_b11 : a ≠ b11 := by rw [g11]; exact Nat.ne_of_lt AC.lt
  have A_a_11 := AC.ext E11
  have sz11 : n0 ≤ h11.size := Nat.le_trans Z0 E11.1
  have kp11 := Keep.ext (Keep.refl h0 []) E11
  have od11 := od0.ext E11
  refine Run.astoreN (l' := #[.val (.ref a), .val (.int (0 : Int32)), .val (.int (Int32.ofNat cs.length)), .val (.ref b11), .unset, .unset]) d5_3 rfl rfl (pc' := 4) rfl ?_
  refine Run.aloadN d5_4 rfl rfl (pc' := 5) rfl ?_
  refine Run.iloadN d5_5 rfl (pc' := 6) rfl ?_
  refine Run.aloadN d5_6 rfl rfl (pc' := 7) rfl ?_
  refine Run.iconst (0 : Int32) d5_7 (by decide) (pc' := 8) rfl ?_
  refine Run.iloadN d5_8 rfl (pc' := 9) rfl ?_
  refine Run.callS (k' := 1) (n' := 2) (as := [(.ref a), (.int (0 : Int32)), (.ref b11), (.int (0 : Int32)), (.int (Int32.ofNat cs.length))]) (rest := []) (con_cmp5 l Z a0 hw n0 h11 sz11 a b11 cs us A_a_11 A11 ne_a_b11 ge_b11 (by omega)) d5_9 (hw _ (List.mem_of_getElem? (i := 25) rfl)) (hw _ (List.mem_of_getElem? (i := 26) rfl)) (hw _ (List.mem_of_getElem? (i := 22) rfl)) (hw _ (List.mem_of_getElem? (i := 27) rfl)) (by decide) pd___CI_BII_I rfl rfl rfl (by decide) (by show (0 : Nat) + (7 + 11) + 0 ≤ _; decide) (by decide) (by decide) (by decide) (by decide) (pc' := 12) rfl ?_
  rintro _ h12 ⟨_, rfl, ⟨rfl, K12, P12⟩⟩
  show Run l Z n0 "java/lang/StringUTF16" jdk_52_method_16_code 6 (some (.array .byte)) "compress" ({ frames := 3, cells := 2, slots := 6, locals := 40 } : Room) _ 12 #[.val (.ref a), .val (.int (0 : Int32)), .val (.int (Int32.ofNat cs.length)), .val (.ref b11), .unset, .unset] [(.int (Int32.ofNat (own_pfx cs)))] h12 1 2
  have A_a_12 := A_a_11.keep K12 (ninS ne_a_b11 nin0)
  have sz12 : n0 ≤ h12.size := Nat.le_trans sz11 K12.1
  have kp12 := Keep.trans kp11 K12 (allS (Or.inr bo_b11) all0)
  have od12 := od11.keep K12 (allS ge_b11 all0)
  refine Run.istore (l' := #[.val (.ref a), .val (.int (0 : Int32)), .val (.int (Int32.ofNat cs.length)), .val (.ref b11), .val (.int (Int32.ofNat (own_pfx cs))), .unset]) d5_12 rfl (pc' := 14) rfl ?_
  refine Run.iload d5_14 rfl (pc' := 16) rfl ?_
  refine Run.iloadN d5_16 rfl (pc' := 17) rfl ?_
  refine Run.icmp_eq d5_17 (by decide) (pc' := 57) (by decide) (pa := 20) rfl (fun hc17 => ?_) (fun hc17 => ?_)
  · -- pc 17 taken: (Int32.ofNat (own_pfx cs)) = (Int32.ofNat cs.length)
    refine Run.aloadN d5_57 rfl rfl (pc' := 58) rfl ?_
    exact Run.areturn d5_58 (ty := (.array .byte)) rfl rfl rfl (by decide) (by decide) ⟨_, rfl, b11, rfl, bo_b11, Keep.toExt kp12, (by unfold own_enc; rw [if_pos (own_ofeq hc17 hn)]; have z := P12; rw [own_ofeq hc17 hn] at z; simpa using z)⟩
  · -- pc 17 not taken: ¬ (Int32.ofNat (own_pfx cs)) = (Int32.ofNat cs.length)
    have hst := own_pfx_stop (own_ofne hc17)
    have hgu := own_u16_get hst.1
    refine Run.aloadN d5_20 rfl rfl (pc' := 21) rfl ?_
    refine Run.iloadN d5_21 rfl (pc' := 22) rfl ?_
    refine Run.iloadN d5_22 rfl (pc' := 23) rfl ?_
    refine Run.callS (k' := 2) (n' := 6) (as := [(.ref a), (.int (0 : Int32)), (.int (Int32.ofNat cs.length))]) (rest := []) (con_tby l Z a0 hw n0 h12 sz12 a cs us od12 SD SH8 SL8 A_a_12 hn) d5_23 (hw _ (List.mem_of_getElem? (i := 135) rfl)) (hw _ (List.mem_of_getElem? (i := 136) rfl)) (hw _ (List.mem_of_getElem? (i := 22) rfl)) (hw _ (List.mem_of_getElem? (i := 137) rfl)) (by decide) pd___CII__B rfl rfl rfl (by decide) (by show (0 : Nat) + (5 + 11) + 24 ≤ _; decide) (by decide) (by decide) (by decide) (by decide) (pc' := 26) rfl ?_
    rintro _ h13 ⟨_, rfl, ⟨b13, rfl, bw13, E13, P13⟩⟩
    show Run l Z n0 "java/lang/StringUTF16" jdk_52_method_16_code 6 (some (.array .byte)) "compress" ({ frames := 3, cells := 2, slots := 6, locals := 40 } : Room) _ 26 #[.val (.ref a), .val (.int (0 : Int32)), .val (.int (Int32.ofNat cs.length)), .val (.ref b11), .val (.int (Int32.ofNat (own_pfx cs))), .unset] [(.ref b13)] h13 2 6
    have ge_b13 : n0 ≤ b13 := Nat.le_trans sz12 bw13
    have bo_b13 : h0.size ≤ b13 := Nat.le_trans kp12.1 bw13
    have ne_a_b13 : a ≠ b13 := Nat.ne_of_lt (Nat.lt_of_lt_of_le A_a_12.lt bw13)
    have ne_b11_b13 : b11 ≠ b13 := Nat.ne_of_lt (Nat.lt_of_lt_of_le P12.lt bw13)
    have A_a_13 := A_a_12.ext E13
    have A_b11_13 := P12.ext E13
    have sz13 : n0 ≤ h13.size := Nat.le_trans sz12 E13.1
    have kp13 := Keep.ext kp12 E13
    have od13 := od12.ext E13
    refine Run.astore (l' := #[.val (.ref a), .val (.int (0 : Int32)), .val (.int (Int32.ofNat cs.length)), .val (.ref b11), .val (.int (Int32.ofNat (own_pfx cs))), .val (.ref b13)]) d5_26 rfl rfl (pc' := 28) rfl ?_
    refine Run.aload d5_28 rfl rfl (pc' := 30) rfl ?_
    refine Run.iload d5_30 rfl (pc' := 32) rfl ?_
    refine Run.callS (k' := 2) (n' := 6) (as := [(.ref b13), (.int (Int32.ofNat (own_pfx cs)))]) (rest := []) (con_gec l Z a0 hw n0 h13 sz13  b13 (own_pfx cs) (own_b0 (cs.getD (own_pfx cs) 0)) (own_b1 (cs.getD (own_pfx cs) 0)) (own_u16 cs) od13 SD SH8 SL8 P13 hgu.1 hgu.2 (by omega)) d5_32 (hw _ (List.mem_of_getElem? (i := 114) rfl)) (hw _ (List.mem_of_getElem? (i := 115) rfl)) (hw _ (List.mem_of_getElem? (i := 22) rfl)) (hw _ (List.mem_of_getElem? (i := 116) rfl)) (by decide) pd___BI_C rfl rfl rfl (by decide) (by show (0 : Nat) + (2 + 11) + 0 ≤ _; decide) (by decide) (by decide) (by decide) (by decide) (pc' := 35) rfl ?_
    rintro _ _ ⟨_, rfl, rfl, rfl⟩
    show Run l Z n0 "java/lang/StringUTF16" jdk_52_method_16_code 6 (some (.array .byte)) "compress" ({ frames := 3, cells := 2, slots := 6, locals := 40 } : Room) _ 35 #[.val (.ref a), .val (.int (0 : Int32)), .val (.int (Int32.ofNat cs.length)), .val (.ref b11), .val (.int (Int32.ofNat (own_pfx cs))), .val (.ref b13)] [(.int (own_gc (own_b0 (cs.getD (own_pfx cs) 0)) (own_b1 (cs.getD (own_pfx cs) 0))))] h13 2 6
    rw [own_gcb (own_chrD hch hst.1)]
    refine Run.sipush (255 : Int32) d5_35 (by decide) (pc' := 38) rfl ?_
    refine Run.icmp_gt d5_38 (by decide) (pc' := 54) (by decide) (pa := 41) rfl (fun hc38 => ?_) (fun hc38 => ?_)
    · -- pc 38 taken: (255 : Int32) < (cs.getD (own_pfx cs) 0)
      refine Run.aload d5_54 rfl rfl (pc' := 56) rfl ?_
      exact Run.areturn d5_56 (ty := (.array .byte)) rfl rfl rfl (by decide) (by decide) ⟨_, rfl, b13, rfl, bo_b13, Keep.toExt kp13, (by unfold own_enc; rw [if_neg (own_ofne hc17)]; exact P13)⟩
    · -- pc 38 not taken: ¬ (255 : Int32) < (cs.getD (own_pfx cs) 0)
      exact absurd hst.2 hc38
theorem d7_0 : decode jdk_52_method_15_code 0 = .ok (.iload_n 1, 1) := by decide +kernel
theorem d7_1 : decode jdk_52_method_15_code 1 = .ok (.aload_n 0, 1) := by decide +kernel
theorem d7_2 : decode jdk_52_method_15_code 2 = .ok (.arraylength, 1) := by decide +kernel
theorem d7_3 : decode jdk_52_method_15_code 3 = .ok (.isub, 1) := by decide +kernel
theorem d7_4 : decode jdk_52_method_15_code 4 = .ok (.bipush 31, 2) := by decide +kernel
theorem d7_6 : decode jdk_52_method_15_code 6 = .ok (.iushr, 1) := by decide +kernel
theorem d7_7 : decode jdk_52_method_15_code 7 = .ok (.i2b, 1) := by decide +kernel
theorem d7_8 : decode jdk_52_method_15_code 8 = .ok (.ireturn, 1) := by decide +kernel
theorem pn_7 : plainFor (⟨"java/lang/StringUTF16", "coderFromArrayLen", "([BI)B"⟩ : MethodName) = true := plainFor_of_name (by first | (simp [plainName, overriddenIn]; done) | decide +kernel)
theorem ef_con_cfal (m : MethodId) (a : Addr) (cs : List Int32)  : entryFrame m #[(.ref a), (.int (Int32.ofNat cs.length))] 2 = mkF m 0 #[.val (.ref a), .val (.int (Int32.ofNat cs.length))] [] := by first | (simp [entryFrame, mkF, argsToLocals, Value.category]; done) | rfl
set_option maxRecDepth 65536 in
set_option maxHeartbeats 40000000 in
theorem con_cfal (l : Launch) (Z : State) (a0 : Array Value) (hw : ∀ d ∈ tables_1, d.before a0 Z = true) (n0 : Nat) (h0 : Heap) (Z0 : n0 ≤ h0.size) (a : Addr) (cs : List Int32) (AB : Ary Z h0 a .byte (own_enc cs)) (hne : cs ≠ []) (hn : cs.length ≤ 2) :
    Con l Z n0 (⟨"java/lang/StringUTF16", "coderFromArrayLen", "([BI)B"⟩ : MethodName) jdk_52_method_15_code 2 (some .byte) ({ frames := 0, cells := 0, slots := 0, locals := 0 } : Room) #[(.ref a), (.int (Int32.ofNat cs.length))] h0 (Val (PV (.int (own_coder cs)) h0)) := by
  refine Con.of_run pn_7 (fun m => ef_con_cfal m a cs ) ?_
  refine Run.iloadN d7_0 rfl (pc' := 1) rfl ?_
  refine Run.aloadN d7_1 rfl rfl (pc' := 2) rfl ?_
  refine Run.alen (z := (Int32.ofNat (own_enc cs).length)) d7_2 AB rfl (pc' := 3) rfl ?_
  refine Run.isub d7_3 (pc' := 4) rfl ?_
  refine Run.bipush (31 : Int32) d7_4 (by decide) (pc' := 6) rfl ?_
  refine Run.iushr d7_6 (pc' := 7) rfl ?_
  refine Run.i2b d7_7 (pc' := 8) rfl ?_
  exact Run.nreturn d7_8 (ty := .byte) rfl (by simp) (by decide) (by decide) ⟨_, rfl, congrArg Value.int (own_cfl hne (by omega)).symm, rfl⟩
theorem own_pos {cs : List Int32} (h : cs ≠ []) (h2 : cs.length < 2 ^ 31) : ¬ Int32.ofNat cs.length = (0 : Int32) := fun e => by
  have h1 := own_ofn h2; rw [e, own_z] at h1; have := List.length_pos_iff.mpr h; omega
theorem own_codn (cs : List Int32) : narrow .byte (.int (own_coder cs)) = .int (own_coder cs) ∧ fits .byte (.int (own_coder cs)) = true := by unfold own_coder; split <;> decide
theorem d3_0 : decode jdk_42_method_149_code 0 = .ok (.aload_n 0, 1) := by decide +kernel
theorem d3_1 : decode jdk_42_method_149_code 1 = .ok (.invokespecial 1, 3) := by decide +kernel
theorem d3_4 : decode jdk_42_method_149_code 4 = .ok (.iload_n 3, 1) := by decide +kernel
theorem d3_5 : decode jdk_42_method_149_code 5 = .ok (.ifCond .ne 22, 3) := by decide +kernel
theorem d3_8 : decode jdk_42_method_149_code 8 = .ok (.aload_n 0, 1) := by decide +kernel
theorem d3_9 : decode jdk_42_method_149_code 9 = .ok (.ldc 7, 2) := by decide +kernel
theorem d3_11 : decode jdk_42_method_149_code 11 = .ok (.getfield 9, 3) := by decide +kernel
theorem d3_14 : decode jdk_42_method_149_code 14 = .ok (.putfield 9, 3) := by decide +kernel
theorem d3_17 : decode jdk_42_method_149_code 17 = .ok (.aload_n 0, 1) := by decide +kernel
theorem d3_18 : decode jdk_42_method_149_code 18 = .ok (.ldc 7, 2) := by decide +kernel
theorem d3_20 : decode jdk_42_method_149_code 20 = .ok (.getfield 15, 3) := by decide +kernel
theorem d3_23 : decode jdk_42_method_149_code 23 = .ok (.putfield 15, 3) := by decide +kernel
theorem d3_26 : decode jdk_42_method_149_code 26 = .ok (.return_, 1) := by decide +kernel
theorem d3_27 : decode jdk_42_method_149_code 27 = .ok (.getstatic 38, 3) := by decide +kernel
theorem d3_30 : decode jdk_42_method_149_code 30 = .ok (.ifCond .eq 28, 3) := by decide +kernel
theorem d3_33 : decode jdk_42_method_149_code 33 = .ok (.aload_n 1, 1) := by decide +kernel
theorem d3_34 : decode jdk_42_method_149_code 34 = .ok (.iload_n 2, 1) := by decide +kernel
theorem d3_35 : decode jdk_42_method_149_code 35 = .ok (.iload_n 3, 1) := by decide +kernel
theorem d3_36 : decode jdk_42_method_149_code 36 = .ok (.invokestatic 177, 3) := by decide +kernel
theorem d3_39 : decode jdk_42_method_149_code 39 = .ok (.astore 5, 2) := by decide +kernel
theorem d3_41 : decode jdk_42_method_149_code 41 = .ok (.aload_n 0, 1) := by decide +kernel
theorem d3_42 : decode jdk_42_method_149_code 42 = .ok (.aload 5, 2) := by decide +kernel
theorem d3_44 : decode jdk_42_method_149_code 44 = .ok (.iload_n 3, 1) := by decide +kernel
theorem d3_45 : decode jdk_42_method_149_code 45 = .ok (.invokestatic 47, 3) := by decide +kernel
theorem d3_48 : decode jdk_42_method_149_code 48 = .ok (.putfield 15, 3) := by decide +kernel
theorem d3_51 : decode jdk_42_method_149_code 51 = .ok (.aload_n 0, 1) := by decide +kernel
theorem d3_52 : decode jdk_42_method_149_code 52 = .ok (.aload 5, 2) := by decide +kernel
theorem d3_54 : decode jdk_42_method_149_code 54 = .ok (.putfield 9, 3) := by decide +kernel
theorem d3_57 : decode jdk_42_method_149_code 57 = .ok (.return_, 1) := by decide +kernel
theorem pn_3 : plainFor (⟨"java/lang/String", "<init>", "([CIILjava/lang/Void;)V"⟩ : MethodName) = true := plainFor_of_name (by first | (simp [plainName, overriddenIn]; done) | decide +kernel)
theorem pd___BI_B : parseMethodDescriptor "([BI)B" = some ⟨[(.array .byte), .int], some .byte⟩ := by decide +kernel
theorem ef_con_si4 (m : MethodId) (t a : Addr) (cs : List Int32) (us : List Value) (cz : Int32) (uv uc : Value)  : entryFrame m #[(.ref t), (.ref a), (.int (0 : Int32)), (.int (Int32.ofNat cs.length)), .null] 6 = mkF m 0 #[.val (.ref t), .val (.ref a), .val (.int (0 : Int32)), .val (.int (Int32.ofNat cs.length)), .val .null, .unset] [] := by first | (simp [entryFrame, mkF, argsToLocals, Value.category]; done) | rfl
set_option maxRecDepth 65536 in
set_option maxHeartbeats 40000000 in
theorem con_si4 (l : Launch) (Z : State) (a0 : Array Value) (hw : ∀ d ∈ tables_1, d.before a0 Z = true) (n0 : Nat) (h0 : Heap) (Z0 : n0 ≤ h0.size) (t a : Addr) (cs : List Int32) (us : List Value) (cz : Int32) (uv uc : Value) (od0 : Old Z n0 h0) (SD : Sta Z Z.heap "java/lang/StringUTF16" "$assertionsDisabled" "Z" (.int (1 : Int32))) (SH8 : Sta Z Z.heap "java/lang/StringUTF16" "HI_BYTE_SHIFT" "I" (.int (0 : Int32))) (SL8 : Sta Z Z.heap "java/lang/StringUTF16" "LO_BYTE_SHIFT" "I" (.int (8 : Int32))) (SZ : Sta Z Z.heap "java/lang/String" "COMPACT_STRINGS" "Z" (.int cz)) (hcz : ¬ cz = 0) (E1 : Exa Z h0 t "java/lang/String") (FV : Fld Z h0 t "java/lang/String" "value" "[B" uv) (FC : Fld Z h0 t "java/lang/String" "coder" "B" uc) (gt : n0 ≤ t) (AC : Ary Z h0 a .char (cs.map Value.int ++ us)) (hne : cs ≠ []) (hn : cs.length ≤ 2) (hch : own_chr cs) (hta : t ≠ a) :
    Con l Z n0 (⟨"java/lang/String", "<init>", "([CIILjava/lang/Void;)V"⟩ : MethodName) jdk_42_method_149_code 6 none ({ frames := 4, cells := 2, slots := 6, locals := 57 } : Room) #[(.ref t), (.ref a), (.int (0 : Int32)), (.int (Int32.ofNat cs.length)), .null] h0 (Vd fun h' => ∃ b, h0.size ≤ b ∧ Keep h0 h' [t] ∧ Exa Z h' t "java/lang/String" ∧ Fld Z h' t "java/lang/String" "value" "[B" (.ref b) ∧ Fld Z h' t "java/lang/String" "coder" "B" (.int (own_coder cs)) ∧ Ary Z h' b .byte (own_enc cs)) := by
  refine Con.of_run pn_3 (fun m => ef_con_si4 m t a cs us cz uv uc ) ?_
  refine Run.aloadN d3_0 rfl rfl (pc' := 1) rfl ?_
  refine Run.initO d3_1 (hw _ (List.mem_of_getElem? (i := 16) rfl)) (hw _ (List.mem_of_getElem? (i := 17) rfl)) (hw _ (List.mem_of_getElem? (i := 18) rfl)) rfl (by decide) (by show (0 : Nat) + 12 ≤ _; decide) (pc' := 4) rfl ?_
  refine Run.iloadN d3_4 rfl (pc' := 5) rfl ?_
  refine Run.if_ne d3_5 (by decide) (pc' := 27) (by decide) (pa := 8) rfl (fun hc5 => ?_) (fun hc5 => ?_)
  · -- pc 5 taken: ¬ (Int32.ofNat cs.length) = (0 : Int32)
    refine Run.getS d3_27 (host := "") (Or.inl (hw _ (List.mem_of_getElem? (i := 19) rfl))) Via.refl (SZ.ext od0.2) (pc' := 30) rfl ?_
    refine Run.if_eq d3_30 (by decide) (pc' := 58) (by decide) (pa := 33) rfl (fun hc30 => ?_) (fun hc30 => ?_)
    · -- pc 30 taken: cz = (0 : Int32)
      exact absurd hc30 hcz
    · -- pc 30 not taken: ¬ cz = (0 : Int32)
      refine Run.aloadN d3_33 rfl rfl (pc' := 34) rfl ?_
      refine Run.iloadN d3_34 rfl (pc' := 35) rfl ?_
      refine Run.iloadN d3_35 rfl (pc' := 36) rfl ?_
      refine Run.callS (k' := 2) (n' := 6) (as := [(.ref a), (.int (0 : Int32)), (.int (Int32.ofNat cs.length))]) (rest := []) (con_cmp3 l Z a0 hw n0 h0 Z0 a cs us od0 SD SH8 SL8 AC hn hch) d3_36 (hw _ (List.mem_of_getElem? (i := 20) rfl)) (hw _ (List.mem_of_getElem? (i := 21) rfl)) (hw _ (List.mem_of_getElem? (i := 22) rfl)) (hw _ (List.mem_of_getElem? (i := 23) rfl)) (by decide) pd___CII__B rfl rfl rfl (by decide) (by show (0 : Nat) + (6 + 11) + 40 ≤ _; decide) (by decide) (by decide) (by decide) (by decide) (pc' := 39) rfl ?_
      rintro _ h11 ⟨_, rfl, ⟨b11, rfl, bw11, E11, P11⟩⟩
      show Run l Z n0 "java/lang/String" jdk_42_method_149_code 6 none "<init>" ({ frames := 4, cells := 2, slots := 6, locals := 57 } : Room) _ 39 #[.val (.ref t), .val (.ref a), .val (.int (0 : Int32)), .val (.int (Int32.ofNat cs.length)), .val .null, .unset] [(.ref b11)] h11 2 6
      have ge_b11 : n0 ≤ b11 := Nat.le_trans Z0 bw11
      have bo_b11 : h0.size ≤ b11 := Nat.le_trans (Keep.refl h0 [t]).1 bw11
      have ne_t_b11 : t ≠ b11 := Nat.ne_of_lt (Nat.lt_of_lt_of_le E1.lt bw11)
      have ne_a_b11 : a ≠ b11 := Nat.ne_of_lt (Nat.lt_of_lt_of_le AC.lt bw11)
      have E_t_11 := E1.ext E11
      have F_t_value_11 := FV.ext E11
      have F_t_coder_11 := FC.ext E11
      have A_a_11 := AC.ext E11
      have sz11 : n0 ≤ h11.size := Nat.le_trans Z0 E11.1
      have kp11 := Keep.ext (Keep.refl h0 [t]) E11
      have od11 := od0.ext E11
      refine Run.astore (l' := #[.val (.ref t), .val (.ref a), .val (.int (0 : Int32)), .val (.int (Int32.ofNat cs.length)), .val .null, .val (.ref b11)]) d3_39 rfl rfl (pc' := 41) rfl ?_
      refine Run.aloadN d3_41 rfl rfl (pc' := 42) rfl ?_
      refine Run.aload d3_42 rfl rfl (pc' := 44) rfl ?_
      refine Run.iloadN d3_44 rfl (pc' := 45) rfl ?_
      refine Run.callS (k' := 2) (n' := 6) (as := [(.ref b11), (.int (Int32.ofNat cs.length))]) (rest := [(.ref t)]) (con_cfal l Z a0 hw n0 h11 sz11  b11 cs P11 hne hn) d3_45 (hw _ (List.mem_of_getElem? (i := 28) rfl)) (hw _ (List.mem_of_getElem? (i := 29) rfl)) (hw _ (List.mem_of_getElem? (i := 22) rfl)) (hw _ (List.mem_of_getElem? (i := 30) rfl)) (by decide) pd___BI_B rfl rfl rfl (by decide) (by show (1 : Nat) + (2 + 11) + 0 ≤ _; decide) (by decide) (by decide) (by decide) (by decide) (pc' := 48) rfl ?_
      rintro _ _ ⟨_, rfl, rfl, rfl⟩
      show Run l Z n0 "java/lang/String" jdk_42_method_149_code 6 none "<init>" ({ frames := 4, cells := 2, slots := 6, locals := 57 } : Room) _ 48 #[.val (.ref t), .val (.ref a), .val (.int (0 : Int32)), .val (.int (Int32.ofNat cs.length)), .val .null, .val (.ref b11)] [(.int (own_coder cs)), (.ref t)] h11 2 6
      refine Run.putFN d3_48 (hw _ (List.mem_of_getElem? (i := 31) rfl)) Via.refl F_t_coder_11 E_t_11 (Or.inr ⟨(hw _ (List.mem_of_getElem? (i := 32) rfl)), rfl, rfl⟩) (hw _ (List.mem_of_getElem? (i := 6) rfl)) (ty := .byte) (v' := (.int (own_coder cs))) (by decide) (own_codn cs).1 (own_codn cs).2 gt (pc' := 51) rfl ?_
      intro h12 W12
      have Fw12 := F_t_coder_11.same W12
      have E_t_12 := E_t_11.wr W12
      have F_t_value_12 := F_t_value_11.other W12 (Or.inr (slot_ne (Or.inr (hw _ (List.mem_of_getElem? (i := 34) rfl))) (Or.inr (hw _ (List.mem_of_getElem? (i := 32) rfl))) (by decide) (t := (.array .byte)) (t' := .byte) (by decide) (by decide)))
      have A_a_12 := A_a_11.other W12 hta.symm
      have A_b11_12 := P11.other W12 (Ne.symm ne_t_b11)
      have sz12 : n0 ≤ h12.size := by rw [W12.size]; exact sz11
      have kp12 := Keep.wr kp11 W12 (Or.inl (List.mem_of_getElem? (i := 0) rfl))
      have od12 := od11.wr W12 gt
      refine Run.aloadN d3_51 rfl rfl (pc' := 52) rfl ?_
      refine Run.aload d3_52 rfl rfl (pc' := 54) rfl ?_
      refine Run.putF d3_54 (host := "") (Or.inl (hw _ (List.mem_of_getElem? (i := 33) rfl))) Via.refl F_t_value_12 E_t_12 (Or.inr ⟨(hw _ (List.mem_of_getElem? (i := 34) rfl)), rfl, rfl⟩) (hw _ (List.mem_of_getElem? (i := 6) rfl)) (ty := (.array .byte)) (by decide) (go_narref rfl rfl) rfl gt (pc' := 57) rfl ?_
      intro h13 W13
      have Fw13 := F_t_value_12.same W13
      have E_t_13 := E_t_12.wr W13
      have A_a_13 := A_a_12.other W13 hta.symm
      have A_b11_13 := A_b11_12.other W13 (Ne.symm ne_t_b11)
      have F_t_coder_13 := Fw12.other W13 (Or.inr (slot_ne (Or.inr (hw _ (List.mem_of_getElem? (i := 32) rfl))) (Or.inr (hw _ (List.mem_of_getElem? (i := 34) rfl))) (by decide) (t := .byte) (t' := (.array .byte)) (by decide) (by decide)))
      have sz13 : n0 ≤ h13.size := by rw [W13.size]; exact sz12
      have kp13 := Keep.wr kp12 W13 (Or.inl (List.mem_of_getElem? (i := 0) rfl))
      have od13 := od12.wr W13 gt
      exact Run.vreturn d3_57 rfl (by decide) (by decide) ⟨rfl, b11, bo_b11, kp13, E_t_13, Fw13, F_t_coder_13, A_b11_13⟩
  · -- pc 5 not taken: (Int32.ofNat cs.length) = (0 : Int32)
    exact absurd hc5 (own_pos hne (by omega))
theorem own_codb (cs : List Int32) : nar .byte (own_coder cs) = own_coder cs := by unfold own_coder; split <;> decide
def own_isl (cs : List Int32) : Int32 := if own_coder cs = 0 then 1 else 0
theorem own_cod0 {cs : List Int32} (h : own_coder cs = 0) : own_pfx cs = cs.length := by unfold own_coder at h; split at h; assumption; exact absurd h (by decide)
theorem own_cod1 {cs : List Int32} (h : ¬ own_coder cs = 0) : ¬ own_pfx cs = cs.length := fun e => h (by unfold own_coder; rw [if_pos e])
theorem own_isl0 {cs : List Int32} (h : own_isl cs = 0) : ¬ own_pfx cs = cs.length := by unfold own_isl at h; split at h; exact absurd h (by decide); rename_i q; exact own_cod1 q
theorem own_isl1 {cs : List Int32} (h : ¬ own_isl cs = 0) : own_pfx cs = cs.length := by unfold own_isl at h; split at h; rename_i q; exact own_cod0 q; exact absurd rfl h
theorem own_lenshr {cs : List Int32} (h : cs.length < 2 ^ 29) : Int32.ofNat (own_enc cs).length >>> (own_coder cs &&& 31) = Int32.ofNat cs.length := by
  rw [own_enc_len]; unfold own_coder; split
  · exact own_shr0 _
  · exact own_shr1 (by omega)
theorem own_encP {cs : List Int32} (h : own_pfx cs = cs.length) : own_enc cs = own_by cs := by unfold own_enc; rw [if_pos h]
theorem own_encN {cs : List Int32} (h : ¬ own_pfx cs = cs.length) : own_enc cs = own_u16 cs := by unfold own_enc; rw [if_neg h]
theorem d11_0 : decode jdk_42_method_152_code 0 = .ok (.getstatic 38, 3) := by decide +kernel
theorem d11_3 : decode jdk_42_method_152_code 3 = .ok (.ifCond .eq 10, 3) := by decide +kernel
theorem d11_6 : decode jdk_42_method_152_code 6 = .ok (.aload_n 0, 1) := by decide +kernel
theorem d11_7 : decode jdk_42_method_152_code 7 = .ok (.getfield 15, 3) := by decide +kernel
theorem d11_10 : decode jdk_42_method_152_code 10 = .ok (.goto 4, 3) := by decide +kernel
theorem d11_13 : decode jdk_42_method_152_code 13 = .ok (.iconst 1, 1) := by decide +kernel
theorem d11_14 : decode jdk_42_method_152_code 14 = .ok (.ireturn, 1) := by decide +kernel
theorem pn_11 : plainFor (⟨"java/lang/String", "coder", "()B"⟩ : MethodName) = true := plainFor_of_name (by first | (simp [plainName, overriddenIn]; done) | decide +kernel)
theorem ef_con_cod (m : MethodId) (t : Addr) (cs : List Int32) (cz : Int32)  : entryFrame m #[(.ref t)] 1 = mkF m 0 #[.val (.ref t)] [] := by first | (simp [entryFrame, mkF, argsToLocals, Value.category]; done) | rfl
set_option maxRecDepth 65536 in
set_option maxHeartbeats 40000000 in
theorem con_cod (l : Launch) (Z : State) (a0 : Array Value) (hw : ∀ d ∈ tables_1, d.before a0 Z = true) (n0 : Nat) (h0 : Heap) (Z0 : n0 ≤ h0.size) (t : Addr) (cs : List Int32) (cz : Int32) (od0 : Old Z n0 h0) (SZ : Sta Z Z.heap "java/lang/String" "COMPACT_STRINGS" "Z" (.int cz)) (hcz : ¬ cz = 0) (FC : Fld Z h0 t "java/lang/String" "coder" "B" (.int (own_coder cs))) :
    Con l Z n0 (⟨"java/lang/String", "coder", "()B"⟩ : MethodName) jdk_42_method_152_code 1 (some .byte) ({ frames := 0, cells := 0, slots := 0, locals := 0 } : Room) #[(.ref t)] h0 (Val (PV (.int (own_coder cs)) h0)) := by
  refine Con.of_run pn_11 (fun m => ef_con_cod m t cs cz ) ?_
  refine Run.getS d11_0 (host := "") (Or.inl (hw _ (List.mem_of_getElem? (i := 19) rfl))) Via.refl (SZ.ext od0.2) (pc' := 3) rfl ?_
  refine Run.if_eq d11_3 (by decide) (pc' := 13) (by decide) (pa := 6) rfl (fun hc3 => ?_) (fun hc3 => ?_)
  · -- pc 3 taken: cz = (0 : Int32)
    exact absurd hc3 hcz
  · -- pc 3 not taken: ¬ cz = (0 : Int32)
    refine Run.aloadN d11_6 rfl rfl (pc' := 7) rfl ?_
    refine Run.getF d11_7 (host := "") (Or.inl (hw _ (List.mem_of_getElem? (i := 31) rfl))) Via.refl FC (pc' := 10) rfl ?_
    refine Run.goto d11_10 (by decide) (pc' := 14) (by decide) ?_
    exact Run.nreturn d11_14 (ty := .byte) rfl (by simp) (by decide) (by decide) ⟨_, rfl, congrArg Value.int (own_codb cs).symm, rfl⟩
theorem d10_0 : decode jdk_42_method_54_code 0 = .ok (.aload_n 0, 1) := by decide +kernel
theorem d10_1 : decode jdk_42_method_54_code 1 = .ok (.getfield 9, 3) := by decide +kernel
theorem d10_4 : decode jdk_42_method_54_code 4 = .ok (.arraylength, 1) := by decide +kernel
theorem d10_5 : decode jdk_42_method_54_code 5 = .ok (.aload_n 0, 1) := by decide +kernel
theorem d10_6 : decode jdk_42_method_54_code 6 = .ok (.invokevirtual 335, 3) := by decide +kernel
theorem d10_9 : decode jdk_42_method_54_code 9 = .ok (.ishr, 1) := by decide +kernel
theorem d10_10 : decode jdk_42_method_54_code 10 = .ok (.ireturn, 1) := by decide +kernel
theorem pn_10 : plainFor (⟨"java/lang/String", "length", "()I"⟩ : MethodName) = true := plainFor_of_name (by first | (simp [plainName, overriddenIn]; done) | decide +kernel)
theorem pd___B : parseMethodDescriptor "()B" = some ⟨[], some .byte⟩ := by decide +kernel
theorem ef_con_len (m : MethodId) (t b : Addr) (cs : List Int32) (cz : Int32)  : entryFrame m #[(.ref t)] 1 = mkF m 0 #[.val (.ref t)] [] := by first | (simp [entryFrame, mkF, argsToLocals, Value.category]; done) | rfl
set_option maxRecDepth 65536 in
set_option maxHeartbeats 40000000 in
theorem con_len (l : Launch) (Z : State) (a0 : Array Value) (hw : ∀ d ∈ tables_1, d.before a0 Z = true) (n0 : Nat) (h0 : Heap) (Z0 : n0 ≤ h0.size) (t b : Addr) (cs : List Int32) (cz : Int32) (od0 : Old Z n0 h0) (SZ : Sta Z Z.heap "java/lang/String" "COMPACT_STRINGS" "Z" (.int cz)) (hcz : ¬ cz = 0) (E1 : Exa Z h0 t "java/lang/String") (FV : Fld Z h0 t "java/lang/String" "value" "[B" (.ref b)) (FC : Fld Z h0 t "java/lang/String" "coder" "B" (.int (own_coder cs))) (AB : Ary Z h0 b .byte (own_enc cs)) (hn : cs.length ≤ 2) :
    Con l Z n0 (⟨"java/lang/String", "length", "()I"⟩ : MethodName) jdk_42_method_54_code 1 (some .int) ({ frames := 1, cells := 0, slots := 0, locals := 13 } : Room) #[(.ref t)] h0 (Val (PV (.int (Int32.ofNat cs.length)) h0)) := by
  refine Con.of_run pn_10 (fun m => ef_con_len m t b cs cz ) ?_
  refine Run.aloadN d10_0 rfl rfl (pc' := 1) rfl ?_
  refine Run.getF d10_1 (host := "") (Or.inl (hw _ (List.mem_of_getElem? (i := 33) rfl))) Via.refl FV (pc' := 4) rfl ?_
  refine Run.alen (z := (Int32.ofNat (own_enc cs).length)) d10_4 AB rfl (pc' := 5) rfl ?_
  refine Run.aloadN d10_5 rfl rfl (pc' := 6) rfl ?_
  refine Run.callV (k' := 0) (n' := 0) (a := t) (as := []) (rest := [(.int (Int32.ofNat (own_enc cs).length))]) (con_cod l Z a0 hw n0 h0 Z0 t cs cz od0 SZ hcz FC ) E1 d10_6 (hw _ (List.mem_of_getElem? (i := 50) rfl)) (hw _ (List.mem_of_getElem? (i := 51) rfl)) (fun s hZ => notFace_of_selects (args := #[]) (mvT hZ (hw _ (List.mem_of_getElem? (i := 53) rfl)))) (hw _ (List.mem_of_getElem? (i := 53) rfl)) (hw _ (List.mem_of_getElem? (i := 52) rfl)) (hw _ (List.mem_of_getElem? (i := 7) rfl)) (hw _ (List.mem_of_getElem? (i := 54) rfl)) (by decide) pd___B rfl rfl rfl (by decide) (by show (1 : Nat) + (1 + 11) + 0 ≤ _; decide) (by decide) (by decide) (by decide) (by decide) (pc' := 9) rfl ?_
  rintro _ _ ⟨_, rfl, rfl, rfl⟩
  show Run l Z n0 "java/lang/String" jdk_42_method_54_code 1 (some .int) "length" ({ frames := 1, cells := 0, slots := 0, locals := 13 } : Room) _ 9 #[.val (.ref t)] [(.int (own_coder cs)), (.int (Int32.ofNat (own_enc cs).length))] h0 0 0
  refine Run.ishr d10_9 (pc' := 10) rfl ?_
  exact Run.ireturn d10_10 rfl (by decide) (by decide) ⟨_, rfl, congrArg Value.int (own_lenshr (by omega)).symm, rfl⟩
theorem d26_0 : decode jdk_41_method_11_code 0 = .ok (.iload_n 0, 1) := by decide +kernel
theorem d26_1 : decode jdk_41_method_11_code 1 = .ok (.ifCond .lt 8, 3) := by decide +kernel
theorem d26_4 : decode jdk_41_method_11_code 4 = .ok (.iload_n 0, 1) := by decide +kernel
theorem d26_5 : decode jdk_41_method_11_code 5 = .ok (.iload_n 1, 1) := by decide +kernel
theorem d26_6 : decode jdk_41_method_11_code 6 = .ok (.if_icmp .lt 10, 3) := by decide +kernel
theorem d26_16 : decode jdk_41_method_11_code 16 = .ok (.iload_n 0, 1) := by decide +kernel
theorem d26_17 : decode jdk_41_method_11_code 17 = .ok (.ireturn, 1) := by decide +kernel
theorem pn_26 : plainFor (⟨"jdk/internal/util/Preconditions", "checkIndex", "(IILjava/util/function/BiFunction;)I"⟩ : MethodName) = true := plainFor_of_name (by first | (simp [plainName, overriddenIn]; done) | decide +kernel)
theorem ef_con_pci (m : MethodId) (i n : Int32) (u : Value) (hr_u : u.isRef = true) : entryFrame m #[(.int i), (.int n), u] 3 = mkF m 0 #[.val (.int i), .val (.int n), .val u] [] := by rcases XT.refc hr_u with rfl | ⟨r_u, rfl⟩ <;> first | (simp [entryFrame, mkF, argsToLocals, Value.category]; done) | rfl
set_option maxRecDepth 65536 in
set_option maxHeartbeats 40000000 in
theorem con_pci (l : Launch) (Z : State) (a0 : Array Value) (hw : ∀ d ∈ tables_1, d.before a0 Z = true) (n0 : Nat) (h0 : Heap) (Z0 : n0 ≤ h0.size) (i n : Int32) (u : Value) (hu : u.isRef = true) (g0 : ¬ i < 0) (g1 : i < n) :
    Con l Z n0 (⟨"jdk/internal/util/Preconditions", "checkIndex", "(IILjava/util/function/BiFunction;)I"⟩ : MethodName) jdk_41_method_11_code 3 (some .int) ({ frames := 0, cells := 0, slots := 0, locals := 0 } : Room) #[(.int i), (.int n), u] h0 (Val (PV (.int i) h0)) := by
  refine Con.of_run pn_26 (fun m => ef_con_pci m i n u hu) ?_
  refine Run.iloadN d26_0 rfl (pc' := 1) rfl ?_
  refine Run.if_lt d26_1 (by decide) (pc' := 9) (by decide) (pa := 4) rfl (fun hc1 => ?_) (fun hc1 => ?_)
  · -- pc 1 taken: i < (0 : Int32)
    exact absurd hc1 g0
  · -- pc 1 not taken: ¬ i < (0 : Int32)
    refine Run.iloadN d26_4 rfl (pc' := 5) rfl ?_
    refine Run.iloadN d26_5 rfl (pc' := 6) rfl ?_
    refine Run.icmp_lt d26_6 (by decide) (pc' := 16) (by decide) (pa := 9) rfl (fun hc6 => ?_) (fun hc6 => ?_)
    · -- pc 6 taken: i < n
      refine Run.iloadN d26_16 rfl (pc' := 17) rfl ?_
      exact Run.ireturn d26_17 rfl (by decide) (by decide) ⟨_, rfl, rfl, rfl⟩
    · -- pc 6 not taken: ¬ i < n
      exact absurd g1 hc6
theorem d25_0 : decode jdk_42_method_155_code 0 = .ok (.iload_n 0, 1) := by decide +kernel
theorem d25_1 : decode jdk_42_method_155_code 1 = .ok (.iload_n 1, 1) := by decide +kernel
theorem d25_2 : decode jdk_42_method_155_code 2 = .ok (.getstatic 1053, 3) := by decide +kernel
theorem d25_5 : decode jdk_42_method_155_code 5 = .ok (.invokestatic 1059, 3) := by decide +kernel
theorem d25_8 : decode jdk_42_method_155_code 8 = .ok (.pop, 1) := by decide +kernel
theorem d25_9 : decode jdk_42_method_155_code 9 = .ok (.return_, 1) := by decide +kernel
theorem pn_25 : plainFor (⟨"java/lang/String", "checkIndex", "(II)V"⟩ : MethodName) = true := plainFor_of_name (by first | (simp [plainName, overriddenIn]; done) | decide +kernel)
theorem pd__IILjava_util_function_BiFunction__I : parseMethodDescriptor "(IILjava/util/function/BiFunction;)I" = some ⟨[.int, .int, (.object "java/util/function/BiFunction")], some .int⟩ := by decide +kernel
theorem ef_con_sci (m : MethodId) (i n : Int32) (fm : Value)  : entryFrame m #[(.int i), (.int n)] 2 = mkF m 0 #[.val (.int i), .val (.int n)] [] := by first | (simp [entryFrame, mkF, argsToLocals, Value.category]; done) | rfl
set_option maxRecDepth 65536 in
set_option maxHeartbeats 40000000 in
theorem con_sci (l : Launch) (Z : State) (a0 : Array Value) (hw : ∀ d ∈ tables_1, d.before a0 Z = true) (n0 : Nat) (h0 : Heap) (Z0 : n0 ≤ h0.size) (i n : Int32) (fm : Value) (od0 : Old Z n0 h0) (SF : Sta Z Z.heap "jdk/internal/util/Preconditions" "SIOOBE_FORMATTER" "Ljava/util/function/BiFunction;" fm) (hfm : fm.isRef = true) (g0 : ¬ i < 0) (g1 : i < n) :
    Con l Z n0 (⟨"java/lang/String", "checkIndex", "(II)V"⟩ : MethodName) jdk_42_method_155_code 2 none ({ frames := 1, cells := 0, slots := 0, locals := 14 } : Room) #[(.int i), (.int n)] h0 (Vd fun h' => h0 = h') := by
  refine Con.of_run pn_25 (fun m => ef_con_sci m i n fm ) ?_
  refine Run.iloadN d25_0 rfl (pc' := 1) rfl ?_
  refine Run.iloadN d25_1 rfl (pc' := 2) rfl ?_
  refine Run.getS d25_2 (host := "") (Or.inl (hw _ (List.mem_of_getElem? (i := 109) rfl))) Via.refl (SF.ext od0.2) (pc' := 5) rfl ?_
  refine Run.callS (k' := 0) (n' := 0) (as := [(.int i), (.int n), fm]) (rest := []) (con_pci l Z a0 hw n0 h0 Z0 i n fm hfm g0 g1 ) d25_5 (hw _ (List.mem_of_getElem? (i := 111) rfl)) (hw _ (List.mem_of_getElem? (i := 112) rfl)) (hw _ (List.mem_of_getElem? (i := 110) rfl)) (hw _ (List.mem_of_getElem? (i := 113) rfl)) (by decide) pd__IILjava_util_function_BiFunction__I rfl rfl rfl (by decide) (by show (0 : Nat) + (3 + 11) + 0 ≤ _; decide) (by decide) (by decide) (by decide) (by decide) (pc' := 8) rfl ?_
  rintro _ _ ⟨_, rfl, rfl, rfl⟩
  show Run l Z n0 "java/lang/String" jdk_42_method_155_code 2 none "checkIndex" ({ frames := 1, cells := 0, slots := 0, locals := 14 } : Room) _ 8 #[.val (.int i), .val (.int n)] [(.int i)] h0 0 0
  refine Run.pop d25_8 rfl (pc' := 9) rfl ?_
  exact Run.vreturn d25_9 rfl (by decide) (by decide) ⟨rfl, rfl⟩
theorem d21_0 : decode jdk_42_method_154_code 0 = .ok (.getstatic 38, 3) := by decide +kernel
theorem d21_3 : decode jdk_42_method_154_code 3 = .ok (.ifCond .eq 14, 3) := by decide +kernel
theorem d21_6 : decode jdk_42_method_154_code 6 = .ok (.aload_n 0, 1) := by decide +kernel
theorem d21_7 : decode jdk_42_method_154_code 7 = .ok (.getfield 15, 3) := by decide +kernel
theorem d21_10 : decode jdk_42_method_154_code 10 = .ok (.ifCond .ne 7, 3) := by decide +kernel
theorem d21_13 : decode jdk_42_method_154_code 13 = .ok (.iconst 1, 1) := by decide +kernel
theorem d21_14 : decode jdk_42_method_154_code 14 = .ok (.goto 4, 3) := by decide +kernel
theorem d21_17 : decode jdk_42_method_154_code 17 = .ok (.iconst 0, 1) := by decide +kernel
theorem d21_18 : decode jdk_42_method_154_code 18 = .ok (.ireturn, 1) := by decide +kernel
theorem pn_21 : plainFor (⟨"java/lang/String", "isLatin1", "()Z"⟩ : MethodName) = true := plainFor_of_name (by first | (simp [plainName, overriddenIn]; done) | decide +kernel)
theorem ef_con_isl (m : MethodId) (t : Addr) (cs : List Int32) (cz : Int32)  : entryFrame m #[(.ref t)] 1 = mkF m 0 #[.val (.ref t)] [] := by first | (simp [entryFrame, mkF, argsToLocals, Value.category]; done) | rfl
set_option maxRecDepth 65536 in
set_option maxHeartbeats 40000000 in
theorem con_isl (l : Launch) (Z : State) (a0 : Array Value) (hw : ∀ d ∈ tables_1, d.before a0 Z = true) (n0 : Nat) (h0 : Heap) (Z0 : n0 ≤ h0.size) (t : Addr) (cs : List Int32) (cz : Int32) (od0 : Old Z n0 h0) (SZ : Sta Z Z.heap "java/lang/String" "COMPACT_STRINGS" "Z" (.int cz)) (hcz : ¬ cz = 0) (FC : Fld Z h0 t "java/lang/String" "coder" "B" (.int (own_coder cs))) :
    Con l Z n0 (⟨"java/lang/String", "isLatin1", "()Z"⟩ : MethodName) jdk_42_method_154_code 1 (some .boolean) ({ frames := 0, cells := 0, slots := 0, locals := 0 } : Room) #[(.ref t)] h0 (Val (PV (.int (own_isl cs)) h0)) := by
  refine Con.of_run pn_21 (fun m => ef_con_isl m t cs cz ) ?_
  refine Run.getS d21_0 (host := "") (Or.inl (hw _ (List.mem_of_getElem? (i := 19) rfl))) Via.refl (SZ.ext od0.2) (pc' := 3) rfl ?_
  refine Run.if_eq d21_3 (by decide) (pc' := 17) (by decide) (pa := 6) rfl (fun hc3 => ?_) (fun hc3 => ?_)
  · -- pc 3 taken: cz = (0 : Int32)
    exact absurd hc3 hcz
  · -- pc 3 not taken: ¬ cz = (0 : Int32)
    refine Run.aloadN d21_6 rfl rfl (pc' := 7) rfl ?_
    refine Run.getF d21_7 (host := "") (Or.inl (hw _ (List.mem_of_getElem? (i := 31) rfl))) Via.refl FC (pc' := 10) rfl ?_
    refine Run.if_ne d21_10 (by decide) (pc' := 17) (by decide) (pa := 13) rfl (fun hc10 => ?_) (fun hc10 => ?_)
    · -- pc 10 taken: ¬ (own_coder cs) = (0 : Int32)
      refine Run.iconst (0 : Int32) d21_17 (by decide) (pc' := 18) rfl ?_
      exact Run.nreturn d21_18 (ty := .boolean) rfl (by simp) (by decide) (by decide) ⟨_, rfl, congrArg Value.int (by unfold own_isl; rw [if_neg hc10] <;> rfl), rfl⟩
    · -- pc 10 not taken: (own_coder cs) = (0 : Int32)
      refine Run.iconst (1 : Int32) d21_13 (by decide) (pc' := 14) rfl ?_
      refine Run.goto d21_14 (by decide) (pc' := 18) (by decide) ?_
      exact Run.nreturn d21_18 (ty := .boolean) rfl (by simp) (by decide) (by decide) ⟨_, rfl, congrArg Value.int (by unfold own_isl; rw [if_pos hc10] <;> rfl), rfl⟩
theorem d31_0 : decode jdk_43_method_2_code 0 = .ok (.iload_n 1, 1) := by decide +kernel
theorem d31_1 : decode jdk_43_method_2_code 1 = .ok (.aload_n 0, 1) := by decide +kernel
theorem d31_2 : decode jdk_43_method_2_code 2 = .ok (.arraylength, 1) := by decide +kernel
theorem d31_3 : decode jdk_43_method_2_code 3 = .ok (.invokestatic 9, 3) := by decide +kernel
theorem d31_6 : decode jdk_43_method_2_code 6 = .ok (.aload_n 0, 1) := by decide +kernel
theorem d31_7 : decode jdk_43_method_2_code 7 = .ok (.iload_n 1, 1) := by decide +kernel
theorem d31_8 : decode jdk_43_method_2_code 8 = .ok (.baload, 1) := by decide +kernel
theorem d31_9 : decode jdk_43_method_2_code 9 = .ok (.sipush 255, 3) := by decide +kernel
theorem d31_12 : decode jdk_43_method_2_code 12 = .ok (.iand, 1) := by decide +kernel
theorem d31_13 : decode jdk_43_method_2_code 13 = .ok (.i2c, 1) := by decide +kernel
theorem d31_14 : decode jdk_43_method_2_code 14 = .ok (.ireturn, 1) := by decide +kernel
theorem pn_31 : plainFor (⟨"java/lang/StringLatin1", "charAt", "([BI)C"⟩ : MethodName) = true := plainFor_of_name (by first | (simp [plainName, overriddenIn]; done) | decide +kernel)
theorem pd__II_V : parseMethodDescriptor "(II)V" = some ⟨[.int, .int], none⟩ := by decide +kernel
theorem ef_con_lca (m : MethodId) (b : Addr) (cs : List Int32) (i : Nat) (fm : Value)  : entryFrame m #[(.ref b), (.int (Int32.ofNat i))] 2 = mkF m 0 #[.val (.ref b), .val (.int (Int32.ofNat i))] [] := by first | (simp [entryFrame, mkF, argsToLocals, Value.category]; done) | rfl
set_option maxRecDepth 65536 in
set_option maxHeartbeats 40000000 in
theorem con_lca (l : Launch) (Z : State) (a0 : Array Value) (hw : ∀ d ∈ tables_1, d.before a0 Z = true) (n0 : Nat) (h0 : Heap) (Z0 : n0 ≤ h0.size) (b : Addr) (cs : List Int32) (i : Nat) (fm : Value) (od0 : Old Z n0 h0) (SF : Sta Z Z.heap "jdk/internal/util/Preconditions" "SIOOBE_FORMATTER" "Ljava/util/function/BiFunction;" fm) (hfm : fm.isRef = true) (AB : Ary Z h0 b .byte (own_by cs)) (hp : own_pfx cs = cs.length) (hi : i < cs.length) (hn : cs.length ≤ 2) (hch : own_chr cs) :
    Con l Z n0 (⟨"java/lang/StringLatin1", "charAt", "([BI)C"⟩ : MethodName) jdk_43_method_2_code 2 (some .char) ({ frames := 2, cells := 0, slots := 0, locals := 27 } : Room) #[(.ref b), (.int (Int32.ofNat i))] h0 (Val (PV (.int (cs.getD i 0)) h0)) := by
  refine Con.of_run pn_31 (fun m => ef_con_lca m b cs i fm ) ?_
  refine Run.iloadN d31_0 rfl (pc' := 1) rfl ?_
  refine Run.aloadN d31_1 rfl rfl (pc' := 2) rfl ?_
  refine Run.alen (z := (Int32.ofNat cs.length)) d31_2 AB (by rw [show (own_by cs).length = cs.length by simp [own_by]] <;> rfl) (pc' := 3) rfl ?_
  refine Run.callS (k' := 0) (n' := 0) (as := [(.int (Int32.ofNat i)), (.int (Int32.ofNat cs.length))]) (rest := []) (con_sci l Z a0 hw n0 h0 Z0 (Int32.ofNat i) (Int32.ofNat cs.length) fm od0 SF hfm (own_nge (by omega)) ((own_lt (by omega) (by omega)).mpr (by omega))) d31_3 (hw _ (List.mem_of_getElem? (i := 132) rfl)) (hw _ (List.mem_of_getElem? (i := 107) rfl)) (hw _ (List.mem_of_getElem? (i := 7) rfl)) (hw _ (List.mem_of_getElem? (i := 108) rfl)) (by decide) pd__II_V rfl rfl rfl (by decide) (by show (0 : Nat) + (2 + 11) + 14 ≤ _; decide) (by decide) (by decide) (by decide) (by decide) (pc' := 6) rfl ?_
  rintro _ _ ⟨rfl, rfl⟩
  show Run l Z n0 "java/lang/StringLatin1" jdk_43_method_2_code 2 (some .char) "charAt" ({ frames := 2, cells := 0, slots := 0, locals := 27 } : Room) _ 6 #[.val (.ref b), .val (.int (Int32.ofNat i))] [] h0 0 0
  refine Run.aloadN d31_6 rfl rfl (pc' := 7) rfl ?_
  refine Run.iloadN d31_7 rfl (pc' := 8) rfl ?_
  refine Run.baload (i := i) (v := (.int (nar .byte (cs.getD i 0)))) d31_8 AB (own_ofn (by omega)) (own_by_get hi) (pc' := 9) rfl ?_
  refine Run.sipush (255 : Int32) d31_9 (by decide) (pc' := 12) rfl ?_
  refine Run.iand d31_12 (pc' := 13) rfl ?_
  refine Run.i2c d31_13 (pc' := 14) rfl ?_
  exact Run.nreturn d31_14 (ty := .char) rfl (by simp) (by decide) (by decide) ⟨_, rfl, congrArg Value.int (own_latc (own_chrD hch hi).1 (own_pfx_all hp hi)).symm, rfl⟩
theorem d24_0 : decode jdk_52_method_6_code 0 = .ok (.aload_n 0, 1) := by decide +kernel
theorem d24_1 : decode jdk_52_method_6_code 1 = .ok (.arraylength, 1) := by decide +kernel
theorem d24_2 : decode jdk_52_method_6_code 2 = .ok (.iconst 1, 1) := by decide +kernel
theorem d24_3 : decode jdk_52_method_6_code 3 = .ok (.ishr, 1) := by decide +kernel
theorem d24_4 : decode jdk_52_method_6_code 4 = .ok (.ireturn, 1) := by decide +kernel
theorem pn_24 : plainFor (⟨"java/lang/StringUTF16", "length", "([B)I"⟩ : MethodName) = true := plainFor_of_name (by first | (simp [plainName, overriddenIn]; done) | decide +kernel)
theorem ef_con_ule (m : MethodId) (b : Addr) (cs : List Int32)  : entryFrame m #[(.ref b)] 1 = mkF m 0 #[.val (.ref b)] [] := by first | (simp [entryFrame, mkF, argsToLocals, Value.category]; done) | rfl
set_option maxRecDepth 65536 in
set_option maxHeartbeats 40000000 in
theorem con_ule (l : Launch) (Z : State) (a0 : Array Value) (hw : ∀ d ∈ tables_1, d.before a0 Z = true) (n0 : Nat) (h0 : Heap) (Z0 : n0 ≤ h0.size) (b : Addr) (cs : List Int32) (AB : Ary Z h0 b .byte (own_u16 cs)) (hn : cs.length ≤ 2) :
    Con l Z n0 (⟨"java/lang/StringUTF16", "length", "([B)I"⟩ : MethodName) jdk_52_method_6_code 1 (some .int) ({ frames := 0, cells := 0, slots := 0, locals := 0 } : Room) #[(.ref b)] h0 (Val (PV (.int (Int32.ofNat cs.length)) h0)) := by
  refine Con.of_run pn_24 (fun m => ef_con_ule m b cs ) ?_
  refine Run.aloadN d24_0 rfl rfl (pc' := 1) rfl ?_
  refine Run.alen (z := (Int32.ofNat (2 * cs.length))) d24_1 AB (by rw [own_u16_len] <;> rfl) (pc' := 2) rfl ?_
  refine Run.iconst (1 : Int32) d24_2 (by decide) (pc' := 3) rfl ?_
  refine Run.ishr d24_3 (pc' := 4) rfl ?_
  exact Run.ireturn d24_4 rfl (by decide) (by decide) ⟨_, rfl, congrArg Value.int (own_shr1 (by omega)).symm, rfl⟩
theorem d23_0 : decode jdk_52_method_91_code 0 = .ok (.iload_n 0, 1) := by decide +kernel
theorem d23_1 : decode jdk_52_method_91_code 1 = .ok (.aload_n 1, 1) := by decide +kernel
theorem d23_2 : decode jdk_52_method_91_code 2 = .ok (.invokestatic 48, 3) := by decide +kernel
theorem d23_5 : decode jdk_52_method_91_code 5 = .ok (.invokestatic 414, 3) := by decide +kernel
theorem d23_8 : decode jdk_52_method_91_code 8 = .ok (.return_, 1) := by decide +kernel
theorem pn_23 : plainFor (⟨"java/lang/StringUTF16", "checkIndex", "(I[B)V"⟩ : MethodName) = true := plainFor_of_name (by first | (simp [plainName, overriddenIn]; done) | decide +kernel)
theorem pd___B_I : parseMethodDescriptor "([B)I" = some ⟨[(.array .byte)], some .int⟩ := by decide +kernel
theorem ef_con_uci (m : MethodId) (b : Addr) (cs : List Int32) (i : Nat) (fm : Value)  : entryFrame m #[(.int (Int32.ofNat i)), (.ref b)] 2 = mkF m 0 #[.val (.int (Int32.ofNat i)), .val (.ref b)] [] := by first | (simp [entryFrame, mkF, argsToLocals, Value.category]; done) | rfl
set_option maxRecDepth 65536 in
set_option maxHeartbeats 40000000 in
theorem con_uci (l : Launch) (Z : State) (a0 : Array Value) (hw : ∀ d ∈ tables_1, d.before a0 Z = true) (n0 : Nat) (h0 : Heap) (Z0 : n0 ≤ h0.size) (b : Addr) (cs : List Int32) (i : Nat) (fm : Value) (od0 : Old Z n0 h0) (SF : Sta Z Z.heap "jdk/internal/util/Preconditions" "SIOOBE_FORMATTER" "Ljava/util/function/BiFunction;" fm) (hfm : fm.isRef = true) (AB : Ary Z h0 b .byte (own_u16 cs)) (hi : i < cs.length) (hn : cs.length ≤ 2) :
    Con l Z n0 (⟨"java/lang/StringUTF16", "checkIndex", "(I[B)V"⟩ : MethodName) jdk_52_method_91_code 2 none ({ frames := 2, cells := 0, slots := 0, locals := 27 } : Room) #[(.int (Int32.ofNat i)), (.ref b)] h0 (Vd fun h' => h0 = h') := by
  refine Con.of_run pn_23 (fun m => ef_con_uci m b cs i fm ) ?_
  refine Run.iloadN d23_0 rfl (pc' := 1) rfl ?_
  refine Run.aloadN d23_1 rfl rfl (pc' := 2) rfl ?_
  refine Run.callS (k' := 0) (n' := 0) (as := [(.ref b)]) (rest := [(.int (Int32.ofNat i))]) (con_ule l Z a0 hw n0 h0 Z0  b cs AB hn) d23_2 (hw _ (List.mem_of_getElem? (i := 103) rfl)) (hw _ (List.mem_of_getElem? (i := 104) rfl)) (hw _ (List.mem_of_getElem? (i := 22) rfl)) (hw _ (List.mem_of_getElem? (i := 105) rfl)) (by decide) pd___B_I rfl rfl rfl (by decide) (by show (1 : Nat) + (1 + 11) + 0 ≤ _; decide) (by decide) (by decide) (by decide) (by decide) (pc' := 5) rfl ?_
  rintro _ _ ⟨_, rfl, rfl, rfl⟩
  show Run l Z n0 "java/lang/StringUTF16" jdk_52_method_91_code 2 none "checkIndex" ({ frames := 2, cells := 0, slots := 0, locals := 27 } : Room) _ 5 #[.val (.int (Int32.ofNat i)), .val (.ref b)] [(.int (Int32.ofNat cs.length)), (.int (Int32.ofNat i))] h0 0 0
  refine Run.callS (k' := 0) (n' := 0) (as := [(.int (Int32.ofNat i)), (.int (Int32.ofNat cs.length))]) (rest := []) (con_sci l Z a0 hw n0 h0 Z0 (Int32.ofNat i) (Int32.ofNat cs.length) fm od0 SF hfm (own_nge (by omega)) ((own_lt (by omega) (by omega)).mpr (by omega))) d23_5 (hw _ (List.mem_of_getElem? (i := 106) rfl)) (hw _ (List.mem_of_getElem? (i := 107) rfl)) (hw _ (List.mem_of_getElem? (i := 7) rfl)) (hw _ (List.mem_of_getElem? (i := 108) rfl)) (by decide) pd__II_V rfl rfl rfl (by decide) (by show (0 : Nat) + (2 + 11) + 14 ≤ _; decide) (by decide) (by decide) (by decide) (by decide) (pc' := 8) rfl ?_
  rintro _ _ ⟨rfl, rfl⟩
  show Run l Z n0 "java/lang/StringUTF16" jdk_52_method_91_code 2 none "checkIndex" ({ frames := 2, cells := 0, slots := 0, locals := 27 } : Room) _ 8 #[.val (.int (Int32.ofNat i)), .val (.ref b)] [] h0 0 0
  exact Run.vreturn d23_8 rfl (by decide) (by decide) ⟨rfl, rfl⟩
theorem own_ncr {c : Int32} (h : 0 ≤ c.toInt ∧ c.toInt ≤ 65535) : nar .char c = c := by
  apply Int32.toInt_inj.mp
  have q := c_i2c c
  change ((nar .char _).toInt - _) % 65536 = 0 ∧ 0 ≤ (nar .char _).toInt ∧ (nar .char _).toInt < 65536 at q
  omega
theorem d22_0 : decode jdk_52_method_83_code 0 = .ok (.iload_n 1, 1) := by decide +kernel
theorem d22_1 : decode jdk_52_method_83_code 1 = .ok (.aload_n 0, 1) := by decide +kernel
theorem d22_2 : decode jdk_52_method_83_code 2 = .ok (.invokestatic 67, 3) := by decide +kernel
theorem d22_5 : decode jdk_52_method_83_code 5 = .ok (.aload_n 0, 1) := by decide +kernel
theorem d22_6 : decode jdk_52_method_83_code 6 = .ok (.iload_n 1, 1) := by decide +kernel
theorem d22_7 : decode jdk_52_method_83_code 7 = .ok (.invokestatic 71, 3) := by decide +kernel
theorem d22_10 : decode jdk_52_method_83_code 10 = .ok (.ireturn, 1) := by decide +kernel
theorem pn_22 : plainFor (⟨"java/lang/StringUTF16", "charAt", "([BI)C"⟩ : MethodName) = true := plainFor_of_name (by first | (simp [plainName, overriddenIn]; done) | decide +kernel)
theorem pd__I_B_V : parseMethodDescriptor "(I[B)V" = some ⟨[.int, (.array .byte)], none⟩ := by decide +kernel
theorem ef_con_uca (m : MethodId) (b : Addr) (cs : List Int32) (i : Nat) (fm : Value)  : entryFrame m #[(.ref b), (.int (Int32.ofNat i))] 2 = mkF m 0 #[.val (.ref b), .val (.int (Int32.ofNat i))] [] := by first | (simp [entryFrame, mkF, argsToLocals, Value.category]; done) | rfl
set_option maxRecDepth 65536 in
set_option maxHeartbeats 40000000 in
theorem con_uca (l : Launch) (Z : State) (a0 : Array Value) (hw : ∀ d ∈ tables_1, d.before a0 Z = true) (n0 : Nat) (h0 : Heap) (Z0 : n0 ≤ h0.size) (b : Addr) (cs : List Int32) (i : Nat) (fm : Value) (od0 : Old Z n0 h0) (SF : Sta Z Z.heap "jdk/internal/util/Preconditions" "SIOOBE_FORMATTER" "Ljava/util/function/BiFunction;" fm) (hfm : fm.isRef = true) (SD : Sta Z Z.heap "java/lang/StringUTF16" "$assertionsDisabled" "Z" (.int (1 : Int32))) (SH8 : Sta Z Z.heap "java/lang/StringUTF16" "HI_BYTE_SHIFT" "I" (.int (0 : Int32))) (SL8 : Sta Z Z.heap "java/lang/StringUTF16" "LO_BYTE_SHIFT" "I" (.int (8 : Int32))) (AB : Ary Z h0 b .byte (own_u16 cs)) (hi : i < cs.length) (hn : cs.length ≤ 2) (hch : own_chr cs) :
    Con l Z n0 (⟨"java/lang/StringUTF16", "charAt", "([BI)C"⟩ : MethodName) jdk_52_method_83_code 2 (some .char) ({ frames := 3, cells := 0, slots := 0, locals := 40 } : Room) #[(.ref b), (.int (Int32.ofNat i))] h0 (Val (PV (.int (cs.getD i 0)) h0)) := by
  refine Con.of_run pn_22 (fun m => ef_con_uca m b cs i fm ) ?_
  refine Run.iloadN d22_0 rfl (pc' := 1) rfl ?_
  refine Run.aloadN d22_1 rfl rfl (pc' := 2) rfl ?_
  refine Run.callS (k' := 0) (n' := 0) (as := [(.int (Int32.ofNat i)), (.ref b)]) (rest := []) (con_uci l Z a0 hw n0 h0 Z0 b cs i fm od0 SF hfm AB hi hn) d22_2 (hw _ (List.mem_of_getElem? (i := 100) rfl)) (hw _ (List.mem_of_getElem? (i := 101) rfl)) (hw _ (List.mem_of_getElem? (i := 22) rfl)) (hw _ (List.mem_of_getElem? (i := 102) rfl)) (by decide) pd__I_B_V rfl rfl rfl (by decide) (by show (0 : Nat) + (2 + 11) + 27 ≤ _; decide) (by decide) (by decide) (by decide) (by decide) (pc' := 5) rfl ?_
  rintro _ _ ⟨rfl, rfl⟩
  show Run l Z n0 "java/lang/StringUTF16" jdk_52_method_83_code 2 (some .char) "charAt" ({ frames := 3, cells := 0, slots := 0, locals := 40 } : Room) _ 5 #[.val (.ref b), .val (.int (Int32.ofNat i))] [] h0 0 0
  refine Run.aloadN d22_5 rfl rfl (pc' := 6) rfl ?_
  refine Run.iloadN d22_6 rfl (pc' := 7) rfl ?_
  refine Run.callS (k' := 0) (n' := 0) (as := [(.ref b), (.int (Int32.ofNat i))]) (rest := []) (con_gec l Z a0 hw n0 h0 Z0  b i _ _ (own_u16 cs) od0 SD SH8 SL8 AB (own_u16_get hi).1 (own_u16_get hi).2 (by omega)) d22_7 (hw _ (List.mem_of_getElem? (i := 114) rfl)) (hw _ (List.mem_of_getElem? (i := 115) rfl)) (hw _ (List.mem_of_getElem? (i := 22) rfl)) (hw _ (List.mem_of_getElem? (i := 116) rfl)) (by decide) pd___BI_C rfl rfl rfl (by decide) (by show (0 : Nat) + (2 + 11) + 0 ≤ _; decide) (by decide) (by decide) (by decide) (by decide) (pc' := 10) rfl ?_
  rintro _ _ ⟨_, rfl, rfl, rfl⟩
  show Run l Z n0 "java/lang/StringUTF16" jdk_52_method_83_code 2 (some .char) "charAt" ({ frames := 3, cells := 0, slots := 0, locals := 40 } : Room) _ 10 #[.val (.ref b), .val (.int (Int32.ofNat i))] [(.int (own_gc (own_b0 (cs.getD i 0)) (own_b1 (cs.getD i 0))))] h0 0 0
  exact Run.nreturn d22_10 (ty := .char) rfl (by simp) (by decide) (by decide) ⟨_, rfl, congrArg Value.int (by rw [own_gcb (own_chrD hch hi)]; exact (own_ncr (own_chrD hch hi)).symm), rfl⟩
theorem d20_0 : decode jdk_42_method_56_code 0 = .ok (.aload_n 0, 1) := by decide +kernel
theorem d20_1 : decode jdk_42_method_56_code 1 = .ok (.invokevirtual 492, 3) := by decide +kernel
theorem d20_4 : decode jdk_42_method_56_code 4 = .ok (.ifCond .eq 12, 3) := by decide +kernel
theorem d20_7 : decode jdk_42_method_56_code 7 = .ok (.aload_n 0, 1) := by decide +kernel
theorem d20_8 : decode jdk_42_method_56_code 8 = .ok (.getfield 9, 3) := by decide +kernel
theorem d20_11 : decode jdk_42_method_56_code 11 = .ok (.iload_n 1, 1) := by decide +kernel
theorem d20_12 : decode jdk_42_method_56_code 12 = .ok (.invokestatic 495, 3) := by decide +kernel
theorem d20_15 : decode jdk_42_method_56_code 15 = .ok (.ireturn, 1) := by decide +kernel
theorem d20_16 : decode jdk_42_method_56_code 16 = .ok (.aload_n 0, 1) := by decide +kernel
theorem d20_17 : decode jdk_42_method_56_code 17 = .ok (.getfield 9, 3) := by decide +kernel
theorem d20_20 : decode jdk_42_method_56_code 20 = .ok (.iload_n 1, 1) := by decide +kernel
theorem d20_21 : decode jdk_42_method_56_code 21 = .ok (.invokestatic 498, 3) := by decide +kernel
theorem d20_24 : decode jdk_42_method_56_code 24 = .ok (.ireturn, 1) := by decide +kernel
theorem pn_20 : plainFor (⟨"java/lang/String", "charAt", "(I)C"⟩ : MethodName) = true := plainFor_of_name (by first | (simp [plainName, overriddenIn]; done) | decide +kernel)
theorem pd___Z : parseMethodDescriptor "()Z" = some ⟨[], some .boolean⟩ := by decide +kernel
theorem ef_con_cha (m : MethodId) (t b : Addr) (cs : List Int32) (i : Nat) (cz : Int32) (fm : Value)  : entryFrame m #[(.ref t), (.int (Int32.ofNat i))] 2 = mkF m 0 #[.val (.ref t), .val (.int (Int32.ofNat i))] [] := by first | (simp [entryFrame, mkF, argsToLocals, Value.category]; done) | rfl
set_option maxRecDepth 65536 in
set_option maxHeartbeats 40000000 in
theorem con_cha (l : Launch) (Z : State) (a0 : Array Value) (hw : ∀ d ∈ tables_1, d.before a0 Z = true) (n0 : Nat) (h0 : Heap) (Z0 : n0 ≤ h0.size) (t b : Addr) (cs : List Int32) (i : Nat) (cz : Int32) (fm : Value) (od0 : Old Z n0 h0) (SF : Sta Z Z.heap "jdk/internal/util/Preconditions" "SIOOBE_FORMATTER" "Ljava/util/function/BiFunction;" fm) (hfm : fm.isRef = true) (SD : Sta Z Z.heap "java/lang/StringUTF16" "$assertionsDisabled" "Z" (.int (1 : Int32))) (SH8 : Sta Z Z.heap "java/lang/StringUTF16" "HI_BYTE_SHIFT" "I" (.int (0 : Int32))) (SL8 : Sta Z Z.heap "java/lang/StringUTF16" "LO_BYTE_SHIFT" "I" (.int (8 : Int32))) (SZ : Sta Z Z.heap "java/lang/String" "COMPACT_STRINGS" "Z" (.int cz)) (hcz : ¬ cz = 0) (E1 : Exa Z h0 t "java/lang/String") (FV : Fld Z h0 t "java/lang/String" "value" "[B" (.ref b)) (FC : Fld Z h0 t "java/lang/String" "coder" "B" (.int (own_coder cs))) (AB : Ary Z h0 b .byte (own_enc cs)) (hi : i < cs.length) (hn : cs.length ≤ 2) (hch : own_chr cs) :
    Con l Z n0 (⟨"java/lang/String", "charAt", "(I)C"⟩ : MethodName) jdk_42_method_56_code 2 (some .char) ({ frames := 4, cells := 0, slots := 0, locals := 53 } : Room) #[(.ref t), (.int (Int32.ofNat i))] h0 (Val (PV (.int (cs.getD i 0)) h0)) := by
  refine Con.of_run pn_20 (fun m => ef_con_cha m t b cs i cz fm ) ?_
  refine Run.aloadN d20_0 rfl rfl (pc' := 1) rfl ?_
  refine Run.callV (k' := 0) (n' := 0) (a := t) (as := []) (rest := []) (con_isl l Z a0 hw n0 h0 Z0 t cs cz od0 SZ hcz FC ) E1 d20_1 (hw _ (List.mem_of_getElem? (i := 92) rfl)) (hw _ (List.mem_of_getElem? (i := 93) rfl)) (fun s hZ => notFace_of_selects (args := #[]) (mvT hZ (hw _ (List.mem_of_getElem? (i := 95) rfl)))) (hw _ (List.mem_of_getElem? (i := 95) rfl)) (hw _ (List.mem_of_getElem? (i := 94) rfl)) (hw _ (List.mem_of_getElem? (i := 7) rfl)) (hw _ (List.mem_of_getElem? (i := 96) rfl)) (by decide) pd___Z rfl rfl rfl (by decide) (by show (0 : Nat) + (1 + 11) + 0 ≤ _; decide) (by decide) (by decide) (by decide) (by decide) (pc' := 4) rfl ?_
  rintro _ _ ⟨_, rfl, rfl, rfl⟩
  show Run l Z n0 "java/lang/String" jdk_42_method_56_code 2 (some .char) "charAt" ({ frames := 4, cells := 0, slots := 0, locals := 53 } : Room) _ 4 #[.val (.ref t), .val (.int (Int32.ofNat i))] [(.int (own_isl cs))] h0 0 0
  refine Run.if_eq d20_4 (by decide) (pc' := 16) (by decide) (pa := 7) rfl (fun hc4 => ?_) (fun hc4 => ?_)
  · -- pc 4 taken: (own_isl cs) = (0 : Int32)
    refine Run.aloadN d20_16 rfl rfl (pc' := 17) rfl ?_
    refine Run.getF d20_17 (host := "") (Or.inl (hw _ (List.mem_of_getElem? (i := 33) rfl))) Via.refl FV (pc' := 20) rfl ?_
    refine Run.iloadN d20_20 rfl (pc' := 21) rfl ?_
    refine Run.callS (k' := 0) (n' := 0) (as := [(.ref b), (.int (Int32.ofNat i))]) (rest := []) (con_uca l Z a0 hw n0 h0 Z0  b cs i fm od0 SF hfm SD SH8 SL8 (own_encN (own_isl0 hc4) ▸ AB) hi hn hch) d20_21 (hw _ (List.mem_of_getElem? (i := 97) rfl)) (hw _ (List.mem_of_getElem? (i := 98) rfl)) (hw _ (List.mem_of_getElem? (i := 22) rfl)) (hw _ (List.mem_of_getElem? (i := 99) rfl)) (by decide) pd___BI_C rfl rfl rfl (by decide) (by show (0 : Nat) + (2 + 11) + 40 ≤ _; decide) (by decide) (by decide) (by decide) (by decide) (pc' := 24) rfl ?_
    rintro _ _ ⟨_, rfl, rfl, rfl⟩
    show Run l Z n0 "java/lang/String" jdk_42_method_56_code 2 (some .char) "charAt" ({ frames := 4, cells := 0, slots := 0, locals := 53 } : Room) _ 24 #[.val (.ref t), .val (.int (Int32.ofNat i))] [(.int (cs.getD i 0))] h0 0 0
    exact Run.nreturn d20_24 (ty := .char) rfl (by simp) (by decide) (by decide) ⟨_, rfl, congrArg Value.int (own_ncr (own_chrD hch hi)).symm, rfl⟩
  · -- pc 4 not taken: ¬ (own_isl cs) = (0 : Int32)
    refine Run.aloadN d20_7 rfl rfl (pc' := 8) rfl ?_
    refine Run.getF d20_8 (host := "") (Or.inl (hw _ (List.mem_of_getElem? (i := 33) rfl))) Via.refl FV (pc' := 11) rfl ?_
    refine Run.iloadN d20_11 rfl (pc' := 12) rfl ?_
    refine Run.callS (k' := 0) (n' := 0) (as := [(.ref b), (.int (Int32.ofNat i))]) (rest := []) (con_lca l Z a0 hw n0 h0 Z0  b cs i fm od0 SF hfm (own_encP (own_isl1 hc4) ▸ AB) (own_isl1 hc4) hi hn hch) d20_12 (hw _ (List.mem_of_getElem? (i := 129) rfl)) (hw _ (List.mem_of_getElem? (i := 130) rfl)) (hw _ (List.mem_of_getElem? (i := 68) rfl)) (hw _ (List.mem_of_getElem? (i := 131) rfl)) (by decide) pd___BI_C rfl rfl rfl (by decide) (by show (0 : Nat) + (2 + 11) + 27 ≤ _; decide) (by decide) (by decide) (by decide) (by decide) (pc' := 15) rfl ?_
    rintro _ _ ⟨_, rfl, rfl, rfl⟩
    show Run l Z n0 "java/lang/String" jdk_42_method_56_code 2 (some .char) "charAt" ({ frames := 4, cells := 0, slots := 0, locals := 53 } : Room) _ 15 #[.val (.ref t), .val (.int (Int32.ofNat i))] [(.int (cs.getD i 0))] h0 0 0
    exact Run.nreturn d20_15 (ty := .char) rfl (by simp) (by decide) (by decide) ⟨_, rfl, congrArg Value.int (own_ncr (own_chrD hch hi)).symm, rfl⟩
theorem d2_0 : decode jdk_42_method_3_code 0 = .ok (.aload_n 0, 1) := by decide +kernel
theorem d2_1 : decode jdk_42_method_3_code 1 = .ok (.aload_n 1, 1) := by decide +kernel
theorem d2_2 : decode jdk_42_method_3_code 2 = .ok (.iconst 0, 1) := by decide +kernel
theorem d2_3 : decode jdk_42_method_3_code 3 = .ok (.aload_n 1, 1) := by decide +kernel
theorem d2_4 : decode jdk_42_method_3_code 4 = .ok (.arraylength, 1) := by decide +kernel
theorem d2_5 : decode jdk_42_method_3_code 5 = .ok (.aconst_null, 1) := by decide +kernel
theorem d2_6 : decode jdk_42_method_3_code 6 = .ok (.invokespecial 27, 3) := by decide +kernel
theorem d2_9 : decode jdk_42_method_3_code 9 = .ok (.return_, 1) := by decide +kernel
theorem pn_2 : plainFor (⟨"java/lang/String", "<init>", "([C)V"⟩ : MethodName) = true := plainFor_of_name (by first | (simp [plainName, overriddenIn]; done) | decide +kernel)
theorem pd___CIILjava_lang_Void__V : parseMethodDescriptor "([CIILjava/lang/Void;)V" = some ⟨[(.array .char), .int, .int, (.object "java/lang/Void")], none⟩ := by decide +kernel
theorem ef_con_si1 (m : MethodId) (t a : Addr) (cs : List Int32) (cz : Int32) (uv uc : Value)  : entryFrame m #[(.ref t), (.ref a)] 2 = mkF m 0 #[.val (.ref t), .val (.ref a)] [] := by first | (simp [entryFrame, mkF, argsToLocals, Value.category]; done) | rfl
set_option maxRecDepth 65536 in
set_option maxHeartbeats 40000000 in
theorem con_si1 (l : Launch) (Z : State) (a0 : Array Value) (hw : ∀ d ∈ tables_1, d.before a0 Z = true) (n0 : Nat) (h0 : Heap) (Z0 : n0 ≤ h0.size) (t a : Addr) (cs : List Int32) (cz : Int32) (uv uc : Value) (od0 : Old Z n0 h0) (SD : Sta Z Z.heap "java/lang/StringUTF16" "$assertionsDisabled" "Z" (.int (1 : Int32))) (SH8 : Sta Z Z.heap "java/lang/StringUTF16" "HI_BYTE_SHIFT" "I" (.int (0 : Int32))) (SL8 : Sta Z Z.heap "java/lang/StringUTF16" "LO_BYTE_SHIFT" "I" (.int (8 : Int32))) (SZ : Sta Z Z.heap "java/lang/String" "COMPACT_STRINGS" "Z" (.int cz)) (hcz : ¬ cz = 0) (E1 : Exa Z h0 t "java/lang/String") (FV : Fld Z h0 t "java/lang/String" "value" "[B" uv) (FC : Fld Z h0 t "java/lang/String" "coder" "B" uc) (gt : n0 ≤ t) (AC : Ary Z h0 a .char (cs.map Value.int ++ [])) (hne : cs ≠ []) (hn : cs.length ≤ 2) (hch : own_chr cs) (hta : t ≠ a) :
    Con l Z n0 (⟨"java/lang/String", "<init>", "([C)V"⟩ : MethodName) jdk_42_method_3_code 2 none ({ frames := 5, cells := 2, slots := 6, locals := 74 } : Room) #[(.ref t), (.ref a)] h0 (Vd fun h' => ∃ b, h0.size ≤ b ∧ Keep h0 h' [t] ∧ Exa Z h' t "java/lang/String" ∧ Fld Z h' t "java/lang/String" "value" "[B" (.ref b) ∧ Fld Z h' t "java/lang/String" "coder" "B" (.int (own_coder cs)) ∧ Ary Z h' b .byte (own_enc cs)) := by
  refine Con.of_run pn_2 (fun m => ef_con_si1 m t a cs cz uv uc ) ?_
  refine Run.aloadN d2_0 rfl rfl (pc' := 1) rfl ?_
  refine Run.aloadN d2_1 rfl rfl (pc' := 2) rfl ?_
  refine Run.iconst (0 : Int32) d2_2 (by decide) (pc' := 3) rfl ?_
  refine Run.aloadN d2_3 rfl rfl (pc' := 4) rfl ?_
  refine Run.alen (z := (Int32.ofNat cs.length)) d2_4 AC (by rw [List.length_append, List.length_map] <;> rfl) (pc' := 5) rfl ?_
  refine Run.aconst d2_5 (pc' := 6) rfl ?_
  refine Run.callN (k' := 2) (n' := 6) (a := t) (as := [(.ref a), (.int (0 : Int32)), (.int (Int32.ofNat cs.length)), .null]) (rest := []) (con_si4 l Z a0 hw n0 h0 Z0 t a cs [] cz uv uc od0 SD SH8 SL8 SZ hcz E1 FV FC gt AC hne hn hch (Ne.symm hta.symm)) rfl d2_6 (hw _ (List.mem_of_getElem? (i := 12) rfl)) (hw _ (List.mem_of_getElem? (i := 13) rfl)) (hw _ (List.mem_of_getElem? (i := 7) rfl)) (hw _ (List.mem_of_getElem? (i := 15) rfl)) (by decide) pd___CIILjava_lang_Void__V rfl rfl rfl (by decide) (by show (0 : Nat) + (6 + 11) + 57 ≤ _; decide) (by decide) (by decide) (by decide) (by decide) (pc' := 9) rfl ?_
  rintro h11 ⟨b11, bw11, K11, X11, FV11, FC11, P11⟩
  show Run l Z n0 "java/lang/String" jdk_42_method_3_code 2 none "<init>" ({ frames := 5, cells := 2, slots := 6, locals := 74 } : Room) _ 9 #[.val (.ref t), .val (.ref a)] [] h11 2 6
  have ge_b11 : n0 ≤ b11 := Nat.le_trans Z0 bw11
  have bo_b11 : h0.size ≤ b11 := Nat.le_trans (Keep.refl h0 [t]).1 bw11
  have ne_t_b11 : t ≠ b11 := Nat.ne_of_lt (Nat.lt_of_lt_of_le E1.lt bw11)
  have ne_a_b11 : a ≠ b11 := Nat.ne_of_lt (Nat.lt_of_lt_of_le AC.lt bw11)
  have E_t_11 := E1.keep K11
  have A_a_11 := AC.keep K11 (ninS hta.symm nin0)
  have sz11 : n0 ≤ h11.size := Nat.le_trans Z0 K11.1
  have kp11 := Keep.trans (Keep.refl h0 [t]) K11 (allS (Or.inl (List.mem_of_getElem? (i := 0) rfl)) all0)
  have od11 := od0.keep K11 (allS gt all0)
  exact Run.vreturn d2_9 rfl (by decide) (by decide) ⟨rfl, b11, bo_b11, kp11, X11, FV11, FC11, P11⟩
def own_can (p1 : Int32) : Int32 := (if (255 : Int32) < p1 then (0 : Int32) else (1 : Int32))
theorem d15_0 : decode jdk_43_method_3_code 0 = .ok (.iload_n 0, 1) := by decide +kernel
theorem d15_1 : decode jdk_43_method_3_code 1 = .ok (.sipush 255, 3) := by decide +kernel
theorem d15_4 : decode jdk_43_method_3_code 4 = .ok (.if_icmp .gt 7, 3) := by decide +kernel
theorem d15_7 : decode jdk_43_method_3_code 7 = .ok (.iconst 1, 1) := by decide +kernel
theorem d15_8 : decode jdk_43_method_3_code 8 = .ok (.goto 4, 3) := by decide +kernel
theorem d15_11 : decode jdk_43_method_3_code 11 = .ok (.iconst 0, 1) := by decide +kernel
theorem d15_12 : decode jdk_43_method_3_code 12 = .ok (.ireturn, 1) := by decide +kernel
theorem pn_15 : plainFor (⟨"java/lang/StringLatin1", "canEncode", "(C)Z"⟩ : MethodName) = true := plainFor_of_name (by first | (simp [plainName, overriddenIn]; done) | decide +kernel)
theorem ef_con_own_can (m : MethodId) (p1 : Int32)  : entryFrame m #[(.int p1)] 1 = mkF m 0 #[.val (.int p1)] [] := by first | (simp [entryFrame, mkF, argsToLocals, Value.category]; done) | rfl
set_option maxRecDepth 65536 in
set_option maxHeartbeats 40000000 in
theorem con_own_can (l : Launch) (Z : State) (a0 : Array Value) (hw : ∀ d ∈ tables_1, d.before a0 Z = true) (n0 : Nat) (h0 : Heap) (Z0 : n0 ≤ h0.size) (p1 : Int32)  :
    Con l Z n0 (⟨"java/lang/StringLatin1", "canEncode", "(C)Z"⟩ : MethodName) jdk_43_method_3_code 1 (some .boolean) ({ frames := 0, cells := 0, slots := 0, locals := 0 } : Room) #[(.int p1)] h0 (Val (PV (.int (own_can p1)) h0)) := by
  refine Con.of_run pn_15 (fun m => ef_con_own_can m p1 ) ?_
  refine Run.iloadN d15_0 rfl (pc' := 1) rfl ?_
  refine Run.sipush (255 : Int32) d15_1 (by decide) (pc' := 4) rfl ?_
  refine Run.icmp_gt d15_4 (by decide) (pc' := 11) (by decide) (pa := 7) rfl (fun hc4 => ?_) (fun hc4 => ?_)
  · -- pc 4 taken: (255 : Int32) < p1
    refine Run.iconst (0 : Int32) d15_11 (by decide) (pc' := 12) rfl ?_
    exact Run.nreturn d15_12 (ty := .boolean) rfl (by simp) (by decide) (by decide) ⟨_, rfl, congrArg Value.int (by unfold own_can; rw [if_pos hc4] <;> rfl), rfl⟩
  · -- pc 4 not taken: ¬ (255 : Int32) < p1
    refine Run.iconst (1 : Int32) d15_7 (by decide) (pc' := 8) rfl ?_
    refine Run.goto d15_8 (by decide) (pc' := 12) (by decide) ?_
    exact Run.nreturn d15_12 (ty := .boolean) rfl (by simp) (by decide) (by decide) ⟨_, rfl, congrArg Value.int (by unfold own_can; rw [if_neg hc4] <;> rfl), rfl⟩
theorem own_can1 {c : Int32} (h : ¬ own_can c = 0) : own_coder [c] = 0 ∧ own_enc [c] = own_by [c] := by
  have q : ¬ (255 : Int32) < c := fun z => h (by unfold own_can; rw [if_pos z])
  have e : own_pfx [c] = [c].length := by show (if (255 : Int32) < c then 0 else 0 + 1) = 1; rw [if_neg q]
  exact ⟨by unfold own_coder; rw [if_pos e], own_encP e⟩
theorem own_can0 {c : Int32} (h : own_can c = 0) : own_coder [c] = 1 ∧ own_enc [c] = own_u16 [c] := by
  have q : (255 : Int32) < c := by by_cases z : (255 : Int32) < c; exact z; exact absurd h (by unfold own_can; rw [if_neg z]; decide)
  have e : ¬ own_pfx [c] = [c].length := by show ¬ (if (255 : Int32) < c then 0 else 0 + 1) = 1; rw [if_pos q]; decide
  exact ⟨by unfold own_coder; rw [if_neg e], own_encN e⟩
theorem d30_0 : decode jdk_43_method_46_code 0 = .ok (.iconst 1, 1) := by decide +kernel
theorem d30_1 : decode jdk_43_method_46_code 1 = .ok (.newarray .byte, 2) := by decide +kernel
theorem d30_3 : decode jdk_43_method_46_code 3 = .ok (.dup, 1) := by decide +kernel
theorem d30_4 : decode jdk_43_method_46_code 4 = .ok (.iconst 0, 1) := by decide +kernel
theorem d30_5 : decode jdk_43_method_46_code 5 = .ok (.iload_n 0, 1) := by decide +kernel
theorem d30_6 : decode jdk_43_method_46_code 6 = .ok (.i2b, 1) := by decide +kernel
theorem d30_7 : decode jdk_43_method_46_code 7 = .ok (.bastore, 1) := by decide +kernel
theorem d30_8 : decode jdk_43_method_46_code 8 = .ok (.areturn, 1) := by decide +kernel
theorem pn_30 : plainFor (⟨"java/lang/StringLatin1", "toBytes", "(C)[B"⟩ : MethodName) = true := plainFor_of_name (by first | (simp [plainName, overriddenIn]; done) | decide +kernel)
theorem ef_con_ltb (m : MethodId) (c : Int32)  : entryFrame m #[(.int c)] 1 = mkF m 0 #[.val (.int c)] [] := by first | (simp [entryFrame, mkF, argsToLocals, Value.category]; done) | rfl
set_option maxRecDepth 65536 in
set_option maxHeartbeats 40000000 in
theorem con_ltb (l : Launch) (Z : State) (a0 : Array Value) (hw : ∀ d ∈ tables_1, d.before a0 Z = true) (n0 : Nat) (h0 : Heap) (Z0 : n0 ≤ h0.size) (c : Int32)  :
    Con l Z n0 (⟨"java/lang/StringLatin1", "toBytes", "(C)[B"⟩ : MethodName) jdk_43_method_46_code 1 (some (.array .byte)) ({ frames := 0, cells := 1, slots := 1, locals := 0 } : Room) #[(.int c)] h0 (Val fun w h' => ∃ b, w = .ref b ∧ h0.size ≤ b ∧ Ext h0 h' ∧ Ary Z h' b .byte (own_by [c])) := by
  refine Con.of_run pn_30 (fun m => ef_con_ltb m c ) ?_
  refine Run.iconst (1 : Int32) d30_0 (by decide) (pc' := 1) rfl ?_
  refine Run.newP (ty := .byte) (m := 1) (cap := 1) (dv := (.int (0 : Int32))) (k' := 1) (n' := 1) d30_1 rfl (hw _ (List.mem_of_getElem? (i := 24) rfl)) (by decide) (by decide) (Nat.le_refl _) rfl (by decide) (by decide) (by decide) (by decide) (by decide) (pc' := 3) rfl ?_
  intro h11 b11 g11 E11 A11
  have ge_b11 : n0 ≤ b11 := by rw [g11]; exact Z0
  have bo_b11 : h0.size ≤ b11 := by rw [g11]; exact (Keep.refl h0 []).1
  have sz11 : n0 ≤ h11.size := Nat.le_trans Z0 E11.1
  have kp11 := Keep.ext (Keep.refl h0 []) E11
  replace A11 : Ary Z h11 b11 .byte [(.int (0 : Int32))] := A11
  refine Run.dup d30_3 rfl (pc' := 4) rfl ?_
  refine Run.iconst (0 : Int32) d30_4 (by decide) (pc' := 5) rfl ?_
  refine Run.iloadN d30_5 rfl (pc' := 6) rfl ?_
  refine Run.i2b d30_6 (pc' := 7) rfl ?_
  refine Run.bastore (i := 0) d30_7 A11 (by decide) (by show (0 : Nat) < 1; decide) ge_b11 (pc' := 8) rfl ?_
  intro h12 W12 A12
  replace A12 : Ary Z h12 b11 .byte [(.int (nar .byte (nar .byte c)))] := A12
  have sz12 : n0 ≤ h12.size := by rw [W12.size]; exact sz11
  have kp12 := Keep.wr kp11 W12 (Or.inr bo_b11)
  exact Run.areturn d30_8 (ty := (.array .byte)) rfl rfl rfl (by decide) (by decide) ⟨_, rfl, b11, rfl, bo_b11, Keep.toExt kp12, (by have z := A12; rw [own_nbb] at z; exact z)⟩
theorem d16_0 : decode jdk_52_method_24_code 0 = .ok (.iconst 2, 1) := by decide +kernel
theorem d16_1 : decode jdk_52_method_24_code 1 = .ok (.newarray .byte, 2) := by decide +kernel
theorem d16_3 : decode jdk_52_method_24_code 3 = .ok (.astore_n 1, 1) := by decide +kernel
theorem d16_4 : decode jdk_52_method_24_code 4 = .ok (.aload_n 1, 1) := by decide +kernel
theorem d16_5 : decode jdk_52_method_24_code 5 = .ok (.iconst 0, 1) := by decide +kernel
theorem d16_6 : decode jdk_52_method_24_code 6 = .ok (.iload_n 0, 1) := by decide +kernel
theorem d16_7 : decode jdk_52_method_24_code 7 = .ok (.invokestatic 111, 3) := by decide +kernel
theorem d16_10 : decode jdk_52_method_24_code 10 = .ok (.aload_n 1, 1) := by decide +kernel
theorem d16_11 : decode jdk_52_method_24_code 11 = .ok (.areturn, 1) := by decide +kernel
theorem pn_16 : plainFor (⟨"java/lang/StringUTF16", "toBytes", "(C)[B"⟩ : MethodName) = true := plainFor_of_name (by first | (simp [plainName, overriddenIn]; done) | decide +kernel)
theorem ef_con_utb (m : MethodId) (c : Int32)  : entryFrame m #[(.int c)] 2 = mkF m 0 #[.val (.int c), .unset] [] := by first | (simp [entryFrame, mkF, argsToLocals, Value.category]; done) | rfl
set_option maxRecDepth 65536 in
set_option maxHeartbeats 40000000 in
theorem con_utb (l : Launch) (Z : State) (a0 : Array Value) (hw : ∀ d ∈ tables_1, d.before a0 Z = true) (n0 : Nat) (h0 : Heap) (Z0 : n0 ≤ h0.size) (c : Int32) (od0 : Old Z n0 h0) (SD : Sta Z Z.heap "java/lang/StringUTF16" "$assertionsDisabled" "Z" (.int (1 : Int32))) (SH8 : Sta Z Z.heap "java/lang/StringUTF16" "HI_BYTE_SHIFT" "I" (.int (0 : Int32))) (SL8 : Sta Z Z.heap "java/lang/StringUTF16" "LO_BYTE_SHIFT" "I" (.int (8 : Int32))) :
    Con l Z n0 (⟨"java/lang/StringUTF16", "toBytes", "(C)[B"⟩ : MethodName) jdk_52_method_24_code 2 (some (.array .byte)) ({ frames := 1, cells := 1, slots := 2, locals := 14 } : Room) #[(.int c)] h0 (Val fun w h' => ∃ b, w = .ref b ∧ h0.size ≤ b ∧ Ext h0 h' ∧ Ary Z h' b .byte (own_u16 [c])) := by
  refine Con.of_run pn_16 (fun m => ef_con_utb m c ) ?_
  refine Run.iconst (2 : Int32) d16_0 (by decide) (pc' := 1) rfl ?_
  refine Run.newP (ty := .byte) (m := 2) (cap := 2) (dv := (.int (0 : Int32))) (k' := 1) (n' := 2) d16_1 rfl (hw _ (List.mem_of_getElem? (i := 24) rfl)) (by decide) (by decide) (Nat.le_refl _) rfl (by decide) (by decide) (by decide) (by decide) (by decide) (pc' := 3) rfl ?_
  intro h11 b11 g11 E11 A11
  have ge_b11 : n0 ≤ b11 := by rw [g11]; exact Z0
  have bo_b11 : h0.size ≤ b11 := by rw [g11]; exact (Keep.refl h0 []).1
  have sz11 : n0 ≤ h11.size := Nat.le_trans Z0 E11.1
  have kp11 := Keep.ext (Keep.refl h0 []) E11
  have od11 := od0.ext E11
  replace A11 : Ary Z h11 b11 .byte [(.int (0 : Int32)), (.int (0 : Int32))] := A11
  refine Run.astoreN (l' := #[.val (.int c), .val (.ref b11)]) d16_3 rfl rfl (pc' := 4) rfl ?_
  refine Run.aloadN d16_4 rfl rfl (pc' := 5) rfl ?_
  refine Run.iconst (0 : Int32) d16_5 (by decide) (pc' := 6) rfl ?_
  refine Run.iloadN d16_6 rfl (pc' := 7) rfl ?_
  refine Run.callS (k' := 1) (n' := 2) (as := [(.ref b11), (.int (0 : Int32)), (.int c)]) (rest := []) (con_puc l Z a0 hw n0 h11 sz11 b11 0 c [.int (0 : Int32), .int (0 : Int32)] od11 SD SH8 SL8 A11 ge_b11 (by decide) (by decide)) d16_7 (hw _ (List.mem_of_getElem? (i := 74) rfl)) (hw _ (List.mem_of_getElem? (i := 75) rfl)) (hw _ (List.mem_of_getElem? (i := 22) rfl)) (hw _ (List.mem_of_getElem? (i := 76) rfl)) (by decide) pd___BII_V rfl rfl rfl (by decide) (by show (0 : Nat) + (3 + 11) + 0 ≤ _; decide) (by decide) (by decide) (by decide) (by decide) (pc' := 10) rfl ?_
  rintro _ h12 ⟨rfl, ⟨K12, P12⟩⟩
  show Run l Z n0 "java/lang/StringUTF16" jdk_52_method_24_code 2 (some (.array .byte)) "toBytes" ({ frames := 1, cells := 1, slots := 2, locals := 14 } : Room) _ 10 #[.val (.int c), .val (.ref b11)] [] h12 1 2
  have sz12 : n0 ≤ h12.size := Nat.le_trans sz11 K12.1
  have kp12 := Keep.trans kp11 K12 (allS (Or.inr bo_b11) all0)
  have od12 := od11.keep K12 (allS ge_b11 all0)
  refine Run.aloadN d16_10 rfl rfl (pc' := 11) rfl ?_
  exact Run.areturn d16_11 (ty := (.array .byte)) rfl rfl rfl (by decide) (by decide) ⟨_, rfl, b11, rfl, bo_b11, Keep.toExt kp12, P12⟩
theorem d18_0 : decode jdk_42_method_151_code 0 = .ok (.aload_n 0, 1) := by decide +kernel
theorem d18_1 : decode jdk_42_method_151_code 1 = .ok (.invokespecial 1, 3) := by decide +kernel
theorem d18_4 : decode jdk_42_method_151_code 4 = .ok (.aload_n 0, 1) := by decide +kernel
theorem d18_5 : decode jdk_42_method_151_code 5 = .ok (.aload_n 1, 1) := by decide +kernel
theorem d18_6 : decode jdk_42_method_151_code 6 = .ok (.putfield 9, 3) := by decide +kernel
theorem d18_9 : decode jdk_42_method_151_code 9 = .ok (.aload_n 0, 1) := by decide +kernel
theorem d18_10 : decode jdk_42_method_151_code 10 = .ok (.iload_n 2, 1) := by decide +kernel
theorem d18_11 : decode jdk_42_method_151_code 11 = .ok (.putfield 15, 3) := by decide +kernel
theorem d18_14 : decode jdk_42_method_151_code 14 = .ok (.return_, 1) := by decide +kernel
theorem pn_18 : plainFor (⟨"java/lang/String", "<init>", "([BB)V"⟩ : MethodName) = true := plainFor_of_name (by first | (simp [plainName, overriddenIn]; done) | decide +kernel)
theorem ef_con_ibb (m : MethodId) (t a : Addr) (k : Int32) (uv uc : Value)  : entryFrame m #[(.ref t), (.ref a), (.int k)] 3 = mkF m 0 #[.val (.ref t), .val (.ref a), .val (.int k)] [] := by first | (simp [entryFrame, mkF, argsToLocals, Value.category]; done) | rfl
set_option maxRecDepth 65536 in
set_option maxHeartbeats 40000000 in
theorem con_ibb (l : Launch) (Z : State) (a0 : Array Value) (hw : ∀ d ∈ tables_1, d.before a0 Z = true) (n0 : Nat) (h0 : Heap) (Z0 : n0 ≤ h0.size) (t a : Addr) (k : Int32) (uv uc : Value) (E1 : Exa Z h0 t "java/lang/String") (FV : Fld Z h0 t "java/lang/String" "value" "[B" uv) (FC : Fld Z h0 t "java/lang/String" "coder" "B" uc) (gt : n0 ≤ t) (hk1 : narrow .byte (.int k) = .int k) (hk2 : fits .byte (.int k) = true) :
    Con l Z n0 (⟨"java/lang/String", "<init>", "([BB)V"⟩ : MethodName) jdk_42_method_151_code 3 none ({ frames := 1, cells := 0, slots := 0, locals := 12 } : Room) #[(.ref t), (.ref a), (.int k)] h0 (Vd fun h' => Keep h0 h' [t] ∧ Fld Z h' t "java/lang/String" "value" "[B" (.ref a) ∧ Fld Z h' t "java/lang/String" "coder" "B" (.int k)) := by
  refine Con.of_run pn_18 (fun m => ef_con_ibb m t a k uv uc ) ?_
  refine Run.aloadN d18_0 rfl rfl (pc' := 1) rfl ?_
  refine Run.initO d18_1 (hw _ (List.mem_of_getElem? (i := 16) rfl)) (hw _ (List.mem_of_getElem? (i := 17) rfl)) (hw _ (List.mem_of_getElem? (i := 18) rfl)) rfl (by decide) (by show (0 : Nat) + 12 ≤ _; decide) (pc' := 4) rfl ?_
  refine Run.aloadN d18_4 rfl rfl (pc' := 5) rfl ?_
  refine Run.aloadN d18_5 rfl rfl (pc' := 6) rfl ?_
  refine Run.putF d18_6 (host := "") (Or.inl (hw _ (List.mem_of_getElem? (i := 33) rfl))) Via.refl FV E1 (Or.inr ⟨(hw _ (List.mem_of_getElem? (i := 34) rfl)), rfl, rfl⟩) (hw _ (List.mem_of_getElem? (i := 6) rfl)) (ty := (.array .byte)) (by decide) (go_narref rfl rfl) rfl gt (pc' := 9) rfl ?_
  intro h11 W11
  have Fw11 := FV.same W11
  have E_t_11 := E1.wr W11
  have F_t_coder_11 := FC.other W11 (Or.inr (slot_ne (Or.inr (hw _ (List.mem_of_getElem? (i := 32) rfl))) (Or.inr (hw _ (List.mem_of_getElem? (i := 34) rfl))) (by decide) (t := .byte) (t' := (.array .byte)) (by decide) (by decide)))
  have sz11 : n0 ≤ h11.size := by rw [W11.size]; exact Z0
  have kp11 := Keep.wr (Keep.refl h0 [t]) W11 (Or.inl (List.mem_of_getElem? (i := 0) rfl))
  refine Run.aloadN d18_9 rfl rfl (pc' := 10) rfl ?_
  refine Run.iloadN d18_10 rfl (pc' := 11) rfl ?_
  refine Run.putFN d18_11 (hw _ (List.mem_of_getElem? (i := 31) rfl)) Via.refl F_t_coder_11 E_t_11 (Or.inr ⟨(hw _ (List.mem_of_getElem? (i := 32) rfl)), rfl, rfl⟩) (hw _ (List.mem_of_getElem? (i := 6) rfl)) (ty := .byte) (v' := (.int k)) (by decide) hk1 hk2 gt (pc' := 14) rfl ?_
  intro h12 W12
  have Fw12 := F_t_coder_11.same W12
  have E_t_12 := E_t_11.wr W12
  have F_t_value_12 := Fw11.other W12 (Or.inr (slot_ne (Or.inr (hw _ (List.mem_of_getElem? (i := 34) rfl))) (Or.inr (hw _ (List.mem_of_getElem? (i := 32) rfl))) (by decide) (t := (.array .byte)) (t' := .byte) (by decide) (by decide)))
  have sz12 : n0 ≤ h12.size := by rw [W12.size]; exact sz11
  have kp12 := Keep.wr kp11 W12 (Or.inl (List.mem_of_getElem? (i := 0) rfl))
  exact Run.vreturn d18_14 rfl (by decide) (by decide) ⟨rfl, kp12, F_t_value_12, Fw12⟩
theorem d14_0 : decode jdk_42_method_139_code 0 = .ok (.getstatic 38, 3) := by decide +kernel
theorem d14_3 : decode jdk_42_method_139_code 3 = .ok (.ifCond .eq 23, 3) := by decide +kernel
theorem d14_6 : decode jdk_42_method_139_code 6 = .ok (.iload_n 0, 1) := by decide +kernel
theorem d14_7 : decode jdk_42_method_139_code 7 = .ok (.invokestatic 1015, 3) := by decide +kernel
theorem d14_10 : decode jdk_42_method_139_code 10 = .ok (.ifCond .eq 16, 3) := by decide +kernel
theorem d14_13 : decode jdk_42_method_139_code 13 = .ok (.new 10, 3) := by decide +kernel
theorem d14_16 : decode jdk_42_method_139_code 16 = .ok (.dup, 1) := by decide +kernel
theorem d14_17 : decode jdk_42_method_139_code 17 = .ok (.iload_n 0, 1) := by decide +kernel
theorem d14_18 : decode jdk_42_method_139_code 18 = .ok (.invokestatic 1018, 3) := by decide +kernel
theorem d14_21 : decode jdk_42_method_139_code 21 = .ok (.iconst 0, 1) := by decide +kernel
theorem d14_22 : decode jdk_42_method_139_code 22 = .ok (.invokespecial 209, 3) := by decide +kernel
theorem d14_25 : decode jdk_42_method_139_code 25 = .ok (.areturn, 1) := by decide +kernel
theorem d14_26 : decode jdk_42_method_139_code 26 = .ok (.new 10, 3) := by decide +kernel
theorem d14_29 : decode jdk_42_method_139_code 29 = .ok (.dup, 1) := by decide +kernel
theorem d14_30 : decode jdk_42_method_139_code 30 = .ok (.iload_n 0, 1) := by decide +kernel
theorem d14_31 : decode jdk_42_method_139_code 31 = .ok (.invokestatic 1021, 3) := by decide +kernel
theorem d14_34 : decode jdk_42_method_139_code 34 = .ok (.iconst 1, 1) := by decide +kernel
theorem d14_35 : decode jdk_42_method_139_code 35 = .ok (.invokespecial 209, 3) := by decide +kernel
theorem d14_38 : decode jdk_42_method_139_code 38 = .ok (.areturn, 1) := by decide +kernel
theorem pn_14 : plainFor (⟨"java/lang/String", "valueOf", "(C)Ljava/lang/String;"⟩ : MethodName) = true := plainFor_of_name (by first | (simp [plainName, overriddenIn]; done) | decide +kernel)
theorem pd__C_Z : parseMethodDescriptor "(C)Z" = some ⟨[.char], some .boolean⟩ := by decide +kernel
theorem pd__C__B : parseMethodDescriptor "(C)[B" = some ⟨[.char], some (.array .byte)⟩ := by decide +kernel
theorem pd___BB_V : parseMethodDescriptor "([BB)V" = some ⟨[(.array .byte), .byte], none⟩ := by decide +kernel
theorem ef_con_voc (m : MethodId) (c : Int32) (cz : Int32)  : entryFrame m #[(.int c)] 1 = mkF m 0 #[.val (.int c)] [] := by first | (simp [entryFrame, mkF, argsToLocals, Value.category]; done) | rfl
set_option maxRecDepth 65536 in
set_option maxHeartbeats 40000000 in
theorem con_voc (l : Launch) (Z : State) (a0 : Array Value) (hw : ∀ d ∈ tables_1, d.before a0 Z = true) (n0 : Nat) (h0 : Heap) (Z0 : n0 ≤ h0.size) (c : Int32) (cz : Int32) (od0 : Old Z n0 h0) (SD : Sta Z Z.heap "java/lang/StringUTF16" "$assertionsDisabled" "Z" (.int (1 : Int32))) (SH8 : Sta Z Z.heap "java/lang/StringUTF16" "HI_BYTE_SHIFT" "I" (.int (0 : Int32))) (SL8 : Sta Z Z.heap "java/lang/StringUTF16" "LO_BYTE_SHIFT" "I" (.int (8 : Int32))) (SZ : Sta Z Z.heap "java/lang/String" "COMPACT_STRINGS" "Z" (.int cz)) (hcz : ¬ cz = 0) :
    Con l Z n0 (⟨"java/lang/String", "valueOf", "(C)Ljava/lang/String;"⟩ : MethodName) jdk_42_method_139_code 1 (some (.object "java/lang/String")) ({ frames := 2, cells := 2, slots := 6, locals := 29 } : Room) #[(.int c)] h0 (Val fun w h' => ∃ t b, w = .ref t ∧ h0.size ≤ t ∧ Ext h0 h' ∧ Exa Z h' t "java/lang/String" ∧ Fld Z h' t "java/lang/String" "value" "[B" (.ref b) ∧ Fld Z h' t "java/lang/String" "coder" "B" (.int (own_coder [c])) ∧ Ary Z h' b .byte (own_enc [c])) := by
  refine Con.of_run pn_14 (fun m => ef_con_voc m c cz ) ?_
  refine Run.getS d14_0 (host := "") (Or.inl (hw _ (List.mem_of_getElem? (i := 19) rfl))) Via.refl (SZ.ext od0.2) (pc' := 3) rfl ?_
  refine Run.if_eq d14_3 (by decide) (pc' := 26) (by decide) (pa := 6) rfl (fun hc3 => ?_) (fun hc3 => ?_)
  · -- pc 3 taken: cz = (0 : Int32)
    exact absurd hc3 hcz
  · -- pc 3 not taken: ¬ cz = (0 : Int32)
    refine Run.iloadN d14_6 rfl (pc' := 7) rfl ?_
    refine Run.callS (k' := 0) (n' := 0) (as := [(.int c)]) (rest := []) (con_own_can l Z a0 hw n0 h0 Z0 c ) d14_7 (hw _ (List.mem_of_getElem? (i := 66) rfl)) (hw _ (List.mem_of_getElem? (i := 67) rfl)) (hw _ (List.mem_of_getElem? (i := 68) rfl)) (hw _ (List.mem_of_getElem? (i := 69) rfl)) (by decide) pd__C_Z rfl rfl rfl (by decide) (by show (0 : Nat) + (1 + 11) + 0 ≤ _; decide) (by decide) (by decide) (by decide) (by decide) (pc' := 10) rfl ?_
    rintro _ _ ⟨_, rfl, rfl, rfl⟩
    show Run l Z n0 "java/lang/String" jdk_42_method_139_code 1 (some (.object "java/lang/String")) "valueOf" ({ frames := 2, cells := 2, slots := 6, locals := 29 } : Room) _ 10 #[.val (.int c)] [(.int (own_can c))] h0 0 0
    refine Run.if_eq d14_10 (by decide) (pc' := 26) (by decide) (pa := 13) rfl (fun hc10 => ?_) (fun hc10 => ?_)
    · -- pc 10 taken: (own_can c) = (0 : Int32)
      refine Run.newO (k' := 1) (n' := 4) d14_26 (hw _ (List.mem_of_getElem? (i := 70) rfl)) (hw _ (List.mem_of_getElem? (i := 6) rfl)) (hw _ (List.mem_of_getElem? (i := 7) rfl)) (by decide) (by decide) (by decide) (by decide) (pc' := 29) rfl ?_
      intro h11 b11 g11 E11 X11 D11
      have ge_b11 : n0 ≤ b11 := by rw [g11]; exact Z0
      have bo_b11 : h0.size ≤ b11 := by rw [g11]; exact (Keep.refl h0 []).1
      have sz11 : n0 ≤ h11.size := Nat.le_trans Z0 E11.1
      have kp11 := Keep.ext (Keep.refl h0 []) E11
      have od11 := od0.ext E11
      have F_b11_coder : Fld Z h11 b11 "java/lang/String" "coder" "B" (.int (0 : Int32)) := D11 (Or.inr (hw _ (List.mem_of_getElem? (i := 32) rfl))) (ty := .byte) (by decide)
      have F_b11_value : Fld Z h11 b11 "java/lang/String" "value" "[B" .null := D11 (Or.inr (hw _ (List.mem_of_getElem? (i := 34) rfl))) (ty := (.array .byte)) (by decide)
      refine Run.dup d14_29 rfl (pc' := 30) rfl ?_
      refine Run.iloadN d14_30 rfl (pc' := 31) rfl ?_
      refine Run.callS (k' := 2) (n' := 6) (as := [(.int c)]) (rest := [(.ref b11), (.ref b11)]) (con_utb l Z a0 hw n0 h11 sz11 c od11 SD SH8 SL8) d14_31 (hw _ (List.mem_of_getElem? (i := 71) rfl)) (hw _ (List.mem_of_getElem? (i := 72) rfl)) (hw _ (List.mem_of_getElem? (i := 22) rfl)) (hw _ (List.mem_of_getElem? (i := 73) rfl)) (by decide) pd__C__B rfl rfl rfl (by decide) (by show (2 : Nat) + (2 + 11) + 14 ≤ _; decide) (by decide) (by decide) (by decide) (by decide) (pc' := 34) rfl ?_
      rintro _ h12 ⟨_, rfl, ⟨b12, rfl, bw12, E12, P12⟩⟩
      show Run l Z n0 "java/lang/String" jdk_42_method_139_code 1 (some (.object "java/lang/String")) "valueOf" ({ frames := 2, cells := 2, slots := 6, locals := 29 } : Room) _ 34 #[.val (.int c)] [(.ref b12), (.ref b11), (.ref b11)] h12 2 6
      have ge_b12 : n0 ≤ b12 := Nat.le_trans sz11 bw12
      have bo_b12 : h0.size ≤ b12 := Nat.le_trans kp11.1 bw12
      have ne_b11_b12 : b11 ≠ b12 := Nat.ne_of_lt (Nat.lt_of_lt_of_le X11.lt bw12)
      have E_b11_12 := X11.ext E12
      have F_b11_coder_12 := F_b11_coder.ext E12
      have F_b11_value_12 := F_b11_value.ext E12
      have sz12 : n0 ≤ h12.size := Nat.le_trans sz11 E12.1
      have kp12 := Keep.ext kp11 E12
      have od12 := od11.ext E12
      refine Run.iconst (1 : Int32) d14_34 (by decide) (pc' := 35) rfl ?_
      refine Run.callN (k' := 2) (n' := 6) (a := b11) (as := [(.ref b12), (.int (1 : Int32))]) (rest := [(.ref b11)]) (con_ibb l Z a0 hw n0 h12 sz12 b11 b12 (1 : Int32) .null (.int (0 : Int32)) E_b11_12 F_b11_value_12 F_b11_coder_12 ge_b11 rfl rfl) rfl d14_35 (hw _ (List.mem_of_getElem? (i := 80) rfl)) (hw _ (List.mem_of_getElem? (i := 81) rfl)) (hw _ (List.mem_of_getElem? (i := 7) rfl)) (hw _ (List.mem_of_getElem? (i := 82) rfl)) (by decide) pd___BB_V rfl rfl rfl (by decide) (by show (1 : Nat) + (3 + 11) + 12 ≤ _; decide) (by decide) (by decide) (by decide) (by decide) (pc' := 38) rfl ?_
      rintro h13 ⟨K13, P13, R13⟩
      show Run l Z n0 "java/lang/String" jdk_42_method_139_code 1 (some (.object "java/lang/String")) "valueOf" ({ frames := 2, cells := 2, slots := 6, locals := 29 } : Room) _ 38 #[.val (.int c)] [(.ref b11)] h13 2 6
      have E_b11_13 := E_b11_12.keep K13
      have A_b12_13 := P12.keep K13 (ninS (Ne.symm ne_b11_b12) nin0)
      have sz13 : n0 ≤ h13.size := Nat.le_trans sz12 K13.1
      have kp13 := Keep.trans kp12 K13 (allS (Or.inr bo_b11) all0)
      have od13 := od12.keep K13 (allS ge_b11 all0)
      exact Run.areturn d14_38 (ty := (.object "java/lang/String")) rfl rfl rfl (by decide) (by decide) ⟨_, rfl, b11, b12, rfl, bo_b11, Keep.toExt kp13, E_b11_13, P13, (by rw [(own_can0 hc10).1]; exact R13), (by rw [(own_can0 hc10).2]; exact A_b12_13)⟩
    · -- pc 10 not taken: ¬ (own_can c) = (0 : Int32)
      refine Run.newO (k' := 1) (n' := 4) d14_13 (hw _ (List.mem_of_getElem? (i := 70) rfl)) (hw _ (List.mem_of_getElem? (i := 6) rfl)) (hw _ (List.mem_of_getElem? (i := 7) rfl)) (by decide) (by decide) (by decide) (by decide) (pc' := 16) rfl ?_
      intro h14 b14 g14 E14 X14 D14
      have ge_b14 : n0 ≤ b14 := by rw [g14]; exact Z0
      have bo_b14 : h0.size ≤ b14 := by rw [g14]; exact (Keep.refl h0 []).1
      have sz14 : n0 ≤ h14.size := Nat.le_trans Z0 E14.1
      have kp14 := Keep.ext (Keep.refl h0 []) E14
      have od14 := od0.ext E14
      have F_b14_coder : Fld Z h14 b14 "java/lang/String" "coder" "B" (.int (0 : Int32)) := D14 (Or.inr (hw _ (List.mem_of_getElem? (i := 32) rfl))) (ty := .byte) (by decide)
      have F_b14_value : Fld Z h14 b14 "java/lang/String" "value" "[B" .null := D14 (Or.inr (hw _ (List.mem_of_getElem? (i := 34) rfl))) (ty := (.array .byte)) (by decide)
      refine Run.dup d14_16 rfl (pc' := 17) rfl ?_
      refine Run.iloadN d14_17 rfl (pc' := 18) rfl ?_
      refine Run.callS (k' := 2) (n' := 5) (as := [(.int c)]) (rest := [(.ref b14), (.ref b14)]) (con_ltb l Z a0 hw n0 h14 sz14 c) d14_18 (hw _ (List.mem_of_getElem? (i := 126) rfl)) (hw _ (List.mem_of_getElem? (i := 127) rfl)) (hw _ (List.mem_of_getElem? (i := 68) rfl)) (hw _ (List.mem_of_getElem? (i := 128) rfl)) (by decide) pd__C__B rfl rfl rfl (by decide) (by show (2 : Nat) + (1 + 11) + 0 ≤ _; decide) (by decide) (by decide) (by decide) (by decide) (pc' := 21) rfl ?_
      rintro _ h15 ⟨_, rfl, ⟨b15, rfl, bw15, E15, P15⟩⟩
      show Run l Z n0 "java/lang/String" jdk_42_method_139_code 1 (some (.object "java/lang/String")) "valueOf" ({ frames := 2, cells := 2, slots := 6, locals := 29 } : Room) _ 21 #[.val (.int c)] [(.ref b15), (.ref b14), (.ref b14)] h15 2 5
      have ge_b15 : n0 ≤ b15 := Nat.le_trans sz14 bw15
      have bo_b15 : h0.size ≤ b15 := Nat.le_trans kp14.1 bw15
      have ne_b14_b15 : b14 ≠ b15 := Nat.ne_of_lt (Nat.lt_of_lt_of_le X14.lt bw15)
      have E_b14_15 := X14.ext E15
      have F_b14_coder_15 := F_b14_coder.ext E15
      have F_b14_value_15 := F_b14_value.ext E15
      have sz15 : n0 ≤ h15.size := Nat.le_trans sz14 E15.1
      have kp15 := Keep.ext kp14 E15
      have od15 := od14.ext E15
      refine Run.iconst (0 : Int32) d14_21 (by decide) (pc' := 22) rfl ?_
      refine Run.callN (k' := 2) (n' := 5) (a := b14) (as := [(.ref b15), (.int (0 : Int32))]) (rest := [(.ref b14)]) (con_ibb l Z a0 hw n0 h15 sz15 b14 b15 (0 : Int32) .null (.int (0 : Int32)) E_b14_15 F_b14_value_15 F_b14_coder_15 ge_b14 rfl rfl) rfl d14_22 (hw _ (List.mem_of_getElem? (i := 80) rfl)) (hw _ (List.mem_of_getElem? (i := 81) rfl)) (hw _ (List.mem_of_getElem? (i := 7) rfl)) (hw _ (List.mem_of_getElem? (i := 82) rfl)) (by decide) pd___BB_V rfl rfl rfl (by decide) (by show (1 : Nat) + (3 + 11) + 12 ≤ _; decide) (by decide) (by decide) (by decide) (by decide) (pc' := 25) rfl ?_
      rintro h16 ⟨K16, P16, R16⟩
      show Run l Z n0 "java/lang/String" jdk_42_method_139_code 1 (some (.object "java/lang/String")) "valueOf" ({ frames := 2, cells := 2, slots := 6, locals := 29 } : Room) _ 25 #[.val (.int c)] [(.ref b14)] h16 2 5
      have E_b14_16 := E_b14_15.keep K16
      have A_b15_16 := P15.keep K16 (ninS (Ne.symm ne_b14_b15) nin0)
      have sz16 : n0 ≤ h16.size := Nat.le_trans sz15 K16.1
      have kp16 := Keep.trans kp15 K16 (allS (Or.inr bo_b14) all0)
      have od16 := od15.keep K16 (allS ge_b14 all0)
      exact Run.areturn d14_25 (ty := (.object "java/lang/String")) rfl rfl rfl (by decide) (by decide) ⟨_, rfl, b14, b15, rfl, bo_b14, Keep.toExt kp16, E_b14_16, P16, (by rw [(own_can1 hc10).1]; exact R16), (by rw [(own_can1 hc10).2]; exact A_b15_16)⟩
def own_EL : List (String × Nat) := [("com/example/callimachus/callimachus/PackageIdCompareUtf8PinLaw", 10)]
theorem own_EW {Z : State} {a0 : Array Value} (hw : ∀ d ∈ tables_1, d.before a0 Z = true) : EW Z a0 own_EL := EW.cons (hw _ (List.mem_of_getElem? (i := 35) rfl)) (by decide) (EW.nil)
theorem own_wS {Z : State} {a0 : Array Value} (hw : ∀ d ∈ tables_1, d.before a0 Z = true) : ∀ a ∈ Bundle.stringAtoms, a.before a0 Z = true := by
  intro d hd
  simp only [Bundle.stringAtoms, List.mem_cons, List.not_mem_nil, or_false] at hd
  rcases hd with rfl | rfl | rfl | rfl | rfl | rfl | rfl
  · exact (hw _ (List.mem_of_getElem? (i := 7) rfl))
  · exact (hw _ (List.mem_of_getElem? (i := 6) rfl))
  · exact (hw _ (List.mem_of_getElem? (i := 24) rfl))
  · exact (hw _ (List.mem_of_getElem? (i := 34) rfl))
  · exact (hw _ (List.mem_of_getElem? (i := 32) rfl))
  · exact (hw _ (List.mem_of_getElem? (i := 36) rfl))
  · exact (hw _ (List.mem_of_getElem? (i := 37) rfl))
theorem own_heldc {tb : Tables} {e : Env} {args : Array Value} {s : State} (h : Calls_1 tb e args s) : ∀ p ∈ own_EL, Jvm.Lit.constHeld s p.1 p.2 := by
  intro p hp
  refine h.1 p ?_
  have : ∀ p ∈ own_EL, p ∈ consts_1 := by decide
  exact this p hp
def own_sgn (p1 : Int32) : Int32 := (if p1 < (0 : Int32) then (-1 : Int32) else (if (0 : Int32) < p1 then (1 : Int32) else (0 : Int32)))
theorem d8_0 : decode method_2_code 0 = .ok (.iload_n 0, 1) := by decide +kernel
theorem d8_1 : decode method_2_code 1 = .ok (.ifCond .ge 7, 3) := by decide +kernel
theorem d8_4 : decode method_2_code 4 = .ok (.iconst (-1), 1) := by decide +kernel
theorem d8_5 : decode method_2_code 5 = .ok (.goto 12, 3) := by decide +kernel
theorem d8_8 : decode method_2_code 8 = .ok (.iload_n 0, 1) := by decide +kernel
theorem d8_9 : decode method_2_code 9 = .ok (.ifCond .le 7, 3) := by decide +kernel
theorem d8_12 : decode method_2_code 12 = .ok (.iconst 1, 1) := by decide +kernel
theorem d8_13 : decode method_2_code 13 = .ok (.goto 4, 3) := by decide +kernel
theorem d8_16 : decode method_2_code 16 = .ok (.iconst 0, 1) := by decide +kernel
theorem d8_17 : decode method_2_code 17 = .ok (.ireturn, 1) := by decide +kernel
theorem pn_8 : plainFor (⟨"com/example/callimachus/callimachus/PackageIdCompareUtf8PinLaw", "sgn", "(I)I"⟩ : MethodName) = true := plainFor_of_name (by first | (simp [plainName, overriddenIn]; done) | decide +kernel)
theorem ef_con_own_sgn (m : MethodId) (p1 : Int32)  : entryFrame m #[(.int p1)] 1 = mkF m 0 #[.val (.int p1)] [] := by first | (simp [entryFrame, mkF, argsToLocals, Value.category]; done) | rfl
set_option maxRecDepth 65536 in
set_option maxHeartbeats 40000000 in
theorem con_own_sgn (l : Launch) (Z : State) (a0 : Array Value) (hw : ∀ d ∈ tables_1, d.before a0 Z = true) (n0 : Nat) (h0 : Heap) (Z0 : n0 ≤ h0.size) (p1 : Int32)  :
    Con l Z n0 (⟨"com/example/callimachus/callimachus/PackageIdCompareUtf8PinLaw", "sgn", "(I)I"⟩ : MethodName) method_2_code 1 (some .int) ({ frames := 0, cells := 0, slots := 0, locals := 0 } : Room) #[(.int p1)] h0 (Val (PV (.int (own_sgn p1)) h0)) := by
  refine Con.of_run pn_8 (fun m => ef_con_own_sgn m p1 ) ?_
  refine Run.iloadN d8_0 rfl (pc' := 1) rfl ?_
  refine Run.if_ge d8_1 (by decide) (pc' := 8) (by decide) (pa := 4) rfl (fun hc1 => ?_) (fun hc1 => ?_)
  · -- pc 1 taken: ¬ p1 < (0 : Int32)
    refine Run.iloadN d8_8 rfl (pc' := 9) rfl ?_
    refine Run.if_le d8_9 (by decide) (pc' := 16) (by decide) (pa := 12) rfl (fun hc9 => ?_) (fun hc9 => ?_)
    · -- pc 9 taken: ¬ (0 : Int32) < p1
      refine Run.iconst (0 : Int32) d8_16 (by decide) (pc' := 17) rfl ?_
      exact Run.ireturn d8_17 rfl (by decide) (by decide) ⟨_, rfl, congrArg Value.int (by unfold own_sgn; rw [if_neg hc1, if_neg hc9] <;> rfl), rfl⟩
    · -- pc 9 not taken: (0 : Int32) < p1
      refine Run.iconst (1 : Int32) d8_12 (by decide) (pc' := 13) rfl ?_
      refine Run.goto d8_13 (by decide) (pc' := 17) (by decide) ?_
      exact Run.ireturn d8_17 rfl (by decide) (by decide) ⟨_, rfl, congrArg Value.int (by unfold own_sgn; rw [if_neg hc1, if_pos hc9] <;> rfl), rfl⟩
  · -- pc 1 not taken: p1 < (0 : Int32)
    refine Run.iconst (-1 : Int32) d8_4 (by decide) (pc' := 5) rfl ?_
    refine Run.goto d8_5 (by decide) (pc' := 17) (by decide) ?_
    exact Run.ireturn d8_17 rfl (by decide) (by decide) ⟨_, rfl, congrArg Value.int (by unfold own_sgn; rw [if_pos hc1] <;> rfl), rfl⟩
def own_key (p1 : Int32) : Int32 := (if p1 < (55296 : Int32) then p1 else (if p1 < (57344 : Int32) then (p1 + (65536 : Int32)) else p1))
theorem d19_0 : decode method_3_code 0 = .ok (.iload_n 0, 1) := by decide +kernel
theorem d19_1 : decode method_3_code 1 = .ok (.istore_n 1, 1) := by decide +kernel
theorem d19_2 : decode method_3_code 2 = .ok (.iload_n 0, 1) := by decide +kernel
theorem d19_3 : decode method_3_code 3 = .ok (.ldc 7, 2) := by decide +kernel
theorem d19_5 : decode method_3_code 5 = .ok (.if_icmp .lt 14, 3) := by decide +kernel
theorem d19_8 : decode method_3_code 8 = .ok (.iload_n 0, 1) := by decide +kernel
theorem d19_9 : decode method_3_code 9 = .ok (.ldc 8, 2) := by decide +kernel
theorem d19_11 : decode method_3_code 11 = .ok (.if_icmp .ge 8, 3) := by decide +kernel
theorem d19_14 : decode method_3_code 14 = .ok (.iload_n 0, 1) := by decide +kernel
theorem d19_15 : decode method_3_code 15 = .ok (.ldc 9, 2) := by decide +kernel
theorem d19_17 : decode method_3_code 17 = .ok (.iadd, 1) := by decide +kernel
theorem d19_18 : decode method_3_code 18 = .ok (.istore_n 1, 1) := by decide +kernel
theorem d19_19 : decode method_3_code 19 = .ok (.iload_n 1, 1) := by decide +kernel
theorem d19_20 : decode method_3_code 20 = .ok (.ireturn, 1) := by decide +kernel
theorem pn_19 : plainFor (⟨"com/example/callimachus/callimachus/PackageIdCompareUtf8PinLaw", "key", "(C)I"⟩ : MethodName) = true := plainFor_of_name (by first | (simp [plainName, overriddenIn]; done) | decide +kernel)
theorem ef_con_own_key (m : MethodId) (p1 : Int32)  : entryFrame m #[(.int p1)] 2 = mkF m 0 #[.val (.int p1), .unset] [] := by first | (simp [entryFrame, mkF, argsToLocals, Value.category]; done) | rfl
set_option maxRecDepth 65536 in
set_option maxHeartbeats 40000000 in
theorem con_own_key (l : Launch) (Z : State) (a0 : Array Value) (hw : ∀ d ∈ tables_1, d.before a0 Z = true) (n0 : Nat) (h0 : Heap) (Z0 : n0 ≤ h0.size) (p1 : Int32)  :
    Con l Z n0 (⟨"com/example/callimachus/callimachus/PackageIdCompareUtf8PinLaw", "key", "(C)I"⟩ : MethodName) method_3_code 2 (some .int) ({ frames := 0, cells := 0, slots := 0, locals := 0 } : Room) #[(.int p1)] h0 (Val (PV (.int (own_key p1)) h0)) := by
  refine Con.of_run pn_19 (fun m => ef_con_own_key m p1 ) ?_
  refine Run.iloadN d19_0 rfl (pc' := 1) rfl ?_
  refine Run.istoreN (l' := #[.val (.int p1), .val (.int p1)]) d19_1 rfl (pc' := 2) rfl ?_
  refine Run.iloadN d19_2 rfl (pc' := 3) rfl ?_
  refine Run.ldcI (v := (55296 : Int32)) d19_3 (hw _ (List.mem_of_getElem? (i := 86) rfl)) (pc' := 5) rfl ?_
  refine Run.icmp_lt d19_5 (by decide) (pc' := 19) (by decide) (pa := 8) rfl (fun hc5 => ?_) (fun hc5 => ?_)
  · -- pc 5 taken: p1 < (55296 : Int32)
    refine Run.iloadN d19_19 rfl (pc' := 20) rfl ?_
    exact Run.ireturn d19_20 rfl (by decide) (by decide) ⟨_, rfl, congrArg Value.int (by unfold own_key; rw [if_pos hc5] <;> rfl), rfl⟩
  · -- pc 5 not taken: ¬ p1 < (55296 : Int32)
    refine Run.iloadN d19_8 rfl (pc' := 9) rfl ?_
    refine Run.ldcI (v := (57344 : Int32)) d19_9 (hw _ (List.mem_of_getElem? (i := 133) rfl)) (pc' := 11) rfl ?_
    refine Run.icmp_ge d19_11 (by decide) (pc' := 19) (by decide) (pa := 14) rfl (fun hc11 => ?_) (fun hc11 => ?_)
    · -- pc 11 taken: ¬ p1 < (57344 : Int32)
      refine Run.iloadN d19_19 rfl (pc' := 20) rfl ?_
      exact Run.ireturn d19_20 rfl (by decide) (by decide) ⟨_, rfl, congrArg Value.int (by unfold own_key; rw [if_neg hc5, if_neg hc11] <;> rfl), rfl⟩
    · -- pc 11 not taken: p1 < (57344 : Int32)
      refine Run.iloadN d19_14 rfl (pc' := 15) rfl ?_
      refine Run.ldcI (v := (65536 : Int32)) d19_15 (hw _ (List.mem_of_getElem? (i := 145) rfl)) (pc' := 17) rfl ?_
      refine Run.iadd d19_17 (pc' := 18) rfl ?_
      refine Run.istoreN (l' := #[.val (.int p1), .val (.int (p1 + (65536 : Int32)))]) d19_18 rfl (pc' := 19) rfl ?_
      refine Run.iloadN d19_19 rfl (pc' := 20) rfl ?_
      exact Run.ireturn d19_20 rfl (by decide) (by decide) ⟨_, rfl, congrArg Value.int (by unfold own_key; rw [if_neg hc5, if_pos hc11] <;> rfl), rfl⟩
def own_min (p1 : Int32) (p2 : Int32) : Int32 := (if p2 < p1 then p2 else p1)
theorem d12_0 : decode jdk_29_method_69_code 0 = .ok (.iload_n 0, 1) := by decide +kernel
theorem d12_1 : decode jdk_29_method_69_code 1 = .ok (.iload_n 1, 1) := by decide +kernel
theorem d12_2 : decode jdk_29_method_69_code 2 = .ok (.if_icmp .gt 7, 3) := by decide +kernel
theorem d12_5 : decode jdk_29_method_69_code 5 = .ok (.iload_n 0, 1) := by decide +kernel
theorem d12_6 : decode jdk_29_method_69_code 6 = .ok (.goto 4, 3) := by decide +kernel
theorem d12_9 : decode jdk_29_method_69_code 9 = .ok (.iload_n 1, 1) := by decide +kernel
theorem d12_10 : decode jdk_29_method_69_code 10 = .ok (.ireturn, 1) := by decide +kernel
theorem pn_12 : plainFor (⟨"java/lang/Math", "min", "(II)I"⟩ : MethodName) = true := by decide +kernel
theorem ef_con_own_min (m : MethodId) (p1 : Int32) (p2 : Int32)  : entryFrame m #[(.int p1), (.int p2)] 2 = mkF m 0 #[.val (.int p1), .val (.int p2)] [] := by first | (simp [entryFrame, mkF, argsToLocals, Value.category]; done) | rfl
set_option maxRecDepth 65536 in
set_option maxHeartbeats 40000000 in
theorem con_own_min (l : Launch) (Z : State) (a0 : Array Value) (hw : ∀ d ∈ tables_1, d.before a0 Z = true) (n0 : Nat) (h0 : Heap) (Z0 : n0 ≤ h0.size) (p1 : Int32) (p2 : Int32)  :
    Con l Z n0 (⟨"java/lang/Math", "min", "(II)I"⟩ : MethodName) jdk_29_method_69_code 2 (some .int) ({ frames := 0, cells := 0, slots := 0, locals := 0 } : Room) #[(.int p1), (.int p2)] h0 (Val (PV (.int (own_min p1 p2)) h0)) := by
  refine Con.of_run pn_12 (fun m => ef_con_own_min m p1 p2 ) ?_
  refine Run.iloadN d12_0 rfl (pc' := 1) rfl ?_
  refine Run.iloadN d12_1 rfl (pc' := 2) rfl ?_
  refine Run.icmp_gt d12_2 (by decide) (pc' := 9) (by decide) (pa := 5) rfl (fun hc2 => ?_) (fun hc2 => ?_)
  · -- pc 2 taken: p2 < p1
    refine Run.iloadN d12_9 rfl (pc' := 10) rfl ?_
    exact Run.ireturn d12_10 rfl (by decide) (by decide) ⟨_, rfl, congrArg Value.int (by unfold own_min; rw [if_pos hc2] <;> rfl), rfl⟩
  · -- pc 2 not taken: ¬ p2 < p1
    refine Run.iloadN d12_5 rfl (pc' := 6) rfl ?_
    refine Run.goto d12_6 (by decide) (pc' := 10) (by decide) ?_
    exact Run.ireturn d12_10 rfl (by decide) (by decide) ⟨_, rfl, congrArg Value.int (by unfold own_min; rw [if_neg hc2] <;> rfl), rfl⟩
def own_icmp (p1 : Int32) (p2 : Int32) : Int32 := (if p1 < p2 then (-1 : Int32) else (if p1 = p2 then (0 : Int32) else (1 : Int32)))
theorem d13_0 : decode jdk_33_method_40_code 0 = .ok (.iload_n 0, 1) := by decide +kernel
theorem d13_1 : decode jdk_33_method_40_code 1 = .ok (.iload_n 1, 1) := by decide +kernel
theorem d13_2 : decode jdk_33_method_40_code 2 = .ok (.if_icmp .ge 7, 3) := by decide +kernel
theorem d13_5 : decode jdk_33_method_40_code 5 = .ok (.iconst (-1), 1) := by decide +kernel
theorem d13_6 : decode jdk_33_method_40_code 6 = .ok (.goto 13, 3) := by decide +kernel
theorem d13_9 : decode jdk_33_method_40_code 9 = .ok (.iload_n 0, 1) := by decide +kernel
theorem d13_10 : decode jdk_33_method_40_code 10 = .ok (.iload_n 1, 1) := by decide +kernel
theorem d13_11 : decode jdk_33_method_40_code 11 = .ok (.if_icmp .ne 7, 3) := by decide +kernel
theorem d13_14 : decode jdk_33_method_40_code 14 = .ok (.iconst 0, 1) := by decide +kernel
theorem d13_15 : decode jdk_33_method_40_code 15 = .ok (.goto 4, 3) := by decide +kernel
theorem d13_18 : decode jdk_33_method_40_code 18 = .ok (.iconst 1, 1) := by decide +kernel
theorem d13_19 : decode jdk_33_method_40_code 19 = .ok (.ireturn, 1) := by decide +kernel
theorem pn_13 : plainFor (⟨"java/lang/Integer", "compare", "(II)I"⟩ : MethodName) = true := plainFor_of_name (by first | (simp [plainName, overriddenIn]; done) | decide +kernel)
theorem ef_con_own_icmp (m : MethodId) (p1 : Int32) (p2 : Int32)  : entryFrame m #[(.int p1), (.int p2)] 2 = mkF m 0 #[.val (.int p1), .val (.int p2)] [] := by first | (simp [entryFrame, mkF, argsToLocals, Value.category]; done) | rfl
set_option maxRecDepth 65536 in
set_option maxHeartbeats 40000000 in
theorem con_own_icmp (l : Launch) (Z : State) (a0 : Array Value) (hw : ∀ d ∈ tables_1, d.before a0 Z = true) (n0 : Nat) (h0 : Heap) (Z0 : n0 ≤ h0.size) (p1 : Int32) (p2 : Int32)  :
    Con l Z n0 (⟨"java/lang/Integer", "compare", "(II)I"⟩ : MethodName) jdk_33_method_40_code 2 (some .int) ({ frames := 0, cells := 0, slots := 0, locals := 0 } : Room) #[(.int p1), (.int p2)] h0 (Val (PV (.int (own_icmp p1 p2)) h0)) := by
  refine Con.of_run pn_13 (fun m => ef_con_own_icmp m p1 p2 ) ?_
  refine Run.iloadN d13_0 rfl (pc' := 1) rfl ?_
  refine Run.iloadN d13_1 rfl (pc' := 2) rfl ?_
  refine Run.icmp_ge d13_2 (by decide) (pc' := 9) (by decide) (pa := 5) rfl (fun hc2 => ?_) (fun hc2 => ?_)
  · -- pc 2 taken: ¬ p1 < p2
    refine Run.iloadN d13_9 rfl (pc' := 10) rfl ?_
    refine Run.iloadN d13_10 rfl (pc' := 11) rfl ?_
    refine Run.icmp_ne d13_11 (by decide) (pc' := 18) (by decide) (pa := 14) rfl (fun hc11 => ?_) (fun hc11 => ?_)
    · -- pc 11 taken: ¬ p1 = p2
      refine Run.iconst (1 : Int32) d13_18 (by decide) (pc' := 19) rfl ?_
      exact Run.ireturn d13_19 rfl (by decide) (by decide) ⟨_, rfl, congrArg Value.int (by unfold own_icmp; rw [if_neg hc2, if_neg hc11] <;> rfl), rfl⟩
    · -- pc 11 not taken: p1 = p2
      refine Run.iconst (0 : Int32) d13_14 (by decide) (pc' := 15) rfl ?_
      refine Run.goto d13_15 (by decide) (pc' := 19) (by decide) ?_
      exact Run.ireturn d13_19 rfl (by decide) (by decide) ⟨_, rfl, congrArg Value.int (by unfold own_icmp; rw [if_neg hc2, if_pos hc11] <;> rfl), rfl⟩
  · -- pc 2 not taken: p1 < p2
    refine Run.iconst (-1 : Int32) d13_5 (by decide) (pc' := 6) rfl ?_
    refine Run.goto d13_6 (by decide) (pc' := 19) (by decide) ?_
    exact Run.ireturn d13_19 rfl (by decide) (by decide) ⟨_, rfl, congrArg Value.int (by unfold own_icmp; rw [if_pos hc2] <;> rfl), rfl⟩
def own_sur (p1 : Int32) : Int32 := (if p1 < (55296 : Int32) then (0 : Int32) else (if p1 < (57344 : Int32) then (1 : Int32) else (0 : Int32)))
theorem d29_0 : decode jdk_89_method_16_code 0 = .ok (.iload_n 0, 1) := by decide +kernel
theorem d29_1 : decode jdk_89_method_16_code 1 = .ok (.ldc 75, 2) := by decide +kernel
theorem d29_3 : decode jdk_89_method_16_code 3 = .ok (.if_icmp .lt 13, 3) := by decide +kernel
theorem d29_6 : decode jdk_89_method_16_code 6 = .ok (.iload_n 0, 1) := by decide +kernel
theorem d29_7 : decode jdk_89_method_16_code 7 = .ok (.ldc 77, 2) := by decide +kernel
theorem d29_9 : decode jdk_89_method_16_code 9 = .ok (.if_icmp .ge 7, 3) := by decide +kernel
theorem d29_12 : decode jdk_89_method_16_code 12 = .ok (.iconst 1, 1) := by decide +kernel
theorem d29_13 : decode jdk_89_method_16_code 13 = .ok (.goto 4, 3) := by decide +kernel
theorem d29_16 : decode jdk_89_method_16_code 16 = .ok (.iconst 0, 1) := by decide +kernel
theorem d29_17 : decode jdk_89_method_16_code 17 = .ok (.ireturn, 1) := by decide +kernel
theorem pn_29 : plainFor (⟨"java/lang/Character", "isSurrogate", "(C)Z"⟩ : MethodName) = true := plainFor_of_name (by first | (simp [plainName, overriddenIn]; done) | decide +kernel)
theorem ef_con_own_sur (m : MethodId) (p1 : Int32)  : entryFrame m #[(.int p1)] 1 = mkF m 0 #[.val (.int p1)] [] := by first | (simp [entryFrame, mkF, argsToLocals, Value.category]; done) | rfl
set_option maxRecDepth 65536 in
set_option maxHeartbeats 40000000 in
theorem con_own_sur (l : Launch) (Z : State) (a0 : Array Value) (hw : ∀ d ∈ tables_1, d.before a0 Z = true) (n0 : Nat) (h0 : Heap) (Z0 : n0 ≤ h0.size) (p1 : Int32)  :
    Con l Z n0 (⟨"java/lang/Character", "isSurrogate", "(C)Z"⟩ : MethodName) jdk_89_method_16_code 1 (some .boolean) ({ frames := 0, cells := 0, slots := 0, locals := 0 } : Room) #[(.int p1)] h0 (Val (PV (.int (own_sur p1)) h0)) := by
  refine Con.of_run pn_29 (fun m => ef_con_own_sur m p1 ) ?_
  refine Run.iloadN d29_0 rfl (pc' := 1) rfl ?_
  refine Run.ldcI (v := (55296 : Int32)) d29_1 (hw _ (List.mem_of_getElem? (i := 124) rfl)) (pc' := 3) rfl ?_
  refine Run.icmp_lt d29_3 (by decide) (pc' := 16) (by decide) (pa := 6) rfl (fun hc3 => ?_) (fun hc3 => ?_)
  · -- pc 3 taken: p1 < (55296 : Int32)
    refine Run.iconst (0 : Int32) d29_16 (by decide) (pc' := 17) rfl ?_
    exact Run.nreturn d29_17 (ty := .boolean) rfl (by simp) (by decide) (by decide) ⟨_, rfl, congrArg Value.int (by unfold own_sur; rw [if_pos hc3] <;> rfl), rfl⟩
  · -- pc 3 not taken: ¬ p1 < (55296 : Int32)
    refine Run.iloadN d29_6 rfl (pc' := 7) rfl ?_
    refine Run.ldcI (v := (57344 : Int32)) d29_7 (hw _ (List.mem_of_getElem? (i := 134) rfl)) (pc' := 9) rfl ?_
    refine Run.icmp_ge d29_9 (by decide) (pc' := 16) (by decide) (pa := 12) rfl (fun hc9 => ?_) (fun hc9 => ?_)
    · -- pc 9 taken: ¬ p1 < (57344 : Int32)
      refine Run.iconst (0 : Int32) d29_16 (by decide) (pc' := 17) rfl ?_
      exact Run.nreturn d29_17 (ty := .boolean) rfl (by simp) (by decide) (by decide) ⟨_, rfl, congrArg Value.int (by unfold own_sur; rw [if_neg hc3, if_neg hc9] <;> rfl), rfl⟩
    · -- pc 9 not taken: p1 < (57344 : Int32)
      refine Run.iconst (1 : Int32) d29_12 (by decide) (pc' := 13) rfl ?_
      refine Run.goto d29_13 (by decide) (pc' := 17) (by decide) ?_
      exact Run.nreturn d29_17 (ty := .boolean) rfl (by simp) (by decide) (by decide) ⟨_, rfl, congrArg Value.int (by unfold own_sur; rw [if_neg hc3, if_pos hc9] <;> rfl), rfl⟩
def own_ico (p1 : Int32) : Int32 := (if (own_sur p1) = (0 : Int32) then (if p1 < (57344 : Int32) then p1 else (p1 - (2048 : Int32))) else (p1 + (8192 : Int32)))
theorem d28_0 : decode prog_22_method_6_code 0 = .ok (.iload_n 0, 1) := by decide +kernel
theorem d28_1 : decode prog_22_method_6_code 1 = .ok (.istore_n 1, 1) := by decide +kernel
theorem d28_2 : decode prog_22_method_6_code 2 = .ok (.iload_n 0, 1) := by decide +kernel
theorem d28_3 : decode prog_22_method_6_code 3 = .ok (.invokestatic 111, 3) := by decide +kernel
theorem d28_6 : decode prog_22_method_6_code 6 = .ok (.ifCond .eq 12, 3) := by decide +kernel
theorem d28_9 : decode prog_22_method_6_code 9 = .ok (.iload_n 0, 1) := by decide +kernel
theorem d28_10 : decode prog_22_method_6_code 10 = .ok (.sipush 8192, 3) := by decide +kernel
theorem d28_13 : decode prog_22_method_6_code 13 = .ok (.iadd, 1) := by decide +kernel
theorem d28_14 : decode prog_22_method_6_code 14 = .ok (.istore_n 1, 1) := by decide +kernel
theorem d28_15 : decode prog_22_method_6_code 15 = .ok (.goto 15, 3) := by decide +kernel
theorem d28_18 : decode prog_22_method_6_code 18 = .ok (.iload_n 0, 1) := by decide +kernel
theorem d28_19 : decode prog_22_method_6_code 19 = .ok (.ldc 117, 2) := by decide +kernel
theorem d28_21 : decode prog_22_method_6_code 21 = .ok (.if_icmp .lt 9, 3) := by decide +kernel
theorem d28_24 : decode prog_22_method_6_code 24 = .ok (.iload_n 0, 1) := by decide +kernel
theorem d28_25 : decode prog_22_method_6_code 25 = .ok (.sipush 2048, 3) := by decide +kernel
theorem d28_28 : decode prog_22_method_6_code 28 = .ok (.isub, 1) := by decide +kernel
theorem d28_29 : decode prog_22_method_6_code 29 = .ok (.istore_n 1, 1) := by decide +kernel
theorem d28_30 : decode prog_22_method_6_code 30 = .ok (.iload_n 1, 1) := by decide +kernel
theorem d28_31 : decode prog_22_method_6_code 31 = .ok (.ireturn, 1) := by decide +kernel
theorem pn_28 : plainFor (⟨"com/example/callimachus/callimachus/PackageId", "inCodePointOrder", "(C)I"⟩ : MethodName) = true := plainFor_of_name (by first | (simp [plainName, overriddenIn]; done) | decide +kernel)
theorem ef_con_own_ico (m : MethodId) (p1 : Int32)  : entryFrame m #[(.int p1)] 2 = mkF m 0 #[.val (.int p1), .unset] [] := by first | (simp [entryFrame, mkF, argsToLocals, Value.category]; done) | rfl
set_option maxRecDepth 65536 in
set_option maxHeartbeats 40000000 in
theorem con_own_ico (l : Launch) (Z : State) (a0 : Array Value) (hw : ∀ d ∈ tables_1, d.before a0 Z = true) (n0 : Nat) (h0 : Heap) (Z0 : n0 ≤ h0.size) (p1 : Int32)  :
    Con l Z n0 (⟨"com/example/callimachus/callimachus/PackageId", "inCodePointOrder", "(C)I"⟩ : MethodName) prog_22_method_6_code 2 (some .int) ({ frames := 1, cells := 0, slots := 0, locals := 12 } : Room) #[(.int p1)] h0 (Val (PV (.int (own_ico p1)) h0)) := by
  refine Con.of_run pn_28 (fun m => ef_con_own_ico m p1 ) ?_
  refine Run.iloadN d28_0 rfl (pc' := 1) rfl ?_
  refine Run.istoreN (l' := #[.val (.int p1), .val (.int p1)]) d28_1 rfl (pc' := 2) rfl ?_
  refine Run.iloadN d28_2 rfl (pc' := 3) rfl ?_
  refine Run.callS (k' := 0) (n' := 0) (as := [(.int p1)]) (rest := []) (con_own_sur l Z a0 hw n0 h0 Z0 p1 ) d28_3 (hw _ (List.mem_of_getElem? (i := 120) rfl)) (hw _ (List.mem_of_getElem? (i := 121) rfl)) (hw _ (List.mem_of_getElem? (i := 122) rfl)) (hw _ (List.mem_of_getElem? (i := 123) rfl)) (by decide) pd__C_Z rfl rfl rfl (by decide) (by show (0 : Nat) + (1 + 11) + 0 ≤ _; decide) (by decide) (by decide) (by decide) (by decide) (pc' := 6) rfl ?_
  rintro _ _ ⟨_, rfl, rfl, rfl⟩
  show Run l Z n0 "com/example/callimachus/callimachus/PackageId" prog_22_method_6_code 2 (some .int) "inCodePointOrder" ({ frames := 1, cells := 0, slots := 0, locals := 12 } : Room) _ 6 #[.val (.int p1), .val (.int p1)] [(.int (own_sur p1))] h0 0 0
  refine Run.if_eq d28_6 (by decide) (pc' := 18) (by decide) (pa := 9) rfl (fun hc6 => ?_) (fun hc6 => ?_)
  · -- pc 6 taken: (own_sur p1) = (0 : Int32)
    refine Run.iloadN d28_18 rfl (pc' := 19) rfl ?_
    refine Run.ldcI (v := (57344 : Int32)) d28_19 (hw _ (List.mem_of_getElem? (i := 125) rfl)) (pc' := 21) rfl ?_
    refine Run.icmp_lt d28_21 (by decide) (pc' := 30) (by decide) (pa := 24) rfl (fun hc21 => ?_) (fun hc21 => ?_)
    · -- pc 21 taken: p1 < (57344 : Int32)
      refine Run.iloadN d28_30 rfl (pc' := 31) rfl ?_
      exact Run.ireturn d28_31 rfl (by decide) (by decide) ⟨_, rfl, congrArg Value.int (by unfold own_ico; rw [if_pos hc6, if_pos hc21] <;> rfl), rfl⟩
    · -- pc 21 not taken: ¬ p1 < (57344 : Int32)
      refine Run.iloadN d28_24 rfl (pc' := 25) rfl ?_
      refine Run.sipush (2048 : Int32) d28_25 (by decide) (pc' := 28) rfl ?_
      refine Run.isub d28_28 (pc' := 29) rfl ?_
      refine Run.istoreN (l' := #[.val (.int p1), .val (.int (p1 - (2048 : Int32)))]) d28_29 rfl (pc' := 30) rfl ?_
      refine Run.iloadN d28_30 rfl (pc' := 31) rfl ?_
      exact Run.ireturn d28_31 rfl (by decide) (by decide) ⟨_, rfl, congrArg Value.int (by unfold own_ico; rw [if_pos hc6, if_neg hc21] <;> rfl), rfl⟩
  · -- pc 6 not taken: ¬ (own_sur p1) = (0 : Int32)
    refine Run.iloadN d28_9 rfl (pc' := 10) rfl ?_
    refine Run.sipush (8192 : Int32) d28_10 (by decide) (pc' := 13) rfl ?_
    refine Run.iadd d28_13 (pc' := 14) rfl ?_
    refine Run.istoreN (l' := #[.val (.int p1), .val (.int (p1 + (8192 : Int32)))]) d28_14 rfl (pc' := 15) rfl ?_
    refine Run.goto d28_15 (by decide) (pc' := 30) (by decide) ?_
    refine Run.iloadN d28_30 rfl (pc' := 31) rfl ?_
    exact Run.ireturn d28_31 rfl (by decide) (by decide) ⟨_, rfl, congrArg Value.int (by unfold own_ico; rw [if_neg hc6] <;> rfl), rfl⟩
def own_cmp (cs ds : List Int32) : Nat → Nat → Int32
  | 0, _ => own_icmp (Int32.ofNat cs.length) (Int32.ofNat ds.length)
  | t + 1, i => if cs.getD i 0 = ds.getD i 0 then own_cmp cs ds t (i + 1) else own_icmp (own_ico (cs.getD i 0)) (own_ico (ds.getD i 0))
theorem own_minN {a b : Nat} (ha : a < 2 ^ 31) (hb : b < 2 ^ 31) : own_min (Int32.ofNat a) (Int32.ofNat b) = Int32.ofNat (min a b) := by
  unfold own_min; split <;> rename_i h <;> rw [own_lt hb ha] at h
  · rw [Nat.min_eq_right (by omega)]
  · rw [Nat.min_eq_left (by omega)]
theorem d9_0 : decode prog_22_method_5_code 0 = .ok (.aload_n 0, 1) := by decide +kernel
theorem d9_1 : decode prog_22_method_5_code 1 = .ok (.invokevirtual 89, 3) := by decide +kernel
theorem d9_4 : decode prog_22_method_5_code 4 = .ok (.aload_n 1, 1) := by decide +kernel
theorem d9_5 : decode prog_22_method_5_code 5 = .ok (.invokevirtual 89, 3) := by decide +kernel
theorem d9_8 : decode prog_22_method_5_code 8 = .ok (.invokestatic 92, 3) := by decide +kernel
theorem d9_11 : decode prog_22_method_5_code 11 = .ok (.istore_n 2, 1) := by decide +kernel
theorem d9_12 : decode prog_22_method_5_code 12 = .ok (.iconst 0, 1) := by decide +kernel
theorem d9_13 : decode prog_22_method_5_code 13 = .ok (.istore_n 3, 1) := by decide +kernel
theorem d9_14 : decode prog_22_method_5_code 14 = .ok (.iload_n 3, 1) := by decide +kernel
theorem d9_15 : decode prog_22_method_5_code 15 = .ok (.iload_n 2, 1) := by decide +kernel
theorem d9_16 : decode prog_22_method_5_code 16 = .ok (.if_icmp .ge 44, 3) := by decide +kernel
theorem d9_19 : decode prog_22_method_5_code 19 = .ok (.aload_n 0, 1) := by decide +kernel
theorem d9_20 : decode prog_22_method_5_code 20 = .ok (.iload_n 3, 1) := by decide +kernel
theorem d9_21 : decode prog_22_method_5_code 21 = .ok (.invokevirtual 98, 3) := by decide +kernel
theorem d9_24 : decode prog_22_method_5_code 24 = .ok (.istore 4, 2) := by decide +kernel
theorem d9_26 : decode prog_22_method_5_code 26 = .ok (.aload_n 1, 1) := by decide +kernel
theorem d9_27 : decode prog_22_method_5_code 27 = .ok (.iload_n 3, 1) := by decide +kernel
theorem d9_28 : decode prog_22_method_5_code 28 = .ok (.invokevirtual 98, 3) := by decide +kernel
theorem d9_31 : decode prog_22_method_5_code 31 = .ok (.istore 5, 2) := by decide +kernel
theorem d9_33 : decode prog_22_method_5_code 33 = .ok (.iload 4, 2) := by decide +kernel
theorem d9_35 : decode prog_22_method_5_code 35 = .ok (.iload 5, 2) := by decide +kernel
theorem d9_37 : decode prog_22_method_5_code 37 = .ok (.if_icmp .eq 17, 3) := by decide +kernel
theorem d9_40 : decode prog_22_method_5_code 40 = .ok (.iload 4, 2) := by decide +kernel
theorem d9_42 : decode prog_22_method_5_code 42 = .ok (.invokestatic 102, 3) := by decide +kernel
theorem d9_45 : decode prog_22_method_5_code 45 = .ok (.iload 5, 2) := by decide +kernel
theorem d9_47 : decode prog_22_method_5_code 47 = .ok (.invokestatic 102, 3) := by decide +kernel
theorem d9_50 : decode prog_22_method_5_code 50 = .ok (.invokestatic 106, 3) := by decide +kernel
theorem d9_53 : decode prog_22_method_5_code 53 = .ok (.ireturn, 1) := by decide +kernel
theorem d9_54 : decode prog_22_method_5_code 54 = .ok (.iinc 3 1, 3) := by decide +kernel
theorem d9_57 : decode prog_22_method_5_code 57 = .ok (.goto (-43), 3) := by decide +kernel
theorem d9_60 : decode prog_22_method_5_code 60 = .ok (.aload_n 0, 1) := by decide +kernel
theorem d9_61 : decode prog_22_method_5_code 61 = .ok (.invokevirtual 89, 3) := by decide +kernel
theorem d9_64 : decode prog_22_method_5_code 64 = .ok (.aload_n 1, 1) := by decide +kernel
theorem d9_65 : decode prog_22_method_5_code 65 = .ok (.invokevirtual 89, 3) := by decide +kernel
theorem d9_68 : decode prog_22_method_5_code 68 = .ok (.invokestatic 106, 3) := by decide +kernel
theorem d9_71 : decode prog_22_method_5_code 71 = .ok (.ireturn, 1) := by decide +kernel
theorem pn_9 : plainFor (⟨"com/example/callimachus/callimachus/PackageId", "compareUtf8", "(Ljava/lang/String;Ljava/lang/String;)I"⟩ : MethodName) = true := plainFor_of_name (by first | (simp [plainName, overriddenIn]; done) | decide +kernel)
theorem pd___I : parseMethodDescriptor "()I" = some ⟨[], some .int⟩ := by decide +kernel
theorem pd__C_I : parseMethodDescriptor "(C)I" = some ⟨[.char], some .int⟩ := by decide +kernel
theorem pd__I_C : parseMethodDescriptor "(I)C" = some ⟨[.int], some .char⟩ := by decide +kernel
theorem pd__II_I : parseMethodDescriptor "(II)I" = some ⟨[.int, .int], some .int⟩ := by decide +kernel
theorem ef_con_cu8 (m : MethodId) (t b u d : Addr) (cs ds : List Int32) (fm : Value) (cz : Int32)  : entryFrame m #[(.ref t), (.ref u)] 6 = mkF m 0 #[.val (.ref t), .val (.ref u), .unset, .unset, .unset, .unset] [] := by first | (simp [entryFrame, mkF, argsToLocals, Value.category]; done) | rfl
set_option maxRecDepth 65536 in
set_option maxHeartbeats 40000000 in
theorem con_cu8 (l : Launch) (Z : State) (a0 : Array Value) (hw : ∀ d ∈ tables_1, d.before a0 Z = true) (n0 : Nat) (h0 : Heap) (Z0 : n0 ≤ h0.size) (t b u d : Addr) (cs ds : List Int32) (fm : Value) (cz : Int32) (od0 : Old Z n0 h0) (SF : Sta Z Z.heap "jdk/internal/util/Preconditions" "SIOOBE_FORMATTER" "Ljava/util/function/BiFunction;" fm) (hfm : fm.isRef = true) (SD : Sta Z Z.heap "java/lang/StringUTF16" "$assertionsDisabled" "Z" (.int (1 : Int32))) (SH8 : Sta Z Z.heap "java/lang/StringUTF16" "HI_BYTE_SHIFT" "I" (.int (0 : Int32))) (SL8 : Sta Z Z.heap "java/lang/StringUTF16" "LO_BYTE_SHIFT" "I" (.int (8 : Int32))) (SZ : Sta Z Z.heap "java/lang/String" "COMPACT_STRINGS" "Z" (.int cz)) (hcz : ¬ cz = 0) (E1 : Exa Z h0 t "java/lang/String") (FV : Fld Z h0 t "java/lang/String" "value" "[B" (.ref b)) (FC : Fld Z h0 t "java/lang/String" "coder" "B" (.int (own_coder cs))) (AB : Ary Z h0 b .byte (own_enc cs)) (E2 : Exa Z h0 u "java/lang/String") (FV2 : Fld Z h0 u "java/lang/String" "value" "[B" (.ref d)) (FC2 : Fld Z h0 u "java/lang/String" "coder" "B" (.int (own_coder ds))) (AB2 : Ary Z h0 d .byte (own_enc ds)) (hn : cs.length ≤ 2) (hch : own_chr cs) (hn2 : ds.length ≤ 2) (hch2 : own_chr ds) :
    Con l Z n0 (⟨"com/example/callimachus/callimachus/PackageId", "compareUtf8", "(Ljava/lang/String;Ljava/lang/String;)I"⟩ : MethodName) prog_22_method_5_code 6 (some .int) ({ frames := 5, cells := 0, slots := 0, locals := 66 } : Room) #[(.ref t), (.ref u)] h0 (Val (PV (.int (own_cmp cs ds (min cs.length ds.length) 0)) h0)) := by
  refine Con.of_run pn_9 (fun m => ef_con_cu8 m t b u d cs ds fm cz ) ?_
  refine Run.aloadN d9_0 rfl rfl (pc' := 1) rfl ?_
  refine Run.callV (k' := 0) (n' := 0) (a := t) (as := []) (rest := []) (con_len l Z a0 hw n0 h0 Z0 t b cs cz od0 SZ hcz E1 FV FC AB hn) E1 d9_1 (hw _ (List.mem_of_getElem? (i := 45) rfl)) (hw _ (List.mem_of_getElem? (i := 46) rfl)) (fun s hZ => notFace_of_selects (args := #[]) (mvT hZ (hw _ (List.mem_of_getElem? (i := 48) rfl)))) (hw _ (List.mem_of_getElem? (i := 48) rfl)) (hw _ (List.mem_of_getElem? (i := 47) rfl)) (hw _ (List.mem_of_getElem? (i := 7) rfl)) (hw _ (List.mem_of_getElem? (i := 49) rfl)) (by decide) pd___I rfl rfl rfl (by decide) (by show (0 : Nat) + (1 + 11) + 13 ≤ _; decide) (by decide) (by decide) (by decide) (by decide) (pc' := 4) rfl ?_
  rintro _ _ ⟨_, rfl, rfl, rfl⟩
  show Run l Z n0 "com/example/callimachus/callimachus/PackageId" prog_22_method_5_code 6 (some .int) "compareUtf8" ({ frames := 5, cells := 0, slots := 0, locals := 66 } : Room) _ 4 #[.val (.ref t), .val (.ref u), .unset, .unset, .unset, .unset] [(.int (Int32.ofNat cs.length))] h0 0 0
  refine Run.aloadN d9_4 rfl rfl (pc' := 5) rfl ?_
  refine Run.callV (k' := 0) (n' := 0) (a := u) (as := []) (rest := [(.int (Int32.ofNat cs.length))]) (con_len l Z a0 hw n0 h0 Z0 u d ds cz od0 SZ hcz E2 FV2 FC2 AB2 hn2) E2 d9_5 (hw _ (List.mem_of_getElem? (i := 45) rfl)) (hw _ (List.mem_of_getElem? (i := 46) rfl)) (fun s hZ => notFace_of_selects (args := #[]) (mvT hZ (hw _ (List.mem_of_getElem? (i := 48) rfl)))) (hw _ (List.mem_of_getElem? (i := 48) rfl)) (hw _ (List.mem_of_getElem? (i := 47) rfl)) (hw _ (List.mem_of_getElem? (i := 7) rfl)) (hw _ (List.mem_of_getElem? (i := 49) rfl)) (by decide) pd___I rfl rfl rfl (by decide) (by show (1 : Nat) + (1 + 11) + 13 ≤ _; decide) (by decide) (by decide) (by decide) (by decide) (pc' := 8) rfl ?_
  rintro _ _ ⟨_, rfl, rfl, rfl⟩
  show Run l Z n0 "com/example/callimachus/callimachus/PackageId" prog_22_method_5_code 6 (some .int) "compareUtf8" ({ frames := 5, cells := 0, slots := 0, locals := 66 } : Room) _ 8 #[.val (.ref t), .val (.ref u), .unset, .unset, .unset, .unset] [(.int (Int32.ofNat ds.length)), (.int (Int32.ofNat cs.length))] h0 0 0
  refine Run.callS (k' := 0) (n' := 0) (as := [(.int (Int32.ofNat cs.length)), (.int (Int32.ofNat ds.length))]) (rest := []) (con_own_min l Z a0 hw n0 h0 Z0 (Int32.ofNat cs.length) (Int32.ofNat ds.length) ) d9_8 (hw _ (List.mem_of_getElem? (i := 55) rfl)) (hw _ (List.mem_of_getElem? (i := 56) rfl)) (hw _ (List.mem_of_getElem? (i := 57) rfl)) (hw _ (List.mem_of_getElem? (i := 58) rfl)) (by decide) pd__II_I rfl rfl rfl (by decide) (by show (0 : Nat) + (2 + 11) + 0 ≤ _; decide) (by decide) (by decide) (by decide) (by decide) (pc' := 11) rfl ?_
  rintro _ _ ⟨_, rfl, rfl, rfl⟩
  show Run l Z n0 "com/example/callimachus/callimachus/PackageId" prog_22_method_5_code 6 (some .int) "compareUtf8" ({ frames := 5, cells := 0, slots := 0, locals := 66 } : Room) _ 11 #[.val (.ref t), .val (.ref u), .unset, .unset, .unset, .unset] [(.int (own_min (Int32.ofNat cs.length) (Int32.ofNat ds.length)))] h0 0 0
  rw [own_minN (by omega) (by omega)]
  refine Run.istoreN (l' := #[.val (.ref t), .val (.ref u), .val (.int (Int32.ofNat (min cs.length ds.length))), .unset, .unset, .unset]) d9_11 rfl (pc' := 12) rfl ?_
  refine Run.iconst (0 : Int32) d9_12 (by decide) (pc' := 13) rfl ?_
  refine Run.istoreN (l' := #[.val (.ref t), .val (.ref u), .val (.int (Int32.ofNat (min cs.length ds.length))), .val (.int (0 : Int32)), .unset, .unset]) d9_13 rfl (pc' := 14) rfl ?_
  have loop : ∀ (t_ i : Nat) (s4 s5 : Slot), t_ + i = (min cs.length ds.length) → One s4 → One s5 → own_cmp cs ds t_ i = (own_cmp cs ds (min cs.length ds.length) 0) → Run l Z n0 "com/example/callimachus/callimachus/PackageId" prog_22_method_5_code 6 (some .int) "compareUtf8" ({ frames := 5, cells := 0, slots := 0, locals := 66 } : Room) (Val (PV (.int (own_cmp cs ds (min cs.length ds.length) 0)) h0)) 14 #[.val (.ref t), .val (.ref u), .val (.int (Int32.ofNat (min cs.length ds.length))), .val (.int (Int32.ofNat i)), s4, s5] [] h0 0 0 := by
    intro t_
    induction t_ with
    | zero =>
      intro i s4 s5 hti h_s4 h_s5 hr
      refine Run.iloadN d9_14 rfl (pc' := 15) rfl ?_
      refine Run.iloadN d9_15 rfl (pc' := 16) rfl ?_
      refine Run.icmp_ge d9_16 (by decide) (pc' := 60) (by decide) (pa := 19) rfl (fun hc16 => ?_) (fun hc16 => ?_)
      · -- pc 16 taken: ¬ (Int32.ofNat i) < (Int32.ofNat (min cs.length ds.length))
        refine Run.aloadN d9_60 rfl rfl (pc' := 61) rfl ?_
        refine Run.callV (k' := 0) (n' := 0) (a := t) (as := []) (rest := []) (con_len l Z a0 hw n0 h0 Z0 t b cs cz od0 SZ hcz E1 FV FC AB hn) E1 d9_61 (hw _ (List.mem_of_getElem? (i := 45) rfl)) (hw _ (List.mem_of_getElem? (i := 46) rfl)) (fun s hZ => notFace_of_selects (args := #[]) (mvT hZ (hw _ (List.mem_of_getElem? (i := 48) rfl)))) (hw _ (List.mem_of_getElem? (i := 48) rfl)) (hw _ (List.mem_of_getElem? (i := 47) rfl)) (hw _ (List.mem_of_getElem? (i := 7) rfl)) (hw _ (List.mem_of_getElem? (i := 49) rfl)) (by decide) pd___I rfl rfl rfl (by decide) (by show (0 : Nat) + (1 + 11) + 13 ≤ _; decide) (by decide) (by decide) (by decide) (by decide) (pc' := 64) rfl ?_
        rintro _ _ ⟨_, rfl, rfl, rfl⟩
        show Run l Z n0 "com/example/callimachus/callimachus/PackageId" prog_22_method_5_code 6 (some .int) "compareUtf8" ({ frames := 5, cells := 0, slots := 0, locals := 66 } : Room) _ 64 #[.val (.ref t), .val (.ref u), .val (.int (Int32.ofNat (min cs.length ds.length))), .val (.int (Int32.ofNat i)), s4, s5] [(.int (Int32.ofNat cs.length))] h0 0 0
        refine Run.aloadN d9_64 rfl rfl (pc' := 65) rfl ?_
        refine Run.callV (k' := 0) (n' := 0) (a := u) (as := []) (rest := [(.int (Int32.ofNat cs.length))]) (con_len l Z a0 hw n0 h0 Z0 u d ds cz od0 SZ hcz E2 FV2 FC2 AB2 hn2) E2 d9_65 (hw _ (List.mem_of_getElem? (i := 45) rfl)) (hw _ (List.mem_of_getElem? (i := 46) rfl)) (fun s hZ => notFace_of_selects (args := #[]) (mvT hZ (hw _ (List.mem_of_getElem? (i := 48) rfl)))) (hw _ (List.mem_of_getElem? (i := 48) rfl)) (hw _ (List.mem_of_getElem? (i := 47) rfl)) (hw _ (List.mem_of_getElem? (i := 7) rfl)) (hw _ (List.mem_of_getElem? (i := 49) rfl)) (by decide) pd___I rfl rfl rfl (by decide) (by show (1 : Nat) + (1 + 11) + 13 ≤ _; decide) (by decide) (by decide) (by decide) (by decide) (pc' := 68) rfl ?_
        rintro _ _ ⟨_, rfl, rfl, rfl⟩
        show Run l Z n0 "com/example/callimachus/callimachus/PackageId" prog_22_method_5_code 6 (some .int) "compareUtf8" ({ frames := 5, cells := 0, slots := 0, locals := 66 } : Room) _ 68 #[.val (.ref t), .val (.ref u), .val (.int (Int32.ofNat (min cs.length ds.length))), .val (.int (Int32.ofNat i)), s4, s5] [(.int (Int32.ofNat ds.length)), (.int (Int32.ofNat cs.length))] h0 0 0
        refine Run.callS (k' := 0) (n' := 0) (as := [(.int (Int32.ofNat cs.length)), (.int (Int32.ofNat ds.length))]) (rest := []) (con_own_icmp l Z a0 hw n0 h0 Z0 (Int32.ofNat cs.length) (Int32.ofNat ds.length) ) d9_68 (hw _ (List.mem_of_getElem? (i := 59) rfl)) (hw _ (List.mem_of_getElem? (i := 60) rfl)) (hw _ (List.mem_of_getElem? (i := 61) rfl)) (hw _ (List.mem_of_getElem? (i := 62) rfl)) (by decide) pd__II_I rfl rfl rfl (by decide) (by show (0 : Nat) + (2 + 11) + 0 ≤ _; decide) (by decide) (by decide) (by decide) (by decide) (pc' := 71) rfl ?_
        rintro _ _ ⟨_, rfl, rfl, rfl⟩
        show Run l Z n0 "com/example/callimachus/callimachus/PackageId" prog_22_method_5_code 6 (some .int) "compareUtf8" ({ frames := 5, cells := 0, slots := 0, locals := 66 } : Room) _ 71 #[.val (.ref t), .val (.ref u), .val (.int (Int32.ofNat (min cs.length ds.length))), .val (.int (Int32.ofNat i)), s4, s5] [(.int (own_icmp (Int32.ofNat cs.length) (Int32.ofNat ds.length)))] h0 0 0
        exact Run.ireturn d9_71 rfl (by decide) (by decide) ⟨_, rfl, congrArg Value.int (by rw [← hr]; rfl), rfl⟩
      · -- pc 16 not taken: (Int32.ofNat i) < (Int32.ofNat (min cs.length ds.length))
        exact absurd ((own_lt (by omega) (by omega)).mp hc16) (by omega)
    | succ t_ ih =>
      intro i s4 s5 hti h_s4 h_s5 hr
      refine Run.iloadN d9_14 rfl (pc' := 15) rfl ?_
      refine Run.iloadN d9_15 rfl (pc' := 16) rfl ?_
      refine Run.icmp_ge d9_16 (by decide) (pc' := 60) (by decide) (pa := 19) rfl (fun hc16 => ?_) (fun hc16 => ?_)
      · -- pc 16 taken: ¬ (Int32.ofNat i) < (Int32.ofNat (min cs.length ds.length))
        exact absurd ((own_lt (by omega) (by omega)).mpr (by omega)) hc16
      · -- pc 16 not taken: (Int32.ofNat i) < (Int32.ofNat (min cs.length ds.length))
        refine Run.aloadN d9_19 rfl rfl (pc' := 20) rfl ?_
        refine Run.iloadN d9_20 rfl (pc' := 21) rfl ?_
        refine Run.callV (k' := 0) (n' := 0) (a := t) (as := [(.int (Int32.ofNat i))]) (rest := []) (con_cha l Z a0 hw n0 h0 Z0 t b cs i cz fm od0 SF hfm SD SH8 SL8 SZ hcz E1 FV FC AB (by omega) hn hch) E1 d9_21 (hw _ (List.mem_of_getElem? (i := 87) rfl)) (hw _ (List.mem_of_getElem? (i := 88) rfl)) (fun s hZ => notFace_of_selects (args := #[]) (mvT hZ (hw _ (List.mem_of_getElem? (i := 90) rfl)))) (hw _ (List.mem_of_getElem? (i := 90) rfl)) (hw _ (List.mem_of_getElem? (i := 89) rfl)) (hw _ (List.mem_of_getElem? (i := 7) rfl)) (hw _ (List.mem_of_getElem? (i := 91) rfl)) (by decide) pd__I_C rfl rfl rfl (by decide) (by show (0 : Nat) + (2 + 11) + 53 ≤ _; decide) (by decide) (by decide) (by decide) (by decide) (pc' := 24) rfl ?_
        rintro _ _ ⟨_, rfl, rfl, rfl⟩
        show Run l Z n0 "com/example/callimachus/callimachus/PackageId" prog_22_method_5_code 6 (some .int) "compareUtf8" ({ frames := 5, cells := 0, slots := 0, locals := 66 } : Room) _ 24 #[.val (.ref t), .val (.ref u), .val (.int (Int32.ofNat (min cs.length ds.length))), .val (.int (Int32.ofNat i)), s4, s5] [(.int (cs.getD i 0))] h0 0 0
        refine Run.istore (l' := #[.val (.ref t), .val (.ref u), .val (.int (Int32.ofNat (min cs.length ds.length))), .val (.int (Int32.ofNat i)), .val (.int (cs.getD i 0)), s5]) d9_24 (XS.store1 rfl h_s4 rfl) (pc' := 26) rfl ?_
        refine Run.aloadN d9_26 rfl rfl (pc' := 27) rfl ?_
        refine Run.iloadN d9_27 rfl (pc' := 28) rfl ?_
        refine Run.callV (k' := 0) (n' := 0) (a := u) (as := [(.int (Int32.ofNat i))]) (rest := []) (con_cha l Z a0 hw n0 h0 Z0 u d ds i cz fm od0 SF hfm SD SH8 SL8 SZ hcz E2 FV2 FC2 AB2 (by omega) hn2 hch2) E2 d9_28 (hw _ (List.mem_of_getElem? (i := 87) rfl)) (hw _ (List.mem_of_getElem? (i := 88) rfl)) (fun s hZ => notFace_of_selects (args := #[]) (mvT hZ (hw _ (List.mem_of_getElem? (i := 90) rfl)))) (hw _ (List.mem_of_getElem? (i := 90) rfl)) (hw _ (List.mem_of_getElem? (i := 89) rfl)) (hw _ (List.mem_of_getElem? (i := 7) rfl)) (hw _ (List.mem_of_getElem? (i := 91) rfl)) (by decide) pd__I_C rfl rfl rfl (by decide) (by show (0 : Nat) + (2 + 11) + 53 ≤ _; decide) (by decide) (by decide) (by decide) (by decide) (pc' := 31) rfl ?_
        rintro _ _ ⟨_, rfl, rfl, rfl⟩
        show Run l Z n0 "com/example/callimachus/callimachus/PackageId" prog_22_method_5_code 6 (some .int) "compareUtf8" ({ frames := 5, cells := 0, slots := 0, locals := 66 } : Room) _ 31 #[.val (.ref t), .val (.ref u), .val (.int (Int32.ofNat (min cs.length ds.length))), .val (.int (Int32.ofNat i)), .val (.int (cs.getD i 0)), s5] [(.int (ds.getD i 0))] h0 0 0
        refine Run.istore (l' := #[.val (.ref t), .val (.ref u), .val (.int (Int32.ofNat (min cs.length ds.length))), .val (.int (Int32.ofNat i)), .val (.int (cs.getD i 0)), .val (.int (ds.getD i 0))]) d9_31 (XS.store1 rfl h_s5 rfl) (pc' := 33) rfl ?_
        refine Run.iload d9_33 rfl (pc' := 35) rfl ?_
        refine Run.iload d9_35 rfl (pc' := 37) rfl ?_
        refine Run.icmp_eq d9_37 (by decide) (pc' := 54) (by decide) (pa := 40) rfl (fun hc37 => ?_) (fun hc37 => ?_)
        · -- pc 37 taken: (cs.getD i 0) = (ds.getD i 0)
          refine Run.iinc (1 : Int32) #[.val (.ref t), .val (.ref u), .val (.int (Int32.ofNat (min cs.length ds.length))), .val (.int ((Int32.ofNat i) + (1 : Int32))), .val (.int (cs.getD i 0)), .val (.int (ds.getD i 0))] d9_54 (by decide) rfl rfl (pc' := 57) rfl ?_
          refine Run.goto d9_57 (by decide) (pc' := 14) (by decide) ?_
          rw [own_inc]
          exact ih (i + 1) _ _ (by omega) (Or.inr ⟨_, rfl, rfl⟩) (Or.inr ⟨_, rfl, rfl⟩) (by rw [← hr]; exact (if_pos hc37).symm)
        · -- pc 37 not taken: ¬ (cs.getD i 0) = (ds.getD i 0)
          refine Run.iload d9_40 rfl (pc' := 42) rfl ?_
          refine Run.callS (k' := 0) (n' := 0) (as := [(.int (cs.getD i 0))]) (rest := []) (con_own_ico l Z a0 hw n0 h0 Z0 (cs.getD i 0) ) d9_42 (hw _ (List.mem_of_getElem? (i := 117) rfl)) (hw _ (List.mem_of_getElem? (i := 118) rfl)) (hw _ (List.mem_of_getElem? (i := 43) rfl)) (hw _ (List.mem_of_getElem? (i := 119) rfl)) (by decide) pd__C_I rfl rfl rfl (by decide) (by show (0 : Nat) + (2 + 11) + 12 ≤ _; decide) (by decide) (by decide) (by decide) (by decide) (pc' := 45) rfl ?_
          rintro _ _ ⟨_, rfl, rfl, rfl⟩
          show Run l Z n0 "com/example/callimachus/callimachus/PackageId" prog_22_method_5_code 6 (some .int) "compareUtf8" ({ frames := 5, cells := 0, slots := 0, locals := 66 } : Room) _ 45 #[.val (.ref t), .val (.ref u), .val (.int (Int32.ofNat (min cs.length ds.length))), .val (.int (Int32.ofNat i)), .val (.int (cs.getD i 0)), .val (.int (ds.getD i 0))] [(.int (own_ico (cs.getD i 0)))] h0 0 0
          refine Run.iload d9_45 rfl (pc' := 47) rfl ?_
          refine Run.callS (k' := 0) (n' := 0) (as := [(.int (ds.getD i 0))]) (rest := [(.int (own_ico (cs.getD i 0)))]) (con_own_ico l Z a0 hw n0 h0 Z0 (ds.getD i 0) ) d9_47 (hw _ (List.mem_of_getElem? (i := 117) rfl)) (hw _ (List.mem_of_getElem? (i := 118) rfl)) (hw _ (List.mem_of_getElem? (i := 43) rfl)) (hw _ (List.mem_of_getElem? (i := 119) rfl)) (by decide) pd__C_I rfl rfl rfl (by decide) (by show (1 : Nat) + (2 + 11) + 12 ≤ _; decide) (by decide) (by decide) (by decide) (by decide) (pc' := 50) rfl ?_
          rintro _ _ ⟨_, rfl, rfl, rfl⟩
          show Run l Z n0 "com/example/callimachus/callimachus/PackageId" prog_22_method_5_code 6 (some .int) "compareUtf8" ({ frames := 5, cells := 0, slots := 0, locals := 66 } : Room) _ 50 #[.val (.ref t), .val (.ref u), .val (.int (Int32.ofNat (min cs.length ds.length))), .val (.int (Int32.ofNat i)), .val (.int (cs.getD i 0)), .val (.int (ds.getD i 0))] [(.int (own_ico (ds.getD i 0))), (.int (own_ico (cs.getD i 0)))] h0 0 0
          refine Run.callS (k' := 0) (n' := 0) (as := [(.int (own_ico (cs.getD i 0))), (.int (own_ico (ds.getD i 0)))]) (rest := []) (con_own_icmp l Z a0 hw n0 h0 Z0 (own_ico (cs.getD i 0)) (own_ico (ds.getD i 0)) ) d9_50 (hw _ (List.mem_of_getElem? (i := 59) rfl)) (hw _ (List.mem_of_getElem? (i := 60) rfl)) (hw _ (List.mem_of_getElem? (i := 61) rfl)) (hw _ (List.mem_of_getElem? (i := 62) rfl)) (by decide) pd__II_I rfl rfl rfl (by decide) (by show (0 : Nat) + (2 + 11) + 0 ≤ _; decide) (by decide) (by decide) (by decide) (by decide) (pc' := 53) rfl ?_
          rintro _ _ ⟨_, rfl, rfl, rfl⟩
          show Run l Z n0 "com/example/callimachus/callimachus/PackageId" prog_22_method_5_code 6 (some .int) "compareUtf8" ({ frames := 5, cells := 0, slots := 0, locals := 66 } : Room) _ 53 #[.val (.ref t), .val (.ref u), .val (.int (Int32.ofNat (min cs.length ds.length))), .val (.int (Int32.ofNat i)), .val (.int (cs.getD i 0)), .val (.int (ds.getD i 0))] [(.int (own_icmp (own_ico (cs.getD i 0)) (own_ico (ds.getD i 0))))] h0 0 0
          exact Run.ireturn d9_53 rfl (by decide) (by decide) ⟨_, rfl, congrArg Value.int (by rw [← hr]; exact if_neg hc37), rfl⟩
  exact loop (min cs.length ds.length) 0 .unset .unset (by omega) (Or.inl rfl) (Or.inl rfl) rfl
theorem d1_0 : decode method_4_code 0 = .ok (.iload_n 0, 1) := by decide +kernel
theorem d1_1 : decode method_4_code 1 = .ok (.ifCond .ne 6, 3) := by decide +kernel
theorem d1_4 : decode method_4_code 4 = .ok (.ldc 10, 2) := by decide +kernel
theorem d1_6 : decode method_4_code 6 = .ok (.areturn, 1) := by decide +kernel
theorem d1_7 : decode method_4_code 7 = .ok (.iload_n 0, 1) := by decide +kernel
theorem d1_8 : decode method_4_code 8 = .ok (.iconst 1, 1) := by decide +kernel
theorem d1_9 : decode method_4_code 9 = .ok (.if_icmp .ne 8, 3) := by decide +kernel
theorem d1_12 : decode method_4_code 12 = .ok (.iload_n 1, 1) := by decide +kernel
theorem d1_13 : decode method_4_code 13 = .ok (.invokestatic 12, 3) := by decide +kernel
theorem d1_16 : decode method_4_code 16 = .ok (.areturn, 1) := by decide +kernel
theorem d1_17 : decode method_4_code 17 = .ok (.new 13, 3) := by decide +kernel
theorem d1_20 : decode method_4_code 20 = .ok (.dup, 1) := by decide +kernel
theorem d1_21 : decode method_4_code 21 = .ok (.iconst 2, 1) := by decide +kernel
theorem d1_22 : decode method_4_code 22 = .ok (.newarray .char, 2) := by decide +kernel
theorem d1_24 : decode method_4_code 24 = .ok (.dup, 1) := by decide +kernel
theorem d1_25 : decode method_4_code 25 = .ok (.iconst 0, 1) := by decide +kernel
theorem d1_26 : decode method_4_code 26 = .ok (.iload_n 1, 1) := by decide +kernel
theorem d1_27 : decode method_4_code 27 = .ok (.castore, 1) := by decide +kernel
theorem d1_28 : decode method_4_code 28 = .ok (.dup, 1) := by decide +kernel
theorem d1_29 : decode method_4_code 29 = .ok (.iconst 1, 1) := by decide +kernel
theorem d1_30 : decode method_4_code 30 = .ok (.iload_n 2, 1) := by decide +kernel
theorem d1_31 : decode method_4_code 31 = .ok (.castore, 1) := by decide +kernel
theorem d1_32 : decode method_4_code 32 = .ok (.invokespecial 18, 3) := by decide +kernel
theorem d1_35 : decode method_4_code 35 = .ok (.areturn, 1) := by decide +kernel
theorem pn_1 : plainFor (⟨"com/example/callimachus/callimachus/PackageIdCompareUtf8PinLaw", "str", "(ICC)Ljava/lang/String;"⟩ : MethodName) = true := plainFor_of_name (by first | (simp [plainName, overriddenIn]; done) | decide +kernel)
theorem own_chr2 {a b : Int32} (ha : 0 ≤ a.toInt ∧ a.toInt ≤ 65535) (hb : 0 ≤ b.toInt ∧ b.toInt ≤ 65535) : own_chr [a, b] := by
  intro v hv; simp only [List.mem_cons, List.not_mem_nil, or_false] at hv
  rcases hv with rfl | rfl <;> assumption
theorem ef_con_str0 (m : MethodId) (c0 c1 : Int32) (cz : Int32)  : entryFrame m #[(.int (0 : Int32)), (.int c0), (.int c1)] 3 = mkF m 0 #[.val (.int (0 : Int32)), .val (.int c0), .val (.int c1)] [] := by first | (simp [entryFrame, mkF, argsToLocals, Value.category]; done) | rfl
set_option maxRecDepth 65536 in
set_option maxHeartbeats 40000000 in
theorem con_str0 (l : Launch) (Z : State) (a0 : Array Value) (hw : ∀ d ∈ tables_1, d.before a0 Z = true) (n0 : Nat) (h0 : Heap) (Z0 : n0 ≤ h0.size) (c0 c1 : Int32) (cz : Int32) (od0 : Old Z n0 h0) (SD : Sta Z Z.heap "java/lang/StringUTF16" "$assertionsDisabled" "Z" (.int (1 : Int32))) (SH8 : Sta Z Z.heap "java/lang/StringUTF16" "HI_BYTE_SHIFT" "I" (.int (0 : Int32))) (SL8 : Sta Z Z.heap "java/lang/StringUTF16" "LO_BYTE_SHIFT" "I" (.int (8 : Int32))) (SZ : Sta Z Z.heap "java/lang/String" "COMPACT_STRINGS" "Z" (.int cz)) (hcz : ¬ cz = 0) (q0 : nar .char c0 = c0 ∧ 0 ≤ c0.toInt ∧ c0.toInt ≤ 65535) (q1 : nar .char c1 = c1 ∧ 0 ≤ c1.toInt ∧ c1.toInt ≤ 65535) :
    ConW l Z own_EL n0 (⟨"com/example/callimachus/callimachus/PackageIdCompareUtf8PinLaw", "str", "(ICC)Ljava/lang/String;"⟩ : MethodName) method_4_code 3 (some (.object "java/lang/String")) ({ frames := 6, cells := 4, slots := 12, locals := 88 } : Room) #[(.int (0 : Int32)), (.int c0), (.int c1)] h0 [] (Val fun w h' => ∃ t b, w = .ref t ∧ Ext h0 h' ∧ Exa Z h' t "java/lang/String" ∧ Fld Z h' t "java/lang/String" "value" "[B" (.ref b) ∧ Fld Z h' t "java/lang/String" "coder" "B" (.int (own_coder ([c0, c1].take 0))) ∧ Ary Z h' b .byte (own_enc ([c0, c1].take 0))) := by
  refine ConW.of_run (own_EW hw) pn_1 (fun m => ef_con_str0 m c0 c1 cz ) ?_
  intro vm hal hsf
  refine RunW.iloadN d1_0 rfl (pc' := 1) rfl ?_
  refine RunW.if_ne d1_1 (by decide) (pc' := 7) (by decide) (pa := 4) rfl (fun hc1 => ?_) (fun hc1 => ?_)
  · -- pc 1 taken: ¬ (0 : Int32) = (0 : Int32)
    exact absurd hc1 (by decide)
  · -- pc 1 not taken: (0 : Int32) = (0 : Int32)
    refine RunW.ldcT (len := 0) (z := (0 : Int32)) (bs := []) (k' := 2) (n' := 4) d1_4 (hw _ (List.mem_of_getElem? (i := 35) rfl)) (own_wS hw) (own_EW hw) (List.mem_of_getElem? (i := 0) rfl) (by decide) (by decide) (by decide) (by decide) (by decide) (by decide) (by decide) (by decide) (pc' := 6) rfl ?_
    intro h11 vm11 a11 b11 E11 c11 X11 FC11 FV11 A11 ns11
    have sz11 : n0 ≤ h11.size := Nat.le_trans Z0 E11.1
    have kp11 := Keep.ext (Keep.refl h0 []) E11
    have od11 := od0.ext E11
    exact RunW.areturn d1_6 (ty := (.object "java/lang/String")) rfl rfl rfl (by decide) (by decide) ⟨_, rfl, a11, b11, rfl, Keep.toExt kp11, X11, FV11, FC11, A11⟩
theorem pd__C_Ljava_lang_String_ : parseMethodDescriptor "(C)Ljava/lang/String;" = some ⟨[.char], some (.object "java/lang/String")⟩ := by decide +kernel
theorem ef_con_str1 (m : MethodId) (c0 c1 : Int32) (cz : Int32)  : entryFrame m #[(.int (1 : Int32)), (.int c0), (.int c1)] 3 = mkF m 0 #[.val (.int (1 : Int32)), .val (.int c0), .val (.int c1)] [] := by first | (simp [entryFrame, mkF, argsToLocals, Value.category]; done) | rfl
set_option maxRecDepth 65536 in
set_option maxHeartbeats 40000000 in
theorem con_str1 (l : Launch) (Z : State) (a0 : Array Value) (hw : ∀ d ∈ tables_1, d.before a0 Z = true) (n0 : Nat) (h0 : Heap) (Z0 : n0 ≤ h0.size) (c0 c1 : Int32) (cz : Int32) (od0 : Old Z n0 h0) (SD : Sta Z Z.heap "java/lang/StringUTF16" "$assertionsDisabled" "Z" (.int (1 : Int32))) (SH8 : Sta Z Z.heap "java/lang/StringUTF16" "HI_BYTE_SHIFT" "I" (.int (0 : Int32))) (SL8 : Sta Z Z.heap "java/lang/StringUTF16" "LO_BYTE_SHIFT" "I" (.int (8 : Int32))) (SZ : Sta Z Z.heap "java/lang/String" "COMPACT_STRINGS" "Z" (.int cz)) (hcz : ¬ cz = 0) (q0 : nar .char c0 = c0 ∧ 0 ≤ c0.toInt ∧ c0.toInt ≤ 65535) (q1 : nar .char c1 = c1 ∧ 0 ≤ c1.toInt ∧ c1.toInt ≤ 65535) :
    ConW l Z own_EL n0 (⟨"com/example/callimachus/callimachus/PackageIdCompareUtf8PinLaw", "str", "(ICC)Ljava/lang/String;"⟩ : MethodName) method_4_code 3 (some (.object "java/lang/String")) ({ frames := 6, cells := 4, slots := 12, locals := 88 } : Room) #[(.int (1 : Int32)), (.int c0), (.int c1)] h0 [] (Val fun w h' => ∃ t b, w = .ref t ∧ Ext h0 h' ∧ Exa Z h' t "java/lang/String" ∧ Fld Z h' t "java/lang/String" "value" "[B" (.ref b) ∧ Fld Z h' t "java/lang/String" "coder" "B" (.int (own_coder ([c0, c1].take 1))) ∧ Ary Z h' b .byte (own_enc ([c0, c1].take 1))) := by
  refine ConW.of_run (own_EW hw) pn_1 (fun m => ef_con_str1 m c0 c1 cz ) ?_
  intro vm hal hsf
  refine RunW.iloadN d1_0 rfl (pc' := 1) rfl ?_
  refine RunW.if_ne d1_1 (by decide) (pc' := 7) (by decide) (pa := 4) rfl (fun hc1 => ?_) (fun hc1 => ?_)
  · -- pc 1 taken: ¬ (1 : Int32) = (0 : Int32)
    refine RunW.iloadN d1_7 rfl (pc' := 8) rfl ?_
    refine RunW.iconst (1 : Int32) d1_8 (by decide) (pc' := 9) rfl ?_
    refine RunW.icmp_ne d1_9 (by decide) (pc' := 17) (by decide) (pa := 12) rfl (fun hc9 => ?_) (fun hc9 => ?_)
    · -- pc 9 taken: ¬ (1 : Int32) = (1 : Int32)
      exact absurd hc9 (by decide)
    · -- pc 9 not taken: (1 : Int32) = (1 : Int32)
      refine RunW.iloadN d1_12 rfl (pc' := 13) rfl ?_
      refine RunW.callS (k' := 2) (n' := 6) (as := [(.int c0)]) (rest := []) (con_voc l Z a0 hw n0 h0 Z0 c0 cz od0 SD SH8 SL8 SZ hcz) (by rintro _ _ ⟨_, rfl, ⟨t_, b_, rfl, bw_, E_, X_, FV_, FC_, P_⟩⟩; exact ⟨[], Keep.ofExt E_, all0⟩) d1_13 (hw _ (List.mem_of_getElem? (i := 63) rfl)) (hw _ (List.mem_of_getElem? (i := 64) rfl)) (hw _ (List.mem_of_getElem? (i := 7) rfl)) (hw _ (List.mem_of_getElem? (i := 65) rfl)) (by decide) pd__C_Ljava_lang_String_ rfl rfl rfl (by decide) (by show (0 : Nat) + (1 + 11) + 29 ≤ _; decide) (by decide) (by decide) (by decide) (by decide) (pc' := 16) rfl ?_
      rintro _ h11 ⟨_, rfl, ⟨t11, b11, rfl, bw11, E11, X11, FV11, FC11, P11⟩⟩ c11
      show RunW l Z own_EL n0 "com/example/callimachus/callimachus/PackageIdCompareUtf8PinLaw" method_4_code 3 (some (.object "java/lang/String")) "str" ({ frames := 6, cells := 4, slots := 12, locals := 88 } : Room) _ 16 #[.val (.int (1 : Int32)), .val (.int c0), .val (.int c1)] [(.ref t11)] h11 vm 2 6
      have ge_t11 : n0 ≤ t11 := Nat.le_trans Z0 bw11
      have bo_t11 : h0.size ≤ t11 := Nat.le_trans (Keep.refl h0 []).1 bw11
      have sz11 : n0 ≤ h11.size := Nat.le_trans Z0 E11.1
      have kp11 := Keep.ext (Keep.refl h0 []) E11
      have od11 := od0.ext E11
      exact RunW.areturn d1_16 (ty := (.object "java/lang/String")) rfl rfl rfl (by decide) (by decide) ⟨_, rfl, t11, b11, rfl, Keep.toExt kp11, X11, FV11, FC11, P11⟩
  · -- pc 1 not taken: (1 : Int32) = (0 : Int32)
    exact absurd hc1 (by decide)
theorem pd___C_V : parseMethodDescriptor "([C)V" = some ⟨[(.array .char)], none⟩ := by decide +kernel
theorem ef_con_str2 (m : MethodId) (c0 c1 : Int32) (cz : Int32)  : entryFrame m #[(.int (2 : Int32)), (.int c0), (.int c1)] 3 = mkF m 0 #[.val (.int (2 : Int32)), .val (.int c0), .val (.int c1)] [] := by first | (simp [entryFrame, mkF, argsToLocals, Value.category]; done) | rfl
set_option maxRecDepth 65536 in
set_option maxHeartbeats 40000000 in
theorem con_str2 (l : Launch) (Z : State) (a0 : Array Value) (hw : ∀ d ∈ tables_1, d.before a0 Z = true) (n0 : Nat) (h0 : Heap) (Z0 : n0 ≤ h0.size) (c0 c1 : Int32) (cz : Int32) (od0 : Old Z n0 h0) (SD : Sta Z Z.heap "java/lang/StringUTF16" "$assertionsDisabled" "Z" (.int (1 : Int32))) (SH8 : Sta Z Z.heap "java/lang/StringUTF16" "HI_BYTE_SHIFT" "I" (.int (0 : Int32))) (SL8 : Sta Z Z.heap "java/lang/StringUTF16" "LO_BYTE_SHIFT" "I" (.int (8 : Int32))) (SZ : Sta Z Z.heap "java/lang/String" "COMPACT_STRINGS" "Z" (.int cz)) (hcz : ¬ cz = 0) (q0 : nar .char c0 = c0 ∧ 0 ≤ c0.toInt ∧ c0.toInt ≤ 65535) (q1 : nar .char c1 = c1 ∧ 0 ≤ c1.toInt ∧ c1.toInt ≤ 65535) :
    ConW l Z own_EL n0 (⟨"com/example/callimachus/callimachus/PackageIdCompareUtf8PinLaw", "str", "(ICC)Ljava/lang/String;"⟩ : MethodName) method_4_code 3 (some (.object "java/lang/String")) ({ frames := 6, cells := 4, slots := 12, locals := 88 } : Room) #[(.int (2 : Int32)), (.int c0), (.int c1)] h0 [] (Val fun w h' => ∃ t b, w = .ref t ∧ Ext h0 h' ∧ Exa Z h' t "java/lang/String" ∧ Fld Z h' t "java/lang/String" "value" "[B" (.ref b) ∧ Fld Z h' t "java/lang/String" "coder" "B" (.int (own_coder ([c0, c1].take 2))) ∧ Ary Z h' b .byte (own_enc ([c0, c1].take 2))) := by
  refine ConW.of_run (own_EW hw) pn_1 (fun m => ef_con_str2 m c0 c1 cz ) ?_
  intro vm hal hsf
  refine RunW.iloadN d1_0 rfl (pc' := 1) rfl ?_
  refine RunW.if_ne d1_1 (by decide) (pc' := 7) (by decide) (pa := 4) rfl (fun hc1 => ?_) (fun hc1 => ?_)
  · -- pc 1 taken: ¬ (2 : Int32) = (0 : Int32)
    refine RunW.iloadN d1_7 rfl (pc' := 8) rfl ?_
    refine RunW.iconst (1 : Int32) d1_8 (by decide) (pc' := 9) rfl ?_
    refine RunW.icmp_ne d1_9 (by decide) (pc' := 17) (by decide) (pa := 12) rfl (fun hc9 => ?_) (fun hc9 => ?_)
    · -- pc 9 taken: ¬ (2 : Int32) = (1 : Int32)
      refine RunW.newO (k' := 1) (n' := 4) d1_17 (hw _ (List.mem_of_getElem? (i := 5) rfl)) (hw _ (List.mem_of_getElem? (i := 6) rfl)) (hw _ (List.mem_of_getElem? (i := 7) rfl)) (by decide) (by decide) (by decide) (by decide) (pc' := 20) rfl ?_
      intro h11 b11 g11 E11 X11 D11 c11 sf11
      have ge_b11 : n0 ≤ b11 := by rw [g11]; exact Z0
      have bo_b11 : h0.size ≤ b11 := by rw [g11]; exact (Keep.refl h0 []).1
      have sz11 : n0 ≤ h11.size := Nat.le_trans Z0 E11.1
      have kp11 := Keep.ext (Keep.refl h0 []) E11
      have od11 := od0.ext E11
      have F_b11_coder : Fld Z h11 b11 "java/lang/String" "coder" "B" (.int (0 : Int32)) := D11 (Or.inr (hw _ (List.mem_of_getElem? (i := 32) rfl))) (ty := .byte) (by decide)
      have F_b11_value : Fld Z h11 b11 "java/lang/String" "value" "[B" .null := D11 (Or.inr (hw _ (List.mem_of_getElem? (i := 34) rfl))) (ty := (.array .byte)) (by decide)
      refine RunW.dup d1_20 rfl (pc' := 21) rfl ?_
      refine RunW.iconst (2 : Int32) d1_21 (by decide) (pc' := 22) rfl ?_
      refine RunW.newP (ty := .char) (m := 2) (cap := 2) (dv := (.int (0 : Int32))) (k' := 2) (n' := 6) d1_22 rfl (hw _ (List.mem_of_getElem? (i := 8) rfl)) (by decide) (by decide) (Nat.le_refl _) rfl (by decide) (by decide) (by decide) (by decide) (by decide) (pc' := 24) rfl ?_
      intro h12 b12 g12 E12 A12 c12 sf12
      have ge_b12 : n0 ≤ b12 := by rw [g12]; exact sz11
      have bo_b12 : h0.size ≤ b12 := by rw [g12]; exact kp11.1
      have ne_b11_b12 : b11 ≠ b12 := by rw [g12]; exact Nat.ne_of_lt X11.lt
      have E_b11_12 := X11.ext E12
      have Z_b11_12 := CHr.safe c12 X11.lt sf11
      have F_b11_coder_12 := F_b11_coder.ext E12
      have F_b11_value_12 := F_b11_value.ext E12
      have sz12 : n0 ≤ h12.size := Nat.le_trans sz11 E12.1
      have kp12 := Keep.ext kp11 E12
      have od12 := od11.ext E12
      replace A12 : Ary Z h12 b12 .char [(.int (0 : Int32)), (.int (0 : Int32))] := A12
      refine RunW.dup d1_24 rfl (pc' := 25) rfl ?_
      refine RunW.iconst (0 : Int32) d1_25 (by decide) (pc' := 26) rfl ?_
      refine RunW.iloadN d1_26 rfl (pc' := 27) rfl ?_
      refine RunW.castore (i := 0) d1_27 A12 (by decide) (by show (0 : Nat) < 2; decide) ge_b12 sf12 (pc' := 28) rfl ?_
      intro h13 W13 c13 A13
      have E_b11_13 := E_b11_12.wr W13
      have Z_b11_13 := CHr.safe c13 E_b11_12.lt Z_b11_12
      have F_b11_coder_13 := F_b11_coder_12.other W13 (Or.inl ne_b11_b12)
      have F_b11_value_13 := F_b11_value_12.other W13 (Or.inl ne_b11_b12)
      have Z_b12_13 := CHr.safe c13 A12.lt sf12
      have sz13 : n0 ≤ h13.size := by rw [W13.size]; exact sz12
      have kp13 := Keep.wr kp12 W13 (Or.inr bo_b12)
      have od13 := od12.wr W13 ge_b12
      rw [q0.1] at A13
      replace A13 : Ary Z h13 b12 .char [(.int c0), (.int (0 : Int32))] := A13
      refine RunW.dup d1_28 rfl (pc' := 29) rfl ?_
      refine RunW.iconst (1 : Int32) d1_29 (by decide) (pc' := 30) rfl ?_
      refine RunW.iloadN d1_30 rfl (pc' := 31) rfl ?_
      refine RunW.castore (i := 1) d1_31 A13 (by decide) (by show (1 : Nat) < 2; decide) ge_b12 Z_b12_13 (pc' := 32) rfl ?_
      intro h14 W14 c14 A14
      have E_b11_14 := E_b11_13.wr W14
      have Z_b11_14 := CHr.safe c14 E_b11_13.lt Z_b11_13
      have F_b11_coder_14 := F_b11_coder_13.other W14 (Or.inl ne_b11_b12)
      have F_b11_value_14 := F_b11_value_13.other W14 (Or.inl ne_b11_b12)
      have Z_b12_14 := CHr.safe c14 A13.lt Z_b12_13
      have sz14 : n0 ≤ h14.size := by rw [W14.size]; exact sz13
      have kp14 := Keep.wr kp13 W14 (Or.inr bo_b12)
      have od14 := od13.wr W14 ge_b12
      rw [q1.1] at A14
      replace A14 : Ary Z h14 b12 .char [(.int c0), (.int c1)] := A14
      refine RunW.callN (k' := 4) (n' := 12) (a := b11) (as := [(.ref b12)]) (rest := [(.ref b11)]) (con_si1 l Z a0 hw n0 h14 sz14 b11 b12 [c0, c1]  cz .null (.int (0 : Int32)) od14 SD SH8 SL8 SZ hcz E_b11_14 F_b11_value_14 F_b11_coder_14 ge_b11 A14 (by simp) (Nat.le_refl 2) (own_chr2 q0.2 q1.2) ne_b11_b12) (by rintro _ _ ⟨rfl, ⟨b_, bw_, K_, X_, FV_, FC_, P_⟩⟩; exact ⟨[b11], K_, (allS Z_b11_14 all0)⟩) rfl rfl d1_32 (hw _ (List.mem_of_getElem? (i := 9) rfl)) (hw _ (List.mem_of_getElem? (i := 10) rfl)) (hw _ (List.mem_of_getElem? (i := 7) rfl)) (hw _ (List.mem_of_getElem? (i := 11) rfl)) (by decide) pd___C_V rfl rfl rfl (by decide) (by show (1 : Nat) + (2 + 11) + 74 ≤ _; decide) (by decide) (by decide) (by decide) (by decide) (pc' := 35) rfl ?_
      rintro _ h15 ⟨rfl, ⟨b15, bw15, K15, X15, FV15, FC15, P15⟩⟩ c15
      show RunW l Z own_EL n0 "com/example/callimachus/callimachus/PackageIdCompareUtf8PinLaw" method_4_code 3 (some (.object "java/lang/String")) "str" ({ frames := 6, cells := 4, slots := 12, locals := 88 } : Room) _ 35 #[.val (.int (2 : Int32)), .val (.int c0), .val (.int c1)] [(.ref b11)] h15 vm 4 12
      have ge_b15 : n0 ≤ b15 := Nat.le_trans sz14 bw15
      have bo_b15 : h0.size ≤ b15 := Nat.le_trans kp14.1 bw15
      have ne_b11_b15 : b11 ≠ b15 := Nat.ne_of_lt (Nat.lt_of_lt_of_le E_b11_14.lt bw15)
      have ne_b12_b15 : b12 ≠ b15 := Nat.ne_of_lt (Nat.lt_of_lt_of_le A14.lt bw15)
      have E_b11_15 := E_b11_14.keep K15
      have Z_b11_15 := CHr.safe c15 E_b11_14.lt Z_b11_14
      have Z_b12_15 := CHr.safe c15 A14.lt Z_b12_14
      have A_b12_15 := A14.keep K15 (ninS (Ne.symm ne_b11_b12) nin0)
      have sz15 : n0 ≤ h15.size := Nat.le_trans sz14 K15.1
      have kp15 := Keep.trans kp14 K15 (allS (Or.inr bo_b11) all0)
      have od15 := od14.keep K15 (allS ge_b11 all0)
      exact RunW.areturn d1_35 (ty := (.object "java/lang/String")) rfl rfl rfl (by decide) (by decide) ⟨_, rfl, b11, b15, rfl, Keep.toExt kp15, X15, FV15, FC15, P15⟩
    · -- pc 9 not taken: (2 : Int32) = (1 : Int32)
      exact absurd hc9 (by decide)
  · -- pc 1 not taken: (2 : Int32) = (0 : Int32)
    exact absurd hc1 (by decide)
theorem con_str (l : Launch) (Z : State) (a0 : Array Value) (hw : ∀ d ∈ tables_1, d.before a0 Z = true) (n0 : Nat) (h0 : Heap) (Z0 : n0 ≤ h0.size) (n : Nat) (hn : n ≤ 2) (c0 c1 : Int32) (cz : Int32) (od0 : Old Z n0 h0) (SD : Sta Z Z.heap "java/lang/StringUTF16" "$assertionsDisabled" "Z" (.int (1 : Int32))) (SH8 : Sta Z Z.heap "java/lang/StringUTF16" "HI_BYTE_SHIFT" "I" (.int (0 : Int32))) (SL8 : Sta Z Z.heap "java/lang/StringUTF16" "LO_BYTE_SHIFT" "I" (.int (8 : Int32))) (SZ : Sta Z Z.heap "java/lang/String" "COMPACT_STRINGS" "Z" (.int cz)) (hcz : ¬ cz = 0) (q0 : nar .char c0 = c0 ∧ 0 ≤ c0.toInt ∧ c0.toInt ≤ 65535) (q1 : nar .char c1 = c1 ∧ 0 ≤ c1.toInt ∧ c1.toInt ≤ 65535) :
    ConW l Z own_EL n0 (⟨"com/example/callimachus/callimachus/PackageIdCompareUtf8PinLaw", "str", "(ICC)Ljava/lang/String;"⟩ : MethodName) method_4_code 3 (some (.object "java/lang/String")) ({ frames := 6, cells := 4, slots := 12, locals := 88 } : Room) #[.int (Int32.ofNat n), .int c0, .int c1] h0 [] (Val fun w h' => ∃ t b, w = .ref t ∧ Ext h0 h' ∧ Exa Z h' t "java/lang/String" ∧ Fld Z h' t "java/lang/String" "value" "[B" (.ref b) ∧ Fld Z h' t "java/lang/String" "coder" "B" (.int (own_coder ([c0, c1].take n))) ∧ Ary Z h' b .byte (own_enc ([c0, c1].take n))) := by
  match n, hn with
  | 0, _ => exact con_str0 l Z a0 hw n0 h0 Z0 c0 c1 cz od0 SD SH8 SL8 SZ hcz q0 q1
  | 1, _ => exact con_str1 l Z a0 hw n0 h0 Z0 c0 c1 cz od0 SD SH8 SL8 SZ hcz q0 q1
  | 2, _ => exact con_str2 l Z a0 hw n0 h0 Z0 c0 c1 cz od0 SD SH8 SL8 SZ hcz q0 q1
theorem own_md3 (x : Int32) : ∃ n : Nat, n ≤ 2 ∧ (x &&& (3 : Int32)) % (3 : Int32) = Int32.ofNat n := by
  have m := c_mask x 3 2 (by decide) (by decide)
  have r := c_irem (x &&& (3 : Int32)) 3 3 rfl
  simp only [Nat.reducePow] at m
  have h1 := r.1 (by omega)
  refine ⟨((x &&& (3 : Int32)).toInt % 3).toNat, by omega, own_eqi ?_⟩
  rw [own_ofn (by omega), h1]; omega
theorem own_chq (y : Int32) : nar .char (nar .char y) = nar .char y ∧ 0 ≤ (nar .char y).toInt ∧ (nar .char y).toInt ≤ 65535 := by
  have q := c_i2c y
  change ((nar .char _).toInt - _) % 65536 = 0 ∧ 0 ≤ (nar .char _).toInt ∧ (nar .char _).toInt < 65536 at q
  exact ⟨own_ncc y, by omega, by omega⟩
theorem own_t2 (a b : Int32) (n : Nat) : ([a, b].take n).length ≤ 2 := by rw [List.length_take]; simp; omega
theorem own_tk {cs : List Int32} {n : Nat} (h : own_chr cs) : own_chr (cs.take n) := fun c hc => h c (List.mem_of_mem_take hc)
theorem own_gt0 {n : Nat} (h : (0 : Int32) < Int32.ofNat n) (hn : n < 2 ^ 31) : 0 < n := (own_lt (i := 0) (by decide) hn).mp h
theorem own_gt1 {n : Nat} (h : (1 : Int32) < Int32.ofNat n) (hn : n < 2 ^ 31) : 1 < n := (own_lt (i := 1) (by decide) hn).mp h
theorem own_le0 {n : Nat} (h : ¬ (0 : Int32) < Int32.ofNat n) (hn : n < 2 ^ 31) : n = 0 := Nat.eq_zero_of_not_pos fun z => h ((own_lt (i := 0) (by decide) hn).mpr z)
theorem own_le1 {n : Nat} (h : ¬ (1 : Int32) < Int32.ofNat n) (hn : n < 2 ^ 31) : n ≤ 1 := Nat.le_of_not_lt fun z => h ((own_lt (i := 1) (by decide) hn).mpr z)
theorem own_sgnI (x : Int32) : (x.toInt < 0 → own_sgn x = -1) ∧ (x.toInt = 0 → own_sgn x = 0) ∧ (0 < x.toInt → own_sgn x = 1) := by
  have z := own_z
  refine ⟨fun h => ?_, fun h => ?_, fun h => ?_⟩
  · have h1 : x < 0 := by rw [Int32.lt_iff_toInt_lt, z]; exact h
    simp [own_sgn, h1]
  · have h1 : ¬ x < 0 := by rw [Int32.lt_iff_toInt_lt, z]; omega
    have h2 : ¬ 0 < x := by rw [Int32.lt_iff_toInt_lt, z]; omega
    simp only [own_sgn, h1, h2, if_false]
  · have h1 : ¬ x < 0 := by rw [Int32.lt_iff_toInt_lt, z]; omega
    have h2 : 0 < x := by rw [Int32.lt_iff_toInt_lt, z]; omega
    simp only [own_sgn, h1, h2, if_false, if_true]
theorem own_icmpI (x y : Int32) : (x.toInt < y.toInt → own_icmp x y = -1) ∧ (x.toInt = y.toInt → own_icmp x y = 0) ∧ (y.toInt < x.toInt → own_icmp x y = 1) := by
  refine ⟨fun h => ?_, fun h => ?_, fun h => ?_⟩
  · have h1 : x < y := by rw [Int32.lt_iff_toInt_lt]; exact h
    simp only [own_icmp, h1, if_true]
  · obtain rfl := own_eqi h
    have h1 : ¬ x < x := by rw [Int32.lt_iff_toInt_lt]; omega
    simp only [own_icmp, h1, if_false, if_true]
  · have h1 : ¬ x < y := by rw [Int32.lt_iff_toInt_lt]; omega
    have h2 : ¬ x = y := fun e => by rw [e] at h; omega
    simp only [own_icmp, h1, h2, if_false]
theorem own_icoI {c : Int32} (h : 0 ≤ c.toInt ∧ c.toInt ≤ 65535) : (c.toInt < 55296 → (own_ico c).toInt = c.toInt) ∧ (55296 ≤ c.toInt → c.toInt < 57344 → (own_ico c).toInt = c.toInt + 8192) ∧ (57344 ≤ c.toInt → (own_ico c).toInt = c.toInt - 2048) := by
  have e1 : (55296 : Int32).toInt = 55296 := rfl
  have e2 : (57344 : Int32).toInt = 57344 := rfl
  have a := c_iadd c 8192; have b := c_isub c 2048; have ra := rng32 (c + 8192); have rb := rng32 (c - 2048)
  have e3 : (8192 : Int32).toInt = 8192 := rfl
  have e4 : (2048 : Int32).toInt = 2048 := rfl
  refine ⟨fun g => ?_, fun g g' => ?_, fun g => ?_⟩
  · have h1 : c < 55296 := by rw [Int32.lt_iff_toInt_lt, e1]; exact g
    have h2 : c < 57344 := by rw [Int32.lt_iff_toInt_lt, e2]; omega
    simp [own_ico, own_sur, h1, h2]
  · have h1 : ¬ c < 55296 := by rw [Int32.lt_iff_toInt_lt, e1]; omega
    have h2 : c < 57344 := by rw [Int32.lt_iff_toInt_lt, e2]; omega
    simp only [own_ico, own_sur, h1, h2, if_true, if_false]
    simp only [show ¬ (1 : Int32) = 0 by decide, if_false]
    omega
  · have h1 : ¬ c < 55296 := by rw [Int32.lt_iff_toInt_lt, e1]; omega
    have h2 : ¬ c < 57344 := by rw [Int32.lt_iff_toInt_lt, e2]; omega
    simp only [own_ico, own_sur, h1, h2, if_true, if_false]
    omega
theorem own_keyI {c : Int32} (h : 0 ≤ c.toInt ∧ c.toInt ≤ 65535) : (c.toInt < 55296 → (own_key c).toInt = c.toInt) ∧ (55296 ≤ c.toInt → c.toInt < 57344 → (own_key c).toInt = c.toInt + 65536) ∧ (57344 ≤ c.toInt → (own_key c).toInt = c.toInt) := by
  have e1 : (55296 : Int32).toInt = 55296 := rfl
  have e2 : (57344 : Int32).toInt = 57344 := rfl
  have e3 : (65536 : Int32).toInt = 65536 := rfl
  have a := c_iadd c 65536; have ra := rng32 (c + 65536)
  refine ⟨fun g => ?_, fun g g' => ?_, fun g => ?_⟩
  · have h1 : c < 55296 := by rw [Int32.lt_iff_toInt_lt, e1]; exact g
    simp only [own_key, h1, if_true]
  · have h1 : ¬ c < 55296 := by rw [Int32.lt_iff_toInt_lt, e1]; omega
    have h2 : c < 57344 := by rw [Int32.lt_iff_toInt_lt, e2]; omega
    simp only [own_key, h1, h2, if_true, if_false]
    omega
  · have h1 : ¬ c < 55296 := by rw [Int32.lt_iff_toInt_lt, e1]; omega
    have h2 : ¬ c < 57344 := by rw [Int32.lt_iff_toInt_lt, e2]; omega
    simp only [own_key, h1, h2, if_false]
theorem own_rg {c : Int32} (h : 0 ≤ c.toInt ∧ c.toInt ≤ 65535) : (0 ≤ c.toInt ∧ c.toInt < 55296 ∧ (own_ico c).toInt = c.toInt ∧ (own_key c).toInt = c.toInt) ∨ (55296 ≤ c.toInt ∧ c.toInt < 57344 ∧ (own_ico c).toInt = c.toInt + 8192 ∧ (own_key c).toInt = c.toInt + 65536) ∨ (57344 ≤ c.toInt ∧ c.toInt ≤ 65535 ∧ (own_ico c).toInt = c.toInt - 2048 ∧ (own_key c).toInt = c.toInt) := by
  by_cases h1 : c.toInt < 55296
  · exact Or.inl ⟨h.1, h1, (own_icoI h).1 h1, (own_keyI h).1 h1⟩
  · by_cases h2 : c.toInt < 57344
    · exact Or.inr (Or.inl ⟨by omega, h2, (own_icoI h).2.1 (by omega) h2, (own_keyI h).2.1 (by omega) h2⟩)
    · exact Or.inr (Or.inr ⟨by omega, h.2, (own_icoI h).2.2 (by omega), (own_keyI h).2.2 (by omega)⟩)
theorem own_ord {x y : Int32} (hx : 0 ≤ x.toInt ∧ x.toInt ≤ 65535) (hy : 0 ≤ y.toInt ∧ y.toInt ≤ 65535) : own_sgn (own_icmp (own_ico x) (own_ico y)) = own_sgn (own_key x - own_key y) := by
  have n1 : own_sgn (-1) = -1 := by decide
  have n2 : own_sgn 0 = 0 := by decide
  have n3 : own_sgn 1 = 1 := by decide
  have d := c_isub (own_key x) (own_key y); have r := rng32 (own_key x - own_key y)
  have e : ((own_key x - own_key y).toInt < 0 ∧ (own_ico x).toInt < (own_ico y).toInt) ∨ ((own_key x - own_key y).toInt = 0 ∧ (own_ico x).toInt = (own_ico y).toInt) ∨ (0 < (own_key x - own_key y).toInt ∧ (own_ico y).toInt < (own_ico x).toInt) := by
    rcases own_rg hx with ⟨a1, a2, a3, a4⟩ | ⟨a1, a2, a3, a4⟩ | ⟨a1, a2, a3, a4⟩ <;> rcases own_rg hy with ⟨b1, b2, b3, b4⟩ | ⟨b1, b2, b3, b4⟩ | ⟨b1, b2, b3, b4⟩ <;> omega
  rcases e with ⟨p, g⟩ | ⟨p, g⟩ | ⟨p, g⟩
  · rw [(own_icmpI _ _).1 g, n1]; exact ((own_sgnI _).1 p).symm
  · rw [(own_icmpI _ _).2.1 g, n2]; exact ((own_sgnI _).2.1 p).symm
  · rw [(own_icmpI _ _).2.2 g, n3]; exact ((own_sgnI _).2.2 p).symm
def own_cc (x0 x1 y0 y1 : Int32) (na nb : Nat) : Int32 := own_cmp ([x0, x1].take na) ([y0, y1].take nb) (min ([x0, x1].take na).length ([y0, y1].take nb).length) 0
theorem own_L1 {x0 x1 y0 y1 : Int32} {na nb : Nat} (ha : na ≤ 2) (hb : nb ≤ 2) (h1 : 0 < na) (h2 : 0 < nb) (qx : 0 ≤ x0.toInt ∧ x0.toInt ≤ 65535) (qy : 0 ≤ y0.toInt ∧ y0.toInt ≤ 65535) (h : ¬ x0 = y0) : own_sgn (own_cmp ([x0, x1].take na) ([y0, y1].take nb) (min ([x0, x1].take na).length ([y0, y1].take nb).length) 0) = own_sgn (own_key x0 - own_key y0) := by
  rw [← own_ord qx qy]
  have : na = 1 ∨ na = 2 := by omega
  have : nb = 1 ∨ nb = 2 := by omega
  rcases ‹na = 1 ∨ na = 2› with rfl | rfl <;> rcases ‹nb = 1 ∨ nb = 2› with rfl | rfl <;> simp [own_cmp, h]
theorem own_L2 {x0 x1 y0 y1 : Int32} {na nb : Nat} (ha : na ≤ 2) (hb : nb ≤ 2) (hA : na = 0 ∨ nb = 0 ∨ x0 = y0) (h1 : 1 < na) (h2 : 1 < nb) (qx : 0 ≤ x1.toInt ∧ x1.toInt ≤ 65535) (qy : 0 ≤ y1.toInt ∧ y1.toInt ≤ 65535) (h : ¬ x1 = y1) : own_sgn (own_cmp ([x0, x1].take na) ([y0, y1].take nb) (min ([x0, x1].take na).length ([y0, y1].take nb).length) 0) = own_sgn (own_key x1 - own_key y1) := by
  rw [← own_ord qx qy]
  obtain rfl : na = 2 := by omega
  obtain rfl : nb = 2 := by omega
  have e : x0 = y0 := by rcases hA with z | z | z; omega; omega; exact z
  simp [own_cmp, h, e]
theorem own_L3 {x0 x1 y0 y1 : Int32} {na nb : Nat} (ha : na ≤ 2) (hb : nb ≤ 2) (hA : na = 0 ∨ nb = 0 ∨ x0 = y0) (hB : na ≤ 1 ∨ nb ≤ 1 ∨ x1 = y1) : own_sgn (own_cmp ([x0, x1].take na) ([y0, y1].take nb) (min ([x0, x1].take na).length ([y0, y1].take nb).length) 0) = own_sgn (Int32.ofNat na - Int32.ofNat nb) := by
  have : na = 0 ∨ na = 1 ∨ na = 2 := by omega
  have : nb = 0 ∨ nb = 1 ∨ nb = 2 := by omega
  rcases ‹na = 0 ∨ na = 1 ∨ na = 2› with rfl | rfl | rfl <;> rcases ‹nb = 0 ∨ nb = 1 ∨ nb = 2› with rfl | rfl | rfl <;> simp at hA hB <;> simp [own_cmp, hA, hB] <;> decide
theorem pn_0 : plainFor x = true := plainFor_of_name (by first | (simp [plainName, overriddenIn]; done) | decide +kernel)
theorem pd__ICC_Ljava_lang_String_ : parseMethodDescriptor "(ICC)Ljava/lang/String;" = some ⟨[.int, .char, .char], some (.object "java/lang/String")⟩ := by decide +kernel
theorem pd__Ljava_lang_String_Ljava_lang_String__I : parseMethodDescriptor "(Ljava/lang/String;Ljava/lang/String;)I" = some ⟨[(.object "java/lang/String"), (.object "java/lang/String")], some .int⟩ := by decide +kernel
theorem ef_con0 (m : MethodId) (p1 : Int32) (p2 : Int32) (p3 : Int32) (fm : Value) (cz : Int32)  : entryFrame m #[(.int p1), (.int p2), (.int p3)] maxLocals = mkF m 0 #[.val (.int p1), .val (.int p2), .val (.int p3), .unset, .unset, .unset, .unset, .unset, .unset, .unset, .unset, .unset, .unset] [] := by first | (simp [entryFrame, mkF, argsToLocals, Value.category, maxLocals]; done) | rfl
set_option maxRecDepth 65536 in
set_option maxHeartbeats 40000000 in
theorem con0 (l : Launch) (Z : State) (a0 : Array Value) (hw : ∀ d ∈ tables_1, d.before a0 Z = true) (n0 : Nat) (h0 : Heap) (Z0 : n0 ≤ h0.size) (p1 : Int32) (p2 : Int32) (p3 : Int32) (fm : Value) (cz : Int32) (od0 : Old Z n0 h0) (SF : Sta Z Z.heap "jdk/internal/util/Preconditions" "SIOOBE_FORMATTER" "Ljava/util/function/BiFunction;" fm) (hfm : fm.isRef = true) (SD : Sta Z Z.heap "java/lang/StringUTF16" "$assertionsDisabled" "Z" (.int (1 : Int32))) (SH8 : Sta Z Z.heap "java/lang/StringUTF16" "HI_BYTE_SHIFT" "I" (.int (0 : Int32))) (SL8 : Sta Z Z.heap "java/lang/StringUTF16" "LO_BYTE_SHIFT" "I" (.int (8 : Int32))) (SZ : Sta Z Z.heap "java/lang/String" "COMPACT_STRINGS" "Z" (.int cz)) (hcz : ¬ cz = 0) :
    ConW l Z own_EL n0 x code maxLocals ret room_1 #[(.int p1), (.int p2), (.int p3)] h0 [] (Val fun w _ => w = .int 1) := by
  refine ConW.of_run (own_EW hw) pn_0 (fun m => ef_con0 m p1 p2 p3 fm cz ) ?_
  intro vm hal hsf
  refine RunW.iloadN at_0 rfl (pc' := 1) rfl ?_
  refine RunW.iconst (3 : Int32) at_1 (by decide) (pc' := 2) rfl ?_
  refine RunW.iand at_2 (pc' := 3) rfl ?_
  refine RunW.iconst (3 : Int32) at_3 (by decide) (pc' := 4) rfl ?_
  refine RunW.irem at_4 (by decide) (pc' := 5) rfl ?_
  obtain ⟨na, h_na, e_na⟩ := own_md3 p3
  rw [e_na]
  refine RunW.istoreN (l' := #[.val (.int p1), .val (.int p2), .val (.int p3), .val (.int (Int32.ofNat na)), .unset, .unset, .unset, .unset, .unset, .unset, .unset, .unset, .unset]) at_5 rfl (pc' := 6) rfl ?_
  refine RunW.iloadN at_6 rfl (pc' := 7) rfl ?_
  refine RunW.iconst (2 : Int32) at_7 (by decide) (pc' := 8) rfl ?_
  refine RunW.iushr at_8 (pc' := 9) rfl ?_
  refine RunW.iconst (3 : Int32) at_9 (by decide) (pc' := 10) rfl ?_
  refine RunW.iand at_10 (pc' := 11) rfl ?_
  refine RunW.iconst (3 : Int32) at_11 (by decide) (pc' := 12) rfl ?_
  refine RunW.irem at_12 (by decide) (pc' := 13) rfl ?_
  obtain ⟨nb, h_nb, e_nb⟩ := own_md3 (XT.ushr p3 (2 : Int32))
  rw [e_nb]
  refine RunW.istore (l' := #[.val (.int p1), .val (.int p2), .val (.int p3), .val (.int (Int32.ofNat na)), .val (.int (Int32.ofNat nb)), .unset, .unset, .unset, .unset, .unset, .unset, .unset, .unset]) at_13 rfl (pc' := 15) rfl ?_
  refine RunW.iloadN at_15 rfl (pc' := 16) rfl ?_
  refine RunW.ldcI (v := (65535 : Int32)) at_16 (hw _ (List.mem_of_getElem? (i := 0) rfl)) (pc' := 18) rfl ?_
  refine RunW.iand at_18 (pc' := 19) rfl ?_
  refine RunW.i2c at_19 (pc' := 20) rfl ?_
  have q_x0 := own_chq (p1 &&& (65535 : Int32))
  generalize (nar .char (p1 &&& (65535 : Int32))) = x0 at q_x0 ⊢
  refine RunW.istore (l' := #[.val (.int p1), .val (.int p2), .val (.int p3), .val (.int (Int32.ofNat na)), .val (.int (Int32.ofNat nb)), .val (.int x0), .unset, .unset, .unset, .unset, .unset, .unset, .unset]) at_20 rfl (pc' := 22) rfl ?_
  refine RunW.iloadN at_22 rfl (pc' := 23) rfl ?_
  refine RunW.bipush (16 : Int32) at_23 (by decide) (pc' := 25) rfl ?_
  refine RunW.iushr at_25 (pc' := 26) rfl ?_
  refine RunW.ldcI (v := (65535 : Int32)) at_26 (hw _ (List.mem_of_getElem? (i := 0) rfl)) (pc' := 28) rfl ?_
  refine RunW.iand at_28 (pc' := 29) rfl ?_
  refine RunW.i2c at_29 (pc' := 30) rfl ?_
  have q_x1 := own_chq ((XT.ushr p1 (16 : Int32)) &&& (65535 : Int32))
  generalize (nar .char ((XT.ushr p1 (16 : Int32)) &&& (65535 : Int32))) = x1 at q_x1 ⊢
  refine RunW.istore (l' := #[.val (.int p1), .val (.int p2), .val (.int p3), .val (.int (Int32.ofNat na)), .val (.int (Int32.ofNat nb)), .val (.int x0), .val (.int x1), .unset, .unset, .unset, .unset, .unset, .unset]) at_30 rfl (pc' := 32) rfl ?_
  refine RunW.iloadN at_32 rfl (pc' := 33) rfl ?_
  refine RunW.ldcI (v := (65535 : Int32)) at_33 (hw _ (List.mem_of_getElem? (i := 0) rfl)) (pc' := 35) rfl ?_
  refine RunW.iand at_35 (pc' := 36) rfl ?_
  refine RunW.i2c at_36 (pc' := 37) rfl ?_
  have q_y0 := own_chq (p2 &&& (65535 : Int32))
  generalize (nar .char (p2 &&& (65535 : Int32))) = y0 at q_y0 ⊢
  refine RunW.istore (l' := #[.val (.int p1), .val (.int p2), .val (.int p3), .val (.int (Int32.ofNat na)), .val (.int (Int32.ofNat nb)), .val (.int x0), .val (.int x1), .val (.int y0), .unset, .unset, .unset, .unset, .unset]) at_37 rfl (pc' := 39) rfl ?_
  refine RunW.iloadN at_39 rfl (pc' := 40) rfl ?_
  refine RunW.bipush (16 : Int32) at_40 (by decide) (pc' := 42) rfl ?_
  refine RunW.iushr at_42 (pc' := 43) rfl ?_
  refine RunW.ldcI (v := (65535 : Int32)) at_43 (hw _ (List.mem_of_getElem? (i := 0) rfl)) (pc' := 45) rfl ?_
  refine RunW.iand at_45 (pc' := 46) rfl ?_
  refine RunW.i2c at_46 (pc' := 47) rfl ?_
  have q_y1 := own_chq ((XT.ushr p2 (16 : Int32)) &&& (65535 : Int32))
  generalize (nar .char ((XT.ushr p2 (16 : Int32)) &&& (65535 : Int32))) = y1 at q_y1 ⊢
  refine RunW.istore (l' := #[.val (.int p1), .val (.int p2), .val (.int p3), .val (.int (Int32.ofNat na)), .val (.int (Int32.ofNat nb)), .val (.int x0), .val (.int x1), .val (.int y0), .val (.int y1), .unset, .unset, .unset, .unset]) at_47 rfl (pc' := 49) rfl ?_
  refine RunW.iloadN at_49 rfl (pc' := 50) rfl ?_
  refine RunW.iconst (4 : Int32) at_50 (by decide) (pc' := 51) rfl ?_
  refine RunW.iushr at_51 (pc' := 52) rfl ?_
  refine RunW.iconst (1 : Int32) at_52 (by decide) (pc' := 53) rfl ?_
  refine RunW.iand at_53 (pc' := 54) rfl ?_
  refine RunW.if_eq at_54 (by decide) (pc' := 61) (by decide) (pa := 57) rfl (fun hc54 => ?_) (fun hc54 => ?_)
  · -- pc 54 taken: ((XT.ushr p3 (4 : Int32)) &&& (1 : Int32)) = (0 : Int32)
    refine RunW.iloadN at_61 rfl (pc' := 62) rfl ?_
    refine RunW.iconst (5 : Int32) at_62 (by decide) (pc' := 63) rfl ?_
    refine RunW.iushr at_63 (pc' := 64) rfl ?_
    refine RunW.iconst (1 : Int32) at_64 (by decide) (pc' := 65) rfl ?_
    refine RunW.iand at_65 (pc' := 66) rfl ?_
    refine RunW.if_eq at_66 (by decide) (pc' := 73) (by decide) (pa := 69) rfl (fun hc66 => ?_) (fun hc66 => ?_)
    · -- pc 66 taken: ((XT.ushr p3 (5 : Int32)) &&& (1 : Int32)) = (0 : Int32)
      refine RunW.iloadN at_73 rfl (pc' := 74) rfl ?_
      refine RunW.iload at_74 rfl (pc' := 76) rfl ?_
      refine RunW.iload at_76 rfl (pc' := 78) rfl ?_
      refine RunW.callSW (k' := 4) (n' := 12) (as := [(.int (Int32.ofNat na)), (.int x0), (.int x1)]) (rest := []) (con_str l Z a0 hw n0 h0 Z0 na h_na x0 x1 cz od0 SD SH8 SL8 SZ hcz q_x0 q_x1) all0 (own_EW hw) at_78 (hw _ (List.mem_of_getElem? (i := 1) rfl)) (hw _ (List.mem_of_getElem? (i := 2) rfl)) (hw _ (List.mem_of_getElem? (i := 3) rfl)) (hw _ (List.mem_of_getElem? (i := 4) rfl)) (by decide) pd__ICC_Ljava_lang_String_ rfl rfl rfl (by decide) (by show (0 : Nat) + (3 + 11) + 88 ≤ _; decide) (by decide) (by decide) (by decide) (by decide) (pc' := 81) rfl ?_
      rintro _ h11 vm11 ⟨_, rfl, ⟨t11, b11, rfl, E11, X11, FV11, FC11, P11⟩⟩ c11
      show RunW l Z own_EL n0 x.cls code maxLocals ret x.name room_1 _ 81 #[.val (.int p1), .val (.int p2), .val (.int p3), .val (.int (Int32.ofNat na)), .val (.int (Int32.ofNat nb)), .val (.int x0), .val (.int x1), .val (.int y0), .val (.int y1), .unset, .unset, .unset, .unset] [(.ref t11)] h11 vm11 4 12
      have sz11 : n0 ≤ h11.size := Nat.le_trans Z0 E11.1
      have kp11 := Keep.ext (Keep.refl h0 []) E11
      have od11 := od0.ext E11
      refine RunW.astore (l' := #[.val (.int p1), .val (.int p2), .val (.int p3), .val (.int (Int32.ofNat na)), .val (.int (Int32.ofNat nb)), .val (.int x0), .val (.int x1), .val (.int y0), .val (.int y1), .val (.ref t11), .unset, .unset, .unset]) at_81 rfl rfl (pc' := 83) rfl ?_
      refine RunW.iload at_83 rfl (pc' := 85) rfl ?_
      refine RunW.iload at_85 rfl (pc' := 87) rfl ?_
      refine RunW.iload at_87 rfl (pc' := 89) rfl ?_
      refine RunW.callSW (k' := 8) (n' := 24) (as := [(.int (Int32.ofNat nb)), (.int y0), (.int y1)]) (rest := []) (con_str l Z a0 hw n0 h11 sz11 nb h_nb y0 y1 cz od11 SD SH8 SL8 SZ hcz q_y0 q_y1) all0 (own_EW hw) at_89 (hw _ (List.mem_of_getElem? (i := 1) rfl)) (hw _ (List.mem_of_getElem? (i := 2) rfl)) (hw _ (List.mem_of_getElem? (i := 3) rfl)) (hw _ (List.mem_of_getElem? (i := 4) rfl)) (by decide) pd__ICC_Ljava_lang_String_ rfl rfl rfl (by decide) (by show (0 : Nat) + (3 + 11) + 88 ≤ _; decide) (by decide) (by decide) (by decide) (by decide) (pc' := 92) rfl ?_
      rintro _ h12 vm12 ⟨_, rfl, ⟨t12, b12, rfl, E12, X12, FV12, FC12, P12⟩⟩ c12
      show RunW l Z own_EL n0 x.cls code maxLocals ret x.name room_1 _ 92 #[.val (.int p1), .val (.int p2), .val (.int p3), .val (.int (Int32.ofNat na)), .val (.int (Int32.ofNat nb)), .val (.int x0), .val (.int x1), .val (.int y0), .val (.int y1), .val (.ref t11), .unset, .unset, .unset] [(.ref t12)] h12 vm12 8 24
      have E_t11_12 := X11.ext E12
      have F_t11_value_12 := FV11.ext E12
      have F_t11_coder_12 := FC11.ext E12
      have A_b11_12 := P11.ext E12
      have sz12 : n0 ≤ h12.size := Nat.le_trans sz11 E12.1
      have kp12 := Keep.ext kp11 E12
      have od12 := od11.ext E12
      refine RunW.astore (l' := #[.val (.int p1), .val (.int p2), .val (.int p3), .val (.int (Int32.ofNat na)), .val (.int (Int32.ofNat nb)), .val (.int x0), .val (.int x1), .val (.int y0), .val (.int y1), .val (.ref t11), .val (.ref t12), .unset, .unset]) at_92 rfl rfl (pc' := 94) rfl ?_
      refine RunW.iloadN at_94 rfl (pc' := 95) rfl ?_
      refine RunW.if_le at_95 (by decide) (pc' := 129) (by decide) (pa := 98) rfl (fun hc95 => ?_) (fun hc95 => ?_)
      · -- pc 95 taken: ¬ (0 : Int32) < (Int32.ofNat na)
        refine RunW.iloadN at_129 rfl (pc' := 130) rfl ?_
        refine RunW.iconst (1 : Int32) at_130 (by decide) (pc' := 131) rfl ?_
        refine RunW.icmp_le at_131 (by decide) (pc' := 166) (by decide) (pa := 134) rfl (fun hc131 => ?_) (fun hc131 => ?_)
        · -- pc 131 taken: ¬ (1 : Int32) < (Int32.ofNat na)
          refine RunW.iloadN at_166 rfl (pc' := 167) rfl ?_
          refine RunW.iload at_167 rfl (pc' := 169) rfl ?_
          refine RunW.isub at_169 (pc' := 170) rfl ?_
          refine RunW.callS (k' := 8) (n' := 24) (as := [(.int ((Int32.ofNat na) - (Int32.ofNat nb)))]) (rest := []) (con_own_sgn l Z a0 hw n0 h12 sz12 ((Int32.ofNat na) - (Int32.ofNat nb)) ) (by rintro _ _ ⟨_, -, -, rfl⟩; exact ⟨[], Keep.refl _ _, all0⟩) at_170 (hw _ (List.mem_of_getElem? (i := 38) rfl)) (hw _ (List.mem_of_getElem? (i := 39) rfl)) (hw _ (List.mem_of_getElem? (i := 3) rfl)) (hw _ (List.mem_of_getElem? (i := 40) rfl)) (by decide) pd__I_I rfl rfl rfl (by decide) (by show (0 : Nat) + (1 + 11) + 0 ≤ _; decide) (by decide) (by decide) (by decide) (by decide) (pc' := 173) rfl ?_
          rintro _ _ ⟨_, rfl, rfl, rfl⟩ -
          show RunW l Z own_EL n0 x.cls code maxLocals ret x.name room_1 _ 173 #[.val (.int p1), .val (.int p2), .val (.int p3), .val (.int (Int32.ofNat na)), .val (.int (Int32.ofNat nb)), .val (.int x0), .val (.int x1), .val (.int y0), .val (.int y1), .val (.ref t11), .val (.ref t12), .unset, .unset] [(.int (own_sgn ((Int32.ofNat na) - (Int32.ofNat nb))))] h12 vm12 8 24
          refine RunW.istore (l' := #[.val (.int p1), .val (.int p2), .val (.int p3), .val (.int (Int32.ofNat na)), .val (.int (Int32.ofNat nb)), .val (.int x0), .val (.int x1), .val (.int y0), .val (.int y1), .val (.ref t11), .val (.ref t12), .val (.int (own_sgn ((Int32.ofNat na) - (Int32.ofNat nb)))), .unset]) at_173 rfl (pc' := 175) rfl ?_
          refine RunW.aload at_175 rfl rfl (pc' := 177) rfl ?_
          refine RunW.aload at_177 rfl rfl (pc' := 179) rfl ?_
          refine RunW.callS (k' := 8) (n' := 24) (as := [(.ref t11), (.ref t12)]) (rest := []) (con_cu8 l Z a0 hw n0 h12 sz12 t11 b11 t12 b12 ([x0, x1].take na) ([y0, y1].take nb) fm cz od12 SF hfm SD SH8 SL8 SZ hcz E_t11_12 F_t11_value_12 F_t11_coder_12 A_b11_12 X12 FV12 FC12 P12 (own_t2 _ _ _) (own_tk (own_chr2 q_x0.2 q_x1.2)) (own_t2 _ _ _) (own_tk (own_chr2 q_y0.2 q_y1.2)) ) (by rintro _ _ ⟨_, -, -, rfl⟩; exact ⟨[], Keep.refl _ _, all0⟩) at_179 (hw _ (List.mem_of_getElem? (i := 41) rfl)) (hw _ (List.mem_of_getElem? (i := 42) rfl)) (hw _ (List.mem_of_getElem? (i := 43) rfl)) (hw _ (List.mem_of_getElem? (i := 44) rfl)) (by decide) pd__Ljava_lang_String_Ljava_lang_String__I rfl rfl rfl (by decide) (by show (0 : Nat) + (6 + 11) + 66 ≤ _; decide) (by decide) (by decide) (by decide) (by decide) (pc' := 182) rfl ?_
          rintro _ _ ⟨_, rfl, rfl, rfl⟩ -
          show RunW l Z own_EL n0 x.cls code maxLocals ret x.name room_1 _ 182 #[.val (.int p1), .val (.int p2), .val (.int p3), .val (.int (Int32.ofNat na)), .val (.int (Int32.ofNat nb)), .val (.int x0), .val (.int x1), .val (.int y0), .val (.int y1), .val (.ref t11), .val (.ref t12), .val (.int (own_sgn ((Int32.ofNat na) - (Int32.ofNat nb)))), .unset] [(.int (own_cmp ([x0, x1].take na) ([y0, y1].take nb) (min ([x0, x1].take na).length ([y0, y1].take nb).length) 0))] h12 vm12 8 24
          refine RunW.callS (k' := 8) (n' := 24) (as := [(.int (own_cmp ([x0, x1].take na) ([y0, y1].take nb) (min ([x0, x1].take na).length ([y0, y1].take nb).length) 0))]) (rest := []) (con_own_sgn l Z a0 hw n0 h12 sz12 (own_cmp ([x0, x1].take na) ([y0, y1].take nb) (min ([x0, x1].take na).length ([y0, y1].take nb).length) 0) ) (by rintro _ _ ⟨_, -, -, rfl⟩; exact ⟨[], Keep.refl _ _, all0⟩) at_182 (hw _ (List.mem_of_getElem? (i := 38) rfl)) (hw _ (List.mem_of_getElem? (i := 39) rfl)) (hw _ (List.mem_of_getElem? (i := 3) rfl)) (hw _ (List.mem_of_getElem? (i := 40) rfl)) (by decide) pd__I_I rfl rfl rfl (by decide) (by show (0 : Nat) + (1 + 11) + 0 ≤ _; decide) (by decide) (by decide) (by decide) (by decide) (pc' := 185) rfl ?_
          rintro _ _ ⟨_, rfl, rfl, rfl⟩ -
          show RunW l Z own_EL n0 x.cls code maxLocals ret x.name room_1 _ 185 #[.val (.int p1), .val (.int p2), .val (.int p3), .val (.int (Int32.ofNat na)), .val (.int (Int32.ofNat nb)), .val (.int x0), .val (.int x1), .val (.int y0), .val (.int y1), .val (.ref t11), .val (.ref t12), .val (.int (own_sgn ((Int32.ofNat na) - (Int32.ofNat nb)))), .unset] [(.int (own_sgn (own_cmp ([x0, x1].take na) ([y0, y1].take nb) (min ([x0, x1].take na).length ([y0, y1].take nb).length) 0)))] h12 vm12 8 24
          refine RunW.istore (l' := #[.val (.int p1), .val (.int p2), .val (.int p3), .val (.int (Int32.ofNat na)), .val (.int (Int32.ofNat nb)), .val (.int x0), .val (.int x1), .val (.int y0), .val (.int y1), .val (.ref t11), .val (.ref t12), .val (.int (own_sgn ((Int32.ofNat na) - (Int32.ofNat nb)))), .val (.int (own_sgn (own_cmp ([x0, x1].take na) ([y0, y1].take nb) (min ([x0, x1].take na).length ([y0, y1].take nb).length) 0)))]) at_185 rfl (pc' := 187) rfl ?_
          refine RunW.iload at_187 rfl (pc' := 189) rfl ?_
          refine RunW.iload at_189 rfl (pc' := 191) rfl ?_
          refine RunW.icmp_ne at_191 (by decide) (pc' := 198) (by decide) (pa := 194) rfl (fun hc191 => ?_) (fun hc191 => ?_)
          · -- pc 191 taken: ¬ (own_sgn (own_cmp ([x0, x1].take na) ([y0, y1].take nb) (min ([x0, x1].take na).length ([y0, y1].take nb).length) 0)) = (own_sgn ((Int32.ofNat na) - (Int32.ofNat nb)))
            exact absurd (own_L3 h_na h_nb (Or.inl (own_le0 hc95 (by omega))) (Or.inl (own_le1 hc131 (by omega)))) hc191
          · -- pc 191 not taken: (own_sgn (own_cmp ([x0, x1].take na) ([y0, y1].take nb) (min ([x0, x1].take na).length ([y0, y1].take nb).length) 0)) = (own_sgn ((Int32.ofNat na) - (Int32.ofNat nb)))
            refine RunW.iconst (1 : Int32) at_194 (by decide) (pc' := 195) rfl ?_
            refine RunW.goto at_195 (by decide) (pc' := 199) (by decide) ?_
            exact RunW.nreturn at_199 (ty := .boolean) rfl (by simp) (by decide) (by decide) ⟨_, rfl, rfl⟩
        · -- pc 131 not taken: (1 : Int32) < (Int32.ofNat na)
          refine RunW.iload at_134 rfl (pc' := 136) rfl ?_
          refine RunW.iconst (1 : Int32) at_136 (by decide) (pc' := 137) rfl ?_
          refine RunW.icmp_le at_137 (by decide) (pc' := 166) (by decide) (pa := 140) rfl (fun hc137 => ?_) (fun hc137 => ?_)
          · -- pc 137 taken: ¬ (1 : Int32) < (Int32.ofNat nb)
            refine RunW.iloadN at_166 rfl (pc' := 167) rfl ?_
            refine RunW.iload at_167 rfl (pc' := 169) rfl ?_
            refine RunW.isub at_169 (pc' := 170) rfl ?_
            refine RunW.callS (k' := 8) (n' := 24) (as := [(.int ((Int32.ofNat na) - (Int32.ofNat nb)))]) (rest := []) (con_own_sgn l Z a0 hw n0 h12 sz12 ((Int32.ofNat na) - (Int32.ofNat nb)) ) (by rintro _ _ ⟨_, -, -, rfl⟩; exact ⟨[], Keep.refl _ _, all0⟩) at_170 (hw _ (List.mem_of_getElem? (i := 38) rfl)) (hw _ (List.mem_of_getElem? (i := 39) rfl)) (hw _ (List.mem_of_getElem? (i := 3) rfl)) (hw _ (List.mem_of_getElem? (i := 40) rfl)) (by decide) pd__I_I rfl rfl rfl (by decide) (by show (0 : Nat) + (1 + 11) + 0 ≤ _; decide) (by decide) (by decide) (by decide) (by decide) (pc' := 173) rfl ?_
            rintro _ _ ⟨_, rfl, rfl, rfl⟩ -
            show RunW l Z own_EL n0 x.cls code maxLocals ret x.name room_1 _ 173 #[.val (.int p1), .val (.int p2), .val (.int p3), .val (.int (Int32.ofNat na)), .val (.int (Int32.ofNat nb)), .val (.int x0), .val (.int x1), .val (.int y0), .val (.int y1), .val (.ref t11), .val (.ref t12), .unset, .unset] [(.int (own_sgn ((Int32.ofNat na) - (Int32.ofNat nb))))] h12 vm12 8 24
            refine RunW.istore (l' := #[.val (.int p1), .val (.int p2), .val (.int p3), .val (.int (Int32.ofNat na)), .val (.int (Int32.ofNat nb)), .val (.int x0), .val (.int x1), .val (.int y0), .val (.int y1), .val (.ref t11), .val (.ref t12), .val (.int (own_sgn ((Int32.ofNat na) - (Int32.ofNat nb)))), .unset]) at_173 rfl (pc' := 175) rfl ?_
            refine RunW.aload at_175 rfl rfl (pc' := 177) rfl ?_
            refine RunW.aload at_177 rfl rfl (pc' := 179) rfl ?_
            refine RunW.callS (k' := 8) (n' := 24) (as := [(.ref t11), (.ref t12)]) (rest := []) (con_cu8 l Z a0 hw n0 h12 sz12 t11 b11 t12 b12 ([x0, x1].take na) ([y0, y1].take nb) fm cz od12 SF hfm SD SH8 SL8 SZ hcz E_t11_12 F_t11_value_12 F_t11_coder_12 A_b11_12 X12 FV12 FC12 P12 (own_t2 _ _ _) (own_tk (own_chr2 q_x0.2 q_x1.2)) (own_t2 _ _ _) (own_tk (own_chr2 q_y0.2 q_y1.2)) ) (by rintro _ _ ⟨_, -, -, rfl⟩; exact ⟨[], Keep.refl _ _, all0⟩) at_179 (hw _ (List.mem_of_getElem? (i := 41) rfl)) (hw _ (List.mem_of_getElem? (i := 42) rfl)) (hw _ (List.mem_of_getElem? (i := 43) rfl)) (hw _ (List.mem_of_getElem? (i := 44) rfl)) (by decide) pd__Ljava_lang_String_Ljava_lang_String__I rfl rfl rfl (by decide) (by show (0 : Nat) + (6 + 11) + 66 ≤ _; decide) (by decide) (by decide) (by decide) (by decide) (pc' := 182) rfl ?_
            rintro _ _ ⟨_, rfl, rfl, rfl⟩ -
            show RunW l Z own_EL n0 x.cls code maxLocals ret x.name room_1 _ 182 #[.val (.int p1), .val (.int p2), .val (.int p3), .val (.int (Int32.ofNat na)), .val (.int (Int32.ofNat nb)), .val (.int x0), .val (.int x1), .val (.int y0), .val (.int y1), .val (.ref t11), .val (.ref t12), .val (.int (own_sgn ((Int32.ofNat na) - (Int32.ofNat nb)))), .unset] [(.int (own_cmp ([x0, x1].take na) ([y0, y1].take nb) (min ([x0, x1].take na).length ([y0, y1].take nb).length) 0))] h12 vm12 8 24
            refine RunW.callS (k' := 8) (n' := 24) (as := [(.int (own_cmp ([x0, x1].take na) ([y0, y1].take nb) (min ([x0, x1].take na).length ([y0, y1].take nb).length) 0))]) (rest := []) (con_own_sgn l Z a0 hw n0 h12 sz12 (own_cmp ([x0, x1].take na) ([y0, y1].take nb) (min ([x0, x1].take na).length ([y0, y1].take nb).length) 0) ) (by rintro _ _ ⟨_, -, -, rfl⟩; exact ⟨[], Keep.refl _ _, all0⟩) at_182 (hw _ (List.mem_of_getElem? (i := 38) rfl)) (hw _ (List.mem_of_getElem? (i := 39) rfl)) (hw _ (List.mem_of_getElem? (i := 3) rfl)) (hw _ (List.mem_of_getElem? (i := 40) rfl)) (by decide) pd__I_I rfl rfl rfl (by decide) (by show (0 : Nat) + (1 + 11) + 0 ≤ _; decide) (by decide) (by decide) (by decide) (by decide) (pc' := 185) rfl ?_
            rintro _ _ ⟨_, rfl, rfl, rfl⟩ -
            show RunW l Z own_EL n0 x.cls code maxLocals ret x.name room_1 _ 185 #[.val (.int p1), .val (.int p2), .val (.int p3), .val (.int (Int32.ofNat na)), .val (.int (Int32.ofNat nb)), .val (.int x0), .val (.int x1), .val (.int y0), .val (.int y1), .val (.ref t11), .val (.ref t12), .val (.int (own_sgn ((Int32.ofNat na) - (Int32.ofNat nb)))), .unset] [(.int (own_sgn (own_cmp ([x0, x1].take na) ([y0, y1].take nb) (min ([x0, x1].take na).length ([y0, y1].take nb).length) 0)))] h12 vm12 8 24
            refine RunW.istore (l' := #[.val (.int p1), .val (.int p2), .val (.int p3), .val (.int (Int32.ofNat na)), .val (.int (Int32.ofNat nb)), .val (.int x0), .val (.int x1), .val (.int y0), .val (.int y1), .val (.ref t11), .val (.ref t12), .val (.int (own_sgn ((Int32.ofNat na) - (Int32.ofNat nb)))), .val (.int (own_sgn (own_cmp ([x0, x1].take na) ([y0, y1].take nb) (min ([x0, x1].take na).length ([y0, y1].take nb).length) 0)))]) at_185 rfl (pc' := 187) rfl ?_
            refine RunW.iload at_187 rfl (pc' := 189) rfl ?_
            refine RunW.iload at_189 rfl (pc' := 191) rfl ?_
            refine RunW.icmp_ne at_191 (by decide) (pc' := 198) (by decide) (pa := 194) rfl (fun hc191 => ?_) (fun hc191 => ?_)
            · -- pc 191 taken: ¬ (own_sgn (own_cmp ([x0, x1].take na) ([y0, y1].take nb) (min ([x0, x1].take na).length ([y0, y1].take nb).length) 0)) = (own_sgn ((Int32.ofNat na) - (Int32.ofNat nb)))
              exact absurd (own_L3 h_na h_nb (Or.inl (own_le0 hc95 (by omega))) (Or.inr (Or.inl (own_le1 hc137 (by omega))))) hc191
            · -- pc 191 not taken: (own_sgn (own_cmp ([x0, x1].take na) ([y0, y1].take nb) (min ([x0, x1].take na).length ([y0, y1].take nb).length) 0)) = (own_sgn ((Int32.ofNat na) - (Int32.ofNat nb)))
              refine RunW.iconst (1 : Int32) at_194 (by decide) (pc' := 195) rfl ?_
              refine RunW.goto at_195 (by decide) (pc' := 199) (by decide) ?_
              exact RunW.nreturn at_199 (ty := .boolean) rfl (by simp) (by decide) (by decide) ⟨_, rfl, rfl⟩
          · -- pc 137 not taken: (1 : Int32) < (Int32.ofNat nb)
            refine RunW.iload at_140 rfl (pc' := 142) rfl ?_
            refine RunW.iload at_142 rfl (pc' := 144) rfl ?_
            refine RunW.icmp_eq at_144 (by decide) (pc' := 166) (by decide) (pa := 147) rfl (fun hc144 => ?_) (fun hc144 => ?_)
            · -- pc 144 taken: x1 = y1
              refine RunW.iloadN at_166 rfl (pc' := 167) rfl ?_
              refine RunW.iload at_167 rfl (pc' := 169) rfl ?_
              refine RunW.isub at_169 (pc' := 170) rfl ?_
              refine RunW.callS (k' := 8) (n' := 24) (as := [(.int ((Int32.ofNat na) - (Int32.ofNat nb)))]) (rest := []) (con_own_sgn l Z a0 hw n0 h12 sz12 ((Int32.ofNat na) - (Int32.ofNat nb)) ) (by rintro _ _ ⟨_, -, -, rfl⟩; exact ⟨[], Keep.refl _ _, all0⟩) at_170 (hw _ (List.mem_of_getElem? (i := 38) rfl)) (hw _ (List.mem_of_getElem? (i := 39) rfl)) (hw _ (List.mem_of_getElem? (i := 3) rfl)) (hw _ (List.mem_of_getElem? (i := 40) rfl)) (by decide) pd__I_I rfl rfl rfl (by decide) (by show (0 : Nat) + (1 + 11) + 0 ≤ _; decide) (by decide) (by decide) (by decide) (by decide) (pc' := 173) rfl ?_
              rintro _ _ ⟨_, rfl, rfl, rfl⟩ -
              show RunW l Z own_EL n0 x.cls code maxLocals ret x.name room_1 _ 173 #[.val (.int p1), .val (.int p2), .val (.int p3), .val (.int (Int32.ofNat na)), .val (.int (Int32.ofNat nb)), .val (.int x0), .val (.int x1), .val (.int y0), .val (.int y1), .val (.ref t11), .val (.ref t12), .unset, .unset] [(.int (own_sgn ((Int32.ofNat na) - (Int32.ofNat nb))))] h12 vm12 8 24
              refine RunW.istore (l' := #[.val (.int p1), .val (.int p2), .val (.int p3), .val (.int (Int32.ofNat na)), .val (.int (Int32.ofNat nb)), .val (.int x0), .val (.int x1), .val (.int y0), .val (.int y1), .val (.ref t11), .val (.ref t12), .val (.int (own_sgn ((Int32.ofNat na) - (Int32.ofNat nb)))), .unset]) at_173 rfl (pc' := 175) rfl ?_
              refine RunW.aload at_175 rfl rfl (pc' := 177) rfl ?_
              refine RunW.aload at_177 rfl rfl (pc' := 179) rfl ?_
              refine RunW.callS (k' := 8) (n' := 24) (as := [(.ref t11), (.ref t12)]) (rest := []) (con_cu8 l Z a0 hw n0 h12 sz12 t11 b11 t12 b12 ([x0, x1].take na) ([y0, y1].take nb) fm cz od12 SF hfm SD SH8 SL8 SZ hcz E_t11_12 F_t11_value_12 F_t11_coder_12 A_b11_12 X12 FV12 FC12 P12 (own_t2 _ _ _) (own_tk (own_chr2 q_x0.2 q_x1.2)) (own_t2 _ _ _) (own_tk (own_chr2 q_y0.2 q_y1.2)) ) (by rintro _ _ ⟨_, -, -, rfl⟩; exact ⟨[], Keep.refl _ _, all0⟩) at_179 (hw _ (List.mem_of_getElem? (i := 41) rfl)) (hw _ (List.mem_of_getElem? (i := 42) rfl)) (hw _ (List.mem_of_getElem? (i := 43) rfl)) (hw _ (List.mem_of_getElem? (i := 44) rfl)) (by decide) pd__Ljava_lang_String_Ljava_lang_String__I rfl rfl rfl (by decide) (by show (0 : Nat) + (6 + 11) + 66 ≤ _; decide) (by decide) (by decide) (by decide) (by decide) (pc' := 182) rfl ?_
              rintro _ _ ⟨_, rfl, rfl, rfl⟩ -
              show RunW l Z own_EL n0 x.cls code maxLocals ret x.name room_1 _ 182 #[.val (.int p1), .val (.int p2), .val (.int p3), .val (.int (Int32.ofNat na)), .val (.int (Int32.ofNat nb)), .val (.int x0), .val (.int x1), .val (.int y0), .val (.int y1), .val (.ref t11), .val (.ref t12), .val (.int (own_sgn ((Int32.ofNat na) - (Int32.ofNat nb)))), .unset] [(.int (own_cmp ([x0, x1].take na) ([y0, y1].take nb) (min ([x0, x1].take na).length ([y0, y1].take nb).length) 0))] h12 vm12 8 24
              refine RunW.callS (k' := 8) (n' := 24) (as := [(.int (own_cmp ([x0, x1].take na) ([y0, y1].take nb) (min ([x0, x1].take na).length ([y0, y1].take nb).length) 0))]) (rest := []) (con_own_sgn l Z a0 hw n0 h12 sz12 (own_cmp ([x0, x1].take na) ([y0, y1].take nb) (min ([x0, x1].take na).length ([y0, y1].take nb).length) 0) ) (by rintro _ _ ⟨_, -, -, rfl⟩; exact ⟨[], Keep.refl _ _, all0⟩) at_182 (hw _ (List.mem_of_getElem? (i := 38) rfl)) (hw _ (List.mem_of_getElem? (i := 39) rfl)) (hw _ (List.mem_of_getElem? (i := 3) rfl)) (hw _ (List.mem_of_getElem? (i := 40) rfl)) (by decide) pd__I_I rfl rfl rfl (by decide) (by show (0 : Nat) + (1 + 11) + 0 ≤ _; decide) (by decide) (by decide) (by decide) (by decide) (pc' := 185) rfl ?_
              rintro _ _ ⟨_, rfl, rfl, rfl⟩ -
              show RunW l Z own_EL n0 x.cls code maxLocals ret x.name room_1 _ 185 #[.val (.int p1), .val (.int p2), .val (.int p3), .val (.int (Int32.ofNat na)), .val (.int (Int32.ofNat nb)), .val (.int x0), .val (.int x1), .val (.int y0), .val (.int y1), .val (.ref t11), .val (.ref t12), .val (.int (own_sgn ((Int32.ofNat na) - (Int32.ofNat nb)))), .unset] [(.int (own_sgn (own_cmp ([x0, x1].take na) ([y0, y1].take nb) (min ([x0, x1].take na).length ([y0, y1].take nb).length) 0)))] h12 vm12 8 24
              refine RunW.istore (l' := #[.val (.int p1), .val (.int p2), .val (.int p3), .val (.int (Int32.ofNat na)), .val (.int (Int32.ofNat nb)), .val (.int x0), .val (.int x1), .val (.int y0), .val (.int y1), .val (.ref t11), .val (.ref t12), .val (.int (own_sgn ((Int32.ofNat na) - (Int32.ofNat nb)))), .val (.int (own_sgn (own_cmp ([x0, x1].take na) ([y0, y1].take nb) (min ([x0, x1].take na).length ([y0, y1].take nb).length) 0)))]) at_185 rfl (pc' := 187) rfl ?_
              refine RunW.iload at_187 rfl (pc' := 189) rfl ?_
              refine RunW.iload at_189 rfl (pc' := 191) rfl ?_
              refine RunW.icmp_ne at_191 (by decide) (pc' := 198) (by decide) (pa := 194) rfl (fun hc191 => ?_) (fun hc191 => ?_)
              · -- pc 191 taken: ¬ (own_sgn (own_cmp ([x0, x1].take na) ([y0, y1].take nb) (min ([x0, x1].take na).length ([y0, y1].take nb).length) 0)) = (own_sgn ((Int32.ofNat na) - (Int32.ofNat nb)))
                exact absurd (own_L3 h_na h_nb (Or.inl (own_le0 hc95 (by omega))) (Or.inr (Or.inr hc144))) hc191
              · -- pc 191 not taken: (own_sgn (own_cmp ([x0, x1].take na) ([y0, y1].take nb) (min ([x0, x1].take na).length ([y0, y1].take nb).length) 0)) = (own_sgn ((Int32.ofNat na) - (Int32.ofNat nb)))
                refine RunW.iconst (1 : Int32) at_194 (by decide) (pc' := 195) rfl ?_
                refine RunW.goto at_195 (by decide) (pc' := 199) (by decide) ?_
                exact RunW.nreturn at_199 (ty := .boolean) rfl (by simp) (by decide) (by decide) ⟨_, rfl, rfl⟩
            · -- pc 144 not taken: ¬ x1 = y1
              refine RunW.iload at_147 rfl (pc' := 149) rfl ?_
              refine RunW.callS (k' := 8) (n' := 24) (as := [(.int x1)]) (rest := []) (con_own_key l Z a0 hw n0 h12 sz12 x1 ) (by rintro _ _ ⟨_, -, -, rfl⟩; exact ⟨[], Keep.refl _ _, all0⟩) at_149 (hw _ (List.mem_of_getElem? (i := 83) rfl)) (hw _ (List.mem_of_getElem? (i := 84) rfl)) (hw _ (List.mem_of_getElem? (i := 3) rfl)) (hw _ (List.mem_of_getElem? (i := 85) rfl)) (by decide) pd__C_I rfl rfl rfl (by decide) (by show (0 : Nat) + (2 + 11) + 0 ≤ _; decide) (by decide) (by decide) (by decide) (by decide) (pc' := 152) rfl ?_
              rintro _ _ ⟨_, rfl, rfl, rfl⟩ -
              show RunW l Z own_EL n0 x.cls code maxLocals ret x.name room_1 _ 152 #[.val (.int p1), .val (.int p2), .val (.int p3), .val (.int (Int32.ofNat na)), .val (.int (Int32.ofNat nb)), .val (.int x0), .val (.int x1), .val (.int y0), .val (.int y1), .val (.ref t11), .val (.ref t12), .unset, .unset] [(.int (own_key x1))] h12 vm12 8 24
              refine RunW.iload at_152 rfl (pc' := 154) rfl ?_
              refine RunW.callS (k' := 8) (n' := 24) (as := [(.int y1)]) (rest := [(.int (own_key x1))]) (con_own_key l Z a0 hw n0 h12 sz12 y1 ) (by rintro _ _ ⟨_, -, -, rfl⟩; exact ⟨[], Keep.refl _ _, all0⟩) at_154 (hw _ (List.mem_of_getElem? (i := 83) rfl)) (hw _ (List.mem_of_getElem? (i := 84) rfl)) (hw _ (List.mem_of_getElem? (i := 3) rfl)) (hw _ (List.mem_of_getElem? (i := 85) rfl)) (by decide) pd__C_I rfl rfl rfl (by decide) (by show (1 : Nat) + (2 + 11) + 0 ≤ _; decide) (by decide) (by decide) (by decide) (by decide) (pc' := 157) rfl ?_
              rintro _ _ ⟨_, rfl, rfl, rfl⟩ -
              show RunW l Z own_EL n0 x.cls code maxLocals ret x.name room_1 _ 157 #[.val (.int p1), .val (.int p2), .val (.int p3), .val (.int (Int32.ofNat na)), .val (.int (Int32.ofNat nb)), .val (.int x0), .val (.int x1), .val (.int y0), .val (.int y1), .val (.ref t11), .val (.ref t12), .unset, .unset] [(.int (own_key y1)), (.int (own_key x1))] h12 vm12 8 24
              refine RunW.isub at_157 (pc' := 158) rfl ?_
              refine RunW.callS (k' := 8) (n' := 24) (as := [(.int ((own_key x1) - (own_key y1)))]) (rest := []) (con_own_sgn l Z a0 hw n0 h12 sz12 ((own_key x1) - (own_key y1)) ) (by rintro _ _ ⟨_, -, -, rfl⟩; exact ⟨[], Keep.refl _ _, all0⟩) at_158 (hw _ (List.mem_of_getElem? (i := 38) rfl)) (hw _ (List.mem_of_getElem? (i := 39) rfl)) (hw _ (List.mem_of_getElem? (i := 3) rfl)) (hw _ (List.mem_of_getElem? (i := 40) rfl)) (by decide) pd__I_I rfl rfl rfl (by decide) (by show (0 : Nat) + (1 + 11) + 0 ≤ _; decide) (by decide) (by decide) (by decide) (by decide) (pc' := 161) rfl ?_
              rintro _ _ ⟨_, rfl, rfl, rfl⟩ -
              show RunW l Z own_EL n0 x.cls code maxLocals ret x.name room_1 _ 161 #[.val (.int p1), .val (.int p2), .val (.int p3), .val (.int (Int32.ofNat na)), .val (.int (Int32.ofNat nb)), .val (.int x0), .val (.int x1), .val (.int y0), .val (.int y1), .val (.ref t11), .val (.ref t12), .unset, .unset] [(.int (own_sgn ((own_key x1) - (own_key y1))))] h12 vm12 8 24
              refine RunW.istore (l' := #[.val (.int p1), .val (.int p2), .val (.int p3), .val (.int (Int32.ofNat na)), .val (.int (Int32.ofNat nb)), .val (.int x0), .val (.int x1), .val (.int y0), .val (.int y1), .val (.ref t11), .val (.ref t12), .val (.int (own_sgn ((own_key x1) - (own_key y1)))), .unset]) at_161 rfl (pc' := 163) rfl ?_
              refine RunW.goto at_163 (by decide) (pc' := 175) (by decide) ?_
              refine RunW.aload at_175 rfl rfl (pc' := 177) rfl ?_
              refine RunW.aload at_177 rfl rfl (pc' := 179) rfl ?_
              refine RunW.callS (k' := 8) (n' := 24) (as := [(.ref t11), (.ref t12)]) (rest := []) (con_cu8 l Z a0 hw n0 h12 sz12 t11 b11 t12 b12 ([x0, x1].take na) ([y0, y1].take nb) fm cz od12 SF hfm SD SH8 SL8 SZ hcz E_t11_12 F_t11_value_12 F_t11_coder_12 A_b11_12 X12 FV12 FC12 P12 (own_t2 _ _ _) (own_tk (own_chr2 q_x0.2 q_x1.2)) (own_t2 _ _ _) (own_tk (own_chr2 q_y0.2 q_y1.2)) ) (by rintro _ _ ⟨_, -, -, rfl⟩; exact ⟨[], Keep.refl _ _, all0⟩) at_179 (hw _ (List.mem_of_getElem? (i := 41) rfl)) (hw _ (List.mem_of_getElem? (i := 42) rfl)) (hw _ (List.mem_of_getElem? (i := 43) rfl)) (hw _ (List.mem_of_getElem? (i := 44) rfl)) (by decide) pd__Ljava_lang_String_Ljava_lang_String__I rfl rfl rfl (by decide) (by show (0 : Nat) + (6 + 11) + 66 ≤ _; decide) (by decide) (by decide) (by decide) (by decide) (pc' := 182) rfl ?_
              rintro _ _ ⟨_, rfl, rfl, rfl⟩ -
              show RunW l Z own_EL n0 x.cls code maxLocals ret x.name room_1 _ 182 #[.val (.int p1), .val (.int p2), .val (.int p3), .val (.int (Int32.ofNat na)), .val (.int (Int32.ofNat nb)), .val (.int x0), .val (.int x1), .val (.int y0), .val (.int y1), .val (.ref t11), .val (.ref t12), .val (.int (own_sgn ((own_key x1) - (own_key y1)))), .unset] [(.int (own_cmp ([x0, x1].take na) ([y0, y1].take nb) (min ([x0, x1].take na).length ([y0, y1].take nb).length) 0))] h12 vm12 8 24
              refine RunW.callS (k' := 8) (n' := 24) (as := [(.int (own_cmp ([x0, x1].take na) ([y0, y1].take nb) (min ([x0, x1].take na).length ([y0, y1].take nb).length) 0))]) (rest := []) (con_own_sgn l Z a0 hw n0 h12 sz12 (own_cmp ([x0, x1].take na) ([y0, y1].take nb) (min ([x0, x1].take na).length ([y0, y1].take nb).length) 0) ) (by rintro _ _ ⟨_, -, -, rfl⟩; exact ⟨[], Keep.refl _ _, all0⟩) at_182 (hw _ (List.mem_of_getElem? (i := 38) rfl)) (hw _ (List.mem_of_getElem? (i := 39) rfl)) (hw _ (List.mem_of_getElem? (i := 3) rfl)) (hw _ (List.mem_of_getElem? (i := 40) rfl)) (by decide) pd__I_I rfl rfl rfl (by decide) (by show (0 : Nat) + (1 + 11) + 0 ≤ _; decide) (by decide) (by decide) (by decide) (by decide) (pc' := 185) rfl ?_
              rintro _ _ ⟨_, rfl, rfl, rfl⟩ -
              show RunW l Z own_EL n0 x.cls code maxLocals ret x.name room_1 _ 185 #[.val (.int p1), .val (.int p2), .val (.int p3), .val (.int (Int32.ofNat na)), .val (.int (Int32.ofNat nb)), .val (.int x0), .val (.int x1), .val (.int y0), .val (.int y1), .val (.ref t11), .val (.ref t12), .val (.int (own_sgn ((own_key x1) - (own_key y1)))), .unset] [(.int (own_sgn (own_cmp ([x0, x1].take na) ([y0, y1].take nb) (min ([x0, x1].take na).length ([y0, y1].take nb).length) 0)))] h12 vm12 8 24
              refine RunW.istore (l' := #[.val (.int p1), .val (.int p2), .val (.int p3), .val (.int (Int32.ofNat na)), .val (.int (Int32.ofNat nb)), .val (.int x0), .val (.int x1), .val (.int y0), .val (.int y1), .val (.ref t11), .val (.ref t12), .val (.int (own_sgn ((own_key x1) - (own_key y1)))), .val (.int (own_sgn (own_cmp ([x0, x1].take na) ([y0, y1].take nb) (min ([x0, x1].take na).length ([y0, y1].take nb).length) 0)))]) at_185 rfl (pc' := 187) rfl ?_
              refine RunW.iload at_187 rfl (pc' := 189) rfl ?_
              refine RunW.iload at_189 rfl (pc' := 191) rfl ?_
              refine RunW.icmp_ne at_191 (by decide) (pc' := 198) (by decide) (pa := 194) rfl (fun hc191 => ?_) (fun hc191 => ?_)
              · -- pc 191 taken: ¬ (own_sgn (own_cmp ([x0, x1].take na) ([y0, y1].take nb) (min ([x0, x1].take na).length ([y0, y1].take nb).length) 0)) = (own_sgn ((own_key x1) - (own_key y1)))
                exact absurd (own_L2 h_na h_nb (Or.inl (own_le0 hc95 (by omega))) (own_gt1 hc131 (by omega)) (own_gt1 hc137 (by omega)) q_x1.2 q_y1.2 hc144) hc191
              · -- pc 191 not taken: (own_sgn (own_cmp ([x0, x1].take na) ([y0, y1].take nb) (min ([x0, x1].take na).length ([y0, y1].take nb).length) 0)) = (own_sgn ((own_key x1) - (own_key y1)))
                refine RunW.iconst (1 : Int32) at_194 (by decide) (pc' := 195) rfl ?_
                refine RunW.goto at_195 (by decide) (pc' := 199) (by decide) ?_
                exact RunW.nreturn at_199 (ty := .boolean) rfl (by simp) (by decide) (by decide) ⟨_, rfl, rfl⟩
      · -- pc 95 not taken: (0 : Int32) < (Int32.ofNat na)
        refine RunW.iload at_98 rfl (pc' := 100) rfl ?_
        refine RunW.if_le at_100 (by decide) (pc' := 129) (by decide) (pa := 103) rfl (fun hc100 => ?_) (fun hc100 => ?_)
        · -- pc 100 taken: ¬ (0 : Int32) < (Int32.ofNat nb)
          refine RunW.iloadN at_129 rfl (pc' := 130) rfl ?_
          refine RunW.iconst (1 : Int32) at_130 (by decide) (pc' := 131) rfl ?_
          refine RunW.icmp_le at_131 (by decide) (pc' := 166) (by decide) (pa := 134) rfl (fun hc131 => ?_) (fun hc131 => ?_)
          · -- pc 131 taken: ¬ (1 : Int32) < (Int32.ofNat na)
            refine RunW.iloadN at_166 rfl (pc' := 167) rfl ?_
            refine RunW.iload at_167 rfl (pc' := 169) rfl ?_
            refine RunW.isub at_169 (pc' := 170) rfl ?_
            refine RunW.callS (k' := 8) (n' := 24) (as := [(.int ((Int32.ofNat na) - (Int32.ofNat nb)))]) (rest := []) (con_own_sgn l Z a0 hw n0 h12 sz12 ((Int32.ofNat na) - (Int32.ofNat nb)) ) (by rintro _ _ ⟨_, -, -, rfl⟩; exact ⟨[], Keep.refl _ _, all0⟩) at_170 (hw _ (List.mem_of_getElem? (i := 38) rfl)) (hw _ (List.mem_of_getElem? (i := 39) rfl)) (hw _ (List.mem_of_getElem? (i := 3) rfl)) (hw _ (List.mem_of_getElem? (i := 40) rfl)) (by decide) pd__I_I rfl rfl rfl (by decide) (by show (0 : Nat) + (1 + 11) + 0 ≤ _; decide) (by decide) (by decide) (by decide) (by decide) (pc' := 173) rfl ?_
            rintro _ _ ⟨_, rfl, rfl, rfl⟩ -
            show RunW l Z own_EL n0 x.cls code maxLocals ret x.name room_1 _ 173 #[.val (.int p1), .val (.int p2), .val (.int p3), .val (.int (Int32.ofNat na)), .val (.int (Int32.ofNat nb)), .val (.int x0), .val (.int x1), .val (.int y0), .val (.int y1), .val (.ref t11), .val (.ref t12), .unset, .unset] [(.int (own_sgn ((Int32.ofNat na) - (Int32.ofNat nb))))] h12 vm12 8 24
            refine RunW.istore (l' := #[.val (.int p1), .val (.int p2), .val (.int p3), .val (.int (Int32.ofNat na)), .val (.int (Int32.ofNat nb)), .val (.int x0), .val (.int x1), .val (.int y0), .val (.int y1), .val (.ref t11), .val (.ref t12), .val (.int (own_sgn ((Int32.ofNat na) - (Int32.ofNat nb)))), .unset]) at_173 rfl (pc' := 175) rfl ?_
            refine RunW.aload at_175 rfl rfl (pc' := 177) rfl ?_
            refine RunW.aload at_177 rfl rfl (pc' := 179) rfl ?_
            refine RunW.callS (k' := 8) (n' := 24) (as := [(.ref t11), (.ref t12)]) (rest := []) (con_cu8 l Z a0 hw n0 h12 sz12 t11 b11 t12 b12 ([x0, x1].take na) ([y0, y1].take nb) fm cz od12 SF hfm SD SH8 SL8 SZ hcz E_t11_12 F_t11_value_12 F_t11_coder_12 A_b11_12 X12 FV12 FC12 P12 (own_t2 _ _ _) (own_tk (own_chr2 q_x0.2 q_x1.2)) (own_t2 _ _ _) (own_tk (own_chr2 q_y0.2 q_y1.2)) ) (by rintro _ _ ⟨_, -, -, rfl⟩; exact ⟨[], Keep.refl _ _, all0⟩) at_179 (hw _ (List.mem_of_getElem? (i := 41) rfl)) (hw _ (List.mem_of_getElem? (i := 42) rfl)) (hw _ (List.mem_of_getElem? (i := 43) rfl)) (hw _ (List.mem_of_getElem? (i := 44) rfl)) (by decide) pd__Ljava_lang_String_Ljava_lang_String__I rfl rfl rfl (by decide) (by show (0 : Nat) + (6 + 11) + 66 ≤ _; decide) (by decide) (by decide) (by decide) (by decide) (pc' := 182) rfl ?_
            rintro _ _ ⟨_, rfl, rfl, rfl⟩ -
            show RunW l Z own_EL n0 x.cls code maxLocals ret x.name room_1 _ 182 #[.val (.int p1), .val (.int p2), .val (.int p3), .val (.int (Int32.ofNat na)), .val (.int (Int32.ofNat nb)), .val (.int x0), .val (.int x1), .val (.int y0), .val (.int y1), .val (.ref t11), .val (.ref t12), .val (.int (own_sgn ((Int32.ofNat na) - (Int32.ofNat nb)))), .unset] [(.int (own_cmp ([x0, x1].take na) ([y0, y1].take nb) (min ([x0, x1].take na).length ([y0, y1].take nb).length) 0))] h12 vm12 8 24
            refine RunW.callS (k' := 8) (n' := 24) (as := [(.int (own_cmp ([x0, x1].take na) ([y0, y1].take nb) (min ([x0, x1].take na).length ([y0, y1].take nb).length) 0))]) (rest := []) (con_own_sgn l Z a0 hw n0 h12 sz12 (own_cmp ([x0, x1].take na) ([y0, y1].take nb) (min ([x0, x1].take na).length ([y0, y1].take nb).length) 0) ) (by rintro _ _ ⟨_, -, -, rfl⟩; exact ⟨[], Keep.refl _ _, all0⟩) at_182 (hw _ (List.mem_of_getElem? (i := 38) rfl)) (hw _ (List.mem_of_getElem? (i := 39) rfl)) (hw _ (List.mem_of_getElem? (i := 3) rfl)) (hw _ (List.mem_of_getElem? (i := 40) rfl)) (by decide) pd__I_I rfl rfl rfl (by decide) (by show (0 : Nat) + (1 + 11) + 0 ≤ _; decide) (by decide) (by decide) (by decide) (by decide) (pc' := 185) rfl ?_
            rintro _ _ ⟨_, rfl, rfl, rfl⟩ -
            show RunW l Z own_EL n0 x.cls code maxLocals ret x.name room_1 _ 185 #[.val (.int p1), .val (.int p2), .val (.int p3), .val (.int (Int32.ofNat na)), .val (.int (Int32.ofNat nb)), .val (.int x0), .val (.int x1), .val (.int y0), .val (.int y1), .val (.ref t11), .val (.ref t12), .val (.int (own_sgn ((Int32.ofNat na) - (Int32.ofNat nb)))), .unset] [(.int (own_sgn (own_cmp ([x0, x1].take na) ([y0, y1].take nb) (min ([x0, x1].take na).length ([y0, y1].take nb).length) 0)))] h12 vm12 8 24
            refine RunW.istore (l' := #[.val (.int p1), .val (.int p2), .val (.int p3), .val (.int (Int32.ofNat na)), .val (.int (Int32.ofNat nb)), .val (.int x0), .val (.int x1), .val (.int y0), .val (.int y1), .val (.ref t11), .val (.ref t12), .val (.int (own_sgn ((Int32.ofNat na) - (Int32.ofNat nb)))), .val (.int (own_sgn (own_cmp ([x0, x1].take na) ([y0, y1].take nb) (min ([x0, x1].take na).length ([y0, y1].take nb).length) 0)))]) at_185 rfl (pc' := 187) rfl ?_
            refine RunW.iload at_187 rfl (pc' := 189) rfl ?_
            refine RunW.iload at_189 rfl (pc' := 191) rfl ?_
            refine RunW.icmp_ne at_191 (by decide) (pc' := 198) (by decide) (pa := 194) rfl (fun hc191 => ?_) (fun hc191 => ?_)
            · -- pc 191 taken: ¬ (own_sgn (own_cmp ([x0, x1].take na) ([y0, y1].take nb) (min ([x0, x1].take na).length ([y0, y1].take nb).length) 0)) = (own_sgn ((Int32.ofNat na) - (Int32.ofNat nb)))
              exact absurd (own_L3 h_na h_nb (Or.inr (Or.inl (own_le0 hc100 (by omega)))) (Or.inl (own_le1 hc131 (by omega)))) hc191
            · -- pc 191 not taken: (own_sgn (own_cmp ([x0, x1].take na) ([y0, y1].take nb) (min ([x0, x1].take na).length ([y0, y1].take nb).length) 0)) = (own_sgn ((Int32.ofNat na) - (Int32.ofNat nb)))
              refine RunW.iconst (1 : Int32) at_194 (by decide) (pc' := 195) rfl ?_
              refine RunW.goto at_195 (by decide) (pc' := 199) (by decide) ?_
              exact RunW.nreturn at_199 (ty := .boolean) rfl (by simp) (by decide) (by decide) ⟨_, rfl, rfl⟩
          · -- pc 131 not taken: (1 : Int32) < (Int32.ofNat na)
            refine RunW.iload at_134 rfl (pc' := 136) rfl ?_
            refine RunW.iconst (1 : Int32) at_136 (by decide) (pc' := 137) rfl ?_
            refine RunW.icmp_le at_137 (by decide) (pc' := 166) (by decide) (pa := 140) rfl (fun hc137 => ?_) (fun hc137 => ?_)
            · -- pc 137 taken: ¬ (1 : Int32) < (Int32.ofNat nb)
              refine RunW.iloadN at_166 rfl (pc' := 167) rfl ?_
              refine RunW.iload at_167 rfl (pc' := 169) rfl ?_
              refine RunW.isub at_169 (pc' := 170) rfl ?_
              refine RunW.callS (k' := 8) (n' := 24) (as := [(.int ((Int32.ofNat na) - (Int32.ofNat nb)))]) (rest := []) (con_own_sgn l Z a0 hw n0 h12 sz12 ((Int32.ofNat na) - (Int32.ofNat nb)) ) (by rintro _ _ ⟨_, -, -, rfl⟩; exact ⟨[], Keep.refl _ _, all0⟩) at_170 (hw _ (List.mem_of_getElem? (i := 38) rfl)) (hw _ (List.mem_of_getElem? (i := 39) rfl)) (hw _ (List.mem_of_getElem? (i := 3) rfl)) (hw _ (List.mem_of_getElem? (i := 40) rfl)) (by decide) pd__I_I rfl rfl rfl (by decide) (by show (0 : Nat) + (1 + 11) + 0 ≤ _; decide) (by decide) (by decide) (by decide) (by decide) (pc' := 173) rfl ?_
              rintro _ _ ⟨_, rfl, rfl, rfl⟩ -
              show RunW l Z own_EL n0 x.cls code maxLocals ret x.name room_1 _ 173 #[.val (.int p1), .val (.int p2), .val (.int p3), .val (.int (Int32.ofNat na)), .val (.int (Int32.ofNat nb)), .val (.int x0), .val (.int x1), .val (.int y0), .val (.int y1), .val (.ref t11), .val (.ref t12), .unset, .unset] [(.int (own_sgn ((Int32.ofNat na) - (Int32.ofNat nb))))] h12 vm12 8 24
              refine RunW.istore (l' := #[.val (.int p1), .val (.int p2), .val (.int p3), .val (.int (Int32.ofNat na)), .val (.int (Int32.ofNat nb)), .val (.int x0), .val (.int x1), .val (.int y0), .val (.int y1), .val (.ref t11), .val (.ref t12), .val (.int (own_sgn ((Int32.ofNat na) - (Int32.ofNat nb)))), .unset]) at_173 rfl (pc' := 175) rfl ?_
              refine RunW.aload at_175 rfl rfl (pc' := 177) rfl ?_
              refine RunW.aload at_177 rfl rfl (pc' := 179) rfl ?_
              refine RunW.callS (k' := 8) (n' := 24) (as := [(.ref t11), (.ref t12)]) (rest := []) (con_cu8 l Z a0 hw n0 h12 sz12 t11 b11 t12 b12 ([x0, x1].take na) ([y0, y1].take nb) fm cz od12 SF hfm SD SH8 SL8 SZ hcz E_t11_12 F_t11_value_12 F_t11_coder_12 A_b11_12 X12 FV12 FC12 P12 (own_t2 _ _ _) (own_tk (own_chr2 q_x0.2 q_x1.2)) (own_t2 _ _ _) (own_tk (own_chr2 q_y0.2 q_y1.2)) ) (by rintro _ _ ⟨_, -, -, rfl⟩; exact ⟨[], Keep.refl _ _, all0⟩) at_179 (hw _ (List.mem_of_getElem? (i := 41) rfl)) (hw _ (List.mem_of_getElem? (i := 42) rfl)) (hw _ (List.mem_of_getElem? (i := 43) rfl)) (hw _ (List.mem_of_getElem? (i := 44) rfl)) (by decide) pd__Ljava_lang_String_Ljava_lang_String__I rfl rfl rfl (by decide) (by show (0 : Nat) + (6 + 11) + 66 ≤ _; decide) (by decide) (by decide) (by decide) (by decide) (pc' := 182) rfl ?_
              rintro _ _ ⟨_, rfl, rfl, rfl⟩ -
              show RunW l Z own_EL n0 x.cls code maxLocals ret x.name room_1 _ 182 #[.val (.int p1), .val (.int p2), .val (.int p3), .val (.int (Int32.ofNat na)), .val (.int (Int32.ofNat nb)), .val (.int x0), .val (.int x1), .val (.int y0), .val (.int y1), .val (.ref t11), .val (.ref t12), .val (.int (own_sgn ((Int32.ofNat na) - (Int32.ofNat nb)))), .unset] [(.int (own_cmp ([x0, x1].take na) ([y0, y1].take nb) (min ([x0, x1].take na).length ([y0, y1].take nb).length) 0))] h12 vm12 8 24
              refine RunW.callS (k' := 8) (n' := 24) (as := [(.int (own_cmp ([x0, x1].take na) ([y0, y1].take nb) (min ([x0, x1].take na).length ([y0, y1].take nb).length) 0))]) (rest := []) (con_own_sgn l Z a0 hw n0 h12 sz12 (own_cmp ([x0, x1].take na) ([y0, y1].take nb) (min ([x0, x1].take na).length ([y0, y1].take nb).length) 0) ) (by rintro _ _ ⟨_, -, -, rfl⟩; exact ⟨[], Keep.refl _ _, all0⟩) at_182 (hw _ (List.mem_of_getElem? (i := 38) rfl)) (hw _ (List.mem_of_getElem? (i := 39) rfl)) (hw _ (List.mem_of_getElem? (i := 3) rfl)) (hw _ (List.mem_of_getElem? (i := 40) rfl)) (by decide) pd__I_I rfl rfl rfl (by decide) (by show (0 : Nat) + (1 + 11) + 0 ≤ _; decide) (by decide) (by decide) (by decide) (by decide) (pc' := 185) rfl ?_
              rintro _ _ ⟨_, rfl, rfl, rfl⟩ -
              show RunW l Z own_EL n0 x.cls code maxLocals ret x.name room_1 _ 185 #[.val (.int p1), .val (.int p2), .val (.int p3), .val (.int (Int32.ofNat na)), .val (.int (Int32.ofNat nb)), .val (.int x0), .val (.int x1), .val (.int y0), .val (.int y1), .val (.ref t11), .val (.ref t12), .val (.int (own_sgn ((Int32.ofNat na) - (Int32.ofNat nb)))), .unset] [(.int (own_sgn (own_cmp ([x0, x1].take na) ([y0, y1].take nb) (min ([x0, x1].take na).length ([y0, y1].take nb).length) 0)))] h12 vm12 8 24
              refine RunW.istore (l' := #[.val (.int p1), .val (.int p2), .val (.int p3), .val (.int (Int32.ofNat na)), .val (.int (Int32.ofNat nb)), .val (.int x0), .val (.int x1), .val (.int y0), .val (.int y1), .val (.ref t11), .val (.ref t12), .val (.int (own_sgn ((Int32.ofNat na) - (Int32.ofNat nb)))), .val (.int (own_sgn (own_cmp ([x0, x1].take na) ([y0, y1].take nb) (min ([x0, x1].take na).length ([y0, y1].take nb).length) 0)))]) at_185 rfl (pc' := 187) rfl ?_
              refine RunW.iload at_187 rfl (pc' := 189) rfl ?_
              refine RunW.iload at_189 rfl (pc' := 191) rfl ?_
              refine RunW.icmp_ne at_191 (by decide) (pc' := 198) (by decide) (pa := 194) rfl (fun hc191 => ?_) (fun hc191 => ?_)
              · -- pc 191 taken: ¬ (own_sgn (own_cmp ([x0, x1].take na) ([y0, y1].take nb) (min ([x0, x1].take na).length ([y0, y1].take nb).length) 0)) = (own_sgn ((Int32.ofNat na) - (Int32.ofNat nb)))
                exact absurd (own_L3 h_na h_nb (Or.inr (Or.inl (own_le0 hc100 (by omega)))) (Or.inr (Or.inl (own_le1 hc137 (by omega))))) hc191
              · -- pc 191 not taken: (own_sgn (own_cmp ([x0, x1].take na) ([y0, y1].take nb) (min ([x0, x1].take na).length ([y0, y1].take nb).length) 0)) = (own_sgn ((Int32.ofNat na) - (Int32.ofNat nb)))
                refine RunW.iconst (1 : Int32) at_194 (by decide) (pc' := 195) rfl ?_
                refine RunW.goto at_195 (by decide) (pc' := 199) (by decide) ?_
                exact RunW.nreturn at_199 (ty := .boolean) rfl (by simp) (by decide) (by decide) ⟨_, rfl, rfl⟩
            · -- pc 137 not taken: (1 : Int32) < (Int32.ofNat nb)
              refine RunW.iload at_140 rfl (pc' := 142) rfl ?_
              refine RunW.iload at_142 rfl (pc' := 144) rfl ?_
              refine RunW.icmp_eq at_144 (by decide) (pc' := 166) (by decide) (pa := 147) rfl (fun hc144 => ?_) (fun hc144 => ?_)
              · -- pc 144 taken: x1 = y1
                refine RunW.iloadN at_166 rfl (pc' := 167) rfl ?_
                refine RunW.iload at_167 rfl (pc' := 169) rfl ?_
                refine RunW.isub at_169 (pc' := 170) rfl ?_
                refine RunW.callS (k' := 8) (n' := 24) (as := [(.int ((Int32.ofNat na) - (Int32.ofNat nb)))]) (rest := []) (con_own_sgn l Z a0 hw n0 h12 sz12 ((Int32.ofNat na) - (Int32.ofNat nb)) ) (by rintro _ _ ⟨_, -, -, rfl⟩; exact ⟨[], Keep.refl _ _, all0⟩) at_170 (hw _ (List.mem_of_getElem? (i := 38) rfl)) (hw _ (List.mem_of_getElem? (i := 39) rfl)) (hw _ (List.mem_of_getElem? (i := 3) rfl)) (hw _ (List.mem_of_getElem? (i := 40) rfl)) (by decide) pd__I_I rfl rfl rfl (by decide) (by show (0 : Nat) + (1 + 11) + 0 ≤ _; decide) (by decide) (by decide) (by decide) (by decide) (pc' := 173) rfl ?_
                rintro _ _ ⟨_, rfl, rfl, rfl⟩ -
                show RunW l Z own_EL n0 x.cls code maxLocals ret x.name room_1 _ 173 #[.val (.int p1), .val (.int p2), .val (.int p3), .val (.int (Int32.ofNat na)), .val (.int (Int32.ofNat nb)), .val (.int x0), .val (.int x1), .val (.int y0), .val (.int y1), .val (.ref t11), .val (.ref t12), .unset, .unset] [(.int (own_sgn ((Int32.ofNat na) - (Int32.ofNat nb))))] h12 vm12 8 24
                refine RunW.istore (l' := #[.val (.int p1), .val (.int p2), .val (.int p3), .val (.int (Int32.ofNat na)), .val (.int (Int32.ofNat nb)), .val (.int x0), .val (.int x1), .val (.int y0), .val (.int y1), .val (.ref t11), .val (.ref t12), .val (.int (own_sgn ((Int32.ofNat na) - (Int32.ofNat nb)))), .unset]) at_173 rfl (pc' := 175) rfl ?_
                refine RunW.aload at_175 rfl rfl (pc' := 177) rfl ?_
                refine RunW.aload at_177 rfl rfl (pc' := 179) rfl ?_
                refine RunW.callS (k' := 8) (n' := 24) (as := [(.ref t11), (.ref t12)]) (rest := []) (con_cu8 l Z a0 hw n0 h12 sz12 t11 b11 t12 b12 ([x0, x1].take na) ([y0, y1].take nb) fm cz od12 SF hfm SD SH8 SL8 SZ hcz E_t11_12 F_t11_value_12 F_t11_coder_12 A_b11_12 X12 FV12 FC12 P12 (own_t2 _ _ _) (own_tk (own_chr2 q_x0.2 q_x1.2)) (own_t2 _ _ _) (own_tk (own_chr2 q_y0.2 q_y1.2)) ) (by rintro _ _ ⟨_, -, -, rfl⟩; exact ⟨[], Keep.refl _ _, all0⟩) at_179 (hw _ (List.mem_of_getElem? (i := 41) rfl)) (hw _ (List.mem_of_getElem? (i := 42) rfl)) (hw _ (List.mem_of_getElem? (i := 43) rfl)) (hw _ (List.mem_of_getElem? (i := 44) rfl)) (by decide) pd__Ljava_lang_String_Ljava_lang_String__I rfl rfl rfl (by decide) (by show (0 : Nat) + (6 + 11) + 66 ≤ _; decide) (by decide) (by decide) (by decide) (by decide) (pc' := 182) rfl ?_
                rintro _ _ ⟨_, rfl, rfl, rfl⟩ -
                show RunW l Z own_EL n0 x.cls code maxLocals ret x.name room_1 _ 182 #[.val (.int p1), .val (.int p2), .val (.int p3), .val (.int (Int32.ofNat na)), .val (.int (Int32.ofNat nb)), .val (.int x0), .val (.int x1), .val (.int y0), .val (.int y1), .val (.ref t11), .val (.ref t12), .val (.int (own_sgn ((Int32.ofNat na) - (Int32.ofNat nb)))), .unset] [(.int (own_cmp ([x0, x1].take na) ([y0, y1].take nb) (min ([x0, x1].take na).length ([y0, y1].take nb).length) 0))] h12 vm12 8 24
                refine RunW.callS (k' := 8) (n' := 24) (as := [(.int (own_cmp ([x0, x1].take na) ([y0, y1].take nb) (min ([x0, x1].take na).length ([y0, y1].take nb).length) 0))]) (rest := []) (con_own_sgn l Z a0 hw n0 h12 sz12 (own_cmp ([x0, x1].take na) ([y0, y1].take nb) (min ([x0, x1].take na).length ([y0, y1].take nb).length) 0) ) (by rintro _ _ ⟨_, -, -, rfl⟩; exact ⟨[], Keep.refl _ _, all0⟩) at_182 (hw _ (List.mem_of_getElem? (i := 38) rfl)) (hw _ (List.mem_of_getElem? (i := 39) rfl)) (hw _ (List.mem_of_getElem? (i := 3) rfl)) (hw _ (List.mem_of_getElem? (i := 40) rfl)) (by decide) pd__I_I rfl rfl rfl (by decide) (by show (0 : Nat) + (1 + 11) + 0 ≤ _; decide) (by decide) (by decide) (by decide) (by decide) (pc' := 185) rfl ?_
                rintro _ _ ⟨_, rfl, rfl, rfl⟩ -
                show RunW l Z own_EL n0 x.cls code maxLocals ret x.name room_1 _ 185 #[.val (.int p1), .val (.int p2), .val (.int p3), .val (.int (Int32.ofNat na)), .val (.int (Int32.ofNat nb)), .val (.int x0), .val (.int x1), .val (.int y0), .val (.int y1), .val (.ref t11), .val (.ref t12), .val (.int (own_sgn ((Int32.ofNat na) - (Int32.ofNat nb)))), .unset] [(.int (own_sgn (own_cmp ([x0, x1].take na) ([y0, y1].take nb) (min ([x0, x1].take na).length ([y0, y1].take nb).length) 0)))] h12 vm12 8 24
                refine RunW.istore (l' := #[.val (.int p1), .val (.int p2), .val (.int p3), .val (.int (Int32.ofNat na)), .val (.int (Int32.ofNat nb)), .val (.int x0), .val (.int x1), .val (.int y0), .val (.int y1), .val (.ref t11), .val (.ref t12), .val (.int (own_sgn ((Int32.ofNat na) - (Int32.ofNat nb)))), .val (.int (own_sgn (own_cmp ([x0, x1].take na) ([y0, y1].take nb) (min ([x0, x1].take na).length ([y0, y1].take nb).length) 0)))]) at_185 rfl (pc' := 187) rfl ?_
                refine RunW.iload at_187 rfl (pc' := 189) rfl ?_
                refine RunW.iload at_189 rfl (pc' := 191) rfl ?_
                refine RunW.icmp_ne at_191 (by decide) (pc' := 198) (by decide) (pa := 194) rfl (fun hc191 => ?_) (fun hc191 => ?_)
                · -- pc 191 taken: ¬ (own_sgn (own_cmp ([x0, x1].take na) ([y0, y1].take nb) (min ([x0, x1].take na).length ([y0, y1].take nb).length) 0)) = (own_sgn ((Int32.ofNat na) - (Int32.ofNat nb)))
                  exact absurd (own_L3 h_na h_nb (Or.inr (Or.inl (own_le0 hc100 (by omega)))) (Or.inr (Or.inr hc144))) hc191
                · -- pc 191 not taken: (own_sgn (own_cmp ([x0, x1].take na) ([y0, y1].take nb) (min ([x0, x1].take na).length ([y0, y1].take nb).length) 0)) = (own_sgn ((Int32.ofNat na) - (Int32.ofNat nb)))
                  refine RunW.iconst (1 : Int32) at_194 (by decide) (pc' := 195) rfl ?_
                  refine RunW.goto at_195 (by decide) (pc' := 199) (by decide) ?_
                  exact RunW.nreturn at_199 (ty := .boolean) rfl (by simp) (by decide) (by decide) ⟨_, rfl, rfl⟩
              · -- pc 144 not taken: ¬ x1 = y1
                refine RunW.iload at_147 rfl (pc' := 149) rfl ?_
                refine RunW.callS (k' := 8) (n' := 24) (as := [(.int x1)]) (rest := []) (con_own_key l Z a0 hw n0 h12 sz12 x1 ) (by rintro _ _ ⟨_, -, -, rfl⟩; exact ⟨[], Keep.refl _ _, all0⟩) at_149 (hw _ (List.mem_of_getElem? (i := 83) rfl)) (hw _ (List.mem_of_getElem? (i := 84) rfl)) (hw _ (List.mem_of_getElem? (i := 3) rfl)) (hw _ (List.mem_of_getElem? (i := 85) rfl)) (by decide) pd__C_I rfl rfl rfl (by decide) (by show (0 : Nat) + (2 + 11) + 0 ≤ _; decide) (by decide) (by decide) (by decide) (by decide) (pc' := 152) rfl ?_
                rintro _ _ ⟨_, rfl, rfl, rfl⟩ -
                show RunW l Z own_EL n0 x.cls code maxLocals ret x.name room_1 _ 152 #[.val (.int p1), .val (.int p2), .val (.int p3), .val (.int (Int32.ofNat na)), .val (.int (Int32.ofNat nb)), .val (.int x0), .val (.int x1), .val (.int y0), .val (.int y1), .val (.ref t11), .val (.ref t12), .unset, .unset] [(.int (own_key x1))] h12 vm12 8 24
                refine RunW.iload at_152 rfl (pc' := 154) rfl ?_
                refine RunW.callS (k' := 8) (n' := 24) (as := [(.int y1)]) (rest := [(.int (own_key x1))]) (con_own_key l Z a0 hw n0 h12 sz12 y1 ) (by rintro _ _ ⟨_, -, -, rfl⟩; exact ⟨[], Keep.refl _ _, all0⟩) at_154 (hw _ (List.mem_of_getElem? (i := 83) rfl)) (hw _ (List.mem_of_getElem? (i := 84) rfl)) (hw _ (List.mem_of_getElem? (i := 3) rfl)) (hw _ (List.mem_of_getElem? (i := 85) rfl)) (by decide) pd__C_I rfl rfl rfl (by decide) (by show (1 : Nat) + (2 + 11) + 0 ≤ _; decide) (by decide) (by decide) (by decide) (by decide) (pc' := 157) rfl ?_
                rintro _ _ ⟨_, rfl, rfl, rfl⟩ -
                show RunW l Z own_EL n0 x.cls code maxLocals ret x.name room_1 _ 157 #[.val (.int p1), .val (.int p2), .val (.int p3), .val (.int (Int32.ofNat na)), .val (.int (Int32.ofNat nb)), .val (.int x0), .val (.int x1), .val (.int y0), .val (.int y1), .val (.ref t11), .val (.ref t12), .unset, .unset] [(.int (own_key y1)), (.int (own_key x1))] h12 vm12 8 24
                refine RunW.isub at_157 (pc' := 158) rfl ?_
                refine RunW.callS (k' := 8) (n' := 24) (as := [(.int ((own_key x1) - (own_key y1)))]) (rest := []) (con_own_sgn l Z a0 hw n0 h12 sz12 ((own_key x1) - (own_key y1)) ) (by rintro _ _ ⟨_, -, -, rfl⟩; exact ⟨[], Keep.refl _ _, all0⟩) at_158 (hw _ (List.mem_of_getElem? (i := 38) rfl)) (hw _ (List.mem_of_getElem? (i := 39) rfl)) (hw _ (List.mem_of_getElem? (i := 3) rfl)) (hw _ (List.mem_of_getElem? (i := 40) rfl)) (by decide) pd__I_I rfl rfl rfl (by decide) (by show (0 : Nat) + (1 + 11) + 0 ≤ _; decide) (by decide) (by decide) (by decide) (by decide) (pc' := 161) rfl ?_
                rintro _ _ ⟨_, rfl, rfl, rfl⟩ -
                show RunW l Z own_EL n0 x.cls code maxLocals ret x.name room_1 _ 161 #[.val (.int p1), .val (.int p2), .val (.int p3), .val (.int (Int32.ofNat na)), .val (.int (Int32.ofNat nb)), .val (.int x0), .val (.int x1), .val (.int y0), .val (.int y1), .val (.ref t11), .val (.ref t12), .unset, .unset] [(.int (own_sgn ((own_key x1) - (own_key y1))))] h12 vm12 8 24
                refine RunW.istore (l' := #[.val (.int p1), .val (.int p2), .val (.int p3), .val (.int (Int32.ofNat na)), .val (.int (Int32.ofNat nb)), .val (.int x0), .val (.int x1), .val (.int y0), .val (.int y1), .val (.ref t11), .val (.ref t12), .val (.int (own_sgn ((own_key x1) - (own_key y1)))), .unset]) at_161 rfl (pc' := 163) rfl ?_
                refine RunW.goto at_163 (by decide) (pc' := 175) (by decide) ?_
                refine RunW.aload at_175 rfl rfl (pc' := 177) rfl ?_
                refine RunW.aload at_177 rfl rfl (pc' := 179) rfl ?_
                refine RunW.callS (k' := 8) (n' := 24) (as := [(.ref t11), (.ref t12)]) (rest := []) (con_cu8 l Z a0 hw n0 h12 sz12 t11 b11 t12 b12 ([x0, x1].take na) ([y0, y1].take nb) fm cz od12 SF hfm SD SH8 SL8 SZ hcz E_t11_12 F_t11_value_12 F_t11_coder_12 A_b11_12 X12 FV12 FC12 P12 (own_t2 _ _ _) (own_tk (own_chr2 q_x0.2 q_x1.2)) (own_t2 _ _ _) (own_tk (own_chr2 q_y0.2 q_y1.2)) ) (by rintro _ _ ⟨_, -, -, rfl⟩; exact ⟨[], Keep.refl _ _, all0⟩) at_179 (hw _ (List.mem_of_getElem? (i := 41) rfl)) (hw _ (List.mem_of_getElem? (i := 42) rfl)) (hw _ (List.mem_of_getElem? (i := 43) rfl)) (hw _ (List.mem_of_getElem? (i := 44) rfl)) (by decide) pd__Ljava_lang_String_Ljava_lang_String__I rfl rfl rfl (by decide) (by show (0 : Nat) + (6 + 11) + 66 ≤ _; decide) (by decide) (by decide) (by decide) (by decide) (pc' := 182) rfl ?_
                rintro _ _ ⟨_, rfl, rfl, rfl⟩ -
                show RunW l Z own_EL n0 x.cls code maxLocals ret x.name room_1 _ 182 #[.val (.int p1), .val (.int p2), .val (.int p3), .val (.int (Int32.ofNat na)), .val (.int (Int32.ofNat nb)), .val (.int x0), .val (.int x1), .val (.int y0), .val (.int y1), .val (.ref t11), .val (.ref t12), .val (.int (own_sgn ((own_key x1) - (own_key y1)))), .unset] [(.int (own_cmp ([x0, x1].take na) ([y0, y1].take nb) (min ([x0, x1].take na).length ([y0, y1].take nb).length) 0))] h12 vm12 8 24
                refine RunW.callS (k' := 8) (n' := 24) (as := [(.int (own_cmp ([x0, x1].take na) ([y0, y1].take nb) (min ([x0, x1].take na).length ([y0, y1].take nb).length) 0))]) (rest := []) (con_own_sgn l Z a0 hw n0 h12 sz12 (own_cmp ([x0, x1].take na) ([y0, y1].take nb) (min ([x0, x1].take na).length ([y0, y1].take nb).length) 0) ) (by rintro _ _ ⟨_, -, -, rfl⟩; exact ⟨[], Keep.refl _ _, all0⟩) at_182 (hw _ (List.mem_of_getElem? (i := 38) rfl)) (hw _ (List.mem_of_getElem? (i := 39) rfl)) (hw _ (List.mem_of_getElem? (i := 3) rfl)) (hw _ (List.mem_of_getElem? (i := 40) rfl)) (by decide) pd__I_I rfl rfl rfl (by decide) (by show (0 : Nat) + (1 + 11) + 0 ≤ _; decide) (by decide) (by decide) (by decide) (by decide) (pc' := 185) rfl ?_
                rintro _ _ ⟨_, rfl, rfl, rfl⟩ -
                show RunW l Z own_EL n0 x.cls code maxLocals ret x.name room_1 _ 185 #[.val (.int p1), .val (.int p2), .val (.int p3), .val (.int (Int32.ofNat na)), .val (.int (Int32.ofNat nb)), .val (.int x0), .val (.int x1), .val (.int y0), .val (.int y1), .val (.ref t11), .val (.ref t12), .val (.int (own_sgn ((own_key x1) - (own_key y1)))), .unset] [(.int (own_sgn (own_cmp ([x0, x1].take na) ([y0, y1].take nb) (min ([x0, x1].take na).length ([y0, y1].take nb).length) 0)))] h12 vm12 8 24
                refine RunW.istore (l' := #[.val (.int p1), .val (.int p2), .val (.int p3), .val (.int (Int32.ofNat na)), .val (.int (Int32.ofNat nb)), .val (.int x0), .val (.int x1), .val (.int y0), .val (.int y1), .val (.ref t11), .val (.ref t12), .val (.int (own_sgn ((own_key x1) - (own_key y1)))), .val (.int (own_sgn (own_cmp ([x0, x1].take na) ([y0, y1].take nb) (min ([x0, x1].take na).length ([y0, y1].take nb).length) 0)))]) at_185 rfl (pc' := 187) rfl ?_
                refine RunW.iload at_187 rfl (pc' := 189) rfl ?_
                refine RunW.iload at_189 rfl (pc' := 191) rfl ?_
                refine RunW.icmp_ne at_191 (by decide) (pc' := 198) (by decide) (pa := 194) rfl (fun hc191 => ?_) (fun hc191 => ?_)
                · -- pc 191 taken: ¬ (own_sgn (own_cmp ([x0, x1].take na) ([y0, y1].take nb) (min ([x0, x1].take na).length ([y0, y1].take nb).length) 0)) = (own_sgn ((own_key x1) - (own_key y1)))
                  exact absurd (own_L2 h_na h_nb (Or.inr (Or.inl (own_le0 hc100 (by omega)))) (own_gt1 hc131 (by omega)) (own_gt1 hc137 (by omega)) q_x1.2 q_y1.2 hc144) hc191
                · -- pc 191 not taken: (own_sgn (own_cmp ([x0, x1].take na) ([y0, y1].take nb) (min ([x0, x1].take na).length ([y0, y1].take nb).length) 0)) = (own_sgn ((own_key x1) - (own_key y1)))
                  refine RunW.iconst (1 : Int32) at_194 (by decide) (pc' := 195) rfl ?_
                  refine RunW.goto at_195 (by decide) (pc' := 199) (by decide) ?_
                  exact RunW.nreturn at_199 (ty := .boolean) rfl (by simp) (by decide) (by decide) ⟨_, rfl, rfl⟩
        · -- pc 100 not taken: (0 : Int32) < (Int32.ofNat nb)
          refine RunW.iload at_103 rfl (pc' := 105) rfl ?_
          refine RunW.iload at_105 rfl (pc' := 107) rfl ?_
          refine RunW.icmp_eq at_107 (by decide) (pc' := 129) (by decide) (pa := 110) rfl (fun hc107 => ?_) (fun hc107 => ?_)
          · -- pc 107 taken: x0 = y0
            refine RunW.iloadN at_129 rfl (pc' := 130) rfl ?_
            refine RunW.iconst (1 : Int32) at_130 (by decide) (pc' := 131) rfl ?_
            refine RunW.icmp_le at_131 (by decide) (pc' := 166) (by decide) (pa := 134) rfl (fun hc131 => ?_) (fun hc131 => ?_)
            · -- pc 131 taken: ¬ (1 : Int32) < (Int32.ofNat na)
              refine RunW.iloadN at_166 rfl (pc' := 167) rfl ?_
              refine RunW.iload at_167 rfl (pc' := 169) rfl ?_
              refine RunW.isub at_169 (pc' := 170) rfl ?_
              refine RunW.callS (k' := 8) (n' := 24) (as := [(.int ((Int32.ofNat na) - (Int32.ofNat nb)))]) (rest := []) (con_own_sgn l Z a0 hw n0 h12 sz12 ((Int32.ofNat na) - (Int32.ofNat nb)) ) (by rintro _ _ ⟨_, -, -, rfl⟩; exact ⟨[], Keep.refl _ _, all0⟩) at_170 (hw _ (List.mem_of_getElem? (i := 38) rfl)) (hw _ (List.mem_of_getElem? (i := 39) rfl)) (hw _ (List.mem_of_getElem? (i := 3) rfl)) (hw _ (List.mem_of_getElem? (i := 40) rfl)) (by decide) pd__I_I rfl rfl rfl (by decide) (by show (0 : Nat) + (1 + 11) + 0 ≤ _; decide) (by decide) (by decide) (by decide) (by decide) (pc' := 173) rfl ?_
              rintro _ _ ⟨_, rfl, rfl, rfl⟩ -
              show RunW l Z own_EL n0 x.cls code maxLocals ret x.name room_1 _ 173 #[.val (.int p1), .val (.int p2), .val (.int p3), .val (.int (Int32.ofNat na)), .val (.int (Int32.ofNat nb)), .val (.int x0), .val (.int x1), .val (.int y0), .val (.int y1), .val (.ref t11), .val (.ref t12), .unset, .unset] [(.int (own_sgn ((Int32.ofNat na) - (Int32.ofNat nb))))] h12 vm12 8 24
              refine RunW.istore (l' := #[.val (.int p1), .val (.int p2), .val (.int p3), .val (.int (Int32.ofNat na)), .val (.int (Int32.ofNat nb)), .val (.int x0), .val (.int x1), .val (.int y0), .val (.int y1), .val (.ref t11), .val (.ref t12), .val (.int (own_sgn ((Int32.ofNat na) - (Int32.ofNat nb)))), .unset]) at_173 rfl (pc' := 175) rfl ?_
              refine RunW.aload at_175 rfl rfl (pc' := 177) rfl ?_
              refine RunW.aload at_177 rfl rfl (pc' := 179) rfl ?_
              refine RunW.callS (k' := 8) (n' := 24) (as := [(.ref t11), (.ref t12)]) (rest := []) (con_cu8 l Z a0 hw n0 h12 sz12 t11 b11 t12 b12 ([x0, x1].take na) ([y0, y1].take nb) fm cz od12 SF hfm SD SH8 SL8 SZ hcz E_t11_12 F_t11_value_12 F_t11_coder_12 A_b11_12 X12 FV12 FC12 P12 (own_t2 _ _ _) (own_tk (own_chr2 q_x0.2 q_x1.2)) (own_t2 _ _ _) (own_tk (own_chr2 q_y0.2 q_y1.2)) ) (by rintro _ _ ⟨_, -, -, rfl⟩; exact ⟨[], Keep.refl _ _, all0⟩) at_179 (hw _ (List.mem_of_getElem? (i := 41) rfl)) (hw _ (List.mem_of_getElem? (i := 42) rfl)) (hw _ (List.mem_of_getElem? (i := 43) rfl)) (hw _ (List.mem_of_getElem? (i := 44) rfl)) (by decide) pd__Ljava_lang_String_Ljava_lang_String__I rfl rfl rfl (by decide) (by show (0 : Nat) + (6 + 11) + 66 ≤ _; decide) (by decide) (by decide) (by decide) (by decide) (pc' := 182) rfl ?_
              rintro _ _ ⟨_, rfl, rfl, rfl⟩ -
              show RunW l Z own_EL n0 x.cls code maxLocals ret x.name room_1 _ 182 #[.val (.int p1), .val (.int p2), .val (.int p3), .val (.int (Int32.ofNat na)), .val (.int (Int32.ofNat nb)), .val (.int x0), .val (.int x1), .val (.int y0), .val (.int y1), .val (.ref t11), .val (.ref t12), .val (.int (own_sgn ((Int32.ofNat na) - (Int32.ofNat nb)))), .unset] [(.int (own_cmp ([x0, x1].take na) ([y0, y1].take nb) (min ([x0, x1].take na).length ([y0, y1].take nb).length) 0))] h12 vm12 8 24
              refine RunW.callS (k' := 8) (n' := 24) (as := [(.int (own_cmp ([x0, x1].take na) ([y0, y1].take nb) (min ([x0, x1].take na).length ([y0, y1].take nb).length) 0))]) (rest := []) (con_own_sgn l Z a0 hw n0 h12 sz12 (own_cmp ([x0, x1].take na) ([y0, y1].take nb) (min ([x0, x1].take na).length ([y0, y1].take nb).length) 0) ) (by rintro _ _ ⟨_, -, -, rfl⟩; exact ⟨[], Keep.refl _ _, all0⟩) at_182 (hw _ (List.mem_of_getElem? (i := 38) rfl)) (hw _ (List.mem_of_getElem? (i := 39) rfl)) (hw _ (List.mem_of_getElem? (i := 3) rfl)) (hw _ (List.mem_of_getElem? (i := 40) rfl)) (by decide) pd__I_I rfl rfl rfl (by decide) (by show (0 : Nat) + (1 + 11) + 0 ≤ _; decide) (by decide) (by decide) (by decide) (by decide) (pc' := 185) rfl ?_
              rintro _ _ ⟨_, rfl, rfl, rfl⟩ -
              show RunW l Z own_EL n0 x.cls code maxLocals ret x.name room_1 _ 185 #[.val (.int p1), .val (.int p2), .val (.int p3), .val (.int (Int32.ofNat na)), .val (.int (Int32.ofNat nb)), .val (.int x0), .val (.int x1), .val (.int y0), .val (.int y1), .val (.ref t11), .val (.ref t12), .val (.int (own_sgn ((Int32.ofNat na) - (Int32.ofNat nb)))), .unset] [(.int (own_sgn (own_cmp ([x0, x1].take na) ([y0, y1].take nb) (min ([x0, x1].take na).length ([y0, y1].take nb).length) 0)))] h12 vm12 8 24
              refine RunW.istore (l' := #[.val (.int p1), .val (.int p2), .val (.int p3), .val (.int (Int32.ofNat na)), .val (.int (Int32.ofNat nb)), .val (.int x0), .val (.int x1), .val (.int y0), .val (.int y1), .val (.ref t11), .val (.ref t12), .val (.int (own_sgn ((Int32.ofNat na) - (Int32.ofNat nb)))), .val (.int (own_sgn (own_cmp ([x0, x1].take na) ([y0, y1].take nb) (min ([x0, x1].take na).length ([y0, y1].take nb).length) 0)))]) at_185 rfl (pc' := 187) rfl ?_
              refine RunW.iload at_187 rfl (pc' := 189) rfl ?_
              refine RunW.iload at_189 rfl (pc' := 191) rfl ?_
              refine RunW.icmp_ne at_191 (by decide) (pc' := 198) (by decide) (pa := 194) rfl (fun hc191 => ?_) (fun hc191 => ?_)
              · -- pc 191 taken: ¬ (own_sgn (own_cmp ([x0, x1].take na) ([y0, y1].take nb) (min ([x0, x1].take na).length ([y0, y1].take nb).length) 0)) = (own_sgn ((Int32.ofNat na) - (Int32.ofNat nb)))
                exact absurd (own_L3 h_na h_nb (Or.inr (Or.inr hc107)) (Or.inl (own_le1 hc131 (by omega)))) hc191
              · -- pc 191 not taken: (own_sgn (own_cmp ([x0, x1].take na) ([y0, y1].take nb) (min ([x0, x1].take na).length ([y0, y1].take nb).length) 0)) = (own_sgn ((Int32.ofNat na) - (Int32.ofNat nb)))
                refine RunW.iconst (1 : Int32) at_194 (by decide) (pc' := 195) rfl ?_
                refine RunW.goto at_195 (by decide) (pc' := 199) (by decide) ?_
                exact RunW.nreturn at_199 (ty := .boolean) rfl (by simp) (by decide) (by decide) ⟨_, rfl, rfl⟩
            · -- pc 131 not taken: (1 : Int32) < (Int32.ofNat na)
              refine RunW.iload at_134 rfl (pc' := 136) rfl ?_
              refine RunW.iconst (1 : Int32) at_136 (by decide) (pc' := 137) rfl ?_
              refine RunW.icmp_le at_137 (by decide) (pc' := 166) (by decide) (pa := 140) rfl (fun hc137 => ?_) (fun hc137 => ?_)
              · -- pc 137 taken: ¬ (1 : Int32) < (Int32.ofNat nb)
                refine RunW.iloadN at_166 rfl (pc' := 167) rfl ?_
                refine RunW.iload at_167 rfl (pc' := 169) rfl ?_
                refine RunW.isub at_169 (pc' := 170) rfl ?_
                refine RunW.callS (k' := 8) (n' := 24) (as := [(.int ((Int32.ofNat na) - (Int32.ofNat nb)))]) (rest := []) (con_own_sgn l Z a0 hw n0 h12 sz12 ((Int32.ofNat na) - (Int32.ofNat nb)) ) (by rintro _ _ ⟨_, -, -, rfl⟩; exact ⟨[], Keep.refl _ _, all0⟩) at_170 (hw _ (List.mem_of_getElem? (i := 38) rfl)) (hw _ (List.mem_of_getElem? (i := 39) rfl)) (hw _ (List.mem_of_getElem? (i := 3) rfl)) (hw _ (List.mem_of_getElem? (i := 40) rfl)) (by decide) pd__I_I rfl rfl rfl (by decide) (by show (0 : Nat) + (1 + 11) + 0 ≤ _; decide) (by decide) (by decide) (by decide) (by decide) (pc' := 173) rfl ?_
                rintro _ _ ⟨_, rfl, rfl, rfl⟩ -
                show RunW l Z own_EL n0 x.cls code maxLocals ret x.name room_1 _ 173 #[.val (.int p1), .val (.int p2), .val (.int p3), .val (.int (Int32.ofNat na)), .val (.int (Int32.ofNat nb)), .val (.int x0), .val (.int x1), .val (.int y0), .val (.int y1), .val (.ref t11), .val (.ref t12), .unset, .unset] [(.int (own_sgn ((Int32.ofNat na) - (Int32.ofNat nb))))] h12 vm12 8 24
                refine RunW.istore (l' := #[.val (.int p1), .val (.int p2), .val (.int p3), .val (.int (Int32.ofNat na)), .val (.int (Int32.ofNat nb)), .val (.int x0), .val (.int x1), .val (.int y0), .val (.int y1), .val (.ref t11), .val (.ref t12), .val (.int (own_sgn ((Int32.ofNat na) - (Int32.ofNat nb)))), .unset]) at_173 rfl (pc' := 175) rfl ?_
                refine RunW.aload at_175 rfl rfl (pc' := 177) rfl ?_
                refine RunW.aload at_177 rfl rfl (pc' := 179) rfl ?_
                refine RunW.callS (k' := 8) (n' := 24) (as := [(.ref t11), (.ref t12)]) (rest := []) (con_cu8 l Z a0 hw n0 h12 sz12 t11 b11 t12 b12 ([x0, x1].take na) ([y0, y1].take nb) fm cz od12 SF hfm SD SH8 SL8 SZ hcz E_t11_12 F_t11_value_12 F_t11_coder_12 A_b11_12 X12 FV12 FC12 P12 (own_t2 _ _ _) (own_tk (own_chr2 q_x0.2 q_x1.2)) (own_t2 _ _ _) (own_tk (own_chr2 q_y0.2 q_y1.2)) ) (by rintro _ _ ⟨_, -, -, rfl⟩; exact ⟨[], Keep.refl _ _, all0⟩) at_179 (hw _ (List.mem_of_getElem? (i := 41) rfl)) (hw _ (List.mem_of_getElem? (i := 42) rfl)) (hw _ (List.mem_of_getElem? (i := 43) rfl)) (hw _ (List.mem_of_getElem? (i := 44) rfl)) (by decide) pd__Ljava_lang_String_Ljava_lang_String__I rfl rfl rfl (by decide) (by show (0 : Nat) + (6 + 11) + 66 ≤ _; decide) (by decide) (by decide) (by decide) (by decide) (pc' := 182) rfl ?_
                rintro _ _ ⟨_, rfl, rfl, rfl⟩ -
                show RunW l Z own_EL n0 x.cls code maxLocals ret x.name room_1 _ 182 #[.val (.int p1), .val (.int p2), .val (.int p3), .val (.int (Int32.ofNat na)), .val (.int (Int32.ofNat nb)), .val (.int x0), .val (.int x1), .val (.int y0), .val (.int y1), .val (.ref t11), .val (.ref t12), .val (.int (own_sgn ((Int32.ofNat na) - (Int32.ofNat nb)))), .unset] [(.int (own_cmp ([x0, x1].take na) ([y0, y1].take nb) (min ([x0, x1].take na).length ([y0, y1].take nb).length) 0))] h12 vm12 8 24
                refine RunW.callS (k' := 8) (n' := 24) (as := [(.int (own_cmp ([x0, x1].take na) ([y0, y1].take nb) (min ([x0, x1].take na).length ([y0, y1].take nb).length) 0))]) (rest := []) (con_own_sgn l Z a0 hw n0 h12 sz12 (own_cmp ([x0, x1].take na) ([y0, y1].take nb) (min ([x0, x1].take na).length ([y0, y1].take nb).length) 0) ) (by rintro _ _ ⟨_, -, -, rfl⟩; exact ⟨[], Keep.refl _ _, all0⟩) at_182 (hw _ (List.mem_of_getElem? (i := 38) rfl)) (hw _ (List.mem_of_getElem? (i := 39) rfl)) (hw _ (List.mem_of_getElem? (i := 3) rfl)) (hw _ (List.mem_of_getElem? (i := 40) rfl)) (by decide) pd__I_I rfl rfl rfl (by decide) (by show (0 : Nat) + (1 + 11) + 0 ≤ _; decide) (by decide) (by decide) (by decide) (by decide) (pc' := 185) rfl ?_
                rintro _ _ ⟨_, rfl, rfl, rfl⟩ -
                show RunW l Z own_EL n0 x.cls code maxLocals ret x.name room_1 _ 185 #[.val (.int p1), .val (.int p2), .val (.int p3), .val (.int (Int32.ofNat na)), .val (.int (Int32.ofNat nb)), .val (.int x0), .val (.int x1), .val (.int y0), .val (.int y1), .val (.ref t11), .val (.ref t12), .val (.int (own_sgn ((Int32.ofNat na) - (Int32.ofNat nb)))), .unset] [(.int (own_sgn (own_cmp ([x0, x1].take na) ([y0, y1].take nb) (min ([x0, x1].take na).length ([y0, y1].take nb).length) 0)))] h12 vm12 8 24
                refine RunW.istore (l' := #[.val (.int p1), .val (.int p2), .val (.int p3), .val (.int (Int32.ofNat na)), .val (.int (Int32.ofNat nb)), .val (.int x0), .val (.int x1), .val (.int y0), .val (.int y1), .val (.ref t11), .val (.ref t12), .val (.int (own_sgn ((Int32.ofNat na) - (Int32.ofNat nb)))), .val (.int (own_sgn (own_cmp ([x0, x1].take na) ([y0, y1].take nb) (min ([x0, x1].take na).length ([y0, y1].take nb).length) 0)))]) at_185 rfl (pc' := 187) rfl ?_
                refine RunW.iload at_187 rfl (pc' := 189) rfl ?_
                refine RunW.iload at_189 rfl (pc' := 191) rfl ?_
                refine RunW.icmp_ne at_191 (by decide) (pc' := 198) (by decide) (pa := 194) rfl (fun hc191 => ?_) (fun hc191 => ?_)
                · -- pc 191 taken: ¬ (own_sgn (own_cmp ([x0, x1].take na) ([y0, y1].take nb) (min ([x0, x1].take na).length ([y0, y1].take nb).length) 0)) = (own_sgn ((Int32.ofNat na) - (Int32.ofNat nb)))
                  exact absurd (own_L3 h_na h_nb (Or.inr (Or.inr hc107)) (Or.inr (Or.inl (own_le1 hc137 (by omega))))) hc191
                · -- pc 191 not taken: (own_sgn (own_cmp ([x0, x1].take na) ([y0, y1].take nb) (min ([x0, x1].take na).length ([y0, y1].take nb).length) 0)) = (own_sgn ((Int32.ofNat na) - (Int32.ofNat nb)))
                  refine RunW.iconst (1 : Int32) at_194 (by decide) (pc' := 195) rfl ?_
                  refine RunW.goto at_195 (by decide) (pc' := 199) (by decide) ?_
                  exact RunW.nreturn at_199 (ty := .boolean) rfl (by simp) (by decide) (by decide) ⟨_, rfl, rfl⟩
              · -- pc 137 not taken: (1 : Int32) < (Int32.ofNat nb)
                refine RunW.iload at_140 rfl (pc' := 142) rfl ?_
                refine RunW.iload at_142 rfl (pc' := 144) rfl ?_
                refine RunW.icmp_eq at_144 (by decide) (pc' := 166) (by decide) (pa := 147) rfl (fun hc144 => ?_) (fun hc144 => ?_)
                · -- pc 144 taken: x1 = y1
                  refine RunW.iloadN at_166 rfl (pc' := 167) rfl ?_
                  refine RunW.iload at_167 rfl (pc' := 169) rfl ?_
                  refine RunW.isub at_169 (pc' := 170) rfl ?_
                  refine RunW.callS (k' := 8) (n' := 24) (as := [(.int ((Int32.ofNat na) - (Int32.ofNat nb)))]) (rest := []) (con_own_sgn l Z a0 hw n0 h12 sz12 ((Int32.ofNat na) - (Int32.ofNat nb)) ) (by rintro _ _ ⟨_, -, -, rfl⟩; exact ⟨[], Keep.refl _ _, all0⟩) at_170 (hw _ (List.mem_of_getElem? (i := 38) rfl)) (hw _ (List.mem_of_getElem? (i := 39) rfl)) (hw _ (List.mem_of_getElem? (i := 3) rfl)) (hw _ (List.mem_of_getElem? (i := 40) rfl)) (by decide) pd__I_I rfl rfl rfl (by decide) (by show (0 : Nat) + (1 + 11) + 0 ≤ _; decide) (by decide) (by decide) (by decide) (by decide) (pc' := 173) rfl ?_
                  rintro _ _ ⟨_, rfl, rfl, rfl⟩ -
                  show RunW l Z own_EL n0 x.cls code maxLocals ret x.name room_1 _ 173 #[.val (.int p1), .val (.int p2), .val (.int p3), .val (.int (Int32.ofNat na)), .val (.int (Int32.ofNat nb)), .val (.int x0), .val (.int x1), .val (.int y0), .val (.int y1), .val (.ref t11), .val (.ref t12), .unset, .unset] [(.int (own_sgn ((Int32.ofNat na) - (Int32.ofNat nb))))] h12 vm12 8 24
                  refine RunW.istore (l' := #[.val (.int p1), .val (.int p2), .val (.int p3), .val (.int (Int32.ofNat na)), .val (.int (Int32.ofNat nb)), .val (.int x0), .val (.int x1), .val (.int y0), .val (.int y1), .val (.ref t11), .val (.ref t12), .val (.int (own_sgn ((Int32.ofNat na) - (Int32.ofNat nb)))), .unset]) at_173 rfl (pc' := 175) rfl ?_
                  refine RunW.aload at_175 rfl rfl (pc' := 177) rfl ?_
                  refine RunW.aload at_177 rfl rfl (pc' := 179) rfl ?_
                  refine RunW.callS (k' := 8) (n' := 24) (as := [(.ref t11), (.ref t12)]) (rest := []) (con_cu8 l Z a0 hw n0 h12 sz12 t11 b11 t12 b12 ([x0, x1].take na) ([y0, y1].take nb) fm cz od12 SF hfm SD SH8 SL8 SZ hcz E_t11_12 F_t11_value_12 F_t11_coder_12 A_b11_12 X12 FV12 FC12 P12 (own_t2 _ _ _) (own_tk (own_chr2 q_x0.2 q_x1.2)) (own_t2 _ _ _) (own_tk (own_chr2 q_y0.2 q_y1.2)) ) (by rintro _ _ ⟨_, -, -, rfl⟩; exact ⟨[], Keep.refl _ _, all0⟩) at_179 (hw _ (List.mem_of_getElem? (i := 41) rfl)) (hw _ (List.mem_of_getElem? (i := 42) rfl)) (hw _ (List.mem_of_getElem? (i := 43) rfl)) (hw _ (List.mem_of_getElem? (i := 44) rfl)) (by decide) pd__Ljava_lang_String_Ljava_lang_String__I rfl rfl rfl (by decide) (by show (0 : Nat) + (6 + 11) + 66 ≤ _; decide) (by decide) (by decide) (by decide) (by decide) (pc' := 182) rfl ?_
                  rintro _ _ ⟨_, rfl, rfl, rfl⟩ -
                  show RunW l Z own_EL n0 x.cls code maxLocals ret x.name room_1 _ 182 #[.val (.int p1), .val (.int p2), .val (.int p3), .val (.int (Int32.ofNat na)), .val (.int (Int32.ofNat nb)), .val (.int x0), .val (.int x1), .val (.int y0), .val (.int y1), .val (.ref t11), .val (.ref t12), .val (.int (own_sgn ((Int32.ofNat na) - (Int32.ofNat nb)))), .unset] [(.int (own_cmp ([x0, x1].take na) ([y0, y1].take nb) (min ([x0, x1].take na).length ([y0, y1].take nb).length) 0))] h12 vm12 8 24
                  refine RunW.callS (k' := 8) (n' := 24) (as := [(.int (own_cmp ([x0, x1].take na) ([y0, y1].take nb) (min ([x0, x1].take na).length ([y0, y1].take nb).length) 0))]) (rest := []) (con_own_sgn l Z a0 hw n0 h12 sz12 (own_cmp ([x0, x1].take na) ([y0, y1].take nb) (min ([x0, x1].take na).length ([y0, y1].take nb).length) 0) ) (by rintro _ _ ⟨_, -, -, rfl⟩; exact ⟨[], Keep.refl _ _, all0⟩) at_182 (hw _ (List.mem_of_getElem? (i := 38) rfl)) (hw _ (List.mem_of_getElem? (i := 39) rfl)) (hw _ (List.mem_of_getElem? (i := 3) rfl)) (hw _ (List.mem_of_getElem? (i := 40) rfl)) (by decide) pd__I_I rfl rfl rfl (by decide) (by show (0 : Nat) + (1 + 11) + 0 ≤ _; decide) (by decide) (by decide) (by decide) (by decide) (pc' := 185) rfl ?_
                  rintro _ _ ⟨_, rfl, rfl, rfl⟩ -
                  show RunW l Z own_EL n0 x.cls code maxLocals ret x.name room_1 _ 185 #[.val (.int p1), .val (.int p2), .val (.int p3), .val (.int (Int32.ofNat na)), .val (.int (Int32.ofNat nb)), .val (.int x0), .val (.int x1), .val (.int y0), .val (.int y1), .val (.ref t11), .val (.ref t12), .val (.int (own_sgn ((Int32.ofNat na) - (Int32.ofNat nb)))), .unset] [(.int (own_sgn (own_cmp ([x0, x1].take na) ([y0, y1].take nb) (min ([x0, x1].take na).length ([y0, y1].take nb).length) 0)))] h12 vm12 8 24
                  refine RunW.istore (l' := #[.val (.int p1), .val (.int p2), .val (.int p3), .val (.int (Int32.ofNat na)), .val (.int (Int32.ofNat nb)), .val (.int x0), .val (.int x1), .val (.int y0), .val (.int y1), .val (.ref t11), .val (.ref t12), .val (.int (own_sgn ((Int32.ofNat na) - (Int32.ofNat nb)))), .val (.int (own_sgn (own_cmp ([x0, x1].take na) ([y0, y1].take nb) (min ([x0, x1].take na).length ([y0, y1].take nb).length) 0)))]) at_185 rfl (pc' := 187) rfl ?_
                  refine RunW.iload at_187 rfl (pc' := 189) rfl ?_
                  refine RunW.iload at_189 rfl (pc' := 191) rfl ?_
                  refine RunW.icmp_ne at_191 (by decide) (pc' := 198) (by decide) (pa := 194) rfl (fun hc191 => ?_) (fun hc191 => ?_)
                  · -- pc 191 taken: ¬ (own_sgn (own_cmp ([x0, x1].take na) ([y0, y1].take nb) (min ([x0, x1].take na).length ([y0, y1].take nb).length) 0)) = (own_sgn ((Int32.ofNat na) - (Int32.ofNat nb)))
                    exact absurd (own_L3 h_na h_nb (Or.inr (Or.inr hc107)) (Or.inr (Or.inr hc144))) hc191
                  · -- pc 191 not taken: (own_sgn (own_cmp ([x0, x1].take na) ([y0, y1].take nb) (min ([x0, x1].take na).length ([y0, y1].take nb).length) 0)) = (own_sgn ((Int32.ofNat na) - (Int32.ofNat nb)))
                    refine RunW.iconst (1 : Int32) at_194 (by decide) (pc' := 195) rfl ?_
                    refine RunW.goto at_195 (by decide) (pc' := 199) (by decide) ?_
                    exact RunW.nreturn at_199 (ty := .boolean) rfl (by simp) (by decide) (by decide) ⟨_, rfl, rfl⟩
                · -- pc 144 not taken: ¬ x1 = y1
                  refine RunW.iload at_147 rfl (pc' := 149) rfl ?_
                  refine RunW.callS (k' := 8) (n' := 24) (as := [(.int x1)]) (rest := []) (con_own_key l Z a0 hw n0 h12 sz12 x1 ) (by rintro _ _ ⟨_, -, -, rfl⟩; exact ⟨[], Keep.refl _ _, all0⟩) at_149 (hw _ (List.mem_of_getElem? (i := 83) rfl)) (hw _ (List.mem_of_getElem? (i := 84) rfl)) (hw _ (List.mem_of_getElem? (i := 3) rfl)) (hw _ (List.mem_of_getElem? (i := 85) rfl)) (by decide) pd__C_I rfl rfl rfl (by decide) (by show (0 : Nat) + (2 + 11) + 0 ≤ _; decide) (by decide) (by decide) (by decide) (by decide) (pc' := 152) rfl ?_
                  rintro _ _ ⟨_, rfl, rfl, rfl⟩ -
                  show RunW l Z own_EL n0 x.cls code maxLocals ret x.name room_1 _ 152 #[.val (.int p1), .val (.int p2), .val (.int p3), .val (.int (Int32.ofNat na)), .val (.int (Int32.ofNat nb)), .val (.int x0), .val (.int x1), .val (.int y0), .val (.int y1), .val (.ref t11), .val (.ref t12), .unset, .unset] [(.int (own_key x1))] h12 vm12 8 24
                  refine RunW.iload at_152 rfl (pc' := 154) rfl ?_
                  refine RunW.callS (k' := 8) (n' := 24) (as := [(.int y1)]) (rest := [(.int (own_key x1))]) (con_own_key l Z a0 hw n0 h12 sz12 y1 ) (by rintro _ _ ⟨_, -, -, rfl⟩; exact ⟨[], Keep.refl _ _, all0⟩) at_154 (hw _ (List.mem_of_getElem? (i := 83) rfl)) (hw _ (List.mem_of_getElem? (i := 84) rfl)) (hw _ (List.mem_of_getElem? (i := 3) rfl)) (hw _ (List.mem_of_getElem? (i := 85) rfl)) (by decide) pd__C_I rfl rfl rfl (by decide) (by show (1 : Nat) + (2 + 11) + 0 ≤ _; decide) (by decide) (by decide) (by decide) (by decide) (pc' := 157) rfl ?_
                  rintro _ _ ⟨_, rfl, rfl, rfl⟩ -
                  show RunW l Z own_EL n0 x.cls code maxLocals ret x.name room_1 _ 157 #[.val (.int p1), .val (.int p2), .val (.int p3), .val (.int (Int32.ofNat na)), .val (.int (Int32.ofNat nb)), .val (.int x0), .val (.int x1), .val (.int y0), .val (.int y1), .val (.ref t11), .val (.ref t12), .unset, .unset] [(.int (own_key y1)), (.int (own_key x1))] h12 vm12 8 24
                  refine RunW.isub at_157 (pc' := 158) rfl ?_
                  refine RunW.callS (k' := 8) (n' := 24) (as := [(.int ((own_key x1) - (own_key y1)))]) (rest := []) (con_own_sgn l Z a0 hw n0 h12 sz12 ((own_key x1) - (own_key y1)) ) (by rintro _ _ ⟨_, -, -, rfl⟩; exact ⟨[], Keep.refl _ _, all0⟩) at_158 (hw _ (List.mem_of_getElem? (i := 38) rfl)) (hw _ (List.mem_of_getElem? (i := 39) rfl)) (hw _ (List.mem_of_getElem? (i := 3) rfl)) (hw _ (List.mem_of_getElem? (i := 40) rfl)) (by decide) pd__I_I rfl rfl rfl (by decide) (by show (0 : Nat) + (1 + 11) + 0 ≤ _; decide) (by decide) (by decide) (by decide) (by decide) (pc' := 161) rfl ?_
                  rintro _ _ ⟨_, rfl, rfl, rfl⟩ -
                  show RunW l Z own_EL n0 x.cls code maxLocals ret x.name room_1 _ 161 #[.val (.int p1), .val (.int p2), .val (.int p3), .val (.int (Int32.ofNat na)), .val (.int (Int32.ofNat nb)), .val (.int x0), .val (.int x1), .val (.int y0), .val (.int y1), .val (.ref t11), .val (.ref t12), .unset, .unset] [(.int (own_sgn ((own_key x1) - (own_key y1))))] h12 vm12 8 24
                  refine RunW.istore (l' := #[.val (.int p1), .val (.int p2), .val (.int p3), .val (.int (Int32.ofNat na)), .val (.int (Int32.ofNat nb)), .val (.int x0), .val (.int x1), .val (.int y0), .val (.int y1), .val (.ref t11), .val (.ref t12), .val (.int (own_sgn ((own_key x1) - (own_key y1)))), .unset]) at_161 rfl (pc' := 163) rfl ?_
                  refine RunW.goto at_163 (by decide) (pc' := 175) (by decide) ?_
                  refine RunW.aload at_175 rfl rfl (pc' := 177) rfl ?_
                  refine RunW.aload at_177 rfl rfl (pc' := 179) rfl ?_
                  refine RunW.callS (k' := 8) (n' := 24) (as := [(.ref t11), (.ref t12)]) (rest := []) (con_cu8 l Z a0 hw n0 h12 sz12 t11 b11 t12 b12 ([x0, x1].take na) ([y0, y1].take nb) fm cz od12 SF hfm SD SH8 SL8 SZ hcz E_t11_12 F_t11_value_12 F_t11_coder_12 A_b11_12 X12 FV12 FC12 P12 (own_t2 _ _ _) (own_tk (own_chr2 q_x0.2 q_x1.2)) (own_t2 _ _ _) (own_tk (own_chr2 q_y0.2 q_y1.2)) ) (by rintro _ _ ⟨_, -, -, rfl⟩; exact ⟨[], Keep.refl _ _, all0⟩) at_179 (hw _ (List.mem_of_getElem? (i := 41) rfl)) (hw _ (List.mem_of_getElem? (i := 42) rfl)) (hw _ (List.mem_of_getElem? (i := 43) rfl)) (hw _ (List.mem_of_getElem? (i := 44) rfl)) (by decide) pd__Ljava_lang_String_Ljava_lang_String__I rfl rfl rfl (by decide) (by show (0 : Nat) + (6 + 11) + 66 ≤ _; decide) (by decide) (by decide) (by decide) (by decide) (pc' := 182) rfl ?_
                  rintro _ _ ⟨_, rfl, rfl, rfl⟩ -
                  show RunW l Z own_EL n0 x.cls code maxLocals ret x.name room_1 _ 182 #[.val (.int p1), .val (.int p2), .val (.int p3), .val (.int (Int32.ofNat na)), .val (.int (Int32.ofNat nb)), .val (.int x0), .val (.int x1), .val (.int y0), .val (.int y1), .val (.ref t11), .val (.ref t12), .val (.int (own_sgn ((own_key x1) - (own_key y1)))), .unset] [(.int (own_cmp ([x0, x1].take na) ([y0, y1].take nb) (min ([x0, x1].take na).length ([y0, y1].take nb).length) 0))] h12 vm12 8 24
                  refine RunW.callS (k' := 8) (n' := 24) (as := [(.int (own_cmp ([x0, x1].take na) ([y0, y1].take nb) (min ([x0, x1].take na).length ([y0, y1].take nb).length) 0))]) (rest := []) (con_own_sgn l Z a0 hw n0 h12 sz12 (own_cmp ([x0, x1].take na) ([y0, y1].take nb) (min ([x0, x1].take na).length ([y0, y1].take nb).length) 0) ) (by rintro _ _ ⟨_, -, -, rfl⟩; exact ⟨[], Keep.refl _ _, all0⟩) at_182 (hw _ (List.mem_of_getElem? (i := 38) rfl)) (hw _ (List.mem_of_getElem? (i := 39) rfl)) (hw _ (List.mem_of_getElem? (i := 3) rfl)) (hw _ (List.mem_of_getElem? (i := 40) rfl)) (by decide) pd__I_I rfl rfl rfl (by decide) (by show (0 : Nat) + (1 + 11) + 0 ≤ _; decide) (by decide) (by decide) (by decide) (by decide) (pc' := 185) rfl ?_
                  rintro _ _ ⟨_, rfl, rfl, rfl⟩ -
                  show RunW l Z own_EL n0 x.cls code maxLocals ret x.name room_1 _ 185 #[.val (.int p1), .val (.int p2), .val (.int p3), .val (.int (Int32.ofNat na)), .val (.int (Int32.ofNat nb)), .val (.int x0), .val (.int x1), .val (.int y0), .val (.int y1), .val (.ref t11), .val (.ref t12), .val (.int (own_sgn ((own_key x1) - (own_key y1)))), .unset] [(.int (own_sgn (own_cmp ([x0, x1].take na) ([y0, y1].take nb) (min ([x0, x1].take na).length ([y0, y1].take nb).length) 0)))] h12 vm12 8 24
                  refine RunW.istore (l' := #[.val (.int p1), .val (.int p2), .val (.int p3), .val (.int (Int32.ofNat na)), .val (.int (Int32.ofNat nb)), .val (.int x0), .val (.int x1), .val (.int y0), .val (.int y1), .val (.ref t11), .val (.ref t12), .val (.int (own_sgn ((own_key x1) - (own_key y1)))), .val (.int (own_sgn (own_cmp ([x0, x1].take na) ([y0, y1].take nb) (min ([x0, x1].take na).length ([y0, y1].take nb).length) 0)))]) at_185 rfl (pc' := 187) rfl ?_
                  refine RunW.iload at_187 rfl (pc' := 189) rfl ?_
                  refine RunW.iload at_189 rfl (pc' := 191) rfl ?_
                  refine RunW.icmp_ne at_191 (by decide) (pc' := 198) (by decide) (pa := 194) rfl (fun hc191 => ?_) (fun hc191 => ?_)
                  · -- pc 191 taken: ¬ (own_sgn (own_cmp ([x0, x1].take na) ([y0, y1].take nb) (min ([x0, x1].take na).length ([y0, y1].take nb).length) 0)) = (own_sgn ((own_key x1) - (own_key y1)))
                    exact absurd (own_L2 h_na h_nb (Or.inr (Or.inr hc107)) (own_gt1 hc131 (by omega)) (own_gt1 hc137 (by omega)) q_x1.2 q_y1.2 hc144) hc191
                  · -- pc 191 not taken: (own_sgn (own_cmp ([x0, x1].take na) ([y0, y1].take nb) (min ([x0, x1].take na).length ([y0, y1].take nb).length) 0)) = (own_sgn ((own_key x1) - (own_key y1)))
                    refine RunW.iconst (1 : Int32) at_194 (by decide) (pc' := 195) rfl ?_
                    refine RunW.goto at_195 (by decide) (pc' := 199) (by decide) ?_
                    exact RunW.nreturn at_199 (ty := .boolean) rfl (by simp) (by decide) (by decide) ⟨_, rfl, rfl⟩
          · -- pc 107 not taken: ¬ x0 = y0
            refine RunW.iload at_110 rfl (pc' := 112) rfl ?_
            refine RunW.callS (k' := 8) (n' := 24) (as := [(.int x0)]) (rest := []) (con_own_key l Z a0 hw n0 h12 sz12 x0 ) (by rintro _ _ ⟨_, -, -, rfl⟩; exact ⟨[], Keep.refl _ _, all0⟩) at_112 (hw _ (List.mem_of_getElem? (i := 83) rfl)) (hw _ (List.mem_of_getElem? (i := 84) rfl)) (hw _ (List.mem_of_getElem? (i := 3) rfl)) (hw _ (List.mem_of_getElem? (i := 85) rfl)) (by decide) pd__C_I rfl rfl rfl (by decide) (by show (0 : Nat) + (2 + 11) + 0 ≤ _; decide) (by decide) (by decide) (by decide) (by decide) (pc' := 115) rfl ?_
            rintro _ _ ⟨_, rfl, rfl, rfl⟩ -
            show RunW l Z own_EL n0 x.cls code maxLocals ret x.name room_1 _ 115 #[.val (.int p1), .val (.int p2), .val (.int p3), .val (.int (Int32.ofNat na)), .val (.int (Int32.ofNat nb)), .val (.int x0), .val (.int x1), .val (.int y0), .val (.int y1), .val (.ref t11), .val (.ref t12), .unset, .unset] [(.int (own_key x0))] h12 vm12 8 24
            refine RunW.iload at_115 rfl (pc' := 117) rfl ?_
            refine RunW.callS (k' := 8) (n' := 24) (as := [(.int y0)]) (rest := [(.int (own_key x0))]) (con_own_key l Z a0 hw n0 h12 sz12 y0 ) (by rintro _ _ ⟨_, -, -, rfl⟩; exact ⟨[], Keep.refl _ _, all0⟩) at_117 (hw _ (List.mem_of_getElem? (i := 83) rfl)) (hw _ (List.mem_of_getElem? (i := 84) rfl)) (hw _ (List.mem_of_getElem? (i := 3) rfl)) (hw _ (List.mem_of_getElem? (i := 85) rfl)) (by decide) pd__C_I rfl rfl rfl (by decide) (by show (1 : Nat) + (2 + 11) + 0 ≤ _; decide) (by decide) (by decide) (by decide) (by decide) (pc' := 120) rfl ?_
            rintro _ _ ⟨_, rfl, rfl, rfl⟩ -
            show RunW l Z own_EL n0 x.cls code maxLocals ret x.name room_1 _ 120 #[.val (.int p1), .val (.int p2), .val (.int p3), .val (.int (Int32.ofNat na)), .val (.int (Int32.ofNat nb)), .val (.int x0), .val (.int x1), .val (.int y0), .val (.int y1), .val (.ref t11), .val (.ref t12), .unset, .unset] [(.int (own_key y0)), (.int (own_key x0))] h12 vm12 8 24
            refine RunW.isub at_120 (pc' := 121) rfl ?_
            refine RunW.callS (k' := 8) (n' := 24) (as := [(.int ((own_key x0) - (own_key y0)))]) (rest := []) (con_own_sgn l Z a0 hw n0 h12 sz12 ((own_key x0) - (own_key y0)) ) (by rintro _ _ ⟨_, -, -, rfl⟩; exact ⟨[], Keep.refl _ _, all0⟩) at_121 (hw _ (List.mem_of_getElem? (i := 38) rfl)) (hw _ (List.mem_of_getElem? (i := 39) rfl)) (hw _ (List.mem_of_getElem? (i := 3) rfl)) (hw _ (List.mem_of_getElem? (i := 40) rfl)) (by decide) pd__I_I rfl rfl rfl (by decide) (by show (0 : Nat) + (1 + 11) + 0 ≤ _; decide) (by decide) (by decide) (by decide) (by decide) (pc' := 124) rfl ?_
            rintro _ _ ⟨_, rfl, rfl, rfl⟩ -
            show RunW l Z own_EL n0 x.cls code maxLocals ret x.name room_1 _ 124 #[.val (.int p1), .val (.int p2), .val (.int p3), .val (.int (Int32.ofNat na)), .val (.int (Int32.ofNat nb)), .val (.int x0), .val (.int x1), .val (.int y0), .val (.int y1), .val (.ref t11), .val (.ref t12), .unset, .unset] [(.int (own_sgn ((own_key x0) - (own_key y0))))] h12 vm12 8 24
            refine RunW.istore (l' := #[.val (.int p1), .val (.int p2), .val (.int p3), .val (.int (Int32.ofNat na)), .val (.int (Int32.ofNat nb)), .val (.int x0), .val (.int x1), .val (.int y0), .val (.int y1), .val (.ref t11), .val (.ref t12), .val (.int (own_sgn ((own_key x0) - (own_key y0)))), .unset]) at_124 rfl (pc' := 126) rfl ?_
            refine RunW.goto at_126 (by decide) (pc' := 175) (by decide) ?_
            refine RunW.aload at_175 rfl rfl (pc' := 177) rfl ?_
            refine RunW.aload at_177 rfl rfl (pc' := 179) rfl ?_
            refine RunW.callS (k' := 8) (n' := 24) (as := [(.ref t11), (.ref t12)]) (rest := []) (con_cu8 l Z a0 hw n0 h12 sz12 t11 b11 t12 b12 ([x0, x1].take na) ([y0, y1].take nb) fm cz od12 SF hfm SD SH8 SL8 SZ hcz E_t11_12 F_t11_value_12 F_t11_coder_12 A_b11_12 X12 FV12 FC12 P12 (own_t2 _ _ _) (own_tk (own_chr2 q_x0.2 q_x1.2)) (own_t2 _ _ _) (own_tk (own_chr2 q_y0.2 q_y1.2)) ) (by rintro _ _ ⟨_, -, -, rfl⟩; exact ⟨[], Keep.refl _ _, all0⟩) at_179 (hw _ (List.mem_of_getElem? (i := 41) rfl)) (hw _ (List.mem_of_getElem? (i := 42) rfl)) (hw _ (List.mem_of_getElem? (i := 43) rfl)) (hw _ (List.mem_of_getElem? (i := 44) rfl)) (by decide) pd__Ljava_lang_String_Ljava_lang_String__I rfl rfl rfl (by decide) (by show (0 : Nat) + (6 + 11) + 66 ≤ _; decide) (by decide) (by decide) (by decide) (by decide) (pc' := 182) rfl ?_
            rintro _ _ ⟨_, rfl, rfl, rfl⟩ -
            show RunW l Z own_EL n0 x.cls code maxLocals ret x.name room_1 _ 182 #[.val (.int p1), .val (.int p2), .val (.int p3), .val (.int (Int32.ofNat na)), .val (.int (Int32.ofNat nb)), .val (.int x0), .val (.int x1), .val (.int y0), .val (.int y1), .val (.ref t11), .val (.ref t12), .val (.int (own_sgn ((own_key x0) - (own_key y0)))), .unset] [(.int (own_cmp ([x0, x1].take na) ([y0, y1].take nb) (min ([x0, x1].take na).length ([y0, y1].take nb).length) 0))] h12 vm12 8 24
            refine RunW.callS (k' := 8) (n' := 24) (as := [(.int (own_cmp ([x0, x1].take na) ([y0, y1].take nb) (min ([x0, x1].take na).length ([y0, y1].take nb).length) 0))]) (rest := []) (con_own_sgn l Z a0 hw n0 h12 sz12 (own_cmp ([x0, x1].take na) ([y0, y1].take nb) (min ([x0, x1].take na).length ([y0, y1].take nb).length) 0) ) (by rintro _ _ ⟨_, -, -, rfl⟩; exact ⟨[], Keep.refl _ _, all0⟩) at_182 (hw _ (List.mem_of_getElem? (i := 38) rfl)) (hw _ (List.mem_of_getElem? (i := 39) rfl)) (hw _ (List.mem_of_getElem? (i := 3) rfl)) (hw _ (List.mem_of_getElem? (i := 40) rfl)) (by decide) pd__I_I rfl rfl rfl (by decide) (by show (0 : Nat) + (1 + 11) + 0 ≤ _; decide) (by decide) (by decide) (by decide) (by decide) (pc' := 185) rfl ?_
            rintro _ _ ⟨_, rfl, rfl, rfl⟩ -
            show RunW l Z own_EL n0 x.cls code maxLocals ret x.name room_1 _ 185 #[.val (.int p1), .val (.int p2), .val (.int p3), .val (.int (Int32.ofNat na)), .val (.int (Int32.ofNat nb)), .val (.int x0), .val (.int x1), .val (.int y0), .val (.int y1), .val (.ref t11), .val (.ref t12), .val (.int (own_sgn ((own_key x0) - (own_key y0)))), .unset] [(.int (own_sgn (own_cmp ([x0, x1].take na) ([y0, y1].take nb) (min ([x0, x1].take na).length ([y0, y1].take nb).length) 0)))] h12 vm12 8 24
            refine RunW.istore (l' := #[.val (.int p1), .val (.int p2), .val (.int p3), .val (.int (Int32.ofNat na)), .val (.int (Int32.ofNat nb)), .val (.int x0), .val (.int x1), .val (.int y0), .val (.int y1), .val (.ref t11), .val (.ref t12), .val (.int (own_sgn ((own_key x0) - (own_key y0)))), .val (.int (own_sgn (own_cmp ([x0, x1].take na) ([y0, y1].take nb) (min ([x0, x1].take na).length ([y0, y1].take nb).length) 0)))]) at_185 rfl (pc' := 187) rfl ?_
            refine RunW.iload at_187 rfl (pc' := 189) rfl ?_
            refine RunW.iload at_189 rfl (pc' := 191) rfl ?_
            refine RunW.icmp_ne at_191 (by decide) (pc' := 198) (by decide) (pa := 194) rfl (fun hc191 => ?_) (fun hc191 => ?_)
            · -- pc 191 taken: ¬ (own_sgn (own_cmp ([x0, x1].take na) ([y0, y1].take nb) (min ([x0, x1].take na).length ([y0, y1].take nb).length) 0)) = (own_sgn ((own_key x0) - (own_key y0)))
              exact absurd (own_L1 h_na h_nb (own_gt0 hc95 (by omega)) (own_gt0 hc100 (by omega)) q_x0.2 q_y0.2 hc107) hc191
            · -- pc 191 not taken: (own_sgn (own_cmp ([x0, x1].take na) ([y0, y1].take nb) (min ([x0, x1].take na).length ([y0, y1].take nb).length) 0)) = (own_sgn ((own_key x0) - (own_key y0)))
              refine RunW.iconst (1 : Int32) at_194 (by decide) (pc' := 195) rfl ?_
              refine RunW.goto at_195 (by decide) (pc' := 199) (by decide) ?_
              exact RunW.nreturn at_199 (ty := .boolean) rfl (by simp) (by decide) (by decide) ⟨_, rfl, rfl⟩
    · -- pc 66 not taken: ¬ ((XT.ushr p3 (5 : Int32)) &&& (1 : Int32)) = (0 : Int32)
      refine RunW.iload at_69 rfl (pc' := 71) rfl ?_
      refine RunW.istore (l' := #[.val (.int p1), .val (.int p2), .val (.int p3), .val (.int (Int32.ofNat na)), .val (.int (Int32.ofNat nb)), .val (.int x0), .val (.int x1), .val (.int y0), .val (.int x1), .unset, .unset, .unset, .unset]) at_71 rfl (pc' := 73) rfl ?_
      refine RunW.iloadN at_73 rfl (pc' := 74) rfl ?_
      refine RunW.iload at_74 rfl (pc' := 76) rfl ?_
      refine RunW.iload at_76 rfl (pc' := 78) rfl ?_
      refine RunW.callSW (k' := 4) (n' := 12) (as := [(.int (Int32.ofNat na)), (.int x0), (.int x1)]) (rest := []) (con_str l Z a0 hw n0 h0 Z0 na h_na x0 x1 cz od0 SD SH8 SL8 SZ hcz q_x0 q_x1) all0 (own_EW hw) at_78 (hw _ (List.mem_of_getElem? (i := 1) rfl)) (hw _ (List.mem_of_getElem? (i := 2) rfl)) (hw _ (List.mem_of_getElem? (i := 3) rfl)) (hw _ (List.mem_of_getElem? (i := 4) rfl)) (by decide) pd__ICC_Ljava_lang_String_ rfl rfl rfl (by decide) (by show (0 : Nat) + (3 + 11) + 88 ≤ _; decide) (by decide) (by decide) (by decide) (by decide) (pc' := 81) rfl ?_
      rintro _ h13 vm13 ⟨_, rfl, ⟨t13, b13, rfl, E13, X13, FV13, FC13, P13⟩⟩ c13
      show RunW l Z own_EL n0 x.cls code maxLocals ret x.name room_1 _ 81 #[.val (.int p1), .val (.int p2), .val (.int p3), .val (.int (Int32.ofNat na)), .val (.int (Int32.ofNat nb)), .val (.int x0), .val (.int x1), .val (.int y0), .val (.int x1), .unset, .unset, .unset, .unset] [(.ref t13)] h13 vm13 4 12
      have sz13 : n0 ≤ h13.size := Nat.le_trans Z0 E13.1
      have kp13 := Keep.ext (Keep.refl h0 []) E13
      have od13 := od0.ext E13
      refine RunW.astore (l' := #[.val (.int p1), .val (.int p2), .val (.int p3), .val (.int (Int32.ofNat na)), .val (.int (Int32.ofNat nb)), .val (.int x0), .val (.int x1), .val (.int y0), .val (.int x1), .val (.ref t13), .unset, .unset, .unset]) at_81 rfl rfl (pc' := 83) rfl ?_
      refine RunW.iload at_83 rfl (pc' := 85) rfl ?_
      refine RunW.iload at_85 rfl (pc' := 87) rfl ?_
      refine RunW.iload at_87 rfl (pc' := 89) rfl ?_
      refine RunW.callSW (k' := 8) (n' := 24) (as := [(.int (Int32.ofNat nb)), (.int y0), (.int x1)]) (rest := []) (con_str l Z a0 hw n0 h13 sz13 nb h_nb y0 x1 cz od13 SD SH8 SL8 SZ hcz q_y0 q_x1) all0 (own_EW hw) at_89 (hw _ (List.mem_of_getElem? (i := 1) rfl)) (hw _ (List.mem_of_getElem? (i := 2) rfl)) (hw _ (List.mem_of_getElem? (i := 3) rfl)) (hw _ (List.mem_of_getElem? (i := 4) rfl)) (by decide) pd__ICC_Ljava_lang_String_ rfl rfl rfl (by decide) (by show (0 : Nat) + (3 + 11) + 88 ≤ _; decide) (by decide) (by decide) (by decide) (by decide) (pc' := 92) rfl ?_
      rintro _ h14 vm14 ⟨_, rfl, ⟨t14, b14, rfl, E14, X14, FV14, FC14, P14⟩⟩ c14
      show RunW l Z own_EL n0 x.cls code maxLocals ret x.name room_1 _ 92 #[.val (.int p1), .val (.int p2), .val (.int p3), .val (.int (Int32.ofNat na)), .val (.int (Int32.ofNat nb)), .val (.int x0), .val (.int x1), .val (.int y0), .val (.int x1), .val (.ref t13), .unset, .unset, .unset] [(.ref t14)] h14 vm14 8 24
      have E_t13_14 := X13.ext E14
      have F_t13_value_14 := FV13.ext E14
      have F_t13_coder_14 := FC13.ext E14
      have A_b13_14 := P13.ext E14
      have sz14 : n0 ≤ h14.size := Nat.le_trans sz13 E14.1
      have kp14 := Keep.ext kp13 E14
      have od14 := od13.ext E14
      refine RunW.astore (l' := #[.val (.int p1), .val (.int p2), .val (.int p3), .val (.int (Int32.ofNat na)), .val (.int (Int32.ofNat nb)), .val (.int x0), .val (.int x1), .val (.int y0), .val (.int x1), .val (.ref t13), .val (.ref t14), .unset, .unset]) at_92 rfl rfl (pc' := 94) rfl ?_
      refine RunW.iloadN at_94 rfl (pc' := 95) rfl ?_
      refine RunW.if_le at_95 (by decide) (pc' := 129) (by decide) (pa := 98) rfl (fun hc95 => ?_) (fun hc95 => ?_)
      · -- pc 95 taken: ¬ (0 : Int32) < (Int32.ofNat na)
        refine RunW.iloadN at_129 rfl (pc' := 130) rfl ?_
        refine RunW.iconst (1 : Int32) at_130 (by decide) (pc' := 131) rfl ?_
        refine RunW.icmp_le at_131 (by decide) (pc' := 166) (by decide) (pa := 134) rfl (fun hc131 => ?_) (fun hc131 => ?_)
        · -- pc 131 taken: ¬ (1 : Int32) < (Int32.ofNat na)
          refine RunW.iloadN at_166 rfl (pc' := 167) rfl ?_
          refine RunW.iload at_167 rfl (pc' := 169) rfl ?_
          refine RunW.isub at_169 (pc' := 170) rfl ?_
          refine RunW.callS (k' := 8) (n' := 24) (as := [(.int ((Int32.ofNat na) - (Int32.ofNat nb)))]) (rest := []) (con_own_sgn l Z a0 hw n0 h14 sz14 ((Int32.ofNat na) - (Int32.ofNat nb)) ) (by rintro _ _ ⟨_, -, -, rfl⟩; exact ⟨[], Keep.refl _ _, all0⟩) at_170 (hw _ (List.mem_of_getElem? (i := 38) rfl)) (hw _ (List.mem_of_getElem? (i := 39) rfl)) (hw _ (List.mem_of_getElem? (i := 3) rfl)) (hw _ (List.mem_of_getElem? (i := 40) rfl)) (by decide) pd__I_I rfl rfl rfl (by decide) (by show (0 : Nat) + (1 + 11) + 0 ≤ _; decide) (by decide) (by decide) (by decide) (by decide) (pc' := 173) rfl ?_
          rintro _ _ ⟨_, rfl, rfl, rfl⟩ -
          show RunW l Z own_EL n0 x.cls code maxLocals ret x.name room_1 _ 173 #[.val (.int p1), .val (.int p2), .val (.int p3), .val (.int (Int32.ofNat na)), .val (.int (Int32.ofNat nb)), .val (.int x0), .val (.int x1), .val (.int y0), .val (.int x1), .val (.ref t13), .val (.ref t14), .unset, .unset] [(.int (own_sgn ((Int32.ofNat na) - (Int32.ofNat nb))))] h14 vm14 8 24
          refine RunW.istore (l' := #[.val (.int p1), .val (.int p2), .val (.int p3), .val (.int (Int32.ofNat na)), .val (.int (Int32.ofNat nb)), .val (.int x0), .val (.int x1), .val (.int y0), .val (.int x1), .val (.ref t13), .val (.ref t14), .val (.int (own_sgn ((Int32.ofNat na) - (Int32.ofNat nb)))), .unset]) at_173 rfl (pc' := 175) rfl ?_
          refine RunW.aload at_175 rfl rfl (pc' := 177) rfl ?_
          refine RunW.aload at_177 rfl rfl (pc' := 179) rfl ?_
          refine RunW.callS (k' := 8) (n' := 24) (as := [(.ref t13), (.ref t14)]) (rest := []) (con_cu8 l Z a0 hw n0 h14 sz14 t13 b13 t14 b14 ([x0, x1].take na) ([y0, x1].take nb) fm cz od14 SF hfm SD SH8 SL8 SZ hcz E_t13_14 F_t13_value_14 F_t13_coder_14 A_b13_14 X14 FV14 FC14 P14 (own_t2 _ _ _) (own_tk (own_chr2 q_x0.2 q_x1.2)) (own_t2 _ _ _) (own_tk (own_chr2 q_y0.2 q_x1.2)) ) (by rintro _ _ ⟨_, -, -, rfl⟩; exact ⟨[], Keep.refl _ _, all0⟩) at_179 (hw _ (List.mem_of_getElem? (i := 41) rfl)) (hw _ (List.mem_of_getElem? (i := 42) rfl)) (hw _ (List.mem_of_getElem? (i := 43) rfl)) (hw _ (List.mem_of_getElem? (i := 44) rfl)) (by decide) pd__Ljava_lang_String_Ljava_lang_String__I rfl rfl rfl (by decide) (by show (0 : Nat) + (6 + 11) + 66 ≤ _; decide) (by decide) (by decide) (by decide) (by decide) (pc' := 182) rfl ?_
          rintro _ _ ⟨_, rfl, rfl, rfl⟩ -
          show RunW l Z own_EL n0 x.cls code maxLocals ret x.name room_1 _ 182 #[.val (.int p1), .val (.int p2), .val (.int p3), .val (.int (Int32.ofNat na)), .val (.int (Int32.ofNat nb)), .val (.int x0), .val (.int x1), .val (.int y0), .val (.int x1), .val (.ref t13), .val (.ref t14), .val (.int (own_sgn ((Int32.ofNat na) - (Int32.ofNat nb)))), .unset] [(.int (own_cmp ([x0, x1].take na) ([y0, x1].take nb) (min ([x0, x1].take na).length ([y0, x1].take nb).length) 0))] h14 vm14 8 24
          refine RunW.callS (k' := 8) (n' := 24) (as := [(.int (own_cmp ([x0, x1].take na) ([y0, x1].take nb) (min ([x0, x1].take na).length ([y0, x1].take nb).length) 0))]) (rest := []) (con_own_sgn l Z a0 hw n0 h14 sz14 (own_cmp ([x0, x1].take na) ([y0, x1].take nb) (min ([x0, x1].take na).length ([y0, x1].take nb).length) 0) ) (by rintro _ _ ⟨_, -, -, rfl⟩; exact ⟨[], Keep.refl _ _, all0⟩) at_182 (hw _ (List.mem_of_getElem? (i := 38) rfl)) (hw _ (List.mem_of_getElem? (i := 39) rfl)) (hw _ (List.mem_of_getElem? (i := 3) rfl)) (hw _ (List.mem_of_getElem? (i := 40) rfl)) (by decide) pd__I_I rfl rfl rfl (by decide) (by show (0 : Nat) + (1 + 11) + 0 ≤ _; decide) (by decide) (by decide) (by decide) (by decide) (pc' := 185) rfl ?_
          rintro _ _ ⟨_, rfl, rfl, rfl⟩ -
          show RunW l Z own_EL n0 x.cls code maxLocals ret x.name room_1 _ 185 #[.val (.int p1), .val (.int p2), .val (.int p3), .val (.int (Int32.ofNat na)), .val (.int (Int32.ofNat nb)), .val (.int x0), .val (.int x1), .val (.int y0), .val (.int x1), .val (.ref t13), .val (.ref t14), .val (.int (own_sgn ((Int32.ofNat na) - (Int32.ofNat nb)))), .unset] [(.int (own_sgn (own_cmp ([x0, x1].take na) ([y0, x1].take nb) (min ([x0, x1].take na).length ([y0, x1].take nb).length) 0)))] h14 vm14 8 24
          refine RunW.istore (l' := #[.val (.int p1), .val (.int p2), .val (.int p3), .val (.int (Int32.ofNat na)), .val (.int (Int32.ofNat nb)), .val (.int x0), .val (.int x1), .val (.int y0), .val (.int x1), .val (.ref t13), .val (.ref t14), .val (.int (own_sgn ((Int32.ofNat na) - (Int32.ofNat nb)))), .val (.int (own_sgn (own_cmp ([x0, x1].take na) ([y0, x1].take nb) (min ([x0, x1].take na).length ([y0, x1].take nb).length) 0)))]) at_185 rfl (pc' := 187) rfl ?_
          refine RunW.iload at_187 rfl (pc' := 189) rfl ?_
          refine RunW.iload at_189 rfl (pc' := 191) rfl ?_
          refine RunW.icmp_ne at_191 (by decide) (pc' := 198) (by decide) (pa := 194) rfl (fun hc191 => ?_) (fun hc191 => ?_)
          · -- pc 191 taken: ¬ (own_sgn (own_cmp ([x0, x1].take na) ([y0, x1].take nb) (min ([x0, x1].take na).length ([y0, x1].take nb).length) 0)) = (own_sgn ((Int32.ofNat na) - (Int32.ofNat nb)))
            exact absurd (own_L3 h_na h_nb (Or.inl (own_le0 hc95 (by omega))) (Or.inl (own_le1 hc131 (by omega)))) hc191
          · -- pc 191 not taken: (own_sgn (own_cmp ([x0, x1].take na) ([y0, x1].take nb) (min ([x0, x1].take na).length ([y0, x1].take nb).length) 0)) = (own_sgn ((Int32.ofNat na) - (Int32.ofNat nb)))
            refine RunW.iconst (1 : Int32) at_194 (by decide) (pc' := 195) rfl ?_
            refine RunW.goto at_195 (by decide) (pc' := 199) (by decide) ?_
            exact RunW.nreturn at_199 (ty := .boolean) rfl (by simp) (by decide) (by decide) ⟨_, rfl, rfl⟩
        · -- pc 131 not taken: (1 : Int32) < (Int32.ofNat na)
          refine RunW.iload at_134 rfl (pc' := 136) rfl ?_
          refine RunW.iconst (1 : Int32) at_136 (by decide) (pc' := 137) rfl ?_
          refine RunW.icmp_le at_137 (by decide) (pc' := 166) (by decide) (pa := 140) rfl (fun hc137 => ?_) (fun hc137 => ?_)
          · -- pc 137 taken: ¬ (1 : Int32) < (Int32.ofNat nb)
            refine RunW.iloadN at_166 rfl (pc' := 167) rfl ?_
            refine RunW.iload at_167 rfl (pc' := 169) rfl ?_
            refine RunW.isub at_169 (pc' := 170) rfl ?_
            refine RunW.callS (k' := 8) (n' := 24) (as := [(.int ((Int32.ofNat na) - (Int32.ofNat nb)))]) (rest := []) (con_own_sgn l Z a0 hw n0 h14 sz14 ((Int32.ofNat na) - (Int32.ofNat nb)) ) (by rintro _ _ ⟨_, -, -, rfl⟩; exact ⟨[], Keep.refl _ _, all0⟩) at_170 (hw _ (List.mem_of_getElem? (i := 38) rfl)) (hw _ (List.mem_of_getElem? (i := 39) rfl)) (hw _ (List.mem_of_getElem? (i := 3) rfl)) (hw _ (List.mem_of_getElem? (i := 40) rfl)) (by decide) pd__I_I rfl rfl rfl (by decide) (by show (0 : Nat) + (1 + 11) + 0 ≤ _; decide) (by decide) (by decide) (by decide) (by decide) (pc' := 173) rfl ?_
            rintro _ _ ⟨_, rfl, rfl, rfl⟩ -
            show RunW l Z own_EL n0 x.cls code maxLocals ret x.name room_1 _ 173 #[.val (.int p1), .val (.int p2), .val (.int p3), .val (.int (Int32.ofNat na)), .val (.int (Int32.ofNat nb)), .val (.int x0), .val (.int x1), .val (.int y0), .val (.int x1), .val (.ref t13), .val (.ref t14), .unset, .unset] [(.int (own_sgn ((Int32.ofNat na) - (Int32.ofNat nb))))] h14 vm14 8 24
            refine RunW.istore (l' := #[.val (.int p1), .val (.int p2), .val (.int p3), .val (.int (Int32.ofNat na)), .val (.int (Int32.ofNat nb)), .val (.int x0), .val (.int x1), .val (.int y0), .val (.int x1), .val (.ref t13), .val (.ref t14), .val (.int (own_sgn ((Int32.ofNat na) - (Int32.ofNat nb)))), .unset]) at_173 rfl (pc' := 175) rfl ?_
            refine RunW.aload at_175 rfl rfl (pc' := 177) rfl ?_
            refine RunW.aload at_177 rfl rfl (pc' := 179) rfl ?_
            refine RunW.callS (k' := 8) (n' := 24) (as := [(.ref t13), (.ref t14)]) (rest := []) (con_cu8 l Z a0 hw n0 h14 sz14 t13 b13 t14 b14 ([x0, x1].take na) ([y0, x1].take nb) fm cz od14 SF hfm SD SH8 SL8 SZ hcz E_t13_14 F_t13_value_14 F_t13_coder_14 A_b13_14 X14 FV14 FC14 P14 (own_t2 _ _ _) (own_tk (own_chr2 q_x0.2 q_x1.2)) (own_t2 _ _ _) (own_tk (own_chr2 q_y0.2 q_x1.2)) ) (by rintro _ _ ⟨_, -, -, rfl⟩; exact ⟨[], Keep.refl _ _, all0⟩) at_179 (hw _ (List.mem_of_getElem? (i := 41) rfl)) (hw _ (List.mem_of_getElem? (i := 42) rfl)) (hw _ (List.mem_of_getElem? (i := 43) rfl)) (hw _ (List.mem_of_getElem? (i := 44) rfl)) (by decide) pd__Ljava_lang_String_Ljava_lang_String__I rfl rfl rfl (by decide) (by show (0 : Nat) + (6 + 11) + 66 ≤ _; decide) (by decide) (by decide) (by decide) (by decide) (pc' := 182) rfl ?_
            rintro _ _ ⟨_, rfl, rfl, rfl⟩ -
            show RunW l Z own_EL n0 x.cls code maxLocals ret x.name room_1 _ 182 #[.val (.int p1), .val (.int p2), .val (.int p3), .val (.int (Int32.ofNat na)), .val (.int (Int32.ofNat nb)), .val (.int x0), .val (.int x1), .val (.int y0), .val (.int x1), .val (.ref t13), .val (.ref t14), .val (.int (own_sgn ((Int32.ofNat na) - (Int32.ofNat nb)))), .unset] [(.int (own_cmp ([x0, x1].take na) ([y0, x1].take nb) (min ([x0, x1].take na).length ([y0, x1].take nb).length) 0))] h14 vm14 8 24
            refine RunW.callS (k' := 8) (n' := 24) (as := [(.int (own_cmp ([x0, x1].take na) ([y0, x1].take nb) (min ([x0, x1].take na).length ([y0, x1].take nb).length) 0))]) (rest := []) (con_own_sgn l Z a0 hw n0 h14 sz14 (own_cmp ([x0, x1].take na) ([y0, x1].take nb) (min ([x0, x1].take na).length ([y0, x1].take nb).length) 0) ) (by rintro _ _ ⟨_, -, -, rfl⟩; exact ⟨[], Keep.refl _ _, all0⟩) at_182 (hw _ (List.mem_of_getElem? (i := 38) rfl)) (hw _ (List.mem_of_getElem? (i := 39) rfl)) (hw _ (List.mem_of_getElem? (i := 3) rfl)) (hw _ (List.mem_of_getElem? (i := 40) rfl)) (by decide) pd__I_I rfl rfl rfl (by decide) (by show (0 : Nat) + (1 + 11) + 0 ≤ _; decide) (by decide) (by decide) (by decide) (by decide) (pc' := 185) rfl ?_
            rintro _ _ ⟨_, rfl, rfl, rfl⟩ -
            show RunW l Z own_EL n0 x.cls code maxLocals ret x.name room_1 _ 185 #[.val (.int p1), .val (.int p2), .val (.int p3), .val (.int (Int32.ofNat na)), .val (.int (Int32.ofNat nb)), .val (.int x0), .val (.int x1), .val (.int y0), .val (.int x1), .val (.ref t13), .val (.ref t14), .val (.int (own_sgn ((Int32.ofNat na) - (Int32.ofNat nb)))), .unset] [(.int (own_sgn (own_cmp ([x0, x1].take na) ([y0, x1].take nb) (min ([x0, x1].take na).length ([y0, x1].take nb).length) 0)))] h14 vm14 8 24
            refine RunW.istore (l' := #[.val (.int p1), .val (.int p2), .val (.int p3), .val (.int (Int32.ofNat na)), .val (.int (Int32.ofNat nb)), .val (.int x0), .val (.int x1), .val (.int y0), .val (.int x1), .val (.ref t13), .val (.ref t14), .val (.int (own_sgn ((Int32.ofNat na) - (Int32.ofNat nb)))), .val (.int (own_sgn (own_cmp ([x0, x1].take na) ([y0, x1].take nb) (min ([x0, x1].take na).length ([y0, x1].take nb).length) 0)))]) at_185 rfl (pc' := 187) rfl ?_
            refine RunW.iload at_187 rfl (pc' := 189) rfl ?_
            refine RunW.iload at_189 rfl (pc' := 191) rfl ?_
            refine RunW.icmp_ne at_191 (by decide) (pc' := 198) (by decide) (pa := 194) rfl (fun hc191 => ?_) (fun hc191 => ?_)
            · -- pc 191 taken: ¬ (own_sgn (own_cmp ([x0, x1].take na) ([y0, x1].take nb) (min ([x0, x1].take na).length ([y0, x1].take nb).length) 0)) = (own_sgn ((Int32.ofNat na) - (Int32.ofNat nb)))
              exact absurd (own_L3 h_na h_nb (Or.inl (own_le0 hc95 (by omega))) (Or.inr (Or.inl (own_le1 hc137 (by omega))))) hc191
            · -- pc 191 not taken: (own_sgn (own_cmp ([x0, x1].take na) ([y0, x1].take nb) (min ([x0, x1].take na).length ([y0, x1].take nb).length) 0)) = (own_sgn ((Int32.ofNat na) - (Int32.ofNat nb)))
              refine RunW.iconst (1 : Int32) at_194 (by decide) (pc' := 195) rfl ?_
              refine RunW.goto at_195 (by decide) (pc' := 199) (by decide) ?_
              exact RunW.nreturn at_199 (ty := .boolean) rfl (by simp) (by decide) (by decide) ⟨_, rfl, rfl⟩
          · -- pc 137 not taken: (1 : Int32) < (Int32.ofNat nb)
            refine RunW.iload at_140 rfl (pc' := 142) rfl ?_
            refine RunW.iload at_142 rfl (pc' := 144) rfl ?_
            refine RunW.icmp_eq at_144 (by decide) (pc' := 166) (by decide) (pa := 147) rfl (fun hc144 => ?_) (fun hc144 => ?_)
            · -- pc 144 taken: x1 = x1
              refine RunW.iloadN at_166 rfl (pc' := 167) rfl ?_
              refine RunW.iload at_167 rfl (pc' := 169) rfl ?_
              refine RunW.isub at_169 (pc' := 170) rfl ?_
              refine RunW.callS (k' := 8) (n' := 24) (as := [(.int ((Int32.ofNat na) - (Int32.ofNat nb)))]) (rest := []) (con_own_sgn l Z a0 hw n0 h14 sz14 ((Int32.ofNat na) - (Int32.ofNat nb)) ) (by rintro _ _ ⟨_, -, -, rfl⟩; exact ⟨[], Keep.refl _ _, all0⟩) at_170 (hw _ (List.mem_of_getElem? (i := 38) rfl)) (hw _ (List.mem_of_getElem? (i := 39) rfl)) (hw _ (List.mem_of_getElem? (i := 3) rfl)) (hw _ (List.mem_of_getElem? (i := 40) rfl)) (by decide) pd__I_I rfl rfl rfl (by decide) (by show (0 : Nat) + (1 + 11) + 0 ≤ _; decide) (by decide) (by decide) (by decide) (by decide) (pc' := 173) rfl ?_
              rintro _ _ ⟨_, rfl, rfl, rfl⟩ -
              show RunW l Z own_EL n0 x.cls code maxLocals ret x.name room_1 _ 173 #[.val (.int p1), .val (.int p2), .val (.int p3), .val (.int (Int32.ofNat na)), .val (.int (Int32.ofNat nb)), .val (.int x0), .val (.int x1), .val (.int y0), .val (.int x1), .val (.ref t13), .val (.ref t14), .unset, .unset] [(.int (own_sgn ((Int32.ofNat na) - (Int32.ofNat nb))))] h14 vm14 8 24
              refine RunW.istore (l' := #[.val (.int p1), .val (.int p2), .val (.int p3), .val (.int (Int32.ofNat na)), .val (.int (Int32.ofNat nb)), .val (.int x0), .val (.int x1), .val (.int y0), .val (.int x1), .val (.ref t13), .val (.ref t14), .val (.int (own_sgn ((Int32.ofNat na) - (Int32.ofNat nb)))), .unset]) at_173 rfl (pc' := 175) rfl ?_
              refine RunW.aload at_175 rfl rfl (pc' := 177) rfl ?_
              refine RunW.aload at_177 rfl rfl (pc' := 179) rfl ?_
              refine RunW.callS (k' := 8) (n' := 24) (as := [(.ref t13), (.ref t14)]) (rest := []) (con_cu8 l Z a0 hw n0 h14 sz14 t13 b13 t14 b14 ([x0, x1].take na) ([y0, x1].take nb) fm cz od14 SF hfm SD SH8 SL8 SZ hcz E_t13_14 F_t13_value_14 F_t13_coder_14 A_b13_14 X14 FV14 FC14 P14 (own_t2 _ _ _) (own_tk (own_chr2 q_x0.2 q_x1.2)) (own_t2 _ _ _) (own_tk (own_chr2 q_y0.2 q_x1.2)) ) (by rintro _ _ ⟨_, -, -, rfl⟩; exact ⟨[], Keep.refl _ _, all0⟩) at_179 (hw _ (List.mem_of_getElem? (i := 41) rfl)) (hw _ (List.mem_of_getElem? (i := 42) rfl)) (hw _ (List.mem_of_getElem? (i := 43) rfl)) (hw _ (List.mem_of_getElem? (i := 44) rfl)) (by decide) pd__Ljava_lang_String_Ljava_lang_String__I rfl rfl rfl (by decide) (by show (0 : Nat) + (6 + 11) + 66 ≤ _; decide) (by decide) (by decide) (by decide) (by decide) (pc' := 182) rfl ?_
              rintro _ _ ⟨_, rfl, rfl, rfl⟩ -
              show RunW l Z own_EL n0 x.cls code maxLocals ret x.name room_1 _ 182 #[.val (.int p1), .val (.int p2), .val (.int p3), .val (.int (Int32.ofNat na)), .val (.int (Int32.ofNat nb)), .val (.int x0), .val (.int x1), .val (.int y0), .val (.int x1), .val (.ref t13), .val (.ref t14), .val (.int (own_sgn ((Int32.ofNat na) - (Int32.ofNat nb)))), .unset] [(.int (own_cmp ([x0, x1].take na) ([y0, x1].take nb) (min ([x0, x1].take na).length ([y0, x1].take nb).length) 0))] h14 vm14 8 24
              refine RunW.callS (k' := 8) (n' := 24) (as := [(.int (own_cmp ([x0, x1].take na) ([y0, x1].take nb) (min ([x0, x1].take na).length ([y0, x1].take nb).length) 0))]) (rest := []) (con_own_sgn l Z a0 hw n0 h14 sz14 (own_cmp ([x0, x1].take na) ([y0, x1].take nb) (min ([x0, x1].take na).length ([y0, x1].take nb).length) 0) ) (by rintro _ _ ⟨_, -, -, rfl⟩; exact ⟨[], Keep.refl _ _, all0⟩) at_182 (hw _ (List.mem_of_getElem? (i := 38) rfl)) (hw _ (List.mem_of_getElem? (i := 39) rfl)) (hw _ (List.mem_of_getElem? (i := 3) rfl)) (hw _ (List.mem_of_getElem? (i := 40) rfl)) (by decide) pd__I_I rfl rfl rfl (by decide) (by show (0 : Nat) + (1 + 11) + 0 ≤ _; decide) (by decide) (by decide) (by decide) (by decide) (pc' := 185) rfl ?_
              rintro _ _ ⟨_, rfl, rfl, rfl⟩ -
              show RunW l Z own_EL n0 x.cls code maxLocals ret x.name room_1 _ 185 #[.val (.int p1), .val (.int p2), .val (.int p3), .val (.int (Int32.ofNat na)), .val (.int (Int32.ofNat nb)), .val (.int x0), .val (.int x1), .val (.int y0), .val (.int x1), .val (.ref t13), .val (.ref t14), .val (.int (own_sgn ((Int32.ofNat na) - (Int32.ofNat nb)))), .unset] [(.int (own_sgn (own_cmp ([x0, x1].take na) ([y0, x1].take nb) (min ([x0, x1].take na).length ([y0, x1].take nb).length) 0)))] h14 vm14 8 24
              refine RunW.istore (l' := #[.val (.int p1), .val (.int p2), .val (.int p3), .val (.int (Int32.ofNat na)), .val (.int (Int32.ofNat nb)), .val (.int x0), .val (.int x1), .val (.int y0), .val (.int x1), .val (.ref t13), .val (.ref t14), .val (.int (own_sgn ((Int32.ofNat na) - (Int32.ofNat nb)))), .val (.int (own_sgn (own_cmp ([x0, x1].take na) ([y0, x1].take nb) (min ([x0, x1].take na).length ([y0, x1].take nb).length) 0)))]) at_185 rfl (pc' := 187) rfl ?_
              refine RunW.iload at_187 rfl (pc' := 189) rfl ?_
              refine RunW.iload at_189 rfl (pc' := 191) rfl ?_
              refine RunW.icmp_ne at_191 (by decide) (pc' := 198) (by decide) (pa := 194) rfl (fun hc191 => ?_) (fun hc191 => ?_)
              · -- pc 191 taken: ¬ (own_sgn (own_cmp ([x0, x1].take na) ([y0, x1].take nb) (min ([x0, x1].take na).length ([y0, x1].take nb).length) 0)) = (own_sgn ((Int32.ofNat na) - (Int32.ofNat nb)))
                exact absurd (own_L3 h_na h_nb (Or.inl (own_le0 hc95 (by omega))) (Or.inr (Or.inr hc144))) hc191
              · -- pc 191 not taken: (own_sgn (own_cmp ([x0, x1].take na) ([y0, x1].take nb) (min ([x0, x1].take na).length ([y0, x1].take nb).length) 0)) = (own_sgn ((Int32.ofNat na) - (Int32.ofNat nb)))
                refine RunW.iconst (1 : Int32) at_194 (by decide) (pc' := 195) rfl ?_
                refine RunW.goto at_195 (by decide) (pc' := 199) (by decide) ?_
                exact RunW.nreturn at_199 (ty := .boolean) rfl (by simp) (by decide) (by decide) ⟨_, rfl, rfl⟩
            · -- pc 144 not taken: ¬ x1 = x1
              refine RunW.iload at_147 rfl (pc' := 149) rfl ?_
              refine RunW.callS (k' := 8) (n' := 24) (as := [(.int x1)]) (rest := []) (con_own_key l Z a0 hw n0 h14 sz14 x1 ) (by rintro _ _ ⟨_, -, -, rfl⟩; exact ⟨[], Keep.refl _ _, all0⟩) at_149 (hw _ (List.mem_of_getElem? (i := 83) rfl)) (hw _ (List.mem_of_getElem? (i := 84) rfl)) (hw _ (List.mem_of_getElem? (i := 3) rfl)) (hw _ (List.mem_of_getElem? (i := 85) rfl)) (by decide) pd__C_I rfl rfl rfl (by decide) (by show (0 : Nat) + (2 + 11) + 0 ≤ _; decide) (by decide) (by decide) (by decide) (by decide) (pc' := 152) rfl ?_
              rintro _ _ ⟨_, rfl, rfl, rfl⟩ -
              show RunW l Z own_EL n0 x.cls code maxLocals ret x.name room_1 _ 152 #[.val (.int p1), .val (.int p2), .val (.int p3), .val (.int (Int32.ofNat na)), .val (.int (Int32.ofNat nb)), .val (.int x0), .val (.int x1), .val (.int y0), .val (.int x1), .val (.ref t13), .val (.ref t14), .unset, .unset] [(.int (own_key x1))] h14 vm14 8 24
              refine RunW.iload at_152 rfl (pc' := 154) rfl ?_
              refine RunW.callS (k' := 8) (n' := 24) (as := [(.int x1)]) (rest := [(.int (own_key x1))]) (con_own_key l Z a0 hw n0 h14 sz14 x1 ) (by rintro _ _ ⟨_, -, -, rfl⟩; exact ⟨[], Keep.refl _ _, all0⟩) at_154 (hw _ (List.mem_of_getElem? (i := 83) rfl)) (hw _ (List.mem_of_getElem? (i := 84) rfl)) (hw _ (List.mem_of_getElem? (i := 3) rfl)) (hw _ (List.mem_of_getElem? (i := 85) rfl)) (by decide) pd__C_I rfl rfl rfl (by decide) (by show (1 : Nat) + (2 + 11) + 0 ≤ _; decide) (by decide) (by decide) (by decide) (by decide) (pc' := 157) rfl ?_
              rintro _ _ ⟨_, rfl, rfl, rfl⟩ -
              show RunW l Z own_EL n0 x.cls code maxLocals ret x.name room_1 _ 157 #[.val (.int p1), .val (.int p2), .val (.int p3), .val (.int (Int32.ofNat na)), .val (.int (Int32.ofNat nb)), .val (.int x0), .val (.int x1), .val (.int y0), .val (.int x1), .val (.ref t13), .val (.ref t14), .unset, .unset] [(.int (own_key x1)), (.int (own_key x1))] h14 vm14 8 24
              refine RunW.isub at_157 (pc' := 158) rfl ?_
              refine RunW.callS (k' := 8) (n' := 24) (as := [(.int ((own_key x1) - (own_key x1)))]) (rest := []) (con_own_sgn l Z a0 hw n0 h14 sz14 ((own_key x1) - (own_key x1)) ) (by rintro _ _ ⟨_, -, -, rfl⟩; exact ⟨[], Keep.refl _ _, all0⟩) at_158 (hw _ (List.mem_of_getElem? (i := 38) rfl)) (hw _ (List.mem_of_getElem? (i := 39) rfl)) (hw _ (List.mem_of_getElem? (i := 3) rfl)) (hw _ (List.mem_of_getElem? (i := 40) rfl)) (by decide) pd__I_I rfl rfl rfl (by decide) (by show (0 : Nat) + (1 + 11) + 0 ≤ _; decide) (by decide) (by decide) (by decide) (by decide) (pc' := 161) rfl ?_
              rintro _ _ ⟨_, rfl, rfl, rfl⟩ -
              show RunW l Z own_EL n0 x.cls code maxLocals ret x.name room_1 _ 161 #[.val (.int p1), .val (.int p2), .val (.int p3), .val (.int (Int32.ofNat na)), .val (.int (Int32.ofNat nb)), .val (.int x0), .val (.int x1), .val (.int y0), .val (.int x1), .val (.ref t13), .val (.ref t14), .unset, .unset] [(.int (own_sgn ((own_key x1) - (own_key x1))))] h14 vm14 8 24
              refine RunW.istore (l' := #[.val (.int p1), .val (.int p2), .val (.int p3), .val (.int (Int32.ofNat na)), .val (.int (Int32.ofNat nb)), .val (.int x0), .val (.int x1), .val (.int y0), .val (.int x1), .val (.ref t13), .val (.ref t14), .val (.int (own_sgn ((own_key x1) - (own_key x1)))), .unset]) at_161 rfl (pc' := 163) rfl ?_
              refine RunW.goto at_163 (by decide) (pc' := 175) (by decide) ?_
              refine RunW.aload at_175 rfl rfl (pc' := 177) rfl ?_
              refine RunW.aload at_177 rfl rfl (pc' := 179) rfl ?_
              refine RunW.callS (k' := 8) (n' := 24) (as := [(.ref t13), (.ref t14)]) (rest := []) (con_cu8 l Z a0 hw n0 h14 sz14 t13 b13 t14 b14 ([x0, x1].take na) ([y0, x1].take nb) fm cz od14 SF hfm SD SH8 SL8 SZ hcz E_t13_14 F_t13_value_14 F_t13_coder_14 A_b13_14 X14 FV14 FC14 P14 (own_t2 _ _ _) (own_tk (own_chr2 q_x0.2 q_x1.2)) (own_t2 _ _ _) (own_tk (own_chr2 q_y0.2 q_x1.2)) ) (by rintro _ _ ⟨_, -, -, rfl⟩; exact ⟨[], Keep.refl _ _, all0⟩) at_179 (hw _ (List.mem_of_getElem? (i := 41) rfl)) (hw _ (List.mem_of_getElem? (i := 42) rfl)) (hw _ (List.mem_of_getElem? (i := 43) rfl)) (hw _ (List.mem_of_getElem? (i := 44) rfl)) (by decide) pd__Ljava_lang_String_Ljava_lang_String__I rfl rfl rfl (by decide) (by show (0 : Nat) + (6 + 11) + 66 ≤ _; decide) (by decide) (by decide) (by decide) (by decide) (pc' := 182) rfl ?_
              rintro _ _ ⟨_, rfl, rfl, rfl⟩ -
              show RunW l Z own_EL n0 x.cls code maxLocals ret x.name room_1 _ 182 #[.val (.int p1), .val (.int p2), .val (.int p3), .val (.int (Int32.ofNat na)), .val (.int (Int32.ofNat nb)), .val (.int x0), .val (.int x1), .val (.int y0), .val (.int x1), .val (.ref t13), .val (.ref t14), .val (.int (own_sgn ((own_key x1) - (own_key x1)))), .unset] [(.int (own_cmp ([x0, x1].take na) ([y0, x1].take nb) (min ([x0, x1].take na).length ([y0, x1].take nb).length) 0))] h14 vm14 8 24
              refine RunW.callS (k' := 8) (n' := 24) (as := [(.int (own_cmp ([x0, x1].take na) ([y0, x1].take nb) (min ([x0, x1].take na).length ([y0, x1].take nb).length) 0))]) (rest := []) (con_own_sgn l Z a0 hw n0 h14 sz14 (own_cmp ([x0, x1].take na) ([y0, x1].take nb) (min ([x0, x1].take na).length ([y0, x1].take nb).length) 0) ) (by rintro _ _ ⟨_, -, -, rfl⟩; exact ⟨[], Keep.refl _ _, all0⟩) at_182 (hw _ (List.mem_of_getElem? (i := 38) rfl)) (hw _ (List.mem_of_getElem? (i := 39) rfl)) (hw _ (List.mem_of_getElem? (i := 3) rfl)) (hw _ (List.mem_of_getElem? (i := 40) rfl)) (by decide) pd__I_I rfl rfl rfl (by decide) (by show (0 : Nat) + (1 + 11) + 0 ≤ _; decide) (by decide) (by decide) (by decide) (by decide) (pc' := 185) rfl ?_
              rintro _ _ ⟨_, rfl, rfl, rfl⟩ -
              show RunW l Z own_EL n0 x.cls code maxLocals ret x.name room_1 _ 185 #[.val (.int p1), .val (.int p2), .val (.int p3), .val (.int (Int32.ofNat na)), .val (.int (Int32.ofNat nb)), .val (.int x0), .val (.int x1), .val (.int y0), .val (.int x1), .val (.ref t13), .val (.ref t14), .val (.int (own_sgn ((own_key x1) - (own_key x1)))), .unset] [(.int (own_sgn (own_cmp ([x0, x1].take na) ([y0, x1].take nb) (min ([x0, x1].take na).length ([y0, x1].take nb).length) 0)))] h14 vm14 8 24
              refine RunW.istore (l' := #[.val (.int p1), .val (.int p2), .val (.int p3), .val (.int (Int32.ofNat na)), .val (.int (Int32.ofNat nb)), .val (.int x0), .val (.int x1), .val (.int y0), .val (.int x1), .val (.ref t13), .val (.ref t14), .val (.int (own_sgn ((own_key x1) - (own_key x1)))), .val (.int (own_sgn (own_cmp ([x0, x1].take na) ([y0, x1].take nb) (min ([x0, x1].take na).length ([y0, x1].take nb).length) 0)))]) at_185 rfl (pc' := 187) rfl ?_
              refine RunW.iload at_187 rfl (pc' := 189) rfl ?_
              refine RunW.iload at_189 rfl (pc' := 191) rfl ?_
              refine RunW.icmp_ne at_191 (by decide) (pc' := 198) (by decide) (pa := 194) rfl (fun hc191 => ?_) (fun hc191 => ?_)
              · -- pc 191 taken: ¬ (own_sgn (own_cmp ([x0, x1].take na) ([y0, x1].take nb) (min ([x0, x1].take na).length ([y0, x1].take nb).length) 0)) = (own_sgn ((own_key x1) - (own_key x1)))
                exact absurd (own_L2 h_na h_nb (Or.inl (own_le0 hc95 (by omega))) (own_gt1 hc131 (by omega)) (own_gt1 hc137 (by omega)) q_x1.2 q_x1.2 hc144) hc191
              · -- pc 191 not taken: (own_sgn (own_cmp ([x0, x1].take na) ([y0, x1].take nb) (min ([x0, x1].take na).length ([y0, x1].take nb).length) 0)) = (own_sgn ((own_key x1) - (own_key x1)))
                refine RunW.iconst (1 : Int32) at_194 (by decide) (pc' := 195) rfl ?_
                refine RunW.goto at_195 (by decide) (pc' := 199) (by decide) ?_
                exact RunW.nreturn at_199 (ty := .boolean) rfl (by simp) (by decide) (by decide) ⟨_, rfl, rfl⟩
      · -- pc 95 not taken: (0 : Int32) < (Int32.ofNat na)
        refine RunW.iload at_98 rfl (pc' := 100) rfl ?_
        refine RunW.if_le at_100 (by decide) (pc' := 129) (by decide) (pa := 103) rfl (fun hc100 => ?_) (fun hc100 => ?_)
        · -- pc 100 taken: ¬ (0 : Int32) < (Int32.ofNat nb)
          refine RunW.iloadN at_129 rfl (pc' := 130) rfl ?_
          refine RunW.iconst (1 : Int32) at_130 (by decide) (pc' := 131) rfl ?_
          refine RunW.icmp_le at_131 (by decide) (pc' := 166) (by decide) (pa := 134) rfl (fun hc131 => ?_) (fun hc131 => ?_)
          · -- pc 131 taken: ¬ (1 : Int32) < (Int32.ofNat na)
            refine RunW.iloadN at_166 rfl (pc' := 167) rfl ?_
            refine RunW.iload at_167 rfl (pc' := 169) rfl ?_
            refine RunW.isub at_169 (pc' := 170) rfl ?_
            refine RunW.callS (k' := 8) (n' := 24) (as := [(.int ((Int32.ofNat na) - (Int32.ofNat nb)))]) (rest := []) (con_own_sgn l Z a0 hw n0 h14 sz14 ((Int32.ofNat na) - (Int32.ofNat nb)) ) (by rintro _ _ ⟨_, -, -, rfl⟩; exact ⟨[], Keep.refl _ _, all0⟩) at_170 (hw _ (List.mem_of_getElem? (i := 38) rfl)) (hw _ (List.mem_of_getElem? (i := 39) rfl)) (hw _ (List.mem_of_getElem? (i := 3) rfl)) (hw _ (List.mem_of_getElem? (i := 40) rfl)) (by decide) pd__I_I rfl rfl rfl (by decide) (by show (0 : Nat) + (1 + 11) + 0 ≤ _; decide) (by decide) (by decide) (by decide) (by decide) (pc' := 173) rfl ?_
            rintro _ _ ⟨_, rfl, rfl, rfl⟩ -
            show RunW l Z own_EL n0 x.cls code maxLocals ret x.name room_1 _ 173 #[.val (.int p1), .val (.int p2), .val (.int p3), .val (.int (Int32.ofNat na)), .val (.int (Int32.ofNat nb)), .val (.int x0), .val (.int x1), .val (.int y0), .val (.int x1), .val (.ref t13), .val (.ref t14), .unset, .unset] [(.int (own_sgn ((Int32.ofNat na) - (Int32.ofNat nb))))] h14 vm14 8 24
            refine RunW.istore (l' := #[.val (.int p1), .val (.int p2), .val (.int p3), .val (.int (Int32.ofNat na)), .val (.int (Int32.ofNat nb)), .val (.int x0), .val (.int x1), .val (.int y0), .val (.int x1), .val (.ref t13), .val (.ref t14), .val (.int (own_sgn ((Int32.ofNat na) - (Int32.ofNat nb)))), .unset]) at_173 rfl (pc' := 175) rfl ?_
            refine RunW.aload at_175 rfl rfl (pc' := 177) rfl ?_
            refine RunW.aload at_177 rfl rfl (pc' := 179) rfl ?_
            refine RunW.callS (k' := 8) (n' := 24) (as := [(.ref t13), (.ref t14)]) (rest := []) (con_cu8 l Z a0 hw n0 h14 sz14 t13 b13 t14 b14 ([x0, x1].take na) ([y0, x1].take nb) fm cz od14 SF hfm SD SH8 SL8 SZ hcz E_t13_14 F_t13_value_14 F_t13_coder_14 A_b13_14 X14 FV14 FC14 P14 (own_t2 _ _ _) (own_tk (own_chr2 q_x0.2 q_x1.2)) (own_t2 _ _ _) (own_tk (own_chr2 q_y0.2 q_x1.2)) ) (by rintro _ _ ⟨_, -, -, rfl⟩; exact ⟨[], Keep.refl _ _, all0⟩) at_179 (hw _ (List.mem_of_getElem? (i := 41) rfl)) (hw _ (List.mem_of_getElem? (i := 42) rfl)) (hw _ (List.mem_of_getElem? (i := 43) rfl)) (hw _ (List.mem_of_getElem? (i := 44) rfl)) (by decide) pd__Ljava_lang_String_Ljava_lang_String__I rfl rfl rfl (by decide) (by show (0 : Nat) + (6 + 11) + 66 ≤ _; decide) (by decide) (by decide) (by decide) (by decide) (pc' := 182) rfl ?_
            rintro _ _ ⟨_, rfl, rfl, rfl⟩ -
            show RunW l Z own_EL n0 x.cls code maxLocals ret x.name room_1 _ 182 #[.val (.int p1), .val (.int p2), .val (.int p3), .val (.int (Int32.ofNat na)), .val (.int (Int32.ofNat nb)), .val (.int x0), .val (.int x1), .val (.int y0), .val (.int x1), .val (.ref t13), .val (.ref t14), .val (.int (own_sgn ((Int32.ofNat na) - (Int32.ofNat nb)))), .unset] [(.int (own_cmp ([x0, x1].take na) ([y0, x1].take nb) (min ([x0, x1].take na).length ([y0, x1].take nb).length) 0))] h14 vm14 8 24
            refine RunW.callS (k' := 8) (n' := 24) (as := [(.int (own_cmp ([x0, x1].take na) ([y0, x1].take nb) (min ([x0, x1].take na).length ([y0, x1].take nb).length) 0))]) (rest := []) (con_own_sgn l Z a0 hw n0 h14 sz14 (own_cmp ([x0, x1].take na) ([y0, x1].take nb) (min ([x0, x1].take na).length ([y0, x1].take nb).length) 0) ) (by rintro _ _ ⟨_, -, -, rfl⟩; exact ⟨[], Keep.refl _ _, all0⟩) at_182 (hw _ (List.mem_of_getElem? (i := 38) rfl)) (hw _ (List.mem_of_getElem? (i := 39) rfl)) (hw _ (List.mem_of_getElem? (i := 3) rfl)) (hw _ (List.mem_of_getElem? (i := 40) rfl)) (by decide) pd__I_I rfl rfl rfl (by decide) (by show (0 : Nat) + (1 + 11) + 0 ≤ _; decide) (by decide) (by decide) (by decide) (by decide) (pc' := 185) rfl ?_
            rintro _ _ ⟨_, rfl, rfl, rfl⟩ -
            show RunW l Z own_EL n0 x.cls code maxLocals ret x.name room_1 _ 185 #[.val (.int p1), .val (.int p2), .val (.int p3), .val (.int (Int32.ofNat na)), .val (.int (Int32.ofNat nb)), .val (.int x0), .val (.int x1), .val (.int y0), .val (.int x1), .val (.ref t13), .val (.ref t14), .val (.int (own_sgn ((Int32.ofNat na) - (Int32.ofNat nb)))), .unset] [(.int (own_sgn (own_cmp ([x0, x1].take na) ([y0, x1].take nb) (min ([x0, x1].take na).length ([y0, x1].take nb).length) 0)))] h14 vm14 8 24
            refine RunW.istore (l' := #[.val (.int p1), .val (.int p2), .val (.int p3), .val (.int (Int32.ofNat na)), .val (.int (Int32.ofNat nb)), .val (.int x0), .val (.int x1), .val (.int y0), .val (.int x1), .val (.ref t13), .val (.ref t14), .val (.int (own_sgn ((Int32.ofNat na) - (Int32.ofNat nb)))), .val (.int (own_sgn (own_cmp ([x0, x1].take na) ([y0, x1].take nb) (min ([x0, x1].take na).length ([y0, x1].take nb).length) 0)))]) at_185 rfl (pc' := 187) rfl ?_
            refine RunW.iload at_187 rfl (pc' := 189) rfl ?_
            refine RunW.iload at_189 rfl (pc' := 191) rfl ?_
            refine RunW.icmp_ne at_191 (by decide) (pc' := 198) (by decide) (pa := 194) rfl (fun hc191 => ?_) (fun hc191 => ?_)
            · -- pc 191 taken: ¬ (own_sgn (own_cmp ([x0, x1].take na) ([y0, x1].take nb) (min ([x0, x1].take na).length ([y0, x1].take nb).length) 0)) = (own_sgn ((Int32.ofNat na) - (Int32.ofNat nb)))
              exact absurd (own_L3 h_na h_nb (Or.inr (Or.inl (own_le0 hc100 (by omega)))) (Or.inl (own_le1 hc131 (by omega)))) hc191
            · -- pc 191 not taken: (own_sgn (own_cmp ([x0, x1].take na) ([y0, x1].take nb) (min ([x0, x1].take na).length ([y0, x1].take nb).length) 0)) = (own_sgn ((Int32.ofNat na) - (Int32.ofNat nb)))
              refine RunW.iconst (1 : Int32) at_194 (by decide) (pc' := 195) rfl ?_
              refine RunW.goto at_195 (by decide) (pc' := 199) (by decide) ?_
              exact RunW.nreturn at_199 (ty := .boolean) rfl (by simp) (by decide) (by decide) ⟨_, rfl, rfl⟩
          · -- pc 131 not taken: (1 : Int32) < (Int32.ofNat na)
            refine RunW.iload at_134 rfl (pc' := 136) rfl ?_
            refine RunW.iconst (1 : Int32) at_136 (by decide) (pc' := 137) rfl ?_
            refine RunW.icmp_le at_137 (by decide) (pc' := 166) (by decide) (pa := 140) rfl (fun hc137 => ?_) (fun hc137 => ?_)
            · -- pc 137 taken: ¬ (1 : Int32) < (Int32.ofNat nb)
              refine RunW.iloadN at_166 rfl (pc' := 167) rfl ?_
              refine RunW.iload at_167 rfl (pc' := 169) rfl ?_
              refine RunW.isub at_169 (pc' := 170) rfl ?_
              refine RunW.callS (k' := 8) (n' := 24) (as := [(.int ((Int32.ofNat na) - (Int32.ofNat nb)))]) (rest := []) (con_own_sgn l Z a0 hw n0 h14 sz14 ((Int32.ofNat na) - (Int32.ofNat nb)) ) (by rintro _ _ ⟨_, -, -, rfl⟩; exact ⟨[], Keep.refl _ _, all0⟩) at_170 (hw _ (List.mem_of_getElem? (i := 38) rfl)) (hw _ (List.mem_of_getElem? (i := 39) rfl)) (hw _ (List.mem_of_getElem? (i := 3) rfl)) (hw _ (List.mem_of_getElem? (i := 40) rfl)) (by decide) pd__I_I rfl rfl rfl (by decide) (by show (0 : Nat) + (1 + 11) + 0 ≤ _; decide) (by decide) (by decide) (by decide) (by decide) (pc' := 173) rfl ?_
              rintro _ _ ⟨_, rfl, rfl, rfl⟩ -
              show RunW l Z own_EL n0 x.cls code maxLocals ret x.name room_1 _ 173 #[.val (.int p1), .val (.int p2), .val (.int p3), .val (.int (Int32.ofNat na)), .val (.int (Int32.ofNat nb)), .val (.int x0), .val (.int x1), .val (.int y0), .val (.int x1), .val (.ref t13), .val (.ref t14), .unset, .unset] [(.int (own_sgn ((Int32.ofNat na) - (Int32.ofNat nb))))] h14 vm14 8 24
              refine RunW.istore (l' := #[.val (.int p1), .val (.int p2), .val (.int p3), .val (.int (Int32.ofNat na)), .val (.int (Int32.ofNat nb)), .val (.int x0), .val (.int x1), .val (.int y0), .val (.int x1), .val (.ref t13), .val (.ref t14), .val (.int (own_sgn ((Int32.ofNat na) - (Int32.ofNat nb)))), .unset]) at_173 rfl (pc' := 175) rfl ?_
              refine RunW.aload at_175 rfl rfl (pc' := 177) rfl ?_
              refine RunW.aload at_177 rfl rfl (pc' := 179) rfl ?_
              refine RunW.callS (k' := 8) (n' := 24) (as := [(.ref t13), (.ref t14)]) (rest := []) (con_cu8 l Z a0 hw n0 h14 sz14 t13 b13 t14 b14 ([x0, x1].take na) ([y0, x1].take nb) fm cz od14 SF hfm SD SH8 SL8 SZ hcz E_t13_14 F_t13_value_14 F_t13_coder_14 A_b13_14 X14 FV14 FC14 P14 (own_t2 _ _ _) (own_tk (own_chr2 q_x0.2 q_x1.2)) (own_t2 _ _ _) (own_tk (own_chr2 q_y0.2 q_x1.2)) ) (by rintro _ _ ⟨_, -, -, rfl⟩; exact ⟨[], Keep.refl _ _, all0⟩) at_179 (hw _ (List.mem_of_getElem? (i := 41) rfl)) (hw _ (List.mem_of_getElem? (i := 42) rfl)) (hw _ (List.mem_of_getElem? (i := 43) rfl)) (hw _ (List.mem_of_getElem? (i := 44) rfl)) (by decide) pd__Ljava_lang_String_Ljava_lang_String__I rfl rfl rfl (by decide) (by show (0 : Nat) + (6 + 11) + 66 ≤ _; decide) (by decide) (by decide) (by decide) (by decide) (pc' := 182) rfl ?_
              rintro _ _ ⟨_, rfl, rfl, rfl⟩ -
              show RunW l Z own_EL n0 x.cls code maxLocals ret x.name room_1 _ 182 #[.val (.int p1), .val (.int p2), .val (.int p3), .val (.int (Int32.ofNat na)), .val (.int (Int32.ofNat nb)), .val (.int x0), .val (.int x1), .val (.int y0), .val (.int x1), .val (.ref t13), .val (.ref t14), .val (.int (own_sgn ((Int32.ofNat na) - (Int32.ofNat nb)))), .unset] [(.int (own_cmp ([x0, x1].take na) ([y0, x1].take nb) (min ([x0, x1].take na).length ([y0, x1].take nb).length) 0))] h14 vm14 8 24
              refine RunW.callS (k' := 8) (n' := 24) (as := [(.int (own_cmp ([x0, x1].take na) ([y0, x1].take nb) (min ([x0, x1].take na).length ([y0, x1].take nb).length) 0))]) (rest := []) (con_own_sgn l Z a0 hw n0 h14 sz14 (own_cmp ([x0, x1].take na) ([y0, x1].take nb) (min ([x0, x1].take na).length ([y0, x1].take nb).length) 0) ) (by rintro _ _ ⟨_, -, -, rfl⟩; exact ⟨[], Keep.refl _ _, all0⟩) at_182 (hw _ (List.mem_of_getElem? (i := 38) rfl)) (hw _ (List.mem_of_getElem? (i := 39) rfl)) (hw _ (List.mem_of_getElem? (i := 3) rfl)) (hw _ (List.mem_of_getElem? (i := 40) rfl)) (by decide) pd__I_I rfl rfl rfl (by decide) (by show (0 : Nat) + (1 + 11) + 0 ≤ _; decide) (by decide) (by decide) (by decide) (by decide) (pc' := 185) rfl ?_
              rintro _ _ ⟨_, rfl, rfl, rfl⟩ -
              show RunW l Z own_EL n0 x.cls code maxLocals ret x.name room_1 _ 185 #[.val (.int p1), .val (.int p2), .val (.int p3), .val (.int (Int32.ofNat na)), .val (.int (Int32.ofNat nb)), .val (.int x0), .val (.int x1), .val (.int y0), .val (.int x1), .val (.ref t13), .val (.ref t14), .val (.int (own_sgn ((Int32.ofNat na) - (Int32.ofNat nb)))), .unset] [(.int (own_sgn (own_cmp ([x0, x1].take na) ([y0, x1].take nb) (min ([x0, x1].take na).length ([y0, x1].take nb).length) 0)))] h14 vm14 8 24
              refine RunW.istore (l' := #[.val (.int p1), .val (.int p2), .val (.int p3), .val (.int (Int32.ofNat na)), .val (.int (Int32.ofNat nb)), .val (.int x0), .val (.int x1), .val (.int y0), .val (.int x1), .val (.ref t13), .val (.ref t14), .val (.int (own_sgn ((Int32.ofNat na) - (Int32.ofNat nb)))), .val (.int (own_sgn (own_cmp ([x0, x1].take na) ([y0, x1].take nb) (min ([x0, x1].take na).length ([y0, x1].take nb).length) 0)))]) at_185 rfl (pc' := 187) rfl ?_
              refine RunW.iload at_187 rfl (pc' := 189) rfl ?_
              refine RunW.iload at_189 rfl (pc' := 191) rfl ?_
              refine RunW.icmp_ne at_191 (by decide) (pc' := 198) (by decide) (pa := 194) rfl (fun hc191 => ?_) (fun hc191 => ?_)
              · -- pc 191 taken: ¬ (own_sgn (own_cmp ([x0, x1].take na) ([y0, x1].take nb) (min ([x0, x1].take na).length ([y0, x1].take nb).length) 0)) = (own_sgn ((Int32.ofNat na) - (Int32.ofNat nb)))
                exact absurd (own_L3 h_na h_nb (Or.inr (Or.inl (own_le0 hc100 (by omega)))) (Or.inr (Or.inl (own_le1 hc137 (by omega))))) hc191
              · -- pc 191 not taken: (own_sgn (own_cmp ([x0, x1].take na) ([y0, x1].take nb) (min ([x0, x1].take na).length ([y0, x1].take nb).length) 0)) = (own_sgn ((Int32.ofNat na) - (Int32.ofNat nb)))
                refine RunW.iconst (1 : Int32) at_194 (by decide) (pc' := 195) rfl ?_
                refine RunW.goto at_195 (by decide) (pc' := 199) (by decide) ?_
                exact RunW.nreturn at_199 (ty := .boolean) rfl (by simp) (by decide) (by decide) ⟨_, rfl, rfl⟩
            · -- pc 137 not taken: (1 : Int32) < (Int32.ofNat nb)
              refine RunW.iload at_140 rfl (pc' := 142) rfl ?_
              refine RunW.iload at_142 rfl (pc' := 144) rfl ?_
              refine RunW.icmp_eq at_144 (by decide) (pc' := 166) (by decide) (pa := 147) rfl (fun hc144 => ?_) (fun hc144 => ?_)
              · -- pc 144 taken: x1 = x1
                refine RunW.iloadN at_166 rfl (pc' := 167) rfl ?_
                refine RunW.iload at_167 rfl (pc' := 169) rfl ?_
                refine RunW.isub at_169 (pc' := 170) rfl ?_
                refine RunW.callS (k' := 8) (n' := 24) (as := [(.int ((Int32.ofNat na) - (Int32.ofNat nb)))]) (rest := []) (con_own_sgn l Z a0 hw n0 h14 sz14 ((Int32.ofNat na) - (Int32.ofNat nb)) ) (by rintro _ _ ⟨_, -, -, rfl⟩; exact ⟨[], Keep.refl _ _, all0⟩) at_170 (hw _ (List.mem_of_getElem? (i := 38) rfl)) (hw _ (List.mem_of_getElem? (i := 39) rfl)) (hw _ (List.mem_of_getElem? (i := 3) rfl)) (hw _ (List.mem_of_getElem? (i := 40) rfl)) (by decide) pd__I_I rfl rfl rfl (by decide) (by show (0 : Nat) + (1 + 11) + 0 ≤ _; decide) (by decide) (by decide) (by decide) (by decide) (pc' := 173) rfl ?_
                rintro _ _ ⟨_, rfl, rfl, rfl⟩ -
                show RunW l Z own_EL n0 x.cls code maxLocals ret x.name room_1 _ 173 #[.val (.int p1), .val (.int p2), .val (.int p3), .val (.int (Int32.ofNat na)), .val (.int (Int32.ofNat nb)), .val (.int x0), .val (.int x1), .val (.int y0), .val (.int x1), .val (.ref t13), .val (.ref t14), .unset, .unset] [(.int (own_sgn ((Int32.ofNat na) - (Int32.ofNat nb))))] h14 vm14 8 24
                refine RunW.istore (l' := #[.val (.int p1), .val (.int p2), .val (.int p3), .val (.int (Int32.ofNat na)), .val (.int (Int32.ofNat nb)), .val (.int x0), .val (.int x1), .val (.int y0), .val (.int x1), .val (.ref t13), .val (.ref t14), .val (.int (own_sgn ((Int32.ofNat na) - (Int32.ofNat nb)))), .unset]) at_173 rfl (pc' := 175) rfl ?_
                refine RunW.aload at_175 rfl rfl (pc' := 177) rfl ?_
                refine RunW.aload at_177 rfl rfl (pc' := 179) rfl ?_
                refine RunW.callS (k' := 8) (n' := 24) (as := [(.ref t13), (.ref t14)]) (rest := []) (con_cu8 l Z a0 hw n0 h14 sz14 t13 b13 t14 b14 ([x0, x1].take na) ([y0, x1].take nb) fm cz od14 SF hfm SD SH8 SL8 SZ hcz E_t13_14 F_t13_value_14 F_t13_coder_14 A_b13_14 X14 FV14 FC14 P14 (own_t2 _ _ _) (own_tk (own_chr2 q_x0.2 q_x1.2)) (own_t2 _ _ _) (own_tk (own_chr2 q_y0.2 q_x1.2)) ) (by rintro _ _ ⟨_, -, -, rfl⟩; exact ⟨[], Keep.refl _ _, all0⟩) at_179 (hw _ (List.mem_of_getElem? (i := 41) rfl)) (hw _ (List.mem_of_getElem? (i := 42) rfl)) (hw _ (List.mem_of_getElem? (i := 43) rfl)) (hw _ (List.mem_of_getElem? (i := 44) rfl)) (by decide) pd__Ljava_lang_String_Ljava_lang_String__I rfl rfl rfl (by decide) (by show (0 : Nat) + (6 + 11) + 66 ≤ _; decide) (by decide) (by decide) (by decide) (by decide) (pc' := 182) rfl ?_
                rintro _ _ ⟨_, rfl, rfl, rfl⟩ -
                show RunW l Z own_EL n0 x.cls code maxLocals ret x.name room_1 _ 182 #[.val (.int p1), .val (.int p2), .val (.int p3), .val (.int (Int32.ofNat na)), .val (.int (Int32.ofNat nb)), .val (.int x0), .val (.int x1), .val (.int y0), .val (.int x1), .val (.ref t13), .val (.ref t14), .val (.int (own_sgn ((Int32.ofNat na) - (Int32.ofNat nb)))), .unset] [(.int (own_cmp ([x0, x1].take na) ([y0, x1].take nb) (min ([x0, x1].take na).length ([y0, x1].take nb).length) 0))] h14 vm14 8 24
                refine RunW.callS (k' := 8) (n' := 24) (as := [(.int (own_cmp ([x0, x1].take na) ([y0, x1].take nb) (min ([x0, x1].take na).length ([y0, x1].take nb).length) 0))]) (rest := []) (con_own_sgn l Z a0 hw n0 h14 sz14 (own_cmp ([x0, x1].take na) ([y0, x1].take nb) (min ([x0, x1].take na).length ([y0, x1].take nb).length) 0) ) (by rintro _ _ ⟨_, -, -, rfl⟩; exact ⟨[], Keep.refl _ _, all0⟩) at_182 (hw _ (List.mem_of_getElem? (i := 38) rfl)) (hw _ (List.mem_of_getElem? (i := 39) rfl)) (hw _ (List.mem_of_getElem? (i := 3) rfl)) (hw _ (List.mem_of_getElem? (i := 40) rfl)) (by decide) pd__I_I rfl rfl rfl (by decide) (by show (0 : Nat) + (1 + 11) + 0 ≤ _; decide) (by decide) (by decide) (by decide) (by decide) (pc' := 185) rfl ?_
                rintro _ _ ⟨_, rfl, rfl, rfl⟩ -
                show RunW l Z own_EL n0 x.cls code maxLocals ret x.name room_1 _ 185 #[.val (.int p1), .val (.int p2), .val (.int p3), .val (.int (Int32.ofNat na)), .val (.int (Int32.ofNat nb)), .val (.int x0), .val (.int x1), .val (.int y0), .val (.int x1), .val (.ref t13), .val (.ref t14), .val (.int (own_sgn ((Int32.ofNat na) - (Int32.ofNat nb)))), .unset] [(.int (own_sgn (own_cmp ([x0, x1].take na) ([y0, x1].take nb) (min ([x0, x1].take na).length ([y0, x1].take nb).length) 0)))] h14 vm14 8 24
                refine RunW.istore (l' := #[.val (.int p1), .val (.int p2), .val (.int p3), .val (.int (Int32.ofNat na)), .val (.int (Int32.ofNat nb)), .val (.int x0), .val (.int x1), .val (.int y0), .val (.int x1), .val (.ref t13), .val (.ref t14), .val (.int (own_sgn ((Int32.ofNat na) - (Int32.ofNat nb)))), .val (.int (own_sgn (own_cmp ([x0, x1].take na) ([y0, x1].take nb) (min ([x0, x1].take na).length ([y0, x1].take nb).length) 0)))]) at_185 rfl (pc' := 187) rfl ?_
                refine RunW.iload at_187 rfl (pc' := 189) rfl ?_
                refine RunW.iload at_189 rfl (pc' := 191) rfl ?_
                refine RunW.icmp_ne at_191 (by decide) (pc' := 198) (by decide) (pa := 194) rfl (fun hc191 => ?_) (fun hc191 => ?_)
                · -- pc 191 taken: ¬ (own_sgn (own_cmp ([x0, x1].take na) ([y0, x1].take nb) (min ([x0, x1].take na).length ([y0, x1].take nb).length) 0)) = (own_sgn ((Int32.ofNat na) - (Int32.ofNat nb)))
                  exact absurd (own_L3 h_na h_nb (Or.inr (Or.inl (own_le0 hc100 (by omega)))) (Or.inr (Or.inr hc144))) hc191
                · -- pc 191 not taken: (own_sgn (own_cmp ([x0, x1].take na) ([y0, x1].take nb) (min ([x0, x1].take na).length ([y0, x1].take nb).length) 0)) = (own_sgn ((Int32.ofNat na) - (Int32.ofNat nb)))
                  refine RunW.iconst (1 : Int32) at_194 (by decide) (pc' := 195) rfl ?_
                  refine RunW.goto at_195 (by decide) (pc' := 199) (by decide) ?_
                  exact RunW.nreturn at_199 (ty := .boolean) rfl (by simp) (by decide) (by decide) ⟨_, rfl, rfl⟩
              · -- pc 144 not taken: ¬ x1 = x1
                refine RunW.iload at_147 rfl (pc' := 149) rfl ?_
                refine RunW.callS (k' := 8) (n' := 24) (as := [(.int x1)]) (rest := []) (con_own_key l Z a0 hw n0 h14 sz14 x1 ) (by rintro _ _ ⟨_, -, -, rfl⟩; exact ⟨[], Keep.refl _ _, all0⟩) at_149 (hw _ (List.mem_of_getElem? (i := 83) rfl)) (hw _ (List.mem_of_getElem? (i := 84) rfl)) (hw _ (List.mem_of_getElem? (i := 3) rfl)) (hw _ (List.mem_of_getElem? (i := 85) rfl)) (by decide) pd__C_I rfl rfl rfl (by decide) (by show (0 : Nat) + (2 + 11) + 0 ≤ _; decide) (by decide) (by decide) (by decide) (by decide) (pc' := 152) rfl ?_
                rintro _ _ ⟨_, rfl, rfl, rfl⟩ -
                show RunW l Z own_EL n0 x.cls code maxLocals ret x.name room_1 _ 152 #[.val (.int p1), .val (.int p2), .val (.int p3), .val (.int (Int32.ofNat na)), .val (.int (Int32.ofNat nb)), .val (.int x0), .val (.int x1), .val (.int y0), .val (.int x1), .val (.ref t13), .val (.ref t14), .unset, .unset] [(.int (own_key x1))] h14 vm14 8 24
                refine RunW.iload at_152 rfl (pc' := 154) rfl ?_
                refine RunW.callS (k' := 8) (n' := 24) (as := [(.int x1)]) (rest := [(.int (own_key x1))]) (con_own_key l Z a0 hw n0 h14 sz14 x1 ) (by rintro _ _ ⟨_, -, -, rfl⟩; exact ⟨[], Keep.refl _ _, all0⟩) at_154 (hw _ (List.mem_of_getElem? (i := 83) rfl)) (hw _ (List.mem_of_getElem? (i := 84) rfl)) (hw _ (List.mem_of_getElem? (i := 3) rfl)) (hw _ (List.mem_of_getElem? (i := 85) rfl)) (by decide) pd__C_I rfl rfl rfl (by decide) (by show (1 : Nat) + (2 + 11) + 0 ≤ _; decide) (by decide) (by decide) (by decide) (by decide) (pc' := 157) rfl ?_
                rintro _ _ ⟨_, rfl, rfl, rfl⟩ -
                show RunW l Z own_EL n0 x.cls code maxLocals ret x.name room_1 _ 157 #[.val (.int p1), .val (.int p2), .val (.int p3), .val (.int (Int32.ofNat na)), .val (.int (Int32.ofNat nb)), .val (.int x0), .val (.int x1), .val (.int y0), .val (.int x1), .val (.ref t13), .val (.ref t14), .unset, .unset] [(.int (own_key x1)), (.int (own_key x1))] h14 vm14 8 24
                refine RunW.isub at_157 (pc' := 158) rfl ?_
                refine RunW.callS (k' := 8) (n' := 24) (as := [(.int ((own_key x1) - (own_key x1)))]) (rest := []) (con_own_sgn l Z a0 hw n0 h14 sz14 ((own_key x1) - (own_key x1)) ) (by rintro _ _ ⟨_, -, -, rfl⟩; exact ⟨[], Keep.refl _ _, all0⟩) at_158 (hw _ (List.mem_of_getElem? (i := 38) rfl)) (hw _ (List.mem_of_getElem? (i := 39) rfl)) (hw _ (List.mem_of_getElem? (i := 3) rfl)) (hw _ (List.mem_of_getElem? (i := 40) rfl)) (by decide) pd__I_I rfl rfl rfl (by decide) (by show (0 : Nat) + (1 + 11) + 0 ≤ _; decide) (by decide) (by decide) (by decide) (by decide) (pc' := 161) rfl ?_
                rintro _ _ ⟨_, rfl, rfl, rfl⟩ -
                show RunW l Z own_EL n0 x.cls code maxLocals ret x.name room_1 _ 161 #[.val (.int p1), .val (.int p2), .val (.int p3), .val (.int (Int32.ofNat na)), .val (.int (Int32.ofNat nb)), .val (.int x0), .val (.int x1), .val (.int y0), .val (.int x1), .val (.ref t13), .val (.ref t14), .unset, .unset] [(.int (own_sgn ((own_key x1) - (own_key x1))))] h14 vm14 8 24
                refine RunW.istore (l' := #[.val (.int p1), .val (.int p2), .val (.int p3), .val (.int (Int32.ofNat na)), .val (.int (Int32.ofNat nb)), .val (.int x0), .val (.int x1), .val (.int y0), .val (.int x1), .val (.ref t13), .val (.ref t14), .val (.int (own_sgn ((own_key x1) - (own_key x1)))), .unset]) at_161 rfl (pc' := 163) rfl ?_
                refine RunW.goto at_163 (by decide) (pc' := 175) (by decide) ?_
                refine RunW.aload at_175 rfl rfl (pc' := 177) rfl ?_
                refine RunW.aload at_177 rfl rfl (pc' := 179) rfl ?_
                refine RunW.callS (k' := 8) (n' := 24) (as := [(.ref t13), (.ref t14)]) (rest := []) (con_cu8 l Z a0 hw n0 h14 sz14 t13 b13 t14 b14 ([x0, x1].take na) ([y0, x1].take nb) fm cz od14 SF hfm SD SH8 SL8 SZ hcz E_t13_14 F_t13_value_14 F_t13_coder_14 A_b13_14 X14 FV14 FC14 P14 (own_t2 _ _ _) (own_tk (own_chr2 q_x0.2 q_x1.2)) (own_t2 _ _ _) (own_tk (own_chr2 q_y0.2 q_x1.2)) ) (by rintro _ _ ⟨_, -, -, rfl⟩; exact ⟨[], Keep.refl _ _, all0⟩) at_179 (hw _ (List.mem_of_getElem? (i := 41) rfl)) (hw _ (List.mem_of_getElem? (i := 42) rfl)) (hw _ (List.mem_of_getElem? (i := 43) rfl)) (hw _ (List.mem_of_getElem? (i := 44) rfl)) (by decide) pd__Ljava_lang_String_Ljava_lang_String__I rfl rfl rfl (by decide) (by show (0 : Nat) + (6 + 11) + 66 ≤ _; decide) (by decide) (by decide) (by decide) (by decide) (pc' := 182) rfl ?_
                rintro _ _ ⟨_, rfl, rfl, rfl⟩ -
                show RunW l Z own_EL n0 x.cls code maxLocals ret x.name room_1 _ 182 #[.val (.int p1), .val (.int p2), .val (.int p3), .val (.int (Int32.ofNat na)), .val (.int (Int32.ofNat nb)), .val (.int x0), .val (.int x1), .val (.int y0), .val (.int x1), .val (.ref t13), .val (.ref t14), .val (.int (own_sgn ((own_key x1) - (own_key x1)))), .unset] [(.int (own_cmp ([x0, x1].take na) ([y0, x1].take nb) (min ([x0, x1].take na).length ([y0, x1].take nb).length) 0))] h14 vm14 8 24
                refine RunW.callS (k' := 8) (n' := 24) (as := [(.int (own_cmp ([x0, x1].take na) ([y0, x1].take nb) (min ([x0, x1].take na).length ([y0, x1].take nb).length) 0))]) (rest := []) (con_own_sgn l Z a0 hw n0 h14 sz14 (own_cmp ([x0, x1].take na) ([y0, x1].take nb) (min ([x0, x1].take na).length ([y0, x1].take nb).length) 0) ) (by rintro _ _ ⟨_, -, -, rfl⟩; exact ⟨[], Keep.refl _ _, all0⟩) at_182 (hw _ (List.mem_of_getElem? (i := 38) rfl)) (hw _ (List.mem_of_getElem? (i := 39) rfl)) (hw _ (List.mem_of_getElem? (i := 3) rfl)) (hw _ (List.mem_of_getElem? (i := 40) rfl)) (by decide) pd__I_I rfl rfl rfl (by decide) (by show (0 : Nat) + (1 + 11) + 0 ≤ _; decide) (by decide) (by decide) (by decide) (by decide) (pc' := 185) rfl ?_
                rintro _ _ ⟨_, rfl, rfl, rfl⟩ -
                show RunW l Z own_EL n0 x.cls code maxLocals ret x.name room_1 _ 185 #[.val (.int p1), .val (.int p2), .val (.int p3), .val (.int (Int32.ofNat na)), .val (.int (Int32.ofNat nb)), .val (.int x0), .val (.int x1), .val (.int y0), .val (.int x1), .val (.ref t13), .val (.ref t14), .val (.int (own_sgn ((own_key x1) - (own_key x1)))), .unset] [(.int (own_sgn (own_cmp ([x0, x1].take na) ([y0, x1].take nb) (min ([x0, x1].take na).length ([y0, x1].take nb).length) 0)))] h14 vm14 8 24
                refine RunW.istore (l' := #[.val (.int p1), .val (.int p2), .val (.int p3), .val (.int (Int32.ofNat na)), .val (.int (Int32.ofNat nb)), .val (.int x0), .val (.int x1), .val (.int y0), .val (.int x1), .val (.ref t13), .val (.ref t14), .val (.int (own_sgn ((own_key x1) - (own_key x1)))), .val (.int (own_sgn (own_cmp ([x0, x1].take na) ([y0, x1].take nb) (min ([x0, x1].take na).length ([y0, x1].take nb).length) 0)))]) at_185 rfl (pc' := 187) rfl ?_
                refine RunW.iload at_187 rfl (pc' := 189) rfl ?_
                refine RunW.iload at_189 rfl (pc' := 191) rfl ?_
                refine RunW.icmp_ne at_191 (by decide) (pc' := 198) (by decide) (pa := 194) rfl (fun hc191 => ?_) (fun hc191 => ?_)
                · -- pc 191 taken: ¬ (own_sgn (own_cmp ([x0, x1].take na) ([y0, x1].take nb) (min ([x0, x1].take na).length ([y0, x1].take nb).length) 0)) = (own_sgn ((own_key x1) - (own_key x1)))
                  exact absurd (own_L2 h_na h_nb (Or.inr (Or.inl (own_le0 hc100 (by omega)))) (own_gt1 hc131 (by omega)) (own_gt1 hc137 (by omega)) q_x1.2 q_x1.2 hc144) hc191
                · -- pc 191 not taken: (own_sgn (own_cmp ([x0, x1].take na) ([y0, x1].take nb) (min ([x0, x1].take na).length ([y0, x1].take nb).length) 0)) = (own_sgn ((own_key x1) - (own_key x1)))
                  refine RunW.iconst (1 : Int32) at_194 (by decide) (pc' := 195) rfl ?_
                  refine RunW.goto at_195 (by decide) (pc' := 199) (by decide) ?_
                  exact RunW.nreturn at_199 (ty := .boolean) rfl (by simp) (by decide) (by decide) ⟨_, rfl, rfl⟩
        · -- pc 100 not taken: (0 : Int32) < (Int32.ofNat nb)
          refine RunW.iload at_103 rfl (pc' := 105) rfl ?_
          refine RunW.iload at_105 rfl (pc' := 107) rfl ?_
          refine RunW.icmp_eq at_107 (by decide) (pc' := 129) (by decide) (pa := 110) rfl (fun hc107 => ?_) (fun hc107 => ?_)
          · -- pc 107 taken: x0 = y0
            refine RunW.iloadN at_129 rfl (pc' := 130) rfl ?_
            refine RunW.iconst (1 : Int32) at_130 (by decide) (pc' := 131) rfl ?_
            refine RunW.icmp_le at_131 (by decide) (pc' := 166) (by decide) (pa := 134) rfl (fun hc131 => ?_) (fun hc131 => ?_)
            · -- pc 131 taken: ¬ (1 : Int32) < (Int32.ofNat na)
              refine RunW.iloadN at_166 rfl (pc' := 167) rfl ?_
              refine RunW.iload at_167 rfl (pc' := 169) rfl ?_
              refine RunW.isub at_169 (pc' := 170) rfl ?_
              refine RunW.callS (k' := 8) (n' := 24) (as := [(.int ((Int32.ofNat na) - (Int32.ofNat nb)))]) (rest := []) (con_own_sgn l Z a0 hw n0 h14 sz14 ((Int32.ofNat na) - (Int32.ofNat nb)) ) (by rintro _ _ ⟨_, -, -, rfl⟩; exact ⟨[], Keep.refl _ _, all0⟩) at_170 (hw _ (List.mem_of_getElem? (i := 38) rfl)) (hw _ (List.mem_of_getElem? (i := 39) rfl)) (hw _ (List.mem_of_getElem? (i := 3) rfl)) (hw _ (List.mem_of_getElem? (i := 40) rfl)) (by decide) pd__I_I rfl rfl rfl (by decide) (by show (0 : Nat) + (1 + 11) + 0 ≤ _; decide) (by decide) (by decide) (by decide) (by decide) (pc' := 173) rfl ?_
              rintro _ _ ⟨_, rfl, rfl, rfl⟩ -
              show RunW l Z own_EL n0 x.cls code maxLocals ret x.name room_1 _ 173 #[.val (.int p1), .val (.int p2), .val (.int p3), .val (.int (Int32.ofNat na)), .val (.int (Int32.ofNat nb)), .val (.int x0), .val (.int x1), .val (.int y0), .val (.int x1), .val (.ref t13), .val (.ref t14), .unset, .unset] [(.int (own_sgn ((Int32.ofNat na) - (Int32.ofNat nb))))] h14 vm14 8 24
              refine RunW.istore (l' := #[.val (.int p1), .val (.int p2), .val (.int p3), .val (.int (Int32.ofNat na)), .val (.int (Int32.ofNat nb)), .val (.int x0), .val (.int x1), .val (.int y0), .val (.int x1), .val (.ref t13), .val (.ref t14), .val (.int (own_sgn ((Int32.ofNat na) - (Int32.ofNat nb)))), .unset]) at_173 rfl (pc' := 175) rfl ?_
              refine RunW.aload at_175 rfl rfl (pc' := 177) rfl ?_
              refine RunW.aload at_177 rfl rfl (pc' := 179) rfl ?_
              refine RunW.callS (k' := 8) (n' := 24) (as := [(.ref t13), (.ref t14)]) (rest := []) (con_cu8 l Z a0 hw n0 h14 sz14 t13 b13 t14 b14 ([x0, x1].take na) ([y0, x1].take nb) fm cz od14 SF hfm SD SH8 SL8 SZ hcz E_t13_14 F_t13_value_14 F_t13_coder_14 A_b13_14 X14 FV14 FC14 P14 (own_t2 _ _ _) (own_tk (own_chr2 q_x0.2 q_x1.2)) (own_t2 _ _ _) (own_tk (own_chr2 q_y0.2 q_x1.2)) ) (by rintro _ _ ⟨_, -, -, rfl⟩; exact ⟨[], Keep.refl _ _, all0⟩) at_179 (hw _ (List.mem_of_getElem? (i := 41) rfl)) (hw _ (List.mem_of_getElem? (i := 42) rfl)) (hw _ (List.mem_of_getElem? (i := 43) rfl)) (hw _ (List.mem_of_getElem? (i := 44) rfl)) (by decide) pd__Ljava_lang_String_Ljava_lang_String__I rfl rfl rfl (by decide) (by show (0 : Nat) + (6 + 11) + 66 ≤ _; decide) (by decide) (by decide) (by decide) (by decide) (pc' := 182) rfl ?_
              rintro _ _ ⟨_, rfl, rfl, rfl⟩ -
              show RunW l Z own_EL n0 x.cls code maxLocals ret x.name room_1 _ 182 #[.val (.int p1), .val (.int p2), .val (.int p3), .val (.int (Int32.ofNat na)), .val (.int (Int32.ofNat nb)), .val (.int x0), .val (.int x1), .val (.int y0), .val (.int x1), .val (.ref t13), .val (.ref t14), .val (.int (own_sgn ((Int32.ofNat na) - (Int32.ofNat nb)))), .unset] [(.int (own_cmp ([x0, x1].take na) ([y0, x1].take nb) (min ([x0, x1].take na).length ([y0, x1].take nb).length) 0))] h14 vm14 8 24
              refine RunW.callS (k' := 8) (n' := 24) (as := [(.int (own_cmp ([x0, x1].take na) ([y0, x1].take nb) (min ([x0, x1].take na).length ([y0, x1].take nb).length) 0))]) (rest := []) (con_own_sgn l Z a0 hw n0 h14 sz14 (own_cmp ([x0, x1].take na) ([y0, x1].take nb) (min ([x0, x1].take na).length ([y0, x1].take nb).length) 0) ) (by rintro _ _ ⟨_, -, -, rfl⟩; exact ⟨[], Keep.refl _ _, all0⟩) at_182 (hw _ (List.mem_of_getElem? (i := 38) rfl)) (hw _ (List.mem_of_getElem? (i := 39) rfl)) (hw _ (List.mem_of_getElem? (i := 3) rfl)) (hw _ (List.mem_of_getElem? (i := 40) rfl)) (by decide) pd__I_I rfl rfl rfl (by decide) (by show (0 : Nat) + (1 + 11) + 0 ≤ _; decide) (by decide) (by decide) (by decide) (by decide) (pc' := 185) rfl ?_
              rintro _ _ ⟨_, rfl, rfl, rfl⟩ -
              show RunW l Z own_EL n0 x.cls code maxLocals ret x.name room_1 _ 185 #[.val (.int p1), .val (.int p2), .val (.int p3), .val (.int (Int32.ofNat na)), .val (.int (Int32.ofNat nb)), .val (.int x0), .val (.int x1), .val (.int y0), .val (.int x1), .val (.ref t13), .val (.ref t14), .val (.int (own_sgn ((Int32.ofNat na) - (Int32.ofNat nb)))), .unset] [(.int (own_sgn (own_cmp ([x0, x1].take na) ([y0, x1].take nb) (min ([x0, x1].take na).length ([y0, x1].take nb).length) 0)))] h14 vm14 8 24
              refine RunW.istore (l' := #[.val (.int p1), .val (.int p2), .val (.int p3), .val (.int (Int32.ofNat na)), .val (.int (Int32.ofNat nb)), .val (.int x0), .val (.int x1), .val (.int y0), .val (.int x1), .val (.ref t13), .val (.ref t14), .val (.int (own_sgn ((Int32.ofNat na) - (Int32.ofNat nb)))), .val (.int (own_sgn (own_cmp ([x0, x1].take na) ([y0, x1].take nb) (min ([x0, x1].take na).length ([y0, x1].take nb).length) 0)))]) at_185 rfl (pc' := 187) rfl ?_
              refine RunW.iload at_187 rfl (pc' := 189) rfl ?_
              refine RunW.iload at_189 rfl (pc' := 191) rfl ?_
              refine RunW.icmp_ne at_191 (by decide) (pc' := 198) (by decide) (pa := 194) rfl (fun hc191 => ?_) (fun hc191 => ?_)
              · -- pc 191 taken: ¬ (own_sgn (own_cmp ([x0, x1].take na) ([y0, x1].take nb) (min ([x0, x1].take na).length ([y0, x1].take nb).length) 0)) = (own_sgn ((Int32.ofNat na) - (Int32.ofNat nb)))
                exact absurd (own_L3 h_na h_nb (Or.inr (Or.inr hc107)) (Or.inl (own_le1 hc131 (by omega)))) hc191
              · -- pc 191 not taken: (own_sgn (own_cmp ([x0, x1].take na) ([y0, x1].take nb) (min ([x0, x1].take na).length ([y0, x1].take nb).length) 0)) = (own_sgn ((Int32.ofNat na) - (Int32.ofNat nb)))
                refine RunW.iconst (1 : Int32) at_194 (by decide) (pc' := 195) rfl ?_
                refine RunW.goto at_195 (by decide) (pc' := 199) (by decide) ?_
                exact RunW.nreturn at_199 (ty := .boolean) rfl (by simp) (by decide) (by decide) ⟨_, rfl, rfl⟩
            · -- pc 131 not taken: (1 : Int32) < (Int32.ofNat na)
              refine RunW.iload at_134 rfl (pc' := 136) rfl ?_
              refine RunW.iconst (1 : Int32) at_136 (by decide) (pc' := 137) rfl ?_
              refine RunW.icmp_le at_137 (by decide) (pc' := 166) (by decide) (pa := 140) rfl (fun hc137 => ?_) (fun hc137 => ?_)
              · -- pc 137 taken: ¬ (1 : Int32) < (Int32.ofNat nb)
                refine RunW.iloadN at_166 rfl (pc' := 167) rfl ?_
                refine RunW.iload at_167 rfl (pc' := 169) rfl ?_
                refine RunW.isub at_169 (pc' := 170) rfl ?_
                refine RunW.callS (k' := 8) (n' := 24) (as := [(.int ((Int32.ofNat na) - (Int32.ofNat nb)))]) (rest := []) (con_own_sgn l Z a0 hw n0 h14 sz14 ((Int32.ofNat na) - (Int32.ofNat nb)) ) (by rintro _ _ ⟨_, -, -, rfl⟩; exact ⟨[], Keep.refl _ _, all0⟩) at_170 (hw _ (List.mem_of_getElem? (i := 38) rfl)) (hw _ (List.mem_of_getElem? (i := 39) rfl)) (hw _ (List.mem_of_getElem? (i := 3) rfl)) (hw _ (List.mem_of_getElem? (i := 40) rfl)) (by decide) pd__I_I rfl rfl rfl (by decide) (by show (0 : Nat) + (1 + 11) + 0 ≤ _; decide) (by decide) (by decide) (by decide) (by decide) (pc' := 173) rfl ?_
                rintro _ _ ⟨_, rfl, rfl, rfl⟩ -
                show RunW l Z own_EL n0 x.cls code maxLocals ret x.name room_1 _ 173 #[.val (.int p1), .val (.int p2), .val (.int p3), .val (.int (Int32.ofNat na)), .val (.int (Int32.ofNat nb)), .val (.int x0), .val (.int x1), .val (.int y0), .val (.int x1), .val (.ref t13), .val (.ref t14), .unset, .unset] [(.int (own_sgn ((Int32.ofNat na) - (Int32.ofNat nb))))] h14 vm14 8 24
                refine RunW.istore (l' := #[.val (.int p1), .val (.int p2), .val (.int p3), .val (.int (Int32.ofNat na)), .val (.int (Int32.ofNat nb)), .val (.int x0), .val (.int x1), .val (.int y0), .val (.int x1), .val (.ref t13), .val (.ref t14), .val (.int (own_sgn ((Int32.ofNat na) - (Int32.ofNat nb)))), .unset]) at_173 rfl (pc' := 175) rfl ?_
                refine RunW.aload at_175 rfl rfl (pc' := 177) rfl ?_
                refine RunW.aload at_177 rfl rfl (pc' := 179) rfl ?_
                refine RunW.callS (k' := 8) (n' := 24) (as := [(.ref t13), (.ref t14)]) (rest := []) (con_cu8 l Z a0 hw n0 h14 sz14 t13 b13 t14 b14 ([x0, x1].take na) ([y0, x1].take nb) fm cz od14 SF hfm SD SH8 SL8 SZ hcz E_t13_14 F_t13_value_14 F_t13_coder_14 A_b13_14 X14 FV14 FC14 P14 (own_t2 _ _ _) (own_tk (own_chr2 q_x0.2 q_x1.2)) (own_t2 _ _ _) (own_tk (own_chr2 q_y0.2 q_x1.2)) ) (by rintro _ _ ⟨_, -, -, rfl⟩; exact ⟨[], Keep.refl _ _, all0⟩) at_179 (hw _ (List.mem_of_getElem? (i := 41) rfl)) (hw _ (List.mem_of_getElem? (i := 42) rfl)) (hw _ (List.mem_of_getElem? (i := 43) rfl)) (hw _ (List.mem_of_getElem? (i := 44) rfl)) (by decide) pd__Ljava_lang_String_Ljava_lang_String__I rfl rfl rfl (by decide) (by show (0 : Nat) + (6 + 11) + 66 ≤ _; decide) (by decide) (by decide) (by decide) (by decide) (pc' := 182) rfl ?_
                rintro _ _ ⟨_, rfl, rfl, rfl⟩ -
                show RunW l Z own_EL n0 x.cls code maxLocals ret x.name room_1 _ 182 #[.val (.int p1), .val (.int p2), .val (.int p3), .val (.int (Int32.ofNat na)), .val (.int (Int32.ofNat nb)), .val (.int x0), .val (.int x1), .val (.int y0), .val (.int x1), .val (.ref t13), .val (.ref t14), .val (.int (own_sgn ((Int32.ofNat na) - (Int32.ofNat nb)))), .unset] [(.int (own_cmp ([x0, x1].take na) ([y0, x1].take nb) (min ([x0, x1].take na).length ([y0, x1].take nb).length) 0))] h14 vm14 8 24
                refine RunW.callS (k' := 8) (n' := 24) (as := [(.int (own_cmp ([x0, x1].take na) ([y0, x1].take nb) (min ([x0, x1].take na).length ([y0, x1].take nb).length) 0))]) (rest := []) (con_own_sgn l Z a0 hw n0 h14 sz14 (own_cmp ([x0, x1].take na) ([y0, x1].take nb) (min ([x0, x1].take na).length ([y0, x1].take nb).length) 0) ) (by rintro _ _ ⟨_, -, -, rfl⟩; exact ⟨[], Keep.refl _ _, all0⟩) at_182 (hw _ (List.mem_of_getElem? (i := 38) rfl)) (hw _ (List.mem_of_getElem? (i := 39) rfl)) (hw _ (List.mem_of_getElem? (i := 3) rfl)) (hw _ (List.mem_of_getElem? (i := 40) rfl)) (by decide) pd__I_I rfl rfl rfl (by decide) (by show (0 : Nat) + (1 + 11) + 0 ≤ _; decide) (by decide) (by decide) (by decide) (by decide) (pc' := 185) rfl ?_
                rintro _ _ ⟨_, rfl, rfl, rfl⟩ -
                show RunW l Z own_EL n0 x.cls code maxLocals ret x.name room_1 _ 185 #[.val (.int p1), .val (.int p2), .val (.int p3), .val (.int (Int32.ofNat na)), .val (.int (Int32.ofNat nb)), .val (.int x0), .val (.int x1), .val (.int y0), .val (.int x1), .val (.ref t13), .val (.ref t14), .val (.int (own_sgn ((Int32.ofNat na) - (Int32.ofNat nb)))), .unset] [(.int (own_sgn (own_cmp ([x0, x1].take na) ([y0, x1].take nb) (min ([x0, x1].take na).length ([y0, x1].take nb).length) 0)))] h14 vm14 8 24
                refine RunW.istore (l' := #[.val (.int p1), .val (.int p2), .val (.int p3), .val (.int (Int32.ofNat na)), .val (.int (Int32.ofNat nb)), .val (.int x0), .val (.int x1), .val (.int y0), .val (.int x1), .val (.ref t13), .val (.ref t14), .val (.int (own_sgn ((Int32.ofNat na) - (Int32.ofNat nb)))), .val (.int (own_sgn (own_cmp ([x0, x1].take na) ([y0, x1].take nb) (min ([x0, x1].take na).length ([y0, x1].take nb).length) 0)))]) at_185 rfl (pc' := 187) rfl ?_
                refine RunW.iload at_187 rfl (pc' := 189) rfl ?_
                refine RunW.iload at_189 rfl (pc' := 191) rfl ?_
                refine RunW.icmp_ne at_191 (by decide) (pc' := 198) (by decide) (pa := 194) rfl (fun hc191 => ?_) (fun hc191 => ?_)
                · -- pc 191 taken: ¬ (own_sgn (own_cmp ([x0, x1].take na) ([y0, x1].take nb) (min ([x0, x1].take na).length ([y0, x1].take nb).length) 0)) = (own_sgn ((Int32.ofNat na) - (Int32.ofNat nb)))
                  exact absurd (own_L3 h_na h_nb (Or.inr (Or.inr hc107)) (Or.inr (Or.inl (own_le1 hc137 (by omega))))) hc191
                · -- pc 191 not taken: (own_sgn (own_cmp ([x0, x1].take na) ([y0, x1].take nb) (min ([x0, x1].take na).length ([y0, x1].take nb).length) 0)) = (own_sgn ((Int32.ofNat na) - (Int32.ofNat nb)))
                  refine RunW.iconst (1 : Int32) at_194 (by decide) (pc' := 195) rfl ?_
                  refine RunW.goto at_195 (by decide) (pc' := 199) (by decide) ?_
                  exact RunW.nreturn at_199 (ty := .boolean) rfl (by simp) (by decide) (by decide) ⟨_, rfl, rfl⟩
              · -- pc 137 not taken: (1 : Int32) < (Int32.ofNat nb)
                refine RunW.iload at_140 rfl (pc' := 142) rfl ?_
                refine RunW.iload at_142 rfl (pc' := 144) rfl ?_
                refine RunW.icmp_eq at_144 (by decide) (pc' := 166) (by decide) (pa := 147) rfl (fun hc144 => ?_) (fun hc144 => ?_)
                · -- pc 144 taken: x1 = x1
                  refine RunW.iloadN at_166 rfl (pc' := 167) rfl ?_
                  refine RunW.iload at_167 rfl (pc' := 169) rfl ?_
                  refine RunW.isub at_169 (pc' := 170) rfl ?_
                  refine RunW.callS (k' := 8) (n' := 24) (as := [(.int ((Int32.ofNat na) - (Int32.ofNat nb)))]) (rest := []) (con_own_sgn l Z a0 hw n0 h14 sz14 ((Int32.ofNat na) - (Int32.ofNat nb)) ) (by rintro _ _ ⟨_, -, -, rfl⟩; exact ⟨[], Keep.refl _ _, all0⟩) at_170 (hw _ (List.mem_of_getElem? (i := 38) rfl)) (hw _ (List.mem_of_getElem? (i := 39) rfl)) (hw _ (List.mem_of_getElem? (i := 3) rfl)) (hw _ (List.mem_of_getElem? (i := 40) rfl)) (by decide) pd__I_I rfl rfl rfl (by decide) (by show (0 : Nat) + (1 + 11) + 0 ≤ _; decide) (by decide) (by decide) (by decide) (by decide) (pc' := 173) rfl ?_
                  rintro _ _ ⟨_, rfl, rfl, rfl⟩ -
                  show RunW l Z own_EL n0 x.cls code maxLocals ret x.name room_1 _ 173 #[.val (.int p1), .val (.int p2), .val (.int p3), .val (.int (Int32.ofNat na)), .val (.int (Int32.ofNat nb)), .val (.int x0), .val (.int x1), .val (.int y0), .val (.int x1), .val (.ref t13), .val (.ref t14), .unset, .unset] [(.int (own_sgn ((Int32.ofNat na) - (Int32.ofNat nb))))] h14 vm14 8 24
                  refine RunW.istore (l' := #[.val (.int p1), .val (.int p2), .val (.int p3), .val (.int (Int32.ofNat na)), .val (.int (Int32.ofNat nb)), .val (.int x0), .val (.int x1), .val (.int y0), .val (.int x1), .val (.ref t13), .val (.ref t14), .val (.int (own_sgn ((Int32.ofNat na) - (Int32.ofNat nb)))), .unset]) at_173 rfl (pc' := 175) rfl ?_
                  refine RunW.aload at_175 rfl rfl (pc' := 177) rfl ?_
                  refine RunW.aload at_177 rfl rfl (pc' := 179) rfl ?_
                  refine RunW.callS (k' := 8) (n' := 24) (as := [(.ref t13), (.ref t14)]) (rest := []) (con_cu8 l Z a0 hw n0 h14 sz14 t13 b13 t14 b14 ([x0, x1].take na) ([y0, x1].take nb) fm cz od14 SF hfm SD SH8 SL8 SZ hcz E_t13_14 F_t13_value_14 F_t13_coder_14 A_b13_14 X14 FV14 FC14 P14 (own_t2 _ _ _) (own_tk (own_chr2 q_x0.2 q_x1.2)) (own_t2 _ _ _) (own_tk (own_chr2 q_y0.2 q_x1.2)) ) (by rintro _ _ ⟨_, -, -, rfl⟩; exact ⟨[], Keep.refl _ _, all0⟩) at_179 (hw _ (List.mem_of_getElem? (i := 41) rfl)) (hw _ (List.mem_of_getElem? (i := 42) rfl)) (hw _ (List.mem_of_getElem? (i := 43) rfl)) (hw _ (List.mem_of_getElem? (i := 44) rfl)) (by decide) pd__Ljava_lang_String_Ljava_lang_String__I rfl rfl rfl (by decide) (by show (0 : Nat) + (6 + 11) + 66 ≤ _; decide) (by decide) (by decide) (by decide) (by decide) (pc' := 182) rfl ?_
                  rintro _ _ ⟨_, rfl, rfl, rfl⟩ -
                  show RunW l Z own_EL n0 x.cls code maxLocals ret x.name room_1 _ 182 #[.val (.int p1), .val (.int p2), .val (.int p3), .val (.int (Int32.ofNat na)), .val (.int (Int32.ofNat nb)), .val (.int x0), .val (.int x1), .val (.int y0), .val (.int x1), .val (.ref t13), .val (.ref t14), .val (.int (own_sgn ((Int32.ofNat na) - (Int32.ofNat nb)))), .unset] [(.int (own_cmp ([x0, x1].take na) ([y0, x1].take nb) (min ([x0, x1].take na).length ([y0, x1].take nb).length) 0))] h14 vm14 8 24
                  refine RunW.callS (k' := 8) (n' := 24) (as := [(.int (own_cmp ([x0, x1].take na) ([y0, x1].take nb) (min ([x0, x1].take na).length ([y0, x1].take nb).length) 0))]) (rest := []) (con_own_sgn l Z a0 hw n0 h14 sz14 (own_cmp ([x0, x1].take na) ([y0, x1].take nb) (min ([x0, x1].take na).length ([y0, x1].take nb).length) 0) ) (by rintro _ _ ⟨_, -, -, rfl⟩; exact ⟨[], Keep.refl _ _, all0⟩) at_182 (hw _ (List.mem_of_getElem? (i := 38) rfl)) (hw _ (List.mem_of_getElem? (i := 39) rfl)) (hw _ (List.mem_of_getElem? (i := 3) rfl)) (hw _ (List.mem_of_getElem? (i := 40) rfl)) (by decide) pd__I_I rfl rfl rfl (by decide) (by show (0 : Nat) + (1 + 11) + 0 ≤ _; decide) (by decide) (by decide) (by decide) (by decide) (pc' := 185) rfl ?_
                  rintro _ _ ⟨_, rfl, rfl, rfl⟩ -
                  show RunW l Z own_EL n0 x.cls code maxLocals ret x.name room_1 _ 185 #[.val (.int p1), .val (.int p2), .val (.int p3), .val (.int (Int32.ofNat na)), .val (.int (Int32.ofNat nb)), .val (.int x0), .val (.int x1), .val (.int y0), .val (.int x1), .val (.ref t13), .val (.ref t14), .val (.int (own_sgn ((Int32.ofNat na) - (Int32.ofNat nb)))), .unset] [(.int (own_sgn (own_cmp ([x0, x1].take na) ([y0, x1].take nb) (min ([x0, x1].take na).length ([y0, x1].take nb).length) 0)))] h14 vm14 8 24
                  refine RunW.istore (l' := #[.val (.int p1), .val (.int p2), .val (.int p3), .val (.int (Int32.ofNat na)), .val (.int (Int32.ofNat nb)), .val (.int x0), .val (.int x1), .val (.int y0), .val (.int x1), .val (.ref t13), .val (.ref t14), .val (.int (own_sgn ((Int32.ofNat na) - (Int32.ofNat nb)))), .val (.int (own_sgn (own_cmp ([x0, x1].take na) ([y0, x1].take nb) (min ([x0, x1].take na).length ([y0, x1].take nb).length) 0)))]) at_185 rfl (pc' := 187) rfl ?_
                  refine RunW.iload at_187 rfl (pc' := 189) rfl ?_
                  refine RunW.iload at_189 rfl (pc' := 191) rfl ?_
                  refine RunW.icmp_ne at_191 (by decide) (pc' := 198) (by decide) (pa := 194) rfl (fun hc191 => ?_) (fun hc191 => ?_)
                  · -- pc 191 taken: ¬ (own_sgn (own_cmp ([x0, x1].take na) ([y0, x1].take nb) (min ([x0, x1].take na).length ([y0, x1].take nb).length) 0)) = (own_sgn ((Int32.ofNat na) - (Int32.ofNat nb)))
                    exact absurd (own_L3 h_na h_nb (Or.inr (Or.inr hc107)) (Or.inr (Or.inr hc144))) hc191
                  · -- pc 191 not taken: (own_sgn (own_cmp ([x0, x1].take na) ([y0, x1].take nb) (min ([x0, x1].take na).length ([y0, x1].take nb).length) 0)) = (own_sgn ((Int32.ofNat na) - (Int32.ofNat nb)))
                    refine RunW.iconst (1 : Int32) at_194 (by decide) (pc' := 195) rfl ?_
                    refine RunW.goto at_195 (by decide) (pc' := 199) (by decide) ?_
                    exact RunW.nreturn at_199 (ty := .boolean) rfl (by simp) (by decide) (by decide) ⟨_, rfl, rfl⟩
                · -- pc 144 not taken: ¬ x1 = x1
                  refine RunW.iload at_147 rfl (pc' := 149) rfl ?_
                  refine RunW.callS (k' := 8) (n' := 24) (as := [(.int x1)]) (rest := []) (con_own_key l Z a0 hw n0 h14 sz14 x1 ) (by rintro _ _ ⟨_, -, -, rfl⟩; exact ⟨[], Keep.refl _ _, all0⟩) at_149 (hw _ (List.mem_of_getElem? (i := 83) rfl)) (hw _ (List.mem_of_getElem? (i := 84) rfl)) (hw _ (List.mem_of_getElem? (i := 3) rfl)) (hw _ (List.mem_of_getElem? (i := 85) rfl)) (by decide) pd__C_I rfl rfl rfl (by decide) (by show (0 : Nat) + (2 + 11) + 0 ≤ _; decide) (by decide) (by decide) (by decide) (by decide) (pc' := 152) rfl ?_
                  rintro _ _ ⟨_, rfl, rfl, rfl⟩ -
                  show RunW l Z own_EL n0 x.cls code maxLocals ret x.name room_1 _ 152 #[.val (.int p1), .val (.int p2), .val (.int p3), .val (.int (Int32.ofNat na)), .val (.int (Int32.ofNat nb)), .val (.int x0), .val (.int x1), .val (.int y0), .val (.int x1), .val (.ref t13), .val (.ref t14), .unset, .unset] [(.int (own_key x1))] h14 vm14 8 24
                  refine RunW.iload at_152 rfl (pc' := 154) rfl ?_
                  refine RunW.callS (k' := 8) (n' := 24) (as := [(.int x1)]) (rest := [(.int (own_key x1))]) (con_own_key l Z a0 hw n0 h14 sz14 x1 ) (by rintro _ _ ⟨_, -, -, rfl⟩; exact ⟨[], Keep.refl _ _, all0⟩) at_154 (hw _ (List.mem_of_getElem? (i := 83) rfl)) (hw _ (List.mem_of_getElem? (i := 84) rfl)) (hw _ (List.mem_of_getElem? (i := 3) rfl)) (hw _ (List.mem_of_getElem? (i := 85) rfl)) (by decide) pd__C_I rfl rfl rfl (by decide) (by show (1 : Nat) + (2 + 11) + 0 ≤ _; decide) (by decide) (by decide) (by decide) (by decide) (pc' := 157) rfl ?_
                  rintro _ _ ⟨_, rfl, rfl, rfl⟩ -
                  show RunW l Z own_EL n0 x.cls code maxLocals ret x.name room_1 _ 157 #[.val (.int p1), .val (.int p2), .val (.int p3), .val (.int (Int32.ofNat na)), .val (.int (Int32.ofNat nb)), .val (.int x0), .val (.int x1), .val (.int y0), .val (.int x1), .val (.ref t13), .val (.ref t14), .unset, .unset] [(.int (own_key x1)), (.int (own_key x1))] h14 vm14 8 24
                  refine RunW.isub at_157 (pc' := 158) rfl ?_
                  refine RunW.callS (k' := 8) (n' := 24) (as := [(.int ((own_key x1) - (own_key x1)))]) (rest := []) (con_own_sgn l Z a0 hw n0 h14 sz14 ((own_key x1) - (own_key x1)) ) (by rintro _ _ ⟨_, -, -, rfl⟩; exact ⟨[], Keep.refl _ _, all0⟩) at_158 (hw _ (List.mem_of_getElem? (i := 38) rfl)) (hw _ (List.mem_of_getElem? (i := 39) rfl)) (hw _ (List.mem_of_getElem? (i := 3) rfl)) (hw _ (List.mem_of_getElem? (i := 40) rfl)) (by decide) pd__I_I rfl rfl rfl (by decide) (by show (0 : Nat) + (1 + 11) + 0 ≤ _; decide) (by decide) (by decide) (by decide) (by decide) (pc' := 161) rfl ?_
                  rintro _ _ ⟨_, rfl, rfl, rfl⟩ -
                  show RunW l Z own_EL n0 x.cls code maxLocals ret x.name room_1 _ 161 #[.val (.int p1), .val (.int p2), .val (.int p3), .val (.int (Int32.ofNat na)), .val (.int (Int32.ofNat nb)), .val (.int x0), .val (.int x1), .val (.int y0), .val (.int x1), .val (.ref t13), .val (.ref t14), .unset, .unset] [(.int (own_sgn ((own_key x1) - (own_key x1))))] h14 vm14 8 24
                  refine RunW.istore (l' := #[.val (.int p1), .val (.int p2), .val (.int p3), .val (.int (Int32.ofNat na)), .val (.int (Int32.ofNat nb)), .val (.int x0), .val (.int x1), .val (.int y0), .val (.int x1), .val (.ref t13), .val (.ref t14), .val (.int (own_sgn ((own_key x1) - (own_key x1)))), .unset]) at_161 rfl (pc' := 163) rfl ?_
                  refine RunW.goto at_163 (by decide) (pc' := 175) (by decide) ?_
                  refine RunW.aload at_175 rfl rfl (pc' := 177) rfl ?_
                  refine RunW.aload at_177 rfl rfl (pc' := 179) rfl ?_
                  refine RunW.callS (k' := 8) (n' := 24) (as := [(.ref t13), (.ref t14)]) (rest := []) (con_cu8 l Z a0 hw n0 h14 sz14 t13 b13 t14 b14 ([x0, x1].take na) ([y0, x1].take nb) fm cz od14 SF hfm SD SH8 SL8 SZ hcz E_t13_14 F_t13_value_14 F_t13_coder_14 A_b13_14 X14 FV14 FC14 P14 (own_t2 _ _ _) (own_tk (own_chr2 q_x0.2 q_x1.2)) (own_t2 _ _ _) (own_tk (own_chr2 q_y0.2 q_x1.2)) ) (by rintro _ _ ⟨_, -, -, rfl⟩; exact ⟨[], Keep.refl _ _, all0⟩) at_179 (hw _ (List.mem_of_getElem? (i := 41) rfl)) (hw _ (List.mem_of_getElem? (i := 42) rfl)) (hw _ (List.mem_of_getElem? (i := 43) rfl)) (hw _ (List.mem_of_getElem? (i := 44) rfl)) (by decide) pd__Ljava_lang_String_Ljava_lang_String__I rfl rfl rfl (by decide) (by show (0 : Nat) + (6 + 11) + 66 ≤ _; decide) (by decide) (by decide) (by decide) (by decide) (pc' := 182) rfl ?_
                  rintro _ _ ⟨_, rfl, rfl, rfl⟩ -
                  show RunW l Z own_EL n0 x.cls code maxLocals ret x.name room_1 _ 182 #[.val (.int p1), .val (.int p2), .val (.int p3), .val (.int (Int32.ofNat na)), .val (.int (Int32.ofNat nb)), .val (.int x0), .val (.int x1), .val (.int y0), .val (.int x1), .val (.ref t13), .val (.ref t14), .val (.int (own_sgn ((own_key x1) - (own_key x1)))), .unset] [(.int (own_cmp ([x0, x1].take na) ([y0, x1].take nb) (min ([x0, x1].take na).length ([y0, x1].take nb).length) 0))] h14 vm14 8 24
                  refine RunW.callS (k' := 8) (n' := 24) (as := [(.int (own_cmp ([x0, x1].take na) ([y0, x1].take nb) (min ([x0, x1].take na).length ([y0, x1].take nb).length) 0))]) (rest := []) (con_own_sgn l Z a0 hw n0 h14 sz14 (own_cmp ([x0, x1].take na) ([y0, x1].take nb) (min ([x0, x1].take na).length ([y0, x1].take nb).length) 0) ) (by rintro _ _ ⟨_, -, -, rfl⟩; exact ⟨[], Keep.refl _ _, all0⟩) at_182 (hw _ (List.mem_of_getElem? (i := 38) rfl)) (hw _ (List.mem_of_getElem? (i := 39) rfl)) (hw _ (List.mem_of_getElem? (i := 3) rfl)) (hw _ (List.mem_of_getElem? (i := 40) rfl)) (by decide) pd__I_I rfl rfl rfl (by decide) (by show (0 : Nat) + (1 + 11) + 0 ≤ _; decide) (by decide) (by decide) (by decide) (by decide) (pc' := 185) rfl ?_
                  rintro _ _ ⟨_, rfl, rfl, rfl⟩ -
                  show RunW l Z own_EL n0 x.cls code maxLocals ret x.name room_1 _ 185 #[.val (.int p1), .val (.int p2), .val (.int p3), .val (.int (Int32.ofNat na)), .val (.int (Int32.ofNat nb)), .val (.int x0), .val (.int x1), .val (.int y0), .val (.int x1), .val (.ref t13), .val (.ref t14), .val (.int (own_sgn ((own_key x1) - (own_key x1)))), .unset] [(.int (own_sgn (own_cmp ([x0, x1].take na) ([y0, x1].take nb) (min ([x0, x1].take na).length ([y0, x1].take nb).length) 0)))] h14 vm14 8 24
                  refine RunW.istore (l' := #[.val (.int p1), .val (.int p2), .val (.int p3), .val (.int (Int32.ofNat na)), .val (.int (Int32.ofNat nb)), .val (.int x0), .val (.int x1), .val (.int y0), .val (.int x1), .val (.ref t13), .val (.ref t14), .val (.int (own_sgn ((own_key x1) - (own_key x1)))), .val (.int (own_sgn (own_cmp ([x0, x1].take na) ([y0, x1].take nb) (min ([x0, x1].take na).length ([y0, x1].take nb).length) 0)))]) at_185 rfl (pc' := 187) rfl ?_
                  refine RunW.iload at_187 rfl (pc' := 189) rfl ?_
                  refine RunW.iload at_189 rfl (pc' := 191) rfl ?_
                  refine RunW.icmp_ne at_191 (by decide) (pc' := 198) (by decide) (pa := 194) rfl (fun hc191 => ?_) (fun hc191 => ?_)
                  · -- pc 191 taken: ¬ (own_sgn (own_cmp ([x0, x1].take na) ([y0, x1].take nb) (min ([x0, x1].take na).length ([y0, x1].take nb).length) 0)) = (own_sgn ((own_key x1) - (own_key x1)))
                    exact absurd (own_L2 h_na h_nb (Or.inr (Or.inr hc107)) (own_gt1 hc131 (by omega)) (own_gt1 hc137 (by omega)) q_x1.2 q_x1.2 hc144) hc191
                  · -- pc 191 not taken: (own_sgn (own_cmp ([x0, x1].take na) ([y0, x1].take nb) (min ([x0, x1].take na).length ([y0, x1].take nb).length) 0)) = (own_sgn ((own_key x1) - (own_key x1)))
                    refine RunW.iconst (1 : Int32) at_194 (by decide) (pc' := 195) rfl ?_
                    refine RunW.goto at_195 (by decide) (pc' := 199) (by decide) ?_
                    exact RunW.nreturn at_199 (ty := .boolean) rfl (by simp) (by decide) (by decide) ⟨_, rfl, rfl⟩
          · -- pc 107 not taken: ¬ x0 = y0
            refine RunW.iload at_110 rfl (pc' := 112) rfl ?_
            refine RunW.callS (k' := 8) (n' := 24) (as := [(.int x0)]) (rest := []) (con_own_key l Z a0 hw n0 h14 sz14 x0 ) (by rintro _ _ ⟨_, -, -, rfl⟩; exact ⟨[], Keep.refl _ _, all0⟩) at_112 (hw _ (List.mem_of_getElem? (i := 83) rfl)) (hw _ (List.mem_of_getElem? (i := 84) rfl)) (hw _ (List.mem_of_getElem? (i := 3) rfl)) (hw _ (List.mem_of_getElem? (i := 85) rfl)) (by decide) pd__C_I rfl rfl rfl (by decide) (by show (0 : Nat) + (2 + 11) + 0 ≤ _; decide) (by decide) (by decide) (by decide) (by decide) (pc' := 115) rfl ?_
            rintro _ _ ⟨_, rfl, rfl, rfl⟩ -
            show RunW l Z own_EL n0 x.cls code maxLocals ret x.name room_1 _ 115 #[.val (.int p1), .val (.int p2), .val (.int p3), .val (.int (Int32.ofNat na)), .val (.int (Int32.ofNat nb)), .val (.int x0), .val (.int x1), .val (.int y0), .val (.int x1), .val (.ref t13), .val (.ref t14), .unset, .unset] [(.int (own_key x0))] h14 vm14 8 24
            refine RunW.iload at_115 rfl (pc' := 117) rfl ?_
            refine RunW.callS (k' := 8) (n' := 24) (as := [(.int y0)]) (rest := [(.int (own_key x0))]) (con_own_key l Z a0 hw n0 h14 sz14 y0 ) (by rintro _ _ ⟨_, -, -, rfl⟩; exact ⟨[], Keep.refl _ _, all0⟩) at_117 (hw _ (List.mem_of_getElem? (i := 83) rfl)) (hw _ (List.mem_of_getElem? (i := 84) rfl)) (hw _ (List.mem_of_getElem? (i := 3) rfl)) (hw _ (List.mem_of_getElem? (i := 85) rfl)) (by decide) pd__C_I rfl rfl rfl (by decide) (by show (1 : Nat) + (2 + 11) + 0 ≤ _; decide) (by decide) (by decide) (by decide) (by decide) (pc' := 120) rfl ?_
            rintro _ _ ⟨_, rfl, rfl, rfl⟩ -
            show RunW l Z own_EL n0 x.cls code maxLocals ret x.name room_1 _ 120 #[.val (.int p1), .val (.int p2), .val (.int p3), .val (.int (Int32.ofNat na)), .val (.int (Int32.ofNat nb)), .val (.int x0), .val (.int x1), .val (.int y0), .val (.int x1), .val (.ref t13), .val (.ref t14), .unset, .unset] [(.int (own_key y0)), (.int (own_key x0))] h14 vm14 8 24
            refine RunW.isub at_120 (pc' := 121) rfl ?_
            refine RunW.callS (k' := 8) (n' := 24) (as := [(.int ((own_key x0) - (own_key y0)))]) (rest := []) (con_own_sgn l Z a0 hw n0 h14 sz14 ((own_key x0) - (own_key y0)) ) (by rintro _ _ ⟨_, -, -, rfl⟩; exact ⟨[], Keep.refl _ _, all0⟩) at_121 (hw _ (List.mem_of_getElem? (i := 38) rfl)) (hw _ (List.mem_of_getElem? (i := 39) rfl)) (hw _ (List.mem_of_getElem? (i := 3) rfl)) (hw _ (List.mem_of_getElem? (i := 40) rfl)) (by decide) pd__I_I rfl rfl rfl (by decide) (by show (0 : Nat) + (1 + 11) + 0 ≤ _; decide) (by decide) (by decide) (by decide) (by decide) (pc' := 124) rfl ?_
            rintro _ _ ⟨_, rfl, rfl, rfl⟩ -
            show RunW l Z own_EL n0 x.cls code maxLocals ret x.name room_1 _ 124 #[.val (.int p1), .val (.int p2), .val (.int p3), .val (.int (Int32.ofNat na)), .val (.int (Int32.ofNat nb)), .val (.int x0), .val (.int x1), .val (.int y0), .val (.int x1), .val (.ref t13), .val (.ref t14), .unset, .unset] [(.int (own_sgn ((own_key x0) - (own_key y0))))] h14 vm14 8 24
            refine RunW.istore (l' := #[.val (.int p1), .val (.int p2), .val (.int p3), .val (.int (Int32.ofNat na)), .val (.int (Int32.ofNat nb)), .val (.int x0), .val (.int x1), .val (.int y0), .val (.int x1), .val (.ref t13), .val (.ref t14), .val (.int (own_sgn ((own_key x0) - (own_key y0)))), .unset]) at_124 rfl (pc' := 126) rfl ?_
            refine RunW.goto at_126 (by decide) (pc' := 175) (by decide) ?_
            refine RunW.aload at_175 rfl rfl (pc' := 177) rfl ?_
            refine RunW.aload at_177 rfl rfl (pc' := 179) rfl ?_
            refine RunW.callS (k' := 8) (n' := 24) (as := [(.ref t13), (.ref t14)]) (rest := []) (con_cu8 l Z a0 hw n0 h14 sz14 t13 b13 t14 b14 ([x0, x1].take na) ([y0, x1].take nb) fm cz od14 SF hfm SD SH8 SL8 SZ hcz E_t13_14 F_t13_value_14 F_t13_coder_14 A_b13_14 X14 FV14 FC14 P14 (own_t2 _ _ _) (own_tk (own_chr2 q_x0.2 q_x1.2)) (own_t2 _ _ _) (own_tk (own_chr2 q_y0.2 q_x1.2)) ) (by rintro _ _ ⟨_, -, -, rfl⟩; exact ⟨[], Keep.refl _ _, all0⟩) at_179 (hw _ (List.mem_of_getElem? (i := 41) rfl)) (hw _ (List.mem_of_getElem? (i := 42) rfl)) (hw _ (List.mem_of_getElem? (i := 43) rfl)) (hw _ (List.mem_of_getElem? (i := 44) rfl)) (by decide) pd__Ljava_lang_String_Ljava_lang_String__I rfl rfl rfl (by decide) (by show (0 : Nat) + (6 + 11) + 66 ≤ _; decide) (by decide) (by decide) (by decide) (by decide) (pc' := 182) rfl ?_
            rintro _ _ ⟨_, rfl, rfl, rfl⟩ -
            show RunW l Z own_EL n0 x.cls code maxLocals ret x.name room_1 _ 182 #[.val (.int p1), .val (.int p2), .val (.int p3), .val (.int (Int32.ofNat na)), .val (.int (Int32.ofNat nb)), .val (.int x0), .val (.int x1), .val (.int y0), .val (.int x1), .val (.ref t13), .val (.ref t14), .val (.int (own_sgn ((own_key x0) - (own_key y0)))), .unset] [(.int (own_cmp ([x0, x1].take na) ([y0, x1].take nb) (min ([x0, x1].take na).length ([y0, x1].take nb).length) 0))] h14 vm14 8 24
            refine RunW.callS (k' := 8) (n' := 24) (as := [(.int (own_cmp ([x0, x1].take na) ([y0, x1].take nb) (min ([x0, x1].take na).length ([y0, x1].take nb).length) 0))]) (rest := []) (con_own_sgn l Z a0 hw n0 h14 sz14 (own_cmp ([x0, x1].take na) ([y0, x1].take nb) (min ([x0, x1].take na).length ([y0, x1].take nb).length) 0) ) (by rintro _ _ ⟨_, -, -, rfl⟩; exact ⟨[], Keep.refl _ _, all0⟩) at_182 (hw _ (List.mem_of_getElem? (i := 38) rfl)) (hw _ (List.mem_of_getElem? (i := 39) rfl)) (hw _ (List.mem_of_getElem? (i := 3) rfl)) (hw _ (List.mem_of_getElem? (i := 40) rfl)) (by decide) pd__I_I rfl rfl rfl (by decide) (by show (0 : Nat) + (1 + 11) + 0 ≤ _; decide) (by decide) (by decide) (by decide) (by decide) (pc' := 185) rfl ?_
            rintro _ _ ⟨_, rfl, rfl, rfl⟩ -
            show RunW l Z own_EL n0 x.cls code maxLocals ret x.name room_1 _ 185 #[.val (.int p1), .val (.int p2), .val (.int p3), .val (.int (Int32.ofNat na)), .val (.int (Int32.ofNat nb)), .val (.int x0), .val (.int x1), .val (.int y0), .val (.int x1), .val (.ref t13), .val (.ref t14), .val (.int (own_sgn ((own_key x0) - (own_key y0)))), .unset] [(.int (own_sgn (own_cmp ([x0, x1].take na) ([y0, x1].take nb) (min ([x0, x1].take na).length ([y0, x1].take nb).length) 0)))] h14 vm14 8 24
            refine RunW.istore (l' := #[.val (.int p1), .val (.int p2), .val (.int p3), .val (.int (Int32.ofNat na)), .val (.int (Int32.ofNat nb)), .val (.int x0), .val (.int x1), .val (.int y0), .val (.int x1), .val (.ref t13), .val (.ref t14), .val (.int (own_sgn ((own_key x0) - (own_key y0)))), .val (.int (own_sgn (own_cmp ([x0, x1].take na) ([y0, x1].take nb) (min ([x0, x1].take na).length ([y0, x1].take nb).length) 0)))]) at_185 rfl (pc' := 187) rfl ?_
            refine RunW.iload at_187 rfl (pc' := 189) rfl ?_
            refine RunW.iload at_189 rfl (pc' := 191) rfl ?_
            refine RunW.icmp_ne at_191 (by decide) (pc' := 198) (by decide) (pa := 194) rfl (fun hc191 => ?_) (fun hc191 => ?_)
            · -- pc 191 taken: ¬ (own_sgn (own_cmp ([x0, x1].take na) ([y0, x1].take nb) (min ([x0, x1].take na).length ([y0, x1].take nb).length) 0)) = (own_sgn ((own_key x0) - (own_key y0)))
              exact absurd (own_L1 h_na h_nb (own_gt0 hc95 (by omega)) (own_gt0 hc100 (by omega)) q_x0.2 q_y0.2 hc107) hc191
            · -- pc 191 not taken: (own_sgn (own_cmp ([x0, x1].take na) ([y0, x1].take nb) (min ([x0, x1].take na).length ([y0, x1].take nb).length) 0)) = (own_sgn ((own_key x0) - (own_key y0)))
              refine RunW.iconst (1 : Int32) at_194 (by decide) (pc' := 195) rfl ?_
              refine RunW.goto at_195 (by decide) (pc' := 199) (by decide) ?_
              exact RunW.nreturn at_199 (ty := .boolean) rfl (by simp) (by decide) (by decide) ⟨_, rfl, rfl⟩
  · -- pc 54 not taken: ¬ ((XT.ushr p3 (4 : Int32)) &&& (1 : Int32)) = (0 : Int32)
    refine RunW.iload at_57 rfl (pc' := 59) rfl ?_
    refine RunW.istore (l' := #[.val (.int p1), .val (.int p2), .val (.int p3), .val (.int (Int32.ofNat na)), .val (.int (Int32.ofNat nb)), .val (.int x0), .val (.int x1), .val (.int x0), .val (.int y1), .unset, .unset, .unset, .unset]) at_59 rfl (pc' := 61) rfl ?_
    refine RunW.iloadN at_61 rfl (pc' := 62) rfl ?_
    refine RunW.iconst (5 : Int32) at_62 (by decide) (pc' := 63) rfl ?_
    refine RunW.iushr at_63 (pc' := 64) rfl ?_
    refine RunW.iconst (1 : Int32) at_64 (by decide) (pc' := 65) rfl ?_
    refine RunW.iand at_65 (pc' := 66) rfl ?_
    refine RunW.if_eq at_66 (by decide) (pc' := 73) (by decide) (pa := 69) rfl (fun hc66 => ?_) (fun hc66 => ?_)
    · -- pc 66 taken: ((XT.ushr p3 (5 : Int32)) &&& (1 : Int32)) = (0 : Int32)
      refine RunW.iloadN at_73 rfl (pc' := 74) rfl ?_
      refine RunW.iload at_74 rfl (pc' := 76) rfl ?_
      refine RunW.iload at_76 rfl (pc' := 78) rfl ?_
      refine RunW.callSW (k' := 4) (n' := 12) (as := [(.int (Int32.ofNat na)), (.int x0), (.int x1)]) (rest := []) (con_str l Z a0 hw n0 h0 Z0 na h_na x0 x1 cz od0 SD SH8 SL8 SZ hcz q_x0 q_x1) all0 (own_EW hw) at_78 (hw _ (List.mem_of_getElem? (i := 1) rfl)) (hw _ (List.mem_of_getElem? (i := 2) rfl)) (hw _ (List.mem_of_getElem? (i := 3) rfl)) (hw _ (List.mem_of_getElem? (i := 4) rfl)) (by decide) pd__ICC_Ljava_lang_String_ rfl rfl rfl (by decide) (by show (0 : Nat) + (3 + 11) + 88 ≤ _; decide) (by decide) (by decide) (by decide) (by decide) (pc' := 81) rfl ?_
      rintro _ h15 vm15 ⟨_, rfl, ⟨t15, b15, rfl, E15, X15, FV15, FC15, P15⟩⟩ c15
      show RunW l Z own_EL n0 x.cls code maxLocals ret x.name room_1 _ 81 #[.val (.int p1), .val (.int p2), .val (.int p3), .val (.int (Int32.ofNat na)), .val (.int (Int32.ofNat nb)), .val (.int x0), .val (.int x1), .val (.int x0), .val (.int y1), .unset, .unset, .unset, .unset] [(.ref t15)] h15 vm15 4 12
      have sz15 : n0 ≤ h15.size := Nat.le_trans Z0 E15.1
      have kp15 := Keep.ext (Keep.refl h0 []) E15
      have od15 := od0.ext E15
      refine RunW.astore (l' := #[.val (.int p1), .val (.int p2), .val (.int p3), .val (.int (Int32.ofNat na)), .val (.int (Int32.ofNat nb)), .val (.int x0), .val (.int x1), .val (.int x0), .val (.int y1), .val (.ref t15), .unset, .unset, .unset]) at_81 rfl rfl (pc' := 83) rfl ?_
      refine RunW.iload at_83 rfl (pc' := 85) rfl ?_
      refine RunW.iload at_85 rfl (pc' := 87) rfl ?_
      refine RunW.iload at_87 rfl (pc' := 89) rfl ?_
      refine RunW.callSW (k' := 8) (n' := 24) (as := [(.int (Int32.ofNat nb)), (.int x0), (.int y1)]) (rest := []) (con_str l Z a0 hw n0 h15 sz15 nb h_nb x0 y1 cz od15 SD SH8 SL8 SZ hcz q_x0 q_y1) all0 (own_EW hw) at_89 (hw _ (List.mem_of_getElem? (i := 1) rfl)) (hw _ (List.mem_of_getElem? (i := 2) rfl)) (hw _ (List.mem_of_getElem? (i := 3) rfl)) (hw _ (List.mem_of_getElem? (i := 4) rfl)) (by decide) pd__ICC_Ljava_lang_String_ rfl rfl rfl (by decide) (by show (0 : Nat) + (3 + 11) + 88 ≤ _; decide) (by decide) (by decide) (by decide) (by decide) (pc' := 92) rfl ?_
      rintro _ h16 vm16 ⟨_, rfl, ⟨t16, b16, rfl, E16, X16, FV16, FC16, P16⟩⟩ c16
      show RunW l Z own_EL n0 x.cls code maxLocals ret x.name room_1 _ 92 #[.val (.int p1), .val (.int p2), .val (.int p3), .val (.int (Int32.ofNat na)), .val (.int (Int32.ofNat nb)), .val (.int x0), .val (.int x1), .val (.int x0), .val (.int y1), .val (.ref t15), .unset, .unset, .unset] [(.ref t16)] h16 vm16 8 24
      have E_t15_16 := X15.ext E16
      have F_t15_value_16 := FV15.ext E16
      have F_t15_coder_16 := FC15.ext E16
      have A_b15_16 := P15.ext E16
      have sz16 : n0 ≤ h16.size := Nat.le_trans sz15 E16.1
      have kp16 := Keep.ext kp15 E16
      have od16 := od15.ext E16
      refine RunW.astore (l' := #[.val (.int p1), .val (.int p2), .val (.int p3), .val (.int (Int32.ofNat na)), .val (.int (Int32.ofNat nb)), .val (.int x0), .val (.int x1), .val (.int x0), .val (.int y1), .val (.ref t15), .val (.ref t16), .unset, .unset]) at_92 rfl rfl (pc' := 94) rfl ?_
      refine RunW.iloadN at_94 rfl (pc' := 95) rfl ?_
      refine RunW.if_le at_95 (by decide) (pc' := 129) (by decide) (pa := 98) rfl (fun hc95 => ?_) (fun hc95 => ?_)
      · -- pc 95 taken: ¬ (0 : Int32) < (Int32.ofNat na)
        refine RunW.iloadN at_129 rfl (pc' := 130) rfl ?_
        refine RunW.iconst (1 : Int32) at_130 (by decide) (pc' := 131) rfl ?_
        refine RunW.icmp_le at_131 (by decide) (pc' := 166) (by decide) (pa := 134) rfl (fun hc131 => ?_) (fun hc131 => ?_)
        · -- pc 131 taken: ¬ (1 : Int32) < (Int32.ofNat na)
          refine RunW.iloadN at_166 rfl (pc' := 167) rfl ?_
          refine RunW.iload at_167 rfl (pc' := 169) rfl ?_
          refine RunW.isub at_169 (pc' := 170) rfl ?_
          refine RunW.callS (k' := 8) (n' := 24) (as := [(.int ((Int32.ofNat na) - (Int32.ofNat nb)))]) (rest := []) (con_own_sgn l Z a0 hw n0 h16 sz16 ((Int32.ofNat na) - (Int32.ofNat nb)) ) (by rintro _ _ ⟨_, -, -, rfl⟩; exact ⟨[], Keep.refl _ _, all0⟩) at_170 (hw _ (List.mem_of_getElem? (i := 38) rfl)) (hw _ (List.mem_of_getElem? (i := 39) rfl)) (hw _ (List.mem_of_getElem? (i := 3) rfl)) (hw _ (List.mem_of_getElem? (i := 40) rfl)) (by decide) pd__I_I rfl rfl rfl (by decide) (by show (0 : Nat) + (1 + 11) + 0 ≤ _; decide) (by decide) (by decide) (by decide) (by decide) (pc' := 173) rfl ?_
          rintro _ _ ⟨_, rfl, rfl, rfl⟩ -
          show RunW l Z own_EL n0 x.cls code maxLocals ret x.name room_1 _ 173 #[.val (.int p1), .val (.int p2), .val (.int p3), .val (.int (Int32.ofNat na)), .val (.int (Int32.ofNat nb)), .val (.int x0), .val (.int x1), .val (.int x0), .val (.int y1), .val (.ref t15), .val (.ref t16), .unset, .unset] [(.int (own_sgn ((Int32.ofNat na) - (Int32.ofNat nb))))] h16 vm16 8 24
          refine RunW.istore (l' := #[.val (.int p1), .val (.int p2), .val (.int p3), .val (.int (Int32.ofNat na)), .val (.int (Int32.ofNat nb)), .val (.int x0), .val (.int x1), .val (.int x0), .val (.int y1), .val (.ref t15), .val (.ref t16), .val (.int (own_sgn ((Int32.ofNat na) - (Int32.ofNat nb)))), .unset]) at_173 rfl (pc' := 175) rfl ?_
          refine RunW.aload at_175 rfl rfl (pc' := 177) rfl ?_
          refine RunW.aload at_177 rfl rfl (pc' := 179) rfl ?_
          refine RunW.callS (k' := 8) (n' := 24) (as := [(.ref t15), (.ref t16)]) (rest := []) (con_cu8 l Z a0 hw n0 h16 sz16 t15 b15 t16 b16 ([x0, x1].take na) ([x0, y1].take nb) fm cz od16 SF hfm SD SH8 SL8 SZ hcz E_t15_16 F_t15_value_16 F_t15_coder_16 A_b15_16 X16 FV16 FC16 P16 (own_t2 _ _ _) (own_tk (own_chr2 q_x0.2 q_x1.2)) (own_t2 _ _ _) (own_tk (own_chr2 q_x0.2 q_y1.2)) ) (by rintro _ _ ⟨_, -, -, rfl⟩; exact ⟨[], Keep.refl _ _, all0⟩) at_179 (hw _ (List.mem_of_getElem? (i := 41) rfl)) (hw _ (List.mem_of_getElem? (i := 42) rfl)) (hw _ (List.mem_of_getElem? (i := 43) rfl)) (hw _ (List.mem_of_getElem? (i := 44) rfl)) (by decide) pd__Ljava_lang_String_Ljava_lang_String__I rfl rfl rfl (by decide) (by show (0 : Nat) + (6 + 11) + 66 ≤ _; decide) (by decide) (by decide) (by decide) (by decide) (pc' := 182) rfl ?_
          rintro _ _ ⟨_, rfl, rfl, rfl⟩ -
          show RunW l Z own_EL n0 x.cls code maxLocals ret x.name room_1 _ 182 #[.val (.int p1), .val (.int p2), .val (.int p3), .val (.int (Int32.ofNat na)), .val (.int (Int32.ofNat nb)), .val (.int x0), .val (.int x1), .val (.int x0), .val (.int y1), .val (.ref t15), .val (.ref t16), .val (.int (own_sgn ((Int32.ofNat na) - (Int32.ofNat nb)))), .unset] [(.int (own_cmp ([x0, x1].take na) ([x0, y1].take nb) (min ([x0, x1].take na).length ([x0, y1].take nb).length) 0))] h16 vm16 8 24
          refine RunW.callS (k' := 8) (n' := 24) (as := [(.int (own_cmp ([x0, x1].take na) ([x0, y1].take nb) (min ([x0, x1].take na).length ([x0, y1].take nb).length) 0))]) (rest := []) (con_own_sgn l Z a0 hw n0 h16 sz16 (own_cmp ([x0, x1].take na) ([x0, y1].take nb) (min ([x0, x1].take na).length ([x0, y1].take nb).length) 0) ) (by rintro _ _ ⟨_, -, -, rfl⟩; exact ⟨[], Keep.refl _ _, all0⟩) at_182 (hw _ (List.mem_of_getElem? (i := 38) rfl)) (hw _ (List.mem_of_getElem? (i := 39) rfl)) (hw _ (List.mem_of_getElem? (i := 3) rfl)) (hw _ (List.mem_of_getElem? (i := 40) rfl)) (by decide) pd__I_I rfl rfl rfl (by decide) (by show (0 : Nat) + (1 + 11) + 0 ≤ _; decide) (by decide) (by decide) (by decide) (by decide) (pc' := 185) rfl ?_
          rintro _ _ ⟨_, rfl, rfl, rfl⟩ -
          show RunW l Z own_EL n0 x.cls code maxLocals ret x.name room_1 _ 185 #[.val (.int p1), .val (.int p2), .val (.int p3), .val (.int (Int32.ofNat na)), .val (.int (Int32.ofNat nb)), .val (.int x0), .val (.int x1), .val (.int x0), .val (.int y1), .val (.ref t15), .val (.ref t16), .val (.int (own_sgn ((Int32.ofNat na) - (Int32.ofNat nb)))), .unset] [(.int (own_sgn (own_cmp ([x0, x1].take na) ([x0, y1].take nb) (min ([x0, x1].take na).length ([x0, y1].take nb).length) 0)))] h16 vm16 8 24
          refine RunW.istore (l' := #[.val (.int p1), .val (.int p2), .val (.int p3), .val (.int (Int32.ofNat na)), .val (.int (Int32.ofNat nb)), .val (.int x0), .val (.int x1), .val (.int x0), .val (.int y1), .val (.ref t15), .val (.ref t16), .val (.int (own_sgn ((Int32.ofNat na) - (Int32.ofNat nb)))), .val (.int (own_sgn (own_cmp ([x0, x1].take na) ([x0, y1].take nb) (min ([x0, x1].take na).length ([x0, y1].take nb).length) 0)))]) at_185 rfl (pc' := 187) rfl ?_
          refine RunW.iload at_187 rfl (pc' := 189) rfl ?_
          refine RunW.iload at_189 rfl (pc' := 191) rfl ?_
          refine RunW.icmp_ne at_191 (by decide) (pc' := 198) (by decide) (pa := 194) rfl (fun hc191 => ?_) (fun hc191 => ?_)
          · -- pc 191 taken: ¬ (own_sgn (own_cmp ([x0, x1].take na) ([x0, y1].take nb) (min ([x0, x1].take na).length ([x0, y1].take nb).length) 0)) = (own_sgn ((Int32.ofNat na) - (Int32.ofNat nb)))
            exact absurd (own_L3 h_na h_nb (Or.inl (own_le0 hc95 (by omega))) (Or.inl (own_le1 hc131 (by omega)))) hc191
          · -- pc 191 not taken: (own_sgn (own_cmp ([x0, x1].take na) ([x0, y1].take nb) (min ([x0, x1].take na).length ([x0, y1].take nb).length) 0)) = (own_sgn ((Int32.ofNat na) - (Int32.ofNat nb)))
            refine RunW.iconst (1 : Int32) at_194 (by decide) (pc' := 195) rfl ?_
            refine RunW.goto at_195 (by decide) (pc' := 199) (by decide) ?_
            exact RunW.nreturn at_199 (ty := .boolean) rfl (by simp) (by decide) (by decide) ⟨_, rfl, rfl⟩
        · -- pc 131 not taken: (1 : Int32) < (Int32.ofNat na)
          refine RunW.iload at_134 rfl (pc' := 136) rfl ?_
          refine RunW.iconst (1 : Int32) at_136 (by decide) (pc' := 137) rfl ?_
          refine RunW.icmp_le at_137 (by decide) (pc' := 166) (by decide) (pa := 140) rfl (fun hc137 => ?_) (fun hc137 => ?_)
          · -- pc 137 taken: ¬ (1 : Int32) < (Int32.ofNat nb)
            refine RunW.iloadN at_166 rfl (pc' := 167) rfl ?_
            refine RunW.iload at_167 rfl (pc' := 169) rfl ?_
            refine RunW.isub at_169 (pc' := 170) rfl ?_
            refine RunW.callS (k' := 8) (n' := 24) (as := [(.int ((Int32.ofNat na) - (Int32.ofNat nb)))]) (rest := []) (con_own_sgn l Z a0 hw n0 h16 sz16 ((Int32.ofNat na) - (Int32.ofNat nb)) ) (by rintro _ _ ⟨_, -, -, rfl⟩; exact ⟨[], Keep.refl _ _, all0⟩) at_170 (hw _ (List.mem_of_getElem? (i := 38) rfl)) (hw _ (List.mem_of_getElem? (i := 39) rfl)) (hw _ (List.mem_of_getElem? (i := 3) rfl)) (hw _ (List.mem_of_getElem? (i := 40) rfl)) (by decide) pd__I_I rfl rfl rfl (by decide) (by show (0 : Nat) + (1 + 11) + 0 ≤ _; decide) (by decide) (by decide) (by decide) (by decide) (pc' := 173) rfl ?_
            rintro _ _ ⟨_, rfl, rfl, rfl⟩ -
            show RunW l Z own_EL n0 x.cls code maxLocals ret x.name room_1 _ 173 #[.val (.int p1), .val (.int p2), .val (.int p3), .val (.int (Int32.ofNat na)), .val (.int (Int32.ofNat nb)), .val (.int x0), .val (.int x1), .val (.int x0), .val (.int y1), .val (.ref t15), .val (.ref t16), .unset, .unset] [(.int (own_sgn ((Int32.ofNat na) - (Int32.ofNat nb))))] h16 vm16 8 24
            refine RunW.istore (l' := #[.val (.int p1), .val (.int p2), .val (.int p3), .val (.int (Int32.ofNat na)), .val (.int (Int32.ofNat nb)), .val (.int x0), .val (.int x1), .val (.int x0), .val (.int y1), .val (.ref t15), .val (.ref t16), .val (.int (own_sgn ((Int32.ofNat na) - (Int32.ofNat nb)))), .unset]) at_173 rfl (pc' := 175) rfl ?_
            refine RunW.aload at_175 rfl rfl (pc' := 177) rfl ?_
            refine RunW.aload at_177 rfl rfl (pc' := 179) rfl ?_
            refine RunW.callS (k' := 8) (n' := 24) (as := [(.ref t15), (.ref t16)]) (rest := []) (con_cu8 l Z a0 hw n0 h16 sz16 t15 b15 t16 b16 ([x0, x1].take na) ([x0, y1].take nb) fm cz od16 SF hfm SD SH8 SL8 SZ hcz E_t15_16 F_t15_value_16 F_t15_coder_16 A_b15_16 X16 FV16 FC16 P16 (own_t2 _ _ _) (own_tk (own_chr2 q_x0.2 q_x1.2)) (own_t2 _ _ _) (own_tk (own_chr2 q_x0.2 q_y1.2)) ) (by rintro _ _ ⟨_, -, -, rfl⟩; exact ⟨[], Keep.refl _ _, all0⟩) at_179 (hw _ (List.mem_of_getElem? (i := 41) rfl)) (hw _ (List.mem_of_getElem? (i := 42) rfl)) (hw _ (List.mem_of_getElem? (i := 43) rfl)) (hw _ (List.mem_of_getElem? (i := 44) rfl)) (by decide) pd__Ljava_lang_String_Ljava_lang_String__I rfl rfl rfl (by decide) (by show (0 : Nat) + (6 + 11) + 66 ≤ _; decide) (by decide) (by decide) (by decide) (by decide) (pc' := 182) rfl ?_
            rintro _ _ ⟨_, rfl, rfl, rfl⟩ -
            show RunW l Z own_EL n0 x.cls code maxLocals ret x.name room_1 _ 182 #[.val (.int p1), .val (.int p2), .val (.int p3), .val (.int (Int32.ofNat na)), .val (.int (Int32.ofNat nb)), .val (.int x0), .val (.int x1), .val (.int x0), .val (.int y1), .val (.ref t15), .val (.ref t16), .val (.int (own_sgn ((Int32.ofNat na) - (Int32.ofNat nb)))), .unset] [(.int (own_cmp ([x0, x1].take na) ([x0, y1].take nb) (min ([x0, x1].take na).length ([x0, y1].take nb).length) 0))] h16 vm16 8 24
            refine RunW.callS (k' := 8) (n' := 24) (as := [(.int (own_cmp ([x0, x1].take na) ([x0, y1].take nb) (min ([x0, x1].take na).length ([x0, y1].take nb).length) 0))]) (rest := []) (con_own_sgn l Z a0 hw n0 h16 sz16 (own_cmp ([x0, x1].take na) ([x0, y1].take nb) (min ([x0, x1].take na).length ([x0, y1].take nb).length) 0) ) (by rintro _ _ ⟨_, -, -, rfl⟩; exact ⟨[], Keep.refl _ _, all0⟩) at_182 (hw _ (List.mem_of_getElem? (i := 38) rfl)) (hw _ (List.mem_of_getElem? (i := 39) rfl)) (hw _ (List.mem_of_getElem? (i := 3) rfl)) (hw _ (List.mem_of_getElem? (i := 40) rfl)) (by decide) pd__I_I rfl rfl rfl (by decide) (by show (0 : Nat) + (1 + 11) + 0 ≤ _; decide) (by decide) (by decide) (by decide) (by decide) (pc' := 185) rfl ?_
            rintro _ _ ⟨_, rfl, rfl, rfl⟩ -
            show RunW l Z own_EL n0 x.cls code maxLocals ret x.name room_1 _ 185 #[.val (.int p1), .val (.int p2), .val (.int p3), .val (.int (Int32.ofNat na)), .val (.int (Int32.ofNat nb)), .val (.int x0), .val (.int x1), .val (.int x0), .val (.int y1), .val (.ref t15), .val (.ref t16), .val (.int (own_sgn ((Int32.ofNat na) - (Int32.ofNat nb)))), .unset] [(.int (own_sgn (own_cmp ([x0, x1].take na) ([x0, y1].take nb) (min ([x0, x1].take na).length ([x0, y1].take nb).length) 0)))] h16 vm16 8 24
            refine RunW.istore (l' := #[.val (.int p1), .val (.int p2), .val (.int p3), .val (.int (Int32.ofNat na)), .val (.int (Int32.ofNat nb)), .val (.int x0), .val (.int x1), .val (.int x0), .val (.int y1), .val (.ref t15), .val (.ref t16), .val (.int (own_sgn ((Int32.ofNat na) - (Int32.ofNat nb)))), .val (.int (own_sgn (own_cmp ([x0, x1].take na) ([x0, y1].take nb) (min ([x0, x1].take na).length ([x0, y1].take nb).length) 0)))]) at_185 rfl (pc' := 187) rfl ?_
            refine RunW.iload at_187 rfl (pc' := 189) rfl ?_
            refine RunW.iload at_189 rfl (pc' := 191) rfl ?_
            refine RunW.icmp_ne at_191 (by decide) (pc' := 198) (by decide) (pa := 194) rfl (fun hc191 => ?_) (fun hc191 => ?_)
            · -- pc 191 taken: ¬ (own_sgn (own_cmp ([x0, x1].take na) ([x0, y1].take nb) (min ([x0, x1].take na).length ([x0, y1].take nb).length) 0)) = (own_sgn ((Int32.ofNat na) - (Int32.ofNat nb)))
              exact absurd (own_L3 h_na h_nb (Or.inl (own_le0 hc95 (by omega))) (Or.inr (Or.inl (own_le1 hc137 (by omega))))) hc191
            · -- pc 191 not taken: (own_sgn (own_cmp ([x0, x1].take na) ([x0, y1].take nb) (min ([x0, x1].take na).length ([x0, y1].take nb).length) 0)) = (own_sgn ((Int32.ofNat na) - (Int32.ofNat nb)))
              refine RunW.iconst (1 : Int32) at_194 (by decide) (pc' := 195) rfl ?_
              refine RunW.goto at_195 (by decide) (pc' := 199) (by decide) ?_
              exact RunW.nreturn at_199 (ty := .boolean) rfl (by simp) (by decide) (by decide) ⟨_, rfl, rfl⟩
          · -- pc 137 not taken: (1 : Int32) < (Int32.ofNat nb)
            refine RunW.iload at_140 rfl (pc' := 142) rfl ?_
            refine RunW.iload at_142 rfl (pc' := 144) rfl ?_
            refine RunW.icmp_eq at_144 (by decide) (pc' := 166) (by decide) (pa := 147) rfl (fun hc144 => ?_) (fun hc144 => ?_)
            · -- pc 144 taken: x1 = y1
              refine RunW.iloadN at_166 rfl (pc' := 167) rfl ?_
              refine RunW.iload at_167 rfl (pc' := 169) rfl ?_
              refine RunW.isub at_169 (pc' := 170) rfl ?_
              refine RunW.callS (k' := 8) (n' := 24) (as := [(.int ((Int32.ofNat na) - (Int32.ofNat nb)))]) (rest := []) (con_own_sgn l Z a0 hw n0 h16 sz16 ((Int32.ofNat na) - (Int32.ofNat nb)) ) (by rintro _ _ ⟨_, -, -, rfl⟩; exact ⟨[], Keep.refl _ _, all0⟩) at_170 (hw _ (List.mem_of_getElem? (i := 38) rfl)) (hw _ (List.mem_of_getElem? (i := 39) rfl)) (hw _ (List.mem_of_getElem? (i := 3) rfl)) (hw _ (List.mem_of_getElem? (i := 40) rfl)) (by decide) pd__I_I rfl rfl rfl (by decide) (by show (0 : Nat) + (1 + 11) + 0 ≤ _; decide) (by decide) (by decide) (by decide) (by decide) (pc' := 173) rfl ?_
              rintro _ _ ⟨_, rfl, rfl, rfl⟩ -
              show RunW l Z own_EL n0 x.cls code maxLocals ret x.name room_1 _ 173 #[.val (.int p1), .val (.int p2), .val (.int p3), .val (.int (Int32.ofNat na)), .val (.int (Int32.ofNat nb)), .val (.int x0), .val (.int x1), .val (.int x0), .val (.int y1), .val (.ref t15), .val (.ref t16), .unset, .unset] [(.int (own_sgn ((Int32.ofNat na) - (Int32.ofNat nb))))] h16 vm16 8 24
              refine RunW.istore (l' := #[.val (.int p1), .val (.int p2), .val (.int p3), .val (.int (Int32.ofNat na)), .val (.int (Int32.ofNat nb)), .val (.int x0), .val (.int x1), .val (.int x0), .val (.int y1), .val (.ref t15), .val (.ref t16), .val (.int (own_sgn ((Int32.ofNat na) - (Int32.ofNat nb)))), .unset]) at_173 rfl (pc' := 175) rfl ?_
              refine RunW.aload at_175 rfl rfl (pc' := 177) rfl ?_
              refine RunW.aload at_177 rfl rfl (pc' := 179) rfl ?_
              refine RunW.callS (k' := 8) (n' := 24) (as := [(.ref t15), (.ref t16)]) (rest := []) (con_cu8 l Z a0 hw n0 h16 sz16 t15 b15 t16 b16 ([x0, x1].take na) ([x0, y1].take nb) fm cz od16 SF hfm SD SH8 SL8 SZ hcz E_t15_16 F_t15_value_16 F_t15_coder_16 A_b15_16 X16 FV16 FC16 P16 (own_t2 _ _ _) (own_tk (own_chr2 q_x0.2 q_x1.2)) (own_t2 _ _ _) (own_tk (own_chr2 q_x0.2 q_y1.2)) ) (by rintro _ _ ⟨_, -, -, rfl⟩; exact ⟨[], Keep.refl _ _, all0⟩) at_179 (hw _ (List.mem_of_getElem? (i := 41) rfl)) (hw _ (List.mem_of_getElem? (i := 42) rfl)) (hw _ (List.mem_of_getElem? (i := 43) rfl)) (hw _ (List.mem_of_getElem? (i := 44) rfl)) (by decide) pd__Ljava_lang_String_Ljava_lang_String__I rfl rfl rfl (by decide) (by show (0 : Nat) + (6 + 11) + 66 ≤ _; decide) (by decide) (by decide) (by decide) (by decide) (pc' := 182) rfl ?_
              rintro _ _ ⟨_, rfl, rfl, rfl⟩ -
              show RunW l Z own_EL n0 x.cls code maxLocals ret x.name room_1 _ 182 #[.val (.int p1), .val (.int p2), .val (.int p3), .val (.int (Int32.ofNat na)), .val (.int (Int32.ofNat nb)), .val (.int x0), .val (.int x1), .val (.int x0), .val (.int y1), .val (.ref t15), .val (.ref t16), .val (.int (own_sgn ((Int32.ofNat na) - (Int32.ofNat nb)))), .unset] [(.int (own_cmp ([x0, x1].take na) ([x0, y1].take nb) (min ([x0, x1].take na).length ([x0, y1].take nb).length) 0))] h16 vm16 8 24
              refine RunW.callS (k' := 8) (n' := 24) (as := [(.int (own_cmp ([x0, x1].take na) ([x0, y1].take nb) (min ([x0, x1].take na).length ([x0, y1].take nb).length) 0))]) (rest := []) (con_own_sgn l Z a0 hw n0 h16 sz16 (own_cmp ([x0, x1].take na) ([x0, y1].take nb) (min ([x0, x1].take na).length ([x0, y1].take nb).length) 0) ) (by rintro _ _ ⟨_, -, -, rfl⟩; exact ⟨[], Keep.refl _ _, all0⟩) at_182 (hw _ (List.mem_of_getElem? (i := 38) rfl)) (hw _ (List.mem_of_getElem? (i := 39) rfl)) (hw _ (List.mem_of_getElem? (i := 3) rfl)) (hw _ (List.mem_of_getElem? (i := 40) rfl)) (by decide) pd__I_I rfl rfl rfl (by decide) (by show (0 : Nat) + (1 + 11) + 0 ≤ _; decide) (by decide) (by decide) (by decide) (by decide) (pc' := 185) rfl ?_
              rintro _ _ ⟨_, rfl, rfl, rfl⟩ -
              show RunW l Z own_EL n0 x.cls code maxLocals ret x.name room_1 _ 185 #[.val (.int p1), .val (.int p2), .val (.int p3), .val (.int (Int32.ofNat na)), .val (.int (Int32.ofNat nb)), .val (.int x0), .val (.int x1), .val (.int x0), .val (.int y1), .val (.ref t15), .val (.ref t16), .val (.int (own_sgn ((Int32.ofNat na) - (Int32.ofNat nb)))), .unset] [(.int (own_sgn (own_cmp ([x0, x1].take na) ([x0, y1].take nb) (min ([x0, x1].take na).length ([x0, y1].take nb).length) 0)))] h16 vm16 8 24
              refine RunW.istore (l' := #[.val (.int p1), .val (.int p2), .val (.int p3), .val (.int (Int32.ofNat na)), .val (.int (Int32.ofNat nb)), .val (.int x0), .val (.int x1), .val (.int x0), .val (.int y1), .val (.ref t15), .val (.ref t16), .val (.int (own_sgn ((Int32.ofNat na) - (Int32.ofNat nb)))), .val (.int (own_sgn (own_cmp ([x0, x1].take na) ([x0, y1].take nb) (min ([x0, x1].take na).length ([x0, y1].take nb).length) 0)))]) at_185 rfl (pc' := 187) rfl ?_
              refine RunW.iload at_187 rfl (pc' := 189) rfl ?_
              refine RunW.iload at_189 rfl (pc' := 191) rfl ?_
              refine RunW.icmp_ne at_191 (by decide) (pc' := 198) (by decide) (pa := 194) rfl (fun hc191 => ?_) (fun hc191 => ?_)
              · -- pc 191 taken: ¬ (own_sgn (own_cmp ([x0, x1].take na) ([x0, y1].take nb) (min ([x0, x1].take na).length ([x0, y1].take nb).length) 0)) = (own_sgn ((Int32.ofNat na) - (Int32.ofNat nb)))
                exact absurd (own_L3 h_na h_nb (Or.inl (own_le0 hc95 (by omega))) (Or.inr (Or.inr hc144))) hc191
              · -- pc 191 not taken: (own_sgn (own_cmp ([x0, x1].take na) ([x0, y1].take nb) (min ([x0, x1].take na).length ([x0, y1].take nb).length) 0)) = (own_sgn ((Int32.ofNat na) - (Int32.ofNat nb)))
                refine RunW.iconst (1 : Int32) at_194 (by decide) (pc' := 195) rfl ?_
                refine RunW.goto at_195 (by decide) (pc' := 199) (by decide) ?_
                exact RunW.nreturn at_199 (ty := .boolean) rfl (by simp) (by decide) (by decide) ⟨_, rfl, rfl⟩
            · -- pc 144 not taken: ¬ x1 = y1
              refine RunW.iload at_147 rfl (pc' := 149) rfl ?_
              refine RunW.callS (k' := 8) (n' := 24) (as := [(.int x1)]) (rest := []) (con_own_key l Z a0 hw n0 h16 sz16 x1 ) (by rintro _ _ ⟨_, -, -, rfl⟩; exact ⟨[], Keep.refl _ _, all0⟩) at_149 (hw _ (List.mem_of_getElem? (i := 83) rfl)) (hw _ (List.mem_of_getElem? (i := 84) rfl)) (hw _ (List.mem_of_getElem? (i := 3) rfl)) (hw _ (List.mem_of_getElem? (i := 85) rfl)) (by decide) pd__C_I rfl rfl rfl (by decide) (by show (0 : Nat) + (2 + 11) + 0 ≤ _; decide) (by decide) (by decide) (by decide) (by decide) (pc' := 152) rfl ?_
              rintro _ _ ⟨_, rfl, rfl, rfl⟩ -
              show RunW l Z own_EL n0 x.cls code maxLocals ret x.name room_1 _ 152 #[.val (.int p1), .val (.int p2), .val (.int p3), .val (.int (Int32.ofNat na)), .val (.int (Int32.ofNat nb)), .val (.int x0), .val (.int x1), .val (.int x0), .val (.int y1), .val (.ref t15), .val (.ref t16), .unset, .unset] [(.int (own_key x1))] h16 vm16 8 24
              refine RunW.iload at_152 rfl (pc' := 154) rfl ?_
              refine RunW.callS (k' := 8) (n' := 24) (as := [(.int y1)]) (rest := [(.int (own_key x1))]) (con_own_key l Z a0 hw n0 h16 sz16 y1 ) (by rintro _ _ ⟨_, -, -, rfl⟩; exact ⟨[], Keep.refl _ _, all0⟩) at_154 (hw _ (List.mem_of_getElem? (i := 83) rfl)) (hw _ (List.mem_of_getElem? (i := 84) rfl)) (hw _ (List.mem_of_getElem? (i := 3) rfl)) (hw _ (List.mem_of_getElem? (i := 85) rfl)) (by decide) pd__C_I rfl rfl rfl (by decide) (by show (1 : Nat) + (2 + 11) + 0 ≤ _; decide) (by decide) (by decide) (by decide) (by decide) (pc' := 157) rfl ?_
              rintro _ _ ⟨_, rfl, rfl, rfl⟩ -
              show RunW l Z own_EL n0 x.cls code maxLocals ret x.name room_1 _ 157 #[.val (.int p1), .val (.int p2), .val (.int p3), .val (.int (Int32.ofNat na)), .val (.int (Int32.ofNat nb)), .val (.int x0), .val (.int x1), .val (.int x0), .val (.int y1), .val (.ref t15), .val (.ref t16), .unset, .unset] [(.int (own_key y1)), (.int (own_key x1))] h16 vm16 8 24
              refine RunW.isub at_157 (pc' := 158) rfl ?_
              refine RunW.callS (k' := 8) (n' := 24) (as := [(.int ((own_key x1) - (own_key y1)))]) (rest := []) (con_own_sgn l Z a0 hw n0 h16 sz16 ((own_key x1) - (own_key y1)) ) (by rintro _ _ ⟨_, -, -, rfl⟩; exact ⟨[], Keep.refl _ _, all0⟩) at_158 (hw _ (List.mem_of_getElem? (i := 38) rfl)) (hw _ (List.mem_of_getElem? (i := 39) rfl)) (hw _ (List.mem_of_getElem? (i := 3) rfl)) (hw _ (List.mem_of_getElem? (i := 40) rfl)) (by decide) pd__I_I rfl rfl rfl (by decide) (by show (0 : Nat) + (1 + 11) + 0 ≤ _; decide) (by decide) (by decide) (by decide) (by decide) (pc' := 161) rfl ?_
              rintro _ _ ⟨_, rfl, rfl, rfl⟩ -
              show RunW l Z own_EL n0 x.cls code maxLocals ret x.name room_1 _ 161 #[.val (.int p1), .val (.int p2), .val (.int p3), .val (.int (Int32.ofNat na)), .val (.int (Int32.ofNat nb)), .val (.int x0), .val (.int x1), .val (.int x0), .val (.int y1), .val (.ref t15), .val (.ref t16), .unset, .unset] [(.int (own_sgn ((own_key x1) - (own_key y1))))] h16 vm16 8 24
              refine RunW.istore (l' := #[.val (.int p1), .val (.int p2), .val (.int p3), .val (.int (Int32.ofNat na)), .val (.int (Int32.ofNat nb)), .val (.int x0), .val (.int x1), .val (.int x0), .val (.int y1), .val (.ref t15), .val (.ref t16), .val (.int (own_sgn ((own_key x1) - (own_key y1)))), .unset]) at_161 rfl (pc' := 163) rfl ?_
              refine RunW.goto at_163 (by decide) (pc' := 175) (by decide) ?_
              refine RunW.aload at_175 rfl rfl (pc' := 177) rfl ?_
              refine RunW.aload at_177 rfl rfl (pc' := 179) rfl ?_
              refine RunW.callS (k' := 8) (n' := 24) (as := [(.ref t15), (.ref t16)]) (rest := []) (con_cu8 l Z a0 hw n0 h16 sz16 t15 b15 t16 b16 ([x0, x1].take na) ([x0, y1].take nb) fm cz od16 SF hfm SD SH8 SL8 SZ hcz E_t15_16 F_t15_value_16 F_t15_coder_16 A_b15_16 X16 FV16 FC16 P16 (own_t2 _ _ _) (own_tk (own_chr2 q_x0.2 q_x1.2)) (own_t2 _ _ _) (own_tk (own_chr2 q_x0.2 q_y1.2)) ) (by rintro _ _ ⟨_, -, -, rfl⟩; exact ⟨[], Keep.refl _ _, all0⟩) at_179 (hw _ (List.mem_of_getElem? (i := 41) rfl)) (hw _ (List.mem_of_getElem? (i := 42) rfl)) (hw _ (List.mem_of_getElem? (i := 43) rfl)) (hw _ (List.mem_of_getElem? (i := 44) rfl)) (by decide) pd__Ljava_lang_String_Ljava_lang_String__I rfl rfl rfl (by decide) (by show (0 : Nat) + (6 + 11) + 66 ≤ _; decide) (by decide) (by decide) (by decide) (by decide) (pc' := 182) rfl ?_
              rintro _ _ ⟨_, rfl, rfl, rfl⟩ -
              show RunW l Z own_EL n0 x.cls code maxLocals ret x.name room_1 _ 182 #[.val (.int p1), .val (.int p2), .val (.int p3), .val (.int (Int32.ofNat na)), .val (.int (Int32.ofNat nb)), .val (.int x0), .val (.int x1), .val (.int x0), .val (.int y1), .val (.ref t15), .val (.ref t16), .val (.int (own_sgn ((own_key x1) - (own_key y1)))), .unset] [(.int (own_cmp ([x0, x1].take na) ([x0, y1].take nb) (min ([x0, x1].take na).length ([x0, y1].take nb).length) 0))] h16 vm16 8 24
              refine RunW.callS (k' := 8) (n' := 24) (as := [(.int (own_cmp ([x0, x1].take na) ([x0, y1].take nb) (min ([x0, x1].take na).length ([x0, y1].take nb).length) 0))]) (rest := []) (con_own_sgn l Z a0 hw n0 h16 sz16 (own_cmp ([x0, x1].take na) ([x0, y1].take nb) (min ([x0, x1].take na).length ([x0, y1].take nb).length) 0) ) (by rintro _ _ ⟨_, -, -, rfl⟩; exact ⟨[], Keep.refl _ _, all0⟩) at_182 (hw _ (List.mem_of_getElem? (i := 38) rfl)) (hw _ (List.mem_of_getElem? (i := 39) rfl)) (hw _ (List.mem_of_getElem? (i := 3) rfl)) (hw _ (List.mem_of_getElem? (i := 40) rfl)) (by decide) pd__I_I rfl rfl rfl (by decide) (by show (0 : Nat) + (1 + 11) + 0 ≤ _; decide) (by decide) (by decide) (by decide) (by decide) (pc' := 185) rfl ?_
              rintro _ _ ⟨_, rfl, rfl, rfl⟩ -
              show RunW l Z own_EL n0 x.cls code maxLocals ret x.name room_1 _ 185 #[.val (.int p1), .val (.int p2), .val (.int p3), .val (.int (Int32.ofNat na)), .val (.int (Int32.ofNat nb)), .val (.int x0), .val (.int x1), .val (.int x0), .val (.int y1), .val (.ref t15), .val (.ref t16), .val (.int (own_sgn ((own_key x1) - (own_key y1)))), .unset] [(.int (own_sgn (own_cmp ([x0, x1].take na) ([x0, y1].take nb) (min ([x0, x1].take na).length ([x0, y1].take nb).length) 0)))] h16 vm16 8 24
              refine RunW.istore (l' := #[.val (.int p1), .val (.int p2), .val (.int p3), .val (.int (Int32.ofNat na)), .val (.int (Int32.ofNat nb)), .val (.int x0), .val (.int x1), .val (.int x0), .val (.int y1), .val (.ref t15), .val (.ref t16), .val (.int (own_sgn ((own_key x1) - (own_key y1)))), .val (.int (own_sgn (own_cmp ([x0, x1].take na) ([x0, y1].take nb) (min ([x0, x1].take na).length ([x0, y1].take nb).length) 0)))]) at_185 rfl (pc' := 187) rfl ?_
              refine RunW.iload at_187 rfl (pc' := 189) rfl ?_
              refine RunW.iload at_189 rfl (pc' := 191) rfl ?_
              refine RunW.icmp_ne at_191 (by decide) (pc' := 198) (by decide) (pa := 194) rfl (fun hc191 => ?_) (fun hc191 => ?_)
              · -- pc 191 taken: ¬ (own_sgn (own_cmp ([x0, x1].take na) ([x0, y1].take nb) (min ([x0, x1].take na).length ([x0, y1].take nb).length) 0)) = (own_sgn ((own_key x1) - (own_key y1)))
                exact absurd (own_L2 h_na h_nb (Or.inl (own_le0 hc95 (by omega))) (own_gt1 hc131 (by omega)) (own_gt1 hc137 (by omega)) q_x1.2 q_y1.2 hc144) hc191
              · -- pc 191 not taken: (own_sgn (own_cmp ([x0, x1].take na) ([x0, y1].take nb) (min ([x0, x1].take na).length ([x0, y1].take nb).length) 0)) = (own_sgn ((own_key x1) - (own_key y1)))
                refine RunW.iconst (1 : Int32) at_194 (by decide) (pc' := 195) rfl ?_
                refine RunW.goto at_195 (by decide) (pc' := 199) (by decide) ?_
                exact RunW.nreturn at_199 (ty := .boolean) rfl (by simp) (by decide) (by decide) ⟨_, rfl, rfl⟩
      · -- pc 95 not taken: (0 : Int32) < (Int32.ofNat na)
        refine RunW.iload at_98 rfl (pc' := 100) rfl ?_
        refine RunW.if_le at_100 (by decide) (pc' := 129) (by decide) (pa := 103) rfl (fun hc100 => ?_) (fun hc100 => ?_)
        · -- pc 100 taken: ¬ (0 : Int32) < (Int32.ofNat nb)
          refine RunW.iloadN at_129 rfl (pc' := 130) rfl ?_
          refine RunW.iconst (1 : Int32) at_130 (by decide) (pc' := 131) rfl ?_
          refine RunW.icmp_le at_131 (by decide) (pc' := 166) (by decide) (pa := 134) rfl (fun hc131 => ?_) (fun hc131 => ?_)
          · -- pc 131 taken: ¬ (1 : Int32) < (Int32.ofNat na)
            refine RunW.iloadN at_166 rfl (pc' := 167) rfl ?_
            refine RunW.iload at_167 rfl (pc' := 169) rfl ?_
            refine RunW.isub at_169 (pc' := 170) rfl ?_
            refine RunW.callS (k' := 8) (n' := 24) (as := [(.int ((Int32.ofNat na) - (Int32.ofNat nb)))]) (rest := []) (con_own_sgn l Z a0 hw n0 h16 sz16 ((Int32.ofNat na) - (Int32.ofNat nb)) ) (by rintro _ _ ⟨_, -, -, rfl⟩; exact ⟨[], Keep.refl _ _, all0⟩) at_170 (hw _ (List.mem_of_getElem? (i := 38) rfl)) (hw _ (List.mem_of_getElem? (i := 39) rfl)) (hw _ (List.mem_of_getElem? (i := 3) rfl)) (hw _ (List.mem_of_getElem? (i := 40) rfl)) (by decide) pd__I_I rfl rfl rfl (by decide) (by show (0 : Nat) + (1 + 11) + 0 ≤ _; decide) (by decide) (by decide) (by decide) (by decide) (pc' := 173) rfl ?_
            rintro _ _ ⟨_, rfl, rfl, rfl⟩ -
            show RunW l Z own_EL n0 x.cls code maxLocals ret x.name room_1 _ 173 #[.val (.int p1), .val (.int p2), .val (.int p3), .val (.int (Int32.ofNat na)), .val (.int (Int32.ofNat nb)), .val (.int x0), .val (.int x1), .val (.int x0), .val (.int y1), .val (.ref t15), .val (.ref t16), .unset, .unset] [(.int (own_sgn ((Int32.ofNat na) - (Int32.ofNat nb))))] h16 vm16 8 24
            refine RunW.istore (l' := #[.val (.int p1), .val (.int p2), .val (.int p3), .val (.int (Int32.ofNat na)), .val (.int (Int32.ofNat nb)), .val (.int x0), .val (.int x1), .val (.int x0), .val (.int y1), .val (.ref t15), .val (.ref t16), .val (.int (own_sgn ((Int32.ofNat na) - (Int32.ofNat nb)))), .unset]) at_173 rfl (pc' := 175) rfl ?_
            refine RunW.aload at_175 rfl rfl (pc' := 177) rfl ?_
            refine RunW.aload at_177 rfl rfl (pc' := 179) rfl ?_
            refine RunW.callS (k' := 8) (n' := 24) (as := [(.ref t15), (.ref t16)]) (rest := []) (con_cu8 l Z a0 hw n0 h16 sz16 t15 b15 t16 b16 ([x0, x1].take na) ([x0, y1].take nb) fm cz od16 SF hfm SD SH8 SL8 SZ hcz E_t15_16 F_t15_value_16 F_t15_coder_16 A_b15_16 X16 FV16 FC16 P16 (own_t2 _ _ _) (own_tk (own_chr2 q_x0.2 q_x1.2)) (own_t2 _ _ _) (own_tk (own_chr2 q_x0.2 q_y1.2)) ) (by rintro _ _ ⟨_, -, -, rfl⟩; exact ⟨[], Keep.refl _ _, all0⟩) at_179 (hw _ (List.mem_of_getElem? (i := 41) rfl)) (hw _ (List.mem_of_getElem? (i := 42) rfl)) (hw _ (List.mem_of_getElem? (i := 43) rfl)) (hw _ (List.mem_of_getElem? (i := 44) rfl)) (by decide) pd__Ljava_lang_String_Ljava_lang_String__I rfl rfl rfl (by decide) (by show (0 : Nat) + (6 + 11) + 66 ≤ _; decide) (by decide) (by decide) (by decide) (by decide) (pc' := 182) rfl ?_
            rintro _ _ ⟨_, rfl, rfl, rfl⟩ -
            show RunW l Z own_EL n0 x.cls code maxLocals ret x.name room_1 _ 182 #[.val (.int p1), .val (.int p2), .val (.int p3), .val (.int (Int32.ofNat na)), .val (.int (Int32.ofNat nb)), .val (.int x0), .val (.int x1), .val (.int x0), .val (.int y1), .val (.ref t15), .val (.ref t16), .val (.int (own_sgn ((Int32.ofNat na) - (Int32.ofNat nb)))), .unset] [(.int (own_cmp ([x0, x1].take na) ([x0, y1].take nb) (min ([x0, x1].take na).length ([x0, y1].take nb).length) 0))] h16 vm16 8 24
            refine RunW.callS (k' := 8) (n' := 24) (as := [(.int (own_cmp ([x0, x1].take na) ([x0, y1].take nb) (min ([x0, x1].take na).length ([x0, y1].take nb).length) 0))]) (rest := []) (con_own_sgn l Z a0 hw n0 h16 sz16 (own_cmp ([x0, x1].take na) ([x0, y1].take nb) (min ([x0, x1].take na).length ([x0, y1].take nb).length) 0) ) (by rintro _ _ ⟨_, -, -, rfl⟩; exact ⟨[], Keep.refl _ _, all0⟩) at_182 (hw _ (List.mem_of_getElem? (i := 38) rfl)) (hw _ (List.mem_of_getElem? (i := 39) rfl)) (hw _ (List.mem_of_getElem? (i := 3) rfl)) (hw _ (List.mem_of_getElem? (i := 40) rfl)) (by decide) pd__I_I rfl rfl rfl (by decide) (by show (0 : Nat) + (1 + 11) + 0 ≤ _; decide) (by decide) (by decide) (by decide) (by decide) (pc' := 185) rfl ?_
            rintro _ _ ⟨_, rfl, rfl, rfl⟩ -
            show RunW l Z own_EL n0 x.cls code maxLocals ret x.name room_1 _ 185 #[.val (.int p1), .val (.int p2), .val (.int p3), .val (.int (Int32.ofNat na)), .val (.int (Int32.ofNat nb)), .val (.int x0), .val (.int x1), .val (.int x0), .val (.int y1), .val (.ref t15), .val (.ref t16), .val (.int (own_sgn ((Int32.ofNat na) - (Int32.ofNat nb)))), .unset] [(.int (own_sgn (own_cmp ([x0, x1].take na) ([x0, y1].take nb) (min ([x0, x1].take na).length ([x0, y1].take nb).length) 0)))] h16 vm16 8 24
            refine RunW.istore (l' := #[.val (.int p1), .val (.int p2), .val (.int p3), .val (.int (Int32.ofNat na)), .val (.int (Int32.ofNat nb)), .val (.int x0), .val (.int x1), .val (.int x0), .val (.int y1), .val (.ref t15), .val (.ref t16), .val (.int (own_sgn ((Int32.ofNat na) - (Int32.ofNat nb)))), .val (.int (own_sgn (own_cmp ([x0, x1].take na) ([x0, y1].take nb) (min ([x0, x1].take na).length ([x0, y1].take nb).length) 0)))]) at_185 rfl (pc' := 187) rfl ?_
            refine RunW.iload at_187 rfl (pc' := 189) rfl ?_
            refine RunW.iload at_189 rfl (pc' := 191) rfl ?_
            refine RunW.icmp_ne at_191 (by decide) (pc' := 198) (by decide) (pa := 194) rfl (fun hc191 => ?_) (fun hc191 => ?_)
            · -- pc 191 taken: ¬ (own_sgn (own_cmp ([x0, x1].take na) ([x0, y1].take nb) (min ([x0, x1].take na).length ([x0, y1].take nb).length) 0)) = (own_sgn ((Int32.ofNat na) - (Int32.ofNat nb)))
              exact absurd (own_L3 h_na h_nb (Or.inr (Or.inl (own_le0 hc100 (by omega)))) (Or.inl (own_le1 hc131 (by omega)))) hc191
            · -- pc 191 not taken: (own_sgn (own_cmp ([x0, x1].take na) ([x0, y1].take nb) (min ([x0, x1].take na).length ([x0, y1].take nb).length) 0)) = (own_sgn ((Int32.ofNat na) - (Int32.ofNat nb)))
              refine RunW.iconst (1 : Int32) at_194 (by decide) (pc' := 195) rfl ?_
              refine RunW.goto at_195 (by decide) (pc' := 199) (by decide) ?_
              exact RunW.nreturn at_199 (ty := .boolean) rfl (by simp) (by decide) (by decide) ⟨_, rfl, rfl⟩
          · -- pc 131 not taken: (1 : Int32) < (Int32.ofNat na)
            refine RunW.iload at_134 rfl (pc' := 136) rfl ?_
            refine RunW.iconst (1 : Int32) at_136 (by decide) (pc' := 137) rfl ?_
            refine RunW.icmp_le at_137 (by decide) (pc' := 166) (by decide) (pa := 140) rfl (fun hc137 => ?_) (fun hc137 => ?_)
            · -- pc 137 taken: ¬ (1 : Int32) < (Int32.ofNat nb)
              refine RunW.iloadN at_166 rfl (pc' := 167) rfl ?_
              refine RunW.iload at_167 rfl (pc' := 169) rfl ?_
              refine RunW.isub at_169 (pc' := 170) rfl ?_
              refine RunW.callS (k' := 8) (n' := 24) (as := [(.int ((Int32.ofNat na) - (Int32.ofNat nb)))]) (rest := []) (con_own_sgn l Z a0 hw n0 h16 sz16 ((Int32.ofNat na) - (Int32.ofNat nb)) ) (by rintro _ _ ⟨_, -, -, rfl⟩; exact ⟨[], Keep.refl _ _, all0⟩) at_170 (hw _ (List.mem_of_getElem? (i := 38) rfl)) (hw _ (List.mem_of_getElem? (i := 39) rfl)) (hw _ (List.mem_of_getElem? (i := 3) rfl)) (hw _ (List.mem_of_getElem? (i := 40) rfl)) (by decide) pd__I_I rfl rfl rfl (by decide) (by show (0 : Nat) + (1 + 11) + 0 ≤ _; decide) (by decide) (by decide) (by decide) (by decide) (pc' := 173) rfl ?_
              rintro _ _ ⟨_, rfl, rfl, rfl⟩ -
              show RunW l Z own_EL n0 x.cls code maxLocals ret x.name room_1 _ 173 #[.val (.int p1), .val (.int p2), .val (.int p3), .val (.int (Int32.ofNat na)), .val (.int (Int32.ofNat nb)), .val (.int x0), .val (.int x1), .val (.int x0), .val (.int y1), .val (.ref t15), .val (.ref t16), .unset, .unset] [(.int (own_sgn ((Int32.ofNat na) - (Int32.ofNat nb))))] h16 vm16 8 24
              refine RunW.istore (l' := #[.val (.int p1), .val (.int p2), .val (.int p3), .val (.int (Int32.ofNat na)), .val (.int (Int32.ofNat nb)), .val (.int x0), .val (.int x1), .val (.int x0), .val (.int y1), .val (.ref t15), .val (.ref t16), .val (.int (own_sgn ((Int32.ofNat na) - (Int32.ofNat nb)))), .unset]) at_173 rfl (pc' := 175) rfl ?_
              refine RunW.aload at_175 rfl rfl (pc' := 177) rfl ?_
              refine RunW.aload at_177 rfl rfl (pc' := 179) rfl ?_
              refine RunW.callS (k' := 8) (n' := 24) (as := [(.ref t15), (.ref t16)]) (rest := []) (con_cu8 l Z a0 hw n0 h16 sz16 t15 b15 t16 b16 ([x0, x1].take na) ([x0, y1].take nb) fm cz od16 SF hfm SD SH8 SL8 SZ hcz E_t15_16 F_t15_value_16 F_t15_coder_16 A_b15_16 X16 FV16 FC16 P16 (own_t2 _ _ _) (own_tk (own_chr2 q_x0.2 q_x1.2)) (own_t2 _ _ _) (own_tk (own_chr2 q_x0.2 q_y1.2)) ) (by rintro _ _ ⟨_, -, -, rfl⟩; exact ⟨[], Keep.refl _ _, all0⟩) at_179 (hw _ (List.mem_of_getElem? (i := 41) rfl)) (hw _ (List.mem_of_getElem? (i := 42) rfl)) (hw _ (List.mem_of_getElem? (i := 43) rfl)) (hw _ (List.mem_of_getElem? (i := 44) rfl)) (by decide) pd__Ljava_lang_String_Ljava_lang_String__I rfl rfl rfl (by decide) (by show (0 : Nat) + (6 + 11) + 66 ≤ _; decide) (by decide) (by decide) (by decide) (by decide) (pc' := 182) rfl ?_
              rintro _ _ ⟨_, rfl, rfl, rfl⟩ -
              show RunW l Z own_EL n0 x.cls code maxLocals ret x.name room_1 _ 182 #[.val (.int p1), .val (.int p2), .val (.int p3), .val (.int (Int32.ofNat na)), .val (.int (Int32.ofNat nb)), .val (.int x0), .val (.int x1), .val (.int x0), .val (.int y1), .val (.ref t15), .val (.ref t16), .val (.int (own_sgn ((Int32.ofNat na) - (Int32.ofNat nb)))), .unset] [(.int (own_cmp ([x0, x1].take na) ([x0, y1].take nb) (min ([x0, x1].take na).length ([x0, y1].take nb).length) 0))] h16 vm16 8 24
              refine RunW.callS (k' := 8) (n' := 24) (as := [(.int (own_cmp ([x0, x1].take na) ([x0, y1].take nb) (min ([x0, x1].take na).length ([x0, y1].take nb).length) 0))]) (rest := []) (con_own_sgn l Z a0 hw n0 h16 sz16 (own_cmp ([x0, x1].take na) ([x0, y1].take nb) (min ([x0, x1].take na).length ([x0, y1].take nb).length) 0) ) (by rintro _ _ ⟨_, -, -, rfl⟩; exact ⟨[], Keep.refl _ _, all0⟩) at_182 (hw _ (List.mem_of_getElem? (i := 38) rfl)) (hw _ (List.mem_of_getElem? (i := 39) rfl)) (hw _ (List.mem_of_getElem? (i := 3) rfl)) (hw _ (List.mem_of_getElem? (i := 40) rfl)) (by decide) pd__I_I rfl rfl rfl (by decide) (by show (0 : Nat) + (1 + 11) + 0 ≤ _; decide) (by decide) (by decide) (by decide) (by decide) (pc' := 185) rfl ?_
              rintro _ _ ⟨_, rfl, rfl, rfl⟩ -
              show RunW l Z own_EL n0 x.cls code maxLocals ret x.name room_1 _ 185 #[.val (.int p1), .val (.int p2), .val (.int p3), .val (.int (Int32.ofNat na)), .val (.int (Int32.ofNat nb)), .val (.int x0), .val (.int x1), .val (.int x0), .val (.int y1), .val (.ref t15), .val (.ref t16), .val (.int (own_sgn ((Int32.ofNat na) - (Int32.ofNat nb)))), .unset] [(.int (own_sgn (own_cmp ([x0, x1].take na) ([x0, y1].take nb) (min ([x0, x1].take na).length ([x0, y1].take nb).length) 0)))] h16 vm16 8 24
              refine RunW.istore (l' := #[.val (.int p1), .val (.int p2), .val (.int p3), .val (.int (Int32.ofNat na)), .val (.int (Int32.ofNat nb)), .val (.int x0), .val (.int x1), .val (.int x0), .val (.int y1), .val (.ref t15), .val (.ref t16), .val (.int (own_sgn ((Int32.ofNat na) - (Int32.ofNat nb)))), .val (.int (own_sgn (own_cmp ([x0, x1].take na) ([x0, y1].take nb) (min ([x0, x1].take na).length ([x0, y1].take nb).length) 0)))]) at_185 rfl (pc' := 187) rfl ?_
              refine RunW.iload at_187 rfl (pc' := 189) rfl ?_
              refine RunW.iload at_189 rfl (pc' := 191) rfl ?_
              refine RunW.icmp_ne at_191 (by decide) (pc' := 198) (by decide) (pa := 194) rfl (fun hc191 => ?_) (fun hc191 => ?_)
              · -- pc 191 taken: ¬ (own_sgn (own_cmp ([x0, x1].take na) ([x0, y1].take nb) (min ([x0, x1].take na).length ([x0, y1].take nb).length) 0)) = (own_sgn ((Int32.ofNat na) - (Int32.ofNat nb)))
                exact absurd (own_L3 h_na h_nb (Or.inr (Or.inl (own_le0 hc100 (by omega)))) (Or.inr (Or.inl (own_le1 hc137 (by omega))))) hc191
              · -- pc 191 not taken: (own_sgn (own_cmp ([x0, x1].take na) ([x0, y1].take nb) (min ([x0, x1].take na).length ([x0, y1].take nb).length) 0)) = (own_sgn ((Int32.ofNat na) - (Int32.ofNat nb)))
                refine RunW.iconst (1 : Int32) at_194 (by decide) (pc' := 195) rfl ?_
                refine RunW.goto at_195 (by decide) (pc' := 199) (by decide) ?_
                exact RunW.nreturn at_199 (ty := .boolean) rfl (by simp) (by decide) (by decide) ⟨_, rfl, rfl⟩
            · -- pc 137 not taken: (1 : Int32) < (Int32.ofNat nb)
              refine RunW.iload at_140 rfl (pc' := 142) rfl ?_
              refine RunW.iload at_142 rfl (pc' := 144) rfl ?_
              refine RunW.icmp_eq at_144 (by decide) (pc' := 166) (by decide) (pa := 147) rfl (fun hc144 => ?_) (fun hc144 => ?_)
              · -- pc 144 taken: x1 = y1
                refine RunW.iloadN at_166 rfl (pc' := 167) rfl ?_
                refine RunW.iload at_167 rfl (pc' := 169) rfl ?_
                refine RunW.isub at_169 (pc' := 170) rfl ?_
                refine RunW.callS (k' := 8) (n' := 24) (as := [(.int ((Int32.ofNat na) - (Int32.ofNat nb)))]) (rest := []) (con_own_sgn l Z a0 hw n0 h16 sz16 ((Int32.ofNat na) - (Int32.ofNat nb)) ) (by rintro _ _ ⟨_, -, -, rfl⟩; exact ⟨[], Keep.refl _ _, all0⟩) at_170 (hw _ (List.mem_of_getElem? (i := 38) rfl)) (hw _ (List.mem_of_getElem? (i := 39) rfl)) (hw _ (List.mem_of_getElem? (i := 3) rfl)) (hw _ (List.mem_of_getElem? (i := 40) rfl)) (by decide) pd__I_I rfl rfl rfl (by decide) (by show (0 : Nat) + (1 + 11) + 0 ≤ _; decide) (by decide) (by decide) (by decide) (by decide) (pc' := 173) rfl ?_
                rintro _ _ ⟨_, rfl, rfl, rfl⟩ -
                show RunW l Z own_EL n0 x.cls code maxLocals ret x.name room_1 _ 173 #[.val (.int p1), .val (.int p2), .val (.int p3), .val (.int (Int32.ofNat na)), .val (.int (Int32.ofNat nb)), .val (.int x0), .val (.int x1), .val (.int x0), .val (.int y1), .val (.ref t15), .val (.ref t16), .unset, .unset] [(.int (own_sgn ((Int32.ofNat na) - (Int32.ofNat nb))))] h16 vm16 8 24
                refine RunW.istore (l' := #[.val (.int p1), .val (.int p2), .val (.int p3), .val (.int (Int32.ofNat na)), .val (.int (Int32.ofNat nb)), .val (.int x0), .val (.int x1), .val (.int x0), .val (.int y1), .val (.ref t15), .val (.ref t16), .val (.int (own_sgn ((Int32.ofNat na) - (Int32.ofNat nb)))), .unset]) at_173 rfl (pc' := 175) rfl ?_
                refine RunW.aload at_175 rfl rfl (pc' := 177) rfl ?_
                refine RunW.aload at_177 rfl rfl (pc' := 179) rfl ?_
                refine RunW.callS (k' := 8) (n' := 24) (as := [(.ref t15), (.ref t16)]) (rest := []) (con_cu8 l Z a0 hw n0 h16 sz16 t15 b15 t16 b16 ([x0, x1].take na) ([x0, y1].take nb) fm cz od16 SF hfm SD SH8 SL8 SZ hcz E_t15_16 F_t15_value_16 F_t15_coder_16 A_b15_16 X16 FV16 FC16 P16 (own_t2 _ _ _) (own_tk (own_chr2 q_x0.2 q_x1.2)) (own_t2 _ _ _) (own_tk (own_chr2 q_x0.2 q_y1.2)) ) (by rintro _ _ ⟨_, -, -, rfl⟩; exact ⟨[], Keep.refl _ _, all0⟩) at_179 (hw _ (List.mem_of_getElem? (i := 41) rfl)) (hw _ (List.mem_of_getElem? (i := 42) rfl)) (hw _ (List.mem_of_getElem? (i := 43) rfl)) (hw _ (List.mem_of_getElem? (i := 44) rfl)) (by decide) pd__Ljava_lang_String_Ljava_lang_String__I rfl rfl rfl (by decide) (by show (0 : Nat) + (6 + 11) + 66 ≤ _; decide) (by decide) (by decide) (by decide) (by decide) (pc' := 182) rfl ?_
                rintro _ _ ⟨_, rfl, rfl, rfl⟩ -
                show RunW l Z own_EL n0 x.cls code maxLocals ret x.name room_1 _ 182 #[.val (.int p1), .val (.int p2), .val (.int p3), .val (.int (Int32.ofNat na)), .val (.int (Int32.ofNat nb)), .val (.int x0), .val (.int x1), .val (.int x0), .val (.int y1), .val (.ref t15), .val (.ref t16), .val (.int (own_sgn ((Int32.ofNat na) - (Int32.ofNat nb)))), .unset] [(.int (own_cmp ([x0, x1].take na) ([x0, y1].take nb) (min ([x0, x1].take na).length ([x0, y1].take nb).length) 0))] h16 vm16 8 24
                refine RunW.callS (k' := 8) (n' := 24) (as := [(.int (own_cmp ([x0, x1].take na) ([x0, y1].take nb) (min ([x0, x1].take na).length ([x0, y1].take nb).length) 0))]) (rest := []) (con_own_sgn l Z a0 hw n0 h16 sz16 (own_cmp ([x0, x1].take na) ([x0, y1].take nb) (min ([x0, x1].take na).length ([x0, y1].take nb).length) 0) ) (by rintro _ _ ⟨_, -, -, rfl⟩; exact ⟨[], Keep.refl _ _, all0⟩) at_182 (hw _ (List.mem_of_getElem? (i := 38) rfl)) (hw _ (List.mem_of_getElem? (i := 39) rfl)) (hw _ (List.mem_of_getElem? (i := 3) rfl)) (hw _ (List.mem_of_getElem? (i := 40) rfl)) (by decide) pd__I_I rfl rfl rfl (by decide) (by show (0 : Nat) + (1 + 11) + 0 ≤ _; decide) (by decide) (by decide) (by decide) (by decide) (pc' := 185) rfl ?_
                rintro _ _ ⟨_, rfl, rfl, rfl⟩ -
                show RunW l Z own_EL n0 x.cls code maxLocals ret x.name room_1 _ 185 #[.val (.int p1), .val (.int p2), .val (.int p3), .val (.int (Int32.ofNat na)), .val (.int (Int32.ofNat nb)), .val (.int x0), .val (.int x1), .val (.int x0), .val (.int y1), .val (.ref t15), .val (.ref t16), .val (.int (own_sgn ((Int32.ofNat na) - (Int32.ofNat nb)))), .unset] [(.int (own_sgn (own_cmp ([x0, x1].take na) ([x0, y1].take nb) (min ([x0, x1].take na).length ([x0, y1].take nb).length) 0)))] h16 vm16 8 24
                refine RunW.istore (l' := #[.val (.int p1), .val (.int p2), .val (.int p3), .val (.int (Int32.ofNat na)), .val (.int (Int32.ofNat nb)), .val (.int x0), .val (.int x1), .val (.int x0), .val (.int y1), .val (.ref t15), .val (.ref t16), .val (.int (own_sgn ((Int32.ofNat na) - (Int32.ofNat nb)))), .val (.int (own_sgn (own_cmp ([x0, x1].take na) ([x0, y1].take nb) (min ([x0, x1].take na).length ([x0, y1].take nb).length) 0)))]) at_185 rfl (pc' := 187) rfl ?_
                refine RunW.iload at_187 rfl (pc' := 189) rfl ?_
                refine RunW.iload at_189 rfl (pc' := 191) rfl ?_
                refine RunW.icmp_ne at_191 (by decide) (pc' := 198) (by decide) (pa := 194) rfl (fun hc191 => ?_) (fun hc191 => ?_)
                · -- pc 191 taken: ¬ (own_sgn (own_cmp ([x0, x1].take na) ([x0, y1].take nb) (min ([x0, x1].take na).length ([x0, y1].take nb).length) 0)) = (own_sgn ((Int32.ofNat na) - (Int32.ofNat nb)))
                  exact absurd (own_L3 h_na h_nb (Or.inr (Or.inl (own_le0 hc100 (by omega)))) (Or.inr (Or.inr hc144))) hc191
                · -- pc 191 not taken: (own_sgn (own_cmp ([x0, x1].take na) ([x0, y1].take nb) (min ([x0, x1].take na).length ([x0, y1].take nb).length) 0)) = (own_sgn ((Int32.ofNat na) - (Int32.ofNat nb)))
                  refine RunW.iconst (1 : Int32) at_194 (by decide) (pc' := 195) rfl ?_
                  refine RunW.goto at_195 (by decide) (pc' := 199) (by decide) ?_
                  exact RunW.nreturn at_199 (ty := .boolean) rfl (by simp) (by decide) (by decide) ⟨_, rfl, rfl⟩
              · -- pc 144 not taken: ¬ x1 = y1
                refine RunW.iload at_147 rfl (pc' := 149) rfl ?_
                refine RunW.callS (k' := 8) (n' := 24) (as := [(.int x1)]) (rest := []) (con_own_key l Z a0 hw n0 h16 sz16 x1 ) (by rintro _ _ ⟨_, -, -, rfl⟩; exact ⟨[], Keep.refl _ _, all0⟩) at_149 (hw _ (List.mem_of_getElem? (i := 83) rfl)) (hw _ (List.mem_of_getElem? (i := 84) rfl)) (hw _ (List.mem_of_getElem? (i := 3) rfl)) (hw _ (List.mem_of_getElem? (i := 85) rfl)) (by decide) pd__C_I rfl rfl rfl (by decide) (by show (0 : Nat) + (2 + 11) + 0 ≤ _; decide) (by decide) (by decide) (by decide) (by decide) (pc' := 152) rfl ?_
                rintro _ _ ⟨_, rfl, rfl, rfl⟩ -
                show RunW l Z own_EL n0 x.cls code maxLocals ret x.name room_1 _ 152 #[.val (.int p1), .val (.int p2), .val (.int p3), .val (.int (Int32.ofNat na)), .val (.int (Int32.ofNat nb)), .val (.int x0), .val (.int x1), .val (.int x0), .val (.int y1), .val (.ref t15), .val (.ref t16), .unset, .unset] [(.int (own_key x1))] h16 vm16 8 24
                refine RunW.iload at_152 rfl (pc' := 154) rfl ?_
                refine RunW.callS (k' := 8) (n' := 24) (as := [(.int y1)]) (rest := [(.int (own_key x1))]) (con_own_key l Z a0 hw n0 h16 sz16 y1 ) (by rintro _ _ ⟨_, -, -, rfl⟩; exact ⟨[], Keep.refl _ _, all0⟩) at_154 (hw _ (List.mem_of_getElem? (i := 83) rfl)) (hw _ (List.mem_of_getElem? (i := 84) rfl)) (hw _ (List.mem_of_getElem? (i := 3) rfl)) (hw _ (List.mem_of_getElem? (i := 85) rfl)) (by decide) pd__C_I rfl rfl rfl (by decide) (by show (1 : Nat) + (2 + 11) + 0 ≤ _; decide) (by decide) (by decide) (by decide) (by decide) (pc' := 157) rfl ?_
                rintro _ _ ⟨_, rfl, rfl, rfl⟩ -
                show RunW l Z own_EL n0 x.cls code maxLocals ret x.name room_1 _ 157 #[.val (.int p1), .val (.int p2), .val (.int p3), .val (.int (Int32.ofNat na)), .val (.int (Int32.ofNat nb)), .val (.int x0), .val (.int x1), .val (.int x0), .val (.int y1), .val (.ref t15), .val (.ref t16), .unset, .unset] [(.int (own_key y1)), (.int (own_key x1))] h16 vm16 8 24
                refine RunW.isub at_157 (pc' := 158) rfl ?_
                refine RunW.callS (k' := 8) (n' := 24) (as := [(.int ((own_key x1) - (own_key y1)))]) (rest := []) (con_own_sgn l Z a0 hw n0 h16 sz16 ((own_key x1) - (own_key y1)) ) (by rintro _ _ ⟨_, -, -, rfl⟩; exact ⟨[], Keep.refl _ _, all0⟩) at_158 (hw _ (List.mem_of_getElem? (i := 38) rfl)) (hw _ (List.mem_of_getElem? (i := 39) rfl)) (hw _ (List.mem_of_getElem? (i := 3) rfl)) (hw _ (List.mem_of_getElem? (i := 40) rfl)) (by decide) pd__I_I rfl rfl rfl (by decide) (by show (0 : Nat) + (1 + 11) + 0 ≤ _; decide) (by decide) (by decide) (by decide) (by decide) (pc' := 161) rfl ?_
                rintro _ _ ⟨_, rfl, rfl, rfl⟩ -
                show RunW l Z own_EL n0 x.cls code maxLocals ret x.name room_1 _ 161 #[.val (.int p1), .val (.int p2), .val (.int p3), .val (.int (Int32.ofNat na)), .val (.int (Int32.ofNat nb)), .val (.int x0), .val (.int x1), .val (.int x0), .val (.int y1), .val (.ref t15), .val (.ref t16), .unset, .unset] [(.int (own_sgn ((own_key x1) - (own_key y1))))] h16 vm16 8 24
                refine RunW.istore (l' := #[.val (.int p1), .val (.int p2), .val (.int p3), .val (.int (Int32.ofNat na)), .val (.int (Int32.ofNat nb)), .val (.int x0), .val (.int x1), .val (.int x0), .val (.int y1), .val (.ref t15), .val (.ref t16), .val (.int (own_sgn ((own_key x1) - (own_key y1)))), .unset]) at_161 rfl (pc' := 163) rfl ?_
                refine RunW.goto at_163 (by decide) (pc' := 175) (by decide) ?_
                refine RunW.aload at_175 rfl rfl (pc' := 177) rfl ?_
                refine RunW.aload at_177 rfl rfl (pc' := 179) rfl ?_
                refine RunW.callS (k' := 8) (n' := 24) (as := [(.ref t15), (.ref t16)]) (rest := []) (con_cu8 l Z a0 hw n0 h16 sz16 t15 b15 t16 b16 ([x0, x1].take na) ([x0, y1].take nb) fm cz od16 SF hfm SD SH8 SL8 SZ hcz E_t15_16 F_t15_value_16 F_t15_coder_16 A_b15_16 X16 FV16 FC16 P16 (own_t2 _ _ _) (own_tk (own_chr2 q_x0.2 q_x1.2)) (own_t2 _ _ _) (own_tk (own_chr2 q_x0.2 q_y1.2)) ) (by rintro _ _ ⟨_, -, -, rfl⟩; exact ⟨[], Keep.refl _ _, all0⟩) at_179 (hw _ (List.mem_of_getElem? (i := 41) rfl)) (hw _ (List.mem_of_getElem? (i := 42) rfl)) (hw _ (List.mem_of_getElem? (i := 43) rfl)) (hw _ (List.mem_of_getElem? (i := 44) rfl)) (by decide) pd__Ljava_lang_String_Ljava_lang_String__I rfl rfl rfl (by decide) (by show (0 : Nat) + (6 + 11) + 66 ≤ _; decide) (by decide) (by decide) (by decide) (by decide) (pc' := 182) rfl ?_
                rintro _ _ ⟨_, rfl, rfl, rfl⟩ -
                show RunW l Z own_EL n0 x.cls code maxLocals ret x.name room_1 _ 182 #[.val (.int p1), .val (.int p2), .val (.int p3), .val (.int (Int32.ofNat na)), .val (.int (Int32.ofNat nb)), .val (.int x0), .val (.int x1), .val (.int x0), .val (.int y1), .val (.ref t15), .val (.ref t16), .val (.int (own_sgn ((own_key x1) - (own_key y1)))), .unset] [(.int (own_cmp ([x0, x1].take na) ([x0, y1].take nb) (min ([x0, x1].take na).length ([x0, y1].take nb).length) 0))] h16 vm16 8 24
                refine RunW.callS (k' := 8) (n' := 24) (as := [(.int (own_cmp ([x0, x1].take na) ([x0, y1].take nb) (min ([x0, x1].take na).length ([x0, y1].take nb).length) 0))]) (rest := []) (con_own_sgn l Z a0 hw n0 h16 sz16 (own_cmp ([x0, x1].take na) ([x0, y1].take nb) (min ([x0, x1].take na).length ([x0, y1].take nb).length) 0) ) (by rintro _ _ ⟨_, -, -, rfl⟩; exact ⟨[], Keep.refl _ _, all0⟩) at_182 (hw _ (List.mem_of_getElem? (i := 38) rfl)) (hw _ (List.mem_of_getElem? (i := 39) rfl)) (hw _ (List.mem_of_getElem? (i := 3) rfl)) (hw _ (List.mem_of_getElem? (i := 40) rfl)) (by decide) pd__I_I rfl rfl rfl (by decide) (by show (0 : Nat) + (1 + 11) + 0 ≤ _; decide) (by decide) (by decide) (by decide) (by decide) (pc' := 185) rfl ?_
                rintro _ _ ⟨_, rfl, rfl, rfl⟩ -
                show RunW l Z own_EL n0 x.cls code maxLocals ret x.name room_1 _ 185 #[.val (.int p1), .val (.int p2), .val (.int p3), .val (.int (Int32.ofNat na)), .val (.int (Int32.ofNat nb)), .val (.int x0), .val (.int x1), .val (.int x0), .val (.int y1), .val (.ref t15), .val (.ref t16), .val (.int (own_sgn ((own_key x1) - (own_key y1)))), .unset] [(.int (own_sgn (own_cmp ([x0, x1].take na) ([x0, y1].take nb) (min ([x0, x1].take na).length ([x0, y1].take nb).length) 0)))] h16 vm16 8 24
                refine RunW.istore (l' := #[.val (.int p1), .val (.int p2), .val (.int p3), .val (.int (Int32.ofNat na)), .val (.int (Int32.ofNat nb)), .val (.int x0), .val (.int x1), .val (.int x0), .val (.int y1), .val (.ref t15), .val (.ref t16), .val (.int (own_sgn ((own_key x1) - (own_key y1)))), .val (.int (own_sgn (own_cmp ([x0, x1].take na) ([x0, y1].take nb) (min ([x0, x1].take na).length ([x0, y1].take nb).length) 0)))]) at_185 rfl (pc' := 187) rfl ?_
                refine RunW.iload at_187 rfl (pc' := 189) rfl ?_
                refine RunW.iload at_189 rfl (pc' := 191) rfl ?_
                refine RunW.icmp_ne at_191 (by decide) (pc' := 198) (by decide) (pa := 194) rfl (fun hc191 => ?_) (fun hc191 => ?_)
                · -- pc 191 taken: ¬ (own_sgn (own_cmp ([x0, x1].take na) ([x0, y1].take nb) (min ([x0, x1].take na).length ([x0, y1].take nb).length) 0)) = (own_sgn ((own_key x1) - (own_key y1)))
                  exact absurd (own_L2 h_na h_nb (Or.inr (Or.inl (own_le0 hc100 (by omega)))) (own_gt1 hc131 (by omega)) (own_gt1 hc137 (by omega)) q_x1.2 q_y1.2 hc144) hc191
                · -- pc 191 not taken: (own_sgn (own_cmp ([x0, x1].take na) ([x0, y1].take nb) (min ([x0, x1].take na).length ([x0, y1].take nb).length) 0)) = (own_sgn ((own_key x1) - (own_key y1)))
                  refine RunW.iconst (1 : Int32) at_194 (by decide) (pc' := 195) rfl ?_
                  refine RunW.goto at_195 (by decide) (pc' := 199) (by decide) ?_
                  exact RunW.nreturn at_199 (ty := .boolean) rfl (by simp) (by decide) (by decide) ⟨_, rfl, rfl⟩
        · -- pc 100 not taken: (0 : Int32) < (Int32.ofNat nb)
          refine RunW.iload at_103 rfl (pc' := 105) rfl ?_
          refine RunW.iload at_105 rfl (pc' := 107) rfl ?_
          refine RunW.icmp_eq at_107 (by decide) (pc' := 129) (by decide) (pa := 110) rfl (fun hc107 => ?_) (fun hc107 => ?_)
          · -- pc 107 taken: x0 = x0
            refine RunW.iloadN at_129 rfl (pc' := 130) rfl ?_
            refine RunW.iconst (1 : Int32) at_130 (by decide) (pc' := 131) rfl ?_
            refine RunW.icmp_le at_131 (by decide) (pc' := 166) (by decide) (pa := 134) rfl (fun hc131 => ?_) (fun hc131 => ?_)
            · -- pc 131 taken: ¬ (1 : Int32) < (Int32.ofNat na)
              refine RunW.iloadN at_166 rfl (pc' := 167) rfl ?_
              refine RunW.iload at_167 rfl (pc' := 169) rfl ?_
              refine RunW.isub at_169 (pc' := 170) rfl ?_
              refine RunW.callS (k' := 8) (n' := 24) (as := [(.int ((Int32.ofNat na) - (Int32.ofNat nb)))]) (rest := []) (con_own_sgn l Z a0 hw n0 h16 sz16 ((Int32.ofNat na) - (Int32.ofNat nb)) ) (by rintro _ _ ⟨_, -, -, rfl⟩; exact ⟨[], Keep.refl _ _, all0⟩) at_170 (hw _ (List.mem_of_getElem? (i := 38) rfl)) (hw _ (List.mem_of_getElem? (i := 39) rfl)) (hw _ (List.mem_of_getElem? (i := 3) rfl)) (hw _ (List.mem_of_getElem? (i := 40) rfl)) (by decide) pd__I_I rfl rfl rfl (by decide) (by show (0 : Nat) + (1 + 11) + 0 ≤ _; decide) (by decide) (by decide) (by decide) (by decide) (pc' := 173) rfl ?_
              rintro _ _ ⟨_, rfl, rfl, rfl⟩ -
              show RunW l Z own_EL n0 x.cls code maxLocals ret x.name room_1 _ 173 #[.val (.int p1), .val (.int p2), .val (.int p3), .val (.int (Int32.ofNat na)), .val (.int (Int32.ofNat nb)), .val (.int x0), .val (.int x1), .val (.int x0), .val (.int y1), .val (.ref t15), .val (.ref t16), .unset, .unset] [(.int (own_sgn ((Int32.ofNat na) - (Int32.ofNat nb))))] h16 vm16 8 24
              refine RunW.istore (l' := #[.val (.int p1), .val (.int p2), .val (.int p3), .val (.int (Int32.ofNat na)), .val (.int (Int32.ofNat nb)), .val (.int x0), .val (.int x1), .val (.int x0), .val (.int y1), .val (.ref t15), .val (.ref t16), .val (.int (own_sgn ((Int32.ofNat na) - (Int32.ofNat nb)))), .unset]) at_173 rfl (pc' := 175) rfl ?_
              refine RunW.aload at_175 rfl rfl (pc' := 177) rfl ?_
              refine RunW.aload at_177 rfl rfl (pc' := 179) rfl ?_
              refine RunW.callS (k' := 8) (n' := 24) (as := [(.ref t15), (.ref t16)]) (rest := []) (con_cu8 l Z a0 hw n0 h16 sz16 t15 b15 t16 b16 ([x0, x1].take na) ([x0, y1].take nb) fm cz od16 SF hfm SD SH8 SL8 SZ hcz E_t15_16 F_t15_value_16 F_t15_coder_16 A_b15_16 X16 FV16 FC16 P16 (own_t2 _ _ _) (own_tk (own_chr2 q_x0.2 q_x1.2)) (own_t2 _ _ _) (own_tk (own_chr2 q_x0.2 q_y1.2)) ) (by rintro _ _ ⟨_, -, -, rfl⟩; exact ⟨[], Keep.refl _ _, all0⟩) at_179 (hw _ (List.mem_of_getElem? (i := 41) rfl)) (hw _ (List.mem_of_getElem? (i := 42) rfl)) (hw _ (List.mem_of_getElem? (i := 43) rfl)) (hw _ (List.mem_of_getElem? (i := 44) rfl)) (by decide) pd__Ljava_lang_String_Ljava_lang_String__I rfl rfl rfl (by decide) (by show (0 : Nat) + (6 + 11) + 66 ≤ _; decide) (by decide) (by decide) (by decide) (by decide) (pc' := 182) rfl ?_
              rintro _ _ ⟨_, rfl, rfl, rfl⟩ -
              show RunW l Z own_EL n0 x.cls code maxLocals ret x.name room_1 _ 182 #[.val (.int p1), .val (.int p2), .val (.int p3), .val (.int (Int32.ofNat na)), .val (.int (Int32.ofNat nb)), .val (.int x0), .val (.int x1), .val (.int x0), .val (.int y1), .val (.ref t15), .val (.ref t16), .val (.int (own_sgn ((Int32.ofNat na) - (Int32.ofNat nb)))), .unset] [(.int (own_cmp ([x0, x1].take na) ([x0, y1].take nb) (min ([x0, x1].take na).length ([x0, y1].take nb).length) 0))] h16 vm16 8 24
              refine RunW.callS (k' := 8) (n' := 24) (as := [(.int (own_cmp ([x0, x1].take na) ([x0, y1].take nb) (min ([x0, x1].take na).length ([x0, y1].take nb).length) 0))]) (rest := []) (con_own_sgn l Z a0 hw n0 h16 sz16 (own_cmp ([x0, x1].take na) ([x0, y1].take nb) (min ([x0, x1].take na).length ([x0, y1].take nb).length) 0) ) (by rintro _ _ ⟨_, -, -, rfl⟩; exact ⟨[], Keep.refl _ _, all0⟩) at_182 (hw _ (List.mem_of_getElem? (i := 38) rfl)) (hw _ (List.mem_of_getElem? (i := 39) rfl)) (hw _ (List.mem_of_getElem? (i := 3) rfl)) (hw _ (List.mem_of_getElem? (i := 40) rfl)) (by decide) pd__I_I rfl rfl rfl (by decide) (by show (0 : Nat) + (1 + 11) + 0 ≤ _; decide) (by decide) (by decide) (by decide) (by decide) (pc' := 185) rfl ?_
              rintro _ _ ⟨_, rfl, rfl, rfl⟩ -
              show RunW l Z own_EL n0 x.cls code maxLocals ret x.name room_1 _ 185 #[.val (.int p1), .val (.int p2), .val (.int p3), .val (.int (Int32.ofNat na)), .val (.int (Int32.ofNat nb)), .val (.int x0), .val (.int x1), .val (.int x0), .val (.int y1), .val (.ref t15), .val (.ref t16), .val (.int (own_sgn ((Int32.ofNat na) - (Int32.ofNat nb)))), .unset] [(.int (own_sgn (own_cmp ([x0, x1].take na) ([x0, y1].take nb) (min ([x0, x1].take na).length ([x0, y1].take nb).length) 0)))] h16 vm16 8 24
              refine RunW.istore (l' := #[.val (.int p1), .val (.int p2), .val (.int p3), .val (.int (Int32.ofNat na)), .val (.int (Int32.ofNat nb)), .val (.int x0), .val (.int x1), .val (.int x0), .val (.int y1), .val (.ref t15), .val (.ref t16), .val (.int (own_sgn ((Int32.ofNat na) - (Int32.ofNat nb)))), .val (.int (own_sgn (own_cmp ([x0, x1].take na) ([x0, y1].take nb) (min ([x0, x1].take na).length ([x0, y1].take nb).length) 0)))]) at_185 rfl (pc' := 187) rfl ?_
              refine RunW.iload at_187 rfl (pc' := 189) rfl ?_
              refine RunW.iload at_189 rfl (pc' := 191) rfl ?_
              refine RunW.icmp_ne at_191 (by decide) (pc' := 198) (by decide) (pa := 194) rfl (fun hc191 => ?_) (fun hc191 => ?_)
              · -- pc 191 taken: ¬ (own_sgn (own_cmp ([x0, x1].take na) ([x0, y1].take nb) (min ([x0, x1].take na).length ([x0, y1].take nb).length) 0)) = (own_sgn ((Int32.ofNat na) - (Int32.ofNat nb)))
                exact absurd (own_L3 h_na h_nb (Or.inr (Or.inr hc107)) (Or.inl (own_le1 hc131 (by omega)))) hc191
              · -- pc 191 not taken: (own_sgn (own_cmp ([x0, x1].take na) ([x0, y1].take nb) (min ([x0, x1].take na).length ([x0, y1].take nb).length) 0)) = (own_sgn ((Int32.ofNat na) - (Int32.ofNat nb)))
                refine RunW.iconst (1 : Int32) at_194 (by decide) (pc' := 195) rfl ?_
                refine RunW.goto at_195 (by decide) (pc' := 199) (by decide) ?_
                exact RunW.nreturn at_199 (ty := .boolean) rfl (by simp) (by decide) (by decide) ⟨_, rfl, rfl⟩
            · -- pc 131 not taken: (1 : Int32) < (Int32.ofNat na)
              refine RunW.iload at_134 rfl (pc' := 136) rfl ?_
              refine RunW.iconst (1 : Int32) at_136 (by decide) (pc' := 137) rfl ?_
              refine RunW.icmp_le at_137 (by decide) (pc' := 166) (by decide) (pa := 140) rfl (fun hc137 => ?_) (fun hc137 => ?_)
              · -- pc 137 taken: ¬ (1 : Int32) < (Int32.ofNat nb)
                refine RunW.iloadN at_166 rfl (pc' := 167) rfl ?_
                refine RunW.iload at_167 rfl (pc' := 169) rfl ?_
                refine RunW.isub at_169 (pc' := 170) rfl ?_
                refine RunW.callS (k' := 8) (n' := 24) (as := [(.int ((Int32.ofNat na) - (Int32.ofNat nb)))]) (rest := []) (con_own_sgn l Z a0 hw n0 h16 sz16 ((Int32.ofNat na) - (Int32.ofNat nb)) ) (by rintro _ _ ⟨_, -, -, rfl⟩; exact ⟨[], Keep.refl _ _, all0⟩) at_170 (hw _ (List.mem_of_getElem? (i := 38) rfl)) (hw _ (List.mem_of_getElem? (i := 39) rfl)) (hw _ (List.mem_of_getElem? (i := 3) rfl)) (hw _ (List.mem_of_getElem? (i := 40) rfl)) (by decide) pd__I_I rfl rfl rfl (by decide) (by show (0 : Nat) + (1 + 11) + 0 ≤ _; decide) (by decide) (by decide) (by decide) (by decide) (pc' := 173) rfl ?_
                rintro _ _ ⟨_, rfl, rfl, rfl⟩ -
                show RunW l Z own_EL n0 x.cls code maxLocals ret x.name room_1 _ 173 #[.val (.int p1), .val (.int p2), .val (.int p3), .val (.int (Int32.ofNat na)), .val (.int (Int32.ofNat nb)), .val (.int x0), .val (.int x1), .val (.int x0), .val (.int y1), .val (.ref t15), .val (.ref t16), .unset, .unset] [(.int (own_sgn ((Int32.ofNat na) - (Int32.ofNat nb))))] h16 vm16 8 24
                refine RunW.istore (l' := #[.val (.int p1), .val (.int p2), .val (.int p3), .val (.int (Int32.ofNat na)), .val (.int (Int32.ofNat nb)), .val (.int x0), .val (.int x1), .val (.int x0), .val (.int y1), .val (.ref t15), .val (.ref t16), .val (.int (own_sgn ((Int32.ofNat na) - (Int32.ofNat nb)))), .unset]) at_173 rfl (pc' := 175) rfl ?_
                refine RunW.aload at_175 rfl rfl (pc' := 177) rfl ?_
                refine RunW.aload at_177 rfl rfl (pc' := 179) rfl ?_
                refine RunW.callS (k' := 8) (n' := 24) (as := [(.ref t15), (.ref t16)]) (rest := []) (con_cu8 l Z a0 hw n0 h16 sz16 t15 b15 t16 b16 ([x0, x1].take na) ([x0, y1].take nb) fm cz od16 SF hfm SD SH8 SL8 SZ hcz E_t15_16 F_t15_value_16 F_t15_coder_16 A_b15_16 X16 FV16 FC16 P16 (own_t2 _ _ _) (own_tk (own_chr2 q_x0.2 q_x1.2)) (own_t2 _ _ _) (own_tk (own_chr2 q_x0.2 q_y1.2)) ) (by rintro _ _ ⟨_, -, -, rfl⟩; exact ⟨[], Keep.refl _ _, all0⟩) at_179 (hw _ (List.mem_of_getElem? (i := 41) rfl)) (hw _ (List.mem_of_getElem? (i := 42) rfl)) (hw _ (List.mem_of_getElem? (i := 43) rfl)) (hw _ (List.mem_of_getElem? (i := 44) rfl)) (by decide) pd__Ljava_lang_String_Ljava_lang_String__I rfl rfl rfl (by decide) (by show (0 : Nat) + (6 + 11) + 66 ≤ _; decide) (by decide) (by decide) (by decide) (by decide) (pc' := 182) rfl ?_
                rintro _ _ ⟨_, rfl, rfl, rfl⟩ -
                show RunW l Z own_EL n0 x.cls code maxLocals ret x.name room_1 _ 182 #[.val (.int p1), .val (.int p2), .val (.int p3), .val (.int (Int32.ofNat na)), .val (.int (Int32.ofNat nb)), .val (.int x0), .val (.int x1), .val (.int x0), .val (.int y1), .val (.ref t15), .val (.ref t16), .val (.int (own_sgn ((Int32.ofNat na) - (Int32.ofNat nb)))), .unset] [(.int (own_cmp ([x0, x1].take na) ([x0, y1].take nb) (min ([x0, x1].take na).length ([x0, y1].take nb).length) 0))] h16 vm16 8 24
                refine RunW.callS (k' := 8) (n' := 24) (as := [(.int (own_cmp ([x0, x1].take na) ([x0, y1].take nb) (min ([x0, x1].take na).length ([x0, y1].take nb).length) 0))]) (rest := []) (con_own_sgn l Z a0 hw n0 h16 sz16 (own_cmp ([x0, x1].take na) ([x0, y1].take nb) (min ([x0, x1].take na).length ([x0, y1].take nb).length) 0) ) (by rintro _ _ ⟨_, -, -, rfl⟩; exact ⟨[], Keep.refl _ _, all0⟩) at_182 (hw _ (List.mem_of_getElem? (i := 38) rfl)) (hw _ (List.mem_of_getElem? (i := 39) rfl)) (hw _ (List.mem_of_getElem? (i := 3) rfl)) (hw _ (List.mem_of_getElem? (i := 40) rfl)) (by decide) pd__I_I rfl rfl rfl (by decide) (by show (0 : Nat) + (1 + 11) + 0 ≤ _; decide) (by decide) (by decide) (by decide) (by decide) (pc' := 185) rfl ?_
                rintro _ _ ⟨_, rfl, rfl, rfl⟩ -
                show RunW l Z own_EL n0 x.cls code maxLocals ret x.name room_1 _ 185 #[.val (.int p1), .val (.int p2), .val (.int p3), .val (.int (Int32.ofNat na)), .val (.int (Int32.ofNat nb)), .val (.int x0), .val (.int x1), .val (.int x0), .val (.int y1), .val (.ref t15), .val (.ref t16), .val (.int (own_sgn ((Int32.ofNat na) - (Int32.ofNat nb)))), .unset] [(.int (own_sgn (own_cmp ([x0, x1].take na) ([x0, y1].take nb) (min ([x0, x1].take na).length ([x0, y1].take nb).length) 0)))] h16 vm16 8 24
                refine RunW.istore (l' := #[.val (.int p1), .val (.int p2), .val (.int p3), .val (.int (Int32.ofNat na)), .val (.int (Int32.ofNat nb)), .val (.int x0), .val (.int x1), .val (.int x0), .val (.int y1), .val (.ref t15), .val (.ref t16), .val (.int (own_sgn ((Int32.ofNat na) - (Int32.ofNat nb)))), .val (.int (own_sgn (own_cmp ([x0, x1].take na) ([x0, y1].take nb) (min ([x0, x1].take na).length ([x0, y1].take nb).length) 0)))]) at_185 rfl (pc' := 187) rfl ?_
                refine RunW.iload at_187 rfl (pc' := 189) rfl ?_
                refine RunW.iload at_189 rfl (pc' := 191) rfl ?_
                refine RunW.icmp_ne at_191 (by decide) (pc' := 198) (by decide) (pa := 194) rfl (fun hc191 => ?_) (fun hc191 => ?_)
                · -- pc 191 taken: ¬ (own_sgn (own_cmp ([x0, x1].take na) ([x0, y1].take nb) (min ([x0, x1].take na).length ([x0, y1].take nb).length) 0)) = (own_sgn ((Int32.ofNat na) - (Int32.ofNat nb)))
                  exact absurd (own_L3 h_na h_nb (Or.inr (Or.inr hc107)) (Or.inr (Or.inl (own_le1 hc137 (by omega))))) hc191
                · -- pc 191 not taken: (own_sgn (own_cmp ([x0, x1].take na) ([x0, y1].take nb) (min ([x0, x1].take na).length ([x0, y1].take nb).length) 0)) = (own_sgn ((Int32.ofNat na) - (Int32.ofNat nb)))
                  refine RunW.iconst (1 : Int32) at_194 (by decide) (pc' := 195) rfl ?_
                  refine RunW.goto at_195 (by decide) (pc' := 199) (by decide) ?_
                  exact RunW.nreturn at_199 (ty := .boolean) rfl (by simp) (by decide) (by decide) ⟨_, rfl, rfl⟩
              · -- pc 137 not taken: (1 : Int32) < (Int32.ofNat nb)
                refine RunW.iload at_140 rfl (pc' := 142) rfl ?_
                refine RunW.iload at_142 rfl (pc' := 144) rfl ?_
                refine RunW.icmp_eq at_144 (by decide) (pc' := 166) (by decide) (pa := 147) rfl (fun hc144 => ?_) (fun hc144 => ?_)
                · -- pc 144 taken: x1 = y1
                  refine RunW.iloadN at_166 rfl (pc' := 167) rfl ?_
                  refine RunW.iload at_167 rfl (pc' := 169) rfl ?_
                  refine RunW.isub at_169 (pc' := 170) rfl ?_
                  refine RunW.callS (k' := 8) (n' := 24) (as := [(.int ((Int32.ofNat na) - (Int32.ofNat nb)))]) (rest := []) (con_own_sgn l Z a0 hw n0 h16 sz16 ((Int32.ofNat na) - (Int32.ofNat nb)) ) (by rintro _ _ ⟨_, -, -, rfl⟩; exact ⟨[], Keep.refl _ _, all0⟩) at_170 (hw _ (List.mem_of_getElem? (i := 38) rfl)) (hw _ (List.mem_of_getElem? (i := 39) rfl)) (hw _ (List.mem_of_getElem? (i := 3) rfl)) (hw _ (List.mem_of_getElem? (i := 40) rfl)) (by decide) pd__I_I rfl rfl rfl (by decide) (by show (0 : Nat) + (1 + 11) + 0 ≤ _; decide) (by decide) (by decide) (by decide) (by decide) (pc' := 173) rfl ?_
                  rintro _ _ ⟨_, rfl, rfl, rfl⟩ -
                  show RunW l Z own_EL n0 x.cls code maxLocals ret x.name room_1 _ 173 #[.val (.int p1), .val (.int p2), .val (.int p3), .val (.int (Int32.ofNat na)), .val (.int (Int32.ofNat nb)), .val (.int x0), .val (.int x1), .val (.int x0), .val (.int y1), .val (.ref t15), .val (.ref t16), .unset, .unset] [(.int (own_sgn ((Int32.ofNat na) - (Int32.ofNat nb))))] h16 vm16 8 24
                  refine RunW.istore (l' := #[.val (.int p1), .val (.int p2), .val (.int p3), .val (.int (Int32.ofNat na)), .val (.int (Int32.ofNat nb)), .val (.int x0), .val (.int x1), .val (.int x0), .val (.int y1), .val (.ref t15), .val (.ref t16), .val (.int (own_sgn ((Int32.ofNat na) - (Int32.ofNat nb)))), .unset]) at_173 rfl (pc' := 175) rfl ?_
                  refine RunW.aload at_175 rfl rfl (pc' := 177) rfl ?_
                  refine RunW.aload at_177 rfl rfl (pc' := 179) rfl ?_
                  refine RunW.callS (k' := 8) (n' := 24) (as := [(.ref t15), (.ref t16)]) (rest := []) (con_cu8 l Z a0 hw n0 h16 sz16 t15 b15 t16 b16 ([x0, x1].take na) ([x0, y1].take nb) fm cz od16 SF hfm SD SH8 SL8 SZ hcz E_t15_16 F_t15_value_16 F_t15_coder_16 A_b15_16 X16 FV16 FC16 P16 (own_t2 _ _ _) (own_tk (own_chr2 q_x0.2 q_x1.2)) (own_t2 _ _ _) (own_tk (own_chr2 q_x0.2 q_y1.2)) ) (by rintro _ _ ⟨_, -, -, rfl⟩; exact ⟨[], Keep.refl _ _, all0⟩) at_179 (hw _ (List.mem_of_getElem? (i := 41) rfl)) (hw _ (List.mem_of_getElem? (i := 42) rfl)) (hw _ (List.mem_of_getElem? (i := 43) rfl)) (hw _ (List.mem_of_getElem? (i := 44) rfl)) (by decide) pd__Ljava_lang_String_Ljava_lang_String__I rfl rfl rfl (by decide) (by show (0 : Nat) + (6 + 11) + 66 ≤ _; decide) (by decide) (by decide) (by decide) (by decide) (pc' := 182) rfl ?_
                  rintro _ _ ⟨_, rfl, rfl, rfl⟩ -
                  show RunW l Z own_EL n0 x.cls code maxLocals ret x.name room_1 _ 182 #[.val (.int p1), .val (.int p2), .val (.int p3), .val (.int (Int32.ofNat na)), .val (.int (Int32.ofNat nb)), .val (.int x0), .val (.int x1), .val (.int x0), .val (.int y1), .val (.ref t15), .val (.ref t16), .val (.int (own_sgn ((Int32.ofNat na) - (Int32.ofNat nb)))), .unset] [(.int (own_cmp ([x0, x1].take na) ([x0, y1].take nb) (min ([x0, x1].take na).length ([x0, y1].take nb).length) 0))] h16 vm16 8 24
                  refine RunW.callS (k' := 8) (n' := 24) (as := [(.int (own_cmp ([x0, x1].take na) ([x0, y1].take nb) (min ([x0, x1].take na).length ([x0, y1].take nb).length) 0))]) (rest := []) (con_own_sgn l Z a0 hw n0 h16 sz16 (own_cmp ([x0, x1].take na) ([x0, y1].take nb) (min ([x0, x1].take na).length ([x0, y1].take nb).length) 0) ) (by rintro _ _ ⟨_, -, -, rfl⟩; exact ⟨[], Keep.refl _ _, all0⟩) at_182 (hw _ (List.mem_of_getElem? (i := 38) rfl)) (hw _ (List.mem_of_getElem? (i := 39) rfl)) (hw _ (List.mem_of_getElem? (i := 3) rfl)) (hw _ (List.mem_of_getElem? (i := 40) rfl)) (by decide) pd__I_I rfl rfl rfl (by decide) (by show (0 : Nat) + (1 + 11) + 0 ≤ _; decide) (by decide) (by decide) (by decide) (by decide) (pc' := 185) rfl ?_
                  rintro _ _ ⟨_, rfl, rfl, rfl⟩ -
                  show RunW l Z own_EL n0 x.cls code maxLocals ret x.name room_1 _ 185 #[.val (.int p1), .val (.int p2), .val (.int p3), .val (.int (Int32.ofNat na)), .val (.int (Int32.ofNat nb)), .val (.int x0), .val (.int x1), .val (.int x0), .val (.int y1), .val (.ref t15), .val (.ref t16), .val (.int (own_sgn ((Int32.ofNat na) - (Int32.ofNat nb)))), .unset] [(.int (own_sgn (own_cmp ([x0, x1].take na) ([x0, y1].take nb) (min ([x0, x1].take na).length ([x0, y1].take nb).length) 0)))] h16 vm16 8 24
                  refine RunW.istore (l' := #[.val (.int p1), .val (.int p2), .val (.int p3), .val (.int (Int32.ofNat na)), .val (.int (Int32.ofNat nb)), .val (.int x0), .val (.int x1), .val (.int x0), .val (.int y1), .val (.ref t15), .val (.ref t16), .val (.int (own_sgn ((Int32.ofNat na) - (Int32.ofNat nb)))), .val (.int (own_sgn (own_cmp ([x0, x1].take na) ([x0, y1].take nb) (min ([x0, x1].take na).length ([x0, y1].take nb).length) 0)))]) at_185 rfl (pc' := 187) rfl ?_
                  refine RunW.iload at_187 rfl (pc' := 189) rfl ?_
                  refine RunW.iload at_189 rfl (pc' := 191) rfl ?_
                  refine RunW.icmp_ne at_191 (by decide) (pc' := 198) (by decide) (pa := 194) rfl (fun hc191 => ?_) (fun hc191 => ?_)
                  · -- pc 191 taken: ¬ (own_sgn (own_cmp ([x0, x1].take na) ([x0, y1].take nb) (min ([x0, x1].take na).length ([x0, y1].take nb).length) 0)) = (own_sgn ((Int32.ofNat na) - (Int32.ofNat nb)))
                    exact absurd (own_L3 h_na h_nb (Or.inr (Or.inr hc107)) (Or.inr (Or.inr hc144))) hc191
                  · -- pc 191 not taken: (own_sgn (own_cmp ([x0, x1].take na) ([x0, y1].take nb) (min ([x0, x1].take na).length ([x0, y1].take nb).length) 0)) = (own_sgn ((Int32.ofNat na) - (Int32.ofNat nb)))
                    refine RunW.iconst (1 : Int32) at_194 (by decide) (pc' := 195) rfl ?_
                    refine RunW.goto at_195 (by decide) (pc' := 199) (by decide) ?_
                    exact RunW.nreturn at_199 (ty := .boolean) rfl (by simp) (by decide) (by decide) ⟨_, rfl, rfl⟩
                · -- pc 144 not taken: ¬ x1 = y1
                  refine RunW.iload at_147 rfl (pc' := 149) rfl ?_
                  refine RunW.callS (k' := 8) (n' := 24) (as := [(.int x1)]) (rest := []) (con_own_key l Z a0 hw n0 h16 sz16 x1 ) (by rintro _ _ ⟨_, -, -, rfl⟩; exact ⟨[], Keep.refl _ _, all0⟩) at_149 (hw _ (List.mem_of_getElem? (i := 83) rfl)) (hw _ (List.mem_of_getElem? (i := 84) rfl)) (hw _ (List.mem_of_getElem? (i := 3) rfl)) (hw _ (List.mem_of_getElem? (i := 85) rfl)) (by decide) pd__C_I rfl rfl rfl (by decide) (by show (0 : Nat) + (2 + 11) + 0 ≤ _; decide) (by decide) (by decide) (by decide) (by decide) (pc' := 152) rfl ?_
                  rintro _ _ ⟨_, rfl, rfl, rfl⟩ -
                  show RunW l Z own_EL n0 x.cls code maxLocals ret x.name room_1 _ 152 #[.val (.int p1), .val (.int p2), .val (.int p3), .val (.int (Int32.ofNat na)), .val (.int (Int32.ofNat nb)), .val (.int x0), .val (.int x1), .val (.int x0), .val (.int y1), .val (.ref t15), .val (.ref t16), .unset, .unset] [(.int (own_key x1))] h16 vm16 8 24
                  refine RunW.iload at_152 rfl (pc' := 154) rfl ?_
                  refine RunW.callS (k' := 8) (n' := 24) (as := [(.int y1)]) (rest := [(.int (own_key x1))]) (con_own_key l Z a0 hw n0 h16 sz16 y1 ) (by rintro _ _ ⟨_, -, -, rfl⟩; exact ⟨[], Keep.refl _ _, all0⟩) at_154 (hw _ (List.mem_of_getElem? (i := 83) rfl)) (hw _ (List.mem_of_getElem? (i := 84) rfl)) (hw _ (List.mem_of_getElem? (i := 3) rfl)) (hw _ (List.mem_of_getElem? (i := 85) rfl)) (by decide) pd__C_I rfl rfl rfl (by decide) (by show (1 : Nat) + (2 + 11) + 0 ≤ _; decide) (by decide) (by decide) (by decide) (by decide) (pc' := 157) rfl ?_
                  rintro _ _ ⟨_, rfl, rfl, rfl⟩ -
                  show RunW l Z own_EL n0 x.cls code maxLocals ret x.name room_1 _ 157 #[.val (.int p1), .val (.int p2), .val (.int p3), .val (.int (Int32.ofNat na)), .val (.int (Int32.ofNat nb)), .val (.int x0), .val (.int x1), .val (.int x0), .val (.int y1), .val (.ref t15), .val (.ref t16), .unset, .unset] [(.int (own_key y1)), (.int (own_key x1))] h16 vm16 8 24
                  refine RunW.isub at_157 (pc' := 158) rfl ?_
                  refine RunW.callS (k' := 8) (n' := 24) (as := [(.int ((own_key x1) - (own_key y1)))]) (rest := []) (con_own_sgn l Z a0 hw n0 h16 sz16 ((own_key x1) - (own_key y1)) ) (by rintro _ _ ⟨_, -, -, rfl⟩; exact ⟨[], Keep.refl _ _, all0⟩) at_158 (hw _ (List.mem_of_getElem? (i := 38) rfl)) (hw _ (List.mem_of_getElem? (i := 39) rfl)) (hw _ (List.mem_of_getElem? (i := 3) rfl)) (hw _ (List.mem_of_getElem? (i := 40) rfl)) (by decide) pd__I_I rfl rfl rfl (by decide) (by show (0 : Nat) + (1 + 11) + 0 ≤ _; decide) (by decide) (by decide) (by decide) (by decide) (pc' := 161) rfl ?_
                  rintro _ _ ⟨_, rfl, rfl, rfl⟩ -
                  show RunW l Z own_EL n0 x.cls code maxLocals ret x.name room_1 _ 161 #[.val (.int p1), .val (.int p2), .val (.int p3), .val (.int (Int32.ofNat na)), .val (.int (Int32.ofNat nb)), .val (.int x0), .val (.int x1), .val (.int x0), .val (.int y1), .val (.ref t15), .val (.ref t16), .unset, .unset] [(.int (own_sgn ((own_key x1) - (own_key y1))))] h16 vm16 8 24
                  refine RunW.istore (l' := #[.val (.int p1), .val (.int p2), .val (.int p3), .val (.int (Int32.ofNat na)), .val (.int (Int32.ofNat nb)), .val (.int x0), .val (.int x1), .val (.int x0), .val (.int y1), .val (.ref t15), .val (.ref t16), .val (.int (own_sgn ((own_key x1) - (own_key y1)))), .unset]) at_161 rfl (pc' := 163) rfl ?_
                  refine RunW.goto at_163 (by decide) (pc' := 175) (by decide) ?_
                  refine RunW.aload at_175 rfl rfl (pc' := 177) rfl ?_
                  refine RunW.aload at_177 rfl rfl (pc' := 179) rfl ?_
                  refine RunW.callS (k' := 8) (n' := 24) (as := [(.ref t15), (.ref t16)]) (rest := []) (con_cu8 l Z a0 hw n0 h16 sz16 t15 b15 t16 b16 ([x0, x1].take na) ([x0, y1].take nb) fm cz od16 SF hfm SD SH8 SL8 SZ hcz E_t15_16 F_t15_value_16 F_t15_coder_16 A_b15_16 X16 FV16 FC16 P16 (own_t2 _ _ _) (own_tk (own_chr2 q_x0.2 q_x1.2)) (own_t2 _ _ _) (own_tk (own_chr2 q_x0.2 q_y1.2)) ) (by rintro _ _ ⟨_, -, -, rfl⟩; exact ⟨[], Keep.refl _ _, all0⟩) at_179 (hw _ (List.mem_of_getElem? (i := 41) rfl)) (hw _ (List.mem_of_getElem? (i := 42) rfl)) (hw _ (List.mem_of_getElem? (i := 43) rfl)) (hw _ (List.mem_of_getElem? (i := 44) rfl)) (by decide) pd__Ljava_lang_String_Ljava_lang_String__I rfl rfl rfl (by decide) (by show (0 : Nat) + (6 + 11) + 66 ≤ _; decide) (by decide) (by decide) (by decide) (by decide) (pc' := 182) rfl ?_
                  rintro _ _ ⟨_, rfl, rfl, rfl⟩ -
                  show RunW l Z own_EL n0 x.cls code maxLocals ret x.name room_1 _ 182 #[.val (.int p1), .val (.int p2), .val (.int p3), .val (.int (Int32.ofNat na)), .val (.int (Int32.ofNat nb)), .val (.int x0), .val (.int x1), .val (.int x0), .val (.int y1), .val (.ref t15), .val (.ref t16), .val (.int (own_sgn ((own_key x1) - (own_key y1)))), .unset] [(.int (own_cmp ([x0, x1].take na) ([x0, y1].take nb) (min ([x0, x1].take na).length ([x0, y1].take nb).length) 0))] h16 vm16 8 24
                  refine RunW.callS (k' := 8) (n' := 24) (as := [(.int (own_cmp ([x0, x1].take na) ([x0, y1].take nb) (min ([x0, x1].take na).length ([x0, y1].take nb).length) 0))]) (rest := []) (con_own_sgn l Z a0 hw n0 h16 sz16 (own_cmp ([x0, x1].take na) ([x0, y1].take nb) (min ([x0, x1].take na).length ([x0, y1].take nb).length) 0) ) (by rintro _ _ ⟨_, -, -, rfl⟩; exact ⟨[], Keep.refl _ _, all0⟩) at_182 (hw _ (List.mem_of_getElem? (i := 38) rfl)) (hw _ (List.mem_of_getElem? (i := 39) rfl)) (hw _ (List.mem_of_getElem? (i := 3) rfl)) (hw _ (List.mem_of_getElem? (i := 40) rfl)) (by decide) pd__I_I rfl rfl rfl (by decide) (by show (0 : Nat) + (1 + 11) + 0 ≤ _; decide) (by decide) (by decide) (by decide) (by decide) (pc' := 185) rfl ?_
                  rintro _ _ ⟨_, rfl, rfl, rfl⟩ -
                  show RunW l Z own_EL n0 x.cls code maxLocals ret x.name room_1 _ 185 #[.val (.int p1), .val (.int p2), .val (.int p3), .val (.int (Int32.ofNat na)), .val (.int (Int32.ofNat nb)), .val (.int x0), .val (.int x1), .val (.int x0), .val (.int y1), .val (.ref t15), .val (.ref t16), .val (.int (own_sgn ((own_key x1) - (own_key y1)))), .unset] [(.int (own_sgn (own_cmp ([x0, x1].take na) ([x0, y1].take nb) (min ([x0, x1].take na).length ([x0, y1].take nb).length) 0)))] h16 vm16 8 24
                  refine RunW.istore (l' := #[.val (.int p1), .val (.int p2), .val (.int p3), .val (.int (Int32.ofNat na)), .val (.int (Int32.ofNat nb)), .val (.int x0), .val (.int x1), .val (.int x0), .val (.int y1), .val (.ref t15), .val (.ref t16), .val (.int (own_sgn ((own_key x1) - (own_key y1)))), .val (.int (own_sgn (own_cmp ([x0, x1].take na) ([x0, y1].take nb) (min ([x0, x1].take na).length ([x0, y1].take nb).length) 0)))]) at_185 rfl (pc' := 187) rfl ?_
                  refine RunW.iload at_187 rfl (pc' := 189) rfl ?_
                  refine RunW.iload at_189 rfl (pc' := 191) rfl ?_
                  refine RunW.icmp_ne at_191 (by decide) (pc' := 198) (by decide) (pa := 194) rfl (fun hc191 => ?_) (fun hc191 => ?_)
                  · -- pc 191 taken: ¬ (own_sgn (own_cmp ([x0, x1].take na) ([x0, y1].take nb) (min ([x0, x1].take na).length ([x0, y1].take nb).length) 0)) = (own_sgn ((own_key x1) - (own_key y1)))
                    exact absurd (own_L2 h_na h_nb (Or.inr (Or.inr hc107)) (own_gt1 hc131 (by omega)) (own_gt1 hc137 (by omega)) q_x1.2 q_y1.2 hc144) hc191
                  · -- pc 191 not taken: (own_sgn (own_cmp ([x0, x1].take na) ([x0, y1].take nb) (min ([x0, x1].take na).length ([x0, y1].take nb).length) 0)) = (own_sgn ((own_key x1) - (own_key y1)))
                    refine RunW.iconst (1 : Int32) at_194 (by decide) (pc' := 195) rfl ?_
                    refine RunW.goto at_195 (by decide) (pc' := 199) (by decide) ?_
                    exact RunW.nreturn at_199 (ty := .boolean) rfl (by simp) (by decide) (by decide) ⟨_, rfl, rfl⟩
          · -- pc 107 not taken: ¬ x0 = x0
            refine RunW.iload at_110 rfl (pc' := 112) rfl ?_
            refine RunW.callS (k' := 8) (n' := 24) (as := [(.int x0)]) (rest := []) (con_own_key l Z a0 hw n0 h16 sz16 x0 ) (by rintro _ _ ⟨_, -, -, rfl⟩; exact ⟨[], Keep.refl _ _, all0⟩) at_112 (hw _ (List.mem_of_getElem? (i := 83) rfl)) (hw _ (List.mem_of_getElem? (i := 84) rfl)) (hw _ (List.mem_of_getElem? (i := 3) rfl)) (hw _ (List.mem_of_getElem? (i := 85) rfl)) (by decide) pd__C_I rfl rfl rfl (by decide) (by show (0 : Nat) + (2 + 11) + 0 ≤ _; decide) (by decide) (by decide) (by decide) (by decide) (pc' := 115) rfl ?_
            rintro _ _ ⟨_, rfl, rfl, rfl⟩ -
            show RunW l Z own_EL n0 x.cls code maxLocals ret x.name room_1 _ 115 #[.val (.int p1), .val (.int p2), .val (.int p3), .val (.int (Int32.ofNat na)), .val (.int (Int32.ofNat nb)), .val (.int x0), .val (.int x1), .val (.int x0), .val (.int y1), .val (.ref t15), .val (.ref t16), .unset, .unset] [(.int (own_key x0))] h16 vm16 8 24
            refine RunW.iload at_115 rfl (pc' := 117) rfl ?_
            refine RunW.callS (k' := 8) (n' := 24) (as := [(.int x0)]) (rest := [(.int (own_key x0))]) (con_own_key l Z a0 hw n0 h16 sz16 x0 ) (by rintro _ _ ⟨_, -, -, rfl⟩; exact ⟨[], Keep.refl _ _, all0⟩) at_117 (hw _ (List.mem_of_getElem? (i := 83) rfl)) (hw _ (List.mem_of_getElem? (i := 84) rfl)) (hw _ (List.mem_of_getElem? (i := 3) rfl)) (hw _ (List.mem_of_getElem? (i := 85) rfl)) (by decide) pd__C_I rfl rfl rfl (by decide) (by show (1 : Nat) + (2 + 11) + 0 ≤ _; decide) (by decide) (by decide) (by decide) (by decide) (pc' := 120) rfl ?_
            rintro _ _ ⟨_, rfl, rfl, rfl⟩ -
            show RunW l Z own_EL n0 x.cls code maxLocals ret x.name room_1 _ 120 #[.val (.int p1), .val (.int p2), .val (.int p3), .val (.int (Int32.ofNat na)), .val (.int (Int32.ofNat nb)), .val (.int x0), .val (.int x1), .val (.int x0), .val (.int y1), .val (.ref t15), .val (.ref t16), .unset, .unset] [(.int (own_key x0)), (.int (own_key x0))] h16 vm16 8 24
            refine RunW.isub at_120 (pc' := 121) rfl ?_
            refine RunW.callS (k' := 8) (n' := 24) (as := [(.int ((own_key x0) - (own_key x0)))]) (rest := []) (con_own_sgn l Z a0 hw n0 h16 sz16 ((own_key x0) - (own_key x0)) ) (by rintro _ _ ⟨_, -, -, rfl⟩; exact ⟨[], Keep.refl _ _, all0⟩) at_121 (hw _ (List.mem_of_getElem? (i := 38) rfl)) (hw _ (List.mem_of_getElem? (i := 39) rfl)) (hw _ (List.mem_of_getElem? (i := 3) rfl)) (hw _ (List.mem_of_getElem? (i := 40) rfl)) (by decide) pd__I_I rfl rfl rfl (by decide) (by show (0 : Nat) + (1 + 11) + 0 ≤ _; decide) (by decide) (by decide) (by decide) (by decide) (pc' := 124) rfl ?_
            rintro _ _ ⟨_, rfl, rfl, rfl⟩ -
            show RunW l Z own_EL n0 x.cls code maxLocals ret x.name room_1 _ 124 #[.val (.int p1), .val (.int p2), .val (.int p3), .val (.int (Int32.ofNat na)), .val (.int (Int32.ofNat nb)), .val (.int x0), .val (.int x1), .val (.int x0), .val (.int y1), .val (.ref t15), .val (.ref t16), .unset, .unset] [(.int (own_sgn ((own_key x0) - (own_key x0))))] h16 vm16 8 24
            refine RunW.istore (l' := #[.val (.int p1), .val (.int p2), .val (.int p3), .val (.int (Int32.ofNat na)), .val (.int (Int32.ofNat nb)), .val (.int x0), .val (.int x1), .val (.int x0), .val (.int y1), .val (.ref t15), .val (.ref t16), .val (.int (own_sgn ((own_key x0) - (own_key x0)))), .unset]) at_124 rfl (pc' := 126) rfl ?_
            refine RunW.goto at_126 (by decide) (pc' := 175) (by decide) ?_
            refine RunW.aload at_175 rfl rfl (pc' := 177) rfl ?_
            refine RunW.aload at_177 rfl rfl (pc' := 179) rfl ?_
            refine RunW.callS (k' := 8) (n' := 24) (as := [(.ref t15), (.ref t16)]) (rest := []) (con_cu8 l Z a0 hw n0 h16 sz16 t15 b15 t16 b16 ([x0, x1].take na) ([x0, y1].take nb) fm cz od16 SF hfm SD SH8 SL8 SZ hcz E_t15_16 F_t15_value_16 F_t15_coder_16 A_b15_16 X16 FV16 FC16 P16 (own_t2 _ _ _) (own_tk (own_chr2 q_x0.2 q_x1.2)) (own_t2 _ _ _) (own_tk (own_chr2 q_x0.2 q_y1.2)) ) (by rintro _ _ ⟨_, -, -, rfl⟩; exact ⟨[], Keep.refl _ _, all0⟩) at_179 (hw _ (List.mem_of_getElem? (i := 41) rfl)) (hw _ (List.mem_of_getElem? (i := 42) rfl)) (hw _ (List.mem_of_getElem? (i := 43) rfl)) (hw _ (List.mem_of_getElem? (i := 44) rfl)) (by decide) pd__Ljava_lang_String_Ljava_lang_String__I rfl rfl rfl (by decide) (by show (0 : Nat) + (6 + 11) + 66 ≤ _; decide) (by decide) (by decide) (by decide) (by decide) (pc' := 182) rfl ?_
            rintro _ _ ⟨_, rfl, rfl, rfl⟩ -
            show RunW l Z own_EL n0 x.cls code maxLocals ret x.name room_1 _ 182 #[.val (.int p1), .val (.int p2), .val (.int p3), .val (.int (Int32.ofNat na)), .val (.int (Int32.ofNat nb)), .val (.int x0), .val (.int x1), .val (.int x0), .val (.int y1), .val (.ref t15), .val (.ref t16), .val (.int (own_sgn ((own_key x0) - (own_key x0)))), .unset] [(.int (own_cmp ([x0, x1].take na) ([x0, y1].take nb) (min ([x0, x1].take na).length ([x0, y1].take nb).length) 0))] h16 vm16 8 24
            refine RunW.callS (k' := 8) (n' := 24) (as := [(.int (own_cmp ([x0, x1].take na) ([x0, y1].take nb) (min ([x0, x1].take na).length ([x0, y1].take nb).length) 0))]) (rest := []) (con_own_sgn l Z a0 hw n0 h16 sz16 (own_cmp ([x0, x1].take na) ([x0, y1].take nb) (min ([x0, x1].take na).length ([x0, y1].take nb).length) 0) ) (by rintro _ _ ⟨_, -, -, rfl⟩; exact ⟨[], Keep.refl _ _, all0⟩) at_182 (hw _ (List.mem_of_getElem? (i := 38) rfl)) (hw _ (List.mem_of_getElem? (i := 39) rfl)) (hw _ (List.mem_of_getElem? (i := 3) rfl)) (hw _ (List.mem_of_getElem? (i := 40) rfl)) (by decide) pd__I_I rfl rfl rfl (by decide) (by show (0 : Nat) + (1 + 11) + 0 ≤ _; decide) (by decide) (by decide) (by decide) (by decide) (pc' := 185) rfl ?_
            rintro _ _ ⟨_, rfl, rfl, rfl⟩ -
            show RunW l Z own_EL n0 x.cls code maxLocals ret x.name room_1 _ 185 #[.val (.int p1), .val (.int p2), .val (.int p3), .val (.int (Int32.ofNat na)), .val (.int (Int32.ofNat nb)), .val (.int x0), .val (.int x1), .val (.int x0), .val (.int y1), .val (.ref t15), .val (.ref t16), .val (.int (own_sgn ((own_key x0) - (own_key x0)))), .unset] [(.int (own_sgn (own_cmp ([x0, x1].take na) ([x0, y1].take nb) (min ([x0, x1].take na).length ([x0, y1].take nb).length) 0)))] h16 vm16 8 24
            refine RunW.istore (l' := #[.val (.int p1), .val (.int p2), .val (.int p3), .val (.int (Int32.ofNat na)), .val (.int (Int32.ofNat nb)), .val (.int x0), .val (.int x1), .val (.int x0), .val (.int y1), .val (.ref t15), .val (.ref t16), .val (.int (own_sgn ((own_key x0) - (own_key x0)))), .val (.int (own_sgn (own_cmp ([x0, x1].take na) ([x0, y1].take nb) (min ([x0, x1].take na).length ([x0, y1].take nb).length) 0)))]) at_185 rfl (pc' := 187) rfl ?_
            refine RunW.iload at_187 rfl (pc' := 189) rfl ?_
            refine RunW.iload at_189 rfl (pc' := 191) rfl ?_
            refine RunW.icmp_ne at_191 (by decide) (pc' := 198) (by decide) (pa := 194) rfl (fun hc191 => ?_) (fun hc191 => ?_)
            · -- pc 191 taken: ¬ (own_sgn (own_cmp ([x0, x1].take na) ([x0, y1].take nb) (min ([x0, x1].take na).length ([x0, y1].take nb).length) 0)) = (own_sgn ((own_key x0) - (own_key x0)))
              exact absurd (own_L1 h_na h_nb (own_gt0 hc95 (by omega)) (own_gt0 hc100 (by omega)) q_x0.2 q_x0.2 hc107) hc191
            · -- pc 191 not taken: (own_sgn (own_cmp ([x0, x1].take na) ([x0, y1].take nb) (min ([x0, x1].take na).length ([x0, y1].take nb).length) 0)) = (own_sgn ((own_key x0) - (own_key x0)))
              refine RunW.iconst (1 : Int32) at_194 (by decide) (pc' := 195) rfl ?_
              refine RunW.goto at_195 (by decide) (pc' := 199) (by decide) ?_
              exact RunW.nreturn at_199 (ty := .boolean) rfl (by simp) (by decide) (by decide) ⟨_, rfl, rfl⟩
    · -- pc 66 not taken: ¬ ((XT.ushr p3 (5 : Int32)) &&& (1 : Int32)) = (0 : Int32)
      refine RunW.iload at_69 rfl (pc' := 71) rfl ?_
      refine RunW.istore (l' := #[.val (.int p1), .val (.int p2), .val (.int p3), .val (.int (Int32.ofNat na)), .val (.int (Int32.ofNat nb)), .val (.int x0), .val (.int x1), .val (.int x0), .val (.int x1), .unset, .unset, .unset, .unset]) at_71 rfl (pc' := 73) rfl ?_
      refine RunW.iloadN at_73 rfl (pc' := 74) rfl ?_
      refine RunW.iload at_74 rfl (pc' := 76) rfl ?_
      refine RunW.iload at_76 rfl (pc' := 78) rfl ?_
      refine RunW.callSW (k' := 4) (n' := 12) (as := [(.int (Int32.ofNat na)), (.int x0), (.int x1)]) (rest := []) (con_str l Z a0 hw n0 h0 Z0 na h_na x0 x1 cz od0 SD SH8 SL8 SZ hcz q_x0 q_x1) all0 (own_EW hw) at_78 (hw _ (List.mem_of_getElem? (i := 1) rfl)) (hw _ (List.mem_of_getElem? (i := 2) rfl)) (hw _ (List.mem_of_getElem? (i := 3) rfl)) (hw _ (List.mem_of_getElem? (i := 4) rfl)) (by decide) pd__ICC_Ljava_lang_String_ rfl rfl rfl (by decide) (by show (0 : Nat) + (3 + 11) + 88 ≤ _; decide) (by decide) (by decide) (by decide) (by decide) (pc' := 81) rfl ?_
      rintro _ h17 vm17 ⟨_, rfl, ⟨t17, b17, rfl, E17, X17, FV17, FC17, P17⟩⟩ c17
      show RunW l Z own_EL n0 x.cls code maxLocals ret x.name room_1 _ 81 #[.val (.int p1), .val (.int p2), .val (.int p3), .val (.int (Int32.ofNat na)), .val (.int (Int32.ofNat nb)), .val (.int x0), .val (.int x1), .val (.int x0), .val (.int x1), .unset, .unset, .unset, .unset] [(.ref t17)] h17 vm17 4 12
      have sz17 : n0 ≤ h17.size := Nat.le_trans Z0 E17.1
      have kp17 := Keep.ext (Keep.refl h0 []) E17
      have od17 := od0.ext E17
      refine RunW.astore (l' := #[.val (.int p1), .val (.int p2), .val (.int p3), .val (.int (Int32.ofNat na)), .val (.int (Int32.ofNat nb)), .val (.int x0), .val (.int x1), .val (.int x0), .val (.int x1), .val (.ref t17), .unset, .unset, .unset]) at_81 rfl rfl (pc' := 83) rfl ?_
      refine RunW.iload at_83 rfl (pc' := 85) rfl ?_
      refine RunW.iload at_85 rfl (pc' := 87) rfl ?_
      refine RunW.iload at_87 rfl (pc' := 89) rfl ?_
      refine RunW.callSW (k' := 8) (n' := 24) (as := [(.int (Int32.ofNat nb)), (.int x0), (.int x1)]) (rest := []) (con_str l Z a0 hw n0 h17 sz17 nb h_nb x0 x1 cz od17 SD SH8 SL8 SZ hcz q_x0 q_x1) all0 (own_EW hw) at_89 (hw _ (List.mem_of_getElem? (i := 1) rfl)) (hw _ (List.mem_of_getElem? (i := 2) rfl)) (hw _ (List.mem_of_getElem? (i := 3) rfl)) (hw _ (List.mem_of_getElem? (i := 4) rfl)) (by decide) pd__ICC_Ljava_lang_String_ rfl rfl rfl (by decide) (by show (0 : Nat) + (3 + 11) + 88 ≤ _; decide) (by decide) (by decide) (by decide) (by decide) (pc' := 92) rfl ?_
      rintro _ h18 vm18 ⟨_, rfl, ⟨t18, b18, rfl, E18, X18, FV18, FC18, P18⟩⟩ c18
      show RunW l Z own_EL n0 x.cls code maxLocals ret x.name room_1 _ 92 #[.val (.int p1), .val (.int p2), .val (.int p3), .val (.int (Int32.ofNat na)), .val (.int (Int32.ofNat nb)), .val (.int x0), .val (.int x1), .val (.int x0), .val (.int x1), .val (.ref t17), .unset, .unset, .unset] [(.ref t18)] h18 vm18 8 24
      have E_t17_18 := X17.ext E18
      have F_t17_value_18 := FV17.ext E18
      have F_t17_coder_18 := FC17.ext E18
      have A_b17_18 := P17.ext E18
      have sz18 : n0 ≤ h18.size := Nat.le_trans sz17 E18.1
      have kp18 := Keep.ext kp17 E18
      have od18 := od17.ext E18
      refine RunW.astore (l' := #[.val (.int p1), .val (.int p2), .val (.int p3), .val (.int (Int32.ofNat na)), .val (.int (Int32.ofNat nb)), .val (.int x0), .val (.int x1), .val (.int x0), .val (.int x1), .val (.ref t17), .val (.ref t18), .unset, .unset]) at_92 rfl rfl (pc' := 94) rfl ?_
      refine RunW.iloadN at_94 rfl (pc' := 95) rfl ?_
      refine RunW.if_le at_95 (by decide) (pc' := 129) (by decide) (pa := 98) rfl (fun hc95 => ?_) (fun hc95 => ?_)
      · -- pc 95 taken: ¬ (0 : Int32) < (Int32.ofNat na)
        refine RunW.iloadN at_129 rfl (pc' := 130) rfl ?_
        refine RunW.iconst (1 : Int32) at_130 (by decide) (pc' := 131) rfl ?_
        refine RunW.icmp_le at_131 (by decide) (pc' := 166) (by decide) (pa := 134) rfl (fun hc131 => ?_) (fun hc131 => ?_)
        · -- pc 131 taken: ¬ (1 : Int32) < (Int32.ofNat na)
          refine RunW.iloadN at_166 rfl (pc' := 167) rfl ?_
          refine RunW.iload at_167 rfl (pc' := 169) rfl ?_
          refine RunW.isub at_169 (pc' := 170) rfl ?_
          refine RunW.callS (k' := 8) (n' := 24) (as := [(.int ((Int32.ofNat na) - (Int32.ofNat nb)))]) (rest := []) (con_own_sgn l Z a0 hw n0 h18 sz18 ((Int32.ofNat na) - (Int32.ofNat nb)) ) (by rintro _ _ ⟨_, -, -, rfl⟩; exact ⟨[], Keep.refl _ _, all0⟩) at_170 (hw _ (List.mem_of_getElem? (i := 38) rfl)) (hw _ (List.mem_of_getElem? (i := 39) rfl)) (hw _ (List.mem_of_getElem? (i := 3) rfl)) (hw _ (List.mem_of_getElem? (i := 40) rfl)) (by decide) pd__I_I rfl rfl rfl (by decide) (by show (0 : Nat) + (1 + 11) + 0 ≤ _; decide) (by decide) (by decide) (by decide) (by decide) (pc' := 173) rfl ?_
          rintro _ _ ⟨_, rfl, rfl, rfl⟩ -
          show RunW l Z own_EL n0 x.cls code maxLocals ret x.name room_1 _ 173 #[.val (.int p1), .val (.int p2), .val (.int p3), .val (.int (Int32.ofNat na)), .val (.int (Int32.ofNat nb)), .val (.int x0), .val (.int x1), .val (.int x0), .val (.int x1), .val (.ref t17), .val (.ref t18), .unset, .unset] [(.int (own_sgn ((Int32.ofNat na) - (Int32.ofNat nb))))] h18 vm18 8 24
          refine RunW.istore (l' := #[.val (.int p1), .val (.int p2), .val (.int p3), .val (.int (Int32.ofNat na)), .val (.int (Int32.ofNat nb)), .val (.int x0), .val (.int x1), .val (.int x0), .val (.int x1), .val (.ref t17), .val (.ref t18), .val (.int (own_sgn ((Int32.ofNat na) - (Int32.ofNat nb)))), .unset]) at_173 rfl (pc' := 175) rfl ?_
          refine RunW.aload at_175 rfl rfl (pc' := 177) rfl ?_
          refine RunW.aload at_177 rfl rfl (pc' := 179) rfl ?_
          refine RunW.callS (k' := 8) (n' := 24) (as := [(.ref t17), (.ref t18)]) (rest := []) (con_cu8 l Z a0 hw n0 h18 sz18 t17 b17 t18 b18 ([x0, x1].take na) ([x0, x1].take nb) fm cz od18 SF hfm SD SH8 SL8 SZ hcz E_t17_18 F_t17_value_18 F_t17_coder_18 A_b17_18 X18 FV18 FC18 P18 (own_t2 _ _ _) (own_tk (own_chr2 q_x0.2 q_x1.2)) (own_t2 _ _ _) (own_tk (own_chr2 q_x0.2 q_x1.2)) ) (by rintro _ _ ⟨_, -, -, rfl⟩; exact ⟨[], Keep.refl _ _, all0⟩) at_179 (hw _ (List.mem_of_getElem? (i := 41) rfl)) (hw _ (List.mem_of_getElem? (i := 42) rfl)) (hw _ (List.mem_of_getElem? (i := 43) rfl)) (hw _ (List.mem_of_getElem? (i := 44) rfl)) (by decide) pd__Ljava_lang_String_Ljava_lang_String__I rfl rfl rfl (by decide) (by show (0 : Nat) + (6 + 11) + 66 ≤ _; decide) (by decide) (by decide) (by decide) (by decide) (pc' := 182) rfl ?_
          rintro _ _ ⟨_, rfl, rfl, rfl⟩ -
          show RunW l Z own_EL n0 x.cls code maxLocals ret x.name room_1 _ 182 #[.val (.int p1), .val (.int p2), .val (.int p3), .val (.int (Int32.ofNat na)), .val (.int (Int32.ofNat nb)), .val (.int x0), .val (.int x1), .val (.int x0), .val (.int x1), .val (.ref t17), .val (.ref t18), .val (.int (own_sgn ((Int32.ofNat na) - (Int32.ofNat nb)))), .unset] [(.int (own_cmp ([x0, x1].take na) ([x0, x1].take nb) (min ([x0, x1].take na).length ([x0, x1].take nb).length) 0))] h18 vm18 8 24
          refine RunW.callS (k' := 8) (n' := 24) (as := [(.int (own_cmp ([x0, x1].take na) ([x0, x1].take nb) (min ([x0, x1].take na).length ([x0, x1].take nb).length) 0))]) (rest := []) (con_own_sgn l Z a0 hw n0 h18 sz18 (own_cmp ([x0, x1].take na) ([x0, x1].take nb) (min ([x0, x1].take na).length ([x0, x1].take nb).length) 0) ) (by rintro _ _ ⟨_, -, -, rfl⟩; exact ⟨[], Keep.refl _ _, all0⟩) at_182 (hw _ (List.mem_of_getElem? (i := 38) rfl)) (hw _ (List.mem_of_getElem? (i := 39) rfl)) (hw _ (List.mem_of_getElem? (i := 3) rfl)) (hw _ (List.mem_of_getElem? (i := 40) rfl)) (by decide) pd__I_I rfl rfl rfl (by decide) (by show (0 : Nat) + (1 + 11) + 0 ≤ _; decide) (by decide) (by decide) (by decide) (by decide) (pc' := 185) rfl ?_
          rintro _ _ ⟨_, rfl, rfl, rfl⟩ -
          show RunW l Z own_EL n0 x.cls code maxLocals ret x.name room_1 _ 185 #[.val (.int p1), .val (.int p2), .val (.int p3), .val (.int (Int32.ofNat na)), .val (.int (Int32.ofNat nb)), .val (.int x0), .val (.int x1), .val (.int x0), .val (.int x1), .val (.ref t17), .val (.ref t18), .val (.int (own_sgn ((Int32.ofNat na) - (Int32.ofNat nb)))), .unset] [(.int (own_sgn (own_cmp ([x0, x1].take na) ([x0, x1].take nb) (min ([x0, x1].take na).length ([x0, x1].take nb).length) 0)))] h18 vm18 8 24
          refine RunW.istore (l' := #[.val (.int p1), .val (.int p2), .val (.int p3), .val (.int (Int32.ofNat na)), .val (.int (Int32.ofNat nb)), .val (.int x0), .val (.int x1), .val (.int x0), .val (.int x1), .val (.ref t17), .val (.ref t18), .val (.int (own_sgn ((Int32.ofNat na) - (Int32.ofNat nb)))), .val (.int (own_sgn (own_cmp ([x0, x1].take na) ([x0, x1].take nb) (min ([x0, x1].take na).length ([x0, x1].take nb).length) 0)))]) at_185 rfl (pc' := 187) rfl ?_
          refine RunW.iload at_187 rfl (pc' := 189) rfl ?_
          refine RunW.iload at_189 rfl (pc' := 191) rfl ?_
          refine RunW.icmp_ne at_191 (by decide) (pc' := 198) (by decide) (pa := 194) rfl (fun hc191 => ?_) (fun hc191 => ?_)
          · -- pc 191 taken: ¬ (own_sgn (own_cmp ([x0, x1].take na) ([x0, x1].take nb) (min ([x0, x1].take na).length ([x0, x1].take nb).length) 0)) = (own_sgn ((Int32.ofNat na) - (Int32.ofNat nb)))
            exact absurd (own_L3 h_na h_nb (Or.inl (own_le0 hc95 (by omega))) (Or.inl (own_le1 hc131 (by omega)))) hc191
          · -- pc 191 not taken: (own_sgn (own_cmp ([x0, x1].take na) ([x0, x1].take nb) (min ([x0, x1].take na).length ([x0, x1].take nb).length) 0)) = (own_sgn ((Int32.ofNat na) - (Int32.ofNat nb)))
            refine RunW.iconst (1 : Int32) at_194 (by decide) (pc' := 195) rfl ?_
            refine RunW.goto at_195 (by decide) (pc' := 199) (by decide) ?_
            exact RunW.nreturn at_199 (ty := .boolean) rfl (by simp) (by decide) (by decide) ⟨_, rfl, rfl⟩
        · -- pc 131 not taken: (1 : Int32) < (Int32.ofNat na)
          refine RunW.iload at_134 rfl (pc' := 136) rfl ?_
          refine RunW.iconst (1 : Int32) at_136 (by decide) (pc' := 137) rfl ?_
          refine RunW.icmp_le at_137 (by decide) (pc' := 166) (by decide) (pa := 140) rfl (fun hc137 => ?_) (fun hc137 => ?_)
          · -- pc 137 taken: ¬ (1 : Int32) < (Int32.ofNat nb)
            refine RunW.iloadN at_166 rfl (pc' := 167) rfl ?_
            refine RunW.iload at_167 rfl (pc' := 169) rfl ?_
            refine RunW.isub at_169 (pc' := 170) rfl ?_
            refine RunW.callS (k' := 8) (n' := 24) (as := [(.int ((Int32.ofNat na) - (Int32.ofNat nb)))]) (rest := []) (con_own_sgn l Z a0 hw n0 h18 sz18 ((Int32.ofNat na) - (Int32.ofNat nb)) ) (by rintro _ _ ⟨_, -, -, rfl⟩; exact ⟨[], Keep.refl _ _, all0⟩) at_170 (hw _ (List.mem_of_getElem? (i := 38) rfl)) (hw _ (List.mem_of_getElem? (i := 39) rfl)) (hw _ (List.mem_of_getElem? (i := 3) rfl)) (hw _ (List.mem_of_getElem? (i := 40) rfl)) (by decide) pd__I_I rfl rfl rfl (by decide) (by show (0 : Nat) + (1 + 11) + 0 ≤ _; decide) (by decide) (by decide) (by decide) (by decide) (pc' := 173) rfl ?_
            rintro _ _ ⟨_, rfl, rfl, rfl⟩ -
            show RunW l Z own_EL n0 x.cls code maxLocals ret x.name room_1 _ 173 #[.val (.int p1), .val (.int p2), .val (.int p3), .val (.int (Int32.ofNat na)), .val (.int (Int32.ofNat nb)), .val (.int x0), .val (.int x1), .val (.int x0), .val (.int x1), .val (.ref t17), .val (.ref t18), .unset, .unset] [(.int (own_sgn ((Int32.ofNat na) - (Int32.ofNat nb))))] h18 vm18 8 24
            refine RunW.istore (l' := #[.val (.int p1), .val (.int p2), .val (.int p3), .val (.int (Int32.ofNat na)), .val (.int (Int32.ofNat nb)), .val (.int x0), .val (.int x1), .val (.int x0), .val (.int x1), .val (.ref t17), .val (.ref t18), .val (.int (own_sgn ((Int32.ofNat na) - (Int32.ofNat nb)))), .unset]) at_173 rfl (pc' := 175) rfl ?_
            refine RunW.aload at_175 rfl rfl (pc' := 177) rfl ?_
            refine RunW.aload at_177 rfl rfl (pc' := 179) rfl ?_
            refine RunW.callS (k' := 8) (n' := 24) (as := [(.ref t17), (.ref t18)]) (rest := []) (con_cu8 l Z a0 hw n0 h18 sz18 t17 b17 t18 b18 ([x0, x1].take na) ([x0, x1].take nb) fm cz od18 SF hfm SD SH8 SL8 SZ hcz E_t17_18 F_t17_value_18 F_t17_coder_18 A_b17_18 X18 FV18 FC18 P18 (own_t2 _ _ _) (own_tk (own_chr2 q_x0.2 q_x1.2)) (own_t2 _ _ _) (own_tk (own_chr2 q_x0.2 q_x1.2)) ) (by rintro _ _ ⟨_, -, -, rfl⟩; exact ⟨[], Keep.refl _ _, all0⟩) at_179 (hw _ (List.mem_of_getElem? (i := 41) rfl)) (hw _ (List.mem_of_getElem? (i := 42) rfl)) (hw _ (List.mem_of_getElem? (i := 43) rfl)) (hw _ (List.mem_of_getElem? (i := 44) rfl)) (by decide) pd__Ljava_lang_String_Ljava_lang_String__I rfl rfl rfl (by decide) (by show (0 : Nat) + (6 + 11) + 66 ≤ _; decide) (by decide) (by decide) (by decide) (by decide) (pc' := 182) rfl ?_
            rintro _ _ ⟨_, rfl, rfl, rfl⟩ -
            show RunW l Z own_EL n0 x.cls code maxLocals ret x.name room_1 _ 182 #[.val (.int p1), .val (.int p2), .val (.int p3), .val (.int (Int32.ofNat na)), .val (.int (Int32.ofNat nb)), .val (.int x0), .val (.int x1), .val (.int x0), .val (.int x1), .val (.ref t17), .val (.ref t18), .val (.int (own_sgn ((Int32.ofNat na) - (Int32.ofNat nb)))), .unset] [(.int (own_cmp ([x0, x1].take na) ([x0, x1].take nb) (min ([x0, x1].take na).length ([x0, x1].take nb).length) 0))] h18 vm18 8 24
            refine RunW.callS (k' := 8) (n' := 24) (as := [(.int (own_cmp ([x0, x1].take na) ([x0, x1].take nb) (min ([x0, x1].take na).length ([x0, x1].take nb).length) 0))]) (rest := []) (con_own_sgn l Z a0 hw n0 h18 sz18 (own_cmp ([x0, x1].take na) ([x0, x1].take nb) (min ([x0, x1].take na).length ([x0, x1].take nb).length) 0) ) (by rintro _ _ ⟨_, -, -, rfl⟩; exact ⟨[], Keep.refl _ _, all0⟩) at_182 (hw _ (List.mem_of_getElem? (i := 38) rfl)) (hw _ (List.mem_of_getElem? (i := 39) rfl)) (hw _ (List.mem_of_getElem? (i := 3) rfl)) (hw _ (List.mem_of_getElem? (i := 40) rfl)) (by decide) pd__I_I rfl rfl rfl (by decide) (by show (0 : Nat) + (1 + 11) + 0 ≤ _; decide) (by decide) (by decide) (by decide) (by decide) (pc' := 185) rfl ?_
            rintro _ _ ⟨_, rfl, rfl, rfl⟩ -
            show RunW l Z own_EL n0 x.cls code maxLocals ret x.name room_1 _ 185 #[.val (.int p1), .val (.int p2), .val (.int p3), .val (.int (Int32.ofNat na)), .val (.int (Int32.ofNat nb)), .val (.int x0), .val (.int x1), .val (.int x0), .val (.int x1), .val (.ref t17), .val (.ref t18), .val (.int (own_sgn ((Int32.ofNat na) - (Int32.ofNat nb)))), .unset] [(.int (own_sgn (own_cmp ([x0, x1].take na) ([x0, x1].take nb) (min ([x0, x1].take na).length ([x0, x1].take nb).length) 0)))] h18 vm18 8 24
            refine RunW.istore (l' := #[.val (.int p1), .val (.int p2), .val (.int p3), .val (.int (Int32.ofNat na)), .val (.int (Int32.ofNat nb)), .val (.int x0), .val (.int x1), .val (.int x0), .val (.int x1), .val (.ref t17), .val (.ref t18), .val (.int (own_sgn ((Int32.ofNat na) - (Int32.ofNat nb)))), .val (.int (own_sgn (own_cmp ([x0, x1].take na) ([x0, x1].take nb) (min ([x0, x1].take na).length ([x0, x1].take nb).length) 0)))]) at_185 rfl (pc' := 187) rfl ?_
            refine RunW.iload at_187 rfl (pc' := 189) rfl ?_
            refine RunW.iload at_189 rfl (pc' := 191) rfl ?_
            refine RunW.icmp_ne at_191 (by decide) (pc' := 198) (by decide) (pa := 194) rfl (fun hc191 => ?_) (fun hc191 => ?_)
            · -- pc 191 taken: ¬ (own_sgn (own_cmp ([x0, x1].take na) ([x0, x1].take nb) (min ([x0, x1].take na).length ([x0, x1].take nb).length) 0)) = (own_sgn ((Int32.ofNat na) - (Int32.ofNat nb)))
              exact absurd (own_L3 h_na h_nb (Or.inl (own_le0 hc95 (by omega))) (Or.inr (Or.inl (own_le1 hc137 (by omega))))) hc191
            · -- pc 191 not taken: (own_sgn (own_cmp ([x0, x1].take na) ([x0, x1].take nb) (min ([x0, x1].take na).length ([x0, x1].take nb).length) 0)) = (own_sgn ((Int32.ofNat na) - (Int32.ofNat nb)))
              refine RunW.iconst (1 : Int32) at_194 (by decide) (pc' := 195) rfl ?_
              refine RunW.goto at_195 (by decide) (pc' := 199) (by decide) ?_
              exact RunW.nreturn at_199 (ty := .boolean) rfl (by simp) (by decide) (by decide) ⟨_, rfl, rfl⟩
          · -- pc 137 not taken: (1 : Int32) < (Int32.ofNat nb)
            refine RunW.iload at_140 rfl (pc' := 142) rfl ?_
            refine RunW.iload at_142 rfl (pc' := 144) rfl ?_
            refine RunW.icmp_eq at_144 (by decide) (pc' := 166) (by decide) (pa := 147) rfl (fun hc144 => ?_) (fun hc144 => ?_)
            · -- pc 144 taken: x1 = x1
              refine RunW.iloadN at_166 rfl (pc' := 167) rfl ?_
              refine RunW.iload at_167 rfl (pc' := 169) rfl ?_
              refine RunW.isub at_169 (pc' := 170) rfl ?_
              refine RunW.callS (k' := 8) (n' := 24) (as := [(.int ((Int32.ofNat na) - (Int32.ofNat nb)))]) (rest := []) (con_own_sgn l Z a0 hw n0 h18 sz18 ((Int32.ofNat na) - (Int32.ofNat nb)) ) (by rintro _ _ ⟨_, -, -, rfl⟩; exact ⟨[], Keep.refl _ _, all0⟩) at_170 (hw _ (List.mem_of_getElem? (i := 38) rfl)) (hw _ (List.mem_of_getElem? (i := 39) rfl)) (hw _ (List.mem_of_getElem? (i := 3) rfl)) (hw _ (List.mem_of_getElem? (i := 40) rfl)) (by decide) pd__I_I rfl rfl rfl (by decide) (by show (0 : Nat) + (1 + 11) + 0 ≤ _; decide) (by decide) (by decide) (by decide) (by decide) (pc' := 173) rfl ?_
              rintro _ _ ⟨_, rfl, rfl, rfl⟩ -
              show RunW l Z own_EL n0 x.cls code maxLocals ret x.name room_1 _ 173 #[.val (.int p1), .val (.int p2), .val (.int p3), .val (.int (Int32.ofNat na)), .val (.int (Int32.ofNat nb)), .val (.int x0), .val (.int x1), .val (.int x0), .val (.int x1), .val (.ref t17), .val (.ref t18), .unset, .unset] [(.int (own_sgn ((Int32.ofNat na) - (Int32.ofNat nb))))] h18 vm18 8 24
              refine RunW.istore (l' := #[.val (.int p1), .val (.int p2), .val (.int p3), .val (.int (Int32.ofNat na)), .val (.int (Int32.ofNat nb)), .val (.int x0), .val (.int x1), .val (.int x0), .val (.int x1), .val (.ref t17), .val (.ref t18), .val (.int (own_sgn ((Int32.ofNat na) - (Int32.ofNat nb)))), .unset]) at_173 rfl (pc' := 175) rfl ?_
              refine RunW.aload at_175 rfl rfl (pc' := 177) rfl ?_
              refine RunW.aload at_177 rfl rfl (pc' := 179) rfl ?_
              refine RunW.callS (k' := 8) (n' := 24) (as := [(.ref t17), (.ref t18)]) (rest := []) (con_cu8 l Z a0 hw n0 h18 sz18 t17 b17 t18 b18 ([x0, x1].take na) ([x0, x1].take nb) fm cz od18 SF hfm SD SH8 SL8 SZ hcz E_t17_18 F_t17_value_18 F_t17_coder_18 A_b17_18 X18 FV18 FC18 P18 (own_t2 _ _ _) (own_tk (own_chr2 q_x0.2 q_x1.2)) (own_t2 _ _ _) (own_tk (own_chr2 q_x0.2 q_x1.2)) ) (by rintro _ _ ⟨_, -, -, rfl⟩; exact ⟨[], Keep.refl _ _, all0⟩) at_179 (hw _ (List.mem_of_getElem? (i := 41) rfl)) (hw _ (List.mem_of_getElem? (i := 42) rfl)) (hw _ (List.mem_of_getElem? (i := 43) rfl)) (hw _ (List.mem_of_getElem? (i := 44) rfl)) (by decide) pd__Ljava_lang_String_Ljava_lang_String__I rfl rfl rfl (by decide) (by show (0 : Nat) + (6 + 11) + 66 ≤ _; decide) (by decide) (by decide) (by decide) (by decide) (pc' := 182) rfl ?_
              rintro _ _ ⟨_, rfl, rfl, rfl⟩ -
              show RunW l Z own_EL n0 x.cls code maxLocals ret x.name room_1 _ 182 #[.val (.int p1), .val (.int p2), .val (.int p3), .val (.int (Int32.ofNat na)), .val (.int (Int32.ofNat nb)), .val (.int x0), .val (.int x1), .val (.int x0), .val (.int x1), .val (.ref t17), .val (.ref t18), .val (.int (own_sgn ((Int32.ofNat na) - (Int32.ofNat nb)))), .unset] [(.int (own_cmp ([x0, x1].take na) ([x0, x1].take nb) (min ([x0, x1].take na).length ([x0, x1].take nb).length) 0))] h18 vm18 8 24
              refine RunW.callS (k' := 8) (n' := 24) (as := [(.int (own_cmp ([x0, x1].take na) ([x0, x1].take nb) (min ([x0, x1].take na).length ([x0, x1].take nb).length) 0))]) (rest := []) (con_own_sgn l Z a0 hw n0 h18 sz18 (own_cmp ([x0, x1].take na) ([x0, x1].take nb) (min ([x0, x1].take na).length ([x0, x1].take nb).length) 0) ) (by rintro _ _ ⟨_, -, -, rfl⟩; exact ⟨[], Keep.refl _ _, all0⟩) at_182 (hw _ (List.mem_of_getElem? (i := 38) rfl)) (hw _ (List.mem_of_getElem? (i := 39) rfl)) (hw _ (List.mem_of_getElem? (i := 3) rfl)) (hw _ (List.mem_of_getElem? (i := 40) rfl)) (by decide) pd__I_I rfl rfl rfl (by decide) (by show (0 : Nat) + (1 + 11) + 0 ≤ _; decide) (by decide) (by decide) (by decide) (by decide) (pc' := 185) rfl ?_
              rintro _ _ ⟨_, rfl, rfl, rfl⟩ -
              show RunW l Z own_EL n0 x.cls code maxLocals ret x.name room_1 _ 185 #[.val (.int p1), .val (.int p2), .val (.int p3), .val (.int (Int32.ofNat na)), .val (.int (Int32.ofNat nb)), .val (.int x0), .val (.int x1), .val (.int x0), .val (.int x1), .val (.ref t17), .val (.ref t18), .val (.int (own_sgn ((Int32.ofNat na) - (Int32.ofNat nb)))), .unset] [(.int (own_sgn (own_cmp ([x0, x1].take na) ([x0, x1].take nb) (min ([x0, x1].take na).length ([x0, x1].take nb).length) 0)))] h18 vm18 8 24
              refine RunW.istore (l' := #[.val (.int p1), .val (.int p2), .val (.int p3), .val (.int (Int32.ofNat na)), .val (.int (Int32.ofNat nb)), .val (.int x0), .val (.int x1), .val (.int x0), .val (.int x1), .val (.ref t17), .val (.ref t18), .val (.int (own_sgn ((Int32.ofNat na) - (Int32.ofNat nb)))), .val (.int (own_sgn (own_cmp ([x0, x1].take na) ([x0, x1].take nb) (min ([x0, x1].take na).length ([x0, x1].take nb).length) 0)))]) at_185 rfl (pc' := 187) rfl ?_
              refine RunW.iload at_187 rfl (pc' := 189) rfl ?_
              refine RunW.iload at_189 rfl (pc' := 191) rfl ?_
              refine RunW.icmp_ne at_191 (by decide) (pc' := 198) (by decide) (pa := 194) rfl (fun hc191 => ?_) (fun hc191 => ?_)
              · -- pc 191 taken: ¬ (own_sgn (own_cmp ([x0, x1].take na) ([x0, x1].take nb) (min ([x0, x1].take na).length ([x0, x1].take nb).length) 0)) = (own_sgn ((Int32.ofNat na) - (Int32.ofNat nb)))
                exact absurd (own_L3 h_na h_nb (Or.inl (own_le0 hc95 (by omega))) (Or.inr (Or.inr hc144))) hc191
              · -- pc 191 not taken: (own_sgn (own_cmp ([x0, x1].take na) ([x0, x1].take nb) (min ([x0, x1].take na).length ([x0, x1].take nb).length) 0)) = (own_sgn ((Int32.ofNat na) - (Int32.ofNat nb)))
                refine RunW.iconst (1 : Int32) at_194 (by decide) (pc' := 195) rfl ?_
                refine RunW.goto at_195 (by decide) (pc' := 199) (by decide) ?_
                exact RunW.nreturn at_199 (ty := .boolean) rfl (by simp) (by decide) (by decide) ⟨_, rfl, rfl⟩
            · -- pc 144 not taken: ¬ x1 = x1
              refine RunW.iload at_147 rfl (pc' := 149) rfl ?_
              refine RunW.callS (k' := 8) (n' := 24) (as := [(.int x1)]) (rest := []) (con_own_key l Z a0 hw n0 h18 sz18 x1 ) (by rintro _ _ ⟨_, -, -, rfl⟩; exact ⟨[], Keep.refl _ _, all0⟩) at_149 (hw _ (List.mem_of_getElem? (i := 83) rfl)) (hw _ (List.mem_of_getElem? (i := 84) rfl)) (hw _ (List.mem_of_getElem? (i := 3) rfl)) (hw _ (List.mem_of_getElem? (i := 85) rfl)) (by decide) pd__C_I rfl rfl rfl (by decide) (by show (0 : Nat) + (2 + 11) + 0 ≤ _; decide) (by decide) (by decide) (by decide) (by decide) (pc' := 152) rfl ?_
              rintro _ _ ⟨_, rfl, rfl, rfl⟩ -
              show RunW l Z own_EL n0 x.cls code maxLocals ret x.name room_1 _ 152 #[.val (.int p1), .val (.int p2), .val (.int p3), .val (.int (Int32.ofNat na)), .val (.int (Int32.ofNat nb)), .val (.int x0), .val (.int x1), .val (.int x0), .val (.int x1), .val (.ref t17), .val (.ref t18), .unset, .unset] [(.int (own_key x1))] h18 vm18 8 24
              refine RunW.iload at_152 rfl (pc' := 154) rfl ?_
              refine RunW.callS (k' := 8) (n' := 24) (as := [(.int x1)]) (rest := [(.int (own_key x1))]) (con_own_key l Z a0 hw n0 h18 sz18 x1 ) (by rintro _ _ ⟨_, -, -, rfl⟩; exact ⟨[], Keep.refl _ _, all0⟩) at_154 (hw _ (List.mem_of_getElem? (i := 83) rfl)) (hw _ (List.mem_of_getElem? (i := 84) rfl)) (hw _ (List.mem_of_getElem? (i := 3) rfl)) (hw _ (List.mem_of_getElem? (i := 85) rfl)) (by decide) pd__C_I rfl rfl rfl (by decide) (by show (1 : Nat) + (2 + 11) + 0 ≤ _; decide) (by decide) (by decide) (by decide) (by decide) (pc' := 157) rfl ?_
              rintro _ _ ⟨_, rfl, rfl, rfl⟩ -
              show RunW l Z own_EL n0 x.cls code maxLocals ret x.name room_1 _ 157 #[.val (.int p1), .val (.int p2), .val (.int p3), .val (.int (Int32.ofNat na)), .val (.int (Int32.ofNat nb)), .val (.int x0), .val (.int x1), .val (.int x0), .val (.int x1), .val (.ref t17), .val (.ref t18), .unset, .unset] [(.int (own_key x1)), (.int (own_key x1))] h18 vm18 8 24
              refine RunW.isub at_157 (pc' := 158) rfl ?_
              refine RunW.callS (k' := 8) (n' := 24) (as := [(.int ((own_key x1) - (own_key x1)))]) (rest := []) (con_own_sgn l Z a0 hw n0 h18 sz18 ((own_key x1) - (own_key x1)) ) (by rintro _ _ ⟨_, -, -, rfl⟩; exact ⟨[], Keep.refl _ _, all0⟩) at_158 (hw _ (List.mem_of_getElem? (i := 38) rfl)) (hw _ (List.mem_of_getElem? (i := 39) rfl)) (hw _ (List.mem_of_getElem? (i := 3) rfl)) (hw _ (List.mem_of_getElem? (i := 40) rfl)) (by decide) pd__I_I rfl rfl rfl (by decide) (by show (0 : Nat) + (1 + 11) + 0 ≤ _; decide) (by decide) (by decide) (by decide) (by decide) (pc' := 161) rfl ?_
              rintro _ _ ⟨_, rfl, rfl, rfl⟩ -
              show RunW l Z own_EL n0 x.cls code maxLocals ret x.name room_1 _ 161 #[.val (.int p1), .val (.int p2), .val (.int p3), .val (.int (Int32.ofNat na)), .val (.int (Int32.ofNat nb)), .val (.int x0), .val (.int x1), .val (.int x0), .val (.int x1), .val (.ref t17), .val (.ref t18), .unset, .unset] [(.int (own_sgn ((own_key x1) - (own_key x1))))] h18 vm18 8 24
              refine RunW.istore (l' := #[.val (.int p1), .val (.int p2), .val (.int p3), .val (.int (Int32.ofNat na)), .val (.int (Int32.ofNat nb)), .val (.int x0), .val (.int x1), .val (.int x0), .val (.int x1), .val (.ref t17), .val (.ref t18), .val (.int (own_sgn ((own_key x1) - (own_key x1)))), .unset]) at_161 rfl (pc' := 163) rfl ?_
              refine RunW.goto at_163 (by decide) (pc' := 175) (by decide) ?_
              refine RunW.aload at_175 rfl rfl (pc' := 177) rfl ?_
              refine RunW.aload at_177 rfl rfl (pc' := 179) rfl ?_
              refine RunW.callS (k' := 8) (n' := 24) (as := [(.ref t17), (.ref t18)]) (rest := []) (con_cu8 l Z a0 hw n0 h18 sz18 t17 b17 t18 b18 ([x0, x1].take na) ([x0, x1].take nb) fm cz od18 SF hfm SD SH8 SL8 SZ hcz E_t17_18 F_t17_value_18 F_t17_coder_18 A_b17_18 X18 FV18 FC18 P18 (own_t2 _ _ _) (own_tk (own_chr2 q_x0.2 q_x1.2)) (own_t2 _ _ _) (own_tk (own_chr2 q_x0.2 q_x1.2)) ) (by rintro _ _ ⟨_, -, -, rfl⟩; exact ⟨[], Keep.refl _ _, all0⟩) at_179 (hw _ (List.mem_of_getElem? (i := 41) rfl)) (hw _ (List.mem_of_getElem? (i := 42) rfl)) (hw _ (List.mem_of_getElem? (i := 43) rfl)) (hw _ (List.mem_of_getElem? (i := 44) rfl)) (by decide) pd__Ljava_lang_String_Ljava_lang_String__I rfl rfl rfl (by decide) (by show (0 : Nat) + (6 + 11) + 66 ≤ _; decide) (by decide) (by decide) (by decide) (by decide) (pc' := 182) rfl ?_
              rintro _ _ ⟨_, rfl, rfl, rfl⟩ -
              show RunW l Z own_EL n0 x.cls code maxLocals ret x.name room_1 _ 182 #[.val (.int p1), .val (.int p2), .val (.int p3), .val (.int (Int32.ofNat na)), .val (.int (Int32.ofNat nb)), .val (.int x0), .val (.int x1), .val (.int x0), .val (.int x1), .val (.ref t17), .val (.ref t18), .val (.int (own_sgn ((own_key x1) - (own_key x1)))), .unset] [(.int (own_cmp ([x0, x1].take na) ([x0, x1].take nb) (min ([x0, x1].take na).length ([x0, x1].take nb).length) 0))] h18 vm18 8 24
              refine RunW.callS (k' := 8) (n' := 24) (as := [(.int (own_cmp ([x0, x1].take na) ([x0, x1].take nb) (min ([x0, x1].take na).length ([x0, x1].take nb).length) 0))]) (rest := []) (con_own_sgn l Z a0 hw n0 h18 sz18 (own_cmp ([x0, x1].take na) ([x0, x1].take nb) (min ([x0, x1].take na).length ([x0, x1].take nb).length) 0) ) (by rintro _ _ ⟨_, -, -, rfl⟩; exact ⟨[], Keep.refl _ _, all0⟩) at_182 (hw _ (List.mem_of_getElem? (i := 38) rfl)) (hw _ (List.mem_of_getElem? (i := 39) rfl)) (hw _ (List.mem_of_getElem? (i := 3) rfl)) (hw _ (List.mem_of_getElem? (i := 40) rfl)) (by decide) pd__I_I rfl rfl rfl (by decide) (by show (0 : Nat) + (1 + 11) + 0 ≤ _; decide) (by decide) (by decide) (by decide) (by decide) (pc' := 185) rfl ?_
              rintro _ _ ⟨_, rfl, rfl, rfl⟩ -
              show RunW l Z own_EL n0 x.cls code maxLocals ret x.name room_1 _ 185 #[.val (.int p1), .val (.int p2), .val (.int p3), .val (.int (Int32.ofNat na)), .val (.int (Int32.ofNat nb)), .val (.int x0), .val (.int x1), .val (.int x0), .val (.int x1), .val (.ref t17), .val (.ref t18), .val (.int (own_sgn ((own_key x1) - (own_key x1)))), .unset] [(.int (own_sgn (own_cmp ([x0, x1].take na) ([x0, x1].take nb) (min ([x0, x1].take na).length ([x0, x1].take nb).length) 0)))] h18 vm18 8 24
              refine RunW.istore (l' := #[.val (.int p1), .val (.int p2), .val (.int p3), .val (.int (Int32.ofNat na)), .val (.int (Int32.ofNat nb)), .val (.int x0), .val (.int x1), .val (.int x0), .val (.int x1), .val (.ref t17), .val (.ref t18), .val (.int (own_sgn ((own_key x1) - (own_key x1)))), .val (.int (own_sgn (own_cmp ([x0, x1].take na) ([x0, x1].take nb) (min ([x0, x1].take na).length ([x0, x1].take nb).length) 0)))]) at_185 rfl (pc' := 187) rfl ?_
              refine RunW.iload at_187 rfl (pc' := 189) rfl ?_
              refine RunW.iload at_189 rfl (pc' := 191) rfl ?_
              refine RunW.icmp_ne at_191 (by decide) (pc' := 198) (by decide) (pa := 194) rfl (fun hc191 => ?_) (fun hc191 => ?_)
              · -- pc 191 taken: ¬ (own_sgn (own_cmp ([x0, x1].take na) ([x0, x1].take nb) (min ([x0, x1].take na).length ([x0, x1].take nb).length) 0)) = (own_sgn ((own_key x1) - (own_key x1)))
                exact absurd (own_L2 h_na h_nb (Or.inl (own_le0 hc95 (by omega))) (own_gt1 hc131 (by omega)) (own_gt1 hc137 (by omega)) q_x1.2 q_x1.2 hc144) hc191
              · -- pc 191 not taken: (own_sgn (own_cmp ([x0, x1].take na) ([x0, x1].take nb) (min ([x0, x1].take na).length ([x0, x1].take nb).length) 0)) = (own_sgn ((own_key x1) - (own_key x1)))
                refine RunW.iconst (1 : Int32) at_194 (by decide) (pc' := 195) rfl ?_
                refine RunW.goto at_195 (by decide) (pc' := 199) (by decide) ?_
                exact RunW.nreturn at_199 (ty := .boolean) rfl (by simp) (by decide) (by decide) ⟨_, rfl, rfl⟩
      · -- pc 95 not taken: (0 : Int32) < (Int32.ofNat na)
        refine RunW.iload at_98 rfl (pc' := 100) rfl ?_
        refine RunW.if_le at_100 (by decide) (pc' := 129) (by decide) (pa := 103) rfl (fun hc100 => ?_) (fun hc100 => ?_)
        · -- pc 100 taken: ¬ (0 : Int32) < (Int32.ofNat nb)
          refine RunW.iloadN at_129 rfl (pc' := 130) rfl ?_
          refine RunW.iconst (1 : Int32) at_130 (by decide) (pc' := 131) rfl ?_
          refine RunW.icmp_le at_131 (by decide) (pc' := 166) (by decide) (pa := 134) rfl (fun hc131 => ?_) (fun hc131 => ?_)
          · -- pc 131 taken: ¬ (1 : Int32) < (Int32.ofNat na)
            refine RunW.iloadN at_166 rfl (pc' := 167) rfl ?_
            refine RunW.iload at_167 rfl (pc' := 169) rfl ?_
            refine RunW.isub at_169 (pc' := 170) rfl ?_
            refine RunW.callS (k' := 8) (n' := 24) (as := [(.int ((Int32.ofNat na) - (Int32.ofNat nb)))]) (rest := []) (con_own_sgn l Z a0 hw n0 h18 sz18 ((Int32.ofNat na) - (Int32.ofNat nb)) ) (by rintro _ _ ⟨_, -, -, rfl⟩; exact ⟨[], Keep.refl _ _, all0⟩) at_170 (hw _ (List.mem_of_getElem? (i := 38) rfl)) (hw _ (List.mem_of_getElem? (i := 39) rfl)) (hw _ (List.mem_of_getElem? (i := 3) rfl)) (hw _ (List.mem_of_getElem? (i := 40) rfl)) (by decide) pd__I_I rfl rfl rfl (by decide) (by show (0 : Nat) + (1 + 11) + 0 ≤ _; decide) (by decide) (by decide) (by decide) (by decide) (pc' := 173) rfl ?_
            rintro _ _ ⟨_, rfl, rfl, rfl⟩ -
            show RunW l Z own_EL n0 x.cls code maxLocals ret x.name room_1 _ 173 #[.val (.int p1), .val (.int p2), .val (.int p3), .val (.int (Int32.ofNat na)), .val (.int (Int32.ofNat nb)), .val (.int x0), .val (.int x1), .val (.int x0), .val (.int x1), .val (.ref t17), .val (.ref t18), .unset, .unset] [(.int (own_sgn ((Int32.ofNat na) - (Int32.ofNat nb))))] h18 vm18 8 24
            refine RunW.istore (l' := #[.val (.int p1), .val (.int p2), .val (.int p3), .val (.int (Int32.ofNat na)), .val (.int (Int32.ofNat nb)), .val (.int x0), .val (.int x1), .val (.int x0), .val (.int x1), .val (.ref t17), .val (.ref t18), .val (.int (own_sgn ((Int32.ofNat na) - (Int32.ofNat nb)))), .unset]) at_173 rfl (pc' := 175) rfl ?_
            refine RunW.aload at_175 rfl rfl (pc' := 177) rfl ?_
            refine RunW.aload at_177 rfl rfl (pc' := 179) rfl ?_
            refine RunW.callS (k' := 8) (n' := 24) (as := [(.ref t17), (.ref t18)]) (rest := []) (con_cu8 l Z a0 hw n0 h18 sz18 t17 b17 t18 b18 ([x0, x1].take na) ([x0, x1].take nb) fm cz od18 SF hfm SD SH8 SL8 SZ hcz E_t17_18 F_t17_value_18 F_t17_coder_18 A_b17_18 X18 FV18 FC18 P18 (own_t2 _ _ _) (own_tk (own_chr2 q_x0.2 q_x1.2)) (own_t2 _ _ _) (own_tk (own_chr2 q_x0.2 q_x1.2)) ) (by rintro _ _ ⟨_, -, -, rfl⟩; exact ⟨[], Keep.refl _ _, all0⟩) at_179 (hw _ (List.mem_of_getElem? (i := 41) rfl)) (hw _ (List.mem_of_getElem? (i := 42) rfl)) (hw _ (List.mem_of_getElem? (i := 43) rfl)) (hw _ (List.mem_of_getElem? (i := 44) rfl)) (by decide) pd__Ljava_lang_String_Ljava_lang_String__I rfl rfl rfl (by decide) (by show (0 : Nat) + (6 + 11) + 66 ≤ _; decide) (by decide) (by decide) (by decide) (by decide) (pc' := 182) rfl ?_
            rintro _ _ ⟨_, rfl, rfl, rfl⟩ -
            show RunW l Z own_EL n0 x.cls code maxLocals ret x.name room_1 _ 182 #[.val (.int p1), .val (.int p2), .val (.int p3), .val (.int (Int32.ofNat na)), .val (.int (Int32.ofNat nb)), .val (.int x0), .val (.int x1), .val (.int x0), .val (.int x1), .val (.ref t17), .val (.ref t18), .val (.int (own_sgn ((Int32.ofNat na) - (Int32.ofNat nb)))), .unset] [(.int (own_cmp ([x0, x1].take na) ([x0, x1].take nb) (min ([x0, x1].take na).length ([x0, x1].take nb).length) 0))] h18 vm18 8 24
            refine RunW.callS (k' := 8) (n' := 24) (as := [(.int (own_cmp ([x0, x1].take na) ([x0, x1].take nb) (min ([x0, x1].take na).length ([x0, x1].take nb).length) 0))]) (rest := []) (con_own_sgn l Z a0 hw n0 h18 sz18 (own_cmp ([x0, x1].take na) ([x0, x1].take nb) (min ([x0, x1].take na).length ([x0, x1].take nb).length) 0) ) (by rintro _ _ ⟨_, -, -, rfl⟩; exact ⟨[], Keep.refl _ _, all0⟩) at_182 (hw _ (List.mem_of_getElem? (i := 38) rfl)) (hw _ (List.mem_of_getElem? (i := 39) rfl)) (hw _ (List.mem_of_getElem? (i := 3) rfl)) (hw _ (List.mem_of_getElem? (i := 40) rfl)) (by decide) pd__I_I rfl rfl rfl (by decide) (by show (0 : Nat) + (1 + 11) + 0 ≤ _; decide) (by decide) (by decide) (by decide) (by decide) (pc' := 185) rfl ?_
            rintro _ _ ⟨_, rfl, rfl, rfl⟩ -
            show RunW l Z own_EL n0 x.cls code maxLocals ret x.name room_1 _ 185 #[.val (.int p1), .val (.int p2), .val (.int p3), .val (.int (Int32.ofNat na)), .val (.int (Int32.ofNat nb)), .val (.int x0), .val (.int x1), .val (.int x0), .val (.int x1), .val (.ref t17), .val (.ref t18), .val (.int (own_sgn ((Int32.ofNat na) - (Int32.ofNat nb)))), .unset] [(.int (own_sgn (own_cmp ([x0, x1].take na) ([x0, x1].take nb) (min ([x0, x1].take na).length ([x0, x1].take nb).length) 0)))] h18 vm18 8 24
            refine RunW.istore (l' := #[.val (.int p1), .val (.int p2), .val (.int p3), .val (.int (Int32.ofNat na)), .val (.int (Int32.ofNat nb)), .val (.int x0), .val (.int x1), .val (.int x0), .val (.int x1), .val (.ref t17), .val (.ref t18), .val (.int (own_sgn ((Int32.ofNat na) - (Int32.ofNat nb)))), .val (.int (own_sgn (own_cmp ([x0, x1].take na) ([x0, x1].take nb) (min ([x0, x1].take na).length ([x0, x1].take nb).length) 0)))]) at_185 rfl (pc' := 187) rfl ?_
            refine RunW.iload at_187 rfl (pc' := 189) rfl ?_
            refine RunW.iload at_189 rfl (pc' := 191) rfl ?_
            refine RunW.icmp_ne at_191 (by decide) (pc' := 198) (by decide) (pa := 194) rfl (fun hc191 => ?_) (fun hc191 => ?_)
            · -- pc 191 taken: ¬ (own_sgn (own_cmp ([x0, x1].take na) ([x0, x1].take nb) (min ([x0, x1].take na).length ([x0, x1].take nb).length) 0)) = (own_sgn ((Int32.ofNat na) - (Int32.ofNat nb)))
              exact absurd (own_L3 h_na h_nb (Or.inr (Or.inl (own_le0 hc100 (by omega)))) (Or.inl (own_le1 hc131 (by omega)))) hc191
            · -- pc 191 not taken: (own_sgn (own_cmp ([x0, x1].take na) ([x0, x1].take nb) (min ([x0, x1].take na).length ([x0, x1].take nb).length) 0)) = (own_sgn ((Int32.ofNat na) - (Int32.ofNat nb)))
              refine RunW.iconst (1 : Int32) at_194 (by decide) (pc' := 195) rfl ?_
              refine RunW.goto at_195 (by decide) (pc' := 199) (by decide) ?_
              exact RunW.nreturn at_199 (ty := .boolean) rfl (by simp) (by decide) (by decide) ⟨_, rfl, rfl⟩
          · -- pc 131 not taken: (1 : Int32) < (Int32.ofNat na)
            refine RunW.iload at_134 rfl (pc' := 136) rfl ?_
            refine RunW.iconst (1 : Int32) at_136 (by decide) (pc' := 137) rfl ?_
            refine RunW.icmp_le at_137 (by decide) (pc' := 166) (by decide) (pa := 140) rfl (fun hc137 => ?_) (fun hc137 => ?_)
            · -- pc 137 taken: ¬ (1 : Int32) < (Int32.ofNat nb)
              refine RunW.iloadN at_166 rfl (pc' := 167) rfl ?_
              refine RunW.iload at_167 rfl (pc' := 169) rfl ?_
              refine RunW.isub at_169 (pc' := 170) rfl ?_
              refine RunW.callS (k' := 8) (n' := 24) (as := [(.int ((Int32.ofNat na) - (Int32.ofNat nb)))]) (rest := []) (con_own_sgn l Z a0 hw n0 h18 sz18 ((Int32.ofNat na) - (Int32.ofNat nb)) ) (by rintro _ _ ⟨_, -, -, rfl⟩; exact ⟨[], Keep.refl _ _, all0⟩) at_170 (hw _ (List.mem_of_getElem? (i := 38) rfl)) (hw _ (List.mem_of_getElem? (i := 39) rfl)) (hw _ (List.mem_of_getElem? (i := 3) rfl)) (hw _ (List.mem_of_getElem? (i := 40) rfl)) (by decide) pd__I_I rfl rfl rfl (by decide) (by show (0 : Nat) + (1 + 11) + 0 ≤ _; decide) (by decide) (by decide) (by decide) (by decide) (pc' := 173) rfl ?_
              rintro _ _ ⟨_, rfl, rfl, rfl⟩ -
              show RunW l Z own_EL n0 x.cls code maxLocals ret x.name room_1 _ 173 #[.val (.int p1), .val (.int p2), .val (.int p3), .val (.int (Int32.ofNat na)), .val (.int (Int32.ofNat nb)), .val (.int x0), .val (.int x1), .val (.int x0), .val (.int x1), .val (.ref t17), .val (.ref t18), .unset, .unset] [(.int (own_sgn ((Int32.ofNat na) - (Int32.ofNat nb))))] h18 vm18 8 24
              refine RunW.istore (l' := #[.val (.int p1), .val (.int p2), .val (.int p3), .val (.int (Int32.ofNat na)), .val (.int (Int32.ofNat nb)), .val (.int x0), .val (.int x1), .val (.int x0), .val (.int x1), .val (.ref t17), .val (.ref t18), .val (.int (own_sgn ((Int32.ofNat na) - (Int32.ofNat nb)))), .unset]) at_173 rfl (pc' := 175) rfl ?_
              refine RunW.aload at_175 rfl rfl (pc' := 177) rfl ?_
              refine RunW.aload at_177 rfl rfl (pc' := 179) rfl ?_
              refine RunW.callS (k' := 8) (n' := 24) (as := [(.ref t17), (.ref t18)]) (rest := []) (con_cu8 l Z a0 hw n0 h18 sz18 t17 b17 t18 b18 ([x0, x1].take na) ([x0, x1].take nb) fm cz od18 SF hfm SD SH8 SL8 SZ hcz E_t17_18 F_t17_value_18 F_t17_coder_18 A_b17_18 X18 FV18 FC18 P18 (own_t2 _ _ _) (own_tk (own_chr2 q_x0.2 q_x1.2)) (own_t2 _ _ _) (own_tk (own_chr2 q_x0.2 q_x1.2)) ) (by rintro _ _ ⟨_, -, -, rfl⟩; exact ⟨[], Keep.refl _ _, all0⟩) at_179 (hw _ (List.mem_of_getElem? (i := 41) rfl)) (hw _ (List.mem_of_getElem? (i := 42) rfl)) (hw _ (List.mem_of_getElem? (i := 43) rfl)) (hw _ (List.mem_of_getElem? (i := 44) rfl)) (by decide) pd__Ljava_lang_String_Ljava_lang_String__I rfl rfl rfl (by decide) (by show (0 : Nat) + (6 + 11) + 66 ≤ _; decide) (by decide) (by decide) (by decide) (by decide) (pc' := 182) rfl ?_
              rintro _ _ ⟨_, rfl, rfl, rfl⟩ -
              show RunW l Z own_EL n0 x.cls code maxLocals ret x.name room_1 _ 182 #[.val (.int p1), .val (.int p2), .val (.int p3), .val (.int (Int32.ofNat na)), .val (.int (Int32.ofNat nb)), .val (.int x0), .val (.int x1), .val (.int x0), .val (.int x1), .val (.ref t17), .val (.ref t18), .val (.int (own_sgn ((Int32.ofNat na) - (Int32.ofNat nb)))), .unset] [(.int (own_cmp ([x0, x1].take na) ([x0, x1].take nb) (min ([x0, x1].take na).length ([x0, x1].take nb).length) 0))] h18 vm18 8 24
              refine RunW.callS (k' := 8) (n' := 24) (as := [(.int (own_cmp ([x0, x1].take na) ([x0, x1].take nb) (min ([x0, x1].take na).length ([x0, x1].take nb).length) 0))]) (rest := []) (con_own_sgn l Z a0 hw n0 h18 sz18 (own_cmp ([x0, x1].take na) ([x0, x1].take nb) (min ([x0, x1].take na).length ([x0, x1].take nb).length) 0) ) (by rintro _ _ ⟨_, -, -, rfl⟩; exact ⟨[], Keep.refl _ _, all0⟩) at_182 (hw _ (List.mem_of_getElem? (i := 38) rfl)) (hw _ (List.mem_of_getElem? (i := 39) rfl)) (hw _ (List.mem_of_getElem? (i := 3) rfl)) (hw _ (List.mem_of_getElem? (i := 40) rfl)) (by decide) pd__I_I rfl rfl rfl (by decide) (by show (0 : Nat) + (1 + 11) + 0 ≤ _; decide) (by decide) (by decide) (by decide) (by decide) (pc' := 185) rfl ?_
              rintro _ _ ⟨_, rfl, rfl, rfl⟩ -
              show RunW l Z own_EL n0 x.cls code maxLocals ret x.name room_1 _ 185 #[.val (.int p1), .val (.int p2), .val (.int p3), .val (.int (Int32.ofNat na)), .val (.int (Int32.ofNat nb)), .val (.int x0), .val (.int x1), .val (.int x0), .val (.int x1), .val (.ref t17), .val (.ref t18), .val (.int (own_sgn ((Int32.ofNat na) - (Int32.ofNat nb)))), .unset] [(.int (own_sgn (own_cmp ([x0, x1].take na) ([x0, x1].take nb) (min ([x0, x1].take na).length ([x0, x1].take nb).length) 0)))] h18 vm18 8 24
              refine RunW.istore (l' := #[.val (.int p1), .val (.int p2), .val (.int p3), .val (.int (Int32.ofNat na)), .val (.int (Int32.ofNat nb)), .val (.int x0), .val (.int x1), .val (.int x0), .val (.int x1), .val (.ref t17), .val (.ref t18), .val (.int (own_sgn ((Int32.ofNat na) - (Int32.ofNat nb)))), .val (.int (own_sgn (own_cmp ([x0, x1].take na) ([x0, x1].take nb) (min ([x0, x1].take na).length ([x0, x1].take nb).length) 0)))]) at_185 rfl (pc' := 187) rfl ?_
              refine RunW.iload at_187 rfl (pc' := 189) rfl ?_
              refine RunW.iload at_189 rfl (pc' := 191) rfl ?_
              refine RunW.icmp_ne at_191 (by decide) (pc' := 198) (by decide) (pa := 194) rfl (fun hc191 => ?_) (fun hc191 => ?_)
              · -- pc 191 taken: ¬ (own_sgn (own_cmp ([x0, x1].take na) ([x0, x1].take nb) (min ([x0, x1].take na).length ([x0, x1].take nb).length) 0)) = (own_sgn ((Int32.ofNat na) - (Int32.ofNat nb)))
                exact absurd (own_L3 h_na h_nb (Or.inr (Or.inl (own_le0 hc100 (by omega)))) (Or.inr (Or.inl (own_le1 hc137 (by omega))))) hc191
              · -- pc 191 not taken: (own_sgn (own_cmp ([x0, x1].take na) ([x0, x1].take nb) (min ([x0, x1].take na).length ([x0, x1].take nb).length) 0)) = (own_sgn ((Int32.ofNat na) - (Int32.ofNat nb)))
                refine RunW.iconst (1 : Int32) at_194 (by decide) (pc' := 195) rfl ?_
                refine RunW.goto at_195 (by decide) (pc' := 199) (by decide) ?_
                exact RunW.nreturn at_199 (ty := .boolean) rfl (by simp) (by decide) (by decide) ⟨_, rfl, rfl⟩
            · -- pc 137 not taken: (1 : Int32) < (Int32.ofNat nb)
              refine RunW.iload at_140 rfl (pc' := 142) rfl ?_
              refine RunW.iload at_142 rfl (pc' := 144) rfl ?_
              refine RunW.icmp_eq at_144 (by decide) (pc' := 166) (by decide) (pa := 147) rfl (fun hc144 => ?_) (fun hc144 => ?_)
              · -- pc 144 taken: x1 = x1
                refine RunW.iloadN at_166 rfl (pc' := 167) rfl ?_
                refine RunW.iload at_167 rfl (pc' := 169) rfl ?_
                refine RunW.isub at_169 (pc' := 170) rfl ?_
                refine RunW.callS (k' := 8) (n' := 24) (as := [(.int ((Int32.ofNat na) - (Int32.ofNat nb)))]) (rest := []) (con_own_sgn l Z a0 hw n0 h18 sz18 ((Int32.ofNat na) - (Int32.ofNat nb)) ) (by rintro _ _ ⟨_, -, -, rfl⟩; exact ⟨[], Keep.refl _ _, all0⟩) at_170 (hw _ (List.mem_of_getElem? (i := 38) rfl)) (hw _ (List.mem_of_getElem? (i := 39) rfl)) (hw _ (List.mem_of_getElem? (i := 3) rfl)) (hw _ (List.mem_of_getElem? (i := 40) rfl)) (by decide) pd__I_I rfl rfl rfl (by decide) (by show (0 : Nat) + (1 + 11) + 0 ≤ _; decide) (by decide) (by decide) (by decide) (by decide) (pc' := 173) rfl ?_
                rintro _ _ ⟨_, rfl, rfl, rfl⟩ -
                show RunW l Z own_EL n0 x.cls code maxLocals ret x.name room_1 _ 173 #[.val (.int p1), .val (.int p2), .val (.int p3), .val (.int (Int32.ofNat na)), .val (.int (Int32.ofNat nb)), .val (.int x0), .val (.int x1), .val (.int x0), .val (.int x1), .val (.ref t17), .val (.ref t18), .unset, .unset] [(.int (own_sgn ((Int32.ofNat na) - (Int32.ofNat nb))))] h18 vm18 8 24
                refine RunW.istore (l' := #[.val (.int p1), .val (.int p2), .val (.int p3), .val (.int (Int32.ofNat na)), .val (.int (Int32.ofNat nb)), .val (.int x0), .val (.int x1), .val (.int x0), .val (.int x1), .val (.ref t17), .val (.ref t18), .val (.int (own_sgn ((Int32.ofNat na) - (Int32.ofNat nb)))), .unset]) at_173 rfl (pc' := 175) rfl ?_
                refine RunW.aload at_175 rfl rfl (pc' := 177) rfl ?_
                refine RunW.aload at_177 rfl rfl (pc' := 179) rfl ?_
                refine RunW.callS (k' := 8) (n' := 24) (as := [(.ref t17), (.ref t18)]) (rest := []) (con_cu8 l Z a0 hw n0 h18 sz18 t17 b17 t18 b18 ([x0, x1].take na) ([x0, x1].take nb) fm cz od18 SF hfm SD SH8 SL8 SZ hcz E_t17_18 F_t17_value_18 F_t17_coder_18 A_b17_18 X18 FV18 FC18 P18 (own_t2 _ _ _) (own_tk (own_chr2 q_x0.2 q_x1.2)) (own_t2 _ _ _) (own_tk (own_chr2 q_x0.2 q_x1.2)) ) (by rintro _ _ ⟨_, -, -, rfl⟩; exact ⟨[], Keep.refl _ _, all0⟩) at_179 (hw _ (List.mem_of_getElem? (i := 41) rfl)) (hw _ (List.mem_of_getElem? (i := 42) rfl)) (hw _ (List.mem_of_getElem? (i := 43) rfl)) (hw _ (List.mem_of_getElem? (i := 44) rfl)) (by decide) pd__Ljava_lang_String_Ljava_lang_String__I rfl rfl rfl (by decide) (by show (0 : Nat) + (6 + 11) + 66 ≤ _; decide) (by decide) (by decide) (by decide) (by decide) (pc' := 182) rfl ?_
                rintro _ _ ⟨_, rfl, rfl, rfl⟩ -
                show RunW l Z own_EL n0 x.cls code maxLocals ret x.name room_1 _ 182 #[.val (.int p1), .val (.int p2), .val (.int p3), .val (.int (Int32.ofNat na)), .val (.int (Int32.ofNat nb)), .val (.int x0), .val (.int x1), .val (.int x0), .val (.int x1), .val (.ref t17), .val (.ref t18), .val (.int (own_sgn ((Int32.ofNat na) - (Int32.ofNat nb)))), .unset] [(.int (own_cmp ([x0, x1].take na) ([x0, x1].take nb) (min ([x0, x1].take na).length ([x0, x1].take nb).length) 0))] h18 vm18 8 24
                refine RunW.callS (k' := 8) (n' := 24) (as := [(.int (own_cmp ([x0, x1].take na) ([x0, x1].take nb) (min ([x0, x1].take na).length ([x0, x1].take nb).length) 0))]) (rest := []) (con_own_sgn l Z a0 hw n0 h18 sz18 (own_cmp ([x0, x1].take na) ([x0, x1].take nb) (min ([x0, x1].take na).length ([x0, x1].take nb).length) 0) ) (by rintro _ _ ⟨_, -, -, rfl⟩; exact ⟨[], Keep.refl _ _, all0⟩) at_182 (hw _ (List.mem_of_getElem? (i := 38) rfl)) (hw _ (List.mem_of_getElem? (i := 39) rfl)) (hw _ (List.mem_of_getElem? (i := 3) rfl)) (hw _ (List.mem_of_getElem? (i := 40) rfl)) (by decide) pd__I_I rfl rfl rfl (by decide) (by show (0 : Nat) + (1 + 11) + 0 ≤ _; decide) (by decide) (by decide) (by decide) (by decide) (pc' := 185) rfl ?_
                rintro _ _ ⟨_, rfl, rfl, rfl⟩ -
                show RunW l Z own_EL n0 x.cls code maxLocals ret x.name room_1 _ 185 #[.val (.int p1), .val (.int p2), .val (.int p3), .val (.int (Int32.ofNat na)), .val (.int (Int32.ofNat nb)), .val (.int x0), .val (.int x1), .val (.int x0), .val (.int x1), .val (.ref t17), .val (.ref t18), .val (.int (own_sgn ((Int32.ofNat na) - (Int32.ofNat nb)))), .unset] [(.int (own_sgn (own_cmp ([x0, x1].take na) ([x0, x1].take nb) (min ([x0, x1].take na).length ([x0, x1].take nb).length) 0)))] h18 vm18 8 24
                refine RunW.istore (l' := #[.val (.int p1), .val (.int p2), .val (.int p3), .val (.int (Int32.ofNat na)), .val (.int (Int32.ofNat nb)), .val (.int x0), .val (.int x1), .val (.int x0), .val (.int x1), .val (.ref t17), .val (.ref t18), .val (.int (own_sgn ((Int32.ofNat na) - (Int32.ofNat nb)))), .val (.int (own_sgn (own_cmp ([x0, x1].take na) ([x0, x1].take nb) (min ([x0, x1].take na).length ([x0, x1].take nb).length) 0)))]) at_185 rfl (pc' := 187) rfl ?_
                refine RunW.iload at_187 rfl (pc' := 189) rfl ?_
                refine RunW.iload at_189 rfl (pc' := 191) rfl ?_
                refine RunW.icmp_ne at_191 (by decide) (pc' := 198) (by decide) (pa := 194) rfl (fun hc191 => ?_) (fun hc191 => ?_)
                · -- pc 191 taken: ¬ (own_sgn (own_cmp ([x0, x1].take na) ([x0, x1].take nb) (min ([x0, x1].take na).length ([x0, x1].take nb).length) 0)) = (own_sgn ((Int32.ofNat na) - (Int32.ofNat nb)))
                  exact absurd (own_L3 h_na h_nb (Or.inr (Or.inl (own_le0 hc100 (by omega)))) (Or.inr (Or.inr hc144))) hc191
                · -- pc 191 not taken: (own_sgn (own_cmp ([x0, x1].take na) ([x0, x1].take nb) (min ([x0, x1].take na).length ([x0, x1].take nb).length) 0)) = (own_sgn ((Int32.ofNat na) - (Int32.ofNat nb)))
                  refine RunW.iconst (1 : Int32) at_194 (by decide) (pc' := 195) rfl ?_
                  refine RunW.goto at_195 (by decide) (pc' := 199) (by decide) ?_
                  exact RunW.nreturn at_199 (ty := .boolean) rfl (by simp) (by decide) (by decide) ⟨_, rfl, rfl⟩
              · -- pc 144 not taken: ¬ x1 = x1
                refine RunW.iload at_147 rfl (pc' := 149) rfl ?_
                refine RunW.callS (k' := 8) (n' := 24) (as := [(.int x1)]) (rest := []) (con_own_key l Z a0 hw n0 h18 sz18 x1 ) (by rintro _ _ ⟨_, -, -, rfl⟩; exact ⟨[], Keep.refl _ _, all0⟩) at_149 (hw _ (List.mem_of_getElem? (i := 83) rfl)) (hw _ (List.mem_of_getElem? (i := 84) rfl)) (hw _ (List.mem_of_getElem? (i := 3) rfl)) (hw _ (List.mem_of_getElem? (i := 85) rfl)) (by decide) pd__C_I rfl rfl rfl (by decide) (by show (0 : Nat) + (2 + 11) + 0 ≤ _; decide) (by decide) (by decide) (by decide) (by decide) (pc' := 152) rfl ?_
                rintro _ _ ⟨_, rfl, rfl, rfl⟩ -
                show RunW l Z own_EL n0 x.cls code maxLocals ret x.name room_1 _ 152 #[.val (.int p1), .val (.int p2), .val (.int p3), .val (.int (Int32.ofNat na)), .val (.int (Int32.ofNat nb)), .val (.int x0), .val (.int x1), .val (.int x0), .val (.int x1), .val (.ref t17), .val (.ref t18), .unset, .unset] [(.int (own_key x1))] h18 vm18 8 24
                refine RunW.iload at_152 rfl (pc' := 154) rfl ?_
                refine RunW.callS (k' := 8) (n' := 24) (as := [(.int x1)]) (rest := [(.int (own_key x1))]) (con_own_key l Z a0 hw n0 h18 sz18 x1 ) (by rintro _ _ ⟨_, -, -, rfl⟩; exact ⟨[], Keep.refl _ _, all0⟩) at_154 (hw _ (List.mem_of_getElem? (i := 83) rfl)) (hw _ (List.mem_of_getElem? (i := 84) rfl)) (hw _ (List.mem_of_getElem? (i := 3) rfl)) (hw _ (List.mem_of_getElem? (i := 85) rfl)) (by decide) pd__C_I rfl rfl rfl (by decide) (by show (1 : Nat) + (2 + 11) + 0 ≤ _; decide) (by decide) (by decide) (by decide) (by decide) (pc' := 157) rfl ?_
                rintro _ _ ⟨_, rfl, rfl, rfl⟩ -
                show RunW l Z own_EL n0 x.cls code maxLocals ret x.name room_1 _ 157 #[.val (.int p1), .val (.int p2), .val (.int p3), .val (.int (Int32.ofNat na)), .val (.int (Int32.ofNat nb)), .val (.int x0), .val (.int x1), .val (.int x0), .val (.int x1), .val (.ref t17), .val (.ref t18), .unset, .unset] [(.int (own_key x1)), (.int (own_key x1))] h18 vm18 8 24
                refine RunW.isub at_157 (pc' := 158) rfl ?_
                refine RunW.callS (k' := 8) (n' := 24) (as := [(.int ((own_key x1) - (own_key x1)))]) (rest := []) (con_own_sgn l Z a0 hw n0 h18 sz18 ((own_key x1) - (own_key x1)) ) (by rintro _ _ ⟨_, -, -, rfl⟩; exact ⟨[], Keep.refl _ _, all0⟩) at_158 (hw _ (List.mem_of_getElem? (i := 38) rfl)) (hw _ (List.mem_of_getElem? (i := 39) rfl)) (hw _ (List.mem_of_getElem? (i := 3) rfl)) (hw _ (List.mem_of_getElem? (i := 40) rfl)) (by decide) pd__I_I rfl rfl rfl (by decide) (by show (0 : Nat) + (1 + 11) + 0 ≤ _; decide) (by decide) (by decide) (by decide) (by decide) (pc' := 161) rfl ?_
                rintro _ _ ⟨_, rfl, rfl, rfl⟩ -
                show RunW l Z own_EL n0 x.cls code maxLocals ret x.name room_1 _ 161 #[.val (.int p1), .val (.int p2), .val (.int p3), .val (.int (Int32.ofNat na)), .val (.int (Int32.ofNat nb)), .val (.int x0), .val (.int x1), .val (.int x0), .val (.int x1), .val (.ref t17), .val (.ref t18), .unset, .unset] [(.int (own_sgn ((own_key x1) - (own_key x1))))] h18 vm18 8 24
                refine RunW.istore (l' := #[.val (.int p1), .val (.int p2), .val (.int p3), .val (.int (Int32.ofNat na)), .val (.int (Int32.ofNat nb)), .val (.int x0), .val (.int x1), .val (.int x0), .val (.int x1), .val (.ref t17), .val (.ref t18), .val (.int (own_sgn ((own_key x1) - (own_key x1)))), .unset]) at_161 rfl (pc' := 163) rfl ?_
                refine RunW.goto at_163 (by decide) (pc' := 175) (by decide) ?_
                refine RunW.aload at_175 rfl rfl (pc' := 177) rfl ?_
                refine RunW.aload at_177 rfl rfl (pc' := 179) rfl ?_
                refine RunW.callS (k' := 8) (n' := 24) (as := [(.ref t17), (.ref t18)]) (rest := []) (con_cu8 l Z a0 hw n0 h18 sz18 t17 b17 t18 b18 ([x0, x1].take na) ([x0, x1].take nb) fm cz od18 SF hfm SD SH8 SL8 SZ hcz E_t17_18 F_t17_value_18 F_t17_coder_18 A_b17_18 X18 FV18 FC18 P18 (own_t2 _ _ _) (own_tk (own_chr2 q_x0.2 q_x1.2)) (own_t2 _ _ _) (own_tk (own_chr2 q_x0.2 q_x1.2)) ) (by rintro _ _ ⟨_, -, -, rfl⟩; exact ⟨[], Keep.refl _ _, all0⟩) at_179 (hw _ (List.mem_of_getElem? (i := 41) rfl)) (hw _ (List.mem_of_getElem? (i := 42) rfl)) (hw _ (List.mem_of_getElem? (i := 43) rfl)) (hw _ (List.mem_of_getElem? (i := 44) rfl)) (by decide) pd__Ljava_lang_String_Ljava_lang_String__I rfl rfl rfl (by decide) (by show (0 : Nat) + (6 + 11) + 66 ≤ _; decide) (by decide) (by decide) (by decide) (by decide) (pc' := 182) rfl ?_
                rintro _ _ ⟨_, rfl, rfl, rfl⟩ -
                show RunW l Z own_EL n0 x.cls code maxLocals ret x.name room_1 _ 182 #[.val (.int p1), .val (.int p2), .val (.int p3), .val (.int (Int32.ofNat na)), .val (.int (Int32.ofNat nb)), .val (.int x0), .val (.int x1), .val (.int x0), .val (.int x1), .val (.ref t17), .val (.ref t18), .val (.int (own_sgn ((own_key x1) - (own_key x1)))), .unset] [(.int (own_cmp ([x0, x1].take na) ([x0, x1].take nb) (min ([x0, x1].take na).length ([x0, x1].take nb).length) 0))] h18 vm18 8 24
                refine RunW.callS (k' := 8) (n' := 24) (as := [(.int (own_cmp ([x0, x1].take na) ([x0, x1].take nb) (min ([x0, x1].take na).length ([x0, x1].take nb).length) 0))]) (rest := []) (con_own_sgn l Z a0 hw n0 h18 sz18 (own_cmp ([x0, x1].take na) ([x0, x1].take nb) (min ([x0, x1].take na).length ([x0, x1].take nb).length) 0) ) (by rintro _ _ ⟨_, -, -, rfl⟩; exact ⟨[], Keep.refl _ _, all0⟩) at_182 (hw _ (List.mem_of_getElem? (i := 38) rfl)) (hw _ (List.mem_of_getElem? (i := 39) rfl)) (hw _ (List.mem_of_getElem? (i := 3) rfl)) (hw _ (List.mem_of_getElem? (i := 40) rfl)) (by decide) pd__I_I rfl rfl rfl (by decide) (by show (0 : Nat) + (1 + 11) + 0 ≤ _; decide) (by decide) (by decide) (by decide) (by decide) (pc' := 185) rfl ?_
                rintro _ _ ⟨_, rfl, rfl, rfl⟩ -
                show RunW l Z own_EL n0 x.cls code maxLocals ret x.name room_1 _ 185 #[.val (.int p1), .val (.int p2), .val (.int p3), .val (.int (Int32.ofNat na)), .val (.int (Int32.ofNat nb)), .val (.int x0), .val (.int x1), .val (.int x0), .val (.int x1), .val (.ref t17), .val (.ref t18), .val (.int (own_sgn ((own_key x1) - (own_key x1)))), .unset] [(.int (own_sgn (own_cmp ([x0, x1].take na) ([x0, x1].take nb) (min ([x0, x1].take na).length ([x0, x1].take nb).length) 0)))] h18 vm18 8 24
                refine RunW.istore (l' := #[.val (.int p1), .val (.int p2), .val (.int p3), .val (.int (Int32.ofNat na)), .val (.int (Int32.ofNat nb)), .val (.int x0), .val (.int x1), .val (.int x0), .val (.int x1), .val (.ref t17), .val (.ref t18), .val (.int (own_sgn ((own_key x1) - (own_key x1)))), .val (.int (own_sgn (own_cmp ([x0, x1].take na) ([x0, x1].take nb) (min ([x0, x1].take na).length ([x0, x1].take nb).length) 0)))]) at_185 rfl (pc' := 187) rfl ?_
                refine RunW.iload at_187 rfl (pc' := 189) rfl ?_
                refine RunW.iload at_189 rfl (pc' := 191) rfl ?_
                refine RunW.icmp_ne at_191 (by decide) (pc' := 198) (by decide) (pa := 194) rfl (fun hc191 => ?_) (fun hc191 => ?_)
                · -- pc 191 taken: ¬ (own_sgn (own_cmp ([x0, x1].take na) ([x0, x1].take nb) (min ([x0, x1].take na).length ([x0, x1].take nb).length) 0)) = (own_sgn ((own_key x1) - (own_key x1)))
                  exact absurd (own_L2 h_na h_nb (Or.inr (Or.inl (own_le0 hc100 (by omega)))) (own_gt1 hc131 (by omega)) (own_gt1 hc137 (by omega)) q_x1.2 q_x1.2 hc144) hc191
                · -- pc 191 not taken: (own_sgn (own_cmp ([x0, x1].take na) ([x0, x1].take nb) (min ([x0, x1].take na).length ([x0, x1].take nb).length) 0)) = (own_sgn ((own_key x1) - (own_key x1)))
                  refine RunW.iconst (1 : Int32) at_194 (by decide) (pc' := 195) rfl ?_
                  refine RunW.goto at_195 (by decide) (pc' := 199) (by decide) ?_
                  exact RunW.nreturn at_199 (ty := .boolean) rfl (by simp) (by decide) (by decide) ⟨_, rfl, rfl⟩
        · -- pc 100 not taken: (0 : Int32) < (Int32.ofNat nb)
          refine RunW.iload at_103 rfl (pc' := 105) rfl ?_
          refine RunW.iload at_105 rfl (pc' := 107) rfl ?_
          refine RunW.icmp_eq at_107 (by decide) (pc' := 129) (by decide) (pa := 110) rfl (fun hc107 => ?_) (fun hc107 => ?_)
          · -- pc 107 taken: x0 = x0
            refine RunW.iloadN at_129 rfl (pc' := 130) rfl ?_
            refine RunW.iconst (1 : Int32) at_130 (by decide) (pc' := 131) rfl ?_
            refine RunW.icmp_le at_131 (by decide) (pc' := 166) (by decide) (pa := 134) rfl (fun hc131 => ?_) (fun hc131 => ?_)
            · -- pc 131 taken: ¬ (1 : Int32) < (Int32.ofNat na)
              refine RunW.iloadN at_166 rfl (pc' := 167) rfl ?_
              refine RunW.iload at_167 rfl (pc' := 169) rfl ?_
              refine RunW.isub at_169 (pc' := 170) rfl ?_
              refine RunW.callS (k' := 8) (n' := 24) (as := [(.int ((Int32.ofNat na) - (Int32.ofNat nb)))]) (rest := []) (con_own_sgn l Z a0 hw n0 h18 sz18 ((Int32.ofNat na) - (Int32.ofNat nb)) ) (by rintro _ _ ⟨_, -, -, rfl⟩; exact ⟨[], Keep.refl _ _, all0⟩) at_170 (hw _ (List.mem_of_getElem? (i := 38) rfl)) (hw _ (List.mem_of_getElem? (i := 39) rfl)) (hw _ (List.mem_of_getElem? (i := 3) rfl)) (hw _ (List.mem_of_getElem? (i := 40) rfl)) (by decide) pd__I_I rfl rfl rfl (by decide) (by show (0 : Nat) + (1 + 11) + 0 ≤ _; decide) (by decide) (by decide) (by decide) (by decide) (pc' := 173) rfl ?_
              rintro _ _ ⟨_, rfl, rfl, rfl⟩ -
              show RunW l Z own_EL n0 x.cls code maxLocals ret x.name room_1 _ 173 #[.val (.int p1), .val (.int p2), .val (.int p3), .val (.int (Int32.ofNat na)), .val (.int (Int32.ofNat nb)), .val (.int x0), .val (.int x1), .val (.int x0), .val (.int x1), .val (.ref t17), .val (.ref t18), .unset, .unset] [(.int (own_sgn ((Int32.ofNat na) - (Int32.ofNat nb))))] h18 vm18 8 24
              refine RunW.istore (l' := #[.val (.int p1), .val (.int p2), .val (.int p3), .val (.int (Int32.ofNat na)), .val (.int (Int32.ofNat nb)), .val (.int x0), .val (.int x1), .val (.int x0), .val (.int x1), .val (.ref t17), .val (.ref t18), .val (.int (own_sgn ((Int32.ofNat na) - (Int32.ofNat nb)))), .unset]) at_173 rfl (pc' := 175) rfl ?_
              refine RunW.aload at_175 rfl rfl (pc' := 177) rfl ?_
              refine RunW.aload at_177 rfl rfl (pc' := 179) rfl ?_
              refine RunW.callS (k' := 8) (n' := 24) (as := [(.ref t17), (.ref t18)]) (rest := []) (con_cu8 l Z a0 hw n0 h18 sz18 t17 b17 t18 b18 ([x0, x1].take na) ([x0, x1].take nb) fm cz od18 SF hfm SD SH8 SL8 SZ hcz E_t17_18 F_t17_value_18 F_t17_coder_18 A_b17_18 X18 FV18 FC18 P18 (own_t2 _ _ _) (own_tk (own_chr2 q_x0.2 q_x1.2)) (own_t2 _ _ _) (own_tk (own_chr2 q_x0.2 q_x1.2)) ) (by rintro _ _ ⟨_, -, -, rfl⟩; exact ⟨[], Keep.refl _ _, all0⟩) at_179 (hw _ (List.mem_of_getElem? (i := 41) rfl)) (hw _ (List.mem_of_getElem? (i := 42) rfl)) (hw _ (List.mem_of_getElem? (i := 43) rfl)) (hw _ (List.mem_of_getElem? (i := 44) rfl)) (by decide) pd__Ljava_lang_String_Ljava_lang_String__I rfl rfl rfl (by decide) (by show (0 : Nat) + (6 + 11) + 66 ≤ _; decide) (by decide) (by decide) (by decide) (by decide) (pc' := 182) rfl ?_
              rintro _ _ ⟨_, rfl, rfl, rfl⟩ -
              show RunW l Z own_EL n0 x.cls code maxLocals ret x.name room_1 _ 182 #[.val (.int p1), .val (.int p2), .val (.int p3), .val (.int (Int32.ofNat na)), .val (.int (Int32.ofNat nb)), .val (.int x0), .val (.int x1), .val (.int x0), .val (.int x1), .val (.ref t17), .val (.ref t18), .val (.int (own_sgn ((Int32.ofNat na) - (Int32.ofNat nb)))), .unset] [(.int (own_cmp ([x0, x1].take na) ([x0, x1].take nb) (min ([x0, x1].take na).length ([x0, x1].take nb).length) 0))] h18 vm18 8 24
              refine RunW.callS (k' := 8) (n' := 24) (as := [(.int (own_cmp ([x0, x1].take na) ([x0, x1].take nb) (min ([x0, x1].take na).length ([x0, x1].take nb).length) 0))]) (rest := []) (con_own_sgn l Z a0 hw n0 h18 sz18 (own_cmp ([x0, x1].take na) ([x0, x1].take nb) (min ([x0, x1].take na).length ([x0, x1].take nb).length) 0) ) (by rintro _ _ ⟨_, -, -, rfl⟩; exact ⟨[], Keep.refl _ _, all0⟩) at_182 (hw _ (List.mem_of_getElem? (i := 38) rfl)) (hw _ (List.mem_of_getElem? (i := 39) rfl)) (hw _ (List.mem_of_getElem? (i := 3) rfl)) (hw _ (List.mem_of_getElem? (i := 40) rfl)) (by decide) pd__I_I rfl rfl rfl (by decide) (by show (0 : Nat) + (1 + 11) + 0 ≤ _; decide) (by decide) (by decide) (by decide) (by decide) (pc' := 185) rfl ?_
              rintro _ _ ⟨_, rfl, rfl, rfl⟩ -
              show RunW l Z own_EL n0 x.cls code maxLocals ret x.name room_1 _ 185 #[.val (.int p1), .val (.int p2), .val (.int p3), .val (.int (Int32.ofNat na)), .val (.int (Int32.ofNat nb)), .val (.int x0), .val (.int x1), .val (.int x0), .val (.int x1), .val (.ref t17), .val (.ref t18), .val (.int (own_sgn ((Int32.ofNat na) - (Int32.ofNat nb)))), .unset] [(.int (own_sgn (own_cmp ([x0, x1].take na) ([x0, x1].take nb) (min ([x0, x1].take na).length ([x0, x1].take nb).length) 0)))] h18 vm18 8 24
              refine RunW.istore (l' := #[.val (.int p1), .val (.int p2), .val (.int p3), .val (.int (Int32.ofNat na)), .val (.int (Int32.ofNat nb)), .val (.int x0), .val (.int x1), .val (.int x0), .val (.int x1), .val (.ref t17), .val (.ref t18), .val (.int (own_sgn ((Int32.ofNat na) - (Int32.ofNat nb)))), .val (.int (own_sgn (own_cmp ([x0, x1].take na) ([x0, x1].take nb) (min ([x0, x1].take na).length ([x0, x1].take nb).length) 0)))]) at_185 rfl (pc' := 187) rfl ?_
              refine RunW.iload at_187 rfl (pc' := 189) rfl ?_
              refine RunW.iload at_189 rfl (pc' := 191) rfl ?_
              refine RunW.icmp_ne at_191 (by decide) (pc' := 198) (by decide) (pa := 194) rfl (fun hc191 => ?_) (fun hc191 => ?_)
              · -- pc 191 taken: ¬ (own_sgn (own_cmp ([x0, x1].take na) ([x0, x1].take nb) (min ([x0, x1].take na).length ([x0, x1].take nb).length) 0)) = (own_sgn ((Int32.ofNat na) - (Int32.ofNat nb)))
                exact absurd (own_L3 h_na h_nb (Or.inr (Or.inr hc107)) (Or.inl (own_le1 hc131 (by omega)))) hc191
              · -- pc 191 not taken: (own_sgn (own_cmp ([x0, x1].take na) ([x0, x1].take nb) (min ([x0, x1].take na).length ([x0, x1].take nb).length) 0)) = (own_sgn ((Int32.ofNat na) - (Int32.ofNat nb)))
                refine RunW.iconst (1 : Int32) at_194 (by decide) (pc' := 195) rfl ?_
                refine RunW.goto at_195 (by decide) (pc' := 199) (by decide) ?_
                exact RunW.nreturn at_199 (ty := .boolean) rfl (by simp) (by decide) (by decide) ⟨_, rfl, rfl⟩
            · -- pc 131 not taken: (1 : Int32) < (Int32.ofNat na)
              refine RunW.iload at_134 rfl (pc' := 136) rfl ?_
              refine RunW.iconst (1 : Int32) at_136 (by decide) (pc' := 137) rfl ?_
              refine RunW.icmp_le at_137 (by decide) (pc' := 166) (by decide) (pa := 140) rfl (fun hc137 => ?_) (fun hc137 => ?_)
              · -- pc 137 taken: ¬ (1 : Int32) < (Int32.ofNat nb)
                refine RunW.iloadN at_166 rfl (pc' := 167) rfl ?_
                refine RunW.iload at_167 rfl (pc' := 169) rfl ?_
                refine RunW.isub at_169 (pc' := 170) rfl ?_
                refine RunW.callS (k' := 8) (n' := 24) (as := [(.int ((Int32.ofNat na) - (Int32.ofNat nb)))]) (rest := []) (con_own_sgn l Z a0 hw n0 h18 sz18 ((Int32.ofNat na) - (Int32.ofNat nb)) ) (by rintro _ _ ⟨_, -, -, rfl⟩; exact ⟨[], Keep.refl _ _, all0⟩) at_170 (hw _ (List.mem_of_getElem? (i := 38) rfl)) (hw _ (List.mem_of_getElem? (i := 39) rfl)) (hw _ (List.mem_of_getElem? (i := 3) rfl)) (hw _ (List.mem_of_getElem? (i := 40) rfl)) (by decide) pd__I_I rfl rfl rfl (by decide) (by show (0 : Nat) + (1 + 11) + 0 ≤ _; decide) (by decide) (by decide) (by decide) (by decide) (pc' := 173) rfl ?_
                rintro _ _ ⟨_, rfl, rfl, rfl⟩ -
                show RunW l Z own_EL n0 x.cls code maxLocals ret x.name room_1 _ 173 #[.val (.int p1), .val (.int p2), .val (.int p3), .val (.int (Int32.ofNat na)), .val (.int (Int32.ofNat nb)), .val (.int x0), .val (.int x1), .val (.int x0), .val (.int x1), .val (.ref t17), .val (.ref t18), .unset, .unset] [(.int (own_sgn ((Int32.ofNat na) - (Int32.ofNat nb))))] h18 vm18 8 24
                refine RunW.istore (l' := #[.val (.int p1), .val (.int p2), .val (.int p3), .val (.int (Int32.ofNat na)), .val (.int (Int32.ofNat nb)), .val (.int x0), .val (.int x1), .val (.int x0), .val (.int x1), .val (.ref t17), .val (.ref t18), .val (.int (own_sgn ((Int32.ofNat na) - (Int32.ofNat nb)))), .unset]) at_173 rfl (pc' := 175) rfl ?_
                refine RunW.aload at_175 rfl rfl (pc' := 177) rfl ?_
                refine RunW.aload at_177 rfl rfl (pc' := 179) rfl ?_
                refine RunW.callS (k' := 8) (n' := 24) (as := [(.ref t17), (.ref t18)]) (rest := []) (con_cu8 l Z a0 hw n0 h18 sz18 t17 b17 t18 b18 ([x0, x1].take na) ([x0, x1].take nb) fm cz od18 SF hfm SD SH8 SL8 SZ hcz E_t17_18 F_t17_value_18 F_t17_coder_18 A_b17_18 X18 FV18 FC18 P18 (own_t2 _ _ _) (own_tk (own_chr2 q_x0.2 q_x1.2)) (own_t2 _ _ _) (own_tk (own_chr2 q_x0.2 q_x1.2)) ) (by rintro _ _ ⟨_, -, -, rfl⟩; exact ⟨[], Keep.refl _ _, all0⟩) at_179 (hw _ (List.mem_of_getElem? (i := 41) rfl)) (hw _ (List.mem_of_getElem? (i := 42) rfl)) (hw _ (List.mem_of_getElem? (i := 43) rfl)) (hw _ (List.mem_of_getElem? (i := 44) rfl)) (by decide) pd__Ljava_lang_String_Ljava_lang_String__I rfl rfl rfl (by decide) (by show (0 : Nat) + (6 + 11) + 66 ≤ _; decide) (by decide) (by decide) (by decide) (by decide) (pc' := 182) rfl ?_
                rintro _ _ ⟨_, rfl, rfl, rfl⟩ -
                show RunW l Z own_EL n0 x.cls code maxLocals ret x.name room_1 _ 182 #[.val (.int p1), .val (.int p2), .val (.int p3), .val (.int (Int32.ofNat na)), .val (.int (Int32.ofNat nb)), .val (.int x0), .val (.int x1), .val (.int x0), .val (.int x1), .val (.ref t17), .val (.ref t18), .val (.int (own_sgn ((Int32.ofNat na) - (Int32.ofNat nb)))), .unset] [(.int (own_cmp ([x0, x1].take na) ([x0, x1].take nb) (min ([x0, x1].take na).length ([x0, x1].take nb).length) 0))] h18 vm18 8 24
                refine RunW.callS (k' := 8) (n' := 24) (as := [(.int (own_cmp ([x0, x1].take na) ([x0, x1].take nb) (min ([x0, x1].take na).length ([x0, x1].take nb).length) 0))]) (rest := []) (con_own_sgn l Z a0 hw n0 h18 sz18 (own_cmp ([x0, x1].take na) ([x0, x1].take nb) (min ([x0, x1].take na).length ([x0, x1].take nb).length) 0) ) (by rintro _ _ ⟨_, -, -, rfl⟩; exact ⟨[], Keep.refl _ _, all0⟩) at_182 (hw _ (List.mem_of_getElem? (i := 38) rfl)) (hw _ (List.mem_of_getElem? (i := 39) rfl)) (hw _ (List.mem_of_getElem? (i := 3) rfl)) (hw _ (List.mem_of_getElem? (i := 40) rfl)) (by decide) pd__I_I rfl rfl rfl (by decide) (by show (0 : Nat) + (1 + 11) + 0 ≤ _; decide) (by decide) (by decide) (by decide) (by decide) (pc' := 185) rfl ?_
                rintro _ _ ⟨_, rfl, rfl, rfl⟩ -
                show RunW l Z own_EL n0 x.cls code maxLocals ret x.name room_1 _ 185 #[.val (.int p1), .val (.int p2), .val (.int p3), .val (.int (Int32.ofNat na)), .val (.int (Int32.ofNat nb)), .val (.int x0), .val (.int x1), .val (.int x0), .val (.int x1), .val (.ref t17), .val (.ref t18), .val (.int (own_sgn ((Int32.ofNat na) - (Int32.ofNat nb)))), .unset] [(.int (own_sgn (own_cmp ([x0, x1].take na) ([x0, x1].take nb) (min ([x0, x1].take na).length ([x0, x1].take nb).length) 0)))] h18 vm18 8 24
                refine RunW.istore (l' := #[.val (.int p1), .val (.int p2), .val (.int p3), .val (.int (Int32.ofNat na)), .val (.int (Int32.ofNat nb)), .val (.int x0), .val (.int x1), .val (.int x0), .val (.int x1), .val (.ref t17), .val (.ref t18), .val (.int (own_sgn ((Int32.ofNat na) - (Int32.ofNat nb)))), .val (.int (own_sgn (own_cmp ([x0, x1].take na) ([x0, x1].take nb) (min ([x0, x1].take na).length ([x0, x1].take nb).length) 0)))]) at_185 rfl (pc' := 187) rfl ?_
                refine RunW.iload at_187 rfl (pc' := 189) rfl ?_
                refine RunW.iload at_189 rfl (pc' := 191) rfl ?_
                refine RunW.icmp_ne at_191 (by decide) (pc' := 198) (by decide) (pa := 194) rfl (fun hc191 => ?_) (fun hc191 => ?_)
                · -- pc 191 taken: ¬ (own_sgn (own_cmp ([x0, x1].take na) ([x0, x1].take nb) (min ([x0, x1].take na).length ([x0, x1].take nb).length) 0)) = (own_sgn ((Int32.ofNat na) - (Int32.ofNat nb)))
                  exact absurd (own_L3 h_na h_nb (Or.inr (Or.inr hc107)) (Or.inr (Or.inl (own_le1 hc137 (by omega))))) hc191
                · -- pc 191 not taken: (own_sgn (own_cmp ([x0, x1].take na) ([x0, x1].take nb) (min ([x0, x1].take na).length ([x0, x1].take nb).length) 0)) = (own_sgn ((Int32.ofNat na) - (Int32.ofNat nb)))
                  refine RunW.iconst (1 : Int32) at_194 (by decide) (pc' := 195) rfl ?_
                  refine RunW.goto at_195 (by decide) (pc' := 199) (by decide) ?_
                  exact RunW.nreturn at_199 (ty := .boolean) rfl (by simp) (by decide) (by decide) ⟨_, rfl, rfl⟩
              · -- pc 137 not taken: (1 : Int32) < (Int32.ofNat nb)
                refine RunW.iload at_140 rfl (pc' := 142) rfl ?_
                refine RunW.iload at_142 rfl (pc' := 144) rfl ?_
                refine RunW.icmp_eq at_144 (by decide) (pc' := 166) (by decide) (pa := 147) rfl (fun hc144 => ?_) (fun hc144 => ?_)
                · -- pc 144 taken: x1 = x1
                  refine RunW.iloadN at_166 rfl (pc' := 167) rfl ?_
                  refine RunW.iload at_167 rfl (pc' := 169) rfl ?_
                  refine RunW.isub at_169 (pc' := 170) rfl ?_
                  refine RunW.callS (k' := 8) (n' := 24) (as := [(.int ((Int32.ofNat na) - (Int32.ofNat nb)))]) (rest := []) (con_own_sgn l Z a0 hw n0 h18 sz18 ((Int32.ofNat na) - (Int32.ofNat nb)) ) (by rintro _ _ ⟨_, -, -, rfl⟩; exact ⟨[], Keep.refl _ _, all0⟩) at_170 (hw _ (List.mem_of_getElem? (i := 38) rfl)) (hw _ (List.mem_of_getElem? (i := 39) rfl)) (hw _ (List.mem_of_getElem? (i := 3) rfl)) (hw _ (List.mem_of_getElem? (i := 40) rfl)) (by decide) pd__I_I rfl rfl rfl (by decide) (by show (0 : Nat) + (1 + 11) + 0 ≤ _; decide) (by decide) (by decide) (by decide) (by decide) (pc' := 173) rfl ?_
                  rintro _ _ ⟨_, rfl, rfl, rfl⟩ -
                  show RunW l Z own_EL n0 x.cls code maxLocals ret x.name room_1 _ 173 #[.val (.int p1), .val (.int p2), .val (.int p3), .val (.int (Int32.ofNat na)), .val (.int (Int32.ofNat nb)), .val (.int x0), .val (.int x1), .val (.int x0), .val (.int x1), .val (.ref t17), .val (.ref t18), .unset, .unset] [(.int (own_sgn ((Int32.ofNat na) - (Int32.ofNat nb))))] h18 vm18 8 24
                  refine RunW.istore (l' := #[.val (.int p1), .val (.int p2), .val (.int p3), .val (.int (Int32.ofNat na)), .val (.int (Int32.ofNat nb)), .val (.int x0), .val (.int x1), .val (.int x0), .val (.int x1), .val (.ref t17), .val (.ref t18), .val (.int (own_sgn ((Int32.ofNat na) - (Int32.ofNat nb)))), .unset]) at_173 rfl (pc' := 175) rfl ?_
                  refine RunW.aload at_175 rfl rfl (pc' := 177) rfl ?_
                  refine RunW.aload at_177 rfl rfl (pc' := 179) rfl ?_
                  refine RunW.callS (k' := 8) (n' := 24) (as := [(.ref t17), (.ref t18)]) (rest := []) (con_cu8 l Z a0 hw n0 h18 sz18 t17 b17 t18 b18 ([x0, x1].take na) ([x0, x1].take nb) fm cz od18 SF hfm SD SH8 SL8 SZ hcz E_t17_18 F_t17_value_18 F_t17_coder_18 A_b17_18 X18 FV18 FC18 P18 (own_t2 _ _ _) (own_tk (own_chr2 q_x0.2 q_x1.2)) (own_t2 _ _ _) (own_tk (own_chr2 q_x0.2 q_x1.2)) ) (by rintro _ _ ⟨_, -, -, rfl⟩; exact ⟨[], Keep.refl _ _, all0⟩) at_179 (hw _ (List.mem_of_getElem? (i := 41) rfl)) (hw _ (List.mem_of_getElem? (i := 42) rfl)) (hw _ (List.mem_of_getElem? (i := 43) rfl)) (hw _ (List.mem_of_getElem? (i := 44) rfl)) (by decide) pd__Ljava_lang_String_Ljava_lang_String__I rfl rfl rfl (by decide) (by show (0 : Nat) + (6 + 11) + 66 ≤ _; decide) (by decide) (by decide) (by decide) (by decide) (pc' := 182) rfl ?_
                  rintro _ _ ⟨_, rfl, rfl, rfl⟩ -
                  show RunW l Z own_EL n0 x.cls code maxLocals ret x.name room_1 _ 182 #[.val (.int p1), .val (.int p2), .val (.int p3), .val (.int (Int32.ofNat na)), .val (.int (Int32.ofNat nb)), .val (.int x0), .val (.int x1), .val (.int x0), .val (.int x1), .val (.ref t17), .val (.ref t18), .val (.int (own_sgn ((Int32.ofNat na) - (Int32.ofNat nb)))), .unset] [(.int (own_cmp ([x0, x1].take na) ([x0, x1].take nb) (min ([x0, x1].take na).length ([x0, x1].take nb).length) 0))] h18 vm18 8 24
                  refine RunW.callS (k' := 8) (n' := 24) (as := [(.int (own_cmp ([x0, x1].take na) ([x0, x1].take nb) (min ([x0, x1].take na).length ([x0, x1].take nb).length) 0))]) (rest := []) (con_own_sgn l Z a0 hw n0 h18 sz18 (own_cmp ([x0, x1].take na) ([x0, x1].take nb) (min ([x0, x1].take na).length ([x0, x1].take nb).length) 0) ) (by rintro _ _ ⟨_, -, -, rfl⟩; exact ⟨[], Keep.refl _ _, all0⟩) at_182 (hw _ (List.mem_of_getElem? (i := 38) rfl)) (hw _ (List.mem_of_getElem? (i := 39) rfl)) (hw _ (List.mem_of_getElem? (i := 3) rfl)) (hw _ (List.mem_of_getElem? (i := 40) rfl)) (by decide) pd__I_I rfl rfl rfl (by decide) (by show (0 : Nat) + (1 + 11) + 0 ≤ _; decide) (by decide) (by decide) (by decide) (by decide) (pc' := 185) rfl ?_
                  rintro _ _ ⟨_, rfl, rfl, rfl⟩ -
                  show RunW l Z own_EL n0 x.cls code maxLocals ret x.name room_1 _ 185 #[.val (.int p1), .val (.int p2), .val (.int p3), .val (.int (Int32.ofNat na)), .val (.int (Int32.ofNat nb)), .val (.int x0), .val (.int x1), .val (.int x0), .val (.int x1), .val (.ref t17), .val (.ref t18), .val (.int (own_sgn ((Int32.ofNat na) - (Int32.ofNat nb)))), .unset] [(.int (own_sgn (own_cmp ([x0, x1].take na) ([x0, x1].take nb) (min ([x0, x1].take na).length ([x0, x1].take nb).length) 0)))] h18 vm18 8 24
                  refine RunW.istore (l' := #[.val (.int p1), .val (.int p2), .val (.int p3), .val (.int (Int32.ofNat na)), .val (.int (Int32.ofNat nb)), .val (.int x0), .val (.int x1), .val (.int x0), .val (.int x1), .val (.ref t17), .val (.ref t18), .val (.int (own_sgn ((Int32.ofNat na) - (Int32.ofNat nb)))), .val (.int (own_sgn (own_cmp ([x0, x1].take na) ([x0, x1].take nb) (min ([x0, x1].take na).length ([x0, x1].take nb).length) 0)))]) at_185 rfl (pc' := 187) rfl ?_
                  refine RunW.iload at_187 rfl (pc' := 189) rfl ?_
                  refine RunW.iload at_189 rfl (pc' := 191) rfl ?_
                  refine RunW.icmp_ne at_191 (by decide) (pc' := 198) (by decide) (pa := 194) rfl (fun hc191 => ?_) (fun hc191 => ?_)
                  · -- pc 191 taken: ¬ (own_sgn (own_cmp ([x0, x1].take na) ([x0, x1].take nb) (min ([x0, x1].take na).length ([x0, x1].take nb).length) 0)) = (own_sgn ((Int32.ofNat na) - (Int32.ofNat nb)))
                    exact absurd (own_L3 h_na h_nb (Or.inr (Or.inr hc107)) (Or.inr (Or.inr hc144))) hc191
                  · -- pc 191 not taken: (own_sgn (own_cmp ([x0, x1].take na) ([x0, x1].take nb) (min ([x0, x1].take na).length ([x0, x1].take nb).length) 0)) = (own_sgn ((Int32.ofNat na) - (Int32.ofNat nb)))
                    refine RunW.iconst (1 : Int32) at_194 (by decide) (pc' := 195) rfl ?_
                    refine RunW.goto at_195 (by decide) (pc' := 199) (by decide) ?_
                    exact RunW.nreturn at_199 (ty := .boolean) rfl (by simp) (by decide) (by decide) ⟨_, rfl, rfl⟩
                · -- pc 144 not taken: ¬ x1 = x1
                  refine RunW.iload at_147 rfl (pc' := 149) rfl ?_
                  refine RunW.callS (k' := 8) (n' := 24) (as := [(.int x1)]) (rest := []) (con_own_key l Z a0 hw n0 h18 sz18 x1 ) (by rintro _ _ ⟨_, -, -, rfl⟩; exact ⟨[], Keep.refl _ _, all0⟩) at_149 (hw _ (List.mem_of_getElem? (i := 83) rfl)) (hw _ (List.mem_of_getElem? (i := 84) rfl)) (hw _ (List.mem_of_getElem? (i := 3) rfl)) (hw _ (List.mem_of_getElem? (i := 85) rfl)) (by decide) pd__C_I rfl rfl rfl (by decide) (by show (0 : Nat) + (2 + 11) + 0 ≤ _; decide) (by decide) (by decide) (by decide) (by decide) (pc' := 152) rfl ?_
                  rintro _ _ ⟨_, rfl, rfl, rfl⟩ -
                  show RunW l Z own_EL n0 x.cls code maxLocals ret x.name room_1 _ 152 #[.val (.int p1), .val (.int p2), .val (.int p3), .val (.int (Int32.ofNat na)), .val (.int (Int32.ofNat nb)), .val (.int x0), .val (.int x1), .val (.int x0), .val (.int x1), .val (.ref t17), .val (.ref t18), .unset, .unset] [(.int (own_key x1))] h18 vm18 8 24
                  refine RunW.iload at_152 rfl (pc' := 154) rfl ?_
                  refine RunW.callS (k' := 8) (n' := 24) (as := [(.int x1)]) (rest := [(.int (own_key x1))]) (con_own_key l Z a0 hw n0 h18 sz18 x1 ) (by rintro _ _ ⟨_, -, -, rfl⟩; exact ⟨[], Keep.refl _ _, all0⟩) at_154 (hw _ (List.mem_of_getElem? (i := 83) rfl)) (hw _ (List.mem_of_getElem? (i := 84) rfl)) (hw _ (List.mem_of_getElem? (i := 3) rfl)) (hw _ (List.mem_of_getElem? (i := 85) rfl)) (by decide) pd__C_I rfl rfl rfl (by decide) (by show (1 : Nat) + (2 + 11) + 0 ≤ _; decide) (by decide) (by decide) (by decide) (by decide) (pc' := 157) rfl ?_
                  rintro _ _ ⟨_, rfl, rfl, rfl⟩ -
                  show RunW l Z own_EL n0 x.cls code maxLocals ret x.name room_1 _ 157 #[.val (.int p1), .val (.int p2), .val (.int p3), .val (.int (Int32.ofNat na)), .val (.int (Int32.ofNat nb)), .val (.int x0), .val (.int x1), .val (.int x0), .val (.int x1), .val (.ref t17), .val (.ref t18), .unset, .unset] [(.int (own_key x1)), (.int (own_key x1))] h18 vm18 8 24
                  refine RunW.isub at_157 (pc' := 158) rfl ?_
                  refine RunW.callS (k' := 8) (n' := 24) (as := [(.int ((own_key x1) - (own_key x1)))]) (rest := []) (con_own_sgn l Z a0 hw n0 h18 sz18 ((own_key x1) - (own_key x1)) ) (by rintro _ _ ⟨_, -, -, rfl⟩; exact ⟨[], Keep.refl _ _, all0⟩) at_158 (hw _ (List.mem_of_getElem? (i := 38) rfl)) (hw _ (List.mem_of_getElem? (i := 39) rfl)) (hw _ (List.mem_of_getElem? (i := 3) rfl)) (hw _ (List.mem_of_getElem? (i := 40) rfl)) (by decide) pd__I_I rfl rfl rfl (by decide) (by show (0 : Nat) + (1 + 11) + 0 ≤ _; decide) (by decide) (by decide) (by decide) (by decide) (pc' := 161) rfl ?_
                  rintro _ _ ⟨_, rfl, rfl, rfl⟩ -
                  show RunW l Z own_EL n0 x.cls code maxLocals ret x.name room_1 _ 161 #[.val (.int p1), .val (.int p2), .val (.int p3), .val (.int (Int32.ofNat na)), .val (.int (Int32.ofNat nb)), .val (.int x0), .val (.int x1), .val (.int x0), .val (.int x1), .val (.ref t17), .val (.ref t18), .unset, .unset] [(.int (own_sgn ((own_key x1) - (own_key x1))))] h18 vm18 8 24
                  refine RunW.istore (l' := #[.val (.int p1), .val (.int p2), .val (.int p3), .val (.int (Int32.ofNat na)), .val (.int (Int32.ofNat nb)), .val (.int x0), .val (.int x1), .val (.int x0), .val (.int x1), .val (.ref t17), .val (.ref t18), .val (.int (own_sgn ((own_key x1) - (own_key x1)))), .unset]) at_161 rfl (pc' := 163) rfl ?_
                  refine RunW.goto at_163 (by decide) (pc' := 175) (by decide) ?_
                  refine RunW.aload at_175 rfl rfl (pc' := 177) rfl ?_
                  refine RunW.aload at_177 rfl rfl (pc' := 179) rfl ?_
                  refine RunW.callS (k' := 8) (n' := 24) (as := [(.ref t17), (.ref t18)]) (rest := []) (con_cu8 l Z a0 hw n0 h18 sz18 t17 b17 t18 b18 ([x0, x1].take na) ([x0, x1].take nb) fm cz od18 SF hfm SD SH8 SL8 SZ hcz E_t17_18 F_t17_value_18 F_t17_coder_18 A_b17_18 X18 FV18 FC18 P18 (own_t2 _ _ _) (own_tk (own_chr2 q_x0.2 q_x1.2)) (own_t2 _ _ _) (own_tk (own_chr2 q_x0.2 q_x1.2)) ) (by rintro _ _ ⟨_, -, -, rfl⟩; exact ⟨[], Keep.refl _ _, all0⟩) at_179 (hw _ (List.mem_of_getElem? (i := 41) rfl)) (hw _ (List.mem_of_getElem? (i := 42) rfl)) (hw _ (List.mem_of_getElem? (i := 43) rfl)) (hw _ (List.mem_of_getElem? (i := 44) rfl)) (by decide) pd__Ljava_lang_String_Ljava_lang_String__I rfl rfl rfl (by decide) (by show (0 : Nat) + (6 + 11) + 66 ≤ _; decide) (by decide) (by decide) (by decide) (by decide) (pc' := 182) rfl ?_
                  rintro _ _ ⟨_, rfl, rfl, rfl⟩ -
                  show RunW l Z own_EL n0 x.cls code maxLocals ret x.name room_1 _ 182 #[.val (.int p1), .val (.int p2), .val (.int p3), .val (.int (Int32.ofNat na)), .val (.int (Int32.ofNat nb)), .val (.int x0), .val (.int x1), .val (.int x0), .val (.int x1), .val (.ref t17), .val (.ref t18), .val (.int (own_sgn ((own_key x1) - (own_key x1)))), .unset] [(.int (own_cmp ([x0, x1].take na) ([x0, x1].take nb) (min ([x0, x1].take na).length ([x0, x1].take nb).length) 0))] h18 vm18 8 24
                  refine RunW.callS (k' := 8) (n' := 24) (as := [(.int (own_cmp ([x0, x1].take na) ([x0, x1].take nb) (min ([x0, x1].take na).length ([x0, x1].take nb).length) 0))]) (rest := []) (con_own_sgn l Z a0 hw n0 h18 sz18 (own_cmp ([x0, x1].take na) ([x0, x1].take nb) (min ([x0, x1].take na).length ([x0, x1].take nb).length) 0) ) (by rintro _ _ ⟨_, -, -, rfl⟩; exact ⟨[], Keep.refl _ _, all0⟩) at_182 (hw _ (List.mem_of_getElem? (i := 38) rfl)) (hw _ (List.mem_of_getElem? (i := 39) rfl)) (hw _ (List.mem_of_getElem? (i := 3) rfl)) (hw _ (List.mem_of_getElem? (i := 40) rfl)) (by decide) pd__I_I rfl rfl rfl (by decide) (by show (0 : Nat) + (1 + 11) + 0 ≤ _; decide) (by decide) (by decide) (by decide) (by decide) (pc' := 185) rfl ?_
                  rintro _ _ ⟨_, rfl, rfl, rfl⟩ -
                  show RunW l Z own_EL n0 x.cls code maxLocals ret x.name room_1 _ 185 #[.val (.int p1), .val (.int p2), .val (.int p3), .val (.int (Int32.ofNat na)), .val (.int (Int32.ofNat nb)), .val (.int x0), .val (.int x1), .val (.int x0), .val (.int x1), .val (.ref t17), .val (.ref t18), .val (.int (own_sgn ((own_key x1) - (own_key x1)))), .unset] [(.int (own_sgn (own_cmp ([x0, x1].take na) ([x0, x1].take nb) (min ([x0, x1].take na).length ([x0, x1].take nb).length) 0)))] h18 vm18 8 24
                  refine RunW.istore (l' := #[.val (.int p1), .val (.int p2), .val (.int p3), .val (.int (Int32.ofNat na)), .val (.int (Int32.ofNat nb)), .val (.int x0), .val (.int x1), .val (.int x0), .val (.int x1), .val (.ref t17), .val (.ref t18), .val (.int (own_sgn ((own_key x1) - (own_key x1)))), .val (.int (own_sgn (own_cmp ([x0, x1].take na) ([x0, x1].take nb) (min ([x0, x1].take na).length ([x0, x1].take nb).length) 0)))]) at_185 rfl (pc' := 187) rfl ?_
                  refine RunW.iload at_187 rfl (pc' := 189) rfl ?_
                  refine RunW.iload at_189 rfl (pc' := 191) rfl ?_
                  refine RunW.icmp_ne at_191 (by decide) (pc' := 198) (by decide) (pa := 194) rfl (fun hc191 => ?_) (fun hc191 => ?_)
                  · -- pc 191 taken: ¬ (own_sgn (own_cmp ([x0, x1].take na) ([x0, x1].take nb) (min ([x0, x1].take na).length ([x0, x1].take nb).length) 0)) = (own_sgn ((own_key x1) - (own_key x1)))
                    exact absurd (own_L2 h_na h_nb (Or.inr (Or.inr hc107)) (own_gt1 hc131 (by omega)) (own_gt1 hc137 (by omega)) q_x1.2 q_x1.2 hc144) hc191
                  · -- pc 191 not taken: (own_sgn (own_cmp ([x0, x1].take na) ([x0, x1].take nb) (min ([x0, x1].take na).length ([x0, x1].take nb).length) 0)) = (own_sgn ((own_key x1) - (own_key x1)))
                    refine RunW.iconst (1 : Int32) at_194 (by decide) (pc' := 195) rfl ?_
                    refine RunW.goto at_195 (by decide) (pc' := 199) (by decide) ?_
                    exact RunW.nreturn at_199 (ty := .boolean) rfl (by simp) (by decide) (by decide) ⟨_, rfl, rfl⟩
          · -- pc 107 not taken: ¬ x0 = x0
            refine RunW.iload at_110 rfl (pc' := 112) rfl ?_
            refine RunW.callS (k' := 8) (n' := 24) (as := [(.int x0)]) (rest := []) (con_own_key l Z a0 hw n0 h18 sz18 x0 ) (by rintro _ _ ⟨_, -, -, rfl⟩; exact ⟨[], Keep.refl _ _, all0⟩) at_112 (hw _ (List.mem_of_getElem? (i := 83) rfl)) (hw _ (List.mem_of_getElem? (i := 84) rfl)) (hw _ (List.mem_of_getElem? (i := 3) rfl)) (hw _ (List.mem_of_getElem? (i := 85) rfl)) (by decide) pd__C_I rfl rfl rfl (by decide) (by show (0 : Nat) + (2 + 11) + 0 ≤ _; decide) (by decide) (by decide) (by decide) (by decide) (pc' := 115) rfl ?_
            rintro _ _ ⟨_, rfl, rfl, rfl⟩ -
            show RunW l Z own_EL n0 x.cls code maxLocals ret x.name room_1 _ 115 #[.val (.int p1), .val (.int p2), .val (.int p3), .val (.int (Int32.ofNat na)), .val (.int (Int32.ofNat nb)), .val (.int x0), .val (.int x1), .val (.int x0), .val (.int x1), .val (.ref t17), .val (.ref t18), .unset, .unset] [(.int (own_key x0))] h18 vm18 8 24
            refine RunW.iload at_115 rfl (pc' := 117) rfl ?_
            refine RunW.callS (k' := 8) (n' := 24) (as := [(.int x0)]) (rest := [(.int (own_key x0))]) (con_own_key l Z a0 hw n0 h18 sz18 x0 ) (by rintro _ _ ⟨_, -, -, rfl⟩; exact ⟨[], Keep.refl _ _, all0⟩) at_117 (hw _ (List.mem_of_getElem? (i := 83) rfl)) (hw _ (List.mem_of_getElem? (i := 84) rfl)) (hw _ (List.mem_of_getElem? (i := 3) rfl)) (hw _ (List.mem_of_getElem? (i := 85) rfl)) (by decide) pd__C_I rfl rfl rfl (by decide) (by show (1 : Nat) + (2 + 11) + 0 ≤ _; decide) (by decide) (by decide) (by decide) (by decide) (pc' := 120) rfl ?_
            rintro _ _ ⟨_, rfl, rfl, rfl⟩ -
            show RunW l Z own_EL n0 x.cls code maxLocals ret x.name room_1 _ 120 #[.val (.int p1), .val (.int p2), .val (.int p3), .val (.int (Int32.ofNat na)), .val (.int (Int32.ofNat nb)), .val (.int x0), .val (.int x1), .val (.int x0), .val (.int x1), .val (.ref t17), .val (.ref t18), .unset, .unset] [(.int (own_key x0)), (.int (own_key x0))] h18 vm18 8 24
            refine RunW.isub at_120 (pc' := 121) rfl ?_
            refine RunW.callS (k' := 8) (n' := 24) (as := [(.int ((own_key x0) - (own_key x0)))]) (rest := []) (con_own_sgn l Z a0 hw n0 h18 sz18 ((own_key x0) - (own_key x0)) ) (by rintro _ _ ⟨_, -, -, rfl⟩; exact ⟨[], Keep.refl _ _, all0⟩) at_121 (hw _ (List.mem_of_getElem? (i := 38) rfl)) (hw _ (List.mem_of_getElem? (i := 39) rfl)) (hw _ (List.mem_of_getElem? (i := 3) rfl)) (hw _ (List.mem_of_getElem? (i := 40) rfl)) (by decide) pd__I_I rfl rfl rfl (by decide) (by show (0 : Nat) + (1 + 11) + 0 ≤ _; decide) (by decide) (by decide) (by decide) (by decide) (pc' := 124) rfl ?_
            rintro _ _ ⟨_, rfl, rfl, rfl⟩ -
            show RunW l Z own_EL n0 x.cls code maxLocals ret x.name room_1 _ 124 #[.val (.int p1), .val (.int p2), .val (.int p3), .val (.int (Int32.ofNat na)), .val (.int (Int32.ofNat nb)), .val (.int x0), .val (.int x1), .val (.int x0), .val (.int x1), .val (.ref t17), .val (.ref t18), .unset, .unset] [(.int (own_sgn ((own_key x0) - (own_key x0))))] h18 vm18 8 24
            refine RunW.istore (l' := #[.val (.int p1), .val (.int p2), .val (.int p3), .val (.int (Int32.ofNat na)), .val (.int (Int32.ofNat nb)), .val (.int x0), .val (.int x1), .val (.int x0), .val (.int x1), .val (.ref t17), .val (.ref t18), .val (.int (own_sgn ((own_key x0) - (own_key x0)))), .unset]) at_124 rfl (pc' := 126) rfl ?_
            refine RunW.goto at_126 (by decide) (pc' := 175) (by decide) ?_
            refine RunW.aload at_175 rfl rfl (pc' := 177) rfl ?_
            refine RunW.aload at_177 rfl rfl (pc' := 179) rfl ?_
            refine RunW.callS (k' := 8) (n' := 24) (as := [(.ref t17), (.ref t18)]) (rest := []) (con_cu8 l Z a0 hw n0 h18 sz18 t17 b17 t18 b18 ([x0, x1].take na) ([x0, x1].take nb) fm cz od18 SF hfm SD SH8 SL8 SZ hcz E_t17_18 F_t17_value_18 F_t17_coder_18 A_b17_18 X18 FV18 FC18 P18 (own_t2 _ _ _) (own_tk (own_chr2 q_x0.2 q_x1.2)) (own_t2 _ _ _) (own_tk (own_chr2 q_x0.2 q_x1.2)) ) (by rintro _ _ ⟨_, -, -, rfl⟩; exact ⟨[], Keep.refl _ _, all0⟩) at_179 (hw _ (List.mem_of_getElem? (i := 41) rfl)) (hw _ (List.mem_of_getElem? (i := 42) rfl)) (hw _ (List.mem_of_getElem? (i := 43) rfl)) (hw _ (List.mem_of_getElem? (i := 44) rfl)) (by decide) pd__Ljava_lang_String_Ljava_lang_String__I rfl rfl rfl (by decide) (by show (0 : Nat) + (6 + 11) + 66 ≤ _; decide) (by decide) (by decide) (by decide) (by decide) (pc' := 182) rfl ?_
            rintro _ _ ⟨_, rfl, rfl, rfl⟩ -
            show RunW l Z own_EL n0 x.cls code maxLocals ret x.name room_1 _ 182 #[.val (.int p1), .val (.int p2), .val (.int p3), .val (.int (Int32.ofNat na)), .val (.int (Int32.ofNat nb)), .val (.int x0), .val (.int x1), .val (.int x0), .val (.int x1), .val (.ref t17), .val (.ref t18), .val (.int (own_sgn ((own_key x0) - (own_key x0)))), .unset] [(.int (own_cmp ([x0, x1].take na) ([x0, x1].take nb) (min ([x0, x1].take na).length ([x0, x1].take nb).length) 0))] h18 vm18 8 24
            refine RunW.callS (k' := 8) (n' := 24) (as := [(.int (own_cmp ([x0, x1].take na) ([x0, x1].take nb) (min ([x0, x1].take na).length ([x0, x1].take nb).length) 0))]) (rest := []) (con_own_sgn l Z a0 hw n0 h18 sz18 (own_cmp ([x0, x1].take na) ([x0, x1].take nb) (min ([x0, x1].take na).length ([x0, x1].take nb).length) 0) ) (by rintro _ _ ⟨_, -, -, rfl⟩; exact ⟨[], Keep.refl _ _, all0⟩) at_182 (hw _ (List.mem_of_getElem? (i := 38) rfl)) (hw _ (List.mem_of_getElem? (i := 39) rfl)) (hw _ (List.mem_of_getElem? (i := 3) rfl)) (hw _ (List.mem_of_getElem? (i := 40) rfl)) (by decide) pd__I_I rfl rfl rfl (by decide) (by show (0 : Nat) + (1 + 11) + 0 ≤ _; decide) (by decide) (by decide) (by decide) (by decide) (pc' := 185) rfl ?_
            rintro _ _ ⟨_, rfl, rfl, rfl⟩ -
            show RunW l Z own_EL n0 x.cls code maxLocals ret x.name room_1 _ 185 #[.val (.int p1), .val (.int p2), .val (.int p3), .val (.int (Int32.ofNat na)), .val (.int (Int32.ofNat nb)), .val (.int x0), .val (.int x1), .val (.int x0), .val (.int x1), .val (.ref t17), .val (.ref t18), .val (.int (own_sgn ((own_key x0) - (own_key x0)))), .unset] [(.int (own_sgn (own_cmp ([x0, x1].take na) ([x0, x1].take nb) (min ([x0, x1].take na).length ([x0, x1].take nb).length) 0)))] h18 vm18 8 24
            refine RunW.istore (l' := #[.val (.int p1), .val (.int p2), .val (.int p3), .val (.int (Int32.ofNat na)), .val (.int (Int32.ofNat nb)), .val (.int x0), .val (.int x1), .val (.int x0), .val (.int x1), .val (.ref t17), .val (.ref t18), .val (.int (own_sgn ((own_key x0) - (own_key x0)))), .val (.int (own_sgn (own_cmp ([x0, x1].take na) ([x0, x1].take nb) (min ([x0, x1].take na).length ([x0, x1].take nb).length) 0)))]) at_185 rfl (pc' := 187) rfl ?_
            refine RunW.iload at_187 rfl (pc' := 189) rfl ?_
            refine RunW.iload at_189 rfl (pc' := 191) rfl ?_
            refine RunW.icmp_ne at_191 (by decide) (pc' := 198) (by decide) (pa := 194) rfl (fun hc191 => ?_) (fun hc191 => ?_)
            · -- pc 191 taken: ¬ (own_sgn (own_cmp ([x0, x1].take na) ([x0, x1].take nb) (min ([x0, x1].take na).length ([x0, x1].take nb).length) 0)) = (own_sgn ((own_key x0) - (own_key x0)))
              exact absurd (own_L1 h_na h_nb (own_gt0 hc95 (by omega)) (own_gt0 hc100 (by omega)) q_x0.2 q_x0.2 hc107) hc191
            · -- pc 191 not taken: (own_sgn (own_cmp ([x0, x1].take na) ([x0, x1].take nb) (min ([x0, x1].take na).length ([x0, x1].take nb).length) 0)) = (own_sgn ((own_key x0) - (own_key x0)))
              refine RunW.iconst (1 : Int32) at_194 (by decide) (pc' := 195) rfl ?_
              refine RunW.goto at_195 (by decide) (pc' := 199) (by decide) ?_
              exact RunW.nreturn at_199 (ty := .boolean) rfl (by simp) (by decide) (by decide) ⟨_, rfl, rfl⟩
set_option maxRecDepth 65536 in
set_option maxHeartbeats 40000000 in
theorem comes_1 {Post : Tables → Env → Array Value → State → Outcome → State → Prop} (hpost : ∀ tb e args s v u, (limb_1_1.after args s (.returned v) u = true ∧ limb_1_2.after args s (.returned v) u = true ∧ True) → Jvm.D.FramedW s (.returned v) u (Jvm.fieldLocs frame_1_writes args s ++ Jvm.arrayLocs frame_1_arrays args s ++ Jvm.staticLocs frame_1_statics s) 32 1152 → Post tb e args s (.returned v) u) :
    ArmFor flags0 classFile x code maxLocals ret World_1 tables_1 room_1 Calls_1 rest_1 Pre_1 Post := by
  intro l hfl _ _ p e ha hc hk s m args below hf hA hF happ hP
  obtain ⟨hcalls, hrest, hpre⟩ := hP
  obtain ⟨-, -, -, hnamed, -, -, -, hat⟩ := (Spec.applies_iff hf).mp happ
  obtain ⟨hg, hn⟩ := and_e (Cond.before_iff.mp (show (Jvm.Cond.and given_1 narrow_1).before args s = true from hpre))
  obtain ⟨hcnt, g0⟩ := and_e hg
  obtain ⟨ga0, g1⟩ := and_e g0
  obtain ⟨ga1, g2⟩ := and_e g1
  obtain ⟨w0, w1, w2, rfl⟩ : ∃ w0 w1 w2 : Value, args = #[w0, w1, w2] := by
    have hs : args.size = 3 := by simpa [Cond.value, given_1] using hcnt
    obtain ⟨L⟩ := args
    match L, hs with
    | [w0, w1, w2], _ => exact ⟨w0, w1, w2, rfl⟩
  have hw := fun d (hd : d ∈ tables_1) => atoms_spec (ws := Jvm.Cond.code x code maxLocals ret :: tables_1) hat d (List.mem_cons_of_mem _ hd)
  obtain ⟨hsets, hown0⟩ := atoms_of _ (rest_1_c_eq ▸ (show rest_1_c.before _ s = true from hrest))
  have hr0 := Cond.before_iff.mp hown0
  have hfit : Fit s := fun {y c} hc i hi => by
    obtain ⟨ha, rfl⟩ := Array.getElem?_eq_some_iff.mp hc
    have q := List.all_eq_true.mp ((Array.all_eq_true_iff_forall_mem.mp hF) _ (Array.getElem_mem ha)) i (List.mem_range.mpr hi)
    simpa [Array.getElem?_eq_getElem hi] using q
  obtain ⟨i0, e0⟩ := is_v ga0
  obtain rfl : w0 = (.int i0) := Option.some.inj e0
  obtain ⟨i1, e1⟩ := is_v ga1
  obtain rfl : w1 = (.int i1) := Option.some.inj e1
  obtain ⟨i2, e2⟩ := is_v g2
  obtain rfl : w2 = (.int i2) := Option.some.inj e2
  obtain ⟨fm, evF, hfm⟩ := isR_v (Cond.before_iff.mp (hsets _ (List.mem_of_getElem? (i := 8) rfl)))
  have SF := Sta.start evF (Or.inl (hsets _ (List.mem_of_getElem? (i := 7) rfl)))
  have SD := Sta.start (eqv_i (Term.int_eval (1)) (Cond.before_iff.mp (hsets _ (List.mem_of_getElem? (i := 12) rfl)))) (Or.inl (hsets _ (List.mem_of_getElem? (i := 11) rfl)))
  have SH8 := Sta.start (eqv_i (Term.int_eval (0)) (Cond.before_iff.mp (hsets _ (List.mem_of_getElem? (i := 15) rfl)))) (Or.inl (hsets _ (List.mem_of_getElem? (i := 14) rfl)))
  have SL8 := Sta.start (eqv_i (Term.int_eval (8)) (Cond.before_iff.mp (hsets _ (List.mem_of_getElem? (i := 18) rfl)))) (Or.inl (hsets _ (List.mem_of_getElem? (i := 17) rfl)))
  obtain ⟨cz, evZ⟩ := is_v (Cond.before_iff.mp (hsets _ (List.mem_of_getElem? (i := 1) rfl)))
  have SZ := Sta.start evZ (Or.inl (hsets _ (List.mem_of_getElem? (i := 0) rfl)))
  have hcz : ¬ cz = (0 : Int32) := gotF (Cond.eq_ints evZ (Term.int_eval (0))) (not_v (Cond.before_iff.mp (hsets _ (List.mem_of_getElem? (i := 2) rfl))))
  have hCH : CHv s own_EL s.vm s.heap := CHv.start (own_EW hw) (own_heldc hcalls) (hsets _ (List.mem_of_getElem? (i := 2) rfl)) (hw _ (List.mem_of_getElem? (i := 24) rfl)) (hw _ (List.mem_of_getElem? (i := 6) rfl))
  obtain ⟨n, o, h1, h2, h3, _, L, rfl, ⟨⟨_, rfl, rfl⟩, N⟩, -, hq⟩ := con0 l s _ hw s.heap.size s.heap (Nat.le_refl _) i0 i1 i2 fm cz (Old.start s) SF hfm SD SH8 SL8 SZ hcz tables_1 p e ha hc hk s m _ below hf ((Spec.applies_iff_loose hf).mp happ).1 ⟨rfl, State.Warmed39.refl s, rfl, hCH, all0⟩ trivial
  refine ⟨n, _, h1, h2, h3, hpost _ _ _ _ _ _ ⟨Cond.after_iff.mpr rfl, Cond.after_iff.mpr (eq_i res_at (Term.int_eval (1)) rfl), trivial⟩ ⟨hq.1, hq.2.1, hq.2.2.1, (hq.2.2.2.sift fun y hy => Or.inr (N y hy)).mono (by decide) (by decide)⟩⟩
theorem main_1_1 : Claimed_1_1 := comes_1 fun _ _ _ _ _ _ h hF => ⟨h.1, hF⟩
theorem main_1_2 : Claimed_1_2 := comes_1 fun _ _ _ _ _ _ h hF => ⟨h.2.1, hF⟩
end Jvm.Pilot.@@N@@
namespace Jvm.Pilot.@@N@@
open Jvm Jvm.ClassFile Sem Op Lib Jvm.Free Jvm.Stand Jvm.Pilot.@@N@@.Jvm.D
/-! MADE BY PROGRAM (witnessworld.py) out of the Statement's table words and the real class files: 24 classes; the members and pool entries that the words name. The judged class is class 1, her method 4. -/
namespace start1
open Jvm.ClassFile
def u (s : String) : CpInfo := .utf8 (stringToUtf16 s)
/-- a pool by its gaps: so many unusable entries, then the entry; so many at the end -/
def gap : Nat → List CpInfo → List CpInfo
  | 0, r => r
  | n + 1, r => .unusable :: gap n r
def poolList (es : List (Nat × CpInfo)) (last : Nat) : List CpInfo := es.foldr (fun e r => gap e.1 (e.2 :: r)) (gap last [])
def pool (es : List (Nat × CpInfo)) (last : Nat) : Array CpInfo := ⟨poolList es last⟩
def fileOf (pool : Array CpInfo) (this : Nat) (attrs : Array Attribute := #[]) (ms : Array MethodInfo := #[]) (fl : Nat := 33) (sup : Nat := 0) (ifs : Array Nat := #[]) (fds : Array FieldInfo := #[]) : ClassFile where
  minorVersion := 0
  majorVersion := 65
  constantPool := pool
  accessFlags := fl
  thisClass := this
  superClass := sup
  interfaces := ifs
  fields := fds
  methods := ms
  attributes := attrs
def plain (name : String) (sup : Option ClassId) : Class where
  name := name
  kind := .ordinary
  loader := none
  accessFlags := 33
  super := sup
  interfaces := #[]
  cf := none
  fields := #[]
  methods := #[]
  instanceTypes := #[]
  staticTypes := #[]
  resolved := #[]
  callSites := []
  init := .initialized
  statics := none
  mirror := none

def pool0 : Array CpInfo := pool [(5, u "<init>"), (0, u "()V"), (1, .class_ 10), (1, u "java/lang/Object")] 113

def k0c0 : Code := { maxStack := 0, maxLocals := 1, code := object_method_1_code, exceptionTable := #[], attributes := #[] }
def k0m0 : Method := { name := "<init>", desc := "()V", sig := { parameters := [], returnType := none }, accessFlags := 1, code := some k0c0 }
/-- java/lang/Object -/
def k0 : Class := { plain "java/lang/Object" none with
  accessFlags := 33
  interfaces := #[]
  cf := some (fileOf pool0 8 #[] #[{ accessFlags := 1, nameIndex := 5, descriptorIndex := 6, attributes := #[] }] 33 0 #[] #[])
  fields := #[]
  methods := #[k0m0]
  instanceTypes := #[]
  staticTypes := #[]
  resolved := Array.replicate 124 none
  statics := none }

def pool1 : Array CpInfo := pool [(2, .class_ 4), (1, u "java/lang/Object"), (0, u "<init>"), (0, u "()V"), (0, .integer 55296), (0, .integer 57344), (0, .integer 65536), (0, .string 11), (0, u ""), (0, .methodref 13 14), (0, .class_ 15), (0, .nameAndType 16 17), (0, u "java/lang/String"), (0, u "valueOf"), (0, u "(C)Ljava/lang/String;"), (0, .methodref 13 19), (0, .nameAndType 5 20), (0, u "([C)V"), (0, .integer 65535), (0, .methodref 23 24), (0, .class_ 25), (0, .nameAndType 26 27), (0, u "com/example/callimachus/callimachus/PackageIdCompareUtf8PinLaw"), (0, u "str"), (0, u "(ICC)Ljava/lang/String;"), (0, .methodref 23 29), (0, .nameAndType 30 31), (0, u "key"), (0, u "(C)I"), (0, .methodref 23 33), (0, .nameAndType 34 35), (0, u "sgn"), (0, u "(I)I"), (0, .methodref 37 38), (0, .class_ 39), (0, .nameAndType 40 41), (0, u "com/example/callimachus/callimachus/PackageId"), (0, u "compareUtf8"), (0, u "(Ljava/lang/String;Ljava/lang/String;)I"), (3, u "law"), (0, u "(III)Z")] 2

def k1m0 : Method := { name := "<init>", desc := "()V", sig := { parameters := [], returnType := none }, accessFlags := 1, code := none }
def k1c1 : Code := { maxStack := 1, maxLocals := 1, code := method_2_code, exceptionTable := #[], attributes := #[] }
def k1m1 : Method := { name := "sgn", desc := "(I)I", sig := { parameters := [.int], returnType := some .int }, accessFlags := 10, code := some k1c1 }
def k1c2 : Code := { maxStack := 2, maxLocals := 2, code := method_3_code, exceptionTable := #[], attributes := #[] }
def k1m2 : Method := { name := "key", desc := "(C)I", sig := { parameters := [.char], returnType := some .int }, accessFlags := 10, code := some k1c2 }
def k1c3 : Code := { maxStack := 6, maxLocals := 3, code := method_4_code, exceptionTable := #[], attributes := #[] }
def k1m3 : Method := { name := "str", desc := "(ICC)Ljava/lang/String;", sig := { parameters := [.int, .char, .char], returnType := some (.object "java/lang/String") }, accessFlags := 10, code := some k1c3 }
def k1c4 : Code := { maxStack := 3, maxLocals := 13, code := code, exceptionTable := #[], attributes := #[] }
def k1m4 : Method := { name := "law", desc := "(III)Z", sig := { parameters := [.int, .int, .int], returnType := some .boolean }, accessFlags := 9, code := some k1c4 }
/-- com/example/callimachus/callimachus/PackageIdCompareUtf8PinLaw -/
def k1 : Class := { plain "com/example/callimachus/callimachus/PackageIdCompareUtf8PinLaw" (some 0) with
  accessFlags := 49
  interfaces := #[]
  cf := some (fileOf pool1 23 #[] #[{ accessFlags := 1, nameIndex := 5, descriptorIndex := 6, attributes := #[] }, { accessFlags := 10, nameIndex := 34, descriptorIndex := 35, attributes := #[] }, { accessFlags := 10, nameIndex := 30, descriptorIndex := 31, attributes := #[] }, { accessFlags := 10, nameIndex := 26, descriptorIndex := 27, attributes := #[] }, { accessFlags := 9, nameIndex := 45, descriptorIndex := 46, attributes := #[] }] 49 2 #[] #[])
  fields := #[]
  methods := #[k1m0, k1m1, k1m2, k1m3, k1m4]
  instanceTypes := #[]
  staticTypes := #[]
  resolved := Array.replicate 49 none
  statics := none }

def pool2 : Array CpInfo := pool [(1, .class_ 2), (0, u "java/io/Serializable"), (0, .class_ 4), (0, u "java/lang/Object")] 2

/-- java/io/Serializable -/
def k2 : Class := { plain "java/io/Serializable" (some 0) with
  accessFlags := 1537
  interfaces := #[]
  cf := some (fileOf pool2 1 #[] #[] 1537 3 #[] #[])
  fields := #[]
  methods := #[]
  instanceTypes := #[]
  staticTypes := #[]
  resolved := Array.replicate 7 none
  statics := none }

def pool3 : Array CpInfo := pool [(1, .class_ 2), (0, u "java/lang/Comparable"), (0, .class_ 4), (0, u "java/lang/Object")] 7

/-- java/lang/Comparable -/
def k3 : Class := { plain "java/lang/Comparable" (some 0) with
  accessFlags := 1537
  interfaces := #[]
  cf := some (fileOf pool3 1 #[] #[] 1537 3 #[] #[])
  fields := #[]
  methods := #[]
  instanceTypes := #[]
  staticTypes := #[]
  resolved := Array.replicate 12 none
  statics := none }

def pool4 : Array CpInfo := pool [(2, .class_ 4), (1, u "java/lang/CharSequence"), (42, .class_ 48), (0, u "java/lang/CharSequence$1CodePointIterator"), (10, .class_ 60), (0, u "java/lang/CharSequence$1CharIterator"), (5, .class_ 67), (0, u "java/lang/Object")] 63

/-- java/lang/CharSequence -/
def k4 : Class := { plain "java/lang/CharSequence" (some 0) with
  accessFlags := 1537
  interfaces := #[]
  cf := some (fileOf pool4 2 #[.nestMembers #[47, 59]] #[] 1537 66 #[] #[])
  fields := #[]
  methods := #[]
  instanceTypes := #[]
  staticTypes := #[]
  resolved := Array.replicate 131 none
  statics := none }

def pool5 : Array CpInfo := pool [(1, .class_ 2), (0, u "java/lang/constant/Constable"), (0, .class_ 4), (0, u "java/lang/Object")] 6

/-- java/lang/constant/Constable -/
def k5 : Class := { plain "java/lang/constant/Constable" (some 0) with
  accessFlags := 1537
  interfaces := #[]
  cf := some (fileOf pool5 1 #[] #[] 1537 3 #[] #[])
  fields := #[]
  methods := #[]
  instanceTypes := #[]
  staticTypes := #[]
  resolved := Array.replicate 11 none
  statics := none }

def pool6 : Array CpInfo := pool [(1, .class_ 2), (0, u "java/lang/constant/ConstantDesc"), (0, .class_ 4), (0, u "java/lang/Object")] 32

/-- java/lang/constant/ConstantDesc -/
def k6 : Class := { plain "java/lang/constant/ConstantDesc" (some 0) with
  accessFlags := 1537
  interfaces := #[]
  cf := some (fileOf pool6 1 #[] #[] 1537 3 #[] #[])
  fields := #[]
  methods := #[]
  instanceTypes := #[]
  staticTypes := #[]
  resolved := Array.replicate 37 none
  statics := none }

def pool7 : Array CpInfo := pool [(1, .methodref 2 3), (0, .class_ 4), (0, .nameAndType 5 6), (0, u "java/lang/Object"), (0, u "<init>"), (0, u "()V"), (2, .fieldref 10 11), (0, .class_ 12), (0, .nameAndType 13 14), (0, u "java/lang/String"), (0, u "value"), (0, u "[B"), (0, .fieldref 10 16), (0, .nameAndType 17 18), (0, u "coder"), (0, u "B"), (2, u "hash"), (0, u "I"), (2, u "hashIsZero"), (0, u "Z"), (0, .methodref 10 28), (0, .nameAndType 5 29), (0, u "([CIILjava/lang/Void;)V"), (8, .fieldref 10 39), (0, .nameAndType 40 26), (0, u "COMPACT_STRINGS"), (1, .class_ 44), (1, u "java/lang/StringUTF16"), (0, u "compress"), (1, .methodref 42 48), (0, .nameAndType 49 50), (0, u "coderFromArrayLen"), (0, u "([BI)B"), (2, u "toBytes"), (53, .class_ 109), (1, u "java/lang/StringLatin1"), (32, u "()Z"), (34, .methodref 42 178), (0, .nameAndType 45 179), (0, u "([CII)[B"), (29, .methodref 10 210), (0, .nameAndType 5 211), (0, u "([BB)V"), (122, u "()I"), (0, .methodref 10 336), (0, .nameAndType 17 337), (0, u "()B"), (25, u "([BI)C"), (5, u "(C)Z"), (21, u "(II)V"), (35, u "(I)C"), (64, .methodref 10 493), (0, .nameAndType 494 142), (0, u "isLatin1"), (0, .methodref 107 496), (0, .nameAndType 497 363), (0, u "charAt"), (0, .methodref 42 496), (2, u "checkIndex"), (5, u "length"), (67, .class_ 576), (0, u "java/lang/CharSequence"), (22, u "CASE_INSENSITIVE_ORDER"), (0, u "Ljava/util/Comparator;"), (181, u "valueOf"), (0, u "(C)Ljava/lang/String;"), (226, u "([C)V"), (4, .methodref 107 1016), (0, .nameAndType 1017 369), (0, u "canEncode"), (0, .methodref 107 1019), (0, .nameAndType 53 1020), (0, u "(C)[B"), (0, .methodref 42 1019), (31, .fieldref 1054 1055), (0, .class_ 1056), (0, .nameAndType 1057 1058), (0, u "jdk/internal/util/Preconditions"), (0, u "SIOOBE_FORMATTER"), (0, u "Ljava/util/function/BiFunction;"), (0, .methodref 1054 1060), (0, .nameAndType 501 1061), (0, u "(IILjava/util/function/BiFunction;)I"), (39, u "serialPersistentFields"), (0, u "[Ljava/io/ObjectStreamField;"), (0, .class_ 1104), (0, u "java/lang/String$CaseInsensitiveComparator"), (1, .class_ 1107), (0, u "java/io/Serializable"), (0, .class_ 1109), (0, u "java/lang/Comparable"), (0, .class_ 1111), (0, u "java/lang/constant/Constable"), (0, .class_ 1113), (0, u "java/lang/constant/ConstantDesc"), (2, u "serialVersionUID"), (0, u "J"), (3, u "REPL"), (0, u "C"), (2, u "LATIN1"), (1, u "UTF16")] 323

def k7m0 : Method := { name := "<init>", desc := "()V", sig := { parameters := [], returnType := none }, accessFlags := 1, code := none }
def k7c1 : Code := { maxStack := 5, maxLocals := 2, code := jdk_42_method_3_code, exceptionTable := #[], attributes := #[] }
def k7m1 : Method := { name := "<init>", desc := "([C)V", sig := { parameters := [(.array .char)], returnType := none }, accessFlags := 1, code := some k7c1 }
def k7c2 : Code := { maxStack := 2, maxLocals := 1, code := jdk_42_method_54_code, exceptionTable := #[], attributes := #[] }
def k7m2 : Method := { name := "length", desc := "()I", sig := { parameters := [], returnType := some .int }, accessFlags := 1, code := some k7c2 }
def k7c3 : Code := { maxStack := 2, maxLocals := 2, code := jdk_42_method_56_code, exceptionTable := #[], attributes := #[] }
def k7m3 : Method := { name := "charAt", desc := "(I)C", sig := { parameters := [.int], returnType := some .char }, accessFlags := 1, code := some k7c3 }
def k7c4 : Code := { maxStack := 4, maxLocals := 1, code := jdk_42_method_139_code, exceptionTable := #[], attributes := #[] }
def k7m4 : Method := { name := "valueOf", desc := "(C)Ljava/lang/String;", sig := { parameters := [.char], returnType := some (.object "java/lang/String") }, accessFlags := 9, code := some k7c4 }
def k7c5 : Code := { maxStack := 4, maxLocals := 6, code := jdk_42_method_149_code, exceptionTable := #[], attributes := #[] }
def k7m5 : Method := { name := "<init>", desc := "([CIILjava/lang/Void;)V", sig := { parameters := [(.array .char), .int, .int, (.object "java/lang/Void")], returnType := none }, accessFlags := 2, code := some k7c5 }
def k7c6 : Code := { maxStack := 2, maxLocals := 3, code := jdk_42_method_151_code, exceptionTable := #[], attributes := #[] }
def k7m6 : Method := { name := "<init>", desc := "([BB)V", sig := { parameters := [(.array .byte), .byte], returnType := none }, accessFlags := 0, code := some k7c6 }
def k7c7 : Code := { maxStack := 1, maxLocals := 1, code := jdk_42_method_152_code, exceptionTable := #[], attributes := #[] }
def k7m7 : Method := { name := "coder", desc := "()B", sig := { parameters := [], returnType := some .byte }, accessFlags := 0, code := some k7c7 }
def k7c8 : Code := { maxStack := 1, maxLocals := 1, code := jdk_42_method_154_code, exceptionTable := #[], attributes := #[] }
def k7m8 : Method := { name := "isLatin1", desc := "()Z", sig := { parameters := [], returnType := some .boolean }, accessFlags := 0, code := some k7c8 }
def k7c9 : Code := { maxStack := 3, maxLocals := 2, code := jdk_42_method_155_code, exceptionTable := #[], attributes := #[] }
def k7m9 : Method := { name := "checkIndex", desc := "(II)V", sig := { parameters := [.int, .int], returnType := none }, accessFlags := 8, code := some k7c9 }
/-- java/lang/String -/
def k7 : Class := { plain "java/lang/String" (some 0) with
  accessFlags := 49
  interfaces := #[2, 3, 4, 5, 6]
  cf := some (fileOf pool7 10 #[.nestMembers #[1103]] #[{ accessFlags := 1, nameIndex := 5, descriptorIndex := 6, attributes := #[] }, { accessFlags := 1, nameIndex := 5, descriptorIndex := 1010, attributes := #[] }, { accessFlags := 1, nameIndex := 507, descriptorIndex := 334, attributes := #[] }, { accessFlags := 1, nameIndex := 497, descriptorIndex := 427, attributes := #[] }, { accessFlags := 9, nameIndex := 782, descriptorIndex := 783, attributes := #[] }, { accessFlags := 2, nameIndex := 5, descriptorIndex := 29, attributes := #[] }, { accessFlags := 0, nameIndex := 5, descriptorIndex := 211, attributes := #[] }, { accessFlags := 0, nameIndex := 17, descriptorIndex := 337, attributes := #[] }, { accessFlags := 0, nameIndex := 494, descriptorIndex := 142, attributes := #[] }, { accessFlags := 8, nameIndex := 501, descriptorIndex := 391, attributes := #[] }] 49 2 #[1106, 1108, 575, 1110, 1112] #[{ accessFlags := 18, nameIndex := 13, descriptorIndex := 14, attributes := #[] }, { accessFlags := 18, nameIndex := 17, descriptorIndex := 18, attributes := #[] }, { accessFlags := 2, nameIndex := 21, descriptorIndex := 22, attributes := #[] }, { accessFlags := 2, nameIndex := 25, descriptorIndex := 26, attributes := #[] }, { accessFlags := 26, nameIndex := 1116, descriptorIndex := 1117, attributes := #[] }, { accessFlags := 24, nameIndex := 40, descriptorIndex := 26, attributes := #[] }, { accessFlags := 26, nameIndex := 1101, descriptorIndex := 1102, attributes := #[] }, { accessFlags := 26, nameIndex := 1121, descriptorIndex := 1122, attributes := #[] }, { accessFlags := 25, nameIndex := 599, descriptorIndex := 600, attributes := #[] }, { accessFlags := 24, nameIndex := 1125, descriptorIndex := 18, attributes := #[] }, { accessFlags := 24, nameIndex := 1127, descriptorIndex := 18, attributes := #[] }])
  fields := #[{ name := "value", type := (.array .byte), accessFlags := 18, slot := 0, constantValue := 0 }, { name := "coder", type := .byte, accessFlags := 18, slot := 1, constantValue := 0 }, { name := "hash", type := .int, accessFlags := 2, slot := 2, constantValue := 0 }, { name := "hashIsZero", type := .boolean, accessFlags := 2, slot := 3, constantValue := 0 }, { name := "serialVersionUID", type := .long, accessFlags := 26, slot := 0, constantValue := 0 }, { name := "COMPACT_STRINGS", type := .boolean, accessFlags := 24, slot := 1, constantValue := 0 }, { name := "serialPersistentFields", type := (.array (.object "java/io/ObjectStreamField")), accessFlags := 26, slot := 2, constantValue := 0 }, { name := "REPL", type := .char, accessFlags := 26, slot := 3, constantValue := 0 }, { name := "CASE_INSENSITIVE_ORDER", type := (.object "java/util/Comparator"), accessFlags := 25, slot := 4, constantValue := 0 }, { name := "LATIN1", type := .byte, accessFlags := 24, slot := 5, constantValue := 0 }, { name := "UTF16", type := .byte, accessFlags := 24, slot := 6, constantValue := 0 }]
  methods := #[k7m0, k7m1, k7m2, k7m3, k7m4, k7m5, k7m6, k7m7, k7m8, k7m9]
  instanceTypes := #[(.array .byte), .byte, .int, .boolean]
  staticTypes := #[.long, .boolean, (.array (.object "java/io/ObjectStreamField")), .char, (.object "java/util/Comparator"), .byte, .byte]
  resolved := Array.replicate 1451 none
  statics := some 0 }

def pool8 : Array CpInfo := pool [(3, .class_ 4), (0, u "java/lang/String"), (1, .class_ 8), (1, u "java/lang/Object"), (0, u "<init>"), (0, u "()V"), (0, .methodref 12 13), (0, .class_ 14), (0, .nameAndType 15 16), (0, u "java/lang/StringUTF16"), (0, u "newBytesLength"), (0, u "(I)I"), (3, .integer 1073741823), (23, .fieldref 12 45), (0, .nameAndType 46 47), (0, u "$assertionsDisabled"), (0, u "Z"), (0, .methodref 12 49), (0, .nameAndType 50 51), (0, u "length"), (0, u "([B)I"), (7, .fieldref 12 60), (0, .nameAndType 61 62), (0, u "HI_BYTE_SHIFT"), (0, u "I"), (0, .fieldref 12 64), (0, .nameAndType 65 62), (0, u "LO_BYTE_SHIFT"), (1, .methodref 12 68), (0, .nameAndType 69 70), (0, u "checkIndex"), (0, u "(I[B)V"), (0, .methodref 12 72), (0, .nameAndType 73 74), (0, u "getChar"), (0, u "([BI)C"), (32, .methodref 12 108), (0, .nameAndType 109 110), (0, u "newBytesFor"), (0, u "(I)[B"), (0, .methodref 12 112), (0, .nameAndType 113 114), (0, u "putChar"), (0, u "([BII)V"), (0, .methodref 12 116), (0, .nameAndType 117 118), (0, u "compress"), (0, u "([CI[BII)I"), (0, .methodref 12 120), (0, .nameAndType 121 122), (0, u "toBytes"), (0, u "([CII)[B"), (138, u "coderFromArrayLen"), (0, u "([BI)B"), (106, .class_ 371), (1, u "java/lang/StringUTF16$LinesSpliterator"), (20, u "charAt"), (21, .methodref 3 415), (0, .nameAndType 69 416), (0, u "(II)V"), (13, u "MAX_LENGTH"), (44, u "(C)[B"), (151, .class_ 628), (0, u "java/lang/StringUTF16$CodePointsSpliterator"), (0, .class_ 630), (0, u "java/lang/StringUTF16$CharsSpliterator")] 4

def k8m0 : Method := { name := "<init>", desc := "()V", sig := { parameters := [], returnType := none }, accessFlags := 0, code := none }
def k8c1 : Code := { maxStack := 1, maxLocals := 1, code := jdk_52_method_2_code, exceptionTable := #[], attributes := #[] }
def k8m1 : Method := { name := "newBytesFor", desc := "(I)[B", sig := { parameters := [.int], returnType := some (.array .byte) }, accessFlags := 9, code := some k8c1 }
def k8c2 : Code := { maxStack := 4, maxLocals := 1, code := jdk_52_method_3_code, exceptionTable := #[], attributes := #[] }
def k8m2 : Method := { name := "newBytesLength", desc := "(I)I", sig := { parameters := [.int], returnType := some .int }, accessFlags := 9, code := some k8c2 }
def k8c3 : Code := { maxStack := 4, maxLocals := 3, code := jdk_52_method_4_code, exceptionTable := #[], attributes := #[] }
def k8m3 : Method := { name := "putChar", desc := "([BII)V", sig := { parameters := [(.array .byte), .int, .int], returnType := none }, accessFlags := 8, code := some k8c3 }
def k8c4 : Code := { maxStack := 3, maxLocals := 2, code := jdk_52_method_5_code, exceptionTable := #[], attributes := #[] }
def k8m4 : Method := { name := "getChar", desc := "([BI)C", sig := { parameters := [(.array .byte), .int], returnType := some .char }, accessFlags := 8, code := some k8c4 }
def k8c5 : Code := { maxStack := 2, maxLocals := 1, code := jdk_52_method_6_code, exceptionTable := #[], attributes := #[] }
def k8m5 : Method := { name := "length", desc := "([B)I", sig := { parameters := [(.array .byte)], returnType := some .int }, accessFlags := 9, code := some k8c5 }
def k8c6 : Code := { maxStack := 4, maxLocals := 5, code := jdk_52_method_14_code, exceptionTable := #[], attributes := #[] }
def k8m6 : Method := { name := "toBytes", desc := "([CII)[B", sig := { parameters := [(.array .char), .int, .int], returnType := some (.array .byte) }, accessFlags := 9, code := some k8c6 }
def k8c7 : Code := { maxStack := 2, maxLocals := 2, code := jdk_52_method_15_code, exceptionTable := #[], attributes := #[] }
def k8m7 : Method := { name := "coderFromArrayLen", desc := "([BI)B", sig := { parameters := [(.array .byte), .int], returnType := some .byte }, accessFlags := 8, code := some k8c7 }
def k8c8 : Code := { maxStack := 5, maxLocals := 6, code := jdk_52_method_16_code, exceptionTable := #[], attributes := #[] }
def k8m8 : Method := { name := "compress", desc := "([CII)[B", sig := { parameters := [(.array .char), .int, .int], returnType := some (.array .byte) }, accessFlags := 9, code := some k8c8 }
def k8c9 : Code := { maxStack := 3, maxLocals := 7, code := jdk_52_method_21_code, exceptionTable := #[], attributes := #[] }
def k8m9 : Method := { name := "compress", desc := "([CI[BII)I", sig := { parameters := [(.array .char), .int, (.array .byte), .int, .int], returnType := some .int }, accessFlags := 9, code := some k8c9 }
def k8c10 : Code := { maxStack := 3, maxLocals := 2, code := jdk_52_method_24_code, exceptionTable := #[], attributes := #[] }
def k8m10 : Method := { name := "toBytes", desc := "(C)[B", sig := { parameters := [.char], returnType := some (.array .byte) }, accessFlags := 9, code := some k8c10 }
def k8c11 : Code := { maxStack := 2, maxLocals := 2, code := jdk_52_method_83_code, exceptionTable := #[], attributes := #[] }
def k8m11 : Method := { name := "charAt", desc := "([BI)C", sig := { parameters := [(.array .byte), .int], returnType := some .char }, accessFlags := 9, code := some k8c11 }
def k8c12 : Code := { maxStack := 2, maxLocals := 2, code := jdk_52_method_91_code, exceptionTable := #[], attributes := #[] }
def k8m12 : Method := { name := "checkIndex", desc := "(I[B)V", sig := { parameters := [.int, (.array .byte)], returnType := none }, accessFlags := 9, code := some k8c12 }
/-- java/lang/StringUTF16 -/
def k8 : Class := { plain "java/lang/StringUTF16" (some 0) with
  accessFlags := 48
  interfaces := #[]
  cf := some (fileOf pool8 12 #[.nestMembers #[627, 629, 369]] #[{ accessFlags := 0, nameIndex := 9, descriptorIndex := 10, attributes := #[] }, { accessFlags := 9, nameIndex := 109, descriptorIndex := 110, attributes := #[] }, { accessFlags := 9, nameIndex := 15, descriptorIndex := 16, attributes := #[] }, { accessFlags := 8, nameIndex := 113, descriptorIndex := 114, attributes := #[] }, { accessFlags := 8, nameIndex := 73, descriptorIndex := 74, attributes := #[] }, { accessFlags := 9, nameIndex := 50, descriptorIndex := 51, attributes := #[] }, { accessFlags := 9, nameIndex := 121, descriptorIndex := 122, attributes := #[] }, { accessFlags := 8, nameIndex := 261, descriptorIndex := 262, attributes := #[] }, { accessFlags := 9, nameIndex := 117, descriptorIndex := 122, attributes := #[] }, { accessFlags := 9, nameIndex := 117, descriptorIndex := 118, attributes := #[] }, { accessFlags := 9, nameIndex := 121, descriptorIndex := 475, attributes := #[] }, { accessFlags := 9, nameIndex := 392, descriptorIndex := 74, attributes := #[] }, { accessFlags := 9, nameIndex := 69, descriptorIndex := 70, attributes := #[] }] 48 6 #[] #[{ accessFlags := 26, nameIndex := 61, descriptorIndex := 62, attributes := #[] }, { accessFlags := 26, nameIndex := 65, descriptorIndex := 62, attributes := #[] }, { accessFlags := 24, nameIndex := 430, descriptorIndex := 62, attributes := #[] }, { accessFlags := 4120, nameIndex := 46, descriptorIndex := 47, attributes := #[] }])
  fields := #[{ name := "HI_BYTE_SHIFT", type := .int, accessFlags := 26, slot := 0, constantValue := 0 }, { name := "LO_BYTE_SHIFT", type := .int, accessFlags := 26, slot := 1, constantValue := 0 }, { name := "MAX_LENGTH", type := .int, accessFlags := 24, slot := 2, constantValue := 0 }, { name := "$assertionsDisabled", type := .boolean, accessFlags := 4120, slot := 3, constantValue := 0 }]
  methods := #[k8m0, k8m1, k8m2, k8m3, k8m4, k8m5, k8m6, k8m7, k8m8, k8m9, k8m10, k8m11, k8m12]
  instanceTypes := #[]
  staticTypes := #[.int, .int, .int, .boolean]
  resolved := Array.replicate 635 none
  statics := some 1 }

def pool9 : Array CpInfo := pool [(2, .class_ 4), (1, u "java/lang/Object"), (3, u "name"), (6, .class_ 16), (0, u "java/lang/String"), (1, .class_ 20), (1, u "com/example/callimachus/callimachus/PackageId"), (0, u "Ljava/lang/String;"), (1, u "uuid"), (4, u "Ljava/util/UUID;"), (7, u "()I"), (40, u "BY_NAME_THEN_UUID"), (0, u "Ljava/util/Comparator;"), (10, .methodref 15 90), (0, .nameAndType 91 36), (0, u "length"), (0, .methodref 93 94), (0, .class_ 95), (0, .nameAndType 96 97), (0, u "java/lang/Math"), (0, u "min"), (0, u "(II)I"), (0, .methodref 15 99), (0, .nameAndType 100 101), (0, u "charAt"), (0, u "(I)C"), (0, .methodref 18 103), (0, .nameAndType 104 105), (0, u "inCodePointOrder"), (0, u "(C)I"), (0, .methodref 107 108), (0, .class_ 109), (0, .nameAndType 110 97), (0, u "java/lang/Integer"), (0, u "compare"), (0, .methodref 112 113), (0, .class_ 114), (0, .nameAndType 115 116), (0, u "java/lang/Character"), (0, u "isSurrogate"), (0, u "(C)Z"), (0, .integer 57344), (31, u "BY_NAME"), (15, u "compareUtf8"), (0, u "(Ljava/lang/String;Ljava/lang/String;)I")] 52

def k9c0 : Code := { maxStack := 2, maxLocals := 6, code := prog_22_method_5_code, exceptionTable := #[], attributes := #[] }
def k9m0 : Method := { name := "compareUtf8", desc := "(Ljava/lang/String;Ljava/lang/String;)I", sig := { parameters := [(.object "java/lang/String"), (.object "java/lang/String")], returnType := some .int }, accessFlags := 8, code := some k9c0 }
def k9c1 : Code := { maxStack := 2, maxLocals := 2, code := prog_22_method_6_code, exceptionTable := #[], attributes := #[] }
def k9m1 : Method := { name := "inCodePointOrder", desc := "(C)I", sig := { parameters := [.char], returnType := some .int }, accessFlags := 10, code := some k9c1 }
/-- com/example/callimachus/callimachus/PackageId -/
def k9 : Class := { plain "com/example/callimachus/callimachus/PackageId" (some 0) with
  accessFlags := 33
  interfaces := #[]
  cf := some (fileOf pool9 18 #[] #[{ accessFlags := 8, nameIndex := 165, descriptorIndex := 166, attributes := #[] }, { accessFlags := 10, nameIndex := 104, descriptorIndex := 105, attributes := #[] }] 33 2 #[] #[{ accessFlags := 24, nameIndex := 149, descriptorIndex := 78, attributes := #[] }, { accessFlags := 24, nameIndex := 77, descriptorIndex := 78, attributes := #[] }, { accessFlags := 18, nameIndex := 8, descriptorIndex := 21, attributes := #[] }, { accessFlags := 18, nameIndex := 23, descriptorIndex := 28, attributes := #[] }])
  fields := #[{ name := "BY_NAME", type := (.object "java/util/Comparator"), accessFlags := 24, slot := 0, constantValue := 0 }, { name := "BY_NAME_THEN_UUID", type := (.object "java/util/Comparator"), accessFlags := 24, slot := 1, constantValue := 0 }, { name := "name", type := (.object "java/lang/String"), accessFlags := 18, slot := 0, constantValue := 0 }, { name := "uuid", type := (.object "java/util/UUID"), accessFlags := 18, slot := 1, constantValue := 0 }]
  methods := #[k9m0, k9m1]
  instanceTypes := #[(.object "java/lang/String"), (.object "java/util/UUID")]
  staticTypes := #[(.object "java/util/Comparator"), (.object "java/util/Comparator")]
  resolved := Array.replicate 219 none
  statics := none }

def pool10 : Array CpInfo := pool [(1, .class_ 2), (0, u "java/lang/Math"), (1, .class_ 6), (1, u "java/lang/Object"), (0, u "<init>"), (0, u "()V"), (89, .class_ 100), (1, u "java/lang/Math$RandomNumberGeneratorHolder"), (71, u "negativeZeroFloatBits"), (0, u "J"), (2, u "negativeZeroDoubleBits"), (24, u "min"), (43, u "$assertionsDisabled"), (0, u "Z"), (88, u "(II)I"), (2, u "twoToTheDoubleScaleDown"), (0, u "D"), (4, u "twoToTheDoubleScaleUp"), (9, u "E"), (3, u "PI"), (2, u "TAU"), (2, u "DEGREES_TO_RADIANS"), (0, u "RADIANS_TO_DEGREES")] 94

def k10m0 : Method := { name := "<init>", desc := "()V", sig := { parameters := [], returnType := none }, accessFlags := 2, code := none }
def k10c1 : Code := { maxStack := 2, maxLocals := 2, code := jdk_29_method_69_code, exceptionTable := #[], attributes := #[] }
def k10m1 : Method := { name := "min", desc := "(II)I", sig := { parameters := [.int, .int], returnType := some .int }, accessFlags := 9, code := some k10c1 }
/-- java/lang/Math -/
def k10 : Class := { plain "java/lang/Math" (some 0) with
  accessFlags := 49
  interfaces := #[]
  cf := some (fileOf pool10 1 #[.nestMembers #[98]] #[{ accessFlags := 2, nameIndex := 7, descriptorIndex := 8, attributes := #[] }, { accessFlags := 9, nameIndex := 201, descriptorIndex := 335, attributes := #[] }] 49 4 #[] #[{ accessFlags := 25, nameIndex := 354, descriptorIndex := 339, attributes := #[] }, { accessFlags := 25, nameIndex := 358, descriptorIndex := 339, attributes := #[] }, { accessFlags := 25, nameIndex := 361, descriptorIndex := 339, attributes := #[] }, { accessFlags := 26, nameIndex := 364, descriptorIndex := 339, attributes := #[] }, { accessFlags := 26, nameIndex := 365, descriptorIndex := 339, attributes := #[] }, { accessFlags := 26, nameIndex := 172, descriptorIndex := 173, attributes := #[] }, { accessFlags := 26, nameIndex := 176, descriptorIndex := 173, attributes := #[] }, { accessFlags := 8, nameIndex := 344, descriptorIndex := 339, attributes := #[] }, { accessFlags := 8, nameIndex := 338, descriptorIndex := 339, attributes := #[] }, { accessFlags := 4120, nameIndex := 245, descriptorIndex := 246, attributes := #[] }])
  fields := #[{ name := "E", type := .double, accessFlags := 25, slot := 0, constantValue := 0 }, { name := "PI", type := .double, accessFlags := 25, slot := 1, constantValue := 0 }, { name := "TAU", type := .double, accessFlags := 25, slot := 2, constantValue := 0 }, { name := "DEGREES_TO_RADIANS", type := .double, accessFlags := 26, slot := 3, constantValue := 0 }, { name := "RADIANS_TO_DEGREES", type := .double, accessFlags := 26, slot := 4, constantValue := 0 }, { name := "negativeZeroFloatBits", type := .long, accessFlags := 26, slot := 5, constantValue := 0 }, { name := "negativeZeroDoubleBits", type := .long, accessFlags := 26, slot := 6, constantValue := 0 }, { name := "twoToTheDoubleScaleUp", type := .double, accessFlags := 8, slot := 7, constantValue := 0 }, { name := "twoToTheDoubleScaleDown", type := .double, accessFlags := 8, slot := 8, constantValue := 0 }, { name := "$assertionsDisabled", type := .boolean, accessFlags := 4120, slot := 9, constantValue := 0 }]
  methods := #[k10m0, k10m1]
  instanceTypes := #[]
  staticTypes := #[.double, .double, .double, .double, .double, .long, .long, .double, .double, .boolean]
  resolved := Array.replicate 460 none
  statics := none }

def pool11 : Array CpInfo := pool [(2, .class_ 4), (1, u "java/lang/Object"), (0, u "<init>"), (0, u "()V"), (1, .class_ 10), (1, u "java/lang/Number"), (2, .class_ 14), (0, u "java/io/Serializable"), (0, u "serialVersionUID"), (0, u "J")] 20

def k11m0 : Method := { name := "<init>", desc := "()V", sig := { parameters := [], returnType := none }, accessFlags := 1, code := none }
/-- java/lang/Number -/
def k11 : Class := { plain "java/lang/Number" (some 0) with
  accessFlags := 1057
  interfaces := #[2]
  cf := some (fileOf pool11 8 #[] #[{ accessFlags := 1, nameIndex := 5, descriptorIndex := 6, attributes := #[] }] 1057 2 #[13] #[{ accessFlags := 26, nameIndex := 15, descriptorIndex := 16, attributes := #[] }])
  fields := #[{ name := "serialVersionUID", type := .long, accessFlags := 26, slot := 0, constantValue := 0 }]
  methods := #[k11m0]
  instanceTypes := #[]
  staticTypes := #[.long]
  resolved := Array.replicate 37 none
  statics := none }

def pool12 : Array CpInfo := pool [(1, .class_ 2), (0, u "java/lang/Integer"), (16, u "digits"), (0, u "[C"), (39, u "(II)I"), (24, u "DigitOnes"), (0, u "[B"), (2, u "DigitTens"), (99, .class_ 190), (0, u "java/lang/Integer$IntegerCache"), (3, u "I"), (8, .class_ 204), (0, u "java/lang/Number"), (2, u "value"), (53, u "compare"), (40, u "TYPE"), (0, u "Ljava/lang/Class;"), (0, .class_ 305), (0, u "java/lang/Comparable"), (0, .class_ 307), (0, u "java/lang/constant/Constable"), (0, .class_ 309), (0, u "java/lang/constant/ConstantDesc"), (0, u "MIN_VALUE"), (1, u "MAX_VALUE"), (3, u "SIZE"), (1, u "BYTES"), (1, u "serialVersionUID"), (0, u "J")] 131

def k12c0 : Code := { maxStack := 2, maxLocals := 2, code := jdk_33_method_40_code, exceptionTable := #[], attributes := #[] }
def k12m0 : Method := { name := "compare", desc := "(II)I", sig := { parameters := [.int, .int], returnType := some .int }, accessFlags := 9, code := some k12c0 }
/-- java/lang/Integer -/
def k12 : Class := { plain "java/lang/Integer" (some 11) with
  accessFlags := 49
  interfaces := #[3, 5, 6]
  cf := some (fileOf pool12 1 #[.nestMembers #[189]] #[{ accessFlags := 9, nameIndex := 261, descriptorIndex := 60, attributes := #[] }] 49 203 #[304, 306, 308] #[{ accessFlags := 25, nameIndex := 310, descriptorIndex := 194, attributes := #[] }, { accessFlags := 25, nameIndex := 312, descriptorIndex := 194, attributes := #[] }, { accessFlags := 25, nameIndex := 302, descriptorIndex := 303, attributes := #[] }, { accessFlags := 24, nameIndex := 19, descriptorIndex := 20, attributes := #[] }, { accessFlags := 24, nameIndex := 89, descriptorIndex := 86, attributes := #[] }, { accessFlags := 24, nameIndex := 85, descriptorIndex := 86, attributes := #[] }, { accessFlags := 18, nameIndex := 207, descriptorIndex := 194, attributes := #[] }, { accessFlags := 25, nameIndex := 316, descriptorIndex := 194, attributes := #[] }, { accessFlags := 25, nameIndex := 318, descriptorIndex := 194, attributes := #[] }, { accessFlags := 26, nameIndex := 320, descriptorIndex := 321, attributes := #[] }])
  fields := #[{ name := "MIN_VALUE", type := .int, accessFlags := 25, slot := 0, constantValue := 0 }, { name := "MAX_VALUE", type := .int, accessFlags := 25, slot := 1, constantValue := 0 }, { name := "TYPE", type := (.object "java/lang/Class"), accessFlags := 25, slot := 2, constantValue := 0 }, { name := "digits", type := (.array .char), accessFlags := 24, slot := 3, constantValue := 0 }, { name := "DigitTens", type := (.array .byte), accessFlags := 24, slot := 4, constantValue := 0 }, { name := "DigitOnes", type := (.array .byte), accessFlags := 24, slot := 5, constantValue := 0 }, { name := "value", type := .int, accessFlags := 18, slot := 0, constantValue := 0 }, { name := "SIZE", type := .int, accessFlags := 25, slot := 6, constantValue := 0 }, { name := "BYTES", type := .int, accessFlags := 25, slot := 7, constantValue := 0 }, { name := "serialVersionUID", type := .long, accessFlags := 26, slot := 8, constantValue := 0 }]
  methods := #[k12m0]
  instanceTypes := #[.int]
  staticTypes := #[.int, .int, (.object "java/lang/Class"), (.array .char), (.array .byte), (.array .byte), .int, .int, .long]
  resolved := Array.replicate 453 none
  statics := none }

def pool13 : Array CpInfo := pool [(1, .class_ 2), (0, u "java/lang/String"), (1, .class_ 6), (1, u "java/lang/Object"), (0, u "<init>"), (0, u "()V"), (0, .methodref 1 10), (0, .nameAndType 11 12), (0, u "checkIndex"), (0, u "(II)V"), (1, .class_ 16), (1, u "java/lang/StringLatin1"), (36, u "([BI)C"), (36, u "canEncode"), (14, u "(C)Z"), (15, u "$assertionsDisabled"), (0, u "Z"), (98, .class_ 223), (1, u "java/lang/StringLatin1$LinesSpliterator"), (28, u "charAt"), (127, u "toBytes"), (1, u "(C)[B"), (7, .class_ 391), (0, u "java/lang/StringLatin1$CharsSpliterator")] 3

def k13m0 : Method := { name := "<init>", desc := "()V", sig := { parameters := [], returnType := none }, accessFlags := 0, code := none }
def k13c1 : Code := { maxStack := 2, maxLocals := 2, code := jdk_43_method_2_code, exceptionTable := #[], attributes := #[] }
def k13m1 : Method := { name := "charAt", desc := "([BI)C", sig := { parameters := [(.array .byte), .int], returnType := some .char }, accessFlags := 9, code := some k13c1 }
def k13c2 : Code := { maxStack := 2, maxLocals := 1, code := jdk_43_method_3_code, exceptionTable := #[], attributes := #[] }
def k13m2 : Method := { name := "canEncode", desc := "(C)Z", sig := { parameters := [.char], returnType := some .boolean }, accessFlags := 9, code := some k13c2 }
def k13c3 : Code := { maxStack := 4, maxLocals := 1, code := jdk_43_method_46_code, exceptionTable := #[], attributes := #[] }
def k13m3 : Method := { name := "toBytes", desc := "(C)[B", sig := { parameters := [.char], returnType := some (.array .byte) }, accessFlags := 9, code := some k13c3 }
/-- java/lang/StringLatin1 -/
def k13 : Class := { plain "java/lang/StringLatin1" (some 0) with
  accessFlags := 48
  interfaces := #[]
  cf := some (fileOf pool13 14 #[.nestMembers #[390, 221]] #[{ accessFlags := 0, nameIndex := 7, descriptorIndex := 8, attributes := #[] }, { accessFlags := 9, nameIndex := 252, descriptorIndex := 53, attributes := #[] }, { accessFlags := 9, nameIndex := 90, descriptorIndex := 105, attributes := #[] }, { accessFlags := 9, nameIndex := 380, descriptorIndex := 382, attributes := #[] }] 48 4 #[] #[{ accessFlags := 4120, nameIndex := 121, descriptorIndex := 122, attributes := #[] }])
  fields := #[{ name := "$assertionsDisabled", type := .boolean, accessFlags := 4120, slot := 0, constantValue := 0 }]
  methods := #[k13m0, k13m1, k13m2, k13m3]
  instanceTypes := #[]
  staticTypes := #[.boolean]
  resolved := Array.replicate 395 none
  statics := none }

def pool14 : Array CpInfo := pool [(2, .class_ 4), (1, u "java/lang/Object"), (0, u "<init>"), (0, u "()V"), (17, .class_ 26), (1, u "jdk/internal/util/Preconditions"), (6, u "checkIndex"), (21, .class_ 56), (0, u "jdk/internal/util/Preconditions$4"), (57, .class_ 115), (0, u "jdk/internal/util/Preconditions$1"), (7, u "SIOOBE_FORMATTER"), (0, u "Ljava/util/function/BiFunction;"), (0, .class_ 126), (0, u "jdk/internal/util/Preconditions$2"), (3, u "AIOOBE_FORMATTER"), (0, .class_ 132), (0, u "jdk/internal/util/Preconditions$3"), (3, u "IOOBE_FORMATTER"), (41, u "(IILjava/util/function/BiFunction;)I")] 15

def k14m0 : Method := { name := "<init>", desc := "()V", sig := { parameters := [], returnType := none }, accessFlags := 1, code := none }
def k14c1 : Code := { maxStack := 3, maxLocals := 3, code := jdk_41_method_11_code, exceptionTable := #[], attributes := #[] }
def k14m1 : Method := { name := "checkIndex", desc := "(IILjava/util/function/BiFunction;)I", sig := { parameters := [.int, .int, (.object "java/util/function/BiFunction")], returnType := some .int }, accessFlags := 9, code := some k14c1 }
/-- jdk/internal/util/Preconditions -/
def k14 : Class := { plain "jdk/internal/util/Preconditions" (some 0) with
  accessFlags := 33
  interfaces := #[]
  cf := some (fileOf pool14 24 #[.nestMembers #[55, 131, 125, 114]] #[{ accessFlags := 1, nameIndex := 5, descriptorIndex := 6, attributes := #[] }, { accessFlags := 9, nameIndex := 33, descriptorIndex := 178, attributes := #[] }] 33 2 #[] #[{ accessFlags := 25, nameIndex := 123, descriptorIndex := 124, attributes := #[] }, { accessFlags := 25, nameIndex := 130, descriptorIndex := 124, attributes := #[] }, { accessFlags := 25, nameIndex := 136, descriptorIndex := 124, attributes := #[] }])
  fields := #[{ name := "SIOOBE_FORMATTER", type := (.object "java/util/function/BiFunction"), accessFlags := 25, slot := 0, constantValue := 0 }, { name := "AIOOBE_FORMATTER", type := (.object "java/util/function/BiFunction"), accessFlags := 25, slot := 1, constantValue := 0 }, { name := "IOOBE_FORMATTER", type := (.object "java/util/function/BiFunction"), accessFlags := 25, slot := 2, constantValue := 0 }]
  methods := #[k14m0, k14m1]
  instanceTypes := #[]
  staticTypes := #[(.object "java/util/function/BiFunction"), (.object "java/util/function/BiFunction"), (.object "java/util/function/BiFunction")]
  resolved := Array.replicate 194 none
  statics := some 2 }

def pool15 : Array CpInfo := pool [(1, .class_ 2), (0, u "java/lang/Character"), (18, u "value"), (0, u "C"), (19, .class_ 44), (1, u "java/lang/Object"), (3, .class_ 50), (1, u "java/lang/Character$CharacterCache"), (24, .integer 55296), (1, .integer 57344), (3, u "(C)Z"), (202, u "$assertionsDisabled"), (0, u "Z"), (21, .class_ 309), (1, u "java/lang/Character$UnicodeBlock"), (73, u "TYPE"), (0, u "Ljava/lang/Class;"), (0, .class_ 386), (0, u "java/io/Serializable"), (0, .class_ 388), (0, u "java/lang/Comparable"), (0, .class_ 390), (0, u "java/lang/constant/Constable"), (0, u "MIN_RADIX"), (0, u "I"), (2, u "MAX_RADIX"), (1, u "MIN_VALUE"), (1, u "MAX_VALUE"), (3, u "UNASSIGNED"), (0, u "B"), (0, u "UPPERCASE_LETTER"), (1, u "LOWERCASE_LETTER"), (0, u "TITLECASE_LETTER"), (1, u "MODIFIER_LETTER"), (1, u "OTHER_LETTER"), (1, u "NON_SPACING_MARK"), (1, u "ENCLOSING_MARK"), (1, u "COMBINING_SPACING_MARK"), (1, u "DECIMAL_DIGIT_NUMBER"), (1, u "LETTER_NUMBER"), (1, u "OTHER_NUMBER"), (1, u "SPACE_SEPARATOR"), (1, u "LINE_SEPARATOR"), (1, u "PARAGRAPH_SEPARATOR"), (1, u "CONTROL"), (1, u "FORMAT"), (1, u "PRIVATE_USE"), (1, u "SURROGATE"), (1, u "DASH_PUNCTUATION"), (1, u "START_PUNCTUATION"), (1, u "END_PUNCTUATION"), (1, u "CONNECTOR_PUNCTUATION"), (1, u "OTHER_PUNCTUATION"), (1, u "MATH_SYMBOL"), (1, u "CURRENCY_SYMBOL"), (1, u "MODIFIER_SYMBOL"), (1, u "OTHER_SYMBOL"), (1, u "INITIAL_QUOTE_PUNCTUATION"), (1, u "FINAL_QUOTE_PUNCTUATION"), (1, u "ERROR"), (1, u "DIRECTIONALITY_UNDEFINED"), (0, u "DIRECTIONALITY_LEFT_TO_RIGHT"), (0, u "DIRECTIONALITY_RIGHT_TO_LEFT"), (0, u "DIRECTIONALITY_RIGHT_TO_LEFT_ARABIC"), (0, u "DIRECTIONALITY_EUROPEAN_NUMBER"), (0, u "DIRECTIONALITY_EUROPEAN_NUMBER_SEPARATOR"), (0, u "DIRECTIONALITY_EUROPEAN_NUMBER_TERMINATOR"), (0, u "DIRECTIONALITY_ARABIC_NUMBER"), (0, u "DIRECTIONALITY_COMMON_NUMBER_SEPARATOR"), (0, u "DIRECTIONALITY_NONSPACING_MARK"), (0, u "DIRECTIONALITY_BOUNDARY_NEUTRAL"), (0, u "DIRECTIONALITY_PARAGRAPH_SEPARATOR"), (0, u "DIRECTIONALITY_SEGMENT_SEPARATOR"), (0, u "DIRECTIONALITY_WHITESPACE"), (0, u "DIRECTIONALITY_OTHER_NEUTRALS"), (0, u "DIRECTIONALITY_LEFT_TO_RIGHT_EMBEDDING"), (0, u "DIRECTIONALITY_LEFT_TO_RIGHT_OVERRIDE"), (0, u "DIRECTIONALITY_RIGHT_TO_LEFT_EMBEDDING"), (0, u "DIRECTIONALITY_RIGHT_TO_LEFT_OVERRIDE"), (1, u "DIRECTIONALITY_POP_DIRECTIONAL_FORMAT"), (0, u "DIRECTIONALITY_LEFT_TO_RIGHT_ISOLATE"), (0, u "DIRECTIONALITY_RIGHT_TO_LEFT_ISOLATE"), (0, u "DIRECTIONALITY_FIRST_STRONG_ISOLATE"), (0, u "DIRECTIONALITY_POP_DIRECTIONAL_ISOLATE"), (0, u "MIN_HIGH_SURROGATE"), (0, u "MAX_HIGH_SURROGATE"), (1, u "MIN_LOW_SURROGATE"), (0, u "MAX_LOW_SURROGATE"), (1, u "MIN_SURROGATE"), (0, u "MAX_SURROGATE"), (0, u "MIN_SUPPLEMENTARY_CODE_POINT"), (0, u "MIN_CODE_POINT"), (0, u "MAX_CODE_POINT"), (1, u "serialVersionUID"), (0, u "J"), (2, u "SIZE"), (0, u "BYTES"), (24, u "isSurrogate"), (63, .class_ 596), (0, u "java/lang/Character$UnicodeScript"), (0, .class_ 598), (0, u "java/lang/Character$Subset")] 5

def k15c0 : Code := { maxStack := 2, maxLocals := 1, code := jdk_89_method_16_code, exceptionTable := #[], attributes := #[] }
def k15m0 : Method := { name := "isSurrogate", desc := "(C)Z", sig := { parameters := [.char], returnType := some .boolean }, accessFlags := 9, code := some k15c0 }
/-- java/lang/Character -/
def k15 : Class := { plain "java/lang/Character" (some 0) with
  accessFlags := 49
  interfaces := #[2, 3, 5]
  cf := some (fileOf pool15 1 #[.nestMembers #[48, 595, 307, 597]] #[{ accessFlags := 9, nameIndex := 531, descriptorIndex := 81, attributes := #[] }] 49 42 #[385, 387, 389] #[{ accessFlags := 25, nameIndex := 391, descriptorIndex := 392, attributes := #[] }, { accessFlags := 25, nameIndex := 395, descriptorIndex := 392, attributes := #[] }, { accessFlags := 25, nameIndex := 397, descriptorIndex := 22, attributes := #[] }, { accessFlags := 25, nameIndex := 399, descriptorIndex := 22, attributes := #[] }, { accessFlags := 25, nameIndex := 383, descriptorIndex := 384, attributes := #[] }, { accessFlags := 25, nameIndex := 403, descriptorIndex := 404, attributes := #[] }, { accessFlags := 25, nameIndex := 405, descriptorIndex := 404, attributes := #[] }, { accessFlags := 25, nameIndex := 407, descriptorIndex := 404, attributes := #[] }, { accessFlags := 25, nameIndex := 408, descriptorIndex := 404, attributes := #[] }, { accessFlags := 25, nameIndex := 410, descriptorIndex := 404, attributes := #[] }, { accessFlags := 25, nameIndex := 412, descriptorIndex := 404, attributes := #[] }, { accessFlags := 25, nameIndex := 414, descriptorIndex := 404, attributes := #[] }, { accessFlags := 25, nameIndex := 416, descriptorIndex := 404, attributes := #[] }, { accessFlags := 25, nameIndex := 418, descriptorIndex := 404, attributes := #[] }, { accessFlags := 25, nameIndex := 420, descriptorIndex := 404, attributes := #[] }, { accessFlags := 25, nameIndex := 422, descriptorIndex := 404, attributes := #[] }, { accessFlags := 25, nameIndex := 424, descriptorIndex := 404, attributes := #[] }, { accessFlags := 25, nameIndex := 426, descriptorIndex := 404, attributes := #[] }, { accessFlags := 25, nameIndex := 428, descriptorIndex := 404, attributes := #[] }, { accessFlags := 25, nameIndex := 430, descriptorIndex := 404, attributes := #[] }, { accessFlags := 25, nameIndex := 432, descriptorIndex := 404, attributes := #[] }, { accessFlags := 25, nameIndex := 434, descriptorIndex := 404, attributes := #[] }, { accessFlags := 25, nameIndex := 436, descriptorIndex := 404, attributes := #[] }, { accessFlags := 25, nameIndex := 438, descriptorIndex := 404, attributes := #[] }, { accessFlags := 25, nameIndex := 440, descriptorIndex := 404, attributes := #[] }, { accessFlags := 25, nameIndex := 442, descriptorIndex := 404, attributes := #[] }, { accessFlags := 25, nameIndex := 444, descriptorIndex := 404, attributes := #[] }, { accessFlags := 25, nameIndex := 446, descriptorIndex := 404, attributes := #[] }, { accessFlags := 25, nameIndex := 448, descriptorIndex := 404, attributes := #[] }, { accessFlags := 25, nameIndex := 450, descriptorIndex := 404, attributes := #[] }, { accessFlags := 25, nameIndex := 452, descriptorIndex := 404, attributes := #[] }, { accessFlags := 25, nameIndex := 454, descriptorIndex := 404, attributes := #[] }, { accessFlags := 25, nameIndex := 456, descriptorIndex := 404, attributes := #[] }, { accessFlags := 25, nameIndex := 458, descriptorIndex := 404, attributes := #[] }, { accessFlags := 25, nameIndex := 460, descriptorIndex := 404, attributes := #[] }, { accessFlags := 24, nameIndex := 462, descriptorIndex := 392, attributes := #[] }, { accessFlags := 25, nameIndex := 464, descriptorIndex := 404, attributes := #[] }, { accessFlags := 25, nameIndex := 465, descriptorIndex := 404, attributes := #[] }, { accessFlags := 25, nameIndex := 466, descriptorIndex := 404, attributes := #[] }, { accessFlags := 25, nameIndex := 467, descriptorIndex := 404, attributes := #[] }, { accessFlags := 25, nameIndex := 468, descriptorIndex := 404, attributes := #[] }, { accessFlags := 25, nameIndex := 469, descriptorIndex := 404, attributes := #[] }, { accessFlags := 25, nameIndex := 470, descriptorIndex := 404, attributes := #[] }, { accessFlags := 25, nameIndex := 471, descriptorIndex := 404, attributes := #[] }, { accessFlags := 25, nameIndex := 472, descriptorIndex := 404, attributes := #[] }, { accessFlags := 25, nameIndex := 473, descriptorIndex := 404, attributes := #[] }, { accessFlags := 25, nameIndex := 474, descriptorIndex := 404, attributes := #[] }, { accessFlags := 25, nameIndex := 475, descriptorIndex := 404, attributes := #[] }, { accessFlags := 25, nameIndex := 476, descriptorIndex := 404, attributes := #[] }, { accessFlags := 25, nameIndex := 477, descriptorIndex := 404, attributes := #[] }, { accessFlags := 25, nameIndex := 478, descriptorIndex := 404, attributes := #[] }, { accessFlags := 25, nameIndex := 479, descriptorIndex := 404, attributes := #[] }, { accessFlags := 25, nameIndex := 480, descriptorIndex := 404, attributes := #[] }, { accessFlags := 25, nameIndex := 481, descriptorIndex := 404, attributes := #[] }, { accessFlags := 25, nameIndex := 482, descriptorIndex := 404, attributes := #[] }, { accessFlags := 25, nameIndex := 484, descriptorIndex := 404, attributes := #[] }, { accessFlags := 25, nameIndex := 485, descriptorIndex := 404, attributes := #[] }, { accessFlags := 25, nameIndex := 486, descriptorIndex := 404, attributes := #[] }, { accessFlags := 25, nameIndex := 487, descriptorIndex := 404, attributes := #[] }, { accessFlags := 25, nameIndex := 488, descriptorIndex := 404, attributes := #[] }, { accessFlags := 25, nameIndex := 489, descriptorIndex := 22, attributes := #[] }, { accessFlags := 25, nameIndex := 490, descriptorIndex := 22, attributes := #[] }, { accessFlags := 25, nameIndex := 492, descriptorIndex := 22, attributes := #[] }, { accessFlags := 25, nameIndex := 493, descriptorIndex := 22, attributes := #[] }, { accessFlags := 25, nameIndex := 495, descriptorIndex := 22, attributes := #[] }, { accessFlags := 25, nameIndex := 496, descriptorIndex := 22, attributes := #[] }, { accessFlags := 25, nameIndex := 497, descriptorIndex := 392, attributes := #[] }, { accessFlags := 25, nameIndex := 498, descriptorIndex := 392, attributes := #[] }, { accessFlags := 25, nameIndex := 499, descriptorIndex := 392, attributes := #[] }, { accessFlags := 18, nameIndex := 21, descriptorIndex := 22, attributes := #[] }, { accessFlags := 26, nameIndex := 501, descriptorIndex := 502, attributes := #[] }, { accessFlags := 25, nameIndex := 505, descriptorIndex := 392, attributes := #[] }, { accessFlags := 25, nameIndex := 506, descriptorIndex := 392, attributes := #[] }, { accessFlags := 4120, nameIndex := 284, descriptorIndex := 285, attributes := #[] }])
  fields := #[{ name := "MIN_RADIX", type := .int, accessFlags := 25, slot := 0, constantValue := 0 }, { name := "MAX_RADIX", type := .int, accessFlags := 25, slot := 1, constantValue := 0 }, { name := "MIN_VALUE", type := .char, accessFlags := 25, slot := 2, constantValue := 0 }, { name := "MAX_VALUE", type := .char, accessFlags := 25, slot := 3, constantValue := 0 }, { name := "TYPE", type := (.object "java/lang/Class"), accessFlags := 25, slot := 4, constantValue := 0 }, { name := "UNASSIGNED", type := .byte, accessFlags := 25, slot := 5, constantValue := 0 }, { name := "UPPERCASE_LETTER", type := .byte, accessFlags := 25, slot := 6, constantValue := 0 }, { name := "LOWERCASE_LETTER", type := .byte, accessFlags := 25, slot := 7, constantValue := 0 }, { name := "TITLECASE_LETTER", type := .byte, accessFlags := 25, slot := 8, constantValue := 0 }, { name := "MODIFIER_LETTER", type := .byte, accessFlags := 25, slot := 9, constantValue := 0 }, { name := "OTHER_LETTER", type := .byte, accessFlags := 25, slot := 10, constantValue := 0 }, { name := "NON_SPACING_MARK", type := .byte, accessFlags := 25, slot := 11, constantValue := 0 }, { name := "ENCLOSING_MARK", type := .byte, accessFlags := 25, slot := 12, constantValue := 0 }, { name := "COMBINING_SPACING_MARK", type := .byte, accessFlags := 25, slot := 13, constantValue := 0 }, { name := "DECIMAL_DIGIT_NUMBER", type := .byte, accessFlags := 25, slot := 14, constantValue := 0 }, { name := "LETTER_NUMBER", type := .byte, accessFlags := 25, slot := 15, constantValue := 0 }, { name := "OTHER_NUMBER", type := .byte, accessFlags := 25, slot := 16, constantValue := 0 }, { name := "SPACE_SEPARATOR", type := .byte, accessFlags := 25, slot := 17, constantValue := 0 }, { name := "LINE_SEPARATOR", type := .byte, accessFlags := 25, slot := 18, constantValue := 0 }, { name := "PARAGRAPH_SEPARATOR", type := .byte, accessFlags := 25, slot := 19, constantValue := 0 }, { name := "CONTROL", type := .byte, accessFlags := 25, slot := 20, constantValue := 0 }, { name := "FORMAT", type := .byte, accessFlags := 25, slot := 21, constantValue := 0 }, { name := "PRIVATE_USE", type := .byte, accessFlags := 25, slot := 22, constantValue := 0 }, { name := "SURROGATE", type := .byte, accessFlags := 25, slot := 23, constantValue := 0 }, { name := "DASH_PUNCTUATION", type := .byte, accessFlags := 25, slot := 24, constantValue := 0 }, { name := "START_PUNCTUATION", type := .byte, accessFlags := 25, slot := 25, constantValue := 0 }, { name := "END_PUNCTUATION", type := .byte, accessFlags := 25, slot := 26, constantValue := 0 }, { name := "CONNECTOR_PUNCTUATION", type := .byte, accessFlags := 25, slot := 27, constantValue := 0 }, { name := "OTHER_PUNCTUATION", type := .byte, accessFlags := 25, slot := 28, constantValue := 0 }, { name := "MATH_SYMBOL", type := .byte, accessFlags := 25, slot := 29, constantValue := 0 }, { name := "CURRENCY_SYMBOL", type := .byte, accessFlags := 25, slot := 30, constantValue := 0 }, { name := "MODIFIER_SYMBOL", type := .byte, accessFlags := 25, slot := 31, constantValue := 0 }, { name := "OTHER_SYMBOL", type := .byte, accessFlags := 25, slot := 32, constantValue := 0 }, { name := "INITIAL_QUOTE_PUNCTUATION", type := .byte, accessFlags := 25, slot := 33, constantValue := 0 }, { name := "FINAL_QUOTE_PUNCTUATION", type := .byte, accessFlags := 25, slot := 34, constantValue := 0 }, { name := "ERROR", type := .int, accessFlags := 24, slot := 35, constantValue := 0 }, { name := "DIRECTIONALITY_UNDEFINED", type := .byte, accessFlags := 25, slot := 36, constantValue := 0 }, { name := "DIRECTIONALITY_LEFT_TO_RIGHT", type := .byte, accessFlags := 25, slot := 37, constantValue := 0 }, { name := "DIRECTIONALITY_RIGHT_TO_LEFT", type := .byte, accessFlags := 25, slot := 38, constantValue := 0 }, { name := "DIRECTIONALITY_RIGHT_TO_LEFT_ARABIC", type := .byte, accessFlags := 25, slot := 39, constantValue := 0 }, { name := "DIRECTIONALITY_EUROPEAN_NUMBER", type := .byte, accessFlags := 25, slot := 40, constantValue := 0 }, { name := "DIRECTIONALITY_EUROPEAN_NUMBER_SEPARATOR", type := .byte, accessFlags := 25, slot := 41, constantValue := 0 }, { name := "DIRECTIONALITY_EUROPEAN_NUMBER_TERMINATOR", type := .byte, accessFlags := 25, slot := 42, constantValue := 0 }, { name := "DIRECTIONALITY_ARABIC_NUMBER", type := .byte, accessFlags := 25, slot := 43, constantValue := 0 }, { name := "DIRECTIONALITY_COMMON_NUMBER_SEPARATOR", type := .byte, accessFlags := 25, slot := 44, constantValue := 0 }, { name := "DIRECTIONALITY_NONSPACING_MARK", type := .byte, accessFlags := 25, slot := 45, constantValue := 0 }, { name := "DIRECTIONALITY_BOUNDARY_NEUTRAL", type := .byte, accessFlags := 25, slot := 46, constantValue := 0 }, { name := "DIRECTIONALITY_PARAGRAPH_SEPARATOR", type := .byte, accessFlags := 25, slot := 47, constantValue := 0 }, { name := "DIRECTIONALITY_SEGMENT_SEPARATOR", type := .byte, accessFlags := 25, slot := 48, constantValue := 0 }, { name := "DIRECTIONALITY_WHITESPACE", type := .byte, accessFlags := 25, slot := 49, constantValue := 0 }, { name := "DIRECTIONALITY_OTHER_NEUTRALS", type := .byte, accessFlags := 25, slot := 50, constantValue := 0 }, { name := "DIRECTIONALITY_LEFT_TO_RIGHT_EMBEDDING", type := .byte, accessFlags := 25, slot := 51, constantValue := 0 }, { name := "DIRECTIONALITY_LEFT_TO_RIGHT_OVERRIDE", type := .byte, accessFlags := 25, slot := 52, constantValue := 0 }, { name := "DIRECTIONALITY_RIGHT_TO_LEFT_EMBEDDING", type := .byte, accessFlags := 25, slot := 53, constantValue := 0 }, { name := "DIRECTIONALITY_RIGHT_TO_LEFT_OVERRIDE", type := .byte, accessFlags := 25, slot := 54, constantValue := 0 }, { name := "DIRECTIONALITY_POP_DIRECTIONAL_FORMAT", type := .byte, accessFlags := 25, slot := 55, constantValue := 0 }, { name := "DIRECTIONALITY_LEFT_TO_RIGHT_ISOLATE", type := .byte, accessFlags := 25, slot := 56, constantValue := 0 }, { name := "DIRECTIONALITY_RIGHT_TO_LEFT_ISOLATE", type := .byte, accessFlags := 25, slot := 57, constantValue := 0 }, { name := "DIRECTIONALITY_FIRST_STRONG_ISOLATE", type := .byte, accessFlags := 25, slot := 58, constantValue := 0 }, { name := "DIRECTIONALITY_POP_DIRECTIONAL_ISOLATE", type := .byte, accessFlags := 25, slot := 59, constantValue := 0 }, { name := "MIN_HIGH_SURROGATE", type := .char, accessFlags := 25, slot := 60, constantValue := 0 }, { name := "MAX_HIGH_SURROGATE", type := .char, accessFlags := 25, slot := 61, constantValue := 0 }, { name := "MIN_LOW_SURROGATE", type := .char, accessFlags := 25, slot := 62, constantValue := 0 }, { name := "MAX_LOW_SURROGATE", type := .char, accessFlags := 25, slot := 63, constantValue := 0 }, { name := "MIN_SURROGATE", type := .char, accessFlags := 25, slot := 64, constantValue := 0 }, { name := "MAX_SURROGATE", type := .char, accessFlags := 25, slot := 65, constantValue := 0 }, { name := "MIN_SUPPLEMENTARY_CODE_POINT", type := .int, accessFlags := 25, slot := 66, constantValue := 0 }, { name := "MIN_CODE_POINT", type := .int, accessFlags := 25, slot := 67, constantValue := 0 }, { name := "MAX_CODE_POINT", type := .int, accessFlags := 25, slot := 68, constantValue := 0 }, { name := "value", type := .char, accessFlags := 18, slot := 0, constantValue := 0 }, { name := "serialVersionUID", type := .long, accessFlags := 26, slot := 69, constantValue := 0 }, { name := "SIZE", type := .int, accessFlags := 25, slot := 70, constantValue := 0 }, { name := "BYTES", type := .int, accessFlags := 25, slot := 71, constantValue := 0 }, { name := "$assertionsDisabled", type := .boolean, accessFlags := 4120, slot := 72, constantValue := 0 }]
  methods := #[k15m0]
  instanceTypes := #[.char]
  staticTypes := #[.int, .int, .char, .char, (.object "java/lang/Class"), .byte, .byte, .byte, .byte, .byte, .byte, .byte, .byte, .byte, .byte, .byte, .byte, .byte, .byte, .byte, .byte, .byte, .byte, .byte, .byte, .byte, .byte, .byte, .byte, .byte, .byte, .byte, .byte, .byte, .byte, .int, .byte, .byte, .byte, .byte, .byte, .byte, .byte, .byte, .byte, .byte, .byte, .byte, .byte, .byte, .byte, .byte, .byte, .byte, .byte, .byte, .byte, .byte, .byte, .byte, .char, .char, .char, .char, .char, .char, .int, .int, .int, .long, .int, .int, .boolean]
  resolved := Array.replicate 604 none
  statics := none }

def pool16 : Array CpInfo := pool [(9, u "<init>"), (6, .class_ 18), (1, u "java/lang/Object"), (0, u "()V"), (1, .class_ 23), (1, u "jdk/internal/util/ArraysSupport"), (0, u "LOG2_ARRAY_LONG_INDEX_SCALE"), (0, u "I"), (2, u "U"), (0, u "Ljdk/internal/misc/Unsafe;"), (8, u "BIG_ENDIAN"), (0, u "Z"), (8, u "LOG2_BYTE_BIT_SIZE"), (4, u "LOG2_ARRAY_INT_INDEX_SCALE"), (54, u "JLA"), (0, u "Ljdk/internal/access/JavaLangAccess;"), (11, u "LOG2_ARRAY_BOOLEAN_INDEX_SCALE"), (9, u "LOG2_ARRAY_BYTE_INDEX_SCALE"), (5, u "LOG2_ARRAY_CHAR_INDEX_SCALE"), (5, u "LOG2_ARRAY_SHORT_INDEX_SCALE"), (18, u "LOG2_ARRAY_FLOAT_INDEX_SCALE"), (24, u "LOG2_ARRAY_DOUBLE_INDEX_SCALE"), (89, u "T_BOOLEAN"), (2, u "T_CHAR"), (1, u "T_FLOAT"), (1, u "T_DOUBLE"), (1, u "T_BYTE"), (1, u "T_SHORT"), (1, u "T_INT"), (1, u "T_LONG"), (1, u "SOFT_MAX_ARRAY_LENGTH")] 83

def k16m0 : Method := { name := "<init>", desc := "()V", sig := { parameters := [], returnType := none }, accessFlags := 2, code := none }
/-- jdk/internal/util/ArraysSupport -/
def k16 : Class := { plain "jdk/internal/util/ArraysSupport" (some 0) with
  accessFlags := 33
  interfaces := #[]
  cf := some (fileOf pool16 21 #[] #[{ accessFlags := 2, nameIndex := 9, descriptorIndex := 19, attributes := #[] }] 33 16 #[] #[{ accessFlags := 24, nameIndex := 28, descriptorIndex := 29, attributes := #[] }, { accessFlags := 26, nameIndex := 38, descriptorIndex := 39, attributes := #[] }, { accessFlags := 25, nameIndex := 121, descriptorIndex := 25, attributes := #[] }, { accessFlags := 25, nameIndex := 131, descriptorIndex := 25, attributes := #[] }, { accessFlags := 25, nameIndex := 137, descriptorIndex := 25, attributes := #[] }, { accessFlags := 25, nameIndex := 143, descriptorIndex := 25, attributes := #[] }, { accessFlags := 25, nameIndex := 53, descriptorIndex := 25, attributes := #[] }, { accessFlags := 25, nameIndex := 24, descriptorIndex := 25, attributes := #[] }, { accessFlags := 25, nameIndex := 162, descriptorIndex := 25, attributes := #[] }, { accessFlags := 25, nameIndex := 187, descriptorIndex := 25, attributes := #[] }, { accessFlags := 26, nameIndex := 48, descriptorIndex := 25, attributes := #[] }, { accessFlags := 25, nameIndex := 277, descriptorIndex := 25, attributes := #[] }, { accessFlags := 25, nameIndex := 280, descriptorIndex := 25, attributes := #[] }, { accessFlags := 25, nameIndex := 282, descriptorIndex := 25, attributes := #[] }, { accessFlags := 25, nameIndex := 284, descriptorIndex := 25, attributes := #[] }, { accessFlags := 25, nameIndex := 286, descriptorIndex := 25, attributes := #[] }, { accessFlags := 25, nameIndex := 288, descriptorIndex := 25, attributes := #[] }, { accessFlags := 25, nameIndex := 290, descriptorIndex := 25, attributes := #[] }, { accessFlags := 25, nameIndex := 292, descriptorIndex := 25, attributes := #[] }, { accessFlags := 26, nameIndex := 108, descriptorIndex := 109, attributes := #[] }, { accessFlags := 25, nameIndex := 294, descriptorIndex := 25, attributes := #[] }])
  fields := #[{ name := "U", type := (.object "jdk/internal/misc/Unsafe"), accessFlags := 24, slot := 0, constantValue := 0 }, { name := "BIG_ENDIAN", type := .boolean, accessFlags := 26, slot := 1, constantValue := 0 }, { name := "LOG2_ARRAY_BOOLEAN_INDEX_SCALE", type := .int, accessFlags := 25, slot := 2, constantValue := 0 }, { name := "LOG2_ARRAY_BYTE_INDEX_SCALE", type := .int, accessFlags := 25, slot := 3, constantValue := 0 }, { name := "LOG2_ARRAY_CHAR_INDEX_SCALE", type := .int, accessFlags := 25, slot := 4, constantValue := 0 }, { name := "LOG2_ARRAY_SHORT_INDEX_SCALE", type := .int, accessFlags := 25, slot := 5, constantValue := 0 }, { name := "LOG2_ARRAY_INT_INDEX_SCALE", type := .int, accessFlags := 25, slot := 6, constantValue := 0 }, { name := "LOG2_ARRAY_LONG_INDEX_SCALE", type := .int, accessFlags := 25, slot := 7, constantValue := 0 }, { name := "LOG2_ARRAY_FLOAT_INDEX_SCALE", type := .int, accessFlags := 25, slot := 8, constantValue := 0 }, { name := "LOG2_ARRAY_DOUBLE_INDEX_SCALE", type := .int, accessFlags := 25, slot := 9, constantValue := 0 }, { name := "LOG2_BYTE_BIT_SIZE", type := .int, accessFlags := 26, slot := 10, constantValue := 0 }, { name := "T_BOOLEAN", type := .int, accessFlags := 25, slot := 11, constantValue := 0 }, { name := "T_CHAR", type := .int, accessFlags := 25, slot := 12, constantValue := 0 }, { name := "T_FLOAT", type := .int, accessFlags := 25, slot := 13, constantValue := 0 }, { name := "T_DOUBLE", type := .int, accessFlags := 25, slot := 14, constantValue := 0 }, { name := "T_BYTE", type := .int, accessFlags := 25, slot := 15, constantValue := 0 }, { name := "T_SHORT", type := .int, accessFlags := 25, slot := 16, constantValue := 0 }, { name := "T_INT", type := .int, accessFlags := 25, slot := 17, constantValue := 0 }, { name := "T_LONG", type := .int, accessFlags := 25, slot := 18, constantValue := 0 }, { name := "JLA", type := (.object "jdk/internal/access/JavaLangAccess"), accessFlags := 26, slot := 19, constantValue := 0 }, { name := "SOFT_MAX_ARRAY_LENGTH", type := .int, accessFlags := 25, slot := 20, constantValue := 0 }]
  methods := #[k16m0]
  instanceTypes := #[]
  staticTypes := #[(.object "jdk/internal/misc/Unsafe"), .boolean, .int, .int, .int, .int, .int, .int, .int, .int, .int, .int, .int, .int, .int, .int, .int, .int, .int, (.object "jdk/internal/access/JavaLangAccess"), .int]
  resolved := Array.replicate 378 none
  statics := none }

def pool17 : Array CpInfo := pool [(1, u "java/lang/Cloneable"), (0, .class_ 1), (0, u "java/lang/Object"), (0, .class_ 3)] 3

/-- java/lang/Cloneable -/
def k17 : Class := { plain "java/lang/Cloneable" (some 0) with
  accessFlags := 1537
  interfaces := #[]
  cf := some (fileOf pool17 2 #[] #[] 1537 4 #[] #[])
  fields := #[]
  methods := #[]
  instanceTypes := #[]
  staticTypes := #[]
  resolved := Array.replicate 8 none
  statics := none }

/-- the primitive byte -/
def k18 : Class := { plain "byte" none with kind := .primitive 'B', accessFlags := 0x411 }
/-- [B -/
def k19 : Class := { plain "[B" (some 0) with kind := .array 18 .byte, interfaces := #[17, 2], accessFlags := 1041 }

/-- the primitive char -/
def k20 : Class := { plain "char" none with kind := .primitive 'C', accessFlags := 0x411 }
/-- [C -/
def k21 : Class := { plain "[C" (some 0) with kind := .array 20 .char, interfaces := #[17, 2], accessFlags := 1041 }

/-- the primitive int -/
def k22 : Class := { plain "int" none with kind := .primitive 'I', accessFlags := 0x411 }
/-- [I -/
def k23 : Class := { plain "[I" (some 0) with kind := .array 22 .int, interfaces := #[17, 2], accessFlags := 1041 }

def heap : Heap := #[{ cls := 7, slots := #[.long 0, .int 1, .null, .int 0, .null, .int 0, .int 0], vm := .statics 7 },
  { cls := 8, slots := #[.int 0, .int 8, .int 0, .int 1], vm := .statics 8 },
  { cls := 14, slots := #[.null, .null, .null], vm := .statics 14 }]
def classes : Array Class := #[k0, k1, k2, k3, k4, k5, k6, k7, k8, k9, k10, k11, k12, k13, k14, k15, k16, k17, k18, k19, k20, k21, k22, k23]
def interned : List (Array UInt16 × Addr) := []
def slotsUsed : Nat := 14
def theMethod : MethodId := ⟨1, 4⟩
def args0 : Array Value := #[.int 65601, .int 4325442, .int 10]
def aboutOver (below : List Frame) : State where
  vm := { classes := classes, interned := interned.toArray }
  heap := heap
  slotsUsed := slotsUsed
  threads := #[{ frames := .invoking theMethod args0 :: below }]
def below0 : List Frame := [.native { method := ⟨0, 0⟩, args := #[] }]
def about1 : State := aboutOver below0
def p0 : Program := .bare "" "" ""
def e0 : Env := launch0.env 0 0 0
theorem w_frames : about1.frames = Frame.invoking theMethod args0 :: below0 := rfl
set_option maxRecDepth 65536 in
theorem w_args : argsFit about1.vm theMethod args0 = true := by decide +kernel
set_option maxRecDepth 65536 in
theorem w_heap : heapFits about1 = true := by decide +kernel
set_option maxRecDepth 65536 in
theorem w_runnable : about1.curStatus? = some .runnable := by decide +kernel
set_option maxRecDepth 65536 in
theorem w_alone : about1.alone = true := by decide +kernel
set_option maxRecDepth 65536 in
theorem w_named : about1.methodNamed? x = some theMethod := by decide +kernel
set_option maxRecDepth 65536 in
theorem w_hears : about1.hears theMethod below0 = true := by decide +kernel
set_option maxRecDepth 65536 in
theorem w_ripe : about1.ripe theMethod args0 below0 = true := by decide +kernel
theorem w_running : about1.status = .running := rfl
set_option maxRecDepth 65536 in
theorem w_room : about1.hasRoom e0.platform room_1 = true :=
  launch0.hasRoom_least _ room_1 (by decide +kernel) (by decide +kernel) (by decide +kernel) (by decide +kernel) (by decide +kernel) (by decide +kernel)
theorem allAtoms_all (ts : List Jvm.Cond) (a : Array Jvm.Value) (st : Jvm.State) : (allAtoms ts).before a st = ts.all (fun c => c.before a st) := by
  induction ts with
  | nil => rfl
  | cons c t ih =>
    show (Jvm.Cond.and c (allAtoms t)).before a st = _
    rw [Jvm.Cond.before_and, ih, List.all_cons]
def words1 : List Jvm.Cond := Jvm.Cond.code x code maxLocals ret :: tables_1
/-- a 'code' word, met by the world's own term for the bytes: nothing is compared byte by byte -/
theorem code_word {y : MethodName} {bytes : ByteArray} {mx : Nat} {rt : Option FieldType} {a : Array Value} {s : State} {m : MethodId} {meth : Method} {c : Code} (h1 : s.methodNamed? y = some m) (h2 : s.vm.method? m = some meth) (h3 : meth.code = some c) (h4 : c.code = bytes)
    (h5 : (c.maxLocals == mx && c.exceptionTable.isEmpty && decide (c.maxStack ≤ mostOperands) && decide (meth.sig.returnType = rt) && !meth.locks && decide (parseMethodDescriptor y.desc = some meth.sig)) = true) : (Jvm.Cond.code y bytes mx rt).before a s = true := by
  simp only [Bool.and_eq_true, beq_iff_eq, Bool.not_eq_true', decide_eq_true_eq] at h5
  obtain ⟨⟨⟨⟨⟨g1, g2⟩, g3⟩, g4⟩, g5⟩, g6⟩ := h5
  simp [Cond.before, Cond.holds, Cond.value, h1, h2, h3, h4, g1, g2, g3, g4, g5, g6]
def isCode : Jvm.Cond → Bool
  | .code _ _ _ _ => true
  | _ => false
theorem all_split {L : List Jvm.Cond} {P : Jvm.Cond → Bool} (h1 : L.all (fun c => isCode c || P c) = true) (h2 : ∀ c ∈ L.filter isCode, P c = true) : L.all P = true := by
  refine List.all_eq_true.mpr fun c hc => ?_
  have h := List.all_eq_true.mp h1 c hc
  rcases Bool.eq_false_or_eq_true (isCode c) with hi | hi
  · exact h2 c (List.mem_filter.mpr ⟨hc, hi⟩)
  · simpa [hi] using h
set_option maxRecDepth 65536 in
theorem w_c0 : (Jvm.Cond.code x code maxLocals ret).before args0 about1 = true := code_word (m := ⟨1, 4⟩) (meth := k1m4) (c := k1c4) (by decide +kernel) rfl rfl rfl (by decide +kernel)
set_option maxRecDepth 65536 in
theorem w_c1 : (Jvm.Cond.code ({ cls := "com/example/callimachus/callimachus/PackageIdCompareUtf8PinLaw", name := "str", desc := "(ICC)Ljava/lang/String;" } : Jvm.MethodName) method_4_code (3 : Nat) (Option.some (Jvm.ClassFile.FieldType.object "java/lang/String"))).before args0 about1 = true := code_word (m := ⟨1, 3⟩) (meth := k1m3) (c := k1c3) (by decide +kernel) rfl rfl rfl (by decide +kernel)
set_option maxRecDepth 65536 in
theorem w_c2 : (Jvm.Cond.code ({ cls := "java/lang/String", name := "<init>", desc := "([C)V" } : Jvm.MethodName) jdk_42_method_3_code (2 : Nat) (Option.none : Option Jvm.ClassFile.FieldType)).before args0 about1 = true := code_word (m := ⟨7, 1⟩) (meth := k7m1) (c := k7c1) (by decide +kernel) rfl rfl rfl (by decide +kernel)
set_option maxRecDepth 65536 in
theorem w_c3 : (Jvm.Cond.code ({ cls := "java/lang/String", name := "<init>", desc := "([CIILjava/lang/Void;)V" } : Jvm.MethodName) jdk_42_method_149_code (6 : Nat) (Option.none : Option Jvm.ClassFile.FieldType)).before args0 about1 = true := code_word (m := ⟨7, 5⟩) (meth := k7m5) (c := k7c5) (by decide +kernel) rfl rfl rfl (by decide +kernel)
set_option maxRecDepth 65536 in
theorem w_c4 : (Jvm.Cond.code ({ cls := "java/lang/Object", name := "<init>", desc := "()V" } : Jvm.MethodName) object_method_1_code (1 : Nat) (Option.none : Option Jvm.ClassFile.FieldType)).before args0 about1 = true := code_word (m := ⟨0, 0⟩) (meth := k0m0) (c := k0c0) (by decide +kernel) rfl rfl rfl (by decide +kernel)
set_option maxRecDepth 65536 in
theorem w_c5 : (Jvm.Cond.code ({ cls := "java/lang/StringUTF16", name := "compress", desc := "([CII)[B" } : Jvm.MethodName) jdk_52_method_16_code (6 : Nat) (Option.some (Jvm.ClassFile.FieldType.array Jvm.ClassFile.FieldType.byte))).before args0 about1 = true := code_word (m := ⟨8, 8⟩) (meth := k8m8) (c := k8c8) (by decide +kernel) rfl rfl rfl (by decide +kernel)
set_option maxRecDepth 65536 in
theorem w_c6 : (Jvm.Cond.code ({ cls := "java/lang/StringUTF16", name := "compress", desc := "([CI[BII)I" } : Jvm.MethodName) jdk_52_method_21_code (7 : Nat) (Option.some Jvm.ClassFile.FieldType.int)).before args0 about1 = true := code_word (m := ⟨8, 9⟩) (meth := k8m9) (c := k8c9) (by decide +kernel) rfl rfl rfl (by decide +kernel)
set_option maxRecDepth 65536 in
theorem w_c7 : (Jvm.Cond.code ({ cls := "java/lang/StringUTF16", name := "coderFromArrayLen", desc := "([BI)B" } : Jvm.MethodName) jdk_52_method_15_code (2 : Nat) (Option.some Jvm.ClassFile.FieldType.byte)).before args0 about1 = true := code_word (m := ⟨8, 7⟩) (meth := k8m7) (c := k8c7) (by decide +kernel) rfl rfl rfl (by decide +kernel)
set_option maxRecDepth 65536 in
theorem w_c8 : (Jvm.Cond.code ({ cls := "com/example/callimachus/callimachus/PackageIdCompareUtf8PinLaw", name := "sgn", desc := "(I)I" } : Jvm.MethodName) method_2_code (1 : Nat) (Option.some Jvm.ClassFile.FieldType.int)).before args0 about1 = true := code_word (m := ⟨1, 1⟩) (meth := k1m1) (c := k1c1) (by decide +kernel) rfl rfl rfl (by decide +kernel)
set_option maxRecDepth 65536 in
theorem w_c9 : (Jvm.Cond.code ({ cls := "com/example/callimachus/callimachus/PackageId", name := "compareUtf8", desc := "(Ljava/lang/String;Ljava/lang/String;)I" } : Jvm.MethodName) prog_22_method_5_code (6 : Nat) (Option.some Jvm.ClassFile.FieldType.int)).before args0 about1 = true := code_word (m := ⟨9, 0⟩) (meth := k9m0) (c := k9c0) (by decide +kernel) rfl rfl rfl (by decide +kernel)
set_option maxRecDepth 65536 in
theorem w_c10 : (Jvm.Cond.code ({ cls := "java/lang/String", name := "length", desc := "()I" } : Jvm.MethodName) jdk_42_method_54_code (1 : Nat) (Option.some Jvm.ClassFile.FieldType.int)).before args0 about1 = true := code_word (m := ⟨7, 2⟩) (meth := k7m2) (c := k7c2) (by decide +kernel) rfl rfl rfl (by decide +kernel)
set_option maxRecDepth 65536 in
theorem w_c11 : (Jvm.Cond.code ({ cls := "java/lang/String", name := "coder", desc := "()B" } : Jvm.MethodName) jdk_42_method_152_code (1 : Nat) (Option.some Jvm.ClassFile.FieldType.byte)).before args0 about1 = true := code_word (m := ⟨7, 7⟩) (meth := k7m7) (c := k7c7) (by decide +kernel) rfl rfl rfl (by decide +kernel)
set_option maxRecDepth 65536 in
theorem w_c12 : (Jvm.Cond.code ({ cls := "java/lang/Math", name := "min", desc := "(II)I" } : Jvm.MethodName) jdk_29_method_69_code (2 : Nat) (Option.some Jvm.ClassFile.FieldType.int)).before args0 about1 = true := code_word (m := ⟨10, 1⟩) (meth := k10m1) (c := k10c1) (by decide +kernel) rfl rfl rfl (by decide +kernel)
set_option maxRecDepth 65536 in
theorem w_c13 : (Jvm.Cond.code ({ cls := "java/lang/Integer", name := "compare", desc := "(II)I" } : Jvm.MethodName) jdk_33_method_40_code (2 : Nat) (Option.some Jvm.ClassFile.FieldType.int)).before args0 about1 = true := code_word (m := ⟨12, 0⟩) (meth := k12m0) (c := k12c0) (by decide +kernel) rfl rfl rfl (by decide +kernel)
set_option maxRecDepth 65536 in
theorem w_c14 : (Jvm.Cond.code ({ cls := "java/lang/String", name := "valueOf", desc := "(C)Ljava/lang/String;" } : Jvm.MethodName) jdk_42_method_139_code (1 : Nat) (Option.some (Jvm.ClassFile.FieldType.object "java/lang/String"))).before args0 about1 = true := code_word (m := ⟨7, 4⟩) (meth := k7m4) (c := k7c4) (by decide +kernel) rfl rfl rfl (by decide +kernel)
set_option maxRecDepth 65536 in
theorem w_c15 : (Jvm.Cond.code ({ cls := "java/lang/StringLatin1", name := "canEncode", desc := "(C)Z" } : Jvm.MethodName) jdk_43_method_3_code (1 : Nat) (Option.some Jvm.ClassFile.FieldType.boolean)).before args0 about1 = true := code_word (m := ⟨13, 2⟩) (meth := k13m2) (c := k13c2) (by decide +kernel) rfl rfl rfl (by decide +kernel)
set_option maxRecDepth 65536 in
theorem w_c16 : (Jvm.Cond.code ({ cls := "java/lang/StringUTF16", name := "toBytes", desc := "(C)[B" } : Jvm.MethodName) jdk_52_method_24_code (2 : Nat) (Option.some (Jvm.ClassFile.FieldType.array Jvm.ClassFile.FieldType.byte))).before args0 about1 = true := code_word (m := ⟨8, 10⟩) (meth := k8m10) (c := k8c10) (by decide +kernel) rfl rfl rfl (by decide +kernel)
set_option maxRecDepth 65536 in
theorem w_c17 : (Jvm.Cond.code ({ cls := "java/lang/StringUTF16", name := "putChar", desc := "([BII)V" } : Jvm.MethodName) jdk_52_method_4_code (3 : Nat) (Option.none : Option Jvm.ClassFile.FieldType)).before args0 about1 = true := code_word (m := ⟨8, 3⟩) (meth := k8m3) (c := k8c3) (by decide +kernel) rfl rfl rfl (by decide +kernel)
set_option maxRecDepth 65536 in
theorem w_c18 : (Jvm.Cond.code ({ cls := "java/lang/String", name := "<init>", desc := "([BB)V" } : Jvm.MethodName) jdk_42_method_151_code (3 : Nat) (Option.none : Option Jvm.ClassFile.FieldType)).before args0 about1 = true := code_word (m := ⟨7, 6⟩) (meth := k7m6) (c := k7c6) (by decide +kernel) rfl rfl rfl (by decide +kernel)
set_option maxRecDepth 65536 in
theorem w_c19 : (Jvm.Cond.code ({ cls := "com/example/callimachus/callimachus/PackageIdCompareUtf8PinLaw", name := "key", desc := "(C)I" } : Jvm.MethodName) method_3_code (2 : Nat) (Option.some Jvm.ClassFile.FieldType.int)).before args0 about1 = true := code_word (m := ⟨1, 2⟩) (meth := k1m2) (c := k1c2) (by decide +kernel) rfl rfl rfl (by decide +kernel)
set_option maxRecDepth 65536 in
theorem w_c20 : (Jvm.Cond.code ({ cls := "java/lang/String", name := "charAt", desc := "(I)C" } : Jvm.MethodName) jdk_42_method_56_code (2 : Nat) (Option.some Jvm.ClassFile.FieldType.char)).before args0 about1 = true := code_word (m := ⟨7, 3⟩) (meth := k7m3) (c := k7c3) (by decide +kernel) rfl rfl rfl (by decide +kernel)
set_option maxRecDepth 65536 in
theorem w_c21 : (Jvm.Cond.code ({ cls := "java/lang/String", name := "isLatin1", desc := "()Z" } : Jvm.MethodName) jdk_42_method_154_code (1 : Nat) (Option.some Jvm.ClassFile.FieldType.boolean)).before args0 about1 = true := code_word (m := ⟨7, 8⟩) (meth := k7m8) (c := k7c8) (by decide +kernel) rfl rfl rfl (by decide +kernel)
set_option maxRecDepth 65536 in
theorem w_c22 : (Jvm.Cond.code ({ cls := "java/lang/StringUTF16", name := "charAt", desc := "([BI)C" } : Jvm.MethodName) jdk_52_method_83_code (2 : Nat) (Option.some Jvm.ClassFile.FieldType.char)).before args0 about1 = true := code_word (m := ⟨8, 11⟩) (meth := k8m11) (c := k8c11) (by decide +kernel) rfl rfl rfl (by decide +kernel)
set_option maxRecDepth 65536 in
theorem w_c23 : (Jvm.Cond.code ({ cls := "java/lang/StringUTF16", name := "checkIndex", desc := "(I[B)V" } : Jvm.MethodName) jdk_52_method_91_code (2 : Nat) (Option.none : Option Jvm.ClassFile.FieldType)).before args0 about1 = true := code_word (m := ⟨8, 12⟩) (meth := k8m12) (c := k8c12) (by decide +kernel) rfl rfl rfl (by decide +kernel)
set_option maxRecDepth 65536 in
theorem w_c24 : (Jvm.Cond.code ({ cls := "java/lang/StringUTF16", name := "length", desc := "([B)I" } : Jvm.MethodName) jdk_52_method_6_code (1 : Nat) (Option.some Jvm.ClassFile.FieldType.int)).before args0 about1 = true := code_word (m := ⟨8, 5⟩) (meth := k8m5) (c := k8c5) (by decide +kernel) rfl rfl rfl (by decide +kernel)
set_option maxRecDepth 65536 in
theorem w_c25 : (Jvm.Cond.code ({ cls := "java/lang/String", name := "checkIndex", desc := "(II)V" } : Jvm.MethodName) jdk_42_method_155_code (2 : Nat) (Option.none : Option Jvm.ClassFile.FieldType)).before args0 about1 = true := code_word (m := ⟨7, 9⟩) (meth := k7m9) (c := k7c9) (by decide +kernel) rfl rfl rfl (by decide +kernel)
set_option maxRecDepth 65536 in
theorem w_c26 : (Jvm.Cond.code ({ cls := "jdk/internal/util/Preconditions", name := "checkIndex", desc := "(IILjava/util/function/BiFunction;)I" } : Jvm.MethodName) jdk_41_method_11_code (3 : Nat) (Option.some Jvm.ClassFile.FieldType.int)).before args0 about1 = true := code_word (m := ⟨14, 1⟩) (meth := k14m1) (c := k14c1) (by decide +kernel) rfl rfl rfl (by decide +kernel)
set_option maxRecDepth 65536 in
theorem w_c27 : (Jvm.Cond.code ({ cls := "java/lang/StringUTF16", name := "getChar", desc := "([BI)C" } : Jvm.MethodName) jdk_52_method_5_code (2 : Nat) (Option.some Jvm.ClassFile.FieldType.char)).before args0 about1 = true := code_word (m := ⟨8, 4⟩) (meth := k8m4) (c := k8c4) (by decide +kernel) rfl rfl rfl (by decide +kernel)
set_option maxRecDepth 65536 in
theorem w_c28 : (Jvm.Cond.code ({ cls := "com/example/callimachus/callimachus/PackageId", name := "inCodePointOrder", desc := "(C)I" } : Jvm.MethodName) prog_22_method_6_code (2 : Nat) (Option.some Jvm.ClassFile.FieldType.int)).before args0 about1 = true := code_word (m := ⟨9, 1⟩) (meth := k9m1) (c := k9c1) (by decide +kernel) rfl rfl rfl (by decide +kernel)
set_option maxRecDepth 65536 in
theorem w_c29 : (Jvm.Cond.code ({ cls := "java/lang/Character", name := "isSurrogate", desc := "(C)Z" } : Jvm.MethodName) jdk_89_method_16_code (1 : Nat) (Option.some Jvm.ClassFile.FieldType.boolean)).before args0 about1 = true := code_word (m := ⟨15, 0⟩) (meth := k15m0) (c := k15c0) (by decide +kernel) rfl rfl rfl (by decide +kernel)
set_option maxRecDepth 65536 in
theorem w_c30 : (Jvm.Cond.code ({ cls := "java/lang/StringLatin1", name := "toBytes", desc := "(C)[B" } : Jvm.MethodName) jdk_43_method_46_code (1 : Nat) (Option.some (Jvm.ClassFile.FieldType.array Jvm.ClassFile.FieldType.byte))).before args0 about1 = true := code_word (m := ⟨13, 3⟩) (meth := k13m3) (c := k13c3) (by decide +kernel) rfl rfl rfl (by decide +kernel)
set_option maxRecDepth 65536 in
theorem w_c31 : (Jvm.Cond.code ({ cls := "java/lang/StringLatin1", name := "charAt", desc := "([BI)C" } : Jvm.MethodName) jdk_43_method_2_code (2 : Nat) (Option.some Jvm.ClassFile.FieldType.char)).before args0 about1 = true := code_word (m := ⟨13, 1⟩) (meth := k13m1) (c := k13c1) (by decide +kernel) rfl rfl rfl (by decide +kernel)
set_option maxRecDepth 65536 in
theorem w_c32 : (Jvm.Cond.code ({ cls := "java/lang/StringUTF16", name := "toBytes", desc := "([CII)[B" } : Jvm.MethodName) jdk_52_method_14_code (5 : Nat) (Option.some (Jvm.ClassFile.FieldType.array Jvm.ClassFile.FieldType.byte))).before args0 about1 = true := code_word (m := ⟨8, 6⟩) (meth := k8m6) (c := k8c6) (by decide +kernel) rfl rfl rfl (by decide +kernel)
set_option maxRecDepth 65536 in
theorem w_c33 : (Jvm.Cond.code ({ cls := "java/lang/StringUTF16", name := "newBytesFor", desc := "(I)[B" } : Jvm.MethodName) jdk_52_method_2_code (1 : Nat) (Option.some (Jvm.ClassFile.FieldType.array Jvm.ClassFile.FieldType.byte))).before args0 about1 = true := code_word (m := ⟨8, 1⟩) (meth := k8m1) (c := k8c1) (by decide +kernel) rfl rfl rfl (by decide +kernel)
set_option maxRecDepth 65536 in
theorem w_c34 : (Jvm.Cond.code ({ cls := "java/lang/StringUTF16", name := "newBytesLength", desc := "(I)I" } : Jvm.MethodName) jdk_52_method_3_code (1 : Nat) (Option.some Jvm.ClassFile.FieldType.int)).before args0 about1 = true := code_word (m := ⟨8, 2⟩) (meth := k8m2) (c := k8c2) (by decide +kernel) rfl rfl rfl (by decide +kernel)
def codes1 : List Jvm.Cond := [Jvm.Cond.code x code maxLocals ret, Jvm.Cond.code ({ cls := "com/example/callimachus/callimachus/PackageIdCompareUtf8PinLaw", name := "str", desc := "(ICC)Ljava/lang/String;" } : Jvm.MethodName) method_4_code (3 : Nat) (Option.some (Jvm.ClassFile.FieldType.object "java/lang/String")), Jvm.Cond.code ({ cls := "java/lang/String", name := "<init>", desc := "([C)V" } : Jvm.MethodName) jdk_42_method_3_code (2 : Nat) (Option.none : Option Jvm.ClassFile.FieldType), Jvm.Cond.code ({ cls := "java/lang/String", name := "<init>", desc := "([CIILjava/lang/Void;)V" } : Jvm.MethodName) jdk_42_method_149_code (6 : Nat) (Option.none : Option Jvm.ClassFile.FieldType), Jvm.Cond.code ({ cls := "java/lang/Object", name := "<init>", desc := "()V" } : Jvm.MethodName) object_method_1_code (1 : Nat) (Option.none : Option Jvm.ClassFile.FieldType), Jvm.Cond.code ({ cls := "java/lang/StringUTF16", name := "compress", desc := "([CII)[B" } : Jvm.MethodName) jdk_52_method_16_code (6 : Nat) (Option.some (Jvm.ClassFile.FieldType.array Jvm.ClassFile.FieldType.byte)), Jvm.Cond.code ({ cls := "java/lang/StringUTF16", name := "compress", desc := "([CI[BII)I" } : Jvm.MethodName) jdk_52_method_21_code (7 : Nat) (Option.some Jvm.ClassFile.FieldType.int), Jvm.Cond.code ({ cls := "java/lang/StringUTF16", name := "coderFromArrayLen", desc := "([BI)B" } : Jvm.MethodName) jdk_52_method_15_code (2 : Nat) (Option.some Jvm.ClassFile.FieldType.byte), Jvm.Cond.code ({ cls := "com/example/callimachus/callimachus/PackageIdCompareUtf8PinLaw", name := "sgn", desc := "(I)I" } : Jvm.MethodName) method_2_code (1 : Nat) (Option.some Jvm.ClassFile.FieldType.int), Jvm.Cond.code ({ cls := "com/example/callimachus/callimachus/PackageId", name := "compareUtf8", desc := "(Ljava/lang/String;Ljava/lang/String;)I" } : Jvm.MethodName) prog_22_method_5_code (6 : Nat) (Option.some Jvm.ClassFile.FieldType.int), Jvm.Cond.code ({ cls := "java/lang/String", name := "length", desc := "()I" } : Jvm.MethodName) jdk_42_method_54_code (1 : Nat) (Option.some Jvm.ClassFile.FieldType.int), Jvm.Cond.code ({ cls := "java/lang/String", name := "coder", desc := "()B" } : Jvm.MethodName) jdk_42_method_152_code (1 : Nat) (Option.some Jvm.ClassFile.FieldType.byte), Jvm.Cond.code ({ cls := "java/lang/Math", name := "min", desc := "(II)I" } : Jvm.MethodName) jdk_29_method_69_code (2 : Nat) (Option.some Jvm.ClassFile.FieldType.int), Jvm.Cond.code ({ cls := "java/lang/Integer", name := "compare", desc := "(II)I" } : Jvm.MethodName) jdk_33_method_40_code (2 : Nat) (Option.some Jvm.ClassFile.FieldType.int), Jvm.Cond.code ({ cls := "java/lang/String", name := "valueOf", desc := "(C)Ljava/lang/String;" } : Jvm.MethodName) jdk_42_method_139_code (1 : Nat) (Option.some (Jvm.ClassFile.FieldType.object "java/lang/String")), Jvm.Cond.code ({ cls := "java/lang/StringLatin1", name := "canEncode", desc := "(C)Z" } : Jvm.MethodName) jdk_43_method_3_code (1 : Nat) (Option.some Jvm.ClassFile.FieldType.boolean), Jvm.Cond.code ({ cls := "java/lang/StringUTF16", name := "toBytes", desc := "(C)[B" } : Jvm.MethodName) jdk_52_method_24_code (2 : Nat) (Option.some (Jvm.ClassFile.FieldType.array Jvm.ClassFile.FieldType.byte)), Jvm.Cond.code ({ cls := "java/lang/StringUTF16", name := "putChar", desc := "([BII)V" } : Jvm.MethodName) jdk_52_method_4_code (3 : Nat) (Option.none : Option Jvm.ClassFile.FieldType), Jvm.Cond.code ({ cls := "java/lang/String", name := "<init>", desc := "([BB)V" } : Jvm.MethodName) jdk_42_method_151_code (3 : Nat) (Option.none : Option Jvm.ClassFile.FieldType), Jvm.Cond.code ({ cls := "com/example/callimachus/callimachus/PackageIdCompareUtf8PinLaw", name := "key", desc := "(C)I" } : Jvm.MethodName) method_3_code (2 : Nat) (Option.some Jvm.ClassFile.FieldType.int), Jvm.Cond.code ({ cls := "java/lang/String", name := "charAt", desc := "(I)C" } : Jvm.MethodName) jdk_42_method_56_code (2 : Nat) (Option.some Jvm.ClassFile.FieldType.char), Jvm.Cond.code ({ cls := "java/lang/String", name := "isLatin1", desc := "()Z" } : Jvm.MethodName) jdk_42_method_154_code (1 : Nat) (Option.some Jvm.ClassFile.FieldType.boolean), Jvm.Cond.code ({ cls := "java/lang/StringUTF16", name := "charAt", desc := "([BI)C" } : Jvm.MethodName) jdk_52_method_83_code (2 : Nat) (Option.some Jvm.ClassFile.FieldType.char), Jvm.Cond.code ({ cls := "java/lang/StringUTF16", name := "checkIndex", desc := "(I[B)V" } : Jvm.MethodName) jdk_52_method_91_code (2 : Nat) (Option.none : Option Jvm.ClassFile.FieldType), Jvm.Cond.code ({ cls := "java/lang/StringUTF16", name := "length", desc := "([B)I" } : Jvm.MethodName) jdk_52_method_6_code (1 : Nat) (Option.some Jvm.ClassFile.FieldType.int), Jvm.Cond.code ({ cls := "java/lang/String", name := "checkIndex", desc := "(II)V" } : Jvm.MethodName) jdk_42_method_155_code (2 : Nat) (Option.none : Option Jvm.ClassFile.FieldType), Jvm.Cond.code ({ cls := "jdk/internal/util/Preconditions", name := "checkIndex", desc := "(IILjava/util/function/BiFunction;)I" } : Jvm.MethodName) jdk_41_method_11_code (3 : Nat) (Option.some Jvm.ClassFile.FieldType.int), Jvm.Cond.code ({ cls := "java/lang/StringUTF16", name := "getChar", desc := "([BI)C" } : Jvm.MethodName) jdk_52_method_5_code (2 : Nat) (Option.some Jvm.ClassFile.FieldType.char), Jvm.Cond.code ({ cls := "com/example/callimachus/callimachus/PackageId", name := "inCodePointOrder", desc := "(C)I" } : Jvm.MethodName) prog_22_method_6_code (2 : Nat) (Option.some Jvm.ClassFile.FieldType.int), Jvm.Cond.code ({ cls := "java/lang/Character", name := "isSurrogate", desc := "(C)Z" } : Jvm.MethodName) jdk_89_method_16_code (1 : Nat) (Option.some Jvm.ClassFile.FieldType.boolean), Jvm.Cond.code ({ cls := "java/lang/StringLatin1", name := "toBytes", desc := "(C)[B" } : Jvm.MethodName) jdk_43_method_46_code (1 : Nat) (Option.some (Jvm.ClassFile.FieldType.array Jvm.ClassFile.FieldType.byte)), Jvm.Cond.code ({ cls := "java/lang/StringLatin1", name := "charAt", desc := "([BI)C" } : Jvm.MethodName) jdk_43_method_2_code (2 : Nat) (Option.some Jvm.ClassFile.FieldType.char), Jvm.Cond.code ({ cls := "java/lang/StringUTF16", name := "toBytes", desc := "([CII)[B" } : Jvm.MethodName) jdk_52_method_14_code (5 : Nat) (Option.some (Jvm.ClassFile.FieldType.array Jvm.ClassFile.FieldType.byte)), Jvm.Cond.code ({ cls := "java/lang/StringUTF16", name := "newBytesFor", desc := "(I)[B" } : Jvm.MethodName) jdk_52_method_2_code (1 : Nat) (Option.some (Jvm.ClassFile.FieldType.array Jvm.ClassFile.FieldType.byte)), Jvm.Cond.code ({ cls := "java/lang/StringUTF16", name := "newBytesLength", desc := "(I)I" } : Jvm.MethodName) jdk_52_method_3_code (1 : Nat) (Option.some Jvm.ClassFile.FieldType.int)]
set_option maxRecDepth 65536 in
theorem codes_eq : words1.filter isCode = codes1 := rfl
theorem w_codes : ∀ c ∈ words1.filter isCode, c.before args0 about1 = true := by
  rw [codes_eq]
  intro c hc
  simp only [codes1, List.mem_cons, List.not_mem_nil, or_false] at hc
  rcases hc with rfl | rfl | rfl | rfl | rfl | rfl | rfl | rfl | rfl | rfl | rfl | rfl | rfl | rfl | rfl | rfl | rfl | rfl | rfl | rfl | rfl | rfl | rfl | rfl | rfl | rfl | rfl | rfl | rfl | rfl | rfl | rfl | rfl | rfl | rfl
  · exact w_c0
  · exact w_c1
  · exact w_c2
  · exact w_c3
  · exact w_c4
  · exact w_c5
  · exact w_c6
  · exact w_c7
  · exact w_c8
  · exact w_c9
  · exact w_c10
  · exact w_c11
  · exact w_c12
  · exact w_c13
  · exact w_c14
  · exact w_c15
  · exact w_c16
  · exact w_c17
  · exact w_c18
  · exact w_c19
  · exact w_c20
  · exact w_c21
  · exact w_c22
  · exact w_c23
  · exact w_c24
  · exact w_c25
  · exact w_c26
  · exact w_c27
  · exact w_c28
  · exact w_c29
  · exact w_c30
  · exact w_c31
  · exact w_c32
  · exact w_c33
  · exact w_c34
set_option maxRecDepth 65536 in
theorem w_t1 : (words1.take 24).all (fun c => isCode c || c.before args0 about1) = true := by decide +kernel
set_option maxRecDepth 65536 in
theorem w_t2 : ((words1.drop 24).take 24).all (fun c => isCode c || c.before args0 about1) = true := by decide +kernel
set_option maxRecDepth 65536 in
theorem w_t3 : (((words1.drop 24).drop 24).take 24).all (fun c => isCode c || c.before args0 about1) = true := by decide +kernel
set_option maxRecDepth 65536 in
theorem w_t4 : ((((words1.drop 24).drop 24).drop 24).take 24).all (fun c => isCode c || c.before args0 about1) = true := by decide +kernel
set_option maxRecDepth 65536 in
theorem w_t5 : (((((words1.drop 24).drop 24).drop 24).drop 24).take 24).all (fun c => isCode c || c.before args0 about1) = true := by decide +kernel
set_option maxRecDepth 65536 in
theorem w_t6 : ((((((words1.drop 24).drop 24).drop 24).drop 24).drop 24).take 24).all (fun c => isCode c || c.before args0 about1) = true := by decide +kernel
set_option maxRecDepth 65536 in
theorem w_t7 : ((((((words1.drop 24).drop 24).drop 24).drop 24).drop 24).drop 24).all (fun c => isCode c || c.before args0 about1) = true := by decide +kernel
theorem w_tables : (allAtoms (Jvm.Cond.code x code maxLocals ret :: tables_1)).before args0 about1 = true := by
  rw [allAtoms_all]
  show words1.all (fun c => c.before args0 about1) = true
  refine all_split ?_ w_codes
  rw [← List.take_append_drop 24 words1, List.all_append, w_t1, ← List.take_append_drop 24 (words1.drop 24), List.all_append, w_t2, ← List.take_append_drop 24 ((words1.drop 24).drop 24), List.all_append, w_t3, ← List.take_append_drop 24 (((words1.drop 24).drop 24).drop 24), List.all_append, w_t4, ← List.take_append_drop 24 ((((words1.drop 24).drop 24).drop 24).drop 24), List.all_append, w_t5, ← List.take_append_drop 24 (((((words1.drop 24).drop 24).drop 24).drop 24).drop 24), List.all_append, w_t6, w_t7]
  rfl
set_option maxRecDepth 65536 in
theorem w_rest : rest_1_c.before args0 about1 = true := by decide +kernel
set_option maxRecDepth 65536 in
theorem w_case : (Jvm.Cond.and given_1 narrow_1).before args0 about1 = true := by decide +kernel
set_option maxRecDepth 65536 in
theorem w_consts : constsHeld consts_1 about1 := Jvm.Lit.constsHeldB_iff.mp (by decide +kernel)
theorem w_applies : (headSpec (Jvm.Cond.code x code maxLocals ret :: tables_1) room_1).applies x e0.platform about1 = true :=
  (Spec.applies_iff w_frames).mpr ⟨w_running, w_runnable, w_alone, w_named, w_hears, w_ripe, w_room, w_tables⟩
theorem atStart : AtStart classFile x code maxLocals ret World_1 tables_1 room_1 Calls_1 rest_1 Pre_1 launch0 p0 e0 about1 theMethod args0 below0 :=
  ⟨lists_1, trivial, launch0.admits_env _ _ _, launch0.least_env, fairChoices_fair.cas, fairChoices_fair.clock, w_frames, w_args, w_heap, w_applies, ⟨w_consts, trivial⟩, w_rest, w_case⟩
end start1
theorem witness_1 : WitnessClaimed_1 := ⟨start1.p0, start1.e0, start1.about1, start1.theMethod, start1.args0, start1.below0, start1.atStart⟩
end Jvm.Pilot.@@N@@
