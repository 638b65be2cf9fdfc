import JvmDerived
import JvmDerived.Pilot.@@N@@Statement
import JvmDerived.Pilot.@@N@@Code
set_option linter.unusedVariables false
set_option linter.unusedSimpArgs false
namespace Jvm.GoKit
open Sem ClassFile Op Lib Jvm.Stand Jvm.Free Jvm.LawKit Jvm.RoadKit
/-! my own layer: a body's run in continuation style, over the library's Stand laws -/
def Val (P : Value → Heap → Prop) (v : Option Value) (h : Heap) : Prop := ∃ w, v = some w ∧ P w h
def Vd (P : Heap → Prop) (v : Option Value) (h : Heap) : Prop := v = none ∧ P h
def PV (w : Value) (h0 : Heap) (w' : Value) (h : Heap) : Prop := w = w' ∧ h0 = h
def Ctx (Z : State) (own : String) (code : ByteArray) (maxL : Nat) (ret : Option FieldType) (nm : String) (p : Program) (s : State) (m : MethodId) (meth : Method) (c : Code) : Prop :=
  p.tables.exec = Jvm.exec ∧ Z.Warmed39 s.vm ∧ s.vm.findClass own = some m.cls ∧ c.code = code ∧ c.maxLocals = maxL ∧ meth.sig.returnType = ret ∧ meth.locks = false ∧ meth.name = nm
def Go (p : Program) (e : Env) (below : List Frame) (s : State) (n0 K N : Nat) (Q : Option Value → Heap → Prop) (S : State) : Prop :=
  ∃ s₂ v L, Steps p.tables e below S s₂ ∧ s₂.status = .running ∧ Ended s₂ below (.returned v) ∧ (Q v s₂.heap ∧ Fr n0 L) ∧ FrameEnd s (.returned v) s₂ L K N
def Run (l : Launch) (Z : State) (n0 : Nat) (own : String) (code : ByteArray) (maxL : Nat) (ret : Option FieldType) (nm : String) (R : Room) (Q : Option Value → Heap → Prop) (pc : Nat) (Ls : Array Slot) (st : List Value) (h : Heap) (k n : Nat) : Prop :=
  ∀ (p : Program) (e : Env) (s : State) (m : MethodId) (args : Array Value) (below : List Frame) (meth : Method) (c : Code) (T : State) (locs : List Loc) (cells slots : Nat),
    Ctx Z own code maxL ret nm p s m meth c → Stand p l e R s m args below meth c T locs cells slots → T.heap = h → Fr n0 locs → cells ≤ k → slots ≤ n →
    Go p e below s n0 R.cells R.slots Q (T.setTop (mkF m pc Ls st))
def Con (l : Launch) (Z : State) (n0 : Nat) (y : MethodName) (bytes : ByteArray) (maxL : Nat) (ret : Option FieldType) (rm : Room) (as : Array Value) (h : Heap) (Q : Option Value → Heap → Prop) : Prop :=
  ∀ ws, MetFree l y (head1 (Cond.code y bytes maxL ret :: ws) rm) (fun a U => a = as ∧ Z.Warmed39 U.vm ∧ U.heap = h) (fun _ _ _ _ _ => True) (fun _ U o U' => ∃ v L, o = .returned v ∧ (Q v U'.heap ∧ Fr n0 L) ∧ FrameEnd U o U' L rm.cells rm.slots)
theorem Con.of_run {l : Launch} {Z : State} {n0 : Nat} {y : MethodName} {bytes : ByteArray} {maxL : Nat} {ret : Option FieldType} {rm : Room} {as : Array Value} {h : Heap} {Q : Option Value → Heap → Prop} {Ls : Array Slot}
    (hp : plainFor y = true) (he : ∀ m, entryFrame m as maxL = mkF m 0 Ls []) (run : Run l Z n0 y.cls bytes maxL ret y.name rm Q 0 Ls [] h 0 0) : Con l Z n0 y bytes maxL ret rm as h Q := by
  intro ws
  refine MetFree.of_bodySF hp hisR ?_
  intro p e s m args below meth c s₁ Bd hml0 hP hK
  obtain ⟨rfl, hZ, hh⟩ := hP
  obtain ⟨s₂, v, L, h1, h2, h3, h4, h5⟩ := run p e s m _ below meth c s₁ [] 0 0 ⟨Bd.exec, hZ, findClass_of_methodNamed Bd.named, Bd.bytes, hml0, Bd.returns, Bd.notSynchronized, (name_of_methodNamed Bd.named Bd.method).1⟩ (Stand.of_body Bd) (by rw [← hh, Bd.state]; rfl) (Fr.nil _) (Nat.zero_le _) (Nat.zero_le _)
  exact ⟨s₂, _, castTop (he m) h1, h2, h3, v, L, rfl, h4, h5⟩
theorem Con.mono {l : Launch} {Z : State} {n0 : Nat} {y : MethodName} {bytes : ByteArray} {maxL : Nat} {ret : Option FieldType} {rm : Room} {as : Array Value} {h : Heap} {Q Q' : Option Value → Heap → Prop}
    (H : Con l Z n0 y bytes maxL ret rm as h Q) (q : ∀ v h', Q v h' → Q' v h') : Con l Z n0 y bytes maxL ret rm as h Q' := by
  intro ws p e ha hc hk s m args below hf happ hP hK
  obtain ⟨n, o, h1, h2, h3, v, L, h4, h5, h6⟩ := H ws p e ha hc hk s m args below hf happ hP hK
  exact ⟨n, o, h1, h2, h3, v, L, h4, ⟨q _ _ h5.1, h5.2⟩, h6⟩
section Walk
variable {l : Launch} {Z : State} {n0 : Nat} {own : String} {code : ByteArray} {maxL : Nat} {ret : Option FieldType} {nm : String} {R : Room} {Q : Option Value → Heap → Prop} {pc pc' : Nat} {Ls : Array Slot} {st : List Value} {h : Heap} {k n k' n' : Nat}
theorem Run.via {Ls' : Array Slot} {st' : List Value} (f : ∀ (p : Program) (e : Env) (s : State) (m : MethodId) (args : Array Value) (below : List Frame) (meth : Method) (c : Code) (T : State) (locs : List Loc) (cells slots : Nat),
      Ctx Z own code maxL ret nm p s m meth c → Stand p l e R s m args below meth c T locs cells slots → T.heap = h → ∃ T', Stand p l e R s m args below meth c T' locs cells slots ∧ T'.heap = h ∧ ∀ t, Steps p.tables e below (T'.setTop (mkF m pc' Ls' st')) t → Steps p.tables e below (T.setTop (mkF m pc Ls st)) t)
    (nxt : Run l Z n0 own code maxL ret nm R Q pc' Ls' st' h k n) : Run l Z n0 own code maxL ret nm R Q pc Ls st h k n := by
  intro p e s m args below meth c T locs cells slots hC X eT hF hk hn
  obtain ⟨T', X', e', stp⟩ := f p e s m args below meth c T locs cells slots hC X eT
  obtain ⟨s₂, v, L, g1, g2⟩ := nxt p e s m args below meth c T' locs cells slots hC X' e' hF hk hn
  exact ⟨s₂, v, L, stp _ g1, g2⟩
theorem Run.stp {Ls' : Array Slot} {st' : List Value} (f : ∀ (p : Program) (e : Env) (below : List Frame) (T : State) (m : MethodId) (c : Code) (t : State), At T m c below → p.tables.exec = Jvm.exec → c.code = code → Steps p.tables e below (T.setTop (mkF m pc' Ls' st')) t → Steps p.tables e below (T.setTop (mkF m pc Ls st)) t)
    (nxt : Run l Z n0 own code maxL ret nm R Q pc' Ls' st' h k n) : Run l Z n0 own code maxL ret nm R Q pc Ls st h k n :=
  Run.via (fun p e s m args below meth c T locs cells slots hC X eT => ⟨T, X, eT, fun t q => f p e below T m c t X.here hC.1 hC.2.2.2.1 q⟩) nxt
theorem Run.more {ka na : Nat} (nxt : Run l Z n0 own code maxL ret nm R Q pc Ls st h k n) (h1 : ka ≤ k) (h2 : na ≤ n) : Run l Z n0 own code maxL ret nm R Q pc Ls st h ka na :=
  fun p e s m args below meth c T locs cells slots hC X eT hF hk hn => nxt p e s m args below meth c T locs cells slots hC X eT hF (Nat.le_trans hk h1) (Nat.le_trans hn h2)

theorem Run.iloadN {x : Fin 4} {v : Int32} (hd : decode code pc = .ok (.iload_n x, 1)) (hl : Ls[x.val]? = some (.val (.int v))) (hp : pc + 1 = pc') (nxt : Run l Z n0 own code maxL ret nm R Q pc' Ls (.int v :: st) h k n) : Run l Z n0 own code maxL ret nm R Q pc Ls st h k n := by
  subst hp
  exact Run.stp (fun p e below T m c t hA hx hc q => XS.iloadN hA hx rfl (hb hc hd) hl q) nxt
theorem Run.iload {x : Nat} {v : Int32} (hd : decode code pc = .ok (.iload x, 2)) (hl : Ls[x]? = some (.val (.int v))) (hp : pc + 2 = pc') (nxt : Run l Z n0 own code maxL ret nm R Q pc' Ls (.int v :: st) h k n) : Run l Z n0 own code maxL ret nm R Q pc Ls st h k n := by
  subst hp
  exact Run.stp (fun p e below T m c t hA hx hc q => XS.iload hA hx rfl (hb hc hd) hl q) nxt
theorem Run.lloadN {x : Fin 4} {v : Int64} (hd : decode code pc = .ok (.lload_n x, 1)) (hl : Ls[x.val]? = some (.val (.long v))) (hp : pc + 1 = pc') (nxt : Run l Z n0 own code maxL ret nm R Q pc' Ls (.long v :: st) h k n) : Run l Z n0 own code maxL ret nm R Q pc Ls st h k n := by
  subst hp
  exact Run.stp (fun p e below T m c t hA hx hc q => XT.lloadN hA hx rfl (hb hc hd) hl q) nxt
theorem Run.lload {x : Nat} {v : Int64} (hd : decode code pc = .ok (.lload x, 2)) (hl : Ls[x]? = some (.val (.long v))) (hp : pc + 2 = pc') (nxt : Run l Z n0 own code maxL ret nm R Q pc' Ls (.long v :: st) h k n) : Run l Z n0 own code maxL ret nm R Q pc Ls st h k n := by
  subst hp
  exact Run.stp (fun p e below T m c t hA hx hc q => XT.lload hA hx rfl (hb hc hd) hl q) nxt
theorem Run.aloadN {x : Fin 4} {v : Value} (hd : decode code pc = .ok (.aload_n x, 1)) (hl : Ls[x.val]? = some (.val v)) (hv : v.isRef = true) (hp : pc + 1 = pc') (nxt : Run l Z n0 own code maxL ret nm R Q pc' Ls (v :: st) h k n) : Run l Z n0 own code maxL ret nm R Q pc Ls st h k n := by
  subst hp
  exact Run.stp (fun p e below T m c t hA hx hc q => XS.aloadN hA hx rfl (hb hc hd) hl hv q) nxt
theorem Run.aload {x : Nat} {v : Value} (hd : decode code pc = .ok (.aload x, 2)) (hl : Ls[x]? = some (.val v)) (hv : v.isRef = true) (hp : pc + 2 = pc') (nxt : Run l Z n0 own code maxL ret nm R Q pc' Ls (v :: st) h k n) : Run l Z n0 own code maxL ret nm R Q pc Ls st h k n := by
  subst hp
  exact Run.stp (fun p e below T m c t hA hx hc q => XS.aload hA hx rfl (hb hc hd) hl hv q) nxt
theorem Run.iconst {i : Int} (v : Int32) (hd : decode code pc = .ok (.iconst i, 1)) (hv : Int32.ofInt i = v) (hp : pc + 1 = pc') (nxt : Run l Z n0 own code maxL ret nm R Q pc' Ls (.int v :: st) h k n) : Run l Z n0 own code maxL ret nm R Q pc Ls st h k n := by
  subst hp
  exact Run.stp (fun p e below T m c t hA hx hc q => XT.iconstV hA hx rfl v (hb hc hd) hv q) nxt
theorem Run.bipush {i : Int} (v : Int32) (hd : decode code pc = .ok (.bipush i, 2)) (hv : (Int8.ofInt i).toInt32 = v) (hp : pc + 2 = pc') (nxt : Run l Z n0 own code maxL ret nm R Q pc' Ls (.int v :: st) h k n) : Run l Z n0 own code maxL ret nm R Q pc Ls st h k n := by
  subst hp
  exact Run.stp (fun p e below T m c t hA hx hc q => XT.bipushV hA hx rfl v (hb hc hd) hv q) nxt
theorem Run.sipush {i : Int} (v : Int32) (hd : decode code pc = .ok (.sipush i, 3)) (hv : (Int16.ofInt i).toInt32 = v) (hp : pc + 3 = pc') (nxt : Run l Z n0 own code maxL ret nm R Q pc' Ls (.int v :: st) h k n) : Run l Z n0 own code maxL ret nm R Q pc Ls st h k n := by
  subst hp
  exact Run.stp (fun p e below T m c t hA hx hc q => XT.sipushV hA hx rfl v (hb hc hd) hv q) nxt
theorem Run.lconst {i : Fin 2} (v : Int64) (hd : decode code pc = .ok (.lconst i, 1)) (hv : Int64.ofNat i = v) (hp : pc + 1 = pc') (nxt : Run l Z n0 own code maxL ret nm R Q pc' Ls (.long v :: st) h k n) : Run l Z n0 own code maxL ret nm R Q pc Ls st h k n := by
  subst hp
  exact Run.stp (fun p e below T m c t hA hx hc q => XT.lconstV hA hx rfl v (hb hc hd) hv q) nxt
theorem Run.aconst  (hd : decode code pc = .ok (.aconst_null, 1))  (hp : pc + 1 = pc') (nxt : Run l Z n0 own code maxL ret nm R Q pc' Ls (.null :: st) h k n) : Run l Z n0 own code maxL ret nm R Q pc Ls st h k n := by
  subst hp
  exact Run.stp (fun p e below T m c t hA hx hc q => XS.aconstNull hA hx rfl (hb hc hd) q) nxt
theorem Run.istoreN {x : Fin 4} {v : Int32} (l' : Array Slot) (hd : decode code pc = .ok (.istore_n x, 1)) (hl : storeLocals Ls x.val (.int v) = some l') (hp : pc + 1 = pc') (nxt : Run l Z n0 own code maxL ret nm R Q pc' l' st h k n) : Run l Z n0 own code maxL ret nm R Q pc Ls (.int v :: st) h k n := by
  subst hp
  exact Run.stp (fun p e below T m c t hA hx hc q => XS.istoreN hA hx rfl (hb hc hd) rfl hl q) nxt
theorem Run.istore {x : Nat} {v : Int32} (l' : Array Slot) (hd : decode code pc = .ok (.istore x, 2)) (hl : storeLocals Ls x (.int v) = some l') (hp : pc + 2 = pc') (nxt : Run l Z n0 own code maxL ret nm R Q pc' l' st h k n) : Run l Z n0 own code maxL ret nm R Q pc Ls (.int v :: st) h k n := by
  subst hp
  exact Run.stp (fun p e below T m c t hA hx hc q => XS.istore hA hx rfl (hb hc hd) rfl hl q) nxt
theorem Run.lstoreN {x : Fin 4} {v : Int64} (l' : Array Slot) (hd : decode code pc = .ok (.lstore_n x, 1)) (hl : storeLocals Ls x.val (.long v) = some l') (hp : pc + 1 = pc') (nxt : Run l Z n0 own code maxL ret nm R Q pc' l' st h k n) : Run l Z n0 own code maxL ret nm R Q pc Ls (.long v :: st) h k n := by
  subst hp
  exact Run.stp (fun p e below T m c t hA hx hc q => XT.lstoreN hA hx rfl (hb hc hd) rfl hl q) nxt
theorem Run.lstore {x : Nat} {v : Int64} (l' : Array Slot) (hd : decode code pc = .ok (.lstore x, 2)) (hl : storeLocals Ls x (.long v) = some l') (hp : pc + 2 = pc') (nxt : Run l Z n0 own code maxL ret nm R Q pc' l' st h k n) : Run l Z n0 own code maxL ret nm R Q pc Ls (.long v :: st) h k n := by
  subst hp
  exact Run.stp (fun p e below T m c t hA hx hc q => XT.lstore hA hx rfl (hb hc hd) rfl hl q) nxt
theorem Run.astoreN {x : Fin 4} {v : Value} (l' : Array Slot) (hd : decode code pc = .ok (.astore_n x, 1)) (hv : v.isRef = true) (hl : storeLocals Ls x.val v = some l') (hp : pc + 1 = pc') (nxt : Run l Z n0 own code maxL ret nm R Q pc' l' st h k n) : Run l Z n0 own code maxL ret nm R Q pc Ls (v :: st) h k n := by
  subst hp
  exact Run.stp (fun p e below T m c t hA hx hc q => XS.astoreN hA hx rfl (hb hc hd) rfl hv hl q) nxt
theorem Run.astore {x : Nat} {v : Value} (l' : Array Slot) (hd : decode code pc = .ok (.astore x, 2)) (hv : v.isRef = true) (hl : storeLocals Ls x v = some l') (hp : pc + 2 = pc') (nxt : Run l Z n0 own code maxL ret nm R Q pc' l' st h k n) : Run l Z n0 own code maxL ret nm R Q pc Ls (v :: st) h k n := by
  subst hp
  exact Run.stp (fun p e below T m c t hA hx hc q => XS.astore hA hx rfl (hb hc hd) rfl hv hl q) nxt
theorem Run.iinc {x : Nat} {i : Int} {u : Int32} (v : Int32) (l' : Array Slot) (hd : decode code pc = .ok (.iinc x i, 3)) (hv : Int32.ofInt i = v) (hg : Ls[x]? = some (.val (.int u))) (hl : storeLocals Ls x (.int (u + v)) = some l') (hp : pc + 3 = pc') (nxt : Run l Z n0 own code maxL ret nm R Q pc' l' st h k n) : Run l Z n0 own code maxL ret nm R Q pc Ls st h k n := by
  subst hp
  exact Run.stp (fun p e below T m c t hA hx hc q => XT.iincV hA hx rfl v (hb hc hd) hv hg hl q) nxt
theorem Run.iadd {x y : Int32} (hd : decode code pc = .ok (.iadd, 1))  (hp : pc + 1 = pc') (nxt : Run l Z n0 own code maxL ret nm R Q pc' Ls (.int (x + y) :: st) h k n) : Run l Z n0 own code maxL ret nm R Q pc Ls (.int y :: .int x :: st) h k n := by
  subst hp
  exact Run.stp (fun p e below T m c t hA hx hc q => XS.iadd hA hx rfl (hb hc hd) rfl q) nxt
theorem Run.isub {x y : Int32} (hd : decode code pc = .ok (.isub, 1))  (hp : pc + 1 = pc') (nxt : Run l Z n0 own code maxL ret nm R Q pc' Ls (.int (x - y) :: st) h k n) : Run l Z n0 own code maxL ret nm R Q pc Ls (.int y :: .int x :: st) h k n := by
  subst hp
  exact Run.stp (fun p e below T m c t hA hx hc q => XS.isub hA hx rfl (hb hc hd) rfl q) nxt
theorem Run.imul {x y : Int32} (hd : decode code pc = .ok (.imul, 1))  (hp : pc + 1 = pc') (nxt : Run l Z n0 own code maxL ret nm R Q pc' Ls (.int (x * y) :: st) h k n) : Run l Z n0 own code maxL ret nm R Q pc Ls (.int y :: .int x :: st) h k n := by
  subst hp
  exact Run.stp (fun p e below T m c t hA hx hc q => XS.imul hA hx rfl (hb hc hd) rfl q) nxt
theorem Run.iand {x y : Int32} (hd : decode code pc = .ok (.iand, 1))  (hp : pc + 1 = pc') (nxt : Run l Z n0 own code maxL ret nm R Q pc' Ls (.int (x &&& y) :: st) h k n) : Run l Z n0 own code maxL ret nm R Q pc Ls (.int y :: .int x :: st) h k n := by
  subst hp
  exact Run.stp (fun p e below T m c t hA hx hc q => XS.iand hA hx rfl (hb hc hd) rfl q) nxt
theorem Run.ior {x y : Int32} (hd : decode code pc = .ok (.ior, 1))  (hp : pc + 1 = pc') (nxt : Run l Z n0 own code maxL ret nm R Q pc' Ls (.int (x ||| y) :: st) h k n) : Run l Z n0 own code maxL ret nm R Q pc Ls (.int y :: .int x :: st) h k n := by
  subst hp
  exact Run.stp (fun p e below T m c t hA hx hc q => XT.ior hA hx rfl (hb hc hd) rfl q) nxt
theorem Run.ixor {x y : Int32} (hd : decode code pc = .ok (.ixor, 1))  (hp : pc + 1 = pc') (nxt : Run l Z n0 own code maxL ret nm R Q pc' Ls (.int (x ^^^ y) :: st) h k n) : Run l Z n0 own code maxL ret nm R Q pc Ls (.int y :: .int x :: st) h k n := by
  subst hp
  exact Run.stp (fun p e below T m c t hA hx hc q => XT.ixor hA hx rfl (hb hc hd) rfl q) nxt
theorem Run.ishl {x y : Int32} (hd : decode code pc = .ok (.ishl, 1))  (hp : pc + 1 = pc') (nxt : Run l Z n0 own code maxL ret nm R Q pc' Ls (.int (x <<< (y &&& 31)) :: st) h k n) : Run l Z n0 own code maxL ret nm R Q pc Ls (.int y :: .int x :: st) h k n := by
  subst hp
  exact Run.stp (fun p e below T m c t hA hx hc q => XT.ishl hA hx rfl (hb hc hd) rfl q) nxt
theorem Run.ishr {x y : Int32} (hd : decode code pc = .ok (.ishr, 1))  (hp : pc + 1 = pc') (nxt : Run l Z n0 own code maxL ret nm R Q pc' Ls (.int (x >>> (y &&& 31)) :: st) h k n) : Run l Z n0 own code maxL ret nm R Q pc Ls (.int y :: .int x :: st) h k n := by
  subst hp
  exact Run.stp (fun p e below T m c t hA hx hc q => XT.ishr hA hx rfl (hb hc hd) rfl q) nxt
theorem Run.iushr {x y : Int32} (hd : decode code pc = .ok (.iushr, 1))  (hp : pc + 1 = pc') (nxt : Run l Z n0 own code maxL ret nm R Q pc' Ls (.int (XT.ushr x y) :: st) h k n) : Run l Z n0 own code maxL ret nm R Q pc Ls (.int y :: .int x :: st) h k n := by
  subst hp
  exact Run.stp (fun p e below T m c t hA hx hc q => XT.iushr hA hx rfl (hb hc hd) rfl q) nxt
theorem Run.ladd {x y : Int64} (hd : decode code pc = .ok (.ladd, 1))  (hp : pc + 1 = pc') (nxt : Run l Z n0 own code maxL ret nm R Q pc' Ls (.long (x + y) :: st) h k n) : Run l Z n0 own code maxL ret nm R Q pc Ls (.long y :: .long x :: st) h k n := by
  subst hp
  exact Run.stp (fun p e below T m c t hA hx hc q => XT.ladd hA hx rfl (hb hc hd) rfl q) nxt
theorem Run.lsub {x y : Int64} (hd : decode code pc = .ok (.lsub, 1))  (hp : pc + 1 = pc') (nxt : Run l Z n0 own code maxL ret nm R Q pc' Ls (.long (x - y) :: st) h k n) : Run l Z n0 own code maxL ret nm R Q pc Ls (.long y :: .long x :: st) h k n := by
  subst hp
  exact Run.stp (fun p e below T m c t hA hx hc q => XT.lsub hA hx rfl (hb hc hd) rfl q) nxt
theorem Run.lmul {x y : Int64} (hd : decode code pc = .ok (.lmul, 1))  (hp : pc + 1 = pc') (nxt : Run l Z n0 own code maxL ret nm R Q pc' Ls (.long (x * y) :: st) h k n) : Run l Z n0 own code maxL ret nm R Q pc Ls (.long y :: .long x :: st) h k n := by
  subst hp
  exact Run.stp (fun p e below T m c t hA hx hc q => XT.lmul hA hx rfl (hb hc hd) rfl q) nxt
theorem Run.land {x y : Int64} (hd : decode code pc = .ok (.land, 1))  (hp : pc + 1 = pc') (nxt : Run l Z n0 own code maxL ret nm R Q pc' Ls (.long (x &&& y) :: st) h k n) : Run l Z n0 own code maxL ret nm R Q pc Ls (.long y :: .long x :: st) h k n := by
  subst hp
  exact Run.stp (fun p e below T m c t hA hx hc q => XT.land hA hx rfl (hb hc hd) rfl q) nxt
theorem Run.lor {x y : Int64} (hd : decode code pc = .ok (.lor, 1))  (hp : pc + 1 = pc') (nxt : Run l Z n0 own code maxL ret nm R Q pc' Ls (.long (x ||| y) :: st) h k n) : Run l Z n0 own code maxL ret nm R Q pc Ls (.long y :: .long x :: st) h k n := by
  subst hp
  exact Run.stp (fun p e below T m c t hA hx hc q => XT.lor hA hx rfl (hb hc hd) rfl q) nxt
theorem Run.lxor {x y : Int64} (hd : decode code pc = .ok (.lxor, 1))  (hp : pc + 1 = pc') (nxt : Run l Z n0 own code maxL ret nm R Q pc' Ls (.long (x ^^^ y) :: st) h k n) : Run l Z n0 own code maxL ret nm R Q pc Ls (.long y :: .long x :: st) h k n := by
  subst hp
  exact Run.stp (fun p e below T m c t hA hx hc q => XT.lxor hA hx rfl (hb hc hd) rfl q) nxt
theorem Run.idiv {x y : Int32} (hd : decode code pc = .ok (.idiv, 1)) (hy : y ≠ 0) (hp : pc + 1 = pc') (nxt : Run l Z n0 own code maxL ret nm R Q pc' Ls (.int (x / y) :: st) h k n) : Run l Z n0 own code maxL ret nm R Q pc Ls (.int y :: .int x :: st) h k n := by
  subst hp
  exact Run.stp (fun p e below T m c t hA hx hc q => XS.idiv hA hx rfl (hb hc hd) rfl hy q) nxt
theorem Run.irem {x y : Int32} (hd : decode code pc = .ok (.irem, 1)) (hy : y ≠ 0) (hp : pc + 1 = pc') (nxt : Run l Z n0 own code maxL ret nm R Q pc' Ls (.int (x % y) :: st) h k n) : Run l Z n0 own code maxL ret nm R Q pc Ls (.int y :: .int x :: st) h k n := by
  subst hp
  exact Run.stp (fun p e below T m c t hA hx hc q => XS.irem hA hx rfl (hb hc hd) rfl hy (by rw [irem_eq_mod]; exact q)) nxt
theorem Run.ldiv {x y : Int64} (hd : decode code pc = .ok (.ldiv, 1)) (hy : y ≠ 0) (hp : pc + 1 = pc') (nxt : Run l Z n0 own code maxL ret nm R Q pc' Ls (.long (x / y) :: st) h k n) : Run l Z n0 own code maxL ret nm R Q pc Ls (.long y :: .long x :: st) h k n := by
  subst hp
  exact Run.stp (fun p e below T m c t hA hx hc q => XT.ldiv hA hx rfl (hb hc hd) rfl hy q) nxt
theorem Run.lrem {x y : Int64} (hd : decode code pc = .ok (.lrem, 1)) (hy : y ≠ 0) (hp : pc + 1 = pc') (nxt : Run l Z n0 own code maxL ret nm R Q pc' Ls (.long (x % y) :: st) h k n) : Run l Z n0 own code maxL ret nm R Q pc Ls (.long y :: .long x :: st) h k n := by
  subst hp
  exact Run.stp (fun p e below T m c t hA hx hc q => XT.lrem hA hx rfl (hb hc hd) rfl hy (by rw [lrem_mod]; exact q)) nxt
theorem Run.ineg {x : Int32} (hd : decode code pc = .ok (.ineg, 1))  (hp : pc + 1 = pc') (nxt : Run l Z n0 own code maxL ret nm R Q pc' Ls (.int (-x) :: st) h k n) : Run l Z n0 own code maxL ret nm R Q pc Ls (.int x :: st) h k n := by
  subst hp
  exact Run.stp (fun p e below T m c t hA hx hc q => XS.ineg hA hx rfl (hb hc hd) rfl q) nxt
theorem Run.lneg {x : Int64} (hd : decode code pc = .ok (.lneg, 1))  (hp : pc + 1 = pc') (nxt : Run l Z n0 own code maxL ret nm R Q pc' Ls (.long (-x) :: st) h k n) : Run l Z n0 own code maxL ret nm R Q pc Ls (.long x :: st) h k n := by
  subst hp
  exact Run.stp (fun p e below T m c t hA hx hc q => XT.lneg hA hx rfl (hb hc hd) rfl q) nxt
theorem Run.i2l {x : Int32} (hd : decode code pc = .ok (.i2l, 1))  (hp : pc + 1 = pc') (nxt : Run l Z n0 own code maxL ret nm R Q pc' Ls (.long x.toInt64 :: st) h k n) : Run l Z n0 own code maxL ret nm R Q pc Ls (.int x :: st) h k n := by
  subst hp
  exact Run.stp (fun p e below T m c t hA hx hc q => XT.i2l hA hx rfl (hb hc hd) rfl q) nxt
theorem Run.l2i {x : Int64} (hd : decode code pc = .ok (.l2i, 1))  (hp : pc + 1 = pc') (nxt : Run l Z n0 own code maxL ret nm R Q pc' Ls (.int x.toInt32 :: st) h k n) : Run l Z n0 own code maxL ret nm R Q pc Ls (.long x :: st) h k n := by
  subst hp
  exact Run.stp (fun p e below T m c t hA hx hc q => XT.l2i hA hx rfl (hb hc hd) rfl q) nxt
theorem Run.i2b {x : Int32} (hd : decode code pc = .ok (.i2b, 1))  (hp : pc + 1 = pc') (nxt : Run l Z n0 own code maxL ret nm R Q pc' Ls (.int (nar .byte x) :: st) h k n) : Run l Z n0 own code maxL ret nm R Q pc Ls (.int x :: st) h k n := by
  subst hp
  exact Run.stp (fun p e below T m c t hA hx hc q => XT.i2b hA hx rfl (hb hc hd) rfl q) nxt
theorem Run.i2c {x : Int32} (hd : decode code pc = .ok (.i2c, 1))  (hp : pc + 1 = pc') (nxt : Run l Z n0 own code maxL ret nm R Q pc' Ls (.int (nar .char x) :: st) h k n) : Run l Z n0 own code maxL ret nm R Q pc Ls (.int x :: st) h k n := by
  subst hp
  exact Run.stp (fun p e below T m c t hA hx hc q => XT.i2c hA hx rfl (hb hc hd) rfl q) nxt
theorem Run.i2s {x : Int32} (hd : decode code pc = .ok (.i2s, 1))  (hp : pc + 1 = pc') (nxt : Run l Z n0 own code maxL ret nm R Q pc' Ls (.int (nar .short x) :: st) h k n) : Run l Z n0 own code maxL ret nm R Q pc Ls (.int x :: st) h k n := by
  subst hp
  exact Run.stp (fun p e below T m c t hA hx hc q => XT.i2s hA hx rfl (hb hc hd) rfl q) nxt
theorem Run.lshl {x : Int64} {y : Int32} (hd : decode code pc = .ok (.lshl, 1))  (hp : pc + 1 = pc') (nxt : Run l Z n0 own code maxL ret nm R Q pc' Ls (.long (x <<< (y.toInt64 &&& 63)) :: st) h k n) : Run l Z n0 own code maxL ret nm R Q pc Ls (.int y :: .long x :: st) h k n := by
  subst hp
  exact Run.stp (fun p e below T m c t hA hx hc q => XT.lshl hA hx rfl (hb hc hd) rfl q) nxt
theorem Run.lshr {x : Int64} {y : Int32} (hd : decode code pc = .ok (.lshr, 1))  (hp : pc + 1 = pc') (nxt : Run l Z n0 own code maxL ret nm R Q pc' Ls (.long (x >>> (y.toInt64 &&& 63)) :: st) h k n) : Run l Z n0 own code maxL ret nm R Q pc Ls (.int y :: .long x :: st) h k n := by
  subst hp
  exact Run.stp (fun p e below T m c t hA hx hc q => XT.lshr hA hx rfl (hb hc hd) rfl q) nxt
theorem Run.lushr {x : Int64} {y : Int32} (hd : decode code pc = .ok (.lushr, 1))  (hp : pc + 1 = pc') (nxt : Run l Z n0 own code maxL ret nm R Q pc' Ls (.long (XT.ushrL x y) :: st) h k n) : Run l Z n0 own code maxL ret nm R Q pc Ls (.int y :: .long x :: st) h k n := by
  subst hp
  exact Run.stp (fun p e below T m c t hA hx hc q => XT.lushr hA hx rfl (hb hc hd) rfl q) nxt
theorem Run.lcmp {x y : Int64} (hd : decode code pc = .ok (.lcmp, 1))  (hp : pc + 1 = pc') (nxt : Run l Z n0 own code maxL ret nm R Q pc' Ls (.int (XT.cmpL x y) :: st) h k n) : Run l Z n0 own code maxL ret nm R Q pc Ls (.long y :: .long x :: st) h k n := by
  subst hp
  exact Run.stp (fun p e below T m c t hA hx hc q => XT.lcmp hA hx rfl (hb hc hd) rfl q) nxt
theorem Run.dup {x : Value} (hd : decode code pc = .ok (.dup, 1)) (hv : x.category = 1) (hp : pc + 1 = pc') (nxt : Run l Z n0 own code maxL ret nm R Q pc' Ls (x :: x :: st) h k n) : Run l Z n0 own code maxL ret nm R Q pc Ls (x :: st) h k n := by
  subst hp
  exact Run.stp (fun p e below T m c t hA hx hc q => XS.dup hA hx rfl (hb hc hd) rfl hv q) nxt
theorem Run.pop {x : Value} (hd : decode code pc = .ok (.pop, 1)) (hv : x.category = 1) (hp : pc + 1 = pc') (nxt : Run l Z n0 own code maxL ret nm R Q pc' Ls st h k n) : Run l Z n0 own code maxL ret nm R Q pc Ls (x :: st) h k n := by
  subst hp
  exact Run.stp (fun p e below T m c t hA hx hc q => XT.pop hA hx rfl (hb hc hd) rfl hv q) nxt
theorem Run.dupX1 {x y : Value} (hd : decode code pc = .ok (.dup_x1, 1)) (hv : x.category = 1) (hv' : y.category = 1) (hp : pc + 1 = pc') (nxt : Run l Z n0 own code maxL ret nm R Q pc' Ls (x :: y :: x :: st) h k n) : Run l Z n0 own code maxL ret nm R Q pc Ls (x :: y :: st) h k n := by
  subst hp
  exact Run.stp (fun p e below T m c t hA hx hc q => XT.dupX1 hA hx rfl (hb hc hd) rfl hv hv' q) nxt
theorem Run.dup2 {x y : Value} (hd : decode code pc = .ok (.dup2, 1)) (hv : x.category = 1) (hv' : y.category = 1) (hp : pc + 1 = pc') (nxt : Run l Z n0 own code maxL ret nm R Q pc' Ls (x :: y :: x :: y :: st) h k n) : Run l Z n0 own code maxL ret nm R Q pc Ls (x :: y :: st) h k n := by
  subst hp
  exact Run.stp (fun p e below T m c t hA hx hc q => XT.dup2 hA hx rfl (hb hc hd) rfl hv hv' q) nxt
theorem Run.dup2L {x : Int64} (hd : decode code pc = .ok (.dup2, 1))  (hp : pc + 1 = pc') (nxt : Run l Z n0 own code maxL ret nm R Q pc' Ls (.long x :: .long x :: st) h k n) : Run l Z n0 own code maxL ret nm R Q pc Ls (.long x :: st) h k n := by
  subst hp
  exact Run.stp (fun p e below T m c t hA hx hc q => XT.dup2L hA hx rfl (hb hc hd) rfl q) nxt
theorem Run.goto {o : Int} (hd : decode code pc = .ok (.goto o, 3)) (ho : 0 ≤ (pc : Int) + o) (hp : ((pc : Int) + o).toNat = pc') (nxt : Run l Z n0 own code maxL ret nm R Q pc' Ls st h k n) : Run l Z n0 own code maxL ret nm R Q pc Ls st h k n :=
  Run.stp (fun p e below T m c t hA hx hc q => XS.goto hA hx rfl rfl (hb hc hd) ho hp q) nxt
theorem Run.if_eq {x : Int32} {o : Int} {pa : Nat} (hd : decode code pc = .ok (.ifCond .eq o, 3)) (ho : 0 ≤ (pc : Int) + o) (hp : ((pc : Int) + o).toNat = pc') (hq : pc + 3 = pa)
    (yes : x = 0 → Run l Z n0 own code maxL ret nm R Q pc' Ls st h k n) (no : ¬ x = 0 → Run l Z n0 own code maxL ret nm R Q pa Ls st h k n) : Run l Z n0 own code maxL ret nm R Q pc Ls (.int x :: st) h k n := by
  subst hq
  by_cases hc : x = 0
  · exact Run.stp (fun p e below T m c t hA hx hb' q => XS.ifYes hA hx rfl rfl (hb hb' hd) rfl (XT.i0_eq_t hc) ho hp q) (yes hc)
  · exact Run.stp (fun p e below T m c t hA hx hb' q => XS.ifNo hA hx rfl (hb hb' hd) rfl (XT.i0_eq_f hc) q) (no hc)
theorem Run.icmp_eq {x y : Int32} {o : Int} {pa : Nat} (hd : decode code pc = .ok (.if_icmp .eq o, 3)) (ho : 0 ≤ (pc : Int) + o) (hp : ((pc : Int) + o).toNat = pc') (hq : pc + 3 = pa)
    (yes : x = y → Run l Z n0 own code maxL ret nm R Q pc' Ls st h k n) (no : ¬ x = y → Run l Z n0 own code maxL ret nm R Q pa Ls st h k n) : Run l Z n0 own code maxL ret nm R Q pc Ls (.int y :: .int x :: st) h k n := by
  subst hq
  by_cases hc : x = y
  · exact Run.stp (fun p e below T m c t hA hx hb' q => XS.icmpYes hA hx rfl rfl (hb hb' hd) rfl (XT.ii_eq_t hc) ho hp q) (yes hc)
  · exact Run.stp (fun p e below T m c t hA hx hb' q => XS.icmpNo hA hx rfl (hb hb' hd) rfl (XT.ii_eq_f hc) q) (no hc)
theorem Run.if_ne {x : Int32} {o : Int} {pa : Nat} (hd : decode code pc = .ok (.ifCond .ne o, 3)) (ho : 0 ≤ (pc : Int) + o) (hp : ((pc : Int) + o).toNat = pc') (hq : pc + 3 = pa)
    (yes : ¬ x = 0 → Run l Z n0 own code maxL ret nm R Q pc' Ls st h k n) (no : x = 0 → Run l Z n0 own code maxL ret nm R Q pa Ls st h k n) : Run l Z n0 own code maxL ret nm R Q pc Ls (.int x :: st) h k n := by
  subst hq
  by_cases hc : x = 0
  · exact Run.stp (fun p e below T m c t hA hx hb' q => XS.ifNo hA hx rfl (hb hb' hd) rfl (XT.i0_ne_f hc) q) (no (by simpa using hc))
  · exact Run.stp (fun p e below T m c t hA hx hb' q => XS.ifYes hA hx rfl rfl (hb hb' hd) rfl (XT.i0_ne_t hc) ho hp q) (yes hc)
theorem Run.icmp_ne {x y : Int32} {o : Int} {pa : Nat} (hd : decode code pc = .ok (.if_icmp .ne o, 3)) (ho : 0 ≤ (pc : Int) + o) (hp : ((pc : Int) + o).toNat = pc') (hq : pc + 3 = pa)
    (yes : ¬ x = y → Run l Z n0 own code maxL ret nm R Q pc' Ls st h k n) (no : x = y → Run l Z n0 own code maxL ret nm R Q pa Ls st h k n) : Run l Z n0 own code maxL ret nm R Q pc Ls (.int y :: .int x :: st) h k n := by
  subst hq
  by_cases hc : x = y
  · exact Run.stp (fun p e below T m c t hA hx hb' q => XS.icmpNo hA hx rfl (hb hb' hd) rfl (XT.ii_ne_f hc) q) (no (by simpa using hc))
  · exact Run.stp (fun p e below T m c t hA hx hb' q => XS.icmpYes hA hx rfl rfl (hb hb' hd) rfl (XT.ii_ne_t hc) ho hp q) (yes hc)
theorem Run.if_lt {x : Int32} {o : Int} {pa : Nat} (hd : decode code pc = .ok (.ifCond .lt o, 3)) (ho : 0 ≤ (pc : Int) + o) (hp : ((pc : Int) + o).toNat = pc') (hq : pc + 3 = pa)
    (yes : x < 0 → Run l Z n0 own code maxL ret nm R Q pc' Ls st h k n) (no : ¬ x < 0 → Run l Z n0 own code maxL ret nm R Q pa Ls st h k n) : Run l Z n0 own code maxL ret nm R Q pc Ls (.int x :: st) h k n := by
  subst hq
  by_cases hc : x < 0
  · exact Run.stp (fun p e below T m c t hA hx hb' q => XS.ifYes hA hx rfl rfl (hb hb' hd) rfl (XT.i0_lt_t hc) ho hp q) (yes hc)
  · exact Run.stp (fun p e below T m c t hA hx hb' q => XS.ifNo hA hx rfl (hb hb' hd) rfl (XT.i0_lt_f hc) q) (no hc)
theorem Run.icmp_lt {x y : Int32} {o : Int} {pa : Nat} (hd : decode code pc = .ok (.if_icmp .lt o, 3)) (ho : 0 ≤ (pc : Int) + o) (hp : ((pc : Int) + o).toNat = pc') (hq : pc + 3 = pa)
    (yes : x < y → Run l Z n0 own code maxL ret nm R Q pc' Ls st h k n) (no : ¬ x < y → Run l Z n0 own code maxL ret nm R Q pa Ls st h k n) : Run l Z n0 own code maxL ret nm R Q pc Ls (.int y :: .int x :: st) h k n := by
  subst hq
  by_cases hc : x < y
  · exact Run.stp (fun p e below T m c t hA hx hb' q => XS.icmpYes hA hx rfl rfl (hb hb' hd) rfl (XT.ii_lt_t hc) ho hp q) (yes hc)
  · exact Run.stp (fun p e below T m c t hA hx hb' q => XS.icmpNo hA hx rfl (hb hb' hd) rfl (XT.ii_lt_f hc) q) (no hc)
theorem Run.if_ge {x : Int32} {o : Int} {pa : Nat} (hd : decode code pc = .ok (.ifCond .ge o, 3)) (ho : 0 ≤ (pc : Int) + o) (hp : ((pc : Int) + o).toNat = pc') (hq : pc + 3 = pa)
    (yes : ¬ x < 0 → Run l Z n0 own code maxL ret nm R Q pc' Ls st h k n) (no : x < 0 → Run l Z n0 own code maxL ret nm R Q pa Ls st h k n) : Run l Z n0 own code maxL ret nm R Q pc Ls (.int x :: st) h k n := by
  subst hq
  by_cases hc : x < 0
  · exact Run.stp (fun p e below T m c t hA hx hb' q => XS.ifNo hA hx rfl (hb hb' hd) rfl (XT.i0_ge_f hc) q) (no (by simpa using hc))
  · exact Run.stp (fun p e below T m c t hA hx hb' q => XS.ifYes hA hx rfl rfl (hb hb' hd) rfl (XT.i0_ge_t hc) ho hp q) (yes hc)
theorem Run.icmp_ge {x y : Int32} {o : Int} {pa : Nat} (hd : decode code pc = .ok (.if_icmp .ge o, 3)) (ho : 0 ≤ (pc : Int) + o) (hp : ((pc : Int) + o).toNat = pc') (hq : pc + 3 = pa)
    (yes : ¬ x < y → Run l Z n0 own code maxL ret nm R Q pc' Ls st h k n) (no : x < y → Run l Z n0 own code maxL ret nm R Q pa Ls st h k n) : Run l Z n0 own code maxL ret nm R Q pc Ls (.int y :: .int x :: st) h k n := by
  subst hq
  by_cases hc : x < y
  · exact Run.stp (fun p e below T m c t hA hx hb' q => XS.icmpNo hA hx rfl (hb hb' hd) rfl (XT.ii_ge_f hc) q) (no (by simpa using hc))
  · exact Run.stp (fun p e below T m c t hA hx hb' q => XS.icmpYes hA hx rfl rfl (hb hb' hd) rfl (XT.ii_ge_t hc) ho hp q) (yes hc)
theorem Run.if_gt {x : Int32} {o : Int} {pa : Nat} (hd : decode code pc = .ok (.ifCond .gt o, 3)) (ho : 0 ≤ (pc : Int) + o) (hp : ((pc : Int) + o).toNat = pc') (hq : pc + 3 = pa)
    (yes : 0 < x → Run l Z n0 own code maxL ret nm R Q pc' Ls st h k n) (no : ¬ 0 < x → Run l Z n0 own code maxL ret nm R Q pa Ls st h k n) : Run l Z n0 own code maxL ret nm R Q pc Ls (.int x :: st) h k n := by
  subst hq
  by_cases hc : 0 < x
  · exact Run.stp (fun p e below T m c t hA hx hb' q => XS.ifYes hA hx rfl rfl (hb hb' hd) rfl (XT.i0_gt_t hc) ho hp q) (yes hc)
  · exact Run.stp (fun p e below T m c t hA hx hb' q => XS.ifNo hA hx rfl (hb hb' hd) rfl (XT.i0_gt_f hc) q) (no hc)
theorem Run.icmp_gt {x y : Int32} {o : Int} {pa : Nat} (hd : decode code pc = .ok (.if_icmp .gt o, 3)) (ho : 0 ≤ (pc : Int) + o) (hp : ((pc : Int) + o).toNat = pc') (hq : pc + 3 = pa)
    (yes : y < x → Run l Z n0 own code maxL ret nm R Q pc' Ls st h k n) (no : ¬ y < x → Run l Z n0 own code maxL ret nm R Q pa Ls st h k n) : Run l Z n0 own code maxL ret nm R Q pc Ls (.int y :: .int x :: st) h k n := by
  subst hq
  by_cases hc : y < x
  · exact Run.stp (fun p e below T m c t hA hx hb' q => XS.icmpYes hA hx rfl rfl (hb hb' hd) rfl (XT.ii_gt_t hc) ho hp q) (yes hc)
  · exact Run.stp (fun p e below T m c t hA hx hb' q => XS.icmpNo hA hx rfl (hb hb' hd) rfl (XT.ii_gt_f hc) q) (no hc)
theorem Run.if_le {x : Int32} {o : Int} {pa : Nat} (hd : decode code pc = .ok (.ifCond .le o, 3)) (ho : 0 ≤ (pc : Int) + o) (hp : ((pc : Int) + o).toNat = pc') (hq : pc + 3 = pa)
    (yes : ¬ 0 < x → Run l Z n0 own code maxL ret nm R Q pc' Ls st h k n) (no : 0 < x → Run l Z n0 own code maxL ret nm R Q pa Ls st h k n) : Run l Z n0 own code maxL ret nm R Q pc Ls (.int x :: st) h k n := by
  subst hq
  by_cases hc : 0 < x
  · exact Run.stp (fun p e below T m c t hA hx hb' q => XS.ifNo hA hx rfl (hb hb' hd) rfl (XT.i0_le_f hc) q) (no (by simpa using hc))
  · exact Run.stp (fun p e below T m c t hA hx hb' q => XS.ifYes hA hx rfl rfl (hb hb' hd) rfl (XT.i0_le_t hc) ho hp q) (yes hc)
theorem Run.icmp_le {x y : Int32} {o : Int} {pa : Nat} (hd : decode code pc = .ok (.if_icmp .le o, 3)) (ho : 0 ≤ (pc : Int) + o) (hp : ((pc : Int) + o).toNat = pc') (hq : pc + 3 = pa)
    (yes : ¬ y < x → Run l Z n0 own code maxL ret nm R Q pc' Ls st h k n) (no : y < x → Run l Z n0 own code maxL ret nm R Q pa Ls st h k n) : Run l Z n0 own code maxL ret nm R Q pc Ls (.int y :: .int x :: st) h k n := by
  subst hq
  by_cases hc : y < x
  · exact Run.stp (fun p e below T m c t hA hx hb' q => XS.icmpNo hA hx rfl (hb hb' hd) rfl (XT.ii_le_f hc) q) (no (by simpa using hc))
  · exact Run.stp (fun p e below T m c t hA hx hb' q => XS.icmpYes hA hx rfl rfl (hb hb' hd) rfl (XT.ii_le_t hc) ho hp q) (yes hc)
theorem Run.lif_eq {x y : Int64} {o : Int} {pa : Nat} (hd : decode code pc = .ok (.ifCond .eq o, 3)) (ho : 0 ≤ (pc : Int) + o) (hp : ((pc : Int) + o).toNat = pc') (hq : pc + 3 = pa)
    (yes : x = y → Run l Z n0 own code maxL ret nm R Q pc' Ls st h k n) (no : ¬ x = y → Run l Z n0 own code maxL ret nm R Q pa Ls st h k n) : Run l Z n0 own code maxL ret nm R Q pc Ls (.int (XT.cmpL x y) :: st) h k n := by
  subst hq
  by_cases hc : x = y
  · exact Run.stp (fun p e below T m c t hA hx hb' q => XS.ifYes hA hx rfl rfl (hb hb' hd) rfl (XT.ll_eq_t hc) ho hp q) (yes hc)
  · exact Run.stp (fun p e below T m c t hA hx hb' q => XS.ifNo hA hx rfl (hb hb' hd) rfl (XT.ll_eq_f hc) q) (no hc)
theorem Run.lif_ne {x y : Int64} {o : Int} {pa : Nat} (hd : decode code pc = .ok (.ifCond .ne o, 3)) (ho : 0 ≤ (pc : Int) + o) (hp : ((pc : Int) + o).toNat = pc') (hq : pc + 3 = pa)
    (yes : ¬ x = y → Run l Z n0 own code maxL ret nm R Q pc' Ls st h k n) (no : x = y → Run l Z n0 own code maxL ret nm R Q pa Ls st h k n) : Run l Z n0 own code maxL ret nm R Q pc Ls (.int (XT.cmpL x y) :: st) h k n := by
  subst hq
  by_cases hc : x = y
  · exact Run.stp (fun p e below T m c t hA hx hb' q => XS.ifNo hA hx rfl (hb hb' hd) rfl (XT.ll_ne_f hc) q) (no (by simpa using hc))
  · exact Run.stp (fun p e below T m c t hA hx hb' q => XS.ifYes hA hx rfl rfl (hb hb' hd) rfl (XT.ll_ne_t hc) ho hp q) (yes hc)
theorem Run.lif_lt {x y : Int64} {o : Int} {pa : Nat} (hd : decode code pc = .ok (.ifCond .lt o, 3)) (ho : 0 ≤ (pc : Int) + o) (hp : ((pc : Int) + o).toNat = pc') (hq : pc + 3 = pa)
    (yes : x < y → Run l Z n0 own code maxL ret nm R Q pc' Ls st h k n) (no : ¬ x < y → Run l Z n0 own code maxL ret nm R Q pa Ls st h k n) : Run l Z n0 own code maxL ret nm R Q pc Ls (.int (XT.cmpL x y) :: st) h k n := by
  subst hq
  by_cases hc : x < y
  · exact Run.stp (fun p e below T m c t hA hx hb' q => XS.ifYes hA hx rfl rfl (hb hb' hd) rfl (XT.ll_lt_t hc) ho hp q) (yes hc)
  · exact Run.stp (fun p e below T m c t hA hx hb' q => XS.ifNo hA hx rfl (hb hb' hd) rfl (XT.ll_lt_f hc) q) (no hc)
theorem Run.lif_ge {x y : Int64} {o : Int} {pa : Nat} (hd : decode code pc = .ok (.ifCond .ge o, 3)) (ho : 0 ≤ (pc : Int) + o) (hp : ((pc : Int) + o).toNat = pc') (hq : pc + 3 = pa)
    (yes : ¬ x < y → Run l Z n0 own code maxL ret nm R Q pc' Ls st h k n) (no : x < y → Run l Z n0 own code maxL ret nm R Q pa Ls st h k n) : Run l Z n0 own code maxL ret nm R Q pc Ls (.int (XT.cmpL x y) :: st) h k n := by
  subst hq
  by_cases hc : x < y
  · exact Run.stp (fun p e below T m c t hA hx hb' q => XS.ifNo hA hx rfl (hb hb' hd) rfl (XT.ll_ge_f hc) q) (no (by simpa using hc))
  · exact Run.stp (fun p e below T m c t hA hx hb' q => XS.ifYes hA hx rfl rfl (hb hb' hd) rfl (XT.ll_ge_t hc) ho hp q) (yes hc)
theorem Run.lif_gt {x y : Int64} {o : Int} {pa : Nat} (hd : decode code pc = .ok (.ifCond .gt o, 3)) (ho : 0 ≤ (pc : Int) + o) (hp : ((pc : Int) + o).toNat = pc') (hq : pc + 3 = pa)
    (yes : y < x → Run l Z n0 own code maxL ret nm R Q pc' Ls st h k n) (no : ¬ y < x → Run l Z n0 own code maxL ret nm R Q pa Ls st h k n) : Run l Z n0 own code maxL ret nm R Q pc Ls (.int (XT.cmpL x y) :: st) h k n := by
  subst hq
  by_cases hc : y < x
  · exact Run.stp (fun p e below T m c t hA hx hb' q => XS.ifYes hA hx rfl rfl (hb hb' hd) rfl (XT.ll_gt_t hc) ho hp q) (yes hc)
  · exact Run.stp (fun p e below T m c t hA hx hb' q => XS.ifNo hA hx rfl (hb hb' hd) rfl (XT.ll_gt_f hc) q) (no hc)
theorem Run.lif_le {x y : Int64} {o : Int} {pa : Nat} (hd : decode code pc = .ok (.ifCond .le o, 3)) (ho : 0 ≤ (pc : Int) + o) (hp : ((pc : Int) + o).toNat = pc') (hq : pc + 3 = pa)
    (yes : ¬ y < x → Run l Z n0 own code maxL ret nm R Q pc' Ls st h k n) (no : y < x → Run l Z n0 own code maxL ret nm R Q pa Ls st h k n) : Run l Z n0 own code maxL ret nm R Q pc Ls (.int (XT.cmpL x y) :: st) h k n := by
  subst hq
  by_cases hc : y < x
  · exact Run.stp (fun p e below T m c t hA hx hb' q => XS.ifNo hA hx rfl (hb hb' hd) rfl (XT.ll_le_f hc) q) (no (by simpa using hc))
  · exact Run.stp (fun p e below T m c t hA hx hb' q => XS.ifYes hA hx rfl rfl (hb hb' hd) rfl (XT.ll_le_t hc) ho hp q) (yes hc)
theorem Run.acmp_eq {x y : Value} {o : Int} {pa : Nat} (hd : decode code pc = .ok (.if_acmp .eq o, 3)) (hv : x.isRef = true) (hv' : y.isRef = true) (ho : 0 ≤ (pc : Int) + o) (hp : ((pc : Int) + o).toNat = pc') (hq : pc + 3 = pa)
    (yes : x = y → Run l Z n0 own code maxL ret nm R Q pc' Ls st h k n) (no : ¬ x = y → Run l Z n0 own code maxL ret nm R Q pa Ls st h k n) : Run l Z n0 own code maxL ret nm R Q pc Ls (y :: x :: st) h k n := by
  subst hq
  by_cases hc : x = y
  · exact Run.stp (fun p e below T m c t hA hx hb' q => XT.acmpYes hA hx rfl rfl (hb hb' hd) rfl hv hv' (XT.aa_eq_t hc) ho hp q) (yes hc)
  · exact Run.stp (fun p e below T m c t hA hx hb' q => XT.acmpNo hA hx rfl (hb hb' hd) rfl hv hv' (XT.aa_eq_f hc) q) (no hc)
theorem Run.acmp_ne {x y : Value} {o : Int} {pa : Nat} (hd : decode code pc = .ok (.if_acmp .ne o, 3)) (hv : x.isRef = true) (hv' : y.isRef = true) (ho : 0 ≤ (pc : Int) + o) (hp : ((pc : Int) + o).toNat = pc') (hq : pc + 3 = pa)
    (yes : ¬ x = y → Run l Z n0 own code maxL ret nm R Q pc' Ls st h k n) (no : x = y → Run l Z n0 own code maxL ret nm R Q pa Ls st h k n) : Run l Z n0 own code maxL ret nm R Q pc Ls (y :: x :: st) h k n := by
  subst hq
  by_cases hc : x = y
  · exact Run.stp (fun p e below T m c t hA hx hb' q => XT.acmpNo hA hx rfl (hb hb' hd) rfl hv hv' (XT.aa_ne_f hc) q) (no (by simpa using hc))
  · exact Run.stp (fun p e below T m c t hA hx hb' q => XT.acmpYes hA hx rfl rfl (hb hb' hd) rfl hv hv' (XT.aa_ne_t hc) ho hp q) (yes hc)
theorem Run.ifnull {v : Value} {o : Int} {pa : Nat} (hd : decode code pc = .ok (.ifnull o, 3)) (hv : v.isRef = true) (ho : 0 ≤ (pc : Int) + o) (hp : ((pc : Int) + o).toNat = pc') (hq : pc + 3 = pa)
    (yes : v = .null → Run l Z n0 own code maxL ret nm R Q pc' Ls st h k n) (no : ¬ v = .null → Run l Z n0 own code maxL ret nm R Q pa Ls st h k n) : Run l Z n0 own code maxL ret nm R Q pc Ls (v :: st) h k n := by
  subst hq
  by_cases hc : v = .null
  · exact Run.stp (fun p e below T m c t hA hx hb' q => XT.nullYes hA hx rfl rfl (hb hb' hd) rfl hc ho hp q) (yes hc)
  · exact Run.stp (fun p e below T m c t hA hx hb' q => XT.nullNo hA hx rfl (hb hb' hd) rfl hv hc q) (no hc)
theorem Run.ifnonnull {v : Value} {o : Int} {pa : Nat} (hd : decode code pc = .ok (.ifnonnull o, 3)) (hv : v.isRef = true) (ho : 0 ≤ (pc : Int) + o) (hp : ((pc : Int) + o).toNat = pc') (hq : pc + 3 = pa)
    (yes : ¬ v = .null → Run l Z n0 own code maxL ret nm R Q pc' Ls st h k n) (no : v = .null → Run l Z n0 own code maxL ret nm R Q pa Ls st h k n) : Run l Z n0 own code maxL ret nm R Q pc Ls (v :: st) h k n := by
  subst hq
  by_cases hc : v = .null
  · exact Run.stp (fun p e below T m c t hA hx hb' q => XT.nonnullNo hA hx rfl (hb hb' hd) rfl hc q) (no hc)
  · exact Run.stp (fun p e below T m c t hA hx hb' q => XT.nonnullYes hA hx rfl rfl (hb hb' hd) rfl hv hc ho hp q) (yes hc)
/-! the pool's constants, fields, statics -/
theorem Run.ldcI {a0 : Array Value} {i : Nat} {v : Int32} (hd : decode code pc = .ok (.ldc i, 2)) (w : (Cond.constant own i v).before a0 Z = true) (hp : pc + 2 = pc') (nxt : Run l Z n0 own code maxL ret nm R Q pc' Ls (.int v :: st) h k n) : Run l Z n0 own code maxL ret nm R Q pc Ls st h k n := by
  subst hp
  exact Run.via (fun p e s m args below meth c T locs cells slots hC X eT => ⟨T, X, eT, fun t q => X.ldcI hC.1 hC.2.2.1 (mvT hC.2.1 w) rfl (hb hC.2.2.2.1 hd) q⟩) nxt
theorem Run.ldcWI {a0 : Array Value} {i : Nat} {v : Int32} (hd : decode code pc = .ok (.ldc_w i, 3)) (w : (Cond.constant own i v).before a0 Z = true) (hp : pc + 3 = pc') (nxt : Run l Z n0 own code maxL ret nm R Q pc' Ls (.int v :: st) h k n) : Run l Z n0 own code maxL ret nm R Q pc Ls st h k n := by
  subst hp
  exact Run.via (fun p e s m args below meth c T locs cells slots hC X eT => ⟨T, X, eT, fun t q => X.ldcWI hC.1 hC.2.2.1 (mvT hC.2.1 w) rfl (hb hC.2.2.2.1 hd) q⟩) nxt
theorem Run.ldc2J {a0 : Array Value} {i : Nat} {v : Int64} (hd : decode code pc = .ok (.ldc2_w i, 3)) (w : (Cond.constantLong own i v).before a0 Z = true) (hp : pc + 3 = pc') (nxt : Run l Z n0 own code maxL ret nm R Q pc' Ls (.long v :: st) h k n) : Run l Z n0 own code maxL ret nm R Q pc Ls st h k n := by
  subst hp
  exact Run.via (fun p e s m args below meth c T locs cells slots hC X eT => ⟨T, X, eT, fun t q => X.ldc2J hC.1 hC.2.2.1 (mvT hC.2.1 w) rfl (hb hC.2.2.2.1 hd) q⟩) nxt
theorem Run.getS {a0 : Array Value} {R0 O f d host : String} {i : Nat} {v : Value} (hd : decode code pc = .ok (.getstatic i, 3)) (w : (Cond.fieldLink own i R0 f d).before a0 Z = true ∨ (Cond.fieldLinkNest own i R0 f d host).before a0 Z = true) (via : Via Z R0 O f d) (F : Sta Z h O f d v) (hp : pc + 3 = pc') (nxt : Run l Z n0 own code maxL ret nm R Q pc' Ls (v :: st) h k n) : Run l Z n0 own code maxL ret nm R Q pc Ls st h k n := by
  subst hp
  exact Run.via (fun p e s m args below meth c T locs cells slots hC X eT => getS2 X hC.1 hC.2.1 hC.2.2.1 w via eT F (g := mkF m pc Ls st) rfl (hb hC.2.2.2.1 hd)) nxt
theorem Run.getF {a0 : Array Value} {R0 O f d host : String} {i : Nat} {a : Addr} {v : Value} (hd : decode code pc = .ok (.getfield i, 3)) (w : (Cond.fieldLink own i R0 f d).before a0 Z = true ∨ (Cond.fieldLinkNest own i R0 f d host).before a0 Z = true) (via : Via Z R0 O f d) (F : Fld Z h a O f d v) (hp : pc + 3 = pc') (nxt : Run l Z n0 own code maxL ret nm R Q pc' Ls (v :: st) h k n) : Run l Z n0 own code maxL ret nm R Q pc Ls (.ref a :: st) h k n := by
  subst hp
  exact Run.via (fun p e s m args below meth c T locs cells slots hC X eT => getF X hC.1 hC.2.1 hC.2.2.1 w via eT F (g := mkF m pc Ls (.ref a :: st)) rfl rfl (hb hC.2.2.2.1 hd)) nxt
/-! the returns -/
theorem Go.fin {p : Program} {e : Env} {s : State} {m : MethodId} {args : Array Value} {below : List Frame} {meth : Method} {c : Code} {T S : State} {locs : List Loc} {cells slots : Nat} {v : Option Value} (X : Stand p l e R s m args below meth c T locs cells slots) (hv : meth.sig.returnType = none → v = none) (hlk : meth.locks = false) (hF : Fr n0 locs) (hk : cells ≤ R.cells) (hn : slots ≤ R.slots) (hQ : Q v T.heap)
    (f : ∀ fs, (∀ (f : JFrame) (acts : List Action), f.method = m → f.locked = none → f.entered = [] → (doReturn e (T.setTop f) acts v).1 = T.setFrames fs) → Steps p.tables e below S (T.setFrames fs)) : Go p e below s n0 R.cells R.slots Q S := by
  obtain ⟨fs, hr, hrun, hended, hW, hsame⟩ := X.leave (v := v) hv hlk
  exact ⟨_, v, locs, f fs hr, hrun, hended, ⟨hQ, hF⟩, ⟨_, rfl⟩, hW, hsame.mono hk hn⟩
theorem Run.ireturn {z : Int32} (hd : decode code pc = .ok (.ireturn, 1)) (hret : ret = some .int) (hk : k ≤ R.cells) (hn : n ≤ R.slots) (hQ : Q (some (.int z)) h) : Run l Z n0 own code maxL ret nm R Q pc Ls (.int z :: st) h k n := by
  intro p e s m args below meth c T locs cells slots hC X eT hF hk' hn'
  subst eT
  have hr := hC.2.2.2.2.2.1
  exact Go.fin X (fun q => by rw [hr, hret] at q; cases q) hC.2.2.2.2.2.2.1 hF (Nat.le_trans hk' hk) (Nat.le_trans hn' hn) hQ (fun fs hl => retOut X hC.1 (hr.trans hret) rfl (Or.inl ⟨rfl, Or.inl rfl, z, rfl⟩) (hb hC.2.2.2.1 hd) hl)
theorem Run.nreturn {z : Int32} {ty : FieldType} (hd : decode code pc = .ok (.ireturn, 1)) (hret : ret = some ty) (ht : ty = .boolean ∨ ty = .byte ∨ ty = .char ∨ ty = .short) (hk : k ≤ R.cells) (hn : n ≤ R.slots) (hQ : Q (some (.int (nar ty z))) h) : Run l Z n0 own code maxL ret nm R Q pc Ls (.int z :: st) h k n := by
  intro p e s m args below meth c T locs cells slots hC X eT hF hk' hn'
  subst eT
  have hr := hC.2.2.2.2.2.1
  exact Go.fin X (fun q => by rw [hr, hret] at q; cases q) hC.2.2.2.2.2.2.1 hF (Nat.le_trans hk' hk) (Nat.le_trans hn' hn) hQ (fun fs hl => retN X hC.1 (hr.trans hret) ht (hb hC.2.2.2.1 hd) hl)
theorem Run.lreturn {z : Int64} (hd : decode code pc = .ok (.lreturn, 1)) (hret : ret = some .long) (hk : k ≤ R.cells) (hn : n ≤ R.slots) (hQ : Q (some (.long z)) h) : Run l Z n0 own code maxL ret nm R Q pc Ls (.long z :: st) h k n := by
  intro p e s m args below meth c T locs cells slots hC X eT hF hk' hn'
  subst eT
  have hr := hC.2.2.2.2.2.1
  exact Go.fin X (fun q => by rw [hr, hret] at q; cases q) hC.2.2.2.2.2.2.1 hF (Nat.le_trans hk' hk) (Nat.le_trans hn' hn) hQ (fun fs hl => retOut X hC.1 (hr.trans hret) rfl (Or.inr (Or.inl ⟨rfl, rfl, z, rfl⟩)) (hb hC.2.2.2.1 hd) hl)
theorem go_narref {t : FieldType} {w : Value} (ht : t.isReference = true) (hw : w.isRef = true) : narrow t w = w := by
  cases t <;> first | rfl | (cases ht; done) | (cases w <;> first | rfl | cases hw)
theorem Run.areturn {w : Value} {ty : FieldType} (hd : decode code pc = .ok (.areturn, 1)) (hret : ret = some ty) (ht : ty.isReference = true) (hw : w.isRef = true) (hk : k ≤ R.cells) (hn : n ≤ R.slots) (hQ : Q (some w) h) : Run l Z n0 own code maxL ret nm R Q pc Ls (w :: st) h k n := by
  intro p e s m args below meth c T locs cells slots hC X eT hF hk' hn'
  subst eT
  have hr := hC.2.2.2.2.2.1
  exact Go.fin X (fun q => by rw [hr, hret] at q; cases q) hC.2.2.2.2.2.2.1 hF (Nat.le_trans hk' hk) (Nat.le_trans hn' hn) hQ (fun fs hl => retOut X hC.1 (hr.trans hret) (go_narref ht hw) (Or.inr (Or.inr (Or.inr (Or.inr ⟨rfl, ht, hw⟩)))) (hb hC.2.2.2.1 hd) hl)
theorem Run.vreturn (hd : decode code pc = .ok (.return_, 1)) (hret : ret = none) (hk : k ≤ R.cells) (hn : n ≤ R.slots) (hQ : Q none h) : Run l Z n0 own code maxL ret nm R Q pc Ls [] h k n := by
  intro p e s m args below meth c T locs cells slots hC X eT hF hk' hn'
  subst eT
  have hr := hC.2.2.2.2.2.1
  exact Go.fin X (fun _ => rfl) hC.2.2.2.2.2.2.1 hF (Nat.le_trans hk' hk) (Nat.le_trans hn' hn) hQ (fun fs hl => X.returnOut hC.1 (hr.trans hret) (hb hC.2.2.2.1 hd) hl)
/-! calls by a contract -/
theorem Run.callS {a0 : Array Value} {y : MethodName} {bytes : ByteArray} {mL : Nat} {rt : Option FieldType} {rm : Room} {as rest : List Value} {Qy : Option Value → Heap → Prop} {i : Nat} {ps : List FieldType} {rr : Option FieldType}
    (hC : Con l Z n0 y bytes mL rt rm as.toArray h Qy) (hd : decode code pc = .ok (.invokestatic i, 3)) (w1 : (Cond.methodLink own i y).before a0 Z = true) (w2 : (Cond.static y).before a0 Z = true) (w3 : (Cond.initialized y.cls).before a0 Z = true) (w4 : (Cond.code y bytes mL rt).before a0 Z = true)
    (hy : y.cls ≠ "java/lang/invoke/MethodHandle" ∧ y.cls ≠ "java/lang/invoke/VarHandle") (hds : parseMethodDescriptor y.desc = some ⟨ps, rr⟩) (hl : as.length = ps.length) (hst : st = as.reverse ++ rest) (hsz : Ls.size = maxL)
    (hf : rm.frames + 1 ≤ R.frames) (hlo : (rest.map fun v => v.category).sum + (mL + 11) + rm.locals ≤ R.locals) (hk : k + rm.cells ≤ k') (hk' : k' ≤ R.cells) (hn : n + rm.slots ≤ n') (hn' : n' ≤ R.slots) (hp : pc + 3 = pc')
    (nxt : ∀ v h', Qy v h' → Run l Z n0 own code maxL ret nm R Q pc' Ls (v.toList ++ rest) h' k' n') : Run l Z n0 own code maxL ret nm R Q pc Ls st h k n := by
  subst hp hst
  intro p e s m args below meth c T locs cells slots hX X eT hF hc hs
  obtain ⟨hx, hZ, hown, hby, hml, -⟩ := id hX
  obtain ⟨v, vm₁, ⟨B, L', cc, ss⟩, -, X', ⟨Lc, hQ, l1, y1, z1⟩, stp⟩ := Jvm.LawKit.callS X hx (y := y) hown (mvT hZ w1) (mvT hZ w2) (mvT hZ w3) (mvT hZ w4) hy (backOf (W := (rest.map fun v => v.category).sum) (Q := fun v h L => Qy v h ∧ Fr n0 L) (hC []) hZ w4 w3 hf hlo) (g := mkF m pc Ls (as.reverse ++ rest)) rfl (hsz.trans hml.symm) (argsL := as) (rest := rest) (lenOf hds hl) rfl (by show 2 * 0 + _ ≤ _; omega) (hb hby hd) (fun _ _ => ⟨rfl, eT, (by show cells + rm.cells ≤ R.cells; omega), (by show slots + rm.slots ≤ R.slots; omega)⟩)
  dsimp only [Pt.U, Pt.locs, Pt.cells, Pt.slots] at X' l1 y1 z1 stp hQ
  subst l1 y1 z1
  obtain ⟨s₂, v', L, g1, g2⟩ := nxt v _ hQ.1 p e s m args below meth c B _ _ _ hX X' rfl (Fr.app hF hQ.2) (by omega) (by omega)
  exact ⟨s₂, v', L, stp _ g1, g2⟩
theorem Run.callV {a0 : Array Value} {C : String} {y z : MethodName} {bytes : ByteArray} {mL : Nat} {rt : Option FieldType} {rm : Room} {a : Addr} {as rest : List Value} {Qy : Option Value → Heap → Prop} {i : Nat} {ps : List FieldType} {rr : Option FieldType}
    (hC : Con l Z n0 z bytes mL rt rm (.ref a :: as).toArray h Qy) (hE : Exa Z h a C) (hd : decode code pc = .ok (.invokevirtual i, 3)) (w1 : (Cond.methodLink own i y).before a0 Z = true) (w2 : (Cond.declares y).before a0 Z = true) (nf : ∀ (s : State), Z.Warmed39 s.vm → NotFace s y) (w3 : (Cond.selects C y z).before a0 Z = true) (w4 : (Cond.instanceMethod z).before a0 Z = true) (w5 : (Cond.initialized z.cls).before a0 Z = true) (w6 : (Cond.code z bytes mL rt).before a0 Z = true)
    (hy : y.cls ≠ "java/lang/invoke/MethodHandle" ∧ y.cls ≠ "java/lang/invoke/VarHandle") (hds : parseMethodDescriptor y.desc = some ⟨ps, rr⟩) (hl : as.length = ps.length) (hst : st = as.reverse ++ .ref a :: rest) (hsz : Ls.size = maxL)
    (hf : rm.frames + 1 ≤ R.frames) (hlo : (rest.map fun v => v.category).sum + (mL + 11) + rm.locals ≤ R.locals) (hk : k + rm.cells ≤ k') (hk' : k' ≤ R.cells) (hn : n + rm.slots ≤ n') (hn' : n' ≤ R.slots) (hp : pc + 3 = pc')
    (nxt : ∀ v h', Qy v h' → Run l Z n0 own code maxL ret nm R Q pc' Ls (v.toList ++ rest) h' k' n') : Run l Z n0 own code maxL ret nm R Q pc Ls st h k n := by
  subst hp hst
  intro p e s m args below meth c T locs cells slots hX X eT hF hc hs
  obtain ⟨hx, hZ, hown, hby, hml, -⟩ := id hX
  obtain ⟨cq, kq, qa, qb, qc⟩ := isOf hZ eT hE
  obtain ⟨v, vm₁, ⟨B, L', cc, ss⟩, -, X', ⟨Lc, hQ, l1, y1, z1⟩, stp⟩ := X.virtualBack hx (y := y) (z := z) hown (mvT hZ w1) (mvT hZ w2) (nf s hZ) (mvT hZ w3) (mvT hZ w4) hy (backOf (W := (rest.map fun v => v.category).sum) (Q := fun v h L => Qy v h ∧ Fr n0 L) (hC []) hZ w6 w5 hf hlo) qa qc (g := mkF m pc Ls (as.reverse ++ .ref a :: rest)) rfl (hsz.trans hml.symm) (Steps.refl _) (argsL := as) (rest := rest) (lenOf hds hl) rfl (by show 2 * 0 + _ ≤ _; omega) (hb hby hd) (fun _ _ => ⟨rfl, eT, (by show cells + rm.cells ≤ R.cells; omega), (by show slots + rm.slots ≤ R.slots; omega)⟩)
  dsimp only [Pt.U, Pt.locs, Pt.cells, Pt.slots] at X' l1 y1 z1 stp hQ
  subst l1 y1 z1
  obtain ⟨s₂, v', L, g1, g2⟩ := nxt v _ hQ.1 p e s m args below meth c B _ _ _ hX X' rfl (Fr.app hF hQ.2) (by omega) (by omega)
  exact ⟨s₂, v', L, stp.trans g1, g2⟩
theorem Run.callN {a0 : Array Value} {y : MethodName} {bytes : ByteArray} {mL : Nat} {rm : Room} {a : Addr} {as rest : List Value} {P : Heap → Prop} {i : Nat} {ps : List FieldType} {rr : Option FieldType}
    (hC : Con l Z n0 y bytes mL none rm (.ref a :: as).toArray h (Vd P)) (hy1 : y.name = "<init>") (hd : decode code pc = .ok (.invokespecial i, 3)) (w1 : (Cond.methodLink own i y).before a0 Z = true) (w2 : (Cond.instanceMethod y).before a0 Z = true) (w3 : (Cond.initialized y.cls).before a0 Z = true) (w4 : (Cond.code y bytes mL none).before a0 Z = true)
    (hy : y.cls ≠ "java/lang/invoke/MethodHandle" ∧ y.cls ≠ "java/lang/invoke/VarHandle") (hds : parseMethodDescriptor y.desc = some ⟨ps, rr⟩) (hl : as.length = ps.length) (hst : st = as.reverse ++ .ref a :: rest) (hsz : Ls.size = maxL)
    (hf : rm.frames + 1 ≤ R.frames) (hlo : (rest.map fun v => v.category).sum + (mL + 11) + rm.locals ≤ R.locals) (hk : k + rm.cells ≤ k') (hk' : k' ≤ R.cells) (hn : n + rm.slots ≤ n') (hn' : n' ≤ R.slots) (hp : pc + 3 = pc')
    (nxt : ∀ h', P h' → Run l Z n0 own code maxL ret nm R Q pc' Ls rest h' k' n') : Run l Z n0 own code maxL ret nm R Q pc Ls st h k n := by
  subst hp hst
  intro p e s m args below meth c T locs cells slots hX X eT hF hc hs
  obtain ⟨hx, hZ, hown, hby, hml, -⟩ := id hX
  obtain ⟨v, vm₁, ⟨B, L', cc, ss⟩, -, X', ⟨Lc, hQ, l1, y1, z1⟩, stp⟩ := X.specialBack hx (y := y) hy1 hown (mvT hZ w1) (mvT hZ w2) (mvT hZ w4) hy (backOf (W := (rest.map fun v => v.category).sum) (Q := fun v h L => Vd P v h ∧ Fr n0 L) (hC []) hZ w4 w3 hf hlo) (g := mkF m pc Ls (as.reverse ++ .ref a :: rest)) rfl (hsz.trans hml.symm) (Steps.refl _) (a := a) (argsL := as) (rest := rest) (lenOf hds hl) rfl (by show 2 * 0 + _ ≤ _; omega) (hb hby hd) (fun _ _ => ⟨rfl, eT, (by show cells + rm.cells ≤ R.cells; omega), (by show slots + rm.slots ≤ R.slots; omega)⟩)
  dsimp only [Pt.U, Pt.locs, Pt.cells, Pt.slots] at X' l1 y1 z1 stp hQ
  subst l1 y1 z1
  obtain ⟨⟨rfl, hP⟩, hL⟩ := hQ
  obtain ⟨s₂, v', L, g1, g2⟩ := nxt _ hP p e s m args below meth c B _ _ _ hX X' rfl (Fr.app hF hL) (by omega) (by omega)
  exact ⟨s₂, v', L, stp.trans g1, g2⟩
/-! the heap: new objects, fields written, arrays -/
theorem Run.wr {a : Addr} {sl : Nat} {v : Value} {Ls' : Array Slot} {st' : List Value} (f : ∀ (p : Program) (e : Env) (s : State) (m : MethodId) (args : Array Value) (below : List Frame) (meth : Method) (c : Code) (T : State) (locs : List Loc) (cells slots : Nat),
      Ctx Z own code maxL ret nm p s m meth c → Stand p l e R s m args below meth c T locs cells slots → T.heap = h → ∃ T' h', Stand p l e R s m args below meth c T' (locs ++ [⟨a, sl⟩]) cells slots ∧ T'.heap = h' ∧ Wr h h' a sl v ∧ ∀ t, Steps p.tables e below (T'.setTop (mkF m pc' Ls' st')) t → Steps p.tables e below (T.setTop (mkF m pc Ls st)) t)
    (ha : n0 ≤ a) (nxt : ∀ h', Wr h h' a sl v → Run l Z n0 own code maxL ret nm R Q pc' Ls' st' h' k n) : Run l Z n0 own code maxL ret nm R Q pc Ls st h k n := by
  intro p e s m args below meth c T locs cells slots hC X eT hF hk hn
  obtain ⟨T', h', X', e', W, stp⟩ := f p e s m args below meth c T locs cells slots hC X eT
  obtain ⟨s₂, v', L, g1, g2⟩ := nxt h' W p e s m args below meth c T' _ cells slots hC X' e' (Fr.snoc X' hF ha) hk hn
  exact ⟨s₂, v', L, stp _ g1, g2⟩
theorem Run.newO {a0 : Array Value} {C : String} {i sl : Nat} (hd : decode code pc = .ok (.new i, 3)) (w : (Cond.classLink own i C).before a0 Z = true) (wi : (Cond.instantiable C sl).before a0 Z = true) (wz : (Cond.initialized C).before a0 Z = true)
    (hk : k + 1 ≤ k') (hk' : k' ≤ R.cells) (hn : n + sl ≤ n') (hn' : n' ≤ R.slots) (hp : pc + 3 = pc')
    (nxt : ∀ h' a, a = h.size → Ext h h' → Exa Z h' a C → (∀ {O f d : String} {ty : FieldType}, Laid Z a0 C O f d → parseFieldDescriptor d = some ty → Fld Z h' a O f d (defaultValue ty)) → Run l Z n0 own code maxL ret nm R Q pc' Ls (.ref a :: st) h' k' n') : Run l Z n0 own code maxL ret nm R Q pc Ls st h k n := by
  subst hp
  intro p e s m args below meth c T locs cells slots hC X eT hF hkk hnn
  obtain ⟨T', h', X', e', E, A, D, -, stp⟩ := newO X hC.1 hC.2.1 hC.2.2.1 w wi wz eT (g := mkF m pc Ls st) rfl (hb hC.2.2.2.1 hd) (by omega) (by omega)
  obtain ⟨s₂, v, L, g1, g2⟩ := nxt h' h.size rfl E A D p e s m args below meth c T' locs _ _ hC X' e' hF (by omega) (by omega)
  exact ⟨s₂, v, L, stp _ g1, g2⟩
theorem Run.initO {a0 : Array Value} {i : Nat} {a : Addr} (hd : decode code pc = .ok (.invokespecial i, 3)) (w1 : (Cond.methodLink own i Lib.objectInit).before a0 Z = true) (w2 : (Cond.instanceMethod Lib.objectInit).before a0 Z = true) (w3 : (Cond.code Lib.objectInit ⟨#[0xb1]⟩ 1 none).before a0 Z = true)
    (hsz : Ls.size = maxL) (hf : 1 ≤ R.frames) (hl : (st.map fun v => v.category).sum + 12 ≤ R.locals) (hp : pc + 3 = pc') (nxt : Run l Z n0 own code maxL ret nm R Q pc' Ls st h k n) : Run l Z n0 own code maxL ret nm R Q pc Ls (.ref a :: st) h k n := by
  subst hp
  exact Run.via (fun p e s m args below meth c T locs cells slots hC X eT => initO X hC.1 hC.2.1 hC.2.2.1 w1 w2 w3 eT (g := mkF m pc Ls (.ref a :: st)) rfl (hsz.trans hC.2.2.2.2.1.symm) rfl (hb hC.2.2.2.1 hd) hf (W := (st.map fun v => v.category).sum) (by show 2 * 0 + _ ≤ _; omega) hl) nxt
theorem Run.putF {a0 : Array Value} {R0 O f d host C : String} {i sl : Nat} {ty : FieldType} {a : Addr} {v old : Value} (hd : decode code pc = .ok (.putfield i, 3)) (w : (Cond.fieldLink own i R0 f d).before a0 Z = true ∨ (Cond.fieldLinkNest own i R0 f d host).before a0 Z = true) (via : Via Z R0 O f d) (F : Fld Z h a O f d old) (E : Exa Z h a C)
    (L : (Cond.lays C O f d).before a0 Z = true ∨ ((Cond.laysFinal C O f d).before a0 Z = true ∧ own = O ∧ nm = "<init>")) (wi : (Cond.instantiable C sl).before a0 Z = true) (hty : parseFieldDescriptor d = some ty) (hnv : narrow ty v = v) (hfv : fits ty v = true) (ha : n0 ≤ a) (hp : pc + 3 = pc')
    (nxt : ∀ h', Wr h h' a (Jvm.RoadKit.slotOf Z O f d) v → Run l Z n0 own code maxL ret nm R Q pc' Ls st h' k n) : Run l Z n0 own code maxL ret nm R Q pc Ls (v :: .ref a :: st) h k n := by
  subst hp
  exact Run.wr (fun p e s m args below meth c T locs cells slots hC X eT => putF X hC.1 hC.2.1 hC.2.2.1 w via eT F E (L.imp id fun q => ⟨q.1, q.2.1, hC.2.2.2.2.2.2.2.trans q.2.2⟩) wi hty hnv hfv (g := mkF m pc Ls (v :: .ref a :: st)) rfl rfl (hb hC.2.2.2.1 hd)) ha nxt
theorem Run.putFN {a0 : Array Value} {R0 O f d C : String} {i sl : Nat} {ty : FieldType} {a : Addr} {v v' old : Value} (hd : decode code pc = .ok (.putfield i, 3)) (w : (Cond.fieldLink own i R0 f d).before a0 Z = true) (via : Via Z R0 O f d) (F : Fld Z h a O f d old) (E : Exa Z h a C)
    (L : (Cond.lays C O f d).before a0 Z = true ∨ ((Cond.laysFinal C O f d).before a0 Z = true ∧ own = O ∧ nm = "<init>")) (wi : (Cond.instantiable C sl).before a0 Z = true) (hty : parseFieldDescriptor d = some ty) (hnv : narrow ty v = v') (hfv : fits ty v' = true) (ha : n0 ≤ a) (hp : pc + 3 = pc')
    (nxt : ∀ h', Wr h h' a (Jvm.RoadKit.slotOf Z O f d) v' → Run l Z n0 own code maxL ret nm R Q pc' Ls st h' k n) : Run l Z n0 own code maxL ret nm R Q pc Ls (v :: .ref a :: st) h k n := by
  subst hp
  exact Run.wr (fun p e s m args below meth c T locs cells slots hC X eT => putFN X hC.1 hC.2.1 hC.2.2.1 w via eT F E (L.imp id fun q => ⟨q.1, q.2.1, hC.2.2.2.2.2.2.2.trans q.2.2⟩) wi hty hnv hfv (g := mkF m pc Ls (v :: .ref a :: st)) rfl rfl (hb hC.2.2.2.1 hd)) ha nxt
theorem Run.castY {a0 : Array Value} {K : String} {i : Nat} {a : Addr} (hd : decode code pc = .ok (.checkcast i, 3)) (w : (Cond.classLink own i K).before a0 Z = true) (F : Ins Z h a K true) (hp : pc + 3 = pc') (nxt : Run l Z n0 own code maxL ret nm R Q pc' Ls (.ref a :: st) h k n) : Run l Z n0 own code maxL ret nm R Q pc Ls (.ref a :: st) h k n := by
  subst hp
  exact Run.via (fun p e s m args below meth c T locs cells slots hC X eT => castY X hC.1 hC.2.1 hC.2.2.1 w eT F (g := mkF m pc Ls (.ref a :: st)) rfl rfl (hb hC.2.2.2.1 hd)) nxt
theorem Run.castNull {i : Nat} (hd : decode code pc = .ok (.checkcast i, 3)) (hp : pc + 3 = pc') (nxt : Run l Z n0 own code maxL ret nm R Q pc' Ls (.null :: st) h k n) : Run l Z n0 own code maxL ret nm R Q pc Ls (.null :: st) h k n := by
  subst hp
  exact Run.via (fun p e s m args below meth c T locs cells slots hC X eT => ⟨T, X, eT, fun t q => X.checkcastNull hC.1 (g := mkF m pc Ls (.null :: st)) rfl rfl (hb hC.2.2.2.1 hd) t q⟩) nxt
theorem Run.instY {a0 : Array Value} {K : String} {i : Nat} {a : Addr} (hd : decode code pc = .ok (.instanceof i, 3)) (w : (Cond.classLink own i K).before a0 Z = true) (F : Ins Z h a K true) (hp : pc + 3 = pc') (nxt : Run l Z n0 own code maxL ret nm R Q pc' Ls (.int 1 :: st) h k n) : Run l Z n0 own code maxL ret nm R Q pc Ls (.ref a :: st) h k n := by
  subst hp
  exact Run.via (fun p e s m args below meth c T locs cells slots hC X eT => instY X hC.1 hC.2.1 hC.2.2.1 w eT F (g := mkF m pc Ls (.ref a :: st)) rfl rfl (hb hC.2.2.2.1 hd)) nxt
theorem Run.instNo {a0 : Array Value} {K C : String} {i : Nat} {a : Addr} (hd : decode code pc = .ok (.instanceof i, 3)) (w : (Cond.classLink own i K).before a0 Z = true) (E : Exa Z h a C) (F : ∃ c t, Z.vm.findClass C = some c ∧ Z.vm.findClass K = some t ∧ Z.vm.assignable c t = false) (hp : pc + 3 = pc') (nxt : Run l Z n0 own code maxL ret nm R Q pc' Ls (.int 0 :: st) h k n) : Run l Z n0 own code maxL ret nm R Q pc Ls (.ref a :: st) h k n := by
  subst hp
  exact Run.via (fun p e s m args below meth c T locs cells slots hC X eT => instNo X hC.1 hC.2.1 hC.2.2.1 w eT E F (g := mkF m pc Ls (.ref a :: st)) rfl rfl (hb hC.2.2.2.1 hd)) nxt
theorem Run.instNull {i : Nat} (hd : decode code pc = .ok (.instanceof i, 3)) (hp : pc + 3 = pc') (nxt : Run l Z n0 own code maxL ret nm R Q pc' Ls (.int 0 :: st) h k n) : Run l Z n0 own code maxL ret nm R Q pc Ls (.null :: st) h k n := by
  subst hp
  exact Run.via (fun p e s m args below meth c T locs cells slots hC X eT => ⟨T, X, eT, fun t q => X.instanceofNull hC.1 (g := mkF m pc Ls (.null :: st)) rfl rfl (hb hC.2.2.2.1 hd) t q⟩) nxt
/-- the array at a holds just the list vs -/
def Ary (Z : State) (h : Heap) (a : Addr) (ty : FieldType) (vs : List Value) : Prop := ∃ c : Cell, Arr Z h a c ty ∧ c.slots.toList = vs
section Ar
variable {h' : Heap} {a b : Addr} {ty : FieldType} {vs : List Value} {sl : Nat} {v : Value} {ws : List Addr}
theorem Ary.lt (F : Ary Z h a ty vs) : a < h.size := by obtain ⟨c, A, -⟩ := F; exact A.lt
theorem Ary.ext (F : Ary Z h a ty vs) (E : Ext h h') : Ary Z h' a ty vs := by obtain ⟨c, A, r⟩ := F; exact ⟨c, A.ext E, r⟩
theorem Ary.other (F : Ary Z h b ty vs) (W : Wr h h' a sl v) (q : b ≠ a) : Ary Z h' b ty vs := by obtain ⟨c, A, r⟩ := F; exact ⟨c, A.other W q, r⟩
theorem Ary.keep (F : Ary Z h a ty vs) (K : Keep h h' ws) (q : a ∉ ws) : Ary Z h' a ty vs := by obtain ⟨c, A, r⟩ := F; exact ⟨c, ⟨K.2.1 a c A.1 q, A.2⟩, r⟩
theorem Ary.set (F : Ary Z h a ty vs) (W : Wr h h' a sl v) : Ary Z h' a ty (vs.set sl v) := by
  obtain ⟨c, A, r⟩ := F
  exact ⟨_, A.same W, by rw [← r]; simp [Cell.setSlot]⟩
theorem Ext.refl (h : Heap) : Ext h h := ⟨Nat.le_refl _, fun _ _ q => q⟩
theorem Ext.trans {h0 : Heap} (E : Ext h0 h) (E' : Ext h h') : Ext h0 h' := ⟨Nat.le_trans E.1 E'.1, fun a c q => E'.2 a c (E.2 a c q)⟩
theorem Ext.wr {h0 : Heap} (E : Ext h0 h) (W : Wr h h' a sl v) (q : h0.size ≤ a) : Ext h0 h' := by
  refine ⟨Nat.le_trans E.1 (Nat.le_of_eq W.size.symm), fun b c hb => ?_⟩
  obtain ⟨c', e1, -, -, -, e5, -⟩ := wr_at W (E.2 b c hb)
  have : b ≠ a := fun z => by subst z; exact absurd (Array.getElem?_eq_some_iff.mp hb).1 (Nat.not_lt.mpr q)
  rw [← e5 this]; exact e1
theorem Ext.keep {h0 : Heap} (E : Ext h0 h) (K : Keep h h' ws) (q : ∀ x ∈ ws, h0.size ≤ x) : Ext h0 h' :=
  ⟨Nat.le_trans E.1 K.1, fun b c hb => K.2.1 b c (E.2 b c hb) fun z => absurd (Array.getElem?_eq_some_iff.mp hb).1 (Nat.not_lt.mpr (q b z))⟩
theorem Keep.toExt (K : Keep h h' []) : Ext h h' := ⟨K.1, fun b c hb => K.2.1 b c hb nin0⟩
theorem own_fitsR {t : FieldType} (ht : refKind t = true) (hv : v.isRef = true) : fits t v = true := by cases t <;> first | (cases ht; done) | (cases v <;> first | rfl | cases hv)
theorem nst_exa {C : String} (E : Exa Z h a C) : ∃ c : Cell, h[a]? = some c ∧ c.vm.isStatics = false := by obtain ⟨c, _, h1, -, -, h4, -⟩ := E; exact ⟨c, h1, h4⟩
theorem nst_ary (A : Ary Z h a ty vs) : ∃ c : Cell, h[a]? = some c ∧ c.vm.isStatics = false := by obtain ⟨c, A, -⟩ := A; exact ⟨c, A.1, A.plain⟩
theorem sta_keep {C f d : String} (F : Sta Z h C f d v) (K : Keep h h' ws) (q : ∀ x ∈ ws, ∃ c : Cell, h[x]? = some c ∧ c.vm.isStatics = false) : Sta Z h' C f d v := by
  obtain ⟨cf, i, k, f, st, cell, h1, h2, h3, h4, h5, h6, h7⟩ := F
  refine ⟨cf, i, k, f, st, cell, h1, h2, h3, h4, K.2.1 st cell h5 fun hx => ?_, h6, h7⟩
  obtain ⟨c, e1, e2⟩ := q st hx
  cases e1.symm.trans h5
  rw [h6] at e2; cases e2
theorem Keep.ofExt (E : Ext h h') : Keep h h' [] := (Keep.refl h []).ext E
theorem idxIn {c : Cell} {j : Int32} {i : Nat} (hj : j.toInt = (i : Int)) (hi : i < c.slots.size) : ¬ (j < 0 ∨ c.slots.size ≤ j.toNatClampNeg) ∧ j.toNatClampNeg = i := by
  have e : j.toNatClampNeg = i := by have : j.toNatClampNeg = j.toInt.toNat := rfl; rw [this, hj]; rfl
  refine ⟨fun q => ?_, e⟩
  rcases q with q | q
  · rw [Int32.lt_iff_toInt_lt, hj] at q; have : (0 : Int32).toInt = 0 := rfl; omega
  · omega
theorem sizeOf {c : Cell} (r : c.slots.toList = vs) : c.slots.size = vs.length := by rw [← r]; simp
theorem getOf {c : Cell} {i : Nat} (r : c.slots.toList = vs) (hv : vs[i]? = some v) : c.slots[i]? = some v := by rw [← r] at hv; simpa using hv
end Ar
theorem ns_root {a0 : Array Value} {O K : String} {m : Nat} (w : (Cond.noSuperclass O).before a0 Z = true) (wk : (Cond.instantiable K m).before a0 Z = true) (hn : O ≠ K) : NS Z O K := by
  obtain ⟨c, k, h1, h2, h3, -, -⟩ := Cond.noSuperclass_spec w
  obtain ⟨t, k2, g1, -⟩ := Cond.instantiable_spec wk
  have ne := ids_ne h1 g1 hn
  refine ⟨c, t, h1, g1, fun fuel => ?_⟩
  cases fuel with
  | zero => rfl
  | succ f => simp [Vm.isSubclassAux, ne, h2, h3]
theorem ns_no {a0 : Array Value} {C S K : String} {m : Nat} (w : (Cond.superclass C S).before a0 Z = true) (wk : (Cond.instantiable K m).before a0 Z = true) (n : NS Z C K) (hn : C ≠ K) : ∃ c t, Z.vm.findClass C = some c ∧ Z.vm.findClass K = some t ∧ Z.vm.assignable c t = false := by
  obtain ⟨c, t, h0, g0, n3⟩ := n
  obtain ⟨p, k, kp, h1, h2, h3, h4, h5, -, h7⟩ := Cond.superclass_spec h0 w
  obtain ⟨t', k', g1, g2, g5, g7, -⟩ := Cond.instantiable_spec wk
  cases g0.symm.trans g1
  have ne := ids_ne h0 g0 hn
  have g8 : k'.isInterface = false := by cases hq : k'.isInterface <;> simp [hq] at g7 ⊢
  refine ⟨c, t, h0, g0, ?_⟩
  show Z.vm.assignableAux (255 + 1) c t = false
  simp [Vm.assignableAux, ne, h2, g2, h5, g5, g8, Vm.isSubclass, n3]
theorem Run.alen {a : Addr} {ty : FieldType} {vs : List Value} {z : Int32} (hd : decode code pc = .ok (.arraylength, 1)) (A : Ary Z h a ty vs) (hz : vs.length.toInt32 = z) (hp : pc + 1 = pc') (nxt : Run l Z n0 own code maxL ret nm R Q pc' Ls (.int z :: st) h k n) : Run l Z n0 own code maxL ret nm R Q pc Ls (.ref a :: st) h k n := by
  subst hp hz
  obtain ⟨c0, A, r⟩ := A
  exact Run.via (fun p e s m args below meth c T locs cells slots hC X eT => ⟨T, X, eT, fun t q => X.arraylength hC.1 (by rw [eT]; exact A.1) (State.isArrayOf_alike hC.2.1.alike A.2.1) (g := mkF m pc Ls (.ref a :: st)) rfl rfl (hb hC.2.2.2.1 hd) t (by rw [sizeOf r]; exact q)⟩) nxt
theorem Run.iaload {a : Addr} {vs : List Value} {j : Int32} {i : Nat} {v : Value} (hd : decode code pc = .ok (.iaload, 1)) (A : Ary Z h a .int vs) (hj : j.toInt = (i : Int)) (hv : vs[i]? = some v) (hp : pc + 1 = pc') (nxt : Run l Z n0 own code maxL ret nm R Q pc' Ls (v :: st) h k n) : Run l Z n0 own code maxL ret nm R Q pc Ls (.int j :: .ref a :: st) h k n := by
  subst hp
  obtain ⟨c0, A, r⟩ := A
  obtain ⟨hin, e0⟩ := idxIn (c := c0) hj (by rw [sizeOf r]; exact (List.getElem?_eq_some_iff.mp hv).1)
  exact Run.via (fun p e s m args below meth c T locs cells slots hC X eT => ⟨T, X, eT, fun t q => X.iaload hC.1 (by rw [eT]; exact A.1) (State.isArrayOf_alike hC.2.1.alike A.2.1) A.2.2 hin (by rw [e0]; exact getOf r hv) (g := mkF m pc Ls (.int j :: .ref a :: st)) rfl rfl (hb hC.2.2.2.1 hd) t q⟩) nxt
theorem Run.laload {a : Addr} {vs : List Value} {j : Int32} {i : Nat} {v : Value} (hd : decode code pc = .ok (.laload, 1)) (A : Ary Z h a .long vs) (hj : j.toInt = (i : Int)) (hv : vs[i]? = some v) (hp : pc + 1 = pc') (nxt : Run l Z n0 own code maxL ret nm R Q pc' Ls (v :: st) h k n) : Run l Z n0 own code maxL ret nm R Q pc Ls (.int j :: .ref a :: st) h k n := by
  subst hp
  obtain ⟨c0, A, r⟩ := A
  obtain ⟨hin, e0⟩ := idxIn (c := c0) hj (by rw [sizeOf r]; exact (List.getElem?_eq_some_iff.mp hv).1)
  exact Run.via (fun p e s m args below meth c T locs cells slots hC X eT => ⟨T, X, eT, fun t q => X.laload hC.1 (by rw [eT]; exact A.1) (State.isArrayOf_alike hC.2.1.alike A.2.1) A.2.2 hin (by rw [e0]; exact getOf r hv) (g := mkF m pc Ls (.int j :: .ref a :: st)) rfl rfl (hb hC.2.2.2.1 hd) t q⟩) nxt
theorem Run.caload {a : Addr} {vs : List Value} {j : Int32} {i : Nat} {v : Value} (hd : decode code pc = .ok (.caload, 1)) (A : Ary Z h a .char vs) (hj : j.toInt = (i : Int)) (hv : vs[i]? = some v) (hp : pc + 1 = pc') (nxt : Run l Z n0 own code maxL ret nm R Q pc' Ls (v :: st) h k n) : Run l Z n0 own code maxL ret nm R Q pc Ls (.int j :: .ref a :: st) h k n := by
  subst hp
  obtain ⟨c0, A, r⟩ := A
  obtain ⟨hin, e0⟩ := idxIn (c := c0) hj (by rw [sizeOf r]; exact (List.getElem?_eq_some_iff.mp hv).1)
  exact Run.via (fun p e s m args below meth c T locs cells slots hC X eT => ⟨T, X, eT, fun t q => X.caload hC.1 (by rw [eT]; exact A.1) (State.isArrayOf_alike hC.2.1.alike A.2.1) A.2.2 hin (by rw [e0]; exact getOf r hv) (g := mkF m pc Ls (.int j :: .ref a :: st)) rfl rfl (hb hC.2.2.2.1 hd) t q⟩) nxt
theorem Run.saload {a : Addr} {vs : List Value} {j : Int32} {i : Nat} {v : Value} (hd : decode code pc = .ok (.saload, 1)) (A : Ary Z h a .short vs) (hj : j.toInt = (i : Int)) (hv : vs[i]? = some v) (hp : pc + 1 = pc') (nxt : Run l Z n0 own code maxL ret nm R Q pc' Ls (v :: st) h k n) : Run l Z n0 own code maxL ret nm R Q pc Ls (.int j :: .ref a :: st) h k n := by
  subst hp
  obtain ⟨c0, A, r⟩ := A
  obtain ⟨hin, e0⟩ := idxIn (c := c0) hj (by rw [sizeOf r]; exact (List.getElem?_eq_some_iff.mp hv).1)
  exact Run.via (fun p e s m args below meth c T locs cells slots hC X eT => ⟨T, X, eT, fun t q => X.saload hC.1 (by rw [eT]; exact A.1) (State.isArrayOf_alike hC.2.1.alike A.2.1) A.2.2 hin (by rw [e0]; exact getOf r hv) (g := mkF m pc Ls (.int j :: .ref a :: st)) rfl rfl (hb hC.2.2.2.1 hd) t q⟩) nxt
theorem Run.baload {a : Addr} {vs : List Value} {j : Int32} {i : Nat} {v : Value} (hd : decode code pc = .ok (.baload, 1)) (A : Ary Z h a .byte vs) (hj : j.toInt = (i : Int)) (hv : vs[i]? = some v) (hp : pc + 1 = pc') (nxt : Run l Z n0 own code maxL ret nm R Q pc' Ls (v :: st) h k n) : Run l Z n0 own code maxL ret nm R Q pc Ls (.int j :: .ref a :: st) h k n := by
  subst hp
  obtain ⟨c0, A, r⟩ := A
  obtain ⟨hin, e0⟩ := idxIn (c := c0) hj (by rw [sizeOf r]; exact (List.getElem?_eq_some_iff.mp hv).1)
  exact Run.via (fun p e s m args below meth c T locs cells slots hC X eT => ⟨T, X, eT, fun t q => X.baloadBytes hC.1 (by rw [eT]; exact A.1) (State.isArrayOf_alike hC.2.1.alike A.2.1) A.2.2 hin (by rw [e0]; exact getOf r hv) (g := mkF m pc Ls (.int j :: .ref a :: st)) rfl rfl (hb hC.2.2.2.1 hd) t q⟩) nxt
theorem Run.aaload {a : Addr} {vs : List Value} {j : Int32} {i : Nat} {v : Value} {ty : FieldType} (hd : decode code pc = .ok (.aaload, 1)) (A : Ary Z h a ty vs) (hty : ty.isReference = true) (hj : j.toInt = (i : Int)) (hv : vs[i]? = some v) (hp : pc + 1 = pc') (nxt : Run l Z n0 own code maxL ret nm R Q pc' Ls (v :: st) h k n) : Run l Z n0 own code maxL ret nm R Q pc Ls (.int j :: .ref a :: st) h k n := by
  subst hp
  obtain ⟨c0, A, r⟩ := A
  obtain ⟨hin, e0⟩ := idxIn (c := c0) hj (by rw [sizeOf r]; exact (List.getElem?_eq_some_iff.mp hv).1)
  exact Run.via (fun p e s m args below meth c T locs cells slots hC X eT => ⟨T, X, eT, fun t q => X.aaload hC.1 (by rw [eT]; exact A.1) (State.isArrayOf_alike hC.2.1.alike A.2.1) hty A.2.2 hin (by rw [e0]; exact getOf r hv) (g := mkF m pc Ls (.int j :: .ref a :: st)) rfl rfl (hb hC.2.2.2.1 hd) t q⟩) nxt
theorem Run.iastore {a : Addr} {vs : List Value} {j : Int32} {i : Nat} {x : Int32} (hd : decode code pc = .ok (.iastore, 1)) (A : Ary Z h a .int vs) (hj : j.toInt = (i : Int)) (hi : i < vs.length) (ha : n0 ≤ a) (hp : pc + 1 = pc') (nxt : ∀ h', Wr h h' a i (.int x) → Ary Z h' a .int (vs.set i (.int x)) → Run l Z n0 own code maxL ret nm R Q pc' Ls st h' k n) : Run l Z n0 own code maxL ret nm R Q pc Ls (.int x :: .int j :: .ref a :: st) h k n := by
  subst hp
  have A' := A
  obtain ⟨c0, A, r⟩ := A
  obtain ⟨hin, e0⟩ := idxIn (c := c0) hj (by rw [sizeOf r]; exact hi)
  refine Run.wr (fun p e s m args below meth c T locs cells slots hC X eT => ?_) ha (fun h' W => nxt h' W (A'.set W))
  have q := stI X hC.1 hC.2.1 eT A hin (g := mkF m pc Ls (.int x :: .int j :: .ref a :: st)) rfl rfl (hb hC.2.2.2.1 hd)
  rw [e0] at q
  exact q
theorem Run.lastore {a : Addr} {vs : List Value} {j : Int32} {i : Nat} {x : Int64} (hd : decode code pc = .ok (.lastore, 1)) (A : Ary Z h a .long vs) (hj : j.toInt = (i : Int)) (hi : i < vs.length) (ha : n0 ≤ a) (hp : pc + 1 = pc') (nxt : ∀ h', Wr h h' a i (.long x) → Ary Z h' a .long (vs.set i (.long x)) → Run l Z n0 own code maxL ret nm R Q pc' Ls st h' k n) : Run l Z n0 own code maxL ret nm R Q pc Ls (.long x :: .int j :: .ref a :: st) h k n := by
  subst hp
  have A' := A
  obtain ⟨c0, A, r⟩ := A
  obtain ⟨hin, e0⟩ := idxIn (c := c0) hj (by rw [sizeOf r]; exact hi)
  refine Run.wr (fun p e s m args below meth c T locs cells slots hC X eT => ?_) ha (fun h' W => nxt h' W (A'.set W))
  have q := stJ X hC.1 hC.2.1 eT A hin (g := mkF m pc Ls (.long x :: .int j :: .ref a :: st)) rfl rfl (hb hC.2.2.2.1 hd)
  rw [e0] at q
  exact q
theorem Run.castore {a : Addr} {vs : List Value} {j : Int32} {i : Nat} {x : Int32} (hd : decode code pc = .ok (.castore, 1)) (A : Ary Z h a .char vs) (hj : j.toInt = (i : Int)) (hi : i < vs.length) (ha : n0 ≤ a) (hp : pc + 1 = pc') (nxt : ∀ h', Wr h h' a i (.int (nar .char x)) → Ary Z h' a .char (vs.set i (.int (nar .char x))) → Run l Z n0 own code maxL ret nm R Q pc' Ls st h' k n) : Run l Z n0 own code maxL ret nm R Q pc Ls (.int x :: .int j :: .ref a :: st) h k n := by
  subst hp
  have A' := A
  obtain ⟨c0, A, r⟩ := A
  obtain ⟨hin, e0⟩ := idxIn (c := c0) hj (by rw [sizeOf r]; exact hi)
  refine Run.wr (fun p e s m args below meth c T locs cells slots hC X eT => ?_) ha (fun h' W => nxt h' W (A'.set W))
  have q := stC X hC.1 hC.2.1 eT A hin (g := mkF m pc Ls (.int x :: .int j :: .ref a :: st)) rfl rfl (hb hC.2.2.2.1 hd)
  rw [e0] at q
  exact q
theorem Run.sastore {a : Addr} {vs : List Value} {j : Int32} {i : Nat} {x : Int32} (hd : decode code pc = .ok (.sastore, 1)) (A : Ary Z h a .short vs) (hj : j.toInt = (i : Int)) (hi : i < vs.length) (ha : n0 ≤ a) (hp : pc + 1 = pc') (nxt : ∀ h', Wr h h' a i (.int (nar .short x)) → Ary Z h' a .short (vs.set i (.int (nar .short x))) → Run l Z n0 own code maxL ret nm R Q pc' Ls st h' k n) : Run l Z n0 own code maxL ret nm R Q pc Ls (.int x :: .int j :: .ref a :: st) h k n := by
  subst hp
  have A' := A
  obtain ⟨c0, A, r⟩ := A
  obtain ⟨hin, e0⟩ := idxIn (c := c0) hj (by rw [sizeOf r]; exact hi)
  refine Run.wr (fun p e s m args below meth c T locs cells slots hC X eT => ?_) ha (fun h' W => nxt h' W (A'.set W))
  have q := stS X hC.1 hC.2.1 eT A hin (g := mkF m pc Ls (.int x :: .int j :: .ref a :: st)) rfl rfl (hb hC.2.2.2.1 hd)
  rw [e0] at q
  exact q
theorem Run.bastore {a : Addr} {vs : List Value} {j : Int32} {i : Nat} {x : Int32} (hd : decode code pc = .ok (.bastore, 1)) (A : Ary Z h a .byte vs) (hj : j.toInt = (i : Int)) (hi : i < vs.length) (ha : n0 ≤ a) (hp : pc + 1 = pc') (nxt : ∀ h', Wr h h' a i (.int (nar .byte x)) → Ary Z h' a .byte (vs.set i (.int (nar .byte x))) → Run l Z n0 own code maxL ret nm R Q pc' Ls st h' k n) : Run l Z n0 own code maxL ret nm R Q pc Ls (.int x :: .int j :: .ref a :: st) h k n := by
  subst hp
  have A' := A
  obtain ⟨c0, A, r⟩ := A
  obtain ⟨hin, e0⟩ := idxIn (c := c0) hj (by rw [sizeOf r]; exact hi)
  refine Run.wr (fun p e s m args below meth c T locs cells slots hC X eT => ?_) ha (fun h' W => nxt h' W (A'.set W))
  have q := stB X hC.1 hC.2.1 eT A hin (g := mkF m pc Ls (.int x :: .int j :: .ref a :: st)) rfl rfl (hb hC.2.2.2.1 hd)
  rw [e0] at q
  exact q
theorem Run.newP {a0 : Array Value} {aty : ArrayType} {ty : FieldType} {z : Int32} {cap m : Nat} {dv : Value} (hd : decode code pc = .ok (.newarray aty, 2)) (hty : newarray.typeOf aty = ty) (w : (Cond.arrayClass ty).before a0 Z = true) (hz : ¬ z < 0) (hcap : z.toNatClampNeg = m) (hm : m ≤ cap) (hdv : defaultValue ty = dv) (hcb : cap * 8 ≤ 536870912)
    (hk : k + 1 ≤ k') (hk' : k' ≤ R.cells) (hn : n + cap ≤ n') (hn' : n' ≤ R.slots) (hp : pc + 2 = pc')
    (nxt : ∀ h' a, a = h.size → Ext h h' → Ary Z h' a ty (List.replicate m dv) → Run l Z n0 own code maxL ret nm R Q pc' Ls (.ref a :: st) h' k' n') : Run l Z n0 own code maxL ret nm R Q pc Ls (.int z :: st) h k n := by
  subst hp hty hdv
  intro p e s m args below meth c T locs cells slots hC X eT hF hkk hnn
  obtain ⟨T', h', cA, X', e', E, A, stp⟩ := newP X hC.1 hC.2.1 w eT (g := mkF m pc Ls (.int z :: st)) rfl (hb hC.2.2.2.1 hd) rfl hz (by omega) hcb (by omega) (by omega)
  obtain ⟨s₂, v, L, g1, g2⟩ := nxt h' h.size rfl E ⟨_, A, by simp [newA, hcap]⟩ p e s m args below meth c T' locs _ _ hC X' e' hF (by omega) (by omega)
  exact ⟨s₂, v, L, stp _ g1, g2⟩
theorem Ary.toArv {h : Heap} {a : Addr} {ty : FieldType} {vs : List Value} {z : Int32} (dv : Value) (F : Ary Z h a ty vs) (hz : z.toInt = (vs.length : Int)) (hf : ∀ v ∈ vs, fits ty v = true) : ∃ kc, Arv Z h a kc ty z vs dv := by
  obtain ⟨c, A, r⟩ := F
  have hsz := sizeOf r
  have e : z.toNatClampNeg = vs.length := by have : z.toNatClampNeg = z.toInt.toNat := rfl; rw [this, hz]; rfl
  refine ⟨c.cls, c, A, rfl, by rw [e, hsz], ?_, fun j hj => ?_, fun j hj => ?_⟩
  · rw [Int32.lt_iff_toInt_lt, hz]; have : (0 : Int32).toInt = 0 := rfl; omega
  · have hj' : j < vs.length := by omega
    rw [getOf r (List.getElem?_eq_getElem hj')]
    simp [List.getD_eq_getElem?_getD, List.getElem?_eq_getElem hj']
  · have hj' : j < vs.length := by omega
    have q := hf _ (List.getElem_mem hj')
    simpa [List.getD_eq_getElem?_getD, List.getElem?_eq_getElem hj'] using q
theorem Ary.ofArv {h : Heap} {a : Addr} {ty : FieldType} {vs : List Value} {z : Int32} {dv : Value} {kc : ClassId} (F : Arv Z h a kc ty z vs dv) (hz : z.toInt = (vs.length : Int)) : Ary Z h a ty vs := by
  obtain ⟨c, A, -, S, -, H, -⟩ := F
  have e : z.toNatClampNeg = vs.length := by have : z.toNatClampNeg = z.toInt.toNat := rfl; rw [this, hz]; rfl
  refine ⟨c, A, List.ext_getElem? fun j => ?_⟩
  by_cases hj : j < vs.length
  · have q := H j (by omega)
    rw [Array.getElem?_toList, q]
    simp [List.getD_eq_getElem?_getD, List.getElem?_eq_getElem hj]
  · rw [List.getElem?_eq_none (l := c.slots.toList) (by rw [Array.length_toList]; omega), List.getElem?_eq_none (l := vs) (by omega)]
/-- System.arraycopy(a, 0, b, 0, a.length) of plain components -/
theorem Run.acopy {a0 : Array Value} {i : Nat} {a b : Addr} {ty : FieldType} {vs us : List Value} {z z' : Int32} (hd : decode code pc = .ok (.invokestatic i, 3)) (w1 : (Cond.methodLink own i Jvm.Stand.acN).before a0 Z = true) (w2 : (Cond.native Jvm.Stand.acN).before a0 Z = true) (w3 : (Cond.static Jvm.Stand.acN).before a0 Z = true) (w4 : (Cond.initialized "java/lang/System").before a0 Z = true)
    (A : Ary Z h a ty vs) (B : Ary Z h b ty us) (hk : refKind ty = false) (hz : z.toInt = (vs.length : Int)) (hz' : z'.toInt = (us.length : Int)) (hle : vs.length ≤ us.length) (fa : ∀ v ∈ vs, fits ty v = true) (fb : ∀ v ∈ us, fits ty v = true) (ge : n0 ≤ b)
    (hsz : Ls.size = maxL) (hf : 1 ≤ R.frames) (hl : (st.map fun v => v.category).sum + (nativeFrameWords "java/lang/System" "arraycopy" 5 + 11) ≤ R.locals) (hp : pc + 3 = pc')
    (nxt : ∀ h', Keep h h' [b] → Ary Z h' b ty (vs ++ us.drop vs.length) → Run l Z n0 own code maxL ret nm R Q pc' Ls st h' k n) : Run l Z n0 own code maxL ret nm R Q pc Ls (.int z :: .int 0 :: .ref b :: .int 0 :: .ref a :: st) h k n := by
  subst hp
  intro p e s m args below meth c T locs cells slots hC X eT hF hkk hnn
  obtain ⟨k1, A1⟩ := A.toArv (z := z) .null hz fa
  obtain ⟨k2, B1⟩ := B.toArv (z := z') .null hz' fb
  have e1 : z.toNatClampNeg = vs.length := by have : z.toNatClampNeg = z.toInt.toNat := rfl; rw [this, hz]; rfl
  have e2 : z'.toNatClampNeg = us.length := by have : z'.toNatClampNeg = z'.toInt.toNat := rfl; rw [this, hz']; rfl
  have e0 : (0 : Int32).toNatClampNeg = 0 := rfl
  have n1 : ¬ z < 0 := by rw [Int32.lt_iff_toInt_lt, hz]; have : (0 : Int32).toInt = 0 := rfl; omega
  have hus : vs = (List.range z.toNatClampNeg).map fun j => vs.getD ((0 : Int32).toNatClampNeg + j) .null := by
    rw [e1, e0]
    apply List.ext_getElem?
    intro j
    by_cases hj : j < vs.length
    · simp [hj, List.getD_eq_getElem?_getD]
    · rw [List.getElem?_eq_none (by omega), List.getElem?_eq_none (by simp; omega)]
  obtain ⟨T', h', L, X', e', N', K, B', stp⟩ := cpA X hC.1 hC.2.1 hC.2.2.1 w1 w2 w3 w4 eT A1 B1 (Or.inl ⟨rfl, hk⟩) (by decide) (by decide) n1 (by rw [e0]; omega) (by rw [e0]; omega) hus (by rw [e0]; omega) hF ge (g := mkF m pc Ls (.int z :: .int 0 :: .ref b :: .int 0 :: .ref a :: st)) rfl (hsz.trans hC.2.2.2.2.1.symm) rfl (hb hC.2.2.2.1 hd) hf (W := (st.map fun v => v.category).sum) (by show 2 * 0 + _ ≤ _; omega) hl
  have hB : Ary Z h' b ty (vs ++ us.drop vs.length) := by
    have q : us.take (0 : Int32).toNatClampNeg ++ vs ++ us.drop ((0 : Int32).toNatClampNeg + z.toNatClampNeg) = vs ++ us.drop vs.length := by rw [e0, e1]; simp
    rw [q] at B'
    exact Ary.ofArv B' (by rw [hz']; simp; omega)
  obtain ⟨s₂, v, L2, g1, g2⟩ := nxt h' K hB p e s m args below meth c T' L cells slots hC X' e' N' hkk hnn
  exact ⟨s₂, v, L2, stp _ g1, g2⟩
/-- System.arraycopy of a part -/
theorem Run.acopyG {a0 : Array Value} {ix i j m : Nat} {a b : Addr} {ty : FieldType} {vs us : List Value} {z z1 z' sp dp : Int32} (hd : decode code pc = .ok (.invokestatic ix, 3)) (w1 : (Cond.methodLink own ix Jvm.Stand.acN).before a0 Z = true) (w2 : (Cond.native Jvm.Stand.acN).before a0 Z = true) (w3 : (Cond.static Jvm.Stand.acN).before a0 Z = true) (w4 : (Cond.initialized "java/lang/System").before a0 Z = true)
    (A : Ary Z h a ty vs) (B : Ary Z h b ty us) (hk : refKind ty = false) (hz1 : z1.toInt = (vs.length : Int)) (hz' : z'.toInt = (us.length : Int)) (hz : z.toInt = (m : Int)) (hsp : sp.toInt = (i : Int)) (hdp : dp.toInt = (j : Int)) (hle : i + m ≤ vs.length) (hle' : j + m ≤ us.length) (fa : ∀ v ∈ vs, fits ty v = true) (fb : ∀ v ∈ us, fits ty v = true) (ge : n0 ≤ b)
    (hsz : Ls.size = maxL) (hf : 1 ≤ R.frames) (hl : (st.map fun v => v.category).sum + (nativeFrameWords "java/lang/System" "arraycopy" 5 + 11) ≤ R.locals) (hp : pc + 3 = pc')
    (nxt : ∀ h', Keep h h' [b] → Ary Z h' b ty (us.take j ++ (vs.drop i).take m ++ us.drop (j + m)) → Run l Z n0 own code maxL ret nm R Q pc' Ls st h' k n) : Run l Z n0 own code maxL ret nm R Q pc Ls (.int z :: .int dp :: .ref b :: .int sp :: .ref a :: st) h k n := by
  subst hp
  intro p e s m' args below meth c T locs cells slots hC X eT hF hkk hnn
  obtain ⟨k1, A1⟩ := A.toArv (z := z1) .null hz1 fa
  obtain ⟨k2, B1⟩ := B.toArv (z := z') .null hz' fb
  have cl : ∀ {x : Int32} {q : Nat}, x.toInt = (q : Int) → x.toNatClampNeg = q ∧ ¬ x < 0 := fun {x q} hx => ⟨by have : x.toNatClampNeg = x.toInt.toNat := rfl; rw [this, hx]; rfl, by rw [Int32.lt_iff_toInt_lt, hx]; have : (0 : Int32).toInt = 0 := rfl; omega⟩
  have e0 := cl hz; have e1 := cl hz1; have e2 := cl hz'; have e3 := cl hsp; have e4 := cl hdp
  have hus : (vs.drop i).take m = (List.range z.toNatClampNeg).map fun q => vs.getD (sp.toNatClampNeg + q) .null := by
    rw [e0.1, e3.1]
    apply List.ext_getElem?
    intro q
    by_cases hj : q < m
    · rw [List.getElem?_take_of_lt hj, List.getElem?_drop]; simp [hj, List.getD_eq_getElem?_getD, show i + q < vs.length by omega]
    · rw [List.getElem?_eq_none (by simp; omega), List.getElem?_eq_none (by simp; omega)]
  obtain ⟨T', h', L, X', e', N', K, B', stp⟩ := cpA X hC.1 hC.2.1 hC.2.2.1 w1 w2 w3 w4 eT A1 B1 (Or.inl ⟨rfl, hk⟩) e3.2 e4.2 e0.2 (by rw [e0.1, e1.1, e3.1]; exact hle) (by rw [e0.1, e2.1, e4.1]; exact hle') hus (by rw [e0.1, e4.1]; exact hle') hF ge (g := mkF m' pc Ls (.int z :: .int dp :: .ref b :: .int sp :: .ref a :: st)) rfl (hsz.trans hC.2.2.2.2.1.symm) rfl (hb hC.2.2.2.1 hd) hf (W := (st.map fun v => v.category).sum) (by show 2 * 0 + _ ≤ _; omega) hl
  rw [e4.1, e0.1] at B'
  have hB := Ary.ofArv B' (by rw [hz']; simp; omega)
  obtain ⟨s₂, v, L2, g1, g2⟩ := nxt h' K hB p e s m' args below meth c T' L cells slots hC X' e' N' hkk hnn
  exact ⟨s₂, v, L2, stp _ g1, g2⟩
/-- clone of an array -/
theorem Run.aclone {a0 : Array Value} {i cap : Nat} {a : Addr} {ty : FieldType} {cl : Cell} {ad : String} (hd : decode code pc = .ok (.invokevirtual i, 3)) (w1 : (Cond.methodLink own i ⟨ad, "clone", "()Ljava/lang/Object;"⟩).before a0 Z = true) (w2 : (Cond.sameMethod ad "java/lang/Object" "clone" "()Ljava/lang/Object;").before a0 Z = true) (w3 : (Cond.native ⟨"java/lang/Object", "clone", "()Ljava/lang/Object;"⟩).before a0 Z = true)
    (w4 : (Cond.instanceMethod ⟨"java/lang/Object", "clone", "()Ljava/lang/Object;"⟩).before a0 Z = true) (w5 : (Cond.selects ad ⟨ad, "clone", "()Ljava/lang/Object;"⟩ ⟨"java/lang/Object", "clone", "()Ljava/lang/Object;"⟩).before a0 Z = true) (w6 : (Cond.castable ad "java/lang/Cloneable").before a0 Z = true)
    (A : Arr Z h a cl ty) (E : Exa Z h a ad) (F : FitC Z cl) (hsz : Ls.size = maxL) (hf : 1 ≤ R.frames) (hl : (st.map fun v => v.category).sum + 14 ≤ R.locals) (hcap : cl.slots.size ≤ cap) (hk : k + 1 ≤ k') (hk' : k' ≤ R.cells) (hn : n + cap ≤ n') (hn' : n' ≤ R.slots) (hp : pc + 3 = pc')
    (nxt : ∀ h' b, b = h.size → Ext h h' → Ary Z h' b ty cl.slots.toList → Exa Z h' b ad → Run l Z n0 own code maxL ret nm R Q pc' Ls (.ref b :: st) h' k' n') : Run l Z n0 own code maxL ret nm R Q pc Ls (.ref a :: st) h k n := by
  subst hp
  intro p e s m args below meth c T locs cells slots hC X eT hF hkk hnn
  obtain ⟨T', h', X', e', E', A', X2, stp⟩ := cloneA X hC.1 hC.2.1 hC.2.2.1 w1 w2 w3 w4 w5 w6 eT A E F (g := mkF m pc Ls (.ref a :: st)) rfl (hsz.trans hC.2.2.2.2.1.symm) rfl (hb hC.2.2.2.1 hd) hf (W := (st.map fun v => v.category).sum) (by show 2 * 0 + _ ≤ _; omega) hl hcap (by omega) (by omega)
  obtain ⟨s₂, v, L, g1, g2⟩ := nxt h' h.size rfl E' ⟨_, A', rfl⟩ X2 p e s m args below meth c T' locs _ _ hC X' e' hF (by omega) (by omega)
  exact ⟨s₂, v, L, stp _ g1, g2⟩
end Walk
end Jvm.GoKit
namespace Jvm.GoKit
open Sem ClassFile Op Lib Jvm.Stand Jvm.Free Jvm.LawKit Jvm.RoadKit
/-! the wide twin: walks that may load String constants cold; vm: the tables as they stand but for what is warmed narrowly -/
def GoW (p : Program) (e : Env) (below : List Frame) (Z s : State) (EL : List (String × Nat)) (n0 K N : Nat) (Q : Option Value → Heap → Prop) (S : State) : Prop :=
  ∃ s₂ v L, Steps p.tables e below S s₂ ∧ s₂.status = .running ∧ Ended s₂ below (.returned v) ∧ (Q v s₂.heap ∧ Fr n0 L) ∧ CHr Z EL s.vm s.heap s₂.vm s₂.heap ∧ ReturnedEndW s (.returned v) s₂ L K N
def RunW (l : Launch) (Z : State) (EL : List (String × Nat)) (n0 : Nat) (own : String) (code : ByteArray) (maxL : Nat) (ret : Option FieldType) (nm : String) (R : Room) (Q : Option Value → Heap → Prop) (pc : Nat) (Ls : Array Slot) (st : List Value) (h : Heap) (vm : Vm) (k n : Nat) : Prop :=
  ∀ (p : Program) (e : Env) (s : State) (m : MethodId) (args : Array Value) (below : List Frame) (meth : Method) (c : Code) (T : State) (locs : List Loc) (cells slots k0 : Nat),
    Ctx Z own code maxL ret nm p (s.setVm vm) m meth c → Stand p l e R (s.setVm vm) m args below meth c T locs cells slots → s.Since vm k0 → k0 ≤ h.size → CHr Z EL s.vm s.heap vm h → (∃ a0, EW Z a0 EL) → T.heap = h → Fr n0 locs → cells ≤ k → slots ≤ n →
    GoW p e below Z s EL n0 R.cells R.slots Q (T.setTop (mkF m pc Ls st))
def ConW (l : Launch) (Z : State) (EL : List (String × Nat)) (n0 : Nat) (y : MethodName) (bytes : ByteArray) (maxL : Nat) (ret : Option FieldType) (rm : Room) (as : Array Value) (h : Heap) (sf : List Addr) (Q : Option Value → Heap → Prop) : Prop :=
  ∀ ws, MetFree l y (head1 (Cond.code y bytes maxL ret :: ws) rm) (fun a U => a = as ∧ Z.Warmed39 U.vm ∧ U.heap = h ∧ CHv Z EL U.vm h ∧ ∀ x ∈ sf, Safe Z EL U.vm h x) (fun _ _ _ _ _ => True) (fun _ U o U' => ∃ v L, o = .returned v ∧ (Q v U'.heap ∧ Fr n0 L) ∧ CHr Z EL U.vm U.heap U'.vm U'.heap ∧ ReturnedEndW U o U' L rm.cells rm.slots)
theorem since_refl (s : State) : s.Since s.vm s.heap.size := ⟨State.Warmed39.refl s, fun j p hj hp => absurd (Array.getElem?_eq_some_iff.mp hp).1 (Nat.not_lt.mpr hj)⟩
theorem setVm_self (s : State) : s.setVm s.vm = s := rfl
section WalkW
variable {l : Launch} {Z : State} {EL : List (String × Nat)} {n0 : Nat} {own : String} {code : ByteArray} {maxL : Nat} {ret : Option FieldType} {nm : String} {R : Room} {Q : Option Value → Heap → Prop} {pc pc' : Nat} {Ls : Array Slot} {st : List Value} {h : Heap} {vm : Vm} {k n k' n' : Nat}
theorem ConW.of_run {y : MethodName} {bytes : ByteArray} {rm : Room} {as : Array Value} {sf : List Addr} {a0 : Array Value} (hEL : EW Z a0 EL)
    (hp : plainFor y = true) (he : ∀ m, entryFrame m as maxL = mkF m 0 Ls []) (run : ∀ vm, Z.vm.Alike vm → (∀ x ∈ sf, Safe Z EL vm h x) → RunW l Z EL n0 y.cls bytes maxL ret y.name rm Q 0 Ls [] h vm 0 0) : ConW l Z EL n0 y bytes maxL ret rm as h sf Q := by
  intro ws
  refine MetFree.of_bodySF hp hisR ?_
  intro p e s m args below meth c s₁ Bd hml0 hP hK
  obtain ⟨rfl, hZ, hh, hC, hsf⟩ := hP
  have hh2 : s₁.heap = h := by rw [← hh, Bd.state]; rfl
  obtain ⟨s₂, v, L, h1, h2, h3, h4, h5, h6⟩ := run s.vm hZ.alike hsf p e s m _ below meth c s₁ [] 0 0 s.heap.size ⟨Bd.exec, hZ, findClass_of_methodNamed Bd.named, Bd.bytes, hml0, Bd.returns, Bd.notSynchronized, (name_of_methodNamed Bd.named Bd.method).1⟩ (Stand.of_body Bd) (since_refl s) (by rw [hh]; exact Nat.le_refl _) (by rw [hh]; exact CHr.refl hC) ⟨a0, hEL⟩ hh2 (Fr.nil _) (Nat.zero_le _) (Nat.zero_le _)
  exact ⟨s₂, _, castTop (he m) h1, h2, h3, v, L, rfl, h4, h5, h6⟩
theorem RunW.via {Ls' : Array Slot} {st' : List Value} (f : ∀ (p : Program) (e : Env) (s : State) (m : MethodId) (args : Array Value) (below : List Frame) (meth : Method) (c : Code) (T : State) (locs : List Loc) (cells slots : Nat),
      Ctx Z own code maxL ret nm p s m meth c → Stand p l e R s m args below meth c T locs cells slots → T.heap = h → ∃ T', Stand p l e R s m args below meth c T' locs cells slots ∧ T'.heap = h ∧ ∀ t, Steps p.tables e below (T'.setTop (mkF m pc' Ls' st')) t → Steps p.tables e below (T.setTop (mkF m pc Ls st)) t)
    (nxt : RunW l Z EL n0 own code maxL ret nm R Q pc' Ls' st' h vm k n) : RunW l Z EL n0 own code maxL ret nm R Q pc Ls st h vm k n := by
  intro p e s m args below meth c T locs cells slots k0 hC X hS hk0 hR hE eT hF hk hn
  obtain ⟨T', X', e', stp⟩ := f p e (s.setVm vm) m args below meth c T locs cells slots hC X eT
  obtain ⟨s₂, v, L, g1, g2⟩ := nxt p e s m args below meth c T' locs cells slots k0 hC X' hS hk0 hR hE e' hF hk hn
  exact ⟨s₂, v, L, stp _ g1, g2⟩
theorem RunW.stp {Ls' : Array Slot} {st' : List Value} (f : ∀ (p : Program) (e : Env) (below : List Frame) (T : State) (m : MethodId) (c : Code) (t : State), At T m c below → p.tables.exec = Jvm.exec → c.code = code → Steps p.tables e below (T.setTop (mkF m pc' Ls' st')) t → Steps p.tables e below (T.setTop (mkF m pc Ls st)) t)
    (nxt : RunW l Z EL n0 own code maxL ret nm R Q pc' Ls' st' h vm k n) : RunW l Z EL n0 own code maxL ret nm R Q pc Ls st h vm k n :=
  RunW.via (fun p e s m args below meth c T locs cells slots hC X eT => ⟨T, X, eT, fun t q => f p e below T m c t X.here hC.1 hC.2.2.2.1 q⟩) nxt
theorem RunW.more {ka na : Nat} (nxt : RunW l Z EL n0 own code maxL ret nm R Q pc Ls st h vm k n) (h1 : ka ≤ k) (h2 : na ≤ n) : RunW l Z EL n0 own code maxL ret nm R Q pc Ls st h vm ka na :=
  fun p e s m args below meth c T locs cells slots k0 hC X hS hk0 hR hE eT hF hk hn => nxt p e s m args below meth c T locs cells slots k0 hC X hS hk0 hR hE eT hF (Nat.le_trans hk h1) (Nat.le_trans hn h2)
theorem RunW.alike (f : Z.vm.Alike vm → RunW l Z EL n0 own code maxL ret nm R Q pc Ls st h vm k n) : RunW l Z EL n0 own code maxL ret nm R Q pc Ls st h vm k n :=
  fun p e s m args below meth c T locs cells slots k0 hC X hS hk0 hR hE eT hF hk hn => f hC.2.1.alike p e s m args below meth c T locs cells slots k0 hC X hS hk0 hR hE eT hF hk hn

theorem RunW.iloadN {x : Fin 4} {v : Int32} (hd : decode code pc = .ok (.iload_n x, 1)) (hl : Ls[x.val]? = some (.val (.int v))) (hp : pc + 1 = pc') (nxt : RunW l Z EL n0 own code maxL ret nm R Q pc' Ls (.int v :: st) h vm k n) : RunW l Z EL n0 own code maxL ret nm R Q pc Ls st h vm k n := by
  subst hp
  exact RunW.stp (fun p e below T m c t hA hx hc q => XS.iloadN hA hx rfl (hb hc hd) hl q) nxt
theorem RunW.iload {x : Nat} {v : Int32} (hd : decode code pc = .ok (.iload x, 2)) (hl : Ls[x]? = some (.val (.int v))) (hp : pc + 2 = pc') (nxt : RunW l Z EL n0 own code maxL ret nm R Q pc' Ls (.int v :: st) h vm k n) : RunW l Z EL n0 own code maxL ret nm R Q pc Ls st h vm k n := by
  subst hp
  exact RunW.stp (fun p e below T m c t hA hx hc q => XS.iload hA hx rfl (hb hc hd) hl q) nxt
theorem RunW.lloadN {x : Fin 4} {v : Int64} (hd : decode code pc = .ok (.lload_n x, 1)) (hl : Ls[x.val]? = some (.val (.long v))) (hp : pc + 1 = pc') (nxt : RunW l Z EL n0 own code maxL ret nm R Q pc' Ls (.long v :: st) h vm k n) : RunW l Z EL n0 own code maxL ret nm R Q pc Ls st h vm k n := by
  subst hp
  exact RunW.stp (fun p e below T m c t hA hx hc q => XT.lloadN hA hx rfl (hb hc hd) hl q) nxt
theorem RunW.lload {x : Nat} {v : Int64} (hd : decode code pc = .ok (.lload x, 2)) (hl : Ls[x]? = some (.val (.long v))) (hp : pc + 2 = pc') (nxt : RunW l Z EL n0 own code maxL ret nm R Q pc' Ls (.long v :: st) h vm k n) : RunW l Z EL n0 own code maxL ret nm R Q pc Ls st h vm k n := by
  subst hp
  exact RunW.stp (fun p e below T m c t hA hx hc q => XT.lload hA hx rfl (hb hc hd) hl q) nxt
theorem RunW.aloadN {x : Fin 4} {v : Value} (hd : decode code pc = .ok (.aload_n x, 1)) (hl : Ls[x.val]? = some (.val v)) (hv : v.isRef = true) (hp : pc + 1 = pc') (nxt : RunW l Z EL n0 own code maxL ret nm R Q pc' Ls (v :: st) h vm k n) : RunW l Z EL n0 own code maxL ret nm R Q pc Ls st h vm k n := by
  subst hp
  exact RunW.stp (fun p e below T m c t hA hx hc q => XS.aloadN hA hx rfl (hb hc hd) hl hv q) nxt
theorem RunW.aload {x : Nat} {v : Value} (hd : decode code pc = .ok (.aload x, 2)) (hl : Ls[x]? = some (.val v)) (hv : v.isRef = true) (hp : pc + 2 = pc') (nxt : RunW l Z EL n0 own code maxL ret nm R Q pc' Ls (v :: st) h vm k n) : RunW l Z EL n0 own code maxL ret nm R Q pc Ls st h vm k n := by
  subst hp
  exact RunW.stp (fun p e below T m c t hA hx hc q => XS.aload hA hx rfl (hb hc hd) hl hv q) nxt
theorem RunW.iconst {i : Int} (v : Int32) (hd : decode code pc = .ok (.iconst i, 1)) (hv : Int32.ofInt i = v) (hp : pc + 1 = pc') (nxt : RunW l Z EL n0 own code maxL ret nm R Q pc' Ls (.int v :: st) h vm k n) : RunW l Z EL n0 own code maxL ret nm R Q pc Ls st h vm k n := by
  subst hp
  exact RunW.stp (fun p e below T m c t hA hx hc q => XT.iconstV hA hx rfl v (hb hc hd) hv q) nxt
theorem RunW.bipush {i : Int} (v : Int32) (hd : decode code pc = .ok (.bipush i, 2)) (hv : (Int8.ofInt i).toInt32 = v) (hp : pc + 2 = pc') (nxt : RunW l Z EL n0 own code maxL ret nm R Q pc' Ls (.int v :: st) h vm k n) : RunW l Z EL n0 own code maxL ret nm R Q pc Ls st h vm k n := by
  subst hp
  exact RunW.stp (fun p e below T m c t hA hx hc q => XT.bipushV hA hx rfl v (hb hc hd) hv q) nxt
theorem RunW.sipush {i : Int} (v : Int32) (hd : decode code pc = .ok (.sipush i, 3)) (hv : (Int16.ofInt i).toInt32 = v) (hp : pc + 3 = pc') (nxt : RunW l Z EL n0 own code maxL ret nm R Q pc' Ls (.int v :: st) h vm k n) : RunW l Z EL n0 own code maxL ret nm R Q pc Ls st h vm k n := by
  subst hp
  exact RunW.stp (fun p e below T m c t hA hx hc q => XT.sipushV hA hx rfl v (hb hc hd) hv q) nxt
theorem RunW.lconst {i : Fin 2} (v : Int64) (hd : decode code pc = .ok (.lconst i, 1)) (hv : Int64.ofNat i = v) (hp : pc + 1 = pc') (nxt : RunW l Z EL n0 own code maxL ret nm R Q pc' Ls (.long v :: st) h vm k n) : RunW l Z EL n0 own code maxL ret nm R Q pc Ls st h vm k n := by
  subst hp
  exact RunW.stp (fun p e below T m c t hA hx hc q => XT.lconstV hA hx rfl v (hb hc hd) hv q) nxt
theorem RunW.aconst  (hd : decode code pc = .ok (.aconst_null, 1))  (hp : pc + 1 = pc') (nxt : RunW l Z EL n0 own code maxL ret nm R Q pc' Ls (.null :: st) h vm k n) : RunW l Z EL n0 own code maxL ret nm R Q pc Ls st h vm k n := by
  subst hp
  exact RunW.stp (fun p e below T m c t hA hx hc q => XS.aconstNull hA hx rfl (hb hc hd) q) nxt
theorem RunW.istoreN {x : Fin 4} {v : Int32} (l' : Array Slot) (hd : decode code pc = .ok (.istore_n x, 1)) (hl : storeLocals Ls x.val (.int v) = some l') (hp : pc + 1 = pc') (nxt : RunW l Z EL n0 own code maxL ret nm R Q pc' l' st h vm k n) : RunW l Z EL n0 own code maxL ret nm R Q pc Ls (.int v :: st) h vm k n := by
  subst hp
  exact RunW.stp (fun p e below T m c t hA hx hc q => XS.istoreN hA hx rfl (hb hc hd) rfl hl q) nxt
theorem RunW.istore {x : Nat} {v : Int32} (l' : Array Slot) (hd : decode code pc = .ok (.istore x, 2)) (hl : storeLocals Ls x (.int v) = some l') (hp : pc + 2 = pc') (nxt : RunW l Z EL n0 own code maxL ret nm R Q pc' l' st h vm k n) : RunW l Z EL n0 own code maxL ret nm R Q pc Ls (.int v :: st) h vm k n := by
  subst hp
  exact RunW.stp (fun p e below T m c t hA hx hc q => XS.istore hA hx rfl (hb hc hd) rfl hl q) nxt
theorem RunW.lstoreN {x : Fin 4} {v : Int64} (l' : Array Slot) (hd : decode code pc = .ok (.lstore_n x, 1)) (hl : storeLocals Ls x.val (.long v) = some l') (hp : pc + 1 = pc') (nxt : RunW l Z EL n0 own code maxL ret nm R Q pc' l' st h vm k n) : RunW l Z EL n0 own code maxL ret nm R Q pc Ls (.long v :: st) h vm k n := by
  subst hp
  exact RunW.stp (fun p e below T m c t hA hx hc q => XT.lstoreN hA hx rfl (hb hc hd) rfl hl q) nxt
theorem RunW.lstore {x : Nat} {v : Int64} (l' : Array Slot) (hd : decode code pc = .ok (.lstore x, 2)) (hl : storeLocals Ls x (.long v) = some l') (hp : pc + 2 = pc') (nxt : RunW l Z EL n0 own code maxL ret nm R Q pc' l' st h vm k n) : RunW l Z EL n0 own code maxL ret nm R Q pc Ls (.long v :: st) h vm k n := by
  subst hp
  exact RunW.stp (fun p e below T m c t hA hx hc q => XT.lstore hA hx rfl (hb hc hd) rfl hl q) nxt
theorem RunW.astoreN {x : Fin 4} {v : Value} (l' : Array Slot) (hd : decode code pc = .ok (.astore_n x, 1)) (hv : v.isRef = true) (hl : storeLocals Ls x.val v = some l') (hp : pc + 1 = pc') (nxt : RunW l Z EL n0 own code maxL ret nm R Q pc' l' st h vm k n) : RunW l Z EL n0 own code maxL ret nm R Q pc Ls (v :: st) h vm k n := by
  subst hp
  exact RunW.stp (fun p e below T m c t hA hx hc q => XS.astoreN hA hx rfl (hb hc hd) rfl hv hl q) nxt
theorem RunW.astore {x : Nat} {v : Value} (l' : Array Slot) (hd : decode code pc = .ok (.astore x, 2)) (hv : v.isRef = true) (hl : storeLocals Ls x v = some l') (hp : pc + 2 = pc') (nxt : RunW l Z EL n0 own code maxL ret nm R Q pc' l' st h vm k n) : RunW l Z EL n0 own code maxL ret nm R Q pc Ls (v :: st) h vm k n := by
  subst hp
  exact RunW.stp (fun p e below T m c t hA hx hc q => XS.astore hA hx rfl (hb hc hd) rfl hv hl q) nxt
theorem RunW.iinc {x : Nat} {i : Int} {u : Int32} (v : Int32) (l' : Array Slot) (hd : decode code pc = .ok (.iinc x i, 3)) (hv : Int32.ofInt i = v) (hg : Ls[x]? = some (.val (.int u))) (hl : storeLocals Ls x (.int (u + v)) = some l') (hp : pc + 3 = pc') (nxt : RunW l Z EL n0 own code maxL ret nm R Q pc' l' st h vm k n) : RunW l Z EL n0 own code maxL ret nm R Q pc Ls st h vm k n := by
  subst hp
  exact RunW.stp (fun p e below T m c t hA hx hc q => XT.iincV hA hx rfl v (hb hc hd) hv hg hl q) nxt
theorem RunW.iadd {x y : Int32} (hd : decode code pc = .ok (.iadd, 1))  (hp : pc + 1 = pc') (nxt : RunW l Z EL n0 own code maxL ret nm R Q pc' Ls (.int (x + y) :: st) h vm k n) : RunW l Z EL n0 own code maxL ret nm R Q pc Ls (.int y :: .int x :: st) h vm k n := by
  subst hp
  exact RunW.stp (fun p e below T m c t hA hx hc q => XS.iadd hA hx rfl (hb hc hd) rfl q) nxt
theorem RunW.isub {x y : Int32} (hd : decode code pc = .ok (.isub, 1))  (hp : pc + 1 = pc') (nxt : RunW l Z EL n0 own code maxL ret nm R Q pc' Ls (.int (x - y) :: st) h vm k n) : RunW l Z EL n0 own code maxL ret nm R Q pc Ls (.int y :: .int x :: st) h vm k n := by
  subst hp
  exact RunW.stp (fun p e below T m c t hA hx hc q => XS.isub hA hx rfl (hb hc hd) rfl q) nxt
theorem RunW.imul {x y : Int32} (hd : decode code pc = .ok (.imul, 1))  (hp : pc + 1 = pc') (nxt : RunW l Z EL n0 own code maxL ret nm R Q pc' Ls (.int (x * y) :: st) h vm k n) : RunW l Z EL n0 own code maxL ret nm R Q pc Ls (.int y :: .int x :: st) h vm k n := by
  subst hp
  exact RunW.stp (fun p e below T m c t hA hx hc q => XS.imul hA hx rfl (hb hc hd) rfl q) nxt
theorem RunW.iand {x y : Int32} (hd : decode code pc = .ok (.iand, 1))  (hp : pc + 1 = pc') (nxt : RunW l Z EL n0 own code maxL ret nm R Q pc' Ls (.int (x &&& y) :: st) h vm k n) : RunW l Z EL n0 own code maxL ret nm R Q pc Ls (.int y :: .int x :: st) h vm k n := by
  subst hp
  exact RunW.stp (fun p e below T m c t hA hx hc q => XS.iand hA hx rfl (hb hc hd) rfl q) nxt
theorem RunW.ior {x y : Int32} (hd : decode code pc = .ok (.ior, 1))  (hp : pc + 1 = pc') (nxt : RunW l Z EL n0 own code maxL ret nm R Q pc' Ls (.int (x ||| y) :: st) h vm k n) : RunW l Z EL n0 own code maxL ret nm R Q pc Ls (.int y :: .int x :: st) h vm k n := by
  subst hp
  exact RunW.stp (fun p e below T m c t hA hx hc q => XT.ior hA hx rfl (hb hc hd) rfl q) nxt
theorem RunW.ixor {x y : Int32} (hd : decode code pc = .ok (.ixor, 1))  (hp : pc + 1 = pc') (nxt : RunW l Z EL n0 own code maxL ret nm R Q pc' Ls (.int (x ^^^ y) :: st) h vm k n) : RunW l Z EL n0 own code maxL ret nm R Q pc Ls (.int y :: .int x :: st) h vm k n := by
  subst hp
  exact RunW.stp (fun p e below T m c t hA hx hc q => XT.ixor hA hx rfl (hb hc hd) rfl q) nxt
theorem RunW.ishl {x y : Int32} (hd : decode code pc = .ok (.ishl, 1))  (hp : pc + 1 = pc') (nxt : RunW l Z EL n0 own code maxL ret nm R Q pc' Ls (.int (x <<< (y &&& 31)) :: st) h vm k n) : RunW l Z EL n0 own code maxL ret nm R Q pc Ls (.int y :: .int x :: st) h vm k n := by
  subst hp
  exact RunW.stp (fun p e below T m c t hA hx hc q => XT.ishl hA hx rfl (hb hc hd) rfl q) nxt
theorem RunW.ishr {x y : Int32} (hd : decode code pc = .ok (.ishr, 1))  (hp : pc + 1 = pc') (nxt : RunW l Z EL n0 own code maxL ret nm R Q pc' Ls (.int (x >>> (y &&& 31)) :: st) h vm k n) : RunW l Z EL n0 own code maxL ret nm R Q pc Ls (.int y :: .int x :: st) h vm k n := by
  subst hp
  exact RunW.stp (fun p e below T m c t hA hx hc q => XT.ishr hA hx rfl (hb hc hd) rfl q) nxt
theorem RunW.iushr {x y : Int32} (hd : decode code pc = .ok (.iushr, 1))  (hp : pc + 1 = pc') (nxt : RunW l Z EL n0 own code maxL ret nm R Q pc' Ls (.int (XT.ushr x y) :: st) h vm k n) : RunW l Z EL n0 own code maxL ret nm R Q pc Ls (.int y :: .int x :: st) h vm k n := by
  subst hp
  exact RunW.stp (fun p e below T m c t hA hx hc q => XT.iushr hA hx rfl (hb hc hd) rfl q) nxt
theorem RunW.ladd {x y : Int64} (hd : decode code pc = .ok (.ladd, 1))  (hp : pc + 1 = pc') (nxt : RunW l Z EL n0 own code maxL ret nm R Q pc' Ls (.long (x + y) :: st) h vm k n) : RunW l Z EL n0 own code maxL ret nm R Q pc Ls (.long y :: .long x :: st) h vm k n := by
  subst hp
  exact RunW.stp (fun p e below T m c t hA hx hc q => XT.ladd hA hx rfl (hb hc hd) rfl q) nxt
theorem RunW.lsub {x y : Int64} (hd : decode code pc = .ok (.lsub, 1))  (hp : pc + 1 = pc') (nxt : RunW l Z EL n0 own code maxL ret nm R Q pc' Ls (.long (x - y) :: st) h vm k n) : RunW l Z EL n0 own code maxL ret nm R Q pc Ls (.long y :: .long x :: st) h vm k n := by
  subst hp
  exact RunW.stp (fun p e below T m c t hA hx hc q => XT.lsub hA hx rfl (hb hc hd) rfl q) nxt
theorem RunW.lmul {x y : Int64} (hd : decode code pc = .ok (.lmul, 1))  (hp : pc + 1 = pc') (nxt : RunW l Z EL n0 own code maxL ret nm R Q pc' Ls (.long (x * y) :: st) h vm k n) : RunW l Z EL n0 own code maxL ret nm R Q pc Ls (.long y :: .long x :: st) h vm k n := by
  subst hp
  exact RunW.stp (fun p e below T m c t hA hx hc q => XT.lmul hA hx rfl (hb hc hd) rfl q) nxt
theorem RunW.land {x y : Int64} (hd : decode code pc = .ok (.land, 1))  (hp : pc + 1 = pc') (nxt : RunW l Z EL n0 own code maxL ret nm R Q pc' Ls (.long (x &&& y) :: st) h vm k n) : RunW l Z EL n0 own code maxL ret nm R Q pc Ls (.long y :: .long x :: st) h vm k n := by
  subst hp
  exact RunW.stp (fun p e below T m c t hA hx hc q => XT.land hA hx rfl (hb hc hd) rfl q) nxt
theorem RunW.lor {x y : Int64} (hd : decode code pc = .ok (.lor, 1))  (hp : pc + 1 = pc') (nxt : RunW l Z EL n0 own code maxL ret nm R Q pc' Ls (.long (x ||| y) :: st) h vm k n) : RunW l Z EL n0 own code maxL ret nm R Q pc Ls (.long y :: .long x :: st) h vm k n := by
  subst hp
  exact RunW.stp (fun p e below T m c t hA hx hc q => XT.lor hA hx rfl (hb hc hd) rfl q) nxt
theorem RunW.lxor {x y : Int64} (hd : decode code pc = .ok (.lxor, 1))  (hp : pc + 1 = pc') (nxt : RunW l Z EL n0 own code maxL ret nm R Q pc' Ls (.long (x ^^^ y) :: st) h vm k n) : RunW l Z EL n0 own code maxL ret nm R Q pc Ls (.long y :: .long x :: st) h vm k n := by
  subst hp
  exact RunW.stp (fun p e below T m c t hA hx hc q => XT.lxor hA hx rfl (hb hc hd) rfl q) nxt
theorem RunW.idiv {x y : Int32} (hd : decode code pc = .ok (.idiv, 1)) (hy : y ≠ 0) (hp : pc + 1 = pc') (nxt : RunW l Z EL n0 own code maxL ret nm R Q pc' Ls (.int (x / y) :: st) h vm k n) : RunW l Z EL n0 own code maxL ret nm R Q pc Ls (.int y :: .int x :: st) h vm k n := by
  subst hp
  exact RunW.stp (fun p e below T m c t hA hx hc q => XS.idiv hA hx rfl (hb hc hd) rfl hy q) nxt
theorem RunW.irem {x y : Int32} (hd : decode code pc = .ok (.irem, 1)) (hy : y ≠ 0) (hp : pc + 1 = pc') (nxt : RunW l Z EL n0 own code maxL ret nm R Q pc' Ls (.int (x % y) :: st) h vm k n) : RunW l Z EL n0 own code maxL ret nm R Q pc Ls (.int y :: .int x :: st) h vm k n := by
  subst hp
  exact RunW.stp (fun p e below T m c t hA hx hc q => XS.irem hA hx rfl (hb hc hd) rfl hy (by rw [irem_eq_mod]; exact q)) nxt
theorem RunW.ldiv {x y : Int64} (hd : decode code pc = .ok (.ldiv, 1)) (hy : y ≠ 0) (hp : pc + 1 = pc') (nxt : RunW l Z EL n0 own code maxL ret nm R Q pc' Ls (.long (x / y) :: st) h vm k n) : RunW l Z EL n0 own code maxL ret nm R Q pc Ls (.long y :: .long x :: st) h vm k n := by
  subst hp
  exact RunW.stp (fun p e below T m c t hA hx hc q => XT.ldiv hA hx rfl (hb hc hd) rfl hy q) nxt
theorem RunW.lrem {x y : Int64} (hd : decode code pc = .ok (.lrem, 1)) (hy : y ≠ 0) (hp : pc + 1 = pc') (nxt : RunW l Z EL n0 own code maxL ret nm R Q pc' Ls (.long (x % y) :: st) h vm k n) : RunW l Z EL n0 own code maxL ret nm R Q pc Ls (.long y :: .long x :: st) h vm k n := by
  subst hp
  exact RunW.stp (fun p e below T m c t hA hx hc q => XT.lrem hA hx rfl (hb hc hd) rfl hy (by rw [lrem_mod]; exact q)) nxt
theorem RunW.ineg {x : Int32} (hd : decode code pc = .ok (.ineg, 1))  (hp : pc + 1 = pc') (nxt : RunW l Z EL n0 own code maxL ret nm R Q pc' Ls (.int (-x) :: st) h vm k n) : RunW l Z EL n0 own code maxL ret nm R Q pc Ls (.int x :: st) h vm k n := by
  subst hp
  exact RunW.stp (fun p e below T m c t hA hx hc q => XS.ineg hA hx rfl (hb hc hd) rfl q) nxt
theorem RunW.lneg {x : Int64} (hd : decode code pc = .ok (.lneg, 1))  (hp : pc + 1 = pc') (nxt : RunW l Z EL n0 own code maxL ret nm R Q pc' Ls (.long (-x) :: st) h vm k n) : RunW l Z EL n0 own code maxL ret nm R Q pc Ls (.long x :: st) h vm k n := by
  subst hp
  exact RunW.stp (fun p e below T m c t hA hx hc q => XT.lneg hA hx rfl (hb hc hd) rfl q) nxt
theorem RunW.i2l {x : Int32} (hd : decode code pc = .ok (.i2l, 1))  (hp : pc + 1 = pc') (nxt : RunW l Z EL n0 own code maxL ret nm R Q pc' Ls (.long x.toInt64 :: st) h vm k n) : RunW l Z EL n0 own code maxL ret nm R Q pc Ls (.int x :: st) h vm k n := by
  subst hp
  exact RunW.stp (fun p e below T m c t hA hx hc q => XT.i2l hA hx rfl (hb hc hd) rfl q) nxt
theorem RunW.l2i {x : Int64} (hd : decode code pc = .ok (.l2i, 1))  (hp : pc + 1 = pc') (nxt : RunW l Z EL n0 own code maxL ret nm R Q pc' Ls (.int x.toInt32 :: st) h vm k n) : RunW l Z EL n0 own code maxL ret nm R Q pc Ls (.long x :: st) h vm k n := by
  subst hp
  exact RunW.stp (fun p e below T m c t hA hx hc q => XT.l2i hA hx rfl (hb hc hd) rfl q) nxt
theorem RunW.i2b {x : Int32} (hd : decode code pc = .ok (.i2b, 1))  (hp : pc + 1 = pc') (nxt : RunW l Z EL n0 own code maxL ret nm R Q pc' Ls (.int (nar .byte x) :: st) h vm k n) : RunW l Z EL n0 own code maxL ret nm R Q pc Ls (.int x :: st) h vm k n := by
  subst hp
  exact RunW.stp (fun p e below T m c t hA hx hc q => XT.i2b hA hx rfl (hb hc hd) rfl q) nxt
theorem RunW.i2c {x : Int32} (hd : decode code pc = .ok (.i2c, 1))  (hp : pc + 1 = pc') (nxt : RunW l Z EL n0 own code maxL ret nm R Q pc' Ls (.int (nar .char x) :: st) h vm k n) : RunW l Z EL n0 own code maxL ret nm R Q pc Ls (.int x :: st) h vm k n := by
  subst hp
  exact RunW.stp (fun p e below T m c t hA hx hc q => XT.i2c hA hx rfl (hb hc hd) rfl q) nxt
theorem RunW.i2s {x : Int32} (hd : decode code pc = .ok (.i2s, 1))  (hp : pc + 1 = pc') (nxt : RunW l Z EL n0 own code maxL ret nm R Q pc' Ls (.int (nar .short x) :: st) h vm k n) : RunW l Z EL n0 own code maxL ret nm R Q pc Ls (.int x :: st) h vm k n := by
  subst hp
  exact RunW.stp (fun p e below T m c t hA hx hc q => XT.i2s hA hx rfl (hb hc hd) rfl q) nxt
theorem RunW.lshl {x : Int64} {y : Int32} (hd : decode code pc = .ok (.lshl, 1))  (hp : pc + 1 = pc') (nxt : RunW l Z EL n0 own code maxL ret nm R Q pc' Ls (.long (x <<< (y.toInt64 &&& 63)) :: st) h vm k n) : RunW l Z EL n0 own code maxL ret nm R Q pc Ls (.int y :: .long x :: st) h vm k n := by
  subst hp
  exact RunW.stp (fun p e below T m c t hA hx hc q => XT.lshl hA hx rfl (hb hc hd) rfl q) nxt
theorem RunW.lshr {x : Int64} {y : Int32} (hd : decode code pc = .ok (.lshr, 1))  (hp : pc + 1 = pc') (nxt : RunW l Z EL n0 own code maxL ret nm R Q pc' Ls (.long (x >>> (y.toInt64 &&& 63)) :: st) h vm k n) : RunW l Z EL n0 own code maxL ret nm R Q pc Ls (.int y :: .long x :: st) h vm k n := by
  subst hp
  exact RunW.stp (fun p e below T m c t hA hx hc q => XT.lshr hA hx rfl (hb hc hd) rfl q) nxt
theorem RunW.lushr {x : Int64} {y : Int32} (hd : decode code pc = .ok (.lushr, 1))  (hp : pc + 1 = pc') (nxt : RunW l Z EL n0 own code maxL ret nm R Q pc' Ls (.long (XT.ushrL x y) :: st) h vm k n) : RunW l Z EL n0 own code maxL ret nm R Q pc Ls (.int y :: .long x :: st) h vm k n := by
  subst hp
  exact RunW.stp (fun p e below T m c t hA hx hc q => XT.lushr hA hx rfl (hb hc hd) rfl q) nxt
theorem RunW.lcmp {x y : Int64} (hd : decode code pc = .ok (.lcmp, 1))  (hp : pc + 1 = pc') (nxt : RunW l Z EL n0 own code maxL ret nm R Q pc' Ls (.int (XT.cmpL x y) :: st) h vm k n) : RunW l Z EL n0 own code maxL ret nm R Q pc Ls (.long y :: .long x :: st) h vm k n := by
  subst hp
  exact RunW.stp (fun p e below T m c t hA hx hc q => XT.lcmp hA hx rfl (hb hc hd) rfl q) nxt
theorem RunW.dup {x : Value} (hd : decode code pc = .ok (.dup, 1)) (hv : x.category = 1) (hp : pc + 1 = pc') (nxt : RunW l Z EL n0 own code maxL ret nm R Q pc' Ls (x :: x :: st) h vm k n) : RunW l Z EL n0 own code maxL ret nm R Q pc Ls (x :: st) h vm k n := by
  subst hp
  exact RunW.stp (fun p e below T m c t hA hx hc q => XS.dup hA hx rfl (hb hc hd) rfl hv q) nxt
theorem RunW.pop {x : Value} (hd : decode code pc = .ok (.pop, 1)) (hv : x.category = 1) (hp : pc + 1 = pc') (nxt : RunW l Z EL n0 own code maxL ret nm R Q pc' Ls st h vm k n) : RunW l Z EL n0 own code maxL ret nm R Q pc Ls (x :: st) h vm k n := by
  subst hp
  exact RunW.stp (fun p e below T m c t hA hx hc q => XT.pop hA hx rfl (hb hc hd) rfl hv q) nxt
theorem RunW.dupX1 {x y : Value} (hd : decode code pc = .ok (.dup_x1, 1)) (hv : x.category = 1) (hv' : y.category = 1) (hp : pc + 1 = pc') (nxt : RunW l Z EL n0 own code maxL ret nm R Q pc' Ls (x :: y :: x :: st) h vm k n) : RunW l Z EL n0 own code maxL ret nm R Q pc Ls (x :: y :: st) h vm k n := by
  subst hp
  exact RunW.stp (fun p e below T m c t hA hx hc q => XT.dupX1 hA hx rfl (hb hc hd) rfl hv hv' q) nxt
theorem RunW.dup2 {x y : Value} (hd : decode code pc = .ok (.dup2, 1)) (hv : x.category = 1) (hv' : y.category = 1) (hp : pc + 1 = pc') (nxt : RunW l Z EL n0 own code maxL ret nm R Q pc' Ls (x :: y :: x :: y :: st) h vm k n) : RunW l Z EL n0 own code maxL ret nm R Q pc Ls (x :: y :: st) h vm k n := by
  subst hp
  exact RunW.stp (fun p e below T m c t hA hx hc q => XT.dup2 hA hx rfl (hb hc hd) rfl hv hv' q) nxt
theorem RunW.dup2L {x : Int64} (hd : decode code pc = .ok (.dup2, 1))  (hp : pc + 1 = pc') (nxt : RunW l Z EL n0 own code maxL ret nm R Q pc' Ls (.long x :: .long x :: st) h vm k n) : RunW l Z EL n0 own code maxL ret nm R Q pc Ls (.long x :: st) h vm k n := by
  subst hp
  exact RunW.stp (fun p e below T m c t hA hx hc q => XT.dup2L hA hx rfl (hb hc hd) rfl q) nxt
theorem RunW.goto {o : Int} (hd : decode code pc = .ok (.goto o, 3)) (ho : 0 ≤ (pc : Int) + o) (hp : ((pc : Int) + o).toNat = pc') (nxt : RunW l Z EL n0 own code maxL ret nm R Q pc' Ls st h vm k n) : RunW l Z EL n0 own code maxL ret nm R Q pc Ls st h vm k n :=
  RunW.stp (fun p e below T m c t hA hx hc q => XS.goto hA hx rfl rfl (hb hc hd) ho hp q) nxt
theorem RunW.if_eq {x : Int32} {o : Int} {pa : Nat} (hd : decode code pc = .ok (.ifCond .eq o, 3)) (ho : 0 ≤ (pc : Int) + o) (hp : ((pc : Int) + o).toNat = pc') (hq : pc + 3 = pa)
    (yes : x = 0 → RunW l Z EL n0 own code maxL ret nm R Q pc' Ls st h vm k n) (no : ¬ x = 0 → RunW l Z EL n0 own code maxL ret nm R Q pa Ls st h vm k n) : RunW l Z EL n0 own code maxL ret nm R Q pc Ls (.int x :: st) h vm k n := by
  subst hq
  by_cases hc : x = 0
  · exact RunW.stp (fun p e below T m c t hA hx hb' q => XS.ifYes hA hx rfl rfl (hb hb' hd) rfl (XT.i0_eq_t hc) ho hp q) (yes hc)
  · exact RunW.stp (fun p e below T m c t hA hx hb' q => XS.ifNo hA hx rfl (hb hb' hd) rfl (XT.i0_eq_f hc) q) (no hc)
theorem RunW.icmp_eq {x y : Int32} {o : Int} {pa : Nat} (hd : decode code pc = .ok (.if_icmp .eq o, 3)) (ho : 0 ≤ (pc : Int) + o) (hp : ((pc : Int) + o).toNat = pc') (hq : pc + 3 = pa)
    (yes : x = y → RunW l Z EL n0 own code maxL ret nm R Q pc' Ls st h vm k n) (no : ¬ x = y → RunW l Z EL n0 own code maxL ret nm R Q pa Ls st h vm k n) : RunW l Z EL n0 own code maxL ret nm R Q pc Ls (.int y :: .int x :: st) h vm k n := by
  subst hq
  by_cases hc : x = y
  · exact RunW.stp (fun p e below T m c t hA hx hb' q => XS.icmpYes hA hx rfl rfl (hb hb' hd) rfl (XT.ii_eq_t hc) ho hp q) (yes hc)
  · exact RunW.stp (fun p e below T m c t hA hx hb' q => XS.icmpNo hA hx rfl (hb hb' hd) rfl (XT.ii_eq_f hc) q) (no hc)
theorem RunW.if_ne {x : Int32} {o : Int} {pa : Nat} (hd : decode code pc = .ok (.ifCond .ne o, 3)) (ho : 0 ≤ (pc : Int) + o) (hp : ((pc : Int) + o).toNat = pc') (hq : pc + 3 = pa)
    (yes : ¬ x = 0 → RunW l Z EL n0 own code maxL ret nm R Q pc' Ls st h vm k n) (no : x = 0 → RunW l Z EL n0 own code maxL ret nm R Q pa Ls st h vm k n) : RunW l Z EL n0 own code maxL ret nm R Q pc Ls (.int x :: st) h vm k n := by
  subst hq
  by_cases hc : x = 0
  · exact RunW.stp (fun p e below T m c t hA hx hb' q => XS.ifNo hA hx rfl (hb hb' hd) rfl (XT.i0_ne_f hc) q) (no (by simpa using hc))
  · exact RunW.stp (fun p e below T m c t hA hx hb' q => XS.ifYes hA hx rfl rfl (hb hb' hd) rfl (XT.i0_ne_t hc) ho hp q) (yes hc)
theorem RunW.icmp_ne {x y : Int32} {o : Int} {pa : Nat} (hd : decode code pc = .ok (.if_icmp .ne o, 3)) (ho : 0 ≤ (pc : Int) + o) (hp : ((pc : Int) + o).toNat = pc') (hq : pc + 3 = pa)
    (yes : ¬ x = y → RunW l Z EL n0 own code maxL ret nm R Q pc' Ls st h vm k n) (no : x = y → RunW l Z EL n0 own code maxL ret nm R Q pa Ls st h vm k n) : RunW l Z EL n0 own code maxL ret nm R Q pc Ls (.int y :: .int x :: st) h vm k n := by
  subst hq
  by_cases hc : x = y
  · exact RunW.stp (fun p e below T m c t hA hx hb' q => XS.icmpNo hA hx rfl (hb hb' hd) rfl (XT.ii_ne_f hc) q) (no (by simpa using hc))
  · exact RunW.stp (fun p e below T m c t hA hx hb' q => XS.icmpYes hA hx rfl rfl (hb hb' hd) rfl (XT.ii_ne_t hc) ho hp q) (yes hc)
theorem RunW.if_lt {x : Int32} {o : Int} {pa : Nat} (hd : decode code pc = .ok (.ifCond .lt o, 3)) (ho : 0 ≤ (pc : Int) + o) (hp : ((pc : Int) + o).toNat = pc') (hq : pc + 3 = pa)
    (yes : x < 0 → RunW l Z EL n0 own code maxL ret nm R Q pc' Ls st h vm k n) (no : ¬ x < 0 → RunW l Z EL n0 own code maxL ret nm R Q pa Ls st h vm k n) : RunW l Z EL n0 own code maxL ret nm R Q pc Ls (.int x :: st) h vm k n := by
  subst hq
  by_cases hc : x < 0
  · exact RunW.stp (fun p e below T m c t hA hx hb' q => XS.ifYes hA hx rfl rfl (hb hb' hd) rfl (XT.i0_lt_t hc) ho hp q) (yes hc)
  · exact RunW.stp (fun p e below T m c t hA hx hb' q => XS.ifNo hA hx rfl (hb hb' hd) rfl (XT.i0_lt_f hc) q) (no hc)
theorem RunW.icmp_lt {x y : Int32} {o : Int} {pa : Nat} (hd : decode code pc = .ok (.if_icmp .lt o, 3)) (ho : 0 ≤ (pc : Int) + o) (hp : ((pc : Int) + o).toNat = pc') (hq : pc + 3 = pa)
    (yes : x < y → RunW l Z EL n0 own code maxL ret nm R Q pc' Ls st h vm k n) (no : ¬ x < y → RunW l Z EL n0 own code maxL ret nm R Q pa Ls st h vm k n) : RunW l Z EL n0 own code maxL ret nm R Q pc Ls (.int y :: .int x :: st) h vm k n := by
  subst hq
  by_cases hc : x < y
  · exact RunW.stp (fun p e below T m c t hA hx hb' q => XS.icmpYes hA hx rfl rfl (hb hb' hd) rfl (XT.ii_lt_t hc) ho hp q) (yes hc)
  · exact RunW.stp (fun p e below T m c t hA hx hb' q => XS.icmpNo hA hx rfl (hb hb' hd) rfl (XT.ii_lt_f hc) q) (no hc)
theorem RunW.if_ge {x : Int32} {o : Int} {pa : Nat} (hd : decode code pc = .ok (.ifCond .ge o, 3)) (ho : 0 ≤ (pc : Int) + o) (hp : ((pc : Int) + o).toNat = pc') (hq : pc + 3 = pa)
    (yes : ¬ x < 0 → RunW l Z EL n0 own code maxL ret nm R Q pc' Ls st h vm k n) (no : x < 0 → RunW l Z EL n0 own code maxL ret nm R Q pa Ls st h vm k n) : RunW l Z EL n0 own code maxL ret nm R Q pc Ls (.int x :: st) h vm k n := by
  subst hq
  by_cases hc : x < 0
  · exact RunW.stp (fun p e below T m c t hA hx hb' q => XS.ifNo hA hx rfl (hb hb' hd) rfl (XT.i0_ge_f hc) q) (no (by simpa using hc))
  · exact RunW.stp (fun p e below T m c t hA hx hb' q => XS.ifYes hA hx rfl rfl (hb hb' hd) rfl (XT.i0_ge_t hc) ho hp q) (yes hc)
theorem RunW.icmp_ge {x y : Int32} {o : Int} {pa : Nat} (hd : decode code pc = .ok (.if_icmp .ge o, 3)) (ho : 0 ≤ (pc : Int) + o) (hp : ((pc : Int) + o).toNat = pc') (hq : pc + 3 = pa)
    (yes : ¬ x < y → RunW l Z EL n0 own code maxL ret nm R Q pc' Ls st h vm k n) (no : x < y → RunW l Z EL n0 own code maxL ret nm R Q pa Ls st h vm k n) : RunW l Z EL n0 own code maxL ret nm R Q pc Ls (.int y :: .int x :: st) h vm k n := by
  subst hq
  by_cases hc : x < y
  · exact RunW.stp (fun p e below T m c t hA hx hb' q => XS.icmpNo hA hx rfl (hb hb' hd) rfl (XT.ii_ge_f hc) q) (no (by simpa using hc))
  · exact RunW.stp (fun p e below T m c t hA hx hb' q => XS.icmpYes hA hx rfl rfl (hb hb' hd) rfl (XT.ii_ge_t hc) ho hp q) (yes hc)
theorem RunW.if_gt {x : Int32} {o : Int} {pa : Nat} (hd : decode code pc = .ok (.ifCond .gt o, 3)) (ho : 0 ≤ (pc : Int) + o) (hp : ((pc : Int) + o).toNat = pc') (hq : pc + 3 = pa)
    (yes : 0 < x → RunW l Z EL n0 own code maxL ret nm R Q pc' Ls st h vm k n) (no : ¬ 0 < x → RunW l Z EL n0 own code maxL ret nm R Q pa Ls st h vm k n) : RunW l Z EL n0 own code maxL ret nm R Q pc Ls (.int x :: st) h vm k n := by
  subst hq
  by_cases hc : 0 < x
  · exact RunW.stp (fun p e below T m c t hA hx hb' q => XS.ifYes hA hx rfl rfl (hb hb' hd) rfl (XT.i0_gt_t hc) ho hp q) (yes hc)
  · exact RunW.stp (fun p e below T m c t hA hx hb' q => XS.ifNo hA hx rfl (hb hb' hd) rfl (XT.i0_gt_f hc) q) (no hc)
theorem RunW.icmp_gt {x y : Int32} {o : Int} {pa : Nat} (hd : decode code pc = .ok (.if_icmp .gt o, 3)) (ho : 0 ≤ (pc : Int) + o) (hp : ((pc : Int) + o).toNat = pc') (hq : pc + 3 = pa)
    (yes : y < x → RunW l Z EL n0 own code maxL ret nm R Q pc' Ls st h vm k n) (no : ¬ y < x → RunW l Z EL n0 own code maxL ret nm R Q pa Ls st h vm k n) : RunW l Z EL n0 own code maxL ret nm R Q pc Ls (.int y :: .int x :: st) h vm k n := by
  subst hq
  by_cases hc : y < x
  · exact RunW.stp (fun p e below T m c t hA hx hb' q => XS.icmpYes hA hx rfl rfl (hb hb' hd) rfl (XT.ii_gt_t hc) ho hp q) (yes hc)
  · exact RunW.stp (fun p e below T m c t hA hx hb' q => XS.icmpNo hA hx rfl (hb hb' hd) rfl (XT.ii_gt_f hc) q) (no hc)
theorem RunW.if_le {x : Int32} {o : Int} {pa : Nat} (hd : decode code pc = .ok (.ifCond .le o, 3)) (ho : 0 ≤ (pc : Int) + o) (hp : ((pc : Int) + o).toNat = pc') (hq : pc + 3 = pa)
    (yes : ¬ 0 < x → RunW l Z EL n0 own code maxL ret nm R Q pc' Ls st h vm k n) (no : 0 < x → RunW l Z EL n0 own code maxL ret nm R Q pa Ls st h vm k n) : RunW l Z EL n0 own code maxL ret nm R Q pc Ls (.int x :: st) h vm k n := by
  subst hq
  by_cases hc : 0 < x
  · exact RunW.stp (fun p e below T m c t hA hx hb' q => XS.ifNo hA hx rfl (hb hb' hd) rfl (XT.i0_le_f hc) q) (no (by simpa using hc))
  · exact RunW.stp (fun p e below T m c t hA hx hb' q => XS.ifYes hA hx rfl rfl (hb hb' hd) rfl (XT.i0_le_t hc) ho hp q) (yes hc)
theorem RunW.icmp_le {x y : Int32} {o : Int} {pa : Nat} (hd : decode code pc = .ok (.if_icmp .le o, 3)) (ho : 0 ≤ (pc : Int) + o) (hp : ((pc : Int) + o).toNat = pc') (hq : pc + 3 = pa)
    (yes : ¬ y < x → RunW l Z EL n0 own code maxL ret nm R Q pc' Ls st h vm k n) (no : y < x → RunW l Z EL n0 own code maxL ret nm R Q pa Ls st h vm k n) : RunW l Z EL n0 own code maxL ret nm R Q pc Ls (.int y :: .int x :: st) h vm k n := by
  subst hq
  by_cases hc : y < x
  · exact RunW.stp (fun p e below T m c t hA hx hb' q => XS.icmpNo hA hx rfl (hb hb' hd) rfl (XT.ii_le_f hc) q) (no (by simpa using hc))
  · exact RunW.stp (fun p e below T m c t hA hx hb' q => XS.icmpYes hA hx rfl rfl (hb hb' hd) rfl (XT.ii_le_t hc) ho hp q) (yes hc)
theorem RunW.lif_eq {x y : Int64} {o : Int} {pa : Nat} (hd : decode code pc = .ok (.ifCond .eq o, 3)) (ho : 0 ≤ (pc : Int) + o) (hp : ((pc : Int) + o).toNat = pc') (hq : pc + 3 = pa)
    (yes : x = y → RunW l Z EL n0 own code maxL ret nm R Q pc' Ls st h vm k n) (no : ¬ x = y → RunW l Z EL n0 own code maxL ret nm R Q pa Ls st h vm k n) : RunW l Z EL n0 own code maxL ret nm R Q pc Ls (.int (XT.cmpL x y) :: st) h vm k n := by
  subst hq
  by_cases hc : x = y
  · exact RunW.stp (fun p e below T m c t hA hx hb' q => XS.ifYes hA hx rfl rfl (hb hb' hd) rfl (XT.ll_eq_t hc) ho hp q) (yes hc)
  · exact RunW.stp (fun p e below T m c t hA hx hb' q => XS.ifNo hA hx rfl (hb hb' hd) rfl (XT.ll_eq_f hc) q) (no hc)
theorem RunW.lif_ne {x y : Int64} {o : Int} {pa : Nat} (hd : decode code pc = .ok (.ifCond .ne o, 3)) (ho : 0 ≤ (pc : Int) + o) (hp : ((pc : Int) + o).toNat = pc') (hq : pc + 3 = pa)
    (yes : ¬ x = y → RunW l Z EL n0 own code maxL ret nm R Q pc' Ls st h vm k n) (no : x = y → RunW l Z EL n0 own code maxL ret nm R Q pa Ls st h vm k n) : RunW l Z EL n0 own code maxL ret nm R Q pc Ls (.int (XT.cmpL x y) :: st) h vm k n := by
  subst hq
  by_cases hc : x = y
  · exact RunW.stp (fun p e below T m c t hA hx hb' q => XS.ifNo hA hx rfl (hb hb' hd) rfl (XT.ll_ne_f hc) q) (no (by simpa using hc))
  · exact RunW.stp (fun p e below T m c t hA hx hb' q => XS.ifYes hA hx rfl rfl (hb hb' hd) rfl (XT.ll_ne_t hc) ho hp q) (yes hc)
theorem RunW.lif_lt {x y : Int64} {o : Int} {pa : Nat} (hd : decode code pc = .ok (.ifCond .lt o, 3)) (ho : 0 ≤ (pc : Int) + o) (hp : ((pc : Int) + o).toNat = pc') (hq : pc + 3 = pa)
    (yes : x < y → RunW l Z EL n0 own code maxL ret nm R Q pc' Ls st h vm k n) (no : ¬ x < y → RunW l Z EL n0 own code maxL ret nm R Q pa Ls st h vm k n) : RunW l Z EL n0 own code maxL ret nm R Q pc Ls (.int (XT.cmpL x y) :: st) h vm k n := by
  subst hq
  by_cases hc : x < y
  · exact RunW.stp (fun p e below T m c t hA hx hb' q => XS.ifYes hA hx rfl rfl (hb hb' hd) rfl (XT.ll_lt_t hc) ho hp q) (yes hc)
  · exact RunW.stp (fun p e below T m c t hA hx hb' q => XS.ifNo hA hx rfl (hb hb' hd) rfl (XT.ll_lt_f hc) q) (no hc)
theorem RunW.lif_ge {x y : Int64} {o : Int} {pa : Nat} (hd : decode code pc = .ok (.ifCond .ge o, 3)) (ho : 0 ≤ (pc : Int) + o) (hp : ((pc : Int) + o).toNat = pc') (hq : pc + 3 = pa)
    (yes : ¬ x < y → RunW l Z EL n0 own code maxL ret nm R Q pc' Ls st h vm k n) (no : x < y → RunW l Z EL n0 own code maxL ret nm R Q pa Ls st h vm k n) : RunW l Z EL n0 own code maxL ret nm R Q pc Ls (.int (XT.cmpL x y) :: st) h vm k n := by
  subst hq
  by_cases hc : x < y
  · exact RunW.stp (fun p e below T m c t hA hx hb' q => XS.ifNo hA hx rfl (hb hb' hd) rfl (XT.ll_ge_f hc) q) (no (by simpa using hc))
  · exact RunW.stp (fun p e below T m c t hA hx hb' q => XS.ifYes hA hx rfl rfl (hb hb' hd) rfl (XT.ll_ge_t hc) ho hp q) (yes hc)
theorem RunW.lif_gt {x y : Int64} {o : Int} {pa : Nat} (hd : decode code pc = .ok (.ifCond .gt o, 3)) (ho : 0 ≤ (pc : Int) + o) (hp : ((pc : Int) + o).toNat = pc') (hq : pc + 3 = pa)
    (yes : y < x → RunW l Z EL n0 own code maxL ret nm R Q pc' Ls st h vm k n) (no : ¬ y < x → RunW l Z EL n0 own code maxL ret nm R Q pa Ls st h vm k n) : RunW l Z EL n0 own code maxL ret nm R Q pc Ls (.int (XT.cmpL x y) :: st) h vm k n := by
  subst hq
  by_cases hc : y < x
  · exact RunW.stp (fun p e below T m c t hA hx hb' q => XS.ifYes hA hx rfl rfl (hb hb' hd) rfl (XT.ll_gt_t hc) ho hp q) (yes hc)
  · exact RunW.stp (fun p e below T m c t hA hx hb' q => XS.ifNo hA hx rfl (hb hb' hd) rfl (XT.ll_gt_f hc) q) (no hc)
theorem RunW.lif_le {x y : Int64} {o : Int} {pa : Nat} (hd : decode code pc = .ok (.ifCond .le o, 3)) (ho : 0 ≤ (pc : Int) + o) (hp : ((pc : Int) + o).toNat = pc') (hq : pc + 3 = pa)
    (yes : ¬ y < x → RunW l Z EL n0 own code maxL ret nm R Q pc' Ls st h vm k n) (no : y < x → RunW l Z EL n0 own code maxL ret nm R Q pa Ls st h vm k n) : RunW l Z EL n0 own code maxL ret nm R Q pc Ls (.int (XT.cmpL x y) :: st) h vm k n := by
  subst hq
  by_cases hc : y < x
  · exact RunW.stp (fun p e below T m c t hA hx hb' q => XS.ifNo hA hx rfl (hb hb' hd) rfl (XT.ll_le_f hc) q) (no (by simpa using hc))
  · exact RunW.stp (fun p e below T m c t hA hx hb' q => XS.ifYes hA hx rfl rfl (hb hb' hd) rfl (XT.ll_le_t hc) ho hp q) (yes hc)
theorem RunW.acmp_eq {x y : Value} {o : Int} {pa : Nat} (hd : decode code pc = .ok (.if_acmp .eq o, 3)) (hv : x.isRef = true) (hv' : y.isRef = true) (ho : 0 ≤ (pc : Int) + o) (hp : ((pc : Int) + o).toNat = pc') (hq : pc + 3 = pa)
    (yes : x = y → RunW l Z EL n0 own code maxL ret nm R Q pc' Ls st h vm k n) (no : ¬ x = y → RunW l Z EL n0 own code maxL ret nm R Q pa Ls st h vm k n) : RunW l Z EL n0 own code maxL ret nm R Q pc Ls (y :: x :: st) h vm k n := by
  subst hq
  by_cases hc : x = y
  · exact RunW.stp (fun p e below T m c t hA hx hb' q => XT.acmpYes hA hx rfl rfl (hb hb' hd) rfl hv hv' (XT.aa_eq_t hc) ho hp q) (yes hc)
  · exact RunW.stp (fun p e below T m c t hA hx hb' q => XT.acmpNo hA hx rfl (hb hb' hd) rfl hv hv' (XT.aa_eq_f hc) q) (no hc)
theorem RunW.acmp_ne {x y : Value} {o : Int} {pa : Nat} (hd : decode code pc = .ok (.if_acmp .ne o, 3)) (hv : x.isRef = true) (hv' : y.isRef = true) (ho : 0 ≤ (pc : Int) + o) (hp : ((pc : Int) + o).toNat = pc') (hq : pc + 3 = pa)
    (yes : ¬ x = y → RunW l Z EL n0 own code maxL ret nm R Q pc' Ls st h vm k n) (no : x = y → RunW l Z EL n0 own code maxL ret nm R Q pa Ls st h vm k n) : RunW l Z EL n0 own code maxL ret nm R Q pc Ls (y :: x :: st) h vm k n := by
  subst hq
  by_cases hc : x = y
  · exact RunW.stp (fun p e below T m c t hA hx hb' q => XT.acmpNo hA hx rfl (hb hb' hd) rfl hv hv' (XT.aa_ne_f hc) q) (no (by simpa using hc))
  · exact RunW.stp (fun p e below T m c t hA hx hb' q => XT.acmpYes hA hx rfl rfl (hb hb' hd) rfl hv hv' (XT.aa_ne_t hc) ho hp q) (yes hc)
theorem RunW.ifnull {v : Value} {o : Int} {pa : Nat} (hd : decode code pc = .ok (.ifnull o, 3)) (hv : v.isRef = true) (ho : 0 ≤ (pc : Int) + o) (hp : ((pc : Int) + o).toNat = pc') (hq : pc + 3 = pa)
    (yes : v = .null → RunW l Z EL n0 own code maxL ret nm R Q pc' Ls st h vm k n) (no : ¬ v = .null → RunW l Z EL n0 own code maxL ret nm R Q pa Ls st h vm k n) : RunW l Z EL n0 own code maxL ret nm R Q pc Ls (v :: st) h vm k n := by
  subst hq
  by_cases hc : v = .null
  · exact RunW.stp (fun p e below T m c t hA hx hb' q => XT.nullYes hA hx rfl rfl (hb hb' hd) rfl hc ho hp q) (yes hc)
  · exact RunW.stp (fun p e below T m c t hA hx hb' q => XT.nullNo hA hx rfl (hb hb' hd) rfl hv hc q) (no hc)
theorem RunW.ifnonnull {v : Value} {o : Int} {pa : Nat} (hd : decode code pc = .ok (.ifnonnull o, 3)) (hv : v.isRef = true) (ho : 0 ≤ (pc : Int) + o) (hp : ((pc : Int) + o).toNat = pc') (hq : pc + 3 = pa)
    (yes : ¬ v = .null → RunW l Z EL n0 own code maxL ret nm R Q pc' Ls st h vm k n) (no : v = .null → RunW l Z EL n0 own code maxL ret nm R Q pa Ls st h vm k n) : RunW l Z EL n0 own code maxL ret nm R Q pc Ls (v :: st) h vm k n := by
  subst hq
  by_cases hc : v = .null
  · exact RunW.stp (fun p e below T m c t hA hx hb' q => XT.nonnullNo hA hx rfl (hb hb' hd) rfl hc q) (no hc)
  · exact RunW.stp (fun p e below T m c t hA hx hb' q => XT.nonnullYes hA hx rfl rfl (hb hb' hd) rfl hv hc ho hp q) (yes hc)
theorem RunW.ldcI {a0 : Array Value} {i : Nat} {v : Int32} (hd : decode code pc = .ok (.ldc i, 2)) (w : (Cond.constant own i v).before a0 Z = true) (hp : pc + 2 = pc') (nxt : RunW l Z EL n0 own code maxL ret nm R Q pc' Ls (.int v :: st) h vm k n) : RunW l Z EL n0 own code maxL ret nm R Q pc Ls st h vm k n := by
  subst hp
  exact RunW.via (fun p e s m args below meth c T locs cells slots hC X eT => ⟨T, X, eT, fun t q => X.ldcI hC.1 hC.2.2.1 (mvT hC.2.1 w) rfl (hb hC.2.2.2.1 hd) q⟩) nxt
theorem RunW.ldcWI {a0 : Array Value} {i : Nat} {v : Int32} (hd : decode code pc = .ok (.ldc_w i, 3)) (w : (Cond.constant own i v).before a0 Z = true) (hp : pc + 3 = pc') (nxt : RunW l Z EL n0 own code maxL ret nm R Q pc' Ls (.int v :: st) h vm k n) : RunW l Z EL n0 own code maxL ret nm R Q pc Ls st h vm k n := by
  subst hp
  exact RunW.via (fun p e s m args below meth c T locs cells slots hC X eT => ⟨T, X, eT, fun t q => X.ldcWI hC.1 hC.2.2.1 (mvT hC.2.1 w) rfl (hb hC.2.2.2.1 hd) q⟩) nxt
theorem RunW.ldc2J {a0 : Array Value} {i : Nat} {v : Int64} (hd : decode code pc = .ok (.ldc2_w i, 3)) (w : (Cond.constantLong own i v).before a0 Z = true) (hp : pc + 3 = pc') (nxt : RunW l Z EL n0 own code maxL ret nm R Q pc' Ls (.long v :: st) h vm k n) : RunW l Z EL n0 own code maxL ret nm R Q pc Ls st h vm k n := by
  subst hp
  exact RunW.via (fun p e s m args below meth c T locs cells slots hC X eT => ⟨T, X, eT, fun t q => X.ldc2J hC.1 hC.2.2.1 (mvT hC.2.1 w) rfl (hb hC.2.2.2.1 hd) q⟩) nxt
theorem RunW.getS {a0 : Array Value} {R0 O f d host : String} {i : Nat} {v : Value} (hd : decode code pc = .ok (.getstatic i, 3)) (w : (Cond.fieldLink own i R0 f d).before a0 Z = true ∨ (Cond.fieldLinkNest own i R0 f d host).before a0 Z = true) (via : Via Z R0 O f d) (F : Sta Z h O f d v) (hp : pc + 3 = pc') (nxt : RunW l Z EL n0 own code maxL ret nm R Q pc' Ls (v :: st) h vm k n) : RunW l Z EL n0 own code maxL ret nm R Q pc Ls st h vm k n := by
  subst hp
  exact RunW.via (fun p e s m args below meth c T locs cells slots hC X eT => getS2 X hC.1 hC.2.1 hC.2.2.1 w via eT F (g := mkF m pc Ls st) rfl (hb hC.2.2.2.1 hd)) nxt
theorem RunW.getF {a0 : Array Value} {R0 O f d host : String} {i : Nat} {a : Addr} {v : Value} (hd : decode code pc = .ok (.getfield i, 3)) (w : (Cond.fieldLink own i R0 f d).before a0 Z = true ∨ (Cond.fieldLinkNest own i R0 f d host).before a0 Z = true) (via : Via Z R0 O f d) (F : Fld Z h a O f d v) (hp : pc + 3 = pc') (nxt : RunW l Z EL n0 own code maxL ret nm R Q pc' Ls (v :: st) h vm k n) : RunW l Z EL n0 own code maxL ret nm R Q pc Ls (.ref a :: st) h vm k n := by
  subst hp
  exact RunW.via (fun p e s m args below meth c T locs cells slots hC X eT => getF X hC.1 hC.2.1 hC.2.2.1 w via eT F (g := mkF m pc Ls (.ref a :: st)) rfl rfl (hb hC.2.2.2.1 hd)) nxt
theorem RunW.initO {a0 : Array Value} {i : Nat} {a : Addr} (hd : decode code pc = .ok (.invokespecial i, 3)) (w1 : (Cond.methodLink own i Lib.objectInit).before a0 Z = true) (w2 : (Cond.instanceMethod Lib.objectInit).before a0 Z = true) (w3 : (Cond.code Lib.objectInit ⟨#[0xb1]⟩ 1 none).before a0 Z = true)
    (hsz : Ls.size = maxL) (hf : 1 ≤ R.frames) (hl : (st.map fun v => v.category).sum + 12 ≤ R.locals) (hp : pc + 3 = pc') (nxt : RunW l Z EL n0 own code maxL ret nm R Q pc' Ls st h vm k n) : RunW l Z EL n0 own code maxL ret nm R Q pc Ls (.ref a :: st) h vm k n := by
  subst hp
  exact RunW.via (fun p e s m args below meth c T locs cells slots hC X eT => initO X hC.1 hC.2.1 hC.2.2.1 w1 w2 w3 eT (g := mkF m pc Ls (.ref a :: st)) rfl (hsz.trans hC.2.2.2.2.1.symm) rfl (hb hC.2.2.2.1 hd) hf (W := (st.map fun v => v.category).sum) (by show 2 * 0 + _ ≤ _; omega) hl) nxt
theorem RunW.castY {a0 : Array Value} {K : String} {i : Nat} {a : Addr} (hd : decode code pc = .ok (.checkcast i, 3)) (w : (Cond.classLink own i K).before a0 Z = true) (F : Ins Z h a K true) (hp : pc + 3 = pc') (nxt : RunW l Z EL n0 own code maxL ret nm R Q pc' Ls (.ref a :: st) h vm k n) : RunW l Z EL n0 own code maxL ret nm R Q pc Ls (.ref a :: st) h vm k n := by
  subst hp
  exact RunW.via (fun p e s m args below meth c T locs cells slots hC X eT => castY X hC.1 hC.2.1 hC.2.2.1 w eT F (g := mkF m pc Ls (.ref a :: st)) rfl rfl (hb hC.2.2.2.1 hd)) nxt
theorem RunW.castNull {i : Nat} (hd : decode code pc = .ok (.checkcast i, 3)) (hp : pc + 3 = pc') (nxt : RunW l Z EL n0 own code maxL ret nm R Q pc' Ls (.null :: st) h vm k n) : RunW l Z EL n0 own code maxL ret nm R Q pc Ls (.null :: st) h vm k n := by
  subst hp
  exact RunW.via (fun p e s m args below meth c T locs cells slots hC X eT => ⟨T, X, eT, fun t q => X.checkcastNull hC.1 (g := mkF m pc Ls (.null :: st)) rfl rfl (hb hC.2.2.2.1 hd) t q⟩) nxt
theorem RunW.instY {a0 : Array Value} {K : String} {i : Nat} {a : Addr} (hd : decode code pc = .ok (.instanceof i, 3)) (w : (Cond.classLink own i K).before a0 Z = true) (F : Ins Z h a K true) (hp : pc + 3 = pc') (nxt : RunW l Z EL n0 own code maxL ret nm R Q pc' Ls (.int 1 :: st) h vm k n) : RunW l Z EL n0 own code maxL ret nm R Q pc Ls (.ref a :: st) h vm k n := by
  subst hp
  exact RunW.via (fun p e s m args below meth c T locs cells slots hC X eT => instY X hC.1 hC.2.1 hC.2.2.1 w eT F (g := mkF m pc Ls (.ref a :: st)) rfl rfl (hb hC.2.2.2.1 hd)) nxt
theorem RunW.instNo {a0 : Array Value} {K C : String} {i : Nat} {a : Addr} (hd : decode code pc = .ok (.instanceof i, 3)) (w : (Cond.classLink own i K).before a0 Z = true) (E : Exa Z h a C) (F : ∃ c t, Z.vm.findClass C = some c ∧ Z.vm.findClass K = some t ∧ Z.vm.assignable c t = false) (hp : pc + 3 = pc') (nxt : RunW l Z EL n0 own code maxL ret nm R Q pc' Ls (.int 0 :: st) h vm k n) : RunW l Z EL n0 own code maxL ret nm R Q pc Ls (.ref a :: st) h vm k n := by
  subst hp
  exact RunW.via (fun p e s m args below meth c T locs cells slots hC X eT => instNo X hC.1 hC.2.1 hC.2.2.1 w eT E F (g := mkF m pc Ls (.ref a :: st)) rfl rfl (hb hC.2.2.2.1 hd)) nxt
theorem RunW.instNull {i : Nat} (hd : decode code pc = .ok (.instanceof i, 3)) (hp : pc + 3 = pc') (nxt : RunW l Z EL n0 own code maxL ret nm R Q pc' Ls (.int 0 :: st) h vm k n) : RunW l Z EL n0 own code maxL ret nm R Q pc Ls (.null :: st) h vm k n := by
  subst hp
  exact RunW.via (fun p e s m args below meth c T locs cells slots hC X eT => ⟨T, X, eT, fun t q => X.instanceofNull hC.1 (g := mkF m pc Ls (.null :: st)) rfl rfl (hb hC.2.2.2.1 hd) t q⟩) nxt
theorem RunW.alen {a : Addr} {ty : FieldType} {vs : List Value} {z : Int32} (hd : decode code pc = .ok (.arraylength, 1)) (A : Ary Z h a ty vs) (hz : vs.length.toInt32 = z) (hp : pc + 1 = pc') (nxt : RunW l Z EL n0 own code maxL ret nm R Q pc' Ls (.int z :: st) h vm k n) : RunW l Z EL n0 own code maxL ret nm R Q pc Ls (.ref a :: st) h vm k n := by
  subst hp hz
  obtain ⟨c0, A, r⟩ := A
  exact RunW.via (fun p e s m args below meth c T locs cells slots hC X eT => ⟨T, X, eT, fun t q => X.arraylength hC.1 (by rw [eT]; exact A.1) (State.isArrayOf_alike hC.2.1.alike A.2.1) (g := mkF m pc Ls (.ref a :: st)) rfl rfl (hb hC.2.2.2.1 hd) t (by rw [sizeOf r]; exact q)⟩) nxt
theorem RunW.iaload {a : Addr} {vs : List Value} {j : Int32} {i : Nat} {v : Value} (hd : decode code pc = .ok (.iaload, 1)) (A : Ary Z h a .int vs) (hj : j.toInt = (i : Int)) (hv : vs[i]? = some v) (hp : pc + 1 = pc') (nxt : RunW l Z EL n0 own code maxL ret nm R Q pc' Ls (v :: st) h vm k n) : RunW l Z EL n0 own code maxL ret nm R Q pc Ls (.int j :: .ref a :: st) h vm k n := by
  subst hp
  obtain ⟨c0, A, r⟩ := A
  obtain ⟨hin, e0⟩ := idxIn (c := c0) hj (by rw [sizeOf r]; exact (List.getElem?_eq_some_iff.mp hv).1)
  exact RunW.via (fun p e s m args below meth c T locs cells slots hC X eT => ⟨T, X, eT, fun t q => X.iaload hC.1 (by rw [eT]; exact A.1) (State.isArrayOf_alike hC.2.1.alike A.2.1) A.2.2 hin (by rw [e0]; exact getOf r hv) (g := mkF m pc Ls (.int j :: .ref a :: st)) rfl rfl (hb hC.2.2.2.1 hd) t q⟩) nxt
theorem RunW.laload {a : Addr} {vs : List Value} {j : Int32} {i : Nat} {v : Value} (hd : decode code pc = .ok (.laload, 1)) (A : Ary Z h a .long vs) (hj : j.toInt = (i : Int)) (hv : vs[i]? = some v) (hp : pc + 1 = pc') (nxt : RunW l Z EL n0 own code maxL ret nm R Q pc' Ls (v :: st) h vm k n) : RunW l Z EL n0 own code maxL ret nm R Q pc Ls (.int j :: .ref a :: st) h vm k n := by
  subst hp
  obtain ⟨c0, A, r⟩ := A
  obtain ⟨hin, e0⟩ := idxIn (c := c0) hj (by rw [sizeOf r]; exact (List.getElem?_eq_some_iff.mp hv).1)
  exact RunW.via (fun p e s m args below meth c T locs cells slots hC X eT => ⟨T, X, eT, fun t q => X.laload hC.1 (by rw [eT]; exact A.1) (State.isArrayOf_alike hC.2.1.alike A.2.1) A.2.2 hin (by rw [e0]; exact getOf r hv) (g := mkF m pc Ls (.int j :: .ref a :: st)) rfl rfl (hb hC.2.2.2.1 hd) t q⟩) nxt
theorem RunW.caload {a : Addr} {vs : List Value} {j : Int32} {i : Nat} {v : Value} (hd : decode code pc = .ok (.caload, 1)) (A : Ary Z h a .char vs) (hj : j.toInt = (i : Int)) (hv : vs[i]? = some v) (hp : pc + 1 = pc') (nxt : RunW l Z EL n0 own code maxL ret nm R Q pc' Ls (v :: st) h vm k n) : RunW l Z EL n0 own code maxL ret nm R Q pc Ls (.int j :: .ref a :: st) h vm k n := by
  subst hp
  obtain ⟨c0, A, r⟩ := A
  obtain ⟨hin, e0⟩ := idxIn (c := c0) hj (by rw [sizeOf r]; exact (List.getElem?_eq_some_iff.mp hv).1)
  exact RunW.via (fun p e s m args below meth c T locs cells slots hC X eT => ⟨T, X, eT, fun t q => X.caload hC.1 (by rw [eT]; exact A.1) (State.isArrayOf_alike hC.2.1.alike A.2.1) A.2.2 hin (by rw [e0]; exact getOf r hv) (g := mkF m pc Ls (.int j :: .ref a :: st)) rfl rfl (hb hC.2.2.2.1 hd) t q⟩) nxt
theorem RunW.saload {a : Addr} {vs : List Value} {j : Int32} {i : Nat} {v : Value} (hd : decode code pc = .ok (.saload, 1)) (A : Ary Z h a .short vs) (hj : j.toInt = (i : Int)) (hv : vs[i]? = some v) (hp : pc + 1 = pc') (nxt : RunW l Z EL n0 own code maxL ret nm R Q pc' Ls (v :: st) h vm k n) : RunW l Z EL n0 own code maxL ret nm R Q pc Ls (.int j :: .ref a :: st) h vm k n := by
  subst hp
  obtain ⟨c0, A, r⟩ := A
  obtain ⟨hin, e0⟩ := idxIn (c := c0) hj (by rw [sizeOf r]; exact (List.getElem?_eq_some_iff.mp hv).1)
  exact RunW.via (fun p e s m args below meth c T locs cells slots hC X eT => ⟨T, X, eT, fun t q => X.saload hC.1 (by rw [eT]; exact A.1) (State.isArrayOf_alike hC.2.1.alike A.2.1) A.2.2 hin (by rw [e0]; exact getOf r hv) (g := mkF m pc Ls (.int j :: .ref a :: st)) rfl rfl (hb hC.2.2.2.1 hd) t q⟩) nxt
theorem RunW.baload {a : Addr} {vs : List Value} {j : Int32} {i : Nat} {v : Value} (hd : decode code pc = .ok (.baload, 1)) (A : Ary Z h a .byte vs) (hj : j.toInt = (i : Int)) (hv : vs[i]? = some v) (hp : pc + 1 = pc') (nxt : RunW l Z EL n0 own code maxL ret nm R Q pc' Ls (v :: st) h vm k n) : RunW l Z EL n0 own code maxL ret nm R Q pc Ls (.int j :: .ref a :: st) h vm k n := by
  subst hp
  obtain ⟨c0, A, r⟩ := A
  obtain ⟨hin, e0⟩ := idxIn (c := c0) hj (by rw [sizeOf r]; exact (List.getElem?_eq_some_iff.mp hv).1)
  exact RunW.via (fun p e s m args below meth c T locs cells slots hC X eT => ⟨T, X, eT, fun t q => X.baloadBytes hC.1 (by rw [eT]; exact A.1) (State.isArrayOf_alike hC.2.1.alike A.2.1) A.2.2 hin (by rw [e0]; exact getOf r hv) (g := mkF m pc Ls (.int j :: .ref a :: st)) rfl rfl (hb hC.2.2.2.1 hd) t q⟩) nxt
theorem RunW.aaload {a : Addr} {vs : List Value} {j : Int32} {i : Nat} {v : Value} {ty : FieldType} (hd : decode code pc = .ok (.aaload, 1)) (A : Ary Z h a ty vs) (hty : ty.isReference = true) (hj : j.toInt = (i : Int)) (hv : vs[i]? = some v) (hp : pc + 1 = pc') (nxt : RunW l Z EL n0 own code maxL ret nm R Q pc' Ls (v :: st) h vm k n) : RunW l Z EL n0 own code maxL ret nm R Q pc Ls (.int j :: .ref a :: st) h vm k n := by
  subst hp
  obtain ⟨c0, A, r⟩ := A
  obtain ⟨hin, e0⟩ := idxIn (c := c0) hj (by rw [sizeOf r]; exact (List.getElem?_eq_some_iff.mp hv).1)
  exact RunW.via (fun p e s m args below meth c T locs cells slots hC X eT => ⟨T, X, eT, fun t q => X.aaload hC.1 (by rw [eT]; exact A.1) (State.isArrayOf_alike hC.2.1.alike A.2.1) hty A.2.2 hin (by rw [e0]; exact getOf r hv) (g := mkF m pc Ls (.int j :: .ref a :: st)) rfl rfl (hb hC.2.2.2.1 hd) t q⟩) nxt
theorem GoW.fin {p : Program} {e : Env} {s : State} {m : MethodId} {args : Array Value} {below : List Frame} {meth : Method} {c : Code} {T S : State} {locs : List Loc} {cells slots k0 : Nat} {v : Option Value} (X : Stand p l e R (s.setVm vm) m args below meth c T locs cells slots) (hZ : Z.Warmed39 (s.setVm vm).vm) (hS : s.Since vm k0) (hk0 : k0 ≤ h.size) (hR : CHr Z EL s.vm s.heap vm h) (hE : ∃ a0, EW Z a0 EL) (eT : T.heap = h) (hv : meth.sig.returnType = none → v = none) (hlk : meth.locks = false) (hF : Fr n0 locs) (hk : cells ≤ R.cells) (hn : slots ≤ R.slots) (hQ : Q v h)
    (f : ∀ fs, (∀ (f : JFrame) (acts : List Action), f.method = m → f.locked = none → f.entered = [] → (doReturn e (T.setTop f) acts v).1 = T.setFrames fs) → Steps p.tables e below S (T.setFrames fs)) : GoW p e below Z s EL n0 R.cells R.slots Q S := by
  subst eT
  obtain ⟨a0, hE⟩ := hE
  have hRq := hR.trans (CHv.at X hZ hE hR.1)
  obtain ⟨fs, hr, hrun, hended, hW⟩ := X.leaveW hS hk0 (v := v) hv hlk
  exact ⟨_, v, locs, f fs hr, hrun, hended, ⟨hQ, hF⟩, hRq, hW.1, hW.2.1, hW.2.2.1, hW.2.2.2.mono hk hn⟩
theorem RunW.ireturn {z : Int32} (hd : decode code pc = .ok (.ireturn, 1)) (hret : ret = some .int) (hk : k ≤ R.cells) (hn : n ≤ R.slots) (hQ : Q (some (.int z)) h) : RunW l Z EL n0 own code maxL ret nm R Q pc Ls (.int z :: st) h vm k n := by
  intro p e s m args below meth c T locs cells slots k0 hC X hS hk0 hR hE eT hF hk' hn'
  have hr := hC.2.2.2.2.2.1
  exact GoW.fin X hC.2.1 hS hk0 hR hE eT (fun q => by rw [hr, hret] at q; cases q) hC.2.2.2.2.2.2.1 hF (Nat.le_trans hk' hk) (Nat.le_trans hn' hn) hQ (fun fs hl => retOut X hC.1 (hr.trans hret) rfl (Or.inl ⟨rfl, Or.inl rfl, z, rfl⟩) (hb hC.2.2.2.1 hd) hl)
theorem RunW.nreturn {z : Int32} {ty : FieldType} (hd : decode code pc = .ok (.ireturn, 1)) (hret : ret = some ty) (ht : ty = .boolean ∨ ty = .byte ∨ ty = .char ∨ ty = .short) (hk : k ≤ R.cells) (hn : n ≤ R.slots) (hQ : Q (some (.int (nar ty z))) h) : RunW l Z EL n0 own code maxL ret nm R Q pc Ls (.int z :: st) h vm k n := by
  intro p e s m args below meth c T locs cells slots k0 hC X hS hk0 hR hE eT hF hk' hn'
  have hr := hC.2.2.2.2.2.1
  exact GoW.fin X hC.2.1 hS hk0 hR hE eT (fun q => by rw [hr, hret] at q; cases q) hC.2.2.2.2.2.2.1 hF (Nat.le_trans hk' hk) (Nat.le_trans hn' hn) hQ (fun fs hl => retN X hC.1 (hr.trans hret) ht (hb hC.2.2.2.1 hd) hl)
theorem RunW.lreturn {z : Int64} (hd : decode code pc = .ok (.lreturn, 1)) (hret : ret = some .long) (hk : k ≤ R.cells) (hn : n ≤ R.slots) (hQ : Q (some (.long z)) h) : RunW l Z EL n0 own code maxL ret nm R Q pc Ls (.long z :: st) h vm k n := by
  intro p e s m args below meth c T locs cells slots k0 hC X hS hk0 hR hE eT hF hk' hn'
  have hr := hC.2.2.2.2.2.1
  exact GoW.fin X hC.2.1 hS hk0 hR hE eT (fun q => by rw [hr, hret] at q; cases q) hC.2.2.2.2.2.2.1 hF (Nat.le_trans hk' hk) (Nat.le_trans hn' hn) hQ (fun fs hl => retOut X hC.1 (hr.trans hret) rfl (Or.inr (Or.inl ⟨rfl, rfl, z, rfl⟩)) (hb hC.2.2.2.1 hd) hl)
theorem RunW.areturn {w : Value} {ty : FieldType} (hd : decode code pc = .ok (.areturn, 1)) (hret : ret = some ty) (ht : ty.isReference = true) (hw : w.isRef = true) (hk : k ≤ R.cells) (hn : n ≤ R.slots) (hQ : Q (some w) h) : RunW l Z EL n0 own code maxL ret nm R Q pc Ls (w :: st) h vm k n := by
  intro p e s m args below meth c T locs cells slots k0 hC X hS hk0 hR hE eT hF hk' hn'
  have hr := hC.2.2.2.2.2.1
  exact GoW.fin X hC.2.1 hS hk0 hR hE eT (fun q => by rw [hr, hret] at q; cases q) hC.2.2.2.2.2.2.1 hF (Nat.le_trans hk' hk) (Nat.le_trans hn' hn) hQ (fun fs hl => retOut X hC.1 (hr.trans hret) (go_narref ht hw) (Or.inr (Or.inr (Or.inr (Or.inr ⟨rfl, ht, hw⟩)))) (hb hC.2.2.2.1 hd) hl)
theorem RunW.vreturn  (hd : decode code pc = .ok (.return_, 1)) (hret : ret = none) (hk : k ≤ R.cells) (hn : n ≤ R.slots) (hQ : Q none h) : RunW l Z EL n0 own code maxL ret nm R Q pc Ls [] h vm k n := by
  intro p e s m args below meth c T locs cells slots k0 hC X hS hk0 hR hE eT hF hk' hn'
  have hr := hC.2.2.2.2.2.1
  exact GoW.fin X hC.2.1 hS hk0 hR hE eT (fun _ => rfl) hC.2.2.2.2.2.2.1 hF (Nat.le_trans hk' hk) (Nat.le_trans hn' hn) hQ (fun fs hl => X.returnOut hC.1 (hr.trans hret) (hb hC.2.2.2.1 hd) hl)

theorem RunW.wr {a : Addr} {sl : Nat} {v : Value} {Ls' : Array Slot} {st' : List Value} (f : ∀ (p : Program) (e : Env) (s : State) (m : MethodId) (args : Array Value) (below : List Frame) (meth : Method) (c : Code) (T : State) (locs : List Loc) (cells slots : Nat),
      Ctx Z own code maxL ret nm p s m meth c → Stand p l e R s m args below meth c T locs cells slots → T.heap = h → ∃ T' h', Stand p l e R s m args below meth c T' (locs ++ [⟨a, sl⟩]) cells slots ∧ T'.heap = h' ∧ Wr h h' a sl v ∧ ∀ t, Steps p.tables e below (T'.setTop (mkF m pc' Ls' st')) t → Steps p.tables e below (T.setTop (mkF m pc Ls st)) t)
    (ha : n0 ≤ a) (sa : Safe Z EL vm h a) (nxt : ∀ h', Wr h h' a sl v → CHr Z EL vm h vm h' → RunW l Z EL n0 own code maxL ret nm R Q pc' Ls' st' h' vm k n) : RunW l Z EL n0 own code maxL ret nm R Q pc Ls st h vm k n := by
  intro p e s m args below meth c T locs cells slots k0 hC X hS hk0 hR hE eT hF hk hn
  obtain ⟨T', h', X', e', W, stp⟩ := f p e (s.setVm vm) m args below meth c T locs cells slots hC X eT
  have c1 := CHr.wr W sa hR.1
  obtain ⟨s₂, v', L, g1, g2⟩ := nxt h' W c1 p e s m args below meth c T' _ cells slots k0 hC X' hS (by rw [W.size]; exact hk0) (hR.trans c1) hE e' (Fr.snoc X' hF ha) hk hn
  exact ⟨s₂, v', L, stp _ g1, g2⟩
theorem RunW.newO {a0 : Array Value} {C : String} {i sl : Nat} (hd : decode code pc = .ok (.new i, 3)) (w : (Cond.classLink own i C).before a0 Z = true) (wi : (Cond.instantiable C sl).before a0 Z = true) (wz : (Cond.initialized C).before a0 Z = true)
    (hk : k + 1 ≤ k') (hk' : k' ≤ R.cells) (hn : n + sl ≤ n') (hn' : n' ≤ R.slots) (hp : pc + 3 = pc')
    (nxt : ∀ h' a, a = h.size → Ext h h' → Exa Z h' a C → (∀ {O f d : String} {ty : FieldType}, Laid Z a0 C O f d → parseFieldDescriptor d = some ty → Fld Z h' a O f d (defaultValue ty)) → CHr Z EL vm h vm h' → Safe Z EL vm h' a → RunW l Z EL n0 own code maxL ret nm R Q pc' Ls (.ref a :: st) h' vm k' n') : RunW l Z EL n0 own code maxL ret nm R Q pc Ls st h vm k n := by
  subst hp
  intro p e s m args below meth c T locs cells slots k0 hC X hS hk0 hR hE eT hF hkk hnn
  obtain ⟨T', h', X', e', E, A, D, -, stp⟩ := newO X hC.1 hC.2.1 hC.2.2.1 w wi wz eT (g := mkF m pc Ls st) rfl (hb hC.2.2.2.1 hd) (by omega) (by omega)
  have c1 := CHr.ext E hR.1
  obtain ⟨s₂, v, L, g1, g2⟩ := nxt h' h.size rfl E A D c1 (Safe.ext E hR.1 (Safe.new (Nat.le_refl _))) p e s m args below meth c T' locs _ _ k0 hC X' hS (Nat.le_trans hk0 E.1) (hR.trans c1) hE e' hF (by omega) (by omega)
  exact ⟨s₂, v, L, stp _ g1, g2⟩
theorem RunW.newP {a0 : Array Value} {aty : ArrayType} {ty : FieldType} {z : Int32} {cap m : Nat} {dv : Value} (hd : decode code pc = .ok (.newarray aty, 2)) (hty : newarray.typeOf aty = ty) (w : (Cond.arrayClass ty).before a0 Z = true) (hz : ¬ z < 0) (hcap : z.toNatClampNeg = m) (hm : m ≤ cap) (hdv : defaultValue ty = dv) (hcb : cap * 8 ≤ 536870912)
    (hk : k + 1 ≤ k') (hk' : k' ≤ R.cells) (hn : n + cap ≤ n') (hn' : n' ≤ R.slots) (hp : pc + 2 = pc')
    (nxt : ∀ h' a, a = h.size → Ext h h' → Ary Z h' a ty (List.replicate m dv) → CHr Z EL vm h vm h' → Safe Z EL vm h' a → RunW l Z EL n0 own code maxL ret nm R Q pc' Ls (.ref a :: st) h' vm k' n') : RunW l Z EL n0 own code maxL ret nm R Q pc Ls (.int z :: st) h vm k n := by
  subst hp hty hdv
  intro p e s m' args below meth c T locs cells slots k0 hC X hS hk0 hR hE eT hF hkk hnn
  obtain ⟨T', h', cA, X', e', E, A, stp⟩ := newP X hC.1 hC.2.1 w eT (g := mkF m' pc Ls (.int z :: st)) rfl (hb hC.2.2.2.1 hd) rfl hz (by omega) hcb (by omega) (by omega)
  have c1 := CHr.ext E hR.1
  obtain ⟨s₂, v, L, g1, g2⟩ := nxt h' h.size rfl E ⟨_, A, by simp [newA, hcap]⟩ c1 (Safe.ext E hR.1 (Safe.new (Nat.le_refl _))) p e s m' args below meth c T' locs _ _ k0 hC X' hS (Nat.le_trans hk0 E.1) (hR.trans c1) hE e' hF (by omega) (by omega)
  exact ⟨s₂, v, L, stp _ g1, g2⟩
theorem RunW.putF {a0 : Array Value} {R0 O f d host C : String} {i sl : Nat} {ty : FieldType} {a : Addr} {v old : Value} (hd : decode code pc = .ok (.putfield i, 3)) (w : (Cond.fieldLink own i R0 f d).before a0 Z = true ∨ (Cond.fieldLinkNest own i R0 f d host).before a0 Z = true) (via : Via Z R0 O f d) (F : Fld Z h a O f d old) (E : Exa Z h a C)
    (L : (Cond.lays C O f d).before a0 Z = true ∨ ((Cond.laysFinal C O f d).before a0 Z = true ∧ own = O ∧ nm = "<init>")) (wi : (Cond.instantiable C sl).before a0 Z = true) (hty : parseFieldDescriptor d = some ty) (hnv : narrow ty v = v) (hfv : fits ty v = true) (ha : n0 ≤ a) (sa : Safe Z EL vm h a) (hp : pc + 3 = pc')
    (nxt : ∀ h', Wr h h' a (Jvm.RoadKit.slotOf Z O f d) v → CHr Z EL vm h vm h' → RunW l Z EL n0 own code maxL ret nm R Q pc' Ls st h' vm k n) : RunW l Z EL n0 own code maxL ret nm R Q pc Ls (v :: .ref a :: st) h vm k n := by
  subst hp
  exact RunW.wr (fun p e s m args below meth c T locs cells slots hC X eT => putF X hC.1 hC.2.1 hC.2.2.1 w via eT F E (L.imp id fun q => ⟨q.1, q.2.1, hC.2.2.2.2.2.2.2.trans q.2.2⟩) wi hty hnv hfv (g := mkF m pc Ls (v :: .ref a :: st)) rfl rfl (hb hC.2.2.2.1 hd)) ha sa nxt
theorem RunW.putFN {a0 : Array Value} {R0 O f d C : String} {i sl : Nat} {ty : FieldType} {a : Addr} {v v' old : Value} (hd : decode code pc = .ok (.putfield i, 3)) (w : (Cond.fieldLink own i R0 f d).before a0 Z = true) (via : Via Z R0 O f d) (F : Fld Z h a O f d old) (E : Exa Z h a C)
    (L : (Cond.lays C O f d).before a0 Z = true ∨ ((Cond.laysFinal C O f d).before a0 Z = true ∧ own = O ∧ nm = "<init>")) (wi : (Cond.instantiable C sl).before a0 Z = true) (hty : parseFieldDescriptor d = some ty) (hnv : narrow ty v = v') (hfv : fits ty v' = true) (ha : n0 ≤ a) (sa : Safe Z EL vm h a) (hp : pc + 3 = pc')
    (nxt : ∀ h', Wr h h' a (Jvm.RoadKit.slotOf Z O f d) v' → CHr Z EL vm h vm h' → RunW l Z EL n0 own code maxL ret nm R Q pc' Ls st h' vm k n) : RunW l Z EL n0 own code maxL ret nm R Q pc Ls (v :: .ref a :: st) h vm k n := by
  subst hp
  exact RunW.wr (fun p e s m args below meth c T locs cells slots hC X eT => putFN X hC.1 hC.2.1 hC.2.2.1 w via eT F E (L.imp id fun q => ⟨q.1, q.2.1, hC.2.2.2.2.2.2.2.trans q.2.2⟩) wi hty hnv hfv (g := mkF m pc Ls (v :: .ref a :: st)) rfl rfl (hb hC.2.2.2.1 hd)) ha sa nxt
theorem RunW.iastore {a : Addr} {vs : List Value} {j : Int32} {i : Nat} {x : Int32} (hd : decode code pc = .ok (.iastore, 1)) (A : Ary Z h a .int vs) (hj : j.toInt = (i : Int)) (hi : i < vs.length) (ha : n0 ≤ a) (sa : Safe Z EL vm h a) (hp : pc + 1 = pc') (nxt : ∀ h', Wr h h' a i (.int x) → CHr Z EL vm h vm h' → Ary Z h' a .int (vs.set i (.int x)) → RunW l Z EL n0 own code maxL ret nm R Q pc' Ls st h' vm k n) : RunW l Z EL n0 own code maxL ret nm R Q pc Ls (.int x :: .int j :: .ref a :: st) h vm k n := by
  subst hp
  have A' := A
  obtain ⟨c0, A, r⟩ := A
  obtain ⟨hin, e0⟩ := idxIn (c := c0) hj (by rw [sizeOf r]; exact hi)
  refine RunW.wr (fun p e s m args below meth c T locs cells slots hC X eT => ?_) ha sa (fun h' W c1 => nxt h' W c1 (A'.set W))
  have q := stI X hC.1 hC.2.1 eT A hin (g := mkF m pc Ls (.int x :: .int j :: .ref a :: st)) rfl rfl (hb hC.2.2.2.1 hd)
  rw [e0] at q
  exact q
theorem RunW.lastore {a : Addr} {vs : List Value} {j : Int32} {i : Nat} {x : Int64} (hd : decode code pc = .ok (.lastore, 1)) (A : Ary Z h a .long vs) (hj : j.toInt = (i : Int)) (hi : i < vs.length) (ha : n0 ≤ a) (sa : Safe Z EL vm h a) (hp : pc + 1 = pc') (nxt : ∀ h', Wr h h' a i (.long x) → CHr Z EL vm h vm h' → Ary Z h' a .long (vs.set i (.long x)) → RunW l Z EL n0 own code maxL ret nm R Q pc' Ls st h' vm k n) : RunW l Z EL n0 own code maxL ret nm R Q pc Ls (.long x :: .int j :: .ref a :: st) h vm k n := by
  subst hp
  have A' := A
  obtain ⟨c0, A, r⟩ := A
  obtain ⟨hin, e0⟩ := idxIn (c := c0) hj (by rw [sizeOf r]; exact hi)
  refine RunW.wr (fun p e s m args below meth c T locs cells slots hC X eT => ?_) ha sa (fun h' W c1 => nxt h' W c1 (A'.set W))
  have q := stJ X hC.1 hC.2.1 eT A hin (g := mkF m pc Ls (.long x :: .int j :: .ref a :: st)) rfl rfl (hb hC.2.2.2.1 hd)
  rw [e0] at q
  exact q
theorem RunW.castore {a : Addr} {vs : List Value} {j : Int32} {i : Nat} {x : Int32} (hd : decode code pc = .ok (.castore, 1)) (A : Ary Z h a .char vs) (hj : j.toInt = (i : Int)) (hi : i < vs.length) (ha : n0 ≤ a) (sa : Safe Z EL vm h a) (hp : pc + 1 = pc') (nxt : ∀ h', Wr h h' a i (.int (nar .char x)) → CHr Z EL vm h vm h' → Ary Z h' a .char (vs.set i (.int (nar .char x))) → RunW l Z EL n0 own code maxL ret nm R Q pc' Ls st h' vm k n) : RunW l Z EL n0 own code maxL ret nm R Q pc Ls (.int x :: .int j :: .ref a :: st) h vm k n := by
  subst hp
  have A' := A
  obtain ⟨c0, A, r⟩ := A
  obtain ⟨hin, e0⟩ := idxIn (c := c0) hj (by rw [sizeOf r]; exact hi)
  refine RunW.wr (fun p e s m args below meth c T locs cells slots hC X eT => ?_) ha sa (fun h' W c1 => nxt h' W c1 (A'.set W))
  have q := stC X hC.1 hC.2.1 eT A hin (g := mkF m pc Ls (.int x :: .int j :: .ref a :: st)) rfl rfl (hb hC.2.2.2.1 hd)
  rw [e0] at q
  exact q
theorem RunW.sastore {a : Addr} {vs : List Value} {j : Int32} {i : Nat} {x : Int32} (hd : decode code pc = .ok (.sastore, 1)) (A : Ary Z h a .short vs) (hj : j.toInt = (i : Int)) (hi : i < vs.length) (ha : n0 ≤ a) (sa : Safe Z EL vm h a) (hp : pc + 1 = pc') (nxt : ∀ h', Wr h h' a i (.int (nar .short x)) → CHr Z EL vm h vm h' → Ary Z h' a .short (vs.set i (.int (nar .short x))) → RunW l Z EL n0 own code maxL ret nm R Q pc' Ls st h' vm k n) : RunW l Z EL n0 own code maxL ret nm R Q pc Ls (.int x :: .int j :: .ref a :: st) h vm k n := by
  subst hp
  have A' := A
  obtain ⟨c0, A, r⟩ := A
  obtain ⟨hin, e0⟩ := idxIn (c := c0) hj (by rw [sizeOf r]; exact hi)
  refine RunW.wr (fun p e s m args below meth c T locs cells slots hC X eT => ?_) ha sa (fun h' W c1 => nxt h' W c1 (A'.set W))
  have q := stS X hC.1 hC.2.1 eT A hin (g := mkF m pc Ls (.int x :: .int j :: .ref a :: st)) rfl rfl (hb hC.2.2.2.1 hd)
  rw [e0] at q
  exact q
theorem RunW.bastore {a : Addr} {vs : List Value} {j : Int32} {i : Nat} {x : Int32} (hd : decode code pc = .ok (.bastore, 1)) (A : Ary Z h a .byte vs) (hj : j.toInt = (i : Int)) (hi : i < vs.length) (ha : n0 ≤ a) (sa : Safe Z EL vm h a) (hp : pc + 1 = pc') (nxt : ∀ h', Wr h h' a i (.int (nar .byte x)) → CHr Z EL vm h vm h' → Ary Z h' a .byte (vs.set i (.int (nar .byte x))) → RunW l Z EL n0 own code maxL ret nm R Q pc' Ls st h' vm k n) : RunW l Z EL n0 own code maxL ret nm R Q pc Ls (.int x :: .int j :: .ref a :: st) h vm k n := by
  subst hp
  have A' := A
  obtain ⟨c0, A, r⟩ := A
  obtain ⟨hin, e0⟩ := idxIn (c := c0) hj (by rw [sizeOf r]; exact hi)
  refine RunW.wr (fun p e s m args below meth c T locs cells slots hC X eT => ?_) ha sa (fun h' W c1 => nxt h' W c1 (A'.set W))
  have q := stB X hC.1 hC.2.1 eT A hin (g := mkF m pc Ls (.int x :: .int j :: .ref a :: st)) rfl rfl (hb hC.2.2.2.1 hd)
  rw [e0] at q
  exact q
theorem backW {p : Program} {e : Env} {s : State} {args : Array Value} {below : List Frame} {a0 a1 : Array Value} {y : MethodName} {bytes : ByteArray} {mL : Nat} {rt : Option FieldType} {rm : Room} {len W : Nat} {as' : Array Value} {sf : List Addr} {Q : Option Value → Heap → List Loc → Prop}
    (hM : MetFree l y (head1 [Cond.code y bytes mL rt] rm) (fun a U => a = as' ∧ Z.Warmed39 U.vm ∧ U.heap = h ∧ CHv Z EL U.vm h ∧ ∀ x ∈ sf, Safe Z EL U.vm h x) (fun _ _ _ _ _ => True) (fun _ U o U' => ∃ v L, o = .returned v ∧ Q v U'.heap L ∧ CHr Z EL U.vm U.heap U'.vm U'.heap ∧ ReturnedEndW U o U' L rm.cells rm.slots))
    (hZ : Z.Warmed39 (s.setVm vm).vm) (wc : (Cond.code y bytes mL rt).before a0 Z = true) (wz : (Cond.initialized y.cls).before a0 Z = true) (hf : rm.frames + 1 ≤ R.frames) (hl : W + (mL + 11) + rm.locals ≤ R.locals) (hEL : EW Z a1 EL) (H : CHv Z EL vm h) (hsf : ∀ x ∈ sf, Safe Z EL vm h x) :
    BackS l R p e below (s.setVm vm) args y len W (fun A a => a = as' ∧ A.U.heap = h ∧ A.cells + rm.cells ≤ R.cells ∧ A.slots + rm.slots ≤ R.slots)
      (fun A _ v B => ∃ L, Q v B.U.heap L ∧ B.locs = A.locs ++ L ∧ B.cells = A.cells + rm.cells ∧ B.slots = A.slots + rm.slots ∧ CHr Z EL vm h B.U.vm B.U.heap) := by
  refine BackS.of_freeW (bytes := bytes) (maxL := mL) (ret := rt) (E := fun _ first o t L k n => k = rm.cells ∧ n = rm.slots ∧ (∃ v, o = .returned v ∧ Q v t.heap L) ∧ CHr Z EL first.vm first.heap t.vm t.heap) hM hf hl ?_ ?_ (fun _ _ _ _ _ _ _ _ _ => trivial) (fun _ _ _ _ ⟨v, L, h1, h2, h3, h4⟩ => ⟨L, _, _, h4, rfl, rfl, ⟨v, h1, h2⟩, h3⟩) ?_
  · intro m meth c A a Y hp
    have hU : Z.Warmed39 A.U.vm := wtrans (s := s.setVm vm) hZ Y.warmed
    exact ⟨by show (Cond.and _ .tt).before a A.U = true; rw [Cond.before_and, mv hU wc]; rfl, mv hU wc, mv hU wz, hp.2.2.1, hp.2.2.2⟩
  · intro m meth c A a g mk Y hp
    have c1 := CHv.at Y hZ hEL H
    refine ⟨hp.1, wtrans (s := s.setVm vm) hZ Y.warmed, hp.2.1, c1.1, fun x hx => ?_⟩
    exact fun B => by
      rcases c1.2.2 x B with q | q
      · exact hsf x hx q
      · obtain ⟨cell, q2⟩ := B.there
        exact absurd (Array.getElem?_eq_some_iff.mp q2).1 (Nat.not_lt.mpr q)
  · intro m meth c A a g mk v t L k n Y hp _ _ hq
    obtain ⟨e1, e2, ⟨v', e3, e4⟩, e5⟩ := hq
    cases e3; subst e1 e2
    refine ⟨L, e4, rfl, rfl, rfl, (CHv.at Y hZ hEL H).trans ?_⟩
    rw [← hp.2.1]; exact e5
theorem RunW.callS {a0 : Array Value} {y : MethodName} {bytes : ByteArray} {mL : Nat} {rt : Option FieldType} {rm : Room} {as rest : List Value} {Qy : Option Value → Heap → Prop} {i : Nat} {ps : List FieldType} {rr : Option FieldType}
    (hC : Con l Z n0 y bytes mL rt rm as.toArray h Qy) (hs : ∀ v h', Qy v h' → ∃ ws, Keep h h' ws ∧ ∀ x ∈ ws, Safe Z EL vm h x) (hd : decode code pc = .ok (.invokestatic i, 3)) (w1 : (Cond.methodLink own i y).before a0 Z = true) (w2 : (Cond.static y).before a0 Z = true) (w3 : (Cond.initialized y.cls).before a0 Z = true) (w4 : (Cond.code y bytes mL rt).before a0 Z = true)
    (hy : y.cls ≠ "java/lang/invoke/MethodHandle" ∧ y.cls ≠ "java/lang/invoke/VarHandle") (hds : parseMethodDescriptor y.desc = some ⟨ps, rr⟩) (hl : as.length = ps.length) (hst : st = as.reverse ++ rest) (hsz : Ls.size = maxL)
    (hf : rm.frames + 1 ≤ R.frames) (hlo : (rest.map fun v => v.category).sum + (mL + 11) + rm.locals ≤ R.locals) (hk : k + rm.cells ≤ k') (hk' : k' ≤ R.cells) (hn : n + rm.slots ≤ n') (hn' : n' ≤ R.slots) (hp : pc + 3 = pc')
    (nxt : ∀ v h', Qy v h' → CHr Z EL vm h vm h' → RunW l Z EL n0 own code maxL ret nm R Q pc' Ls (v.toList ++ rest) h' vm k' n') : RunW l Z EL n0 own code maxL ret nm R Q pc Ls st h vm k n := by
  subst hp hst
  intro p e s m args below meth c T locs cells slots k0 hX X hS hk0 hR hE eT hF hc hss
  obtain ⟨hx, hZ, hown, hby, hml, -⟩ := id hX
  obtain ⟨v, vm₁, ⟨B, L', cc, ss⟩, -, X', ⟨Lc, hQ, l1, y1, z1⟩, stp⟩ := Jvm.LawKit.callS X hx (y := y) hown (mvT hZ w1) (mvT hZ w2) (mvT hZ w3) (mvT hZ w4) hy (backOf (W := (rest.map fun v => v.category).sum) (Q := fun v h L => Qy v h ∧ Fr n0 L) (hC []) hZ w4 w3 hf hlo) (g := mkF m pc Ls (as.reverse ++ rest)) rfl (hsz.trans hml.symm) (argsL := as) (rest := rest) (lenOf hds hl) rfl (by show 2 * 0 + _ ≤ _; omega) (hb hby hd) (fun _ _ => ⟨rfl, eT, (by show cells + rm.cells ≤ R.cells; omega), (by show slots + rm.slots ≤ R.slots; omega)⟩)
  dsimp only [Pt.U, Pt.locs, Pt.cells, Pt.slots] at X' l1 y1 z1 stp hQ
  subst l1 y1 z1
  obtain ⟨ws, K, hsw⟩ := hs v _ hQ.1
  have c1 := CHr.keep K hsw hR.1
  obtain ⟨s₂, v', L, g1, g2⟩ := nxt v _ hQ.1 c1 p e s m args below meth c B _ _ _ k0 hX X' hS (Nat.le_trans hk0 K.1) (hR.trans c1) hE rfl (Fr.app hF hQ.2) (by omega) (by omega)
  exact ⟨s₂, v', L, stp _ g1, g2⟩
theorem RunW.callSW {a0 a1 : Array Value} {sf : List Addr} {y : MethodName} {bytes : ByteArray} {mL : Nat} {rt : Option FieldType} {rm : Room} {as rest : List Value} {Qy : Option Value → Heap → Prop} {i : Nat} {ps : List FieldType} {rr : Option FieldType}
    (hC : ConW l Z EL n0 y bytes mL rt rm as.toArray h sf Qy) (hsf : ∀ x ∈ sf, Safe Z EL vm h x) (hEL : EW Z a1 EL) (hd : decode code pc = .ok (.invokestatic i, 3)) (w1 : (Cond.methodLink own i y).before a0 Z = true) (w2 : (Cond.static y).before a0 Z = true) (w3 : (Cond.initialized y.cls).before a0 Z = true) (w4 : (Cond.code y bytes mL rt).before a0 Z = true)
    (hy : y.cls ≠ "java/lang/invoke/MethodHandle" ∧ y.cls ≠ "java/lang/invoke/VarHandle") (hds : parseMethodDescriptor y.desc = some ⟨ps, rr⟩) (hl : as.length = ps.length) (hst : st = as.reverse ++ rest) (hsz : Ls.size = maxL)
    (hf : rm.frames + 1 ≤ R.frames) (hlo : (rest.map fun v => v.category).sum + (mL + 11) + rm.locals ≤ R.locals) (hk : k + rm.cells ≤ k') (hk' : k' ≤ R.cells) (hn : n + rm.slots ≤ n') (hn' : n' ≤ R.slots) (hp : pc + 3 = pc')
    (nxt : ∀ v h' vm', Qy v h' → CHr Z EL vm h vm' h' → RunW l Z EL n0 own code maxL ret nm R Q pc' Ls (v.toList ++ rest) h' vm' k' n') : RunW l Z EL n0 own code maxL ret nm R Q pc Ls st h vm k n := by
  subst hp hst
  intro p e s m args below meth c T locs cells slots k0 hX X hS hk0 hR hE eT hF hc hss
  obtain ⟨hx, hZ, hown, hby, hml, hrt, hlk, hnm⟩ := id hX
  obtain ⟨v, vm₁, ⟨B, L', cc, ss⟩, -, X', hS2, hgr, ⟨Lc, hQ, l1, y1, z1, c1⟩, stp⟩ := callSS X hx (y := y) hown (mvT hZ w1) (mvT hZ w2) (mvT hZ w3) (mvT hZ w4) hy (backW (W := (rest.map fun v => v.category).sum) (Q := fun v h L => Qy v h ∧ Fr n0 L) (hC []) hZ w4 w3 hf hlo hEL hR.1 hsf) (g := mkF m pc Ls (as.reverse ++ rest)) rfl (hsz.trans hml.symm) (argsL := as) (rest := rest) (lenOf hds hl) rfl (by show 2 * 0 + _ ≤ _; omega) (hb hby hd) (fun _ _ => ⟨rfl, eT, (by show cells + rm.cells ≤ R.cells; omega), (by show slots + rm.slots ≤ R.slots; omega)⟩)
  dsimp only [Pt.U, Pt.locs, Pt.cells, Pt.slots] at X' hS2 hgr l1 y1 z1 stp hQ c1
  subst l1 y1 z1
  have hZ2 : Z.Warmed39 B.vm := State.Warmed39.trans (t := s.setVm vm) hZ hS2.1
  obtain ⟨s₂, v', L, g1, g2⟩ := nxt v _ B.vm hQ.1 c1 p e s m args below meth c B _ _ _ B.heap.size ⟨hx, hZ2, (by rw [show (s.setVm B.vm).vm = B.vm from rfl, hS2.1.alike.findClass]; exact hown), hby, hml, hrt, hlk, hnm⟩ X' (hS.trans hS2 (by rw [← eT] at hk0; omega)) (Nat.le_refl _) (hR.trans c1) hE rfl (Fr.app hF hQ.2) (by omega) (by omega)
  exact ⟨s₂, v', L, stp.trans g1, g2⟩
theorem RunW.callV {a0 : Array Value} {C : String} {y z : MethodName} {bytes : ByteArray} {mL : Nat} {rt : Option FieldType} {rm : Room} {a : Addr} {as rest : List Value} {Qy : Option Value → Heap → Prop} {i : Nat} {ps : List FieldType} {rr : Option FieldType}
    (hC : Con l Z n0 z bytes mL rt rm (.ref a :: as).toArray h Qy) (hs : ∀ v h', Qy v h' → ∃ ws, Keep h h' ws ∧ ∀ x ∈ ws, Safe Z EL vm h x) (hX0 : Exa Z h a C) (hd : decode code pc = .ok (.invokevirtual i, 3)) (w1 : (Cond.methodLink own i y).before a0 Z = true) (w2 : (Cond.declares y).before a0 Z = true) (nf : ∀ (s : State), Z.Warmed39 s.vm → NotFace s y) (w3 : (Cond.selects C y z).before a0 Z = true) (w4 : (Cond.instanceMethod z).before a0 Z = true) (w5 : (Cond.initialized z.cls).before a0 Z = true) (w6 : (Cond.code z bytes mL rt).before a0 Z = true)
    (hy : y.cls ≠ "java/lang/invoke/MethodHandle" ∧ y.cls ≠ "java/lang/invoke/VarHandle") (hds : parseMethodDescriptor y.desc = some ⟨ps, rr⟩) (hl : as.length = ps.length) (hst : st = as.reverse ++ .ref a :: rest) (hsz : Ls.size = maxL)
    (hf : rm.frames + 1 ≤ R.frames) (hlo : (rest.map fun v => v.category).sum + (mL + 11) + rm.locals ≤ R.locals) (hk : k + rm.cells ≤ k') (hk' : k' ≤ R.cells) (hn : n + rm.slots ≤ n') (hn' : n' ≤ R.slots) (hp : pc + 3 = pc')
    (nxt : ∀ v h', Qy v h' → CHr Z EL vm h vm h' → RunW l Z EL n0 own code maxL ret nm R Q pc' Ls (v.toList ++ rest) h' vm k' n') : RunW l Z EL n0 own code maxL ret nm R Q pc Ls st h vm k n := by
  subst hp hst
  intro p e s m args below meth c T locs cells slots k0 hX X hS hk0 hR hE eT hF hc hss
  obtain ⟨hx, hZ, hown, hby, hml, -⟩ := id hX
  obtain ⟨cq, kq, qa, qb, qc⟩ := isOf hZ eT hX0
  obtain ⟨v, vm₁, ⟨B, L', cc, ss⟩, -, X', ⟨Lc, hQ, l1, y1, z1⟩, stp⟩ := X.virtualBack hx (y := y) (z := z) hown (mvT hZ w1) (mvT hZ w2) (nf (s.setVm vm) hZ) (mvT hZ w3) (mvT hZ w4) hy (backOf (W := (rest.map fun v => v.category).sum) (Q := fun v h L => Qy v h ∧ Fr n0 L) (hC []) hZ w6 w5 hf hlo) qa qc (g := mkF m pc Ls (as.reverse ++ .ref a :: rest)) rfl (hsz.trans hml.symm) (Steps.refl _) (argsL := as) (rest := rest) (lenOf hds hl) rfl (by show 2 * 0 + _ ≤ _; omega) (hb hby hd) (fun _ _ => ⟨rfl, eT, (by show cells + rm.cells ≤ R.cells; omega), (by show slots + rm.slots ≤ R.slots; omega)⟩)
  dsimp only [Pt.U, Pt.locs, Pt.cells, Pt.slots] at X' l1 y1 z1 stp hQ
  subst l1 y1 z1
  obtain ⟨ws, K, hsw⟩ := hs v _ hQ.1
  have c1 := CHr.keep K hsw hR.1
  obtain ⟨s₂, v', L, g1, g2⟩ := nxt v _ hQ.1 c1 p e s m args below meth c B _ _ _ k0 hX X' hS (Nat.le_trans hk0 K.1) (hR.trans c1) hE rfl (Fr.app hF hQ.2) (by omega) (by omega)
  exact ⟨s₂, v', L, stp.trans g1, g2⟩
theorem RunW.callVW {a0 a1 : Array Value} {sf : List Addr} {C : String} {y z : MethodName} {bytes : ByteArray} {mL : Nat} {rt : Option FieldType} {rm : Room} {a : Addr} {as rest : List Value} {Qy : Option Value → Heap → Prop} {i : Nat} {ps : List FieldType} {rr : Option FieldType}
    (hC : ConW l Z EL n0 z bytes mL rt rm (.ref a :: as).toArray h sf Qy) (hsf : ∀ x ∈ sf, Safe Z EL vm h x) (hEL : EW Z a1 EL) (hX0 : Exa Z h a C) (hd : decode code pc = .ok (.invokevirtual i, 3)) (w1 : (Cond.methodLink own i y).before a0 Z = true) (w2 : (Cond.declares y).before a0 Z = true) (nf : ∀ (s : State), Z.Warmed39 s.vm → NotFace s y) (w3 : (Cond.selects C y z).before a0 Z = true) (w4 : (Cond.instanceMethod z).before a0 Z = true) (w5 : (Cond.initialized z.cls).before a0 Z = true) (w6 : (Cond.code z bytes mL rt).before a0 Z = true)
    (hy : y.cls ≠ "java/lang/invoke/MethodHandle" ∧ y.cls ≠ "java/lang/invoke/VarHandle") (hds : parseMethodDescriptor y.desc = some ⟨ps, rr⟩) (hl : as.length = ps.length) (hst : st = as.reverse ++ .ref a :: rest) (hsz : Ls.size = maxL)
    (hf : rm.frames + 1 ≤ R.frames) (hlo : (rest.map fun v => v.category).sum + (mL + 11) + rm.locals ≤ R.locals) (hk : k + rm.cells ≤ k') (hk' : k' ≤ R.cells) (hn : n + rm.slots ≤ n') (hn' : n' ≤ R.slots) (hp : pc + 3 = pc')
    (nxt : ∀ v h' vm', Qy v h' → CHr Z EL vm h vm' h' → RunW l Z EL n0 own code maxL ret nm R Q pc' Ls (v.toList ++ rest) h' vm' k' n') : RunW l Z EL n0 own code maxL ret nm R Q pc Ls st h vm k n := by
  subst hp hst
  intro p e s m args below meth c T locs cells slots k0 hX X hS hk0 hR hE eT hF hc hss
  obtain ⟨hx, hZ, hown, hby, hml, hrt, hlk, hnm⟩ := id hX
  obtain ⟨cq, kq, qa, qb, qc⟩ := isOf hZ eT hX0
  obtain ⟨v, vm₁, ⟨B, L', cc, ss⟩, -, X', hS2, hgr, ⟨Lc, hQ, l1, y1, z1, c1⟩, stp⟩ := X.virtualBackS hx (y := y) (z := z) hown (mvT hZ w1) (mvT hZ w2) (nf (s.setVm vm) hZ) (mvT hZ w3) (mvT hZ w4) hy (backW (W := (rest.map fun v => v.category).sum) (Q := fun v h L => Qy v h ∧ Fr n0 L) (hC []) hZ w6 w5 hf hlo hEL hR.1 hsf) qa qc (g := mkF m pc Ls (as.reverse ++ .ref a :: rest)) rfl (hsz.trans hml.symm) (Steps.refl _) (argsL := as) (rest := rest) (lenOf hds hl) rfl (by show 2 * 0 + _ ≤ _; omega) (hb hby hd) (fun _ _ => ⟨rfl, eT, (by show cells + rm.cells ≤ R.cells; omega), (by show slots + rm.slots ≤ R.slots; omega)⟩)
  dsimp only [Pt.U, Pt.locs, Pt.cells, Pt.slots] at X' hS2 hgr l1 y1 z1 stp hQ c1
  subst l1 y1 z1
  have hZ2 : Z.Warmed39 B.vm := State.Warmed39.trans (t := s.setVm vm) hZ hS2.1
  obtain ⟨s₂, v', L, g1, g2⟩ := nxt v _ B.vm hQ.1 c1 p e s m args below meth c B _ _ _ B.heap.size ⟨hx, hZ2, (by rw [show (s.setVm B.vm).vm = B.vm from rfl, hS2.1.alike.findClass]; exact hown), hby, hml, hrt, hlk, hnm⟩ X' (hS.trans hS2 (by rw [← eT] at hk0; omega)) (Nat.le_refl _) (hR.trans c1) hE rfl (Fr.app hF hQ.2) (by omega) (by omega)
  exact ⟨s₂, v', L, stp.trans g1, g2⟩
theorem RunW.callN {a0 : Array Value} {y : MethodName} {bytes : ByteArray} {mL : Nat} {rt : Option FieldType} {rm : Room} {a : Addr} {as rest : List Value} {Qy : Option Value → Heap → Prop} {i : Nat} {ps : List FieldType} {rr : Option FieldType}
    (hC : Con l Z n0 y bytes mL rt rm (.ref a :: as).toArray h Qy) (hs : ∀ v h', Qy v h' → ∃ ws, Keep h h' ws ∧ ∀ x ∈ ws, Safe Z EL vm h x) (hrt : rt = none) (hy1 : y.name = "<init>") (hd : decode code pc = .ok (.invokespecial i, 3)) (w1 : (Cond.methodLink own i y).before a0 Z = true) (w2 : (Cond.instanceMethod y).before a0 Z = true) (w3 : (Cond.initialized y.cls).before a0 Z = true) (w4 : (Cond.code y bytes mL rt).before a0 Z = true)
    (hy : y.cls ≠ "java/lang/invoke/MethodHandle" ∧ y.cls ≠ "java/lang/invoke/VarHandle") (hds : parseMethodDescriptor y.desc = some ⟨ps, rr⟩) (hl : as.length = ps.length) (hst : st = as.reverse ++ .ref a :: rest) (hsz : Ls.size = maxL)
    (hf : rm.frames + 1 ≤ R.frames) (hlo : (rest.map fun v => v.category).sum + (mL + 11) + rm.locals ≤ R.locals) (hk : k + rm.cells ≤ k') (hk' : k' ≤ R.cells) (hn : n + rm.slots ≤ n') (hn' : n' ≤ R.slots) (hp : pc + 3 = pc')
    (nxt : ∀ v h', Qy v h' → CHr Z EL vm h vm h' → RunW l Z EL n0 own code maxL ret nm R Q pc' Ls (v.toList ++ rest) h' vm k' n') : RunW l Z EL n0 own code maxL ret nm R Q pc Ls st h vm k n := by
  subst hp hst
  intro p e s m args below meth c T locs cells slots k0 hX X hS hk0 hR hE eT hF hc hss
  obtain ⟨hx, hZ, hown, hby, hml, -⟩ := id hX
  subst hrt
  obtain ⟨v, vm₁, ⟨B, L', cc, ss⟩, -, X', ⟨Lc, hQ, l1, y1, z1⟩, stp⟩ := X.specialBack hx (y := y) hy1 hown (mvT hZ w1) (mvT hZ w2) (mvT hZ w4) hy (backOf (W := (rest.map fun v => v.category).sum) (Q := fun v h L => Qy v h ∧ Fr n0 L) (hC []) hZ w4 w3 hf hlo) (g := mkF m pc Ls (as.reverse ++ .ref a :: rest)) rfl (hsz.trans hml.symm) (Steps.refl _) (a := a) (argsL := as) (rest := rest) (lenOf hds hl) rfl (by show 2 * 0 + _ ≤ _; omega) (hb hby hd) (fun _ _ => ⟨rfl, eT, (by show cells + rm.cells ≤ R.cells; omega), (by show slots + rm.slots ≤ R.slots; omega)⟩)
  dsimp only [Pt.U, Pt.locs, Pt.cells, Pt.slots] at X' l1 y1 z1 stp hQ
  subst l1 y1 z1
  obtain ⟨ws, K, hsw⟩ := hs v _ hQ.1
  have c1 := CHr.keep K hsw hR.1
  obtain ⟨s₂, v', L, g1, g2⟩ := nxt v _ hQ.1 c1 p e s m args below meth c B _ _ _ k0 hX X' hS (Nat.le_trans hk0 K.1) (hR.trans c1) hE rfl (Fr.app hF hQ.2) (by omega) (by omega)
  exact ⟨s₂, v', L, stp.trans g1, g2⟩
theorem RunW.callNW {a0 a1 : Array Value} {sf : List Addr} {y : MethodName} {bytes : ByteArray} {mL : Nat} {rt : Option FieldType} {rm : Room} {a : Addr} {as rest : List Value} {Qy : Option Value → Heap → Prop} {i : Nat} {ps : List FieldType} {rr : Option FieldType}
    (hC : ConW l Z EL n0 y bytes mL rt rm (.ref a :: as).toArray h sf Qy) (hsf : ∀ x ∈ sf, Safe Z EL vm h x) (hEL : EW Z a1 EL) (hrt : rt = none) (hy1 : y.name = "<init>") (hd : decode code pc = .ok (.invokespecial i, 3)) (w1 : (Cond.methodLink own i y).before a0 Z = true) (w2 : (Cond.instanceMethod y).before a0 Z = true) (w3 : (Cond.initialized y.cls).before a0 Z = true) (w4 : (Cond.code y bytes mL rt).before a0 Z = true)
    (hy : y.cls ≠ "java/lang/invoke/MethodHandle" ∧ y.cls ≠ "java/lang/invoke/VarHandle") (hds : parseMethodDescriptor y.desc = some ⟨ps, rr⟩) (hl : as.length = ps.length) (hst : st = as.reverse ++ .ref a :: rest) (hsz : Ls.size = maxL)
    (hf : rm.frames + 1 ≤ R.frames) (hlo : (rest.map fun v => v.category).sum + (mL + 11) + rm.locals ≤ R.locals) (hk : k + rm.cells ≤ k') (hk' : k' ≤ R.cells) (hn : n + rm.slots ≤ n') (hn' : n' ≤ R.slots) (hp : pc + 3 = pc')
    (nxt : ∀ v h' vm', Qy v h' → CHr Z EL vm h vm' h' → RunW l Z EL n0 own code maxL ret nm R Q pc' Ls (v.toList ++ rest) h' vm' k' n') : RunW l Z EL n0 own code maxL ret nm R Q pc Ls st h vm k n := by
  subst hp hst
  intro p e s m args below meth c T locs cells slots k0 hX X hS hk0 hR hE eT hF hc hss
  obtain ⟨hx, hZ, hown, hby, hml, hrtt, hlk, hnm⟩ := id hX
  subst hrt
  obtain ⟨v, vm₁, ⟨B, L', cc, ss⟩, -, X', hS2, hgr, ⟨Lc, hQ, l1, y1, z1, c1⟩, stp⟩ := X.specialBackS hx (y := y) hy1 hown (mvT hZ w1) (mvT hZ w2) (mvT hZ w4) hy (backW (W := (rest.map fun v => v.category).sum) (Q := fun v h L => Qy v h ∧ Fr n0 L) (hC []) hZ w4 w3 hf hlo hEL hR.1 hsf) (g := mkF m pc Ls (as.reverse ++ .ref a :: rest)) rfl (hsz.trans hml.symm) (Steps.refl _) (a := a) (argsL := as) (rest := rest) (lenOf hds hl) rfl (by show 2 * 0 + _ ≤ _; omega) (hb hby hd) (fun _ _ => ⟨rfl, eT, (by show cells + rm.cells ≤ R.cells; omega), (by show slots + rm.slots ≤ R.slots; omega)⟩)
  dsimp only [Pt.U, Pt.locs, Pt.cells, Pt.slots] at X' hS2 hgr l1 y1 z1 stp hQ c1
  subst l1 y1 z1
  have hZ2 : Z.Warmed39 B.vm := State.Warmed39.trans (t := s.setVm vm) hZ hS2.1
  obtain ⟨s₂, v', L, g1, g2⟩ := nxt v _ B.vm hQ.1 c1 p e s m args below meth c B _ _ _ B.heap.size ⟨hx, hZ2, (by rw [show (s.setVm B.vm).vm = B.vm from rfl, hS2.1.alike.findClass]; exact hown), hby, hml, hrtt, hlk, hnm⟩ X' (hS.trans hS2 (by rw [← eT] at hk0; omega)) (Nat.le_refl _) (hR.trans c1) hE rfl (Fr.app hF hQ.2) (by omega) (by omega)
  exact ⟨s₂, v', L, stp.trans g1, g2⟩
theorem safeA {Z : State} {EL : List (String × Nat)} {vm : Vm} {h : Heap} {a : Addr} {ty : FieldType} {vs : List Value} (hal : Z.vm.Alike vm) (A : Ary Z h a ty vs) (ht : ty ≠ .byte) : Safe Z EL vm h a := by obtain ⟨cl, A1, -⟩ := A; exact Safe.arr hal A1 ht
/-- ldc of a String constant whose text is known -/
theorem RunW.ldcT {a0 : Array Value} {i len : Nat} {text : String} {bs : List Value} {z : Int32} (hd : decode code pc = .ok (.ldc i, 2)) (w : (Cond.stringLink own i text).before a0 Z = true) (wS : ∀ a ∈ Bundle.stringAtoms, a.before a0 Z = true) (hEL : EW Z a0 EL) (hmem : (own, i) ∈ EL)
    (ht : (∀ c ∈ text.toList, c.toNat < 256) ∧ text.toList.map (fun c => Value.int (Jvm.Lit.byteI c.toNat.toUInt16)) = bs) (hz : z.toInt = (bs.length : Int)) (hln : 4 * text.toList.length ≤ len) (hbig : len ≤ 536870912) (hk : k + 2 ≤ k') (hk' : k' ≤ R.cells) (hn : n + (len + 4) ≤ n') (hn' : n' ≤ R.slots) (hp : pc + 2 = pc')
    (nxt : ∀ h' vm' a b, Ext h h' → CHr Z EL vm h vm' h' → Exa Z h' a "java/lang/String" → Fld Z h' a "java/lang/String" "coder" "B" (.int 0) → Fld Z h' a "java/lang/String" "value" "[B" (.ref b) → Ary Z h' b .byte bs → (∀ x, Safe Z EL vm' h' x → x ≠ a ∧ x ≠ b) → RunW l Z EL n0 own code maxL ret nm R Q pc' Ls (.ref a :: st) h' vm' k' n') : RunW l Z EL n0 own code maxL ret nm R Q pc Ls st h vm k n := by
  subst hp
  intro p e s m args below meth c T locs cells slots k0 hX X hS hk0 hR hE eT hF hc hss
  obtain ⟨hx, hZ, hown, hby, hml, hrt, hlk, hnm⟩ := id hX
  have e1 : z.toNatClampNeg = bs.length := by have : z.toNatClampNeg = z.toInt.toNat := rfl; rw [this, hz]; rfl
  have e2 : ¬ z < 0 := by rw [Int32.lt_iff_toInt_lt, hz]; have : (0 : Int32).toInt = 0 := rfl; omega
  obtain ⟨a, T', h', k1, b, kc, X', e', E, hS2, hk1, hZ2, hown2, E1, F1, F2, A, -, -, c1, -, hsf, stp⟩ := ldcCH X hx hZ hown w wS eT hS hk0 hEL hmem hR.1 ht e2 e1 (g := mkF m pc Ls st) rfl (hb hby hd) hln hbig (by omega) (by omega)
  obtain ⟨s₂, v', L, g1, g2⟩ := nxt h' T'.vm a b E c1 E1 F1 F2 (Ary.ofArv A hz) hsf p e s m args below meth c T' _ _ _ k1 ⟨hx, hZ2, hown2, hby, hml, hrt, hlk, hnm⟩ X' hS2 hk1 (hR.trans c1) hE e' hF (by omega) (by omega)
  exact ⟨s₂, v', L, stp _ g1, g2⟩

end WalkW
end Jvm.GoKit
namespace Jvm.Pilot.@@N@@
open Jvm Jvm.ClassFile Sem Op Lib Jvm.Free Jvm.Stand Jvm.LawKit Jvm.RoadKit Jvm.GoKit Bundle Jvm.Pilot.@@N@@.Jvm.D
theorem own_ofn {i : Nat} (h : i < 2 ^ 31) : (Int32.ofNat i).toInt = (i : Int) := toInt_of rfl h
theorem own_inc (i : Nat) : Int32.ofNat i + (1 : Int32) = Int32.ofNat (i + 1) := (inc_ofNat i).symm
theorem own_lt {i j : Nat} (hi : i < 2 ^ 31) (hj : j < 2 ^ 31) : Int32.ofNat i < Int32.ofNat j ↔ i < j := by rw [Int32.lt_iff_toInt_lt, own_ofn hi, own_ofn hj]; omega
theorem own_z : (0 : Int32).toInt = 0 := rfl
theorem own_eqi {x y : Int32} (h : x.toInt = y.toInt) : x = y := Int32.toInt_inj.mp h
theorem own_decl {Z : State} {a0 : Array Value} {y : MethodName} {bytes : ByteArray} {mL : Nat} {rt : Option FieldType} (h1 : (Cond.instanceMethod y).before a0 Z = true) (h2 : (Cond.code y bytes mL rt).before a0 Z = true) : (Cond.declares y).before a0 Z = true := by
  obtain ⟨mi, meth, hn, hm, hs, -⟩ := Cond.instanceMethod_spec h1
  obtain ⟨meth', c, hm', -, -, -, -, -, -, hsig⟩ := Cond.code_spec hn h2
  obtain rfl := Option.some.inj (hm.symm.trans hm')
  simp [Cond.before, Cond.holds, Cond.value, hn, hm, hs, hsig]
def own_lat (cs : List Int32) : Prop := ∀ c ∈ cs, 0 ≤ c.toInt ∧ c.toInt ≤ 255
def own_by (cs : List Int32) : List Value := cs.map fun c => Value.int (nar .byte c)
theorem own_nbb (x : Int32) : nar .byte (nar .byte x) = nar .byte x := by simp [nar]
theorem own_ncc (x : Int32) : nar .char (nar .char x) = nar .char x := by simp only [nar, UInt32.toUInt32_toInt32, UInt16.toUInt16_toUInt32]
theorem own_pre {cs : List Int32} {i : Nat} {c : Int32} (h : cs[i]? = some c) (hi : i < cs.length) :
    ((own_by (cs.take i)) ++ List.replicate (cs.length - i) (Value.int (0 : Int32))).set i (Value.int (nar .byte c)) = own_by (cs.take (i + 1)) ++ List.replicate (cs.length - (i + 1)) (Value.int (0 : Int32)) := by
  have e1 : cs.length - i = (cs.length - (i + 1)) + 1 := by omega
  have e2 : cs[i] = c := by rw [List.getElem?_eq_getElem hi] at h; exact Option.some.inj h
  rw [e1, List.replicate_succ]
  have l1 : (own_by (cs.take i)).length = i := by simp [own_by]; omega
  rw [List.set_append_right _ _ (by omega), l1, Nat.sub_self, List.set_cons_zero, List.take_succ_eq_append_getElem hi]
  simp [own_by, e2]
theorem d37_0 : decode jdk_52_method_21_code 0 = .ok (.iconst 0, 1) := by decide +kernel
theorem d37_1 : decode jdk_52_method_21_code 1 = .ok (.istore 5, 2) := by decide +kernel
theorem d37_3 : decode jdk_52_method_21_code 3 = .ok (.iload 5, 2) := by decide +kernel
theorem d37_5 : decode jdk_52_method_21_code 5 = .ok (.iload 4, 2) := by decide +kernel
theorem d37_7 : decode jdk_52_method_21_code 7 = .ok (.if_icmp .ge 37, 3) := by decide +kernel
theorem d37_10 : decode jdk_52_method_21_code 10 = .ok (.aload_n 0, 1) := by decide +kernel
theorem d37_11 : decode jdk_52_method_21_code 11 = .ok (.iload_n 1, 1) := by decide +kernel
theorem d37_12 : decode jdk_52_method_21_code 12 = .ok (.caload, 1) := by decide +kernel
theorem d37_13 : decode jdk_52_method_21_code 13 = .ok (.istore 6, 2) := by decide +kernel
theorem d37_15 : decode jdk_52_method_21_code 15 = .ok (.iload 6, 2) := by decide +kernel
theorem d37_17 : decode jdk_52_method_21_code 17 = .ok (.sipush 255, 3) := by decide +kernel
theorem d37_20 : decode jdk_52_method_21_code 20 = .ok (.if_icmp .le 6, 3) := by decide +kernel
theorem d37_23 : decode jdk_52_method_21_code 23 = .ok (.iload 5, 2) := by decide +kernel
theorem d37_25 : decode jdk_52_method_21_code 25 = .ok (.ireturn, 1) := by decide +kernel
theorem d37_26 : decode jdk_52_method_21_code 26 = .ok (.aload_n 2, 1) := by decide +kernel
theorem d37_27 : decode jdk_52_method_21_code 27 = .ok (.iload_n 3, 1) := by decide +kernel
theorem d37_28 : decode jdk_52_method_21_code 28 = .ok (.iload 6, 2) := by decide +kernel
theorem d37_30 : decode jdk_52_method_21_code 30 = .ok (.i2b, 1) := by decide +kernel
theorem d37_31 : decode jdk_52_method_21_code 31 = .ok (.bastore, 1) := by decide +kernel
theorem d37_32 : decode jdk_52_method_21_code 32 = .ok (.iinc 1 1, 3) := by decide +kernel
theorem d37_35 : decode jdk_52_method_21_code 35 = .ok (.iinc 3 1, 3) := by decide +kernel
theorem d37_38 : decode jdk_52_method_21_code 38 = .ok (.iinc 5 1, 3) := by decide +kernel
theorem d37_41 : decode jdk_52_method_21_code 41 = .ok (.goto (-38), 3) := by decide +kernel
theorem d37_44 : decode jdk_52_method_21_code 44 = .ok (.iload 4, 2) := by decide +kernel
theorem d37_46 : decode jdk_52_method_21_code 46 = .ok (.ireturn, 1) := by decide +kernel
theorem pn_37 : plainFor (⟨"java/lang/StringUTF16", "compress", "([CI[BII)I"⟩ : MethodName) = true := plainFor_of_name (by first | (simp [plainName, overriddenIn]; done) | decide +kernel)
theorem ef_con_cmp5 (m : MethodId) (a : Addr) (b : Addr) (cs : List Int32)  : entryFrame m #[(.ref a), (.int (0 : Int32)), (.ref b), (.int (0 : Int32)), (.int (Int32.ofNat cs.length))] 7 = mkF m 0 #[.val (.ref a), .val (.int (0 : Int32)), .val (.ref b), .val (.int (0 : Int32)), .val (.int (Int32.ofNat cs.length)), .unset, .unset] [] := by first | (simp [entryFrame, mkF, argsToLocals, Value.category]; done) | rfl
set_option maxRecDepth 65536 in
set_option maxHeartbeats 40000000 in
theorem con_cmp5 (l : Launch) (Z : State) (a0 : Array Value) (hw : ∀ d ∈ tables_1, d.before a0 Z = true) (n0 : Nat) (h0 : Heap) (Z0 : n0 ≤ h0.size) (a : Addr) (b : Addr) (cs : List Int32) (AC : Ary Z h0 a .char (cs.map Value.int)) (AB : Ary Z h0 b .byte (List.replicate cs.length (.int (0 : Int32)))) (hab : a ≠ b) (gb : n0 ≤ b) (hn : cs.length < 2 ^ 31) (hlat : own_lat cs) :
    Con l Z n0 (⟨"java/lang/StringUTF16", "compress", "([CI[BII)I"⟩ : MethodName) jdk_52_method_21_code 7 (some .int) ({ frames := 0, cells := 0, slots := 0, locals := 0 } : Room) #[(.ref a), (.int (0 : Int32)), (.ref b), (.int (0 : Int32)), (.int (Int32.ofNat cs.length))] h0 (Val fun w h' => .int (Int32.ofNat cs.length) = w ∧ Keep h0 h' [b] ∧ Ary Z h' b .byte (own_by cs)) := by
  refine Con.of_run pn_37 (fun m => ef_con_cmp5 m a b cs ) ?_
  refine Run.iconst (0 : Int32) d37_0 (by decide) (pc' := 1) rfl ?_
  refine Run.istore (l' := #[.val (.ref a), .val (.int (0 : Int32)), .val (.ref b), .val (.int (0 : Int32)), .val (.int (Int32.ofNat cs.length)), .val (.int (0 : Int32)), .unset]) d37_1 rfl (pc' := 3) rfl ?_
  have loop : ∀ (t i : Nat), t + i = cs.length → i ≤ cs.length → ∀ (h : Heap) (s6 : Slot), One s6 → Ary Z h a .char (cs.map Value.int) → Ary Z h b .byte (own_by (cs.take i) ++ List.replicate (cs.length - i) (.int (0 : Int32))) → n0 ≤ h.size → Keep h0 h [b] → Run l Z n0 "java/lang/StringUTF16" jdk_52_method_21_code 7 (some .int) "compress" ({ frames := 0, cells := 0, slots := 0, locals := 0 } : Room) (Val fun w h' => .int (Int32.ofNat cs.length) = w ∧ Keep h0 h' [b] ∧ Ary Z h' b .byte (own_by cs)) 3 #[.val (.ref a), .val (.int (Int32.ofNat i)), .val (.ref b), .val (.int (Int32.ofNat i)), .val (.int (Int32.ofNat cs.length)), .val (.int (Int32.ofNat i)), s6] [] h 0 0 := by
    intro t
    induction t with
    | zero =>
      intro i hti hile h s6 h_s6 ACi ABi szi kpi
      have hi : i = cs.length := by omega
      refine Run.iload d37_3 rfl (pc' := 5) rfl ?_
      refine Run.iload d37_5 rfl (pc' := 7) rfl ?_
      refine Run.icmp_ge d37_7 (by decide) (pc' := 44) (by decide) (pa := 10) rfl (fun hc7 => ?_) (fun hc7 => ?_)
      · -- pc 7 taken: ¬ (Int32.ofNat i) < (Int32.ofNat cs.length)
        refine Run.iload d37_44 rfl (pc' := 46) rfl ?_
        exact Run.ireturn d37_46 rfl (by decide) (by decide) ⟨_, rfl, rfl, kpi, (by subst hi; simpa [own_by] using ABi)⟩
      · -- pc 7 not taken: (Int32.ofNat i) < (Int32.ofNat cs.length)
        exact absurd ((own_lt (by omega) (by omega)).mp hc7) (by omega)
    | succ t ih =>
      intro i hti hile h s6 h_s6 ACi ABi szi kpi
      have hil : i < cs.length := by omega
      obtain ⟨c, hci⟩ : ∃ c, cs[i]? = some c := ⟨_, List.getElem?_eq_getElem hil⟩
      refine Run.iload d37_3 rfl (pc' := 5) rfl ?_
      refine Run.iload d37_5 rfl (pc' := 7) rfl ?_
      refine Run.icmp_ge d37_7 (by decide) (pc' := 44) (by decide) (pa := 10) rfl (fun hc7 => ?_) (fun hc7 => ?_)
      · -- pc 7 taken: ¬ (Int32.ofNat i) < (Int32.ofNat cs.length)
        exact absurd ((own_lt (by omega) (by omega)).mpr hil) hc7
      · -- pc 7 not taken: (Int32.ofNat i) < (Int32.ofNat cs.length)
        refine Run.aloadN d37_10 rfl rfl (pc' := 11) rfl ?_
        refine Run.iloadN d37_11 rfl (pc' := 12) rfl ?_
        refine Run.caload (i := i) (v := (.int c)) d37_12 ACi (own_ofn (by omega)) (by simp [hci]) (pc' := 13) rfl ?_
        refine Run.istore (l' := #[.val (.ref a), .val (.int (Int32.ofNat i)), .val (.ref b), .val (.int (Int32.ofNat i)), .val (.int (Int32.ofNat cs.length)), .val (.int (Int32.ofNat i)), .val (.int c)]) d37_13 (XS.store1 rfl h_s6 rfl) (pc' := 15) rfl ?_
        refine Run.iload d37_15 rfl (pc' := 17) rfl ?_
        refine Run.sipush (255 : Int32) d37_17 (by decide) (pc' := 20) rfl ?_
        refine Run.icmp_le d37_20 (by decide) (pc' := 26) (by decide) (pa := 23) rfl (fun hc20 => ?_) (fun hc20 => ?_)
        · -- pc 20 taken: ¬ (255 : Int32) < c
          refine Run.aloadN d37_26 rfl rfl (pc' := 27) rfl ?_
          refine Run.iloadN d37_27 rfl (pc' := 28) rfl ?_
          refine Run.iload d37_28 rfl (pc' := 30) rfl ?_
          refine Run.i2b d37_30 (pc' := 31) rfl ?_
          refine Run.bastore (i := i) d37_31 ABi (own_ofn (by omega)) (by simp [own_by]; omega) gb (pc' := 32) rfl ?_
          intro h11 W11 A11
          have A_a_11 := ACi.other W11 hab
          have sz11 : n0 ≤ h11.size := by rw [W11.size]; exact szi
          have kp11 := Keep.wr kpi W11 (Or.inl (List.mem_of_getElem? (i := 0) rfl))
          refine Run.iinc (1 : Int32) #[.val (.ref a), .val (.int ((Int32.ofNat i) + (1 : Int32))), .val (.ref b), .val (.int (Int32.ofNat i)), .val (.int (Int32.ofNat cs.length)), .val (.int (Int32.ofNat i)), .val (.int c)] d37_32 (by decide) rfl rfl (pc' := 35) rfl ?_
          refine Run.iinc (1 : Int32) #[.val (.ref a), .val (.int ((Int32.ofNat i) + (1 : Int32))), .val (.ref b), .val (.int ((Int32.ofNat i) + (1 : Int32))), .val (.int (Int32.ofNat cs.length)), .val (.int (Int32.ofNat i)), .val (.int c)] d37_35 (by decide) rfl rfl (pc' := 38) rfl ?_
          refine Run.iinc (1 : Int32) #[.val (.ref a), .val (.int ((Int32.ofNat i) + (1 : Int32))), .val (.ref b), .val (.int ((Int32.ofNat i) + (1 : Int32))), .val (.int (Int32.ofNat cs.length)), .val (.int ((Int32.ofNat i) + (1 : Int32))), .val (.int c)] d37_38 (by decide) rfl rfl (pc' := 41) rfl ?_
          refine Run.goto d37_41 (by decide) (pc' := 3) (by decide) ?_
          simp only [own_inc]
          exact ih (i + 1) (by omega) (by omega) h11 _ (Or.inr ⟨_, rfl, rfl⟩) A_a_11 (by have q := A11; rw [own_nbb] at q; rw [← own_pre hci hil]; exact q) sz11 kp11
        · -- pc 20 not taken: (255 : Int32) < c
          exact absurd hc20 (by have := (hlat c (List.mem_of_getElem? hci)).2; rw [Int32.lt_iff_toInt_lt]; have h5 : (255 : Int32).toInt = 255 := rfl; omega)
  exact loop cs.length 0 (by omega) (by omega) h0 .unset (Or.inl rfl) AC (by simpa [own_by] using AB) Z0 (Keep.refl h0 [b])
theorem d36_0 : decode jdk_52_method_16_code 0 = .ok (.iload_n 2, 1) := by decide +kernel
theorem d36_1 : decode jdk_52_method_16_code 1 = .ok (.newarray .byte, 2) := by decide +kernel
theorem d36_3 : decode jdk_52_method_16_code 3 = .ok (.astore_n 3, 1) := by decide +kernel
theorem d36_4 : decode jdk_52_method_16_code 4 = .ok (.aload_n 0, 1) := by decide +kernel
theorem d36_5 : decode jdk_52_method_16_code 5 = .ok (.iload_n 1, 1) := by decide +kernel
theorem d36_6 : decode jdk_52_method_16_code 6 = .ok (.aload_n 3, 1) := by decide +kernel
theorem d36_7 : decode jdk_52_method_16_code 7 = .ok (.iconst 0, 1) := by decide +kernel
theorem d36_8 : decode jdk_52_method_16_code 8 = .ok (.iload_n 2, 1) := by decide +kernel
theorem d36_9 : decode jdk_52_method_16_code 9 = .ok (.invokestatic 115, 3) := by decide +kernel
theorem d36_12 : decode jdk_52_method_16_code 12 = .ok (.istore 4, 2) := by decide +kernel
theorem d36_14 : decode jdk_52_method_16_code 14 = .ok (.iload 4, 2) := by decide +kernel
theorem d36_16 : decode jdk_52_method_16_code 16 = .ok (.iload_n 2, 1) := by decide +kernel
theorem d36_17 : decode jdk_52_method_16_code 17 = .ok (.if_icmp .eq 40, 3) := by decide +kernel
theorem d36_57 : decode jdk_52_method_16_code 57 = .ok (.aload_n 3, 1) := by decide +kernel
theorem d36_58 : decode jdk_52_method_16_code 58 = .ok (.areturn, 1) := by decide +kernel
theorem pn_36 : plainFor (⟨"java/lang/StringUTF16", "compress", "([CII)[B"⟩ : MethodName) = true := plainFor_of_name (by first | (simp [plainName, overriddenIn]; done) | decide +kernel)
theorem pd___CI_BII_I : parseMethodDescriptor "([CI[BII)I" = some ⟨[(.array .char), .int, (.array .byte), .int, .int], some .int⟩ := by decide +kernel
theorem ef_con_cmp3 (m : MethodId) (a : Addr) (cs : List Int32)  : entryFrame m #[(.ref a), (.int (0 : Int32)), (.int (Int32.ofNat cs.length))] 6 = mkF m 0 #[.val (.ref a), .val (.int (0 : Int32)), .val (.int (Int32.ofNat cs.length)), .unset, .unset, .unset] [] := by first | (simp [entryFrame, mkF, argsToLocals, Value.category]; done) | rfl
set_option maxRecDepth 65536 in
set_option maxHeartbeats 40000000 in
theorem con_cmp3 (l : Launch) (Z : State) (a0 : Array Value) (hw : ∀ d ∈ tables_1, d.before a0 Z = true) (n0 : Nat) (h0 : Heap) (Z0 : n0 ≤ h0.size) (a : Addr) (cs : List Int32) (AC : Ary Z h0 a .char (cs.map Value.int)) (hn : cs.length ≤ 2) (hlat : own_lat cs) :
    Con l Z n0 (⟨"java/lang/StringUTF16", "compress", "([CII)[B"⟩ : MethodName) jdk_52_method_16_code 6 (some (.array .byte)) ({ frames := 1, cells := 1, slots := 2, locals := 18 } : Room) #[(.ref a), (.int (0 : Int32)), (.int (Int32.ofNat cs.length))] h0 (Val fun w h' => ∃ b, w = .ref b ∧ h0.size ≤ b ∧ Ext h0 h' ∧ Ary Z h' b .byte (own_by cs)) := by
  refine Con.of_run pn_36 (fun m => ef_con_cmp3 m a cs ) ?_
  refine Run.iloadN d36_0 rfl (pc' := 1) rfl ?_
  refine Run.newP (ty := .byte) (m := cs.length) (cap := 2) (dv := (.int (0 : Int32))) (k' := 1) (n' := 2) d36_1 rfl (hw _ (List.mem_of_getElem? (i := 18) rfl)) (by rw [Int32.lt_iff_toInt_lt, own_ofn (by omega)]; have h5 : (0 : Int32).toInt = 0 := rfl; omega) (clamp_of rfl (by omega)) hn rfl (by decide) (by decide) (by decide) (by decide) (by decide) (pc' := 3) rfl ?_
  intro h11 b11 g11 E11 A11
  have ge_b11 : n0 ≤ b11 := by rw [g11]; exact Z0
  have bo_b11 : h0.size ≤ b11 := by rw [g11]; exact (Keep.refl h0 []).1
  have ne_a_b11 : a ≠ b11 := by rw [g11]; exact Nat.ne_of_lt AC.lt
  have A_a_11 := AC.ext E11
  have sz11 : n0 ≤ h11.size := Nat.le_trans Z0 E11.1
  have kp11 := Keep.ext (Keep.refl h0 []) E11
  refine Run.astoreN (l' := #[.val (.ref a), .val (.int (0 : Int32)), .val (.int (Int32.ofNat cs.length)), .val (.ref b11), .unset, .unset]) d36_3 rfl rfl (pc' := 4) rfl ?_
  refine Run.aloadN d36_4 rfl rfl (pc' := 5) rfl ?_
  refine Run.iloadN d36_5 rfl (pc' := 6) rfl ?_
  refine Run.aloadN d36_6 rfl rfl (pc' := 7) rfl ?_
  refine Run.iconst (0 : Int32) d36_7 (by decide) (pc' := 8) rfl ?_
  refine Run.iloadN d36_8 rfl (pc' := 9) rfl ?_
  refine Run.callS (k' := 1) (n' := 2) (as := [(.ref a), (.int (0 : Int32)), (.ref b11), (.int (0 : Int32)), (.int (Int32.ofNat cs.length))]) (rest := []) (con_cmp5 l Z a0 hw n0 h11 sz11 a b11 cs A_a_11 A11 ne_a_b11 ge_b11 (by omega) hlat) d36_9 (hw _ (List.mem_of_getElem? (i := 189) rfl)) (hw _ (List.mem_of_getElem? (i := 190) rfl)) (hw _ (List.mem_of_getElem? (i := 187) rfl)) (hw _ (List.mem_of_getElem? (i := 191) rfl)) (by decide) pd___CI_BII_I rfl rfl rfl (by decide) (by show (0 : Nat) + (7 + 11) + 0 ≤ _; decide) (by decide) (by decide) (by decide) (by decide) (pc' := 12) rfl ?_
  rintro _ h12 ⟨_, rfl, ⟨rfl, K12, P12⟩⟩
  show Run l Z n0 "java/lang/StringUTF16" jdk_52_method_16_code 6 (some (.array .byte)) "compress" ({ frames := 1, cells := 1, slots := 2, locals := 18 } : Room) _ 12 #[.val (.ref a), .val (.int (0 : Int32)), .val (.int (Int32.ofNat cs.length)), .val (.ref b11), .unset, .unset] [(.int (Int32.ofNat cs.length))] h12 1 2
  have A_a_12 := A_a_11.keep K12 (ninS ne_a_b11 nin0)
  have sz12 : n0 ≤ h12.size := Nat.le_trans sz11 K12.1
  have kp12 := Keep.trans kp11 K12 (allS (Or.inr bo_b11) all0)
  refine Run.istore (l' := #[.val (.ref a), .val (.int (0 : Int32)), .val (.int (Int32.ofNat cs.length)), .val (.ref b11), .val (.int (Int32.ofNat cs.length)), .unset]) d36_12 rfl (pc' := 14) rfl ?_
  refine Run.iload d36_14 rfl (pc' := 16) rfl ?_
  refine Run.iloadN d36_16 rfl (pc' := 17) rfl ?_
  refine Run.icmp_eq d36_17 (by decide) (pc' := 57) (by decide) (pa := 20) rfl (fun hc17 => ?_) (fun hc17 => ?_)
  · -- pc 17 taken: (Int32.ofNat cs.length) = (Int32.ofNat cs.length)
    refine Run.aloadN d36_57 rfl rfl (pc' := 58) rfl ?_
    exact Run.areturn d36_58 (ty := (.array .byte)) rfl rfl rfl (by decide) (by decide) ⟨_, rfl, b11, rfl, bo_b11, Keep.toExt kp12, P12⟩
  · -- pc 17 not taken: ¬ (Int32.ofNat cs.length) = (Int32.ofNat cs.length)
    exact absurd rfl hc17
theorem d38_0 : decode jdk_52_method_15_code 0 = .ok (.iload_n 1, 1) := by decide +kernel
theorem d38_1 : decode jdk_52_method_15_code 1 = .ok (.aload_n 0, 1) := by decide +kernel
theorem d38_2 : decode jdk_52_method_15_code 2 = .ok (.arraylength, 1) := by decide +kernel
theorem d38_3 : decode jdk_52_method_15_code 3 = .ok (.isub, 1) := by decide +kernel
theorem d38_4 : decode jdk_52_method_15_code 4 = .ok (.bipush 31, 2) := by decide +kernel
theorem d38_6 : decode jdk_52_method_15_code 6 = .ok (.iushr, 1) := by decide +kernel
theorem d38_7 : decode jdk_52_method_15_code 7 = .ok (.i2b, 1) := by decide +kernel
theorem d38_8 : decode jdk_52_method_15_code 8 = .ok (.ireturn, 1) := by decide +kernel
theorem pn_38 : plainFor (⟨"java/lang/StringUTF16", "coderFromArrayLen", "([BI)B"⟩ : MethodName) = true := plainFor_of_name (by first | (simp [plainName, overriddenIn]; done) | decide +kernel)
theorem ef_con_cfal (m : MethodId) (a : Addr) (cs : List Int32)  : entryFrame m #[(.ref a), (.int (Int32.ofNat cs.length))] 2 = mkF m 0 #[.val (.ref a), .val (.int (Int32.ofNat cs.length))] [] := by first | (simp [entryFrame, mkF, argsToLocals, Value.category]; done) | rfl
set_option maxRecDepth 65536 in
set_option maxHeartbeats 40000000 in
theorem con_cfal (l : Launch) (Z : State) (a0 : Array Value) (hw : ∀ d ∈ tables_1, d.before a0 Z = true) (n0 : Nat) (h0 : Heap) (Z0 : n0 ≤ h0.size) (a : Addr) (cs : List Int32) (AB : Ary Z h0 a .byte (own_by cs)) :
    Con l Z n0 (⟨"java/lang/StringUTF16", "coderFromArrayLen", "([BI)B"⟩ : MethodName) jdk_52_method_15_code 2 (some .byte) ({ frames := 0, cells := 0, slots := 0, locals := 0 } : Room) #[(.ref a), (.int (Int32.ofNat cs.length))] h0 (Val (PV (.int (0 : Int32)) h0)) := by
  refine Con.of_run pn_38 (fun m => ef_con_cfal m a cs ) ?_
  refine Run.iloadN d38_0 rfl (pc' := 1) rfl ?_
  refine Run.aloadN d38_1 rfl rfl (pc' := 2) rfl ?_
  refine Run.alen (z := (Int32.ofNat cs.length)) d38_2 AB (by simp [own_by]) (pc' := 3) rfl ?_
  refine Run.isub d38_3 (pc' := 4) rfl ?_
  refine Run.bipush (31 : Int32) d38_4 (by decide) (pc' := 6) rfl ?_
  refine Run.iushr d38_6 (pc' := 7) rfl ?_
  refine Run.i2b d38_7 (pc' := 8) rfl ?_
  exact Run.nreturn d38_8 (ty := .byte) rfl (by simp) (by decide) (by decide) ⟨_, rfl, congrArg Value.int (by rw [Int32.sub_self]; decide), rfl⟩
theorem own_pos {cs : List Int32} (h : cs ≠ []) (h2 : cs.length < 2 ^ 31) : ¬ Int32.ofNat cs.length = (0 : Int32) := fun e => by
  have h1 := own_ofn h2; rw [e] at h1; have h5 : (0 : Int32).toInt = 0 := rfl; have := List.length_pos_iff.mpr h; omega
theorem d35_0 : decode jdk_42_method_149_code 0 = .ok (.aload_n 0, 1) := by decide +kernel
theorem d35_1 : decode jdk_42_method_149_code 1 = .ok (.invokespecial 1, 3) := by decide +kernel
theorem d35_4 : decode jdk_42_method_149_code 4 = .ok (.iload_n 3, 1) := by decide +kernel
theorem d35_5 : decode jdk_42_method_149_code 5 = .ok (.ifCond .ne 22, 3) := by decide +kernel
theorem d35_27 : decode jdk_42_method_149_code 27 = .ok (.getstatic 38, 3) := by decide +kernel
theorem d35_30 : decode jdk_42_method_149_code 30 = .ok (.ifCond .eq 28, 3) := by decide +kernel
theorem d35_33 : decode jdk_42_method_149_code 33 = .ok (.aload_n 1, 1) := by decide +kernel
theorem d35_34 : decode jdk_42_method_149_code 34 = .ok (.iload_n 2, 1) := by decide +kernel
theorem d35_35 : decode jdk_42_method_149_code 35 = .ok (.iload_n 3, 1) := by decide +kernel
theorem d35_36 : decode jdk_42_method_149_code 36 = .ok (.invokestatic 177, 3) := by decide +kernel
theorem d35_39 : decode jdk_42_method_149_code 39 = .ok (.astore 5, 2) := by decide +kernel
theorem d35_41 : decode jdk_42_method_149_code 41 = .ok (.aload_n 0, 1) := by decide +kernel
theorem d35_42 : decode jdk_42_method_149_code 42 = .ok (.aload 5, 2) := by decide +kernel
theorem d35_44 : decode jdk_42_method_149_code 44 = .ok (.iload_n 3, 1) := by decide +kernel
theorem d35_45 : decode jdk_42_method_149_code 45 = .ok (.invokestatic 47, 3) := by decide +kernel
theorem d35_48 : decode jdk_42_method_149_code 48 = .ok (.putfield 15, 3) := by decide +kernel
theorem d35_51 : decode jdk_42_method_149_code 51 = .ok (.aload_n 0, 1) := by decide +kernel
theorem d35_52 : decode jdk_42_method_149_code 52 = .ok (.aload 5, 2) := by decide +kernel
theorem d35_54 : decode jdk_42_method_149_code 54 = .ok (.putfield 9, 3) := by decide +kernel
theorem d35_57 : decode jdk_42_method_149_code 57 = .ok (.return_, 1) := by decide +kernel
theorem pn_35 : plainFor (⟨"java/lang/String", "<init>", "([CIILjava/lang/Void;)V"⟩ : MethodName) = true := plainFor_of_name (by first | (simp [plainName, overriddenIn]; done) | decide +kernel)
theorem pd___BI_B : parseMethodDescriptor "([BI)B" = some ⟨[(.array .byte), .int], some .byte⟩ := by decide +kernel
theorem pd___CII__B : parseMethodDescriptor "([CII)[B" = some ⟨[(.array .char), .int, .int], some (.array .byte)⟩ := by decide +kernel
theorem ef_con_si4 (m : MethodId) (t : Addr) (a : Addr) (cs : List Int32) (cz : Int32) (uv : Value) (uc : Value)  : entryFrame m #[(.ref t), (.ref a), (.int (0 : Int32)), (.int (Int32.ofNat cs.length)), .null] 6 = mkF m 0 #[.val (.ref t), .val (.ref a), .val (.int (0 : Int32)), .val (.int (Int32.ofNat cs.length)), .val .null, .unset] [] := by first | (simp [entryFrame, mkF, argsToLocals, Value.category]; done) | rfl
set_option maxRecDepth 65536 in
set_option maxHeartbeats 40000000 in
theorem con_si4 (l : Launch) (Z : State) (a0 : Array Value) (hw : ∀ d ∈ tables_1, d.before a0 Z = true) (n0 : Nat) (h0 : Heap) (Z0 : n0 ≤ h0.size) (t : Addr) (a : Addr) (cs : List Int32) (cz : Int32) (uv : Value) (uc : Value) (E1 : Exa Z h0 t "java/lang/String") (FV : Fld Z h0 t "java/lang/String" "value" "[B" uv) (FC : Fld Z h0 t "java/lang/String" "coder" "B" uc) (gt : n0 ≤ t) (AC : Ary Z h0 a .char (cs.map Value.int)) (hne : cs ≠ []) (hn : cs.length ≤ 2) (hlat : own_lat cs) (SZ : Sta Z h0 "java/lang/String" "COMPACT_STRINGS" "Z" (.int cz)) (hcz : ¬ cz = 0) (hta : t ≠ a) :
    Con l Z n0 (⟨"java/lang/String", "<init>", "([CIILjava/lang/Void;)V"⟩ : MethodName) jdk_42_method_149_code 6 none ({ frames := 2, cells := 1, slots := 2, locals := 35 } : Room) #[(.ref t), (.ref a), (.int (0 : Int32)), (.int (Int32.ofNat cs.length)), .null] h0 (Vd fun h' => ∃ b, h0.size ≤ b ∧ Keep h0 h' [t] ∧ Exa Z h' t "java/lang/String" ∧ Fld Z h' t "java/lang/String" "value" "[B" (.ref b) ∧ Fld Z h' t "java/lang/String" "coder" "B" (.int (0 : Int32)) ∧ Ary Z h' b .byte (own_by cs)) := by
  refine Con.of_run pn_35 (fun m => ef_con_si4 m t a cs cz uv uc ) ?_
  refine Run.aloadN d35_0 rfl rfl (pc' := 1) rfl ?_
  refine Run.initO d35_1 (hw _ (List.mem_of_getElem? (i := 133) rfl)) (hw _ (List.mem_of_getElem? (i := 41) rfl)) (hw _ (List.mem_of_getElem? (i := 42) rfl)) rfl (by decide) (by show (0 : Nat) + 12 ≤ _; decide) (pc' := 4) rfl ?_
  refine Run.iloadN d35_4 rfl (pc' := 5) rfl ?_
  refine Run.if_ne d35_5 (by decide) (pc' := 27) (by decide) (pa := 8) rfl (fun hc5 => ?_) (fun hc5 => ?_)
  · -- pc 5 taken: ¬ (Int32.ofNat cs.length) = (0 : Int32)
    refine Run.getS d35_27 (host := "") (Or.inl (hw _ (List.mem_of_getElem? (i := 73) rfl))) Via.refl SZ (pc' := 30) rfl ?_
    refine Run.if_eq d35_30 (by decide) (pc' := 58) (by decide) (pa := 33) rfl (fun hc30 => ?_) (fun hc30 => ?_)
    · -- pc 30 taken: cz = (0 : Int32)
      exact absurd hc30 hcz
    · -- pc 30 not taken: ¬ cz = (0 : Int32)
      refine Run.aloadN d35_33 rfl rfl (pc' := 34) rfl ?_
      refine Run.iloadN d35_34 rfl (pc' := 35) rfl ?_
      refine Run.iloadN d35_35 rfl (pc' := 36) rfl ?_
      refine Run.callS (k' := 1) (n' := 2) (as := [(.ref a), (.int (0 : Int32)), (.int (Int32.ofNat cs.length))]) (rest := []) (con_cmp3 l Z a0 hw n0 h0 Z0 a cs AC hn hlat) d35_36 (hw _ (List.mem_of_getElem? (i := 185) rfl)) (hw _ (List.mem_of_getElem? (i := 186) rfl)) (hw _ (List.mem_of_getElem? (i := 187) rfl)) (hw _ (List.mem_of_getElem? (i := 188) rfl)) (by decide) pd___CII__B rfl rfl rfl (by decide) (by show (0 : Nat) + (6 + 11) + 18 ≤ _; decide) (by decide) (by decide) (by decide) (by decide) (pc' := 39) rfl ?_
      rintro _ h11 ⟨_, rfl, ⟨b11, rfl, bw11, E11, P11⟩⟩
      show Run l Z n0 "java/lang/String" jdk_42_method_149_code 6 none "<init>" ({ frames := 2, cells := 1, slots := 2, locals := 35 } : Room) _ 39 #[.val (.ref t), .val (.ref a), .val (.int (0 : Int32)), .val (.int (Int32.ofNat cs.length)), .val .null, .unset] [(.ref b11)] h11 1 2
      have ge_b11 : n0 ≤ b11 := Nat.le_trans Z0 bw11
      have bo_b11 : h0.size ≤ b11 := Nat.le_trans (Keep.refl h0 [t]).1 bw11
      have ne_t_b11 : t ≠ b11 := Nat.ne_of_lt (Nat.lt_of_lt_of_le E1.lt bw11)
      have ne_a_b11 : a ≠ b11 := Nat.ne_of_lt (Nat.lt_of_lt_of_le AC.lt bw11)
      have E_t_11 := E1.ext E11
      have F_t_value_11 := FV.ext E11
      have F_t_coder_11 := FC.ext E11
      have A_a_11 := AC.ext E11
      have S_javalangString_COMPACT_STRINGS_11 := SZ.ext E11
      have sz11 : n0 ≤ h11.size := Nat.le_trans Z0 E11.1
      have kp11 := Keep.ext (Keep.refl h0 [t]) E11
      refine Run.astore (l' := #[.val (.ref t), .val (.ref a), .val (.int (0 : Int32)), .val (.int (Int32.ofNat cs.length)), .val .null, .val (.ref b11)]) d35_39 rfl rfl (pc' := 41) rfl ?_
      refine Run.aloadN d35_41 rfl rfl (pc' := 42) rfl ?_
      refine Run.aload d35_42 rfl rfl (pc' := 44) rfl ?_
      refine Run.iloadN d35_44 rfl (pc' := 45) rfl ?_
      refine Run.callS (k' := 1) (n' := 2) (as := [(.ref b11), (.int (Int32.ofNat cs.length))]) (rest := [(.ref t)]) (con_cfal l Z a0 hw n0 h11 sz11  b11 cs P11) d35_45 (hw _ (List.mem_of_getElem? (i := 192) rfl)) (hw _ (List.mem_of_getElem? (i := 193) rfl)) (hw _ (List.mem_of_getElem? (i := 187) rfl)) (hw _ (List.mem_of_getElem? (i := 194) rfl)) (by decide) pd___BI_B rfl rfl rfl (by decide) (by show (1 : Nat) + (2 + 11) + 0 ≤ _; decide) (by decide) (by decide) (by decide) (by decide) (pc' := 48) rfl ?_
      rintro _ _ ⟨_, rfl, rfl, rfl⟩
      show Run l Z n0 "java/lang/String" jdk_42_method_149_code 6 none "<init>" ({ frames := 2, cells := 1, slots := 2, locals := 35 } : Room) _ 48 #[.val (.ref t), .val (.ref a), .val (.int (0 : Int32)), .val (.int (Int32.ofNat cs.length)), .val .null, .val (.ref b11)] [(.int (0 : Int32)), (.ref t)] h11 1 2
      refine Run.putFN d35_48 (hw _ (List.mem_of_getElem? (i := 74) rfl)) Via.refl F_t_coder_11 E_t_11 (Or.inr ⟨(hw _ (List.mem_of_getElem? (i := 20) rfl)), rfl, rfl⟩) (hw _ (List.mem_of_getElem? (i := 17) rfl)) (ty := .byte) (v' := (.int (0 : Int32))) (by decide) rfl rfl gt (pc' := 51) rfl ?_
      intro h12 W12
      have Fw12 := F_t_coder_11.same W12
      have E_t_12 := E_t_11.wr W12
      have F_t_value_12 := F_t_value_11.other W12 (Or.inr (slot_ne (Or.inr (hw _ (List.mem_of_getElem? (i := 19) rfl))) (Or.inr (hw _ (List.mem_of_getElem? (i := 20) rfl))) (by decide) (t := (.array .byte)) (t' := .byte) (by decide) (by decide)))
      have A_a_12 := A_a_11.other W12 hta.symm
      have S_javalangString_COMPACT_STRINGS_12 := S_javalangString_COMPACT_STRINGS_11.wr W12
      have A_b11_12 := P11.other W12 (Ne.symm ne_t_b11)
      have sz12 : n0 ≤ h12.size := by rw [W12.size]; exact sz11
      have kp12 := Keep.wr kp11 W12 (Or.inl (List.mem_of_getElem? (i := 0) rfl))
      refine Run.aloadN d35_51 rfl rfl (pc' := 52) rfl ?_
      refine Run.aload d35_52 rfl rfl (pc' := 54) rfl ?_
      refine Run.putF d35_54 (host := "") (Or.inl (hw _ (List.mem_of_getElem? (i := 57) rfl))) Via.refl F_t_value_12 E_t_12 (Or.inr ⟨(hw _ (List.mem_of_getElem? (i := 19) rfl)), rfl, rfl⟩) (hw _ (List.mem_of_getElem? (i := 17) rfl)) (ty := (.array .byte)) (by decide) (go_narref rfl rfl) rfl gt (pc' := 57) rfl ?_
      intro h13 W13
      have Fw13 := F_t_value_12.same W13
      have E_t_13 := E_t_12.wr W13
      have A_a_13 := A_a_12.other W13 hta.symm
      have S_javalangString_COMPACT_STRINGS_13 := S_javalangString_COMPACT_STRINGS_12.wr W13
      have A_b11_13 := A_b11_12.other W13 (Ne.symm ne_t_b11)
      have F_t_coder_13 := Fw12.other W13 (Or.inr (slot_ne (Or.inr (hw _ (List.mem_of_getElem? (i := 20) rfl))) (Or.inr (hw _ (List.mem_of_getElem? (i := 19) rfl))) (by decide) (t := .byte) (t' := (.array .byte)) (by decide) (by decide)))
      have sz13 : n0 ≤ h13.size := by rw [W13.size]; exact sz12
      have kp13 := Keep.wr kp12 W13 (Or.inl (List.mem_of_getElem? (i := 0) rfl))
      exact Run.vreturn d35_57 rfl (by decide) (by decide) ⟨rfl, b11, bo_b11, kp13, E_t_13, Fw13, F_t_coder_13, A_b11_13⟩
  · -- pc 5 not taken: (Int32.ofNat cs.length) = (0 : Int32)
    exact absurd hc5 (own_pos hne (by omega))
theorem d34_0 : decode jdk_42_method_3_code 0 = .ok (.aload_n 0, 1) := by decide +kernel
theorem d34_1 : decode jdk_42_method_3_code 1 = .ok (.aload_n 1, 1) := by decide +kernel
theorem d34_2 : decode jdk_42_method_3_code 2 = .ok (.iconst 0, 1) := by decide +kernel
theorem d34_3 : decode jdk_42_method_3_code 3 = .ok (.aload_n 1, 1) := by decide +kernel
theorem d34_4 : decode jdk_42_method_3_code 4 = .ok (.arraylength, 1) := by decide +kernel
theorem d34_5 : decode jdk_42_method_3_code 5 = .ok (.aconst_null, 1) := by decide +kernel
theorem d34_6 : decode jdk_42_method_3_code 6 = .ok (.invokespecial 27, 3) := by decide +kernel
theorem d34_9 : decode jdk_42_method_3_code 9 = .ok (.return_, 1) := by decide +kernel
theorem pn_34 : plainFor (⟨"java/lang/String", "<init>", "([C)V"⟩ : MethodName) = true := plainFor_of_name (by first | (simp [plainName, overriddenIn]; done) | decide +kernel)
theorem pd___CIILjava_lang_Void__V : parseMethodDescriptor "([CIILjava/lang/Void;)V" = some ⟨[(.array .char), .int, .int, (.object "java/lang/Void")], none⟩ := by decide +kernel
theorem ef_con_si1 (m : MethodId) (t : Addr) (a : Addr) (cs : List Int32) (cz : Int32) (uv : Value) (uc : Value)  : entryFrame m #[(.ref t), (.ref a)] 2 = mkF m 0 #[.val (.ref t), .val (.ref a)] [] := by first | (simp [entryFrame, mkF, argsToLocals, Value.category]; done) | rfl
set_option maxRecDepth 65536 in
set_option maxHeartbeats 40000000 in
theorem con_si1 (l : Launch) (Z : State) (a0 : Array Value) (hw : ∀ d ∈ tables_1, d.before a0 Z = true) (n0 : Nat) (h0 : Heap) (Z0 : n0 ≤ h0.size) (t : Addr) (a : Addr) (cs : List Int32) (cz : Int32) (uv : Value) (uc : Value) (E1 : Exa Z h0 t "java/lang/String") (FV : Fld Z h0 t "java/lang/String" "value" "[B" uv) (FC : Fld Z h0 t "java/lang/String" "coder" "B" uc) (gt : n0 ≤ t) (AC : Ary Z h0 a .char (cs.map Value.int)) (hne : cs ≠ []) (hn : cs.length ≤ 2) (hlat : own_lat cs) (SZ : Sta Z h0 "java/lang/String" "COMPACT_STRINGS" "Z" (.int cz)) (hcz : ¬ cz = 0) (hta : t ≠ a) :
    Con l Z n0 (⟨"java/lang/String", "<init>", "([C)V"⟩ : MethodName) jdk_42_method_3_code 2 none ({ frames := 3, cells := 1, slots := 2, locals := 52 } : Room) #[(.ref t), (.ref a)] h0 (Vd fun h' => ∃ b, h0.size ≤ b ∧ Keep h0 h' [t] ∧ Exa Z h' t "java/lang/String" ∧ Fld Z h' t "java/lang/String" "value" "[B" (.ref b) ∧ Fld Z h' t "java/lang/String" "coder" "B" (.int (0 : Int32)) ∧ Ary Z h' b .byte (own_by cs)) := by
  refine Con.of_run pn_34 (fun m => ef_con_si1 m t a cs cz uv uc ) ?_
  refine Run.aloadN d34_0 rfl rfl (pc' := 1) rfl ?_
  refine Run.aloadN d34_1 rfl rfl (pc' := 2) rfl ?_
  refine Run.iconst (0 : Int32) d34_2 (by decide) (pc' := 3) rfl ?_
  refine Run.aloadN d34_3 rfl rfl (pc' := 4) rfl ?_
  refine Run.alen (z := (Int32.ofNat cs.length)) d34_4 AC (by simp) (pc' := 5) rfl ?_
  refine Run.aconst d34_5 (pc' := 6) rfl ?_
  refine Run.callN (k' := 1) (n' := 2) (a := t) (as := [(.ref a), (.int (0 : Int32)), (.int (Int32.ofNat cs.length)), .null]) (rest := []) (con_si4 l Z a0 hw n0 h0 Z0 t a cs cz uv uc E1 FV FC gt AC hne hn hlat SZ hcz (Ne.symm hta.symm)) rfl d34_6 (hw _ (List.mem_of_getElem? (i := 182) rfl)) (hw _ (List.mem_of_getElem? (i := 183) rfl)) (hw _ (List.mem_of_getElem? (i := 16) rfl)) (hw _ (List.mem_of_getElem? (i := 184) rfl)) (by decide) pd___CIILjava_lang_Void__V rfl rfl rfl (by decide) (by show (0 : Nat) + (6 + 11) + 35 ≤ _; decide) (by decide) (by decide) (by decide) (by decide) (pc' := 9) rfl ?_
  rintro h11 ⟨b11, bw11, K11, X11, FV11, FC11, P11⟩
  show Run l Z n0 "java/lang/String" jdk_42_method_3_code 2 none "<init>" ({ frames := 3, cells := 1, slots := 2, locals := 52 } : Room) _ 9 #[.val (.ref t), .val (.ref a)] [] h11 1 2
  have ge_b11 : n0 ≤ b11 := Nat.le_trans Z0 bw11
  have bo_b11 : h0.size ≤ b11 := Nat.le_trans (Keep.refl h0 [t]).1 bw11
  have ne_t_b11 : t ≠ b11 := Nat.ne_of_lt (Nat.lt_of_lt_of_le E1.lt bw11)
  have ne_a_b11 : a ≠ b11 := Nat.ne_of_lt (Nat.lt_of_lt_of_le AC.lt bw11)
  have E_t_11 := E1.keep K11
  have A_a_11 := AC.keep K11 (ninS hta.symm nin0)
  have S_javalangString_COMPACT_STRINGS_11 := sta_keep SZ K11 (allS (nst_exa E1) all0)
  have sz11 : n0 ≤ h11.size := Nat.le_trans Z0 K11.1
  have kp11 := Keep.trans (Keep.refl h0 [t]) K11 (allS (Or.inl (List.mem_of_getElem? (i := 0) rfl)) all0)
  exact Run.vreturn d34_9 rfl (by decide) (by decide) ⟨rfl, b11, bo_b11, kp11, X11, FV11, FC11, P11⟩
def own_chr (cs : List Int32) : Prop := ∀ c ∈ cs, 0 ≤ c.toInt ∧ c.toInt ≤ 65535
def own_b0 (c : Int32) : Int32 := nar .byte (c >>> ((0 : Int32) &&& 31))
def own_b1 (c : Int32) : Int32 := nar .byte (c >>> ((8 : Int32) &&& 31))
def own_u16 (cs : List Int32) : List Value := cs.flatMap fun c => [Value.int (own_b0 c), Value.int (own_b1 c)]
def own_pfx : List Int32 → Nat
  | [] => 0
  | c :: r => if (255 : Int32) < c then 0 else own_pfx r + 1
def own_enc (cs : List Int32) : List Value := if own_pfx cs = cs.length then own_by cs else own_u16 cs
def own_coder (cs : List Int32) : Int32 := if own_pfx cs = cs.length then 0 else 1
def own_gc (x y : Int32) : Int32 := nar .char (nar .char (((x &&& (255 : Int32)) <<< ((0 : Int32) &&& 31)) ||| ((y &&& (255 : Int32)) <<< ((8 : Int32) &&& 31))))
theorem own_pfx_le : ∀ r : List Int32, own_pfx r ≤ r.length
  | [] => Nat.le_refl _
  | c :: r => by unfold own_pfx; split; omega; have := own_pfx_le r; simp; omega
theorem own_pfx_end {cs : List Int32} {i : Nat} (h : cs.length ≤ i) : own_pfx (cs.drop i) = 0 := by rw [List.drop_eq_nil_of_le h]; rfl
theorem own_gD {cs : List Int32} {i : Nat} (h : i < cs.length) : cs.getD i 0 = cs[i] := by simp [List.getD_eq_getElem?_getD, h]
theorem own_pfx_at {cs : List Int32} {i : Nat} (h : i < cs.length) : own_pfx (cs.drop i) = if (255 : Int32) < cs.getD i 0 then 0 else own_pfx (cs.drop (i + 1)) + 1 := by
  rw [List.drop_eq_getElem_cons h, own_gD h]; rfl
theorem own_pfx_stop {cs : List Int32} (h : ¬ own_pfx cs = cs.length) : own_pfx cs < cs.length ∧ (255 : Int32) < cs.getD (own_pfx cs) 0 := by
  induction cs with
  | nil => exact absurd rfl h
  | cons c r ih =>
    unfold own_pfx at h ⊢
    split at h
    · rename_i q; rw [if_pos q]; exact ⟨by simp, q⟩
    · rename_i q; rw [if_neg q]
      obtain ⟨h1, h2⟩ := ih (fun e => h (by simp [e]))
      exact ⟨by simp; omega, by simpa [List.getD_cons_succ] using h2⟩
theorem own_u16_len (cs : List Int32) : (own_u16 cs).length = 2 * cs.length := by
  induction cs with
  | nil => rfl
  | cons c r ih => simp only [own_u16, List.flatMap_cons, List.length_append] at ih ⊢; rw [ih]; simp; omega
theorem own_u16_cons (c : Int32) (r : List Int32) : own_u16 (c :: r) = Value.int (own_b0 c) :: Value.int (own_b1 c) :: own_u16 r := by simp [own_u16]
theorem own_u16_get {cs : List Int32} {i : Nat} (h : i < cs.length) : (own_u16 cs)[2 * i]? = some (Value.int (own_b0 (cs.getD i 0))) ∧ (own_u16 cs)[2 * i + 1]? = some (Value.int (own_b1 (cs.getD i 0))) := by
  induction cs generalizing i with
  | nil => simp at h
  | cons c r ih =>
    rw [own_u16_cons]
    cases i with
    | zero => exact ⟨rfl, rfl⟩
    | succ i =>
      have := ih (i := i) (by simpa using h)
      rw [show 2 * (i + 1) = (2 * i + 1) + 1 by omega, List.getElem?_cons_succ, List.getElem?_cons_succ, List.getElem?_cons_succ, List.getElem?_cons_succ, List.getD_cons_succ]
      exact this
theorem own_u16_app (a b : List Int32) : own_u16 (a ++ b) = own_u16 a ++ own_u16 b := by simp [own_u16]
theorem own_by_get {cs : List Int32} {i : Nat} (h : i < cs.length) : (own_by cs)[i]? = some (Value.int (nar .byte (cs.getD i 0))) := by rw [own_gD h]; simp [own_by, h]
theorem own_u16_set {cs : List Int32} {i : Nat} (h : i < cs.length) :
    ((own_u16 (cs.take i) ++ List.replicate (2 * (cs.length - i)) (Value.int (0 : Int32))).set (2 * i) (Value.int (own_b0 (cs.getD i 0)))).set (2 * i + 1) (Value.int (own_b1 (cs.getD i 0))) = own_u16 (cs.take (i + 1)) ++ List.replicate (2 * (cs.length - (i + 1))) (Value.int (0 : Int32)) := by
  have e1 : 2 * (cs.length - i) = (2 * (cs.length - (i + 1)) + 1) + 1 := by omega
  have l1 : (own_u16 (cs.take i)).length = 2 * i := by rw [own_u16_len, List.length_take]; omega
  rw [e1, List.replicate_succ, List.replicate_succ, List.set_append_right _ _ (by omega), l1, Nat.sub_self, List.set_cons_zero, List.set_append_right _ _ (by omega), l1, show 2 * i + 1 - 2 * i = 1 by omega, List.set_cons_succ, List.set_cons_zero, List.take_succ_eq_append_getElem h, own_u16_app, own_gD h]
  simp [own_u16]
theorem own_by_set {cs : List Int32} {i : Nat} (h : i < cs.length) :
    ((own_by (cs.take i)) ++ List.replicate (cs.length - i) (Value.int (0 : Int32))).set i (Value.int (nar .byte (cs.getD i 0))) = own_by (cs.take (i + 1)) ++ List.replicate (cs.length - (i + 1)) (Value.int (0 : Int32)) := by
  have e1 : cs.length - i = (cs.length - (i + 1)) + 1 := by omega
  have l1 : (own_by (cs.take i)).length = i := by simp [own_by]; omega
  rw [e1, List.replicate_succ, List.set_append_right _ _ (by omega), l1, Nat.sub_self, List.set_cons_zero, List.take_succ_eq_append_getElem h, own_gD h]
  simp only [own_by, List.map_append, List.map_cons, List.map_nil, List.append_assoc, List.cons_append, List.nil_append]
theorem own_chrD {cs : List Int32} (h : own_chr cs) {i : Nat} (hi : i < cs.length) : 0 ≤ (cs.getD i 0).toInt ∧ (cs.getD i 0).toInt ≤ 65535 := by rw [own_gD hi]; exact h _ (List.getElem_mem hi)
theorem own_gcb {c : Int32} (h : 0 ≤ c.toInt ∧ c.toInt ≤ 65535) : own_gc (own_b0 c) (own_b1 c) = c := by
  apply Int32.toInt_inj.mp
  have s0 := c_ishr c 0 0 (by decide)
  have s1 := c_ishr c 8 8 (by decide)
  have b0 := c_i2b (c >>> ((0 : Int32) &&& 31))
  have b1 := c_i2b (c >>> ((8 : Int32) &&& 31))
  have m0 := c_mask (own_b0 c) 255 8 (by decide) (by decide)
  have m1 := c_mask (own_b1 c) 255 8 (by decide) (by decide)
  have l0 := c_ishl (own_b0 c &&& 255) 0 0 (by decide)
  have l1 := c_ishl (own_b1 c &&& 255) 8 8 (by decide)
  have r0 := rng32 ((own_b0 c &&& 255) <<< ((0 : Int32) &&& 31))
  have r1 := rng32 ((own_b1 c &&& 255) <<< ((8 : Int32) &&& 31))
  change ((own_b0 c).toInt - _) % 256 = 0 ∧ _ at b0
  change ((own_b1 c).toInt - _) % 256 = 0 ∧ _ at b1
  simp only [Nat.reducePow, Int.mul_one] at s0 s1 m0 m1 l0 l1
  have o := c_or' ((own_b0 c &&& 255) <<< ((0 : Int32) &&& 31)) ((own_b1 c &&& 255) <<< ((8 : Int32) &&& 31)) 8 (by decide) 256 (by decide) (by omega) (by omega) (by omega)
  unfold own_gc
  rw [own_ncc]
  have q := c_i2c (((own_b0 c &&& (255 : Int32)) <<< ((0 : Int32) &&& 31)) ||| ((own_b1 c &&& (255 : Int32)) <<< ((8 : Int32) &&& 31)))
  change ((nar .char _).toInt - _) % 65536 = 0 ∧ 0 ≤ (nar .char _).toInt ∧ (nar .char _).toInt < 65536 at q
  omega
theorem own_latc {c : Int32} (h0 : 0 ≤ c.toInt) (h : ¬ (255 : Int32) < c) : nar .char (nar .char (nar .byte c &&& (255 : Int32))) = c := by
  apply Int32.toInt_inj.mp
  rw [Int32.lt_iff_toInt_lt] at h; have e : (255 : Int32).toInt = 255 := rfl
  have b := c_i2b c; have m := c_mask (nar .byte c) 255 8 (by decide) (by decide); have q := c_i2c (nar .byte c &&& 255)
  change ((nar .byte c).toInt - _) % 256 = 0 ∧ _ at b
  change ((nar .char _).toInt - _) % 65536 = 0 ∧ 0 ≤ (nar .char _).toInt ∧ (nar .char _).toInt < 65536 at q
  simp only [Nat.reducePow] at m
  rw [own_ncc]; omega
theorem own_pfx_all {cs : List Int32} (h : own_pfx cs = cs.length) {i : Nat} (hi : i < cs.length) : ¬ (255 : Int32) < cs.getD i 0 := by
  induction cs generalizing i with
  | nil => simp at hi
  | cons c r ih =>
    unfold own_pfx at h
    split at h
    · simp at h
    · rename_i q
      cases i with
      | zero => simpa using q
      | succ i => rw [List.getD_cons_succ]; exact ih (by simpa using h) (by simpa using hi)
theorem own_shl1 {n : Nat} (h : n < 2 ^ 30) : Int32.ofNat n <<< ((1 : Int32) &&& 31) = Int32.ofNat (2 * n) := by
  apply Int32.toInt_inj.mp
  have a := c_ishl (Int32.ofNat n) 1 1 (by decide); have b := own_ofn (i := n) (by omega); have c := own_ofn (i := 2 * n) (by omega); have d := rng32 (Int32.ofNat n <<< ((1 : Int32) &&& 31))
  simp only [Nat.reducePow] at a; omega
theorem own_shr1 {n : Nat} (h : n < 2 ^ 30) : Int32.ofNat (2 * n) >>> ((1 : Int32) &&& 31) = Int32.ofNat n := by
  apply Int32.toInt_inj.mp
  have a := c_ishr (Int32.ofNat (2 * n)) 1 1 (by decide); have b := own_ofn (i := n) (by omega); have c := own_ofn (i := 2 * n) (by omega)
  simp only [Nat.reducePow] at a; omega
theorem own_shr0 (x : Int32) : x >>> ((0 : Int32) &&& 31) = x := by
  apply Int32.toInt_inj.mp
  have a := c_ishr x 0 0 (by decide)
  simp only [Nat.reducePow] at a; omega
theorem own_enc_len (cs : List Int32) : (own_enc cs).length = if own_pfx cs = cs.length then cs.length else 2 * cs.length := by
  unfold own_enc; split <;> simp [own_by, own_u16_len]
theorem own_cfl {cs : List Int32} (h : cs ≠ []) (hb : cs.length < 2 ^ 30) : nar .byte (nar .byte (XT.ushr (Int32.ofNat cs.length - Int32.ofNat (own_enc cs).length) (31 : Int32))) = own_coder cs := by
  have h1 := List.length_pos_iff.mpr h
  unfold own_coder
  rw [own_enc_len, own_nbb]
  split
  · rw [Int32.sub_self]; rfl
  · apply Int32.toInt_inj.mp
    have a := c_isub (Int32.ofNat cs.length) (Int32.ofNat (2 * cs.length)); have b := own_ofn (i := cs.length) (by omega); have c := own_ofn (i := 2 * cs.length) (by omega); have d := rng32 (Int32.ofNat cs.length - Int32.ofNat (2 * cs.length))
    have u := c_iushr (Int32.ofNat cs.length - Int32.ofNat (2 * cs.length)) 31 31 (by decide) (by decide)
    have v := c_i2b (XT.ushr (Int32.ofNat cs.length - Int32.ofNat (2 * cs.length)) (31 : Int32))
    change ((nar .byte _).toInt - _) % 256 = 0 ∧ -128 ≤ (nar .byte _).toInt ∧ (nar .byte _).toInt < 128 at v
    change (XT.ushr (Int32.ofNat cs.length - Int32.ofNat (2 * cs.length)) (31 : Int32)).toInt = _ at u
    have e : (1 : Int32).toInt = 1 := rfl
    simp only [Nat.reducePow] at u
    omega
theorem own_nge {n : Nat} (h : n < 2 ^ 31) : ¬ Int32.ofNat n < (0 : Int32) := by rw [Int32.lt_iff_toInt_lt, own_ofn h, own_z]; omega
theorem own_codb (cs : List Int32) : nar .byte (own_coder cs) = own_coder cs := by unfold own_coder; split <;> decide
def own_isl (cs : List Int32) : Int32 := if own_coder cs = 0 then 1 else 0
theorem own_cod0 {cs : List Int32} (h : own_coder cs = 0) : own_pfx cs = cs.length := by unfold own_coder at h; split at h; assumption; exact absurd h (by decide)
theorem own_cod1 {cs : List Int32} (h : ¬ own_coder cs = 0) : ¬ own_pfx cs = cs.length := fun e => h (by unfold own_coder; rw [if_pos e])
theorem own_isl0 {cs : List Int32} (h : own_isl cs = 0) : ¬ own_pfx cs = cs.length := by unfold own_isl at h; split at h; exact absurd h (by decide); rename_i q; exact own_cod1 q
theorem own_isl1 {cs : List Int32} (h : ¬ own_isl cs = 0) : own_pfx cs = cs.length := by unfold own_isl at h; split at h; rename_i q; exact own_cod0 q; exact absurd rfl h
theorem own_lenshr {cs : List Int32} (h : cs.length < 2 ^ 29) : Int32.ofNat (own_enc cs).length >>> (own_coder cs &&& 31) = Int32.ofNat cs.length := by
  rw [own_enc_len]; unfold own_coder; split
  · exact own_shr0 _
  · exact own_shr1 (by omega)
theorem own_encP {cs : List Int32} (h : own_pfx cs = cs.length) : own_enc cs = own_by cs := by unfold own_enc; rw [if_pos h]
theorem own_encN {cs : List Int32} (h : ¬ own_pfx cs = cs.length) : own_enc cs = own_u16 cs := by unfold own_enc; rw [if_neg h]
theorem d15_0 : decode jdk_42_method_152_code 0 = .ok (.getstatic 38, 3) := by decide +kernel
theorem d15_3 : decode jdk_42_method_152_code 3 = .ok (.ifCond .eq 10, 3) := by decide +kernel
theorem d15_6 : decode jdk_42_method_152_code 6 = .ok (.aload_n 0, 1) := by decide +kernel
theorem d15_7 : decode jdk_42_method_152_code 7 = .ok (.getfield 15, 3) := by decide +kernel
theorem d15_10 : decode jdk_42_method_152_code 10 = .ok (.goto 4, 3) := by decide +kernel
theorem d15_13 : decode jdk_42_method_152_code 13 = .ok (.iconst 1, 1) := by decide +kernel
theorem d15_14 : decode jdk_42_method_152_code 14 = .ok (.ireturn, 1) := by decide +kernel
theorem pn_15 : plainFor (⟨"java/lang/String", "coder", "()B"⟩ : MethodName) = true := plainFor_of_name (by first | (simp [plainName, overriddenIn]; done) | decide +kernel)
theorem ef_con_cod (m : MethodId) (t : Addr) (cs : List Int32) (cz : Int32)  : entryFrame m #[(.ref t)] 1 = mkF m 0 #[.val (.ref t)] [] := by first | (simp [entryFrame, mkF, argsToLocals, Value.category]; done) | rfl
set_option maxRecDepth 65536 in
set_option maxHeartbeats 40000000 in
theorem con_cod (l : Launch) (Z : State) (a0 : Array Value) (hw : ∀ d ∈ tables_1, d.before a0 Z = true) (n0 : Nat) (h0 : Heap) (Z0 : n0 ≤ h0.size) (t : Addr) (cs : List Int32) (cz : Int32) (od0 : Old Z n0 h0) (SZ : Sta Z Z.heap "java/lang/String" "COMPACT_STRINGS" "Z" (.int cz)) (hcz : ¬ cz = 0) (FC : Fld Z h0 t "java/lang/String" "coder" "B" (.int (own_coder cs))) :
    Con l Z n0 (⟨"java/lang/String", "coder", "()B"⟩ : MethodName) jdk_42_method_152_code 1 (some .byte) ({ frames := 0, cells := 0, slots := 0, locals := 0 } : Room) #[(.ref t)] h0 (Val (PV (.int (own_coder cs)) h0)) := by
  refine Con.of_run pn_15 (fun m => ef_con_cod m t cs cz ) ?_
  refine Run.getS d15_0 (host := "") (Or.inl (hw _ (List.mem_of_getElem? (i := 73) rfl))) Via.refl (SZ.ext od0.2) (pc' := 3) rfl ?_
  refine Run.if_eq d15_3 (by decide) (pc' := 13) (by decide) (pa := 6) rfl (fun hc3 => ?_) (fun hc3 => ?_)
  · -- pc 3 taken: cz = (0 : Int32)
    exact absurd hc3 hcz
  · -- pc 3 not taken: ¬ cz = (0 : Int32)
    refine Run.aloadN d15_6 rfl rfl (pc' := 7) rfl ?_
    refine Run.getF d15_7 (host := "") (Or.inl (hw _ (List.mem_of_getElem? (i := 74) rfl))) Via.refl FC (pc' := 10) rfl ?_
    refine Run.goto d15_10 (by decide) (pc' := 14) (by decide) ?_
    exact Run.nreturn d15_14 (ty := .byte) rfl (by simp) (by decide) (by decide) ⟨_, rfl, congrArg Value.int (own_codb cs).symm, rfl⟩
theorem d14_0 : decode jdk_42_method_54_code 0 = .ok (.aload_n 0, 1) := by decide +kernel
theorem d14_1 : decode jdk_42_method_54_code 1 = .ok (.getfield 9, 3) := by decide +kernel
theorem d14_4 : decode jdk_42_method_54_code 4 = .ok (.arraylength, 1) := by decide +kernel
theorem d14_5 : decode jdk_42_method_54_code 5 = .ok (.aload_n 0, 1) := by decide +kernel
theorem d14_6 : decode jdk_42_method_54_code 6 = .ok (.invokevirtual 335, 3) := by decide +kernel
theorem d14_9 : decode jdk_42_method_54_code 9 = .ok (.ishr, 1) := by decide +kernel
theorem d14_10 : decode jdk_42_method_54_code 10 = .ok (.ireturn, 1) := by decide +kernel
theorem pn_14 : plainFor (⟨"java/lang/String", "length", "()I"⟩ : MethodName) = true := plainFor_of_name (by first | (simp [plainName, overriddenIn]; done) | decide +kernel)
theorem pd___B : parseMethodDescriptor "()B" = some ⟨[], some .byte⟩ := by decide +kernel
theorem ef_con_len (m : MethodId) (t b : Addr) (cs : List Int32) (cz : Int32)  : entryFrame m #[(.ref t)] 1 = mkF m 0 #[.val (.ref t)] [] := by first | (simp [entryFrame, mkF, argsToLocals, Value.category]; done) | rfl
set_option maxRecDepth 65536 in
set_option maxHeartbeats 40000000 in
theorem con_len (l : Launch) (Z : State) (a0 : Array Value) (hw : ∀ d ∈ tables_1, d.before a0 Z = true) (n0 : Nat) (h0 : Heap) (Z0 : n0 ≤ h0.size) (t b : Addr) (cs : List Int32) (cz : Int32) (od0 : Old Z n0 h0) (SZ : Sta Z Z.heap "java/lang/String" "COMPACT_STRINGS" "Z" (.int cz)) (hcz : ¬ cz = 0) (E1 : Exa Z h0 t "java/lang/String") (FV : Fld Z h0 t "java/lang/String" "value" "[B" (.ref b)) (FC : Fld Z h0 t "java/lang/String" "coder" "B" (.int (own_coder cs))) (AB : Ary Z h0 b .byte (own_enc cs)) (hn : cs.length ≤ 2) :
    Con l Z n0 (⟨"java/lang/String", "length", "()I"⟩ : MethodName) jdk_42_method_54_code 1 (some .int) ({ frames := 1, cells := 0, slots := 0, locals := 13 } : Room) #[(.ref t)] h0 (Val (PV (.int (Int32.ofNat cs.length)) h0)) := by
  refine Con.of_run pn_14 (fun m => ef_con_len m t b cs cz ) ?_
  refine Run.aloadN d14_0 rfl rfl (pc' := 1) rfl ?_
  refine Run.getF d14_1 (host := "") (Or.inl (hw _ (List.mem_of_getElem? (i := 57) rfl))) Via.refl FV (pc' := 4) rfl ?_
  refine Run.alen (z := (Int32.ofNat (own_enc cs).length)) d14_4 AB rfl (pc' := 5) rfl ?_
  refine Run.aloadN d14_5 rfl rfl (pc' := 6) rfl ?_
  refine Run.callV (k' := 0) (n' := 0) (a := t) (as := []) (rest := [(.int (Int32.ofNat (own_enc cs).length))]) (con_cod l Z a0 hw n0 h0 Z0 t cs cz od0 SZ hcz FC ) E1 d14_6 (hw _ (List.mem_of_getElem? (i := 80) rfl)) (hw _ (List.mem_of_getElem? (i := 81) rfl)) (fun s hZ => notFace_of_selects (args := #[]) (mvT hZ (hw _ (List.mem_of_getElem? (i := 83) rfl)))) (hw _ (List.mem_of_getElem? (i := 83) rfl)) (hw _ (List.mem_of_getElem? (i := 82) rfl)) (hw _ (List.mem_of_getElem? (i := 16) rfl)) (hw _ (List.mem_of_getElem? (i := 84) rfl)) (by decide) pd___B rfl rfl rfl (by decide) (by show (1 : Nat) + (1 + 11) + 0 ≤ _; decide) (by decide) (by decide) (by decide) (by decide) (pc' := 9) rfl ?_
  rintro _ _ ⟨_, rfl, rfl, rfl⟩
  show Run l Z n0 "java/lang/String" jdk_42_method_54_code 1 (some .int) "length" ({ frames := 1, cells := 0, slots := 0, locals := 13 } : Room) _ 9 #[.val (.ref t)] [(.int (own_coder cs)), (.int (Int32.ofNat (own_enc cs).length))] h0 0 0
  refine Run.ishr d14_9 (pc' := 10) rfl ?_
  exact Run.ireturn d14_10 rfl (by decide) (by decide) ⟨_, rfl, congrArg Value.int (own_lenshr (by omega)).symm, rfl⟩
theorem d13_0 : decode jdk_42_method_154_code 0 = .ok (.getstatic 38, 3) := by decide +kernel
theorem d13_3 : decode jdk_42_method_154_code 3 = .ok (.ifCond .eq 14, 3) := by decide +kernel
theorem d13_6 : decode jdk_42_method_154_code 6 = .ok (.aload_n 0, 1) := by decide +kernel
theorem d13_7 : decode jdk_42_method_154_code 7 = .ok (.getfield 15, 3) := by decide +kernel
theorem d13_10 : decode jdk_42_method_154_code 10 = .ok (.ifCond .ne 7, 3) := by decide +kernel
theorem d13_13 : decode jdk_42_method_154_code 13 = .ok (.iconst 1, 1) := by decide +kernel
theorem d13_14 : decode jdk_42_method_154_code 14 = .ok (.goto 4, 3) := by decide +kernel
theorem d13_17 : decode jdk_42_method_154_code 17 = .ok (.iconst 0, 1) := by decide +kernel
theorem d13_18 : decode jdk_42_method_154_code 18 = .ok (.ireturn, 1) := by decide +kernel
theorem pn_13 : plainFor (⟨"java/lang/String", "isLatin1", "()Z"⟩ : MethodName) = true := plainFor_of_name (by first | (simp [plainName, overriddenIn]; done) | decide +kernel)
theorem ef_con_isl (m : MethodId) (t : Addr) (cs : List Int32) (cz : Int32)  : entryFrame m #[(.ref t)] 1 = mkF m 0 #[.val (.ref t)] [] := by first | (simp [entryFrame, mkF, argsToLocals, Value.category]; done) | rfl
set_option maxRecDepth 65536 in
set_option maxHeartbeats 40000000 in
theorem con_isl (l : Launch) (Z : State) (a0 : Array Value) (hw : ∀ d ∈ tables_1, d.before a0 Z = true) (n0 : Nat) (h0 : Heap) (Z0 : n0 ≤ h0.size) (t : Addr) (cs : List Int32) (cz : Int32) (od0 : Old Z n0 h0) (SZ : Sta Z Z.heap "java/lang/String" "COMPACT_STRINGS" "Z" (.int cz)) (hcz : ¬ cz = 0) (FC : Fld Z h0 t "java/lang/String" "coder" "B" (.int (own_coder cs))) :
    Con l Z n0 (⟨"java/lang/String", "isLatin1", "()Z"⟩ : MethodName) jdk_42_method_154_code 1 (some .boolean) ({ frames := 0, cells := 0, slots := 0, locals := 0 } : Room) #[(.ref t)] h0 (Val (PV (.int (own_isl cs)) h0)) := by
  refine Con.of_run pn_13 (fun m => ef_con_isl m t cs cz ) ?_
  refine Run.getS d13_0 (host := "") (Or.inl (hw _ (List.mem_of_getElem? (i := 73) rfl))) Via.refl (SZ.ext od0.2) (pc' := 3) rfl ?_
  refine Run.if_eq d13_3 (by decide) (pc' := 17) (by decide) (pa := 6) rfl (fun hc3 => ?_) (fun hc3 => ?_)
  · -- pc 3 taken: cz = (0 : Int32)
    exact absurd hc3 hcz
  · -- pc 3 not taken: ¬ cz = (0 : Int32)
    refine Run.aloadN d13_6 rfl rfl (pc' := 7) rfl ?_
    refine Run.getF d13_7 (host := "") (Or.inl (hw _ (List.mem_of_getElem? (i := 74) rfl))) Via.refl FC (pc' := 10) rfl ?_
    refine Run.if_ne d13_10 (by decide) (pc' := 17) (by decide) (pa := 13) rfl (fun hc10 => ?_) (fun hc10 => ?_)
    · -- pc 10 taken: ¬ (own_coder cs) = (0 : Int32)
      refine Run.iconst (0 : Int32) d13_17 (by decide) (pc' := 18) rfl ?_
      exact Run.nreturn d13_18 (ty := .boolean) rfl (by simp) (by decide) (by decide) ⟨_, rfl, congrArg Value.int (by unfold own_isl; rw [if_neg hc10] <;> rfl), rfl⟩
    · -- pc 10 not taken: (own_coder cs) = (0 : Int32)
      refine Run.iconst (1 : Int32) d13_13 (by decide) (pc' := 14) rfl ?_
      refine Run.goto d13_14 (by decide) (pc' := 18) (by decide) ?_
      exact Run.nreturn d13_18 (ty := .boolean) rfl (by simp) (by decide) (by decide) ⟨_, rfl, congrArg Value.int (by unfold own_isl; rw [if_pos hc10] <;> rfl), rfl⟩
def own_can (p1 : Int32) : Int32 := (if (255 : Int32) < p1 then (0 : Int32) else (1 : Int32))
theorem d23_0 : decode jdk_43_method_3_code 0 = .ok (.iload_n 0, 1) := by decide +kernel
theorem d23_1 : decode jdk_43_method_3_code 1 = .ok (.sipush 255, 3) := by decide +kernel
theorem d23_4 : decode jdk_43_method_3_code 4 = .ok (.if_icmp .gt 7, 3) := by decide +kernel
theorem d23_7 : decode jdk_43_method_3_code 7 = .ok (.iconst 1, 1) := by decide +kernel
theorem d23_8 : decode jdk_43_method_3_code 8 = .ok (.goto 4, 3) := by decide +kernel
theorem d23_11 : decode jdk_43_method_3_code 11 = .ok (.iconst 0, 1) := by decide +kernel
theorem d23_12 : decode jdk_43_method_3_code 12 = .ok (.ireturn, 1) := by decide +kernel
theorem pn_23 : plainFor (⟨"java/lang/StringLatin1", "canEncode", "(C)Z"⟩ : MethodName) = true := plainFor_of_name (by first | (simp [plainName, overriddenIn]; done) | decide +kernel)
theorem ef_con_own_can (m : MethodId) (p1 : Int32)  : entryFrame m #[(.int p1)] 1 = mkF m 0 #[.val (.int p1)] [] := by first | (simp [entryFrame, mkF, argsToLocals, Value.category]; done) | rfl
set_option maxRecDepth 65536 in
set_option maxHeartbeats 40000000 in
theorem con_own_can (l : Launch) (Z : State) (a0 : Array Value) (hw : ∀ d ∈ tables_1, d.before a0 Z = true) (n0 : Nat) (h0 : Heap) (Z0 : n0 ≤ h0.size) (p1 : Int32)  :
    Con l Z n0 (⟨"java/lang/StringLatin1", "canEncode", "(C)Z"⟩ : MethodName) jdk_43_method_3_code 1 (some .boolean) ({ frames := 0, cells := 0, slots := 0, locals := 0 } : Room) #[(.int p1)] h0 (Val (PV (.int (own_can p1)) h0)) := by
  refine Con.of_run pn_23 (fun m => ef_con_own_can m p1 ) ?_
  refine Run.iloadN d23_0 rfl (pc' := 1) rfl ?_
  refine Run.sipush (255 : Int32) d23_1 (by decide) (pc' := 4) rfl ?_
  refine Run.icmp_gt d23_4 (by decide) (pc' := 11) (by decide) (pa := 7) rfl (fun hc4 => ?_) (fun hc4 => ?_)
  · -- pc 4 taken: (255 : Int32) < p1
    refine Run.iconst (0 : Int32) d23_11 (by decide) (pc' := 12) rfl ?_
    exact Run.nreturn d23_12 (ty := .boolean) rfl (by simp) (by decide) (by decide) ⟨_, rfl, congrArg Value.int (by unfold own_can; rw [if_pos hc4] <;> rfl), rfl⟩
  · -- pc 4 not taken: ¬ (255 : Int32) < p1
    refine Run.iconst (1 : Int32) d23_7 (by decide) (pc' := 8) rfl ?_
    refine Run.goto d23_8 (by decide) (pc' := 12) (by decide) ?_
    exact Run.nreturn d23_12 (ty := .boolean) rfl (by simp) (by decide) (by decide) ⟨_, rfl, congrArg Value.int (by unfold own_can; rw [if_neg hc4] <;> rfl), rfl⟩
theorem own_can1 {c : Int32} (h : ¬ own_can c = 0) : own_coder [c] = 0 ∧ own_enc [c] = own_by [c] := by
  have q : ¬ (255 : Int32) < c := fun z => h (by unfold own_can; rw [if_pos z])
  have e : own_pfx [c] = [c].length := by show (if (255 : Int32) < c then 0 else 0 + 1) = 1; rw [if_neg q]
  exact ⟨by unfold own_coder; rw [if_pos e], own_encP e⟩
theorem own_can0 {c : Int32} (h : own_can c = 0) : own_coder [c] = 1 ∧ own_enc [c] = own_u16 [c] := by
  have q : (255 : Int32) < c := by by_cases z : (255 : Int32) < c; exact z; exact absurd h (by unfold own_can; rw [if_neg z]; decide)
  have e : ¬ own_pfx [c] = [c].length := by show ¬ (if (255 : Int32) < c then 0 else 0 + 1) = 1; rw [if_pos q]; decide
  exact ⟨by unfold own_coder; rw [if_neg e], own_encN e⟩
theorem d24_0 : decode jdk_43_method_46_code 0 = .ok (.iconst 1, 1) := by decide +kernel
theorem d24_1 : decode jdk_43_method_46_code 1 = .ok (.newarray .byte, 2) := by decide +kernel
theorem d24_3 : decode jdk_43_method_46_code 3 = .ok (.dup, 1) := by decide +kernel
theorem d24_4 : decode jdk_43_method_46_code 4 = .ok (.iconst 0, 1) := by decide +kernel
theorem d24_5 : decode jdk_43_method_46_code 5 = .ok (.iload_n 0, 1) := by decide +kernel
theorem d24_6 : decode jdk_43_method_46_code 6 = .ok (.i2b, 1) := by decide +kernel
theorem d24_7 : decode jdk_43_method_46_code 7 = .ok (.bastore, 1) := by decide +kernel
theorem d24_8 : decode jdk_43_method_46_code 8 = .ok (.areturn, 1) := by decide +kernel
theorem pn_24 : plainFor (⟨"java/lang/StringLatin1", "toBytes", "(C)[B"⟩ : MethodName) = true := plainFor_of_name (by first | (simp [plainName, overriddenIn]; done) | decide +kernel)
theorem ef_con_ltb (m : MethodId) (c : Int32)  : entryFrame m #[(.int c)] 1 = mkF m 0 #[.val (.int c)] [] := by first | (simp [entryFrame, mkF, argsToLocals, Value.category]; done) | rfl
set_option maxRecDepth 65536 in
set_option maxHeartbeats 40000000 in
theorem con_ltb (l : Launch) (Z : State) (a0 : Array Value) (hw : ∀ d ∈ tables_1, d.before a0 Z = true) (n0 : Nat) (h0 : Heap) (Z0 : n0 ≤ h0.size) (c : Int32)  :
    Con l Z n0 (⟨"java/lang/StringLatin1", "toBytes", "(C)[B"⟩ : MethodName) jdk_43_method_46_code 1 (some (.array .byte)) ({ frames := 0, cells := 1, slots := 1, locals := 0 } : Room) #[(.int c)] h0 (Val fun w h' => ∃ b, w = .ref b ∧ h0.size ≤ b ∧ Ext h0 h' ∧ Ary Z h' b .byte (own_by [c])) := by
  refine Con.of_run pn_24 (fun m => ef_con_ltb m c ) ?_
  refine Run.iconst (1 : Int32) d24_0 (by decide) (pc' := 1) rfl ?_
  refine Run.newP (ty := .byte) (m := 1) (cap := 1) (dv := (.int (0 : Int32))) (k' := 1) (n' := 1) d24_1 rfl (hw _ (List.mem_of_getElem? (i := 18) rfl)) (by decide) (by decide) (Nat.le_refl _) rfl (by decide) (by decide) (by decide) (by decide) (by decide) (pc' := 3) rfl ?_
  intro h11 b11 g11 E11 A11
  have ge_b11 : n0 ≤ b11 := by rw [g11]; exact Z0
  have bo_b11 : h0.size ≤ b11 := by rw [g11]; exact (Keep.refl h0 []).1
  have sz11 : n0 ≤ h11.size := Nat.le_trans Z0 E11.1
  have kp11 := Keep.ext (Keep.refl h0 []) E11
  replace A11 : Ary Z h11 b11 .byte [(.int (0 : Int32))] := A11
  refine Run.dup d24_3 rfl (pc' := 4) rfl ?_
  refine Run.iconst (0 : Int32) d24_4 (by decide) (pc' := 5) rfl ?_
  refine Run.iloadN d24_5 rfl (pc' := 6) rfl ?_
  refine Run.i2b d24_6 (pc' := 7) rfl ?_
  refine Run.bastore (i := 0) d24_7 A11 (by decide) (by show (0 : Nat) < 1; decide) ge_b11 (pc' := 8) rfl ?_
  intro h12 W12 A12
  replace A12 : Ary Z h12 b11 .byte [(.int (nar .byte (nar .byte c)))] := A12
  have sz12 : n0 ≤ h12.size := by rw [W12.size]; exact sz11
  have kp12 := Keep.wr kp11 W12 (Or.inr bo_b11)
  exact Run.areturn d24_8 (ty := (.array .byte)) rfl rfl rfl (by decide) (by decide) ⟨_, rfl, b11, rfl, bo_b11, Keep.toExt kp12, (by have z := A12; rw [own_nbb] at z; exact z)⟩
theorem d25_0 : decode jdk_42_method_151_code 0 = .ok (.aload_n 0, 1) := by decide +kernel
theorem d25_1 : decode jdk_42_method_151_code 1 = .ok (.invokespecial 1, 3) := by decide +kernel
theorem d25_4 : decode jdk_42_method_151_code 4 = .ok (.aload_n 0, 1) := by decide +kernel
theorem d25_5 : decode jdk_42_method_151_code 5 = .ok (.aload_n 1, 1) := by decide +kernel
theorem d25_6 : decode jdk_42_method_151_code 6 = .ok (.putfield 9, 3) := by decide +kernel
theorem d25_9 : decode jdk_42_method_151_code 9 = .ok (.aload_n 0, 1) := by decide +kernel
theorem d25_10 : decode jdk_42_method_151_code 10 = .ok (.iload_n 2, 1) := by decide +kernel
theorem d25_11 : decode jdk_42_method_151_code 11 = .ok (.putfield 15, 3) := by decide +kernel
theorem d25_14 : decode jdk_42_method_151_code 14 = .ok (.return_, 1) := by decide +kernel
theorem pn_25 : plainFor (⟨"java/lang/String", "<init>", "([BB)V"⟩ : MethodName) = true := plainFor_of_name (by first | (simp [plainName, overriddenIn]; done) | decide +kernel)
theorem ef_con_ibb (m : MethodId) (t a : Addr) (k : Int32) (uv uc : Value)  : entryFrame m #[(.ref t), (.ref a), (.int k)] 3 = mkF m 0 #[.val (.ref t), .val (.ref a), .val (.int k)] [] := by first | (simp [entryFrame, mkF, argsToLocals, Value.category]; done) | rfl
set_option maxRecDepth 65536 in
set_option maxHeartbeats 40000000 in
theorem con_ibb (l : Launch) (Z : State) (a0 : Array Value) (hw : ∀ d ∈ tables_1, d.before a0 Z = true) (n0 : Nat) (h0 : Heap) (Z0 : n0 ≤ h0.size) (t a : Addr) (k : Int32) (uv uc : Value) (E1 : Exa Z h0 t "java/lang/String") (FV : Fld Z h0 t "java/lang/String" "value" "[B" uv) (FC : Fld Z h0 t "java/lang/String" "coder" "B" uc) (gt : n0 ≤ t) (hk1 : narrow .byte (.int k) = .int k) (hk2 : fits .byte (.int k) = true) :
    Con l Z n0 (⟨"java/lang/String", "<init>", "([BB)V"⟩ : MethodName) jdk_42_method_151_code 3 none ({ frames := 1, cells := 0, slots := 0, locals := 12 } : Room) #[(.ref t), (.ref a), (.int k)] h0 (Vd fun h' => Keep h0 h' [t] ∧ Fld Z h' t "java/lang/String" "value" "[B" (.ref a) ∧ Fld Z h' t "java/lang/String" "coder" "B" (.int k)) := by
  refine Con.of_run pn_25 (fun m => ef_con_ibb m t a k uv uc ) ?_
  refine Run.aloadN d25_0 rfl rfl (pc' := 1) rfl ?_
  refine Run.initO d25_1 (hw _ (List.mem_of_getElem? (i := 133) rfl)) (hw _ (List.mem_of_getElem? (i := 41) rfl)) (hw _ (List.mem_of_getElem? (i := 42) rfl)) rfl (by decide) (by show (0 : Nat) + 12 ≤ _; decide) (pc' := 4) rfl ?_
  refine Run.aloadN d25_4 rfl rfl (pc' := 5) rfl ?_
  refine Run.aloadN d25_5 rfl rfl (pc' := 6) rfl ?_
  refine Run.putF d25_6 (host := "") (Or.inl (hw _ (List.mem_of_getElem? (i := 57) rfl))) Via.refl FV E1 (Or.inr ⟨(hw _ (List.mem_of_getElem? (i := 19) rfl)), rfl, rfl⟩) (hw _ (List.mem_of_getElem? (i := 17) rfl)) (ty := (.array .byte)) (by decide) (go_narref rfl rfl) rfl gt (pc' := 9) rfl ?_
  intro h11 W11
  have Fw11 := FV.same W11
  have E_t_11 := E1.wr W11
  have F_t_coder_11 := FC.other W11 (Or.inr (slot_ne (Or.inr (hw _ (List.mem_of_getElem? (i := 20) rfl))) (Or.inr (hw _ (List.mem_of_getElem? (i := 19) rfl))) (by decide) (t := .byte) (t' := (.array .byte)) (by decide) (by decide)))
  have sz11 : n0 ≤ h11.size := by rw [W11.size]; exact Z0
  have kp11 := Keep.wr (Keep.refl h0 [t]) W11 (Or.inl (List.mem_of_getElem? (i := 0) rfl))
  refine Run.aloadN d25_9 rfl rfl (pc' := 10) rfl ?_
  refine Run.iloadN d25_10 rfl (pc' := 11) rfl ?_
  refine Run.putFN d25_11 (hw _ (List.mem_of_getElem? (i := 74) rfl)) Via.refl F_t_coder_11 E_t_11 (Or.inr ⟨(hw _ (List.mem_of_getElem? (i := 20) rfl)), rfl, rfl⟩) (hw _ (List.mem_of_getElem? (i := 17) rfl)) (ty := .byte) (v' := (.int k)) (by decide) hk1 hk2 gt (pc' := 14) rfl ?_
  intro h12 W12
  have Fw12 := F_t_coder_11.same W12
  have E_t_12 := E_t_11.wr W12
  have F_t_value_12 := Fw11.other W12 (Or.inr (slot_ne (Or.inr (hw _ (List.mem_of_getElem? (i := 19) rfl))) (Or.inr (hw _ (List.mem_of_getElem? (i := 20) rfl))) (by decide) (t := (.array .byte)) (t' := .byte) (by decide) (by decide)))
  have sz12 : n0 ≤ h12.size := by rw [W12.size]; exact sz11
  have kp12 := Keep.wr kp11 W12 (Or.inl (List.mem_of_getElem? (i := 0) rfl))
  exact Run.vreturn d25_14 rfl (by decide) (by decide) ⟨rfl, kp12, F_t_value_12, Fw12⟩
theorem own_can255 {c : Int32} (h : ¬ (255 : Int32) < c) : ¬ own_can c = 0 := by unfold own_can; rw [if_neg h]; decide
theorem d22_0 : decode jdk_42_method_139_code 0 = .ok (.getstatic 38, 3) := by decide +kernel
theorem d22_3 : decode jdk_42_method_139_code 3 = .ok (.ifCond .eq 23, 3) := by decide +kernel
theorem d22_6 : decode jdk_42_method_139_code 6 = .ok (.iload_n 0, 1) := by decide +kernel
theorem d22_7 : decode jdk_42_method_139_code 7 = .ok (.invokestatic 1015, 3) := by decide +kernel
theorem d22_10 : decode jdk_42_method_139_code 10 = .ok (.ifCond .eq 16, 3) := by decide +kernel
theorem d22_13 : decode jdk_42_method_139_code 13 = .ok (.new 10, 3) := by decide +kernel
theorem d22_16 : decode jdk_42_method_139_code 16 = .ok (.dup, 1) := by decide +kernel
theorem d22_17 : decode jdk_42_method_139_code 17 = .ok (.iload_n 0, 1) := by decide +kernel
theorem d22_18 : decode jdk_42_method_139_code 18 = .ok (.invokestatic 1018, 3) := by decide +kernel
theorem d22_21 : decode jdk_42_method_139_code 21 = .ok (.iconst 0, 1) := by decide +kernel
theorem d22_22 : decode jdk_42_method_139_code 22 = .ok (.invokespecial 209, 3) := by decide +kernel
theorem d22_25 : decode jdk_42_method_139_code 25 = .ok (.areturn, 1) := by decide +kernel
theorem d22_26 : decode jdk_42_method_139_code 26 = .ok (.new 10, 3) := by decide +kernel
theorem d22_29 : decode jdk_42_method_139_code 29 = .ok (.dup, 1) := by decide +kernel
theorem d22_30 : decode jdk_42_method_139_code 30 = .ok (.iload_n 0, 1) := by decide +kernel
theorem d22_31 : decode jdk_42_method_139_code 31 = .ok (.invokestatic 1021, 3) := by decide +kernel
theorem d22_34 : decode jdk_42_method_139_code 34 = .ok (.iconst 1, 1) := by decide +kernel
theorem d22_35 : decode jdk_42_method_139_code 35 = .ok (.invokespecial 209, 3) := by decide +kernel
theorem d22_38 : decode jdk_42_method_139_code 38 = .ok (.areturn, 1) := by decide +kernel
theorem pn_22 : plainFor (⟨"java/lang/String", "valueOf", "(C)Ljava/lang/String;"⟩ : MethodName) = true := plainFor_of_name (by first | (simp [plainName, overriddenIn]; done) | decide +kernel)
theorem pd__C_Z : parseMethodDescriptor "(C)Z" = some ⟨[.char], some .boolean⟩ := by decide +kernel
theorem pd__C__B : parseMethodDescriptor "(C)[B" = some ⟨[.char], some (.array .byte)⟩ := by decide +kernel
theorem pd___BB_V : parseMethodDescriptor "([BB)V" = some ⟨[(.array .byte), .byte], none⟩ := by decide +kernel
theorem ef_con_voc (m : MethodId) (c : Int32) (cz : Int32)  : entryFrame m #[(.int c)] 1 = mkF m 0 #[.val (.int c)] [] := by first | (simp [entryFrame, mkF, argsToLocals, Value.category]; done) | rfl
set_option maxRecDepth 65536 in
set_option maxHeartbeats 40000000 in
theorem con_voc (l : Launch) (Z : State) (a0 : Array Value) (hw : ∀ d ∈ tables_1, d.before a0 Z = true) (n0 : Nat) (h0 : Heap) (Z0 : n0 ≤ h0.size) (c : Int32) (cz : Int32) (od0 : Old Z n0 h0) (SZ : Sta Z Z.heap "java/lang/String" "COMPACT_STRINGS" "Z" (.int cz)) (hcz : ¬ cz = 0) (hc255 : ¬ (255 : Int32) < c) :
    Con l Z n0 (⟨"java/lang/String", "valueOf", "(C)Ljava/lang/String;"⟩ : MethodName) jdk_42_method_139_code 1 (some (.object "java/lang/String")) ({ frames := 2, cells := 2, slots := 5, locals := 27 } : Room) #[(.int c)] h0 (Val fun w h' => ∃ t b, w = .ref t ∧ h0.size ≤ t ∧ Ext h0 h' ∧ Exa Z h' t "java/lang/String" ∧ Fld Z h' t "java/lang/String" "value" "[B" (.ref b) ∧ Fld Z h' t "java/lang/String" "coder" "B" (.int (own_coder [c])) ∧ Ary Z h' b .byte (own_enc [c])) := by
  refine Con.of_run pn_22 (fun m => ef_con_voc m c cz ) ?_
  refine Run.getS d22_0 (host := "") (Or.inl (hw _ (List.mem_of_getElem? (i := 73) rfl))) Via.refl (SZ.ext od0.2) (pc' := 3) rfl ?_
  refine Run.if_eq d22_3 (by decide) (pc' := 26) (by decide) (pa := 6) rfl (fun hc3 => ?_) (fun hc3 => ?_)
  · -- pc 3 taken: cz = (0 : Int32)
    exact absurd hc3 hcz
  · -- pc 3 not taken: ¬ cz = (0 : Int32)
    refine Run.iloadN d22_6 rfl (pc' := 7) rfl ?_
    refine Run.callS (k' := 0) (n' := 0) (as := [(.int c)]) (rest := []) (con_own_can l Z a0 hw n0 h0 Z0 c ) d22_7 (hw _ (List.mem_of_getElem? (i := 122) rfl)) (hw _ (List.mem_of_getElem? (i := 123) rfl)) (hw _ (List.mem_of_getElem? (i := 87) rfl)) (hw _ (List.mem_of_getElem? (i := 124) rfl)) (by decide) pd__C_Z rfl rfl rfl (by decide) (by show (0 : Nat) + (1 + 11) + 0 ≤ _; decide) (by decide) (by decide) (by decide) (by decide) (pc' := 10) rfl ?_
    rintro _ _ ⟨_, rfl, rfl, rfl⟩
    show Run l Z n0 "java/lang/String" jdk_42_method_139_code 1 (some (.object "java/lang/String")) "valueOf" ({ frames := 2, cells := 2, slots := 5, locals := 27 } : Room) _ 10 #[.val (.int c)] [(.int (own_can c))] h0 0 0
    refine Run.if_eq d22_10 (by decide) (pc' := 26) (by decide) (pa := 13) rfl (fun hc10 => ?_) (fun hc10 => ?_)
    · -- pc 10 taken: (own_can c) = (0 : Int32)
      exact absurd hc10 (own_can255 hc255)
    · -- pc 10 not taken: ¬ (own_can c) = (0 : Int32)
      refine Run.newO (k' := 1) (n' := 4) d22_13 (hw _ (List.mem_of_getElem? (i := 125) rfl)) (hw _ (List.mem_of_getElem? (i := 17) rfl)) (hw _ (List.mem_of_getElem? (i := 16) rfl)) (by decide) (by decide) (by decide) (by decide) (pc' := 16) rfl ?_
      intro h11 b11 g11 E11 X11 D11
      have ge_b11 : n0 ≤ b11 := by rw [g11]; exact Z0
      have bo_b11 : h0.size ≤ b11 := by rw [g11]; exact (Keep.refl h0 []).1
      have sz11 : n0 ≤ h11.size := Nat.le_trans Z0 E11.1
      have kp11 := Keep.ext (Keep.refl h0 []) E11
      have od11 := od0.ext E11
      have F_b11_value : Fld Z h11 b11 "java/lang/String" "value" "[B" .null := D11 (Or.inr (hw _ (List.mem_of_getElem? (i := 19) rfl))) (ty := (.array .byte)) (by decide)
      have F_b11_coder : Fld Z h11 b11 "java/lang/String" "coder" "B" (.int (0 : Int32)) := D11 (Or.inr (hw _ (List.mem_of_getElem? (i := 20) rfl))) (ty := .byte) (by decide)
      refine Run.dup d22_16 rfl (pc' := 17) rfl ?_
      refine Run.iloadN d22_17 rfl (pc' := 18) rfl ?_
      refine Run.callS (k' := 2) (n' := 5) (as := [(.int c)]) (rest := [(.ref b11), (.ref b11)]) (con_ltb l Z a0 hw n0 h11 sz11 c) d22_18 (hw _ (List.mem_of_getElem? (i := 126) rfl)) (hw _ (List.mem_of_getElem? (i := 127) rfl)) (hw _ (List.mem_of_getElem? (i := 87) rfl)) (hw _ (List.mem_of_getElem? (i := 128) rfl)) (by decide) pd__C__B rfl rfl rfl (by decide) (by show (2 : Nat) + (1 + 11) + 0 ≤ _; decide) (by decide) (by decide) (by decide) (by decide) (pc' := 21) rfl ?_
      rintro _ h12 ⟨_, rfl, ⟨b12, rfl, bw12, E12, P12⟩⟩
      show Run l Z n0 "java/lang/String" jdk_42_method_139_code 1 (some (.object "java/lang/String")) "valueOf" ({ frames := 2, cells := 2, slots := 5, locals := 27 } : Room) _ 21 #[.val (.int c)] [(.ref b12), (.ref b11), (.ref b11)] h12 2 5
      have ge_b12 : n0 ≤ b12 := Nat.le_trans sz11 bw12
      have bo_b12 : h0.size ≤ b12 := Nat.le_trans kp11.1 bw12
      have ne_b11_b12 : b11 ≠ b12 := Nat.ne_of_lt (Nat.lt_of_lt_of_le X11.lt bw12)
      have E_b11_12 := X11.ext E12
      have F_b11_value_12 := F_b11_value.ext E12
      have F_b11_coder_12 := F_b11_coder.ext E12
      have sz12 : n0 ≤ h12.size := Nat.le_trans sz11 E12.1
      have kp12 := Keep.ext kp11 E12
      have od12 := od11.ext E12
      refine Run.iconst (0 : Int32) d22_21 (by decide) (pc' := 22) rfl ?_
      refine Run.callN (k' := 2) (n' := 5) (a := b11) (as := [(.ref b12), (.int (0 : Int32))]) (rest := [(.ref b11)]) (con_ibb l Z a0 hw n0 h12 sz12 b11 b12 (0 : Int32) .null (.int (0 : Int32)) E_b11_12 F_b11_value_12 F_b11_coder_12 ge_b11 rfl rfl) rfl d22_22 (hw _ (List.mem_of_getElem? (i := 129) rfl)) (hw _ (List.mem_of_getElem? (i := 130) rfl)) (hw _ (List.mem_of_getElem? (i := 16) rfl)) (hw _ (List.mem_of_getElem? (i := 132) rfl)) (by decide) pd___BB_V rfl rfl rfl (by decide) (by show (1 : Nat) + (3 + 11) + 12 ≤ _; decide) (by decide) (by decide) (by decide) (by decide) (pc' := 25) rfl ?_
      rintro h13 ⟨K13, P13, R13⟩
      show Run l Z n0 "java/lang/String" jdk_42_method_139_code 1 (some (.object "java/lang/String")) "valueOf" ({ frames := 2, cells := 2, slots := 5, locals := 27 } : Room) _ 25 #[.val (.int c)] [(.ref b11)] h13 2 5
      have E_b11_13 := E_b11_12.keep K13
      have A_b12_13 := P12.keep K13 (ninS (Ne.symm ne_b11_b12) nin0)
      have sz13 : n0 ≤ h13.size := Nat.le_trans sz12 K13.1
      have kp13 := Keep.trans kp12 K13 (allS (Or.inr bo_b11) all0)
      have od13 := od12.keep K13 (allS ge_b11 all0)
      exact Run.areturn d22_25 (ty := (.object "java/lang/String")) rfl rfl rfl (by decide) (by decide) ⟨_, rfl, b11, b12, rfl, bo_b11, Keep.toExt kp13, E_b11_13, P13, (by rw [(own_can1 hc10).1]; exact R13), (by rw [(own_can1 hc10).2]; exact A_b12_13)⟩
def own_emp (cs : List Int32) : Int32 := if cs.length = 0 then 1 else 0
theorem own_el0 (cs : List Int32) : (own_enc cs).length = 0 ↔ cs.length = 0 := by rw [own_enc_len]; split <;> omega
theorem own_em1 {cs : List Int32} (hb : cs.length < 2 ^ 29) (h : Int32.ofNat (own_enc cs).length = (0 : Int32)) : own_emp cs = nar .boolean 1 := by
  have e := own_enc_len cs
  have h1 := own_ofn (i := (own_enc cs).length) (by rw [e]; split <;> omega); rw [h, own_z] at h1
  unfold own_emp; rw [if_pos ((own_el0 cs).mp (by omega))]; rfl
theorem own_em0 {cs : List Int32} (hb : cs.length < 2 ^ 29) (h : ¬ Int32.ofNat (own_enc cs).length = (0 : Int32)) : own_emp cs = nar .boolean 0 := by
  unfold own_emp; rw [if_neg (fun z => h (by rw [(own_el0 cs).mpr z]; rfl))]; rfl
theorem d10_0 : decode jdk_42_method_55_code 0 = .ok (.aload_n 0, 1) := by decide +kernel
theorem d10_1 : decode jdk_42_method_55_code 1 = .ok (.getfield 9, 3) := by decide +kernel
theorem d10_4 : decode jdk_42_method_55_code 4 = .ok (.arraylength, 1) := by decide +kernel
theorem d10_5 : decode jdk_42_method_55_code 5 = .ok (.ifCond .ne 7, 3) := by decide +kernel
theorem d10_8 : decode jdk_42_method_55_code 8 = .ok (.iconst 1, 1) := by decide +kernel
theorem d10_9 : decode jdk_42_method_55_code 9 = .ok (.goto 4, 3) := by decide +kernel
theorem d10_12 : decode jdk_42_method_55_code 12 = .ok (.iconst 0, 1) := by decide +kernel
theorem d10_13 : decode jdk_42_method_55_code 13 = .ok (.ireturn, 1) := by decide +kernel
theorem pn_10 : plainFor (⟨"java/lang/String", "isEmpty", "()Z"⟩ : MethodName) = true := plainFor_of_name (by first | (simp [plainName, overriddenIn]; done) | decide +kernel)
theorem ef_con_emp (m : MethodId) (t b : Addr) (cs : List Int32)  : entryFrame m #[(.ref t)] 1 = mkF m 0 #[.val (.ref t)] [] := by first | (simp [entryFrame, mkF, argsToLocals, Value.category]; done) | rfl
set_option maxRecDepth 65536 in
set_option maxHeartbeats 40000000 in
theorem con_emp (l : Launch) (Z : State) (a0 : Array Value) (hw : ∀ d ∈ tables_1, d.before a0 Z = true) (n0 : Nat) (h0 : Heap) (Z0 : n0 ≤ h0.size) (t b : Addr) (cs : List Int32) (FV : Fld Z h0 t "java/lang/String" "value" "[B" (.ref b)) (AB : Ary Z h0 b .byte (own_enc cs)) (hn : cs.length ≤ 2) :
    Con l Z n0 (⟨"java/lang/String", "isEmpty", "()Z"⟩ : MethodName) jdk_42_method_55_code 1 (some .boolean) ({ frames := 0, cells := 0, slots := 0, locals := 0 } : Room) #[(.ref t)] h0 (Val (PV (.int (own_emp cs)) h0)) := by
  refine Con.of_run pn_10 (fun m => ef_con_emp m t b cs ) ?_
  refine Run.aloadN d10_0 rfl rfl (pc' := 1) rfl ?_
  refine Run.getF d10_1 (host := "") (Or.inl (hw _ (List.mem_of_getElem? (i := 57) rfl))) Via.refl FV (pc' := 4) rfl ?_
  refine Run.alen (z := (Int32.ofNat (own_enc cs).length)) d10_4 AB rfl (pc' := 5) rfl ?_
  refine Run.if_ne d10_5 (by decide) (pc' := 12) (by decide) (pa := 8) rfl (fun hc5 => ?_) (fun hc5 => ?_)
  · -- pc 5 taken: ¬ (Int32.ofNat (own_enc cs).length) = (0 : Int32)
    refine Run.iconst (0 : Int32) d10_12 (by decide) (pc' := 13) rfl ?_
    exact Run.nreturn d10_13 (ty := .boolean) rfl (by simp) (by decide) (by decide) ⟨_, rfl, congrArg Value.int (own_em0 (by omega) hc5), rfl⟩
  · -- pc 5 not taken: (Int32.ofNat (own_enc cs).length) = (0 : Int32)
    refine Run.iconst (1 : Int32) d10_8 (by decide) (pc' := 9) rfl ?_
    refine Run.goto d10_9 (by decide) (pc' := 13) (by decide) ?_
    exact Run.nreturn d10_13 (ty := .boolean) rfl (by simp) (by decide) (by decide) ⟨_, rfl, congrArg Value.int (own_em1 (by omega) hc5), rfl⟩
theorem own_fldI {Z : State} {h : Heap} {a : Addr} {C n d : String} {v w : Value} (F : Fld Z h a C n d v) (G : Fld Z h a C n d w) : v = w := by
  by_cases q : v = w
  · exact q
  · exact absurd rfl (Fld.ne F G q)
theorem own_aryI {Z : State} {h : Heap} {a : Addr} {ty ty' : FieldType} {vs ws : List Value} (A : Ary Z h a ty vs) (B : Ary Z h a ty' ws) : vs = ws := by
  obtain ⟨c, A1, r⟩ := A; obtain ⟨c', B1, r'⟩ := B
  have e : c = c' := Option.some.inj (A1.1.symm.trans B1.1)
  subst e; exact r.symm.trans r'
theorem own_extD {cs ds : List Int32} (hl : cs.length = ds.length) (h : ∀ i, i < cs.length → cs.getD i 0 = ds.getD i 0) : cs = ds := by
  apply List.ext_getElem hl
  intro i h1 h2; have := h i h1; rwa [own_gD h1, own_gD h2] at this
theorem own_inj {cs ds : List Int32} (hc : own_chr cs) (hd : own_chr ds) (h1 : own_coder cs = own_coder ds) (h2 : own_enc cs = own_enc ds) : cs = ds := by
  by_cases p : own_coder cs = 0
  · have pc := own_cod0 p; have pd := own_cod0 (h1 ▸ p)
    rw [own_encP pc, own_encP pd] at h2
    have hl : cs.length = ds.length := by have := congrArg List.length h2; simpa [own_by] using this
    refine own_extD hl fun i hi => ?_
    have e := own_by_get hi; rw [h2, own_by_get (hl ▸ hi)] at e
    have e2 : nar .byte (ds.getD i 0) = nar .byte (cs.getD i 0) := by injection e with e; injection e
    rw [← own_latc (own_chrD hc hi).1 (own_pfx_all pc hi), ← e2, own_latc (own_chrD hd (hl ▸ hi)).1 (own_pfx_all pd (hl ▸ hi))]
  · have pc := own_cod1 p; have pd := own_cod1 (h1 ▸ p)
    rw [own_encN pc, own_encN pd] at h2
    have hl : cs.length = ds.length := by have := congrArg List.length h2; rw [own_u16_len, own_u16_len] at this; omega
    refine own_extD hl fun i hi => ?_
    have e := own_u16_get hi; rw [h2] at e; have e' := own_u16_get (hl ▸ hi : i < ds.length)
    have e0 : own_b0 (ds.getD i 0) = own_b0 (cs.getD i 0) := by have z := e'.1.symm.trans e.1; injection z with z; injection z
    have e1 : own_b1 (ds.getD i 0) = own_b1 (cs.getD i 0) := by have z := e'.2.symm.trans e.2; injection z with z; injection z
    rw [← own_gcb (own_chrD hc hi), ← e0, ← e1, own_gcb (own_chrD hd (hl ▸ hi))]
def own_encI (cs : List Int32) : List Int32 := if own_pfx cs = cs.length then cs.map (fun c => nar .byte c) else cs.flatMap fun c => [own_b0 c, own_b1 c]
theorem own_encM (cs : List Int32) : own_enc cs = (own_encI cs).map Value.int := by
  unfold own_enc own_encI; split
  · simp [own_by]
  · simp [own_u16, List.map_flatMap]
theorem own_encIl (cs : List Int32) : (own_encI cs).length ≤ 2 * cs.length := by
  have := own_enc_len cs; rw [own_encM, List.length_map] at this; rw [this]; split <;> omega
def own_leq (xs ys : List Int32) : Int32 := if xs = ys then 1 else 0
def own_eq (cs ds : List Int32) : Int32 := if cs = ds then 1 else 0
theorem own_gm2 {xs : List Int32} {i : Nat} (h : i < xs.length) : (xs.map Value.int)[i]? = some (Value.int (xs.getD i 0)) := by simp [List.getD_eq_getElem?_getD, h]
theorem own_leq0 {cs ds : List Int32} (h : own_leq (own_encI cs) (own_encI ds) = 0) : own_eq cs ds = 0 := by
  unfold own_eq; split
  · rename_i e; rw [e] at h; unfold own_leq at h; rw [if_pos rfl] at h; exact absurd h (by decide)
  · rfl
theorem own_leq1 {cs ds : List Int32} (hc : own_chr cs) (hd : own_chr ds) (h1 : own_coder cs = own_coder ds) (h : ¬ own_leq (own_encI cs) (own_encI ds) = 0) : own_eq cs ds = 1 := by
  unfold own_leq at h; split at h
  · rename_i e; have : own_enc cs = own_enc ds := by rw [own_encM, own_encM, e]
    unfold own_eq; rw [if_pos (own_inj hc hd h1 this)]
  · exact absurd rfl h
theorem own_ofe {a b : Nat} (ha : a < 2 ^ 31) (hb : b < 2 ^ 31) (h : Int32.ofNat a = Int32.ofNat b) : a = b := by
  have h1 := own_ofn ha; have h2 := own_ofn hb; rw [h] at h1; omega
theorem d39_0 : decode jdk_43_method_13_code 0 = .ok (.aload_n 0, 1) := by decide +kernel
theorem d39_1 : decode jdk_43_method_13_code 1 = .ok (.arraylength, 1) := by decide +kernel
theorem d39_2 : decode jdk_43_method_13_code 2 = .ok (.aload_n 1, 1) := by decide +kernel
theorem d39_3 : decode jdk_43_method_13_code 3 = .ok (.arraylength, 1) := by decide +kernel
theorem d39_4 : decode jdk_43_method_13_code 4 = .ok (.if_icmp .ne 30, 3) := by decide +kernel
theorem d39_7 : decode jdk_43_method_13_code 7 = .ok (.iconst 0, 1) := by decide +kernel
theorem d39_8 : decode jdk_43_method_13_code 8 = .ok (.istore_n 2, 1) := by decide +kernel
theorem d39_9 : decode jdk_43_method_13_code 9 = .ok (.iload_n 2, 1) := by decide +kernel
theorem d39_10 : decode jdk_43_method_13_code 10 = .ok (.aload_n 0, 1) := by decide +kernel
theorem d39_11 : decode jdk_43_method_13_code 11 = .ok (.arraylength, 1) := by decide +kernel
theorem d39_12 : decode jdk_43_method_13_code 12 = .ok (.if_icmp .ge 20, 3) := by decide +kernel
theorem d39_15 : decode jdk_43_method_13_code 15 = .ok (.aload_n 0, 1) := by decide +kernel
theorem d39_16 : decode jdk_43_method_13_code 16 = .ok (.iload_n 2, 1) := by decide +kernel
theorem d39_17 : decode jdk_43_method_13_code 17 = .ok (.baload, 1) := by decide +kernel
theorem d39_18 : decode jdk_43_method_13_code 18 = .ok (.aload_n 1, 1) := by decide +kernel
theorem d39_19 : decode jdk_43_method_13_code 19 = .ok (.iload_n 2, 1) := by decide +kernel
theorem d39_20 : decode jdk_43_method_13_code 20 = .ok (.baload, 1) := by decide +kernel
theorem d39_21 : decode jdk_43_method_13_code 21 = .ok (.if_icmp .eq 5, 3) := by decide +kernel
theorem d39_24 : decode jdk_43_method_13_code 24 = .ok (.iconst 0, 1) := by decide +kernel
theorem d39_25 : decode jdk_43_method_13_code 25 = .ok (.ireturn, 1) := by decide +kernel
theorem d39_26 : decode jdk_43_method_13_code 26 = .ok (.iinc 2 1, 3) := by decide +kernel
theorem d39_29 : decode jdk_43_method_13_code 29 = .ok (.goto (-20), 3) := by decide +kernel
theorem d39_32 : decode jdk_43_method_13_code 32 = .ok (.iconst 1, 1) := by decide +kernel
theorem d39_33 : decode jdk_43_method_13_code 33 = .ok (.ireturn, 1) := by decide +kernel
theorem d39_34 : decode jdk_43_method_13_code 34 = .ok (.iconst 0, 1) := by decide +kernel
theorem d39_35 : decode jdk_43_method_13_code 35 = .ok (.ireturn, 1) := by decide +kernel
theorem pn_39 : plainFor (⟨"java/lang/StringLatin1", "equals", "([B[B)Z"⟩ : MethodName) = true := plainFor_of_name (by first | (simp [plainName, overriddenIn]; done) | decide +kernel)
theorem ef_con_leq (m : MethodId) (b d : Addr) (xs ys : List Int32)  : entryFrame m #[(.ref b), (.ref d)] 3 = mkF m 0 #[.val (.ref b), .val (.ref d), .unset] [] := by first | (simp [entryFrame, mkF, argsToLocals, Value.category]; done) | rfl
set_option maxRecDepth 65536 in
set_option maxHeartbeats 40000000 in
theorem con_leq (l : Launch) (Z : State) (a0 : Array Value) (hw : ∀ d ∈ tables_1, d.before a0 Z = true) (n0 : Nat) (h0 : Heap) (Z0 : n0 ≤ h0.size) (b d : Addr) (xs ys : List Int32) (AX : Ary Z h0 b .byte (xs.map Value.int)) (AY : Ary Z h0 d .byte (ys.map Value.int)) (hx : xs.length < 2 ^ 30) (hy : ys.length < 2 ^ 30) :
    Con l Z n0 (⟨"java/lang/StringLatin1", "equals", "([B[B)Z"⟩ : MethodName) jdk_43_method_13_code 3 (some .boolean) ({ frames := 0, cells := 0, slots := 0, locals := 0 } : Room) #[(.ref b), (.ref d)] h0 (Val (PV (.int (own_leq xs ys)) h0)) := by
  refine Con.of_run pn_39 (fun m => ef_con_leq m b d xs ys ) ?_
  refine Run.aloadN d39_0 rfl rfl (pc' := 1) rfl ?_
  refine Run.alen (z := (Int32.ofNat xs.length)) d39_1 AX (by rw [List.length_map] <;> rfl) (pc' := 2) rfl ?_
  refine Run.aloadN d39_2 rfl rfl (pc' := 3) rfl ?_
  refine Run.alen (z := (Int32.ofNat ys.length)) d39_3 AY (by rw [List.length_map] <;> rfl) (pc' := 4) rfl ?_
  refine Run.icmp_ne d39_4 (by decide) (pc' := 34) (by decide) (pa := 7) rfl (fun hc4 => ?_) (fun hc4 => ?_)
  · -- pc 4 taken: ¬ (Int32.ofNat xs.length) = (Int32.ofNat ys.length)
    refine Run.iconst (0 : Int32) d39_34 (by decide) (pc' := 35) rfl ?_
    exact Run.nreturn d39_35 (ty := .boolean) rfl (by simp) (by decide) (by decide) ⟨_, rfl, congrArg Value.int (by unfold own_leq; rw [if_neg (fun e => hc4 (by rw [e]))]; rfl), rfl⟩
  · -- pc 4 not taken: (Int32.ofNat xs.length) = (Int32.ofNat ys.length)
    refine Run.iconst (0 : Int32) d39_7 (by decide) (pc' := 8) rfl ?_
    refine Run.istoreN (l' := #[.val (.ref b), .val (.ref d), .val (.int (0 : Int32))]) d39_8 rfl (pc' := 9) rfl ?_
    have hle : xs.length = ys.length := own_ofe (by omega) (by omega) hc4
    have loop : ∀ t_ i : Nat, t_ + i = xs.length → (∀ j, j < i → xs.getD j 0 = ys.getD j 0) → Run l Z n0 "java/lang/StringLatin1" jdk_43_method_13_code 3 (some .boolean) "equals" ({ frames := 0, cells := 0, slots := 0, locals := 0 } : Room) (Val (PV (.int (own_leq xs ys)) h0)) 9 #[.val (.ref b), .val (.ref d), .val (.int (Int32.ofNat i))] [] h0 0 0 := by
      intro t_
      induction t_ with
      | zero =>
        intro i hti hpr
        refine Run.iloadN d39_9 rfl (pc' := 10) rfl ?_
        refine Run.aloadN d39_10 rfl rfl (pc' := 11) rfl ?_
        refine Run.alen (z := (Int32.ofNat xs.length)) d39_11 AX (by rw [List.length_map] <;> rfl) (pc' := 12) rfl ?_
        refine Run.icmp_ge d39_12 (by decide) (pc' := 32) (by decide) (pa := 15) rfl (fun hc12 => ?_) (fun hc12 => ?_)
        · -- pc 12 taken: ¬ (Int32.ofNat i) < (Int32.ofNat xs.length)
          refine Run.iconst (1 : Int32) d39_32 (by decide) (pc' := 33) rfl ?_
          exact Run.nreturn d39_33 (ty := .boolean) rfl (by simp) (by decide) (by decide) ⟨_, rfl, congrArg Value.int (by unfold own_leq; rw [if_pos (own_extD hle (fun j hj => hpr j (by omega)))]; rfl), rfl⟩
        · -- pc 12 not taken: (Int32.ofNat i) < (Int32.ofNat xs.length)
          exact absurd ((own_lt (by omega) (by omega)).mp hc12) (by omega)
      | succ t_ ih =>
        intro i hti hpr
        refine Run.iloadN d39_9 rfl (pc' := 10) rfl ?_
        refine Run.aloadN d39_10 rfl rfl (pc' := 11) rfl ?_
        refine Run.alen (z := (Int32.ofNat xs.length)) d39_11 AX (by rw [List.length_map] <;> rfl) (pc' := 12) rfl ?_
        refine Run.icmp_ge d39_12 (by decide) (pc' := 32) (by decide) (pa := 15) rfl (fun hc12 => ?_) (fun hc12 => ?_)
        · -- pc 12 taken: ¬ (Int32.ofNat i) < (Int32.ofNat xs.length)
          exact absurd ((own_lt (by omega) (by omega)).mpr (by omega)) hc12
        · -- pc 12 not taken: (Int32.ofNat i) < (Int32.ofNat xs.length)
          refine Run.aloadN d39_15 rfl rfl (pc' := 16) rfl ?_
          refine Run.iloadN d39_16 rfl (pc' := 17) rfl ?_
          refine Run.baload (i := i) (v := (.int (xs.getD i 0))) d39_17 AX (own_ofn (by omega)) (own_gm2 (by omega)) (pc' := 18) rfl ?_
          refine Run.aloadN d39_18 rfl rfl (pc' := 19) rfl ?_
          refine Run.iloadN d39_19 rfl (pc' := 20) rfl ?_
          refine Run.baload (i := i) (v := (.int (ys.getD i 0))) d39_20 AY (own_ofn (by omega)) (own_gm2 (by omega)) (pc' := 21) rfl ?_
          refine Run.icmp_eq d39_21 (by decide) (pc' := 26) (by decide) (pa := 24) rfl (fun hc21 => ?_) (fun hc21 => ?_)
          · -- pc 21 taken: (xs.getD i 0) = (ys.getD i 0)
            refine Run.iinc (1 : Int32) #[.val (.ref b), .val (.ref d), .val (.int ((Int32.ofNat i) + (1 : Int32)))] d39_26 (by decide) rfl rfl (pc' := 29) rfl ?_
            refine Run.goto d39_29 (by decide) (pc' := 9) (by decide) ?_
            rw [own_inc]
            exact ih (i + 1) (by omega) (fun j hj => by by_cases z : j = i; rw [z]; exact hc21; exact hpr j (by omega))
          · -- pc 21 not taken: ¬ (xs.getD i 0) = (ys.getD i 0)
            refine Run.iconst (0 : Int32) d39_24 (by decide) (pc' := 25) rfl ?_
            exact Run.nreturn d39_25 (ty := .boolean) rfl (by simp) (by decide) (by decide) ⟨_, rfl, congrArg Value.int (by unfold own_leq; rw [if_neg (fun e => hc21 (by rw [e]))]; rfl), rfl⟩
    exact loop xs.length 0 (by omega) (fun j hj => absurd hj (Nat.not_lt_zero j))
theorem own_neq {cs ds : List Int32} (h : ¬ own_coder cs = own_coder ds) : own_eq cs ds = 0 := by unfold own_eq; rw [if_neg (fun e => h (by rw [e]))]
theorem own_same {Z : State} {h : Heap} {t u b d : Addr} {cs ds : List Int32} (hc : own_chr cs) (hd : own_chr ds) (e : (Value.ref t) = (Value.ref u)) (F1 : Fld Z h t "java/lang/String" "value" "[B" (.ref b)) (F2 : Fld Z h u "java/lang/String" "value" "[B" (.ref d)) (G1 : Fld Z h t "java/lang/String" "coder" "B" (.int (own_coder cs))) (G2 : Fld Z h u "java/lang/String" "coder" "B" (.int (own_coder ds))) (A1 : Ary Z h b .byte (own_enc cs)) (A2 : Ary Z h d .byte (own_enc ds)) : own_eq cs ds = 1 := by
  obtain rfl : t = u := by injection e
  have e1 := own_fldI F1 F2; have e2 := own_fldI G1 G2
  obtain rfl : b = d := by injection e1
  have e3 : own_coder cs = own_coder ds := by injection e2
  unfold own_eq; rw [if_pos (own_inj hc hd e3 (own_aryI A1 A2))]
theorem d21_0 : decode jdk_42_method_66_code 0 = .ok (.aload_n 0, 1) := by decide +kernel
theorem d21_1 : decode jdk_42_method_66_code 1 = .ok (.aload_n 1, 1) := by decide +kernel
theorem d21_2 : decode jdk_42_method_66_code 2 = .ok (.if_acmp .ne 5, 3) := by decide +kernel
theorem d21_5 : decode jdk_42_method_66_code 5 = .ok (.iconst 1, 1) := by decide +kernel
theorem d21_6 : decode jdk_42_method_66_code 6 = .ok (.ireturn, 1) := by decide +kernel
theorem d21_7 : decode jdk_42_method_66_code 7 = .ok (.aload_n 1, 1) := by decide +kernel
theorem d21_8 : decode jdk_42_method_66_code 8 = .ok (.instanceof 10, 3) := by decide +kernel
theorem d21_11 : decode jdk_42_method_66_code 11 = .ok (.ifCond .eq 43, 3) := by decide +kernel
theorem d21_14 : decode jdk_42_method_66_code 14 = .ok (.aload_n 1, 1) := by decide +kernel
theorem d21_15 : decode jdk_42_method_66_code 15 = .ok (.checkcast 10, 3) := by decide +kernel
theorem d21_18 : decode jdk_42_method_66_code 18 = .ok (.astore_n 2, 1) := by decide +kernel
theorem d21_19 : decode jdk_42_method_66_code 19 = .ok (.getstatic 38, 3) := by decide +kernel
theorem d21_22 : decode jdk_42_method_66_code 22 = .ok (.ifCond .eq 14, 3) := by decide +kernel
theorem d21_25 : decode jdk_42_method_66_code 25 = .ok (.aload_n 0, 1) := by decide +kernel
theorem d21_26 : decode jdk_42_method_66_code 26 = .ok (.getfield 15, 3) := by decide +kernel
theorem d21_29 : decode jdk_42_method_66_code 29 = .ok (.aload_n 2, 1) := by decide +kernel
theorem d21_30 : decode jdk_42_method_66_code 30 = .ok (.getfield 15, 3) := by decide +kernel
theorem d21_33 : decode jdk_42_method_66_code 33 = .ok (.if_icmp .ne 21, 3) := by decide +kernel
theorem d21_36 : decode jdk_42_method_66_code 36 = .ok (.aload_n 0, 1) := by decide +kernel
theorem d21_37 : decode jdk_42_method_66_code 37 = .ok (.getfield 9, 3) := by decide +kernel
theorem d21_40 : decode jdk_42_method_66_code 40 = .ok (.aload_n 2, 1) := by decide +kernel
theorem d21_41 : decode jdk_42_method_66_code 41 = .ok (.getfield 9, 3) := by decide +kernel
theorem d21_44 : decode jdk_42_method_66_code 44 = .ok (.invokestatic 541, 3) := by decide +kernel
theorem d21_47 : decode jdk_42_method_66_code 47 = .ok (.ifCond .eq 7, 3) := by decide +kernel
theorem d21_50 : decode jdk_42_method_66_code 50 = .ok (.iconst 1, 1) := by decide +kernel
theorem d21_51 : decode jdk_42_method_66_code 51 = .ok (.goto 4, 3) := by decide +kernel
theorem d21_54 : decode jdk_42_method_66_code 54 = .ok (.iconst 0, 1) := by decide +kernel
theorem d21_55 : decode jdk_42_method_66_code 55 = .ok (.ireturn, 1) := by decide +kernel
theorem pn_21 : plainFor (⟨"java/lang/String", "equals", "(Ljava/lang/Object;)Z"⟩ : MethodName) = true := plainFor_of_name (by first | (simp [plainName, overriddenIn]; done) | decide +kernel)
theorem pd___B_B_Z : parseMethodDescriptor "([B[B)Z" = some ⟨[(.array .byte), (.array .byte)], some .boolean⟩ := by decide +kernel
theorem ef_con_seq (m : MethodId) (t b u d : Addr) (cs ds : List Int32) (cz : Int32)  : entryFrame m #[(.ref t), (.ref u)] 3 = mkF m 0 #[.val (.ref t), .val (.ref u), .unset] [] := by first | (simp [entryFrame, mkF, argsToLocals, Value.category]; done) | rfl
set_option maxRecDepth 65536 in
set_option maxHeartbeats 40000000 in
theorem con_seq (l : Launch) (Z : State) (a0 : Array Value) (hw : ∀ d ∈ tables_1, d.before a0 Z = true) (n0 : Nat) (h0 : Heap) (Z0 : n0 ≤ h0.size) (t b u d : Addr) (cs ds : List Int32) (cz : Int32) (od0 : Old Z n0 h0) (SZ : Sta Z Z.heap "java/lang/String" "COMPACT_STRINGS" "Z" (.int cz)) (hcz : ¬ cz = 0) (E1 : Exa Z h0 t "java/lang/String") (FV : Fld Z h0 t "java/lang/String" "value" "[B" (.ref b)) (FC : Fld Z h0 t "java/lang/String" "coder" "B" (.int (own_coder cs))) (AB : Ary Z h0 b .byte (own_enc cs)) (E2 : Exa Z h0 u "java/lang/String") (FV2 : Fld Z h0 u "java/lang/String" "value" "[B" (.ref d)) (FC2 : Fld Z h0 u "java/lang/String" "coder" "B" (.int (own_coder ds))) (AB2 : Ary Z h0 d .byte (own_enc ds)) (hn : cs.length ≤ 2) (hch : own_chr cs) (hn2 : ds.length ≤ 2) (hch2 : own_chr ds) :
    Con l Z n0 (⟨"java/lang/String", "equals", "(Ljava/lang/Object;)Z"⟩ : MethodName) jdk_42_method_66_code 3 (some .boolean) ({ frames := 1, cells := 0, slots := 0, locals := 14 } : Room) #[(.ref t), (.ref u)] h0 (Val (PV (.int (own_eq cs ds)) h0)) := by
  refine Con.of_run pn_21 (fun m => ef_con_seq m t b u d cs ds cz ) ?_
  refine Run.aloadN d21_0 rfl rfl (pc' := 1) rfl ?_
  refine Run.aloadN d21_1 rfl rfl (pc' := 2) rfl ?_
  refine Run.acmp_ne d21_2 rfl rfl (by decide) (pc' := 7) (by decide) (pa := 5) rfl (fun hc2 => ?_) (fun hc2 => ?_)
  · -- pc 2 taken: ¬ (.ref t) = (.ref u)
    refine Run.aloadN d21_7 rfl rfl (pc' := 8) rfl ?_
    refine Run.instY d21_8 (hw _ (List.mem_of_getElem? (i := 125) rfl)) (Ins.self E2) (pc' := 11) rfl ?_
    refine Run.if_eq d21_11 (by decide) (pc' := 54) (by decide) (pa := 14) rfl (fun hc11 => ?_) (fun hc11 => ?_)
    · -- pc 11 taken: (1 : Int32) = (0 : Int32)
      exact absurd hc11 (by decide)
    · -- pc 11 not taken: ¬ (1 : Int32) = (0 : Int32)
      refine Run.aloadN d21_14 rfl rfl (pc' := 15) rfl ?_
      refine Run.castY d21_15 (hw _ (List.mem_of_getElem? (i := 125) rfl)) (Ins.self E2) (pc' := 18) rfl ?_
      refine Run.astoreN (l' := #[.val (.ref t), .val (.ref u), .val (.ref u)]) d21_18 rfl rfl (pc' := 19) rfl ?_
      refine Run.getS d21_19 (host := "") (Or.inl (hw _ (List.mem_of_getElem? (i := 73) rfl))) Via.refl (SZ.ext od0.2) (pc' := 22) rfl ?_
      refine Run.if_eq d21_22 (by decide) (pc' := 36) (by decide) (pa := 25) rfl (fun hc22 => ?_) (fun hc22 => ?_)
      · -- pc 22 taken: cz = (0 : Int32)
        exact absurd hc22 hcz
      · -- pc 22 not taken: ¬ cz = (0 : Int32)
        refine Run.aloadN d21_25 rfl rfl (pc' := 26) rfl ?_
        refine Run.getF d21_26 (host := "") (Or.inl (hw _ (List.mem_of_getElem? (i := 74) rfl))) Via.refl FC (pc' := 29) rfl ?_
        refine Run.aloadN d21_29 rfl rfl (pc' := 30) rfl ?_
        refine Run.getF d21_30 (host := "") (Or.inl (hw _ (List.mem_of_getElem? (i := 74) rfl))) Via.refl FC2 (pc' := 33) rfl ?_
        refine Run.icmp_ne d21_33 (by decide) (pc' := 54) (by decide) (pa := 36) rfl (fun hc33 => ?_) (fun hc33 => ?_)
        · -- pc 33 taken: ¬ (own_coder cs) = (own_coder ds)
          refine Run.iconst (0 : Int32) d21_54 (by decide) (pc' := 55) rfl ?_
          exact Run.nreturn d21_55 (ty := .boolean) rfl (by simp) (by decide) (by decide) ⟨_, rfl, congrArg Value.int (by rw [own_neq hc33]; rfl), rfl⟩
        · -- pc 33 not taken: (own_coder cs) = (own_coder ds)
          refine Run.aloadN d21_36 rfl rfl (pc' := 37) rfl ?_
          refine Run.getF d21_37 (host := "") (Or.inl (hw _ (List.mem_of_getElem? (i := 57) rfl))) Via.refl FV (pc' := 40) rfl ?_
          refine Run.aloadN d21_40 rfl rfl (pc' := 41) rfl ?_
          refine Run.getF d21_41 (host := "") (Or.inl (hw _ (List.mem_of_getElem? (i := 57) rfl))) Via.refl FV2 (pc' := 44) rfl ?_
          refine Run.callS (k' := 0) (n' := 0) (as := [(.ref b), (.ref d)]) (rest := []) (con_leq l Z a0 hw n0 h0 Z0  b d (own_encI cs) (own_encI ds) (own_encM cs ▸ AB) (own_encM ds ▸ AB2) (by have := own_encIl cs; omega) (by have := own_encIl ds; omega)) d21_44 (hw _ (List.mem_of_getElem? (i := 195) rfl)) (hw _ (List.mem_of_getElem? (i := 196) rfl)) (hw _ (List.mem_of_getElem? (i := 87) rfl)) (hw _ (List.mem_of_getElem? (i := 197) rfl)) (by decide) pd___B_B_Z rfl rfl rfl (by decide) (by show (0 : Nat) + (3 + 11) + 0 ≤ _; decide) (by decide) (by decide) (by decide) (by decide) (pc' := 47) rfl ?_
          rintro _ _ ⟨_, rfl, rfl, rfl⟩
          show Run l Z n0 "java/lang/String" jdk_42_method_66_code 3 (some .boolean) "equals" ({ frames := 1, cells := 0, slots := 0, locals := 14 } : Room) _ 47 #[.val (.ref t), .val (.ref u), .val (.ref u)] [(.int (own_leq (own_encI cs) (own_encI ds)))] h0 0 0
          refine Run.if_eq d21_47 (by decide) (pc' := 54) (by decide) (pa := 50) rfl (fun hc47 => ?_) (fun hc47 => ?_)
          · -- pc 47 taken: (own_leq (own_encI cs) (own_encI ds)) = (0 : Int32)
            refine Run.iconst (0 : Int32) d21_54 (by decide) (pc' := 55) rfl ?_
            exact Run.nreturn d21_55 (ty := .boolean) rfl (by simp) (by decide) (by decide) ⟨_, rfl, congrArg Value.int (by rw [own_leq0 hc47]; rfl), rfl⟩
          · -- pc 47 not taken: ¬ (own_leq (own_encI cs) (own_encI ds)) = (0 : Int32)
            refine Run.iconst (1 : Int32) d21_50 (by decide) (pc' := 51) rfl ?_
            refine Run.goto d21_51 (by decide) (pc' := 55) (by decide) ?_
            exact Run.nreturn d21_55 (ty := .boolean) rfl (by simp) (by decide) (by decide) ⟨_, rfl, congrArg Value.int (by rw [own_leq1 hch hch2 hc33 hc47]; rfl), rfl⟩
  · -- pc 2 not taken: (.ref t) = (.ref u)
    refine Run.iconst (1 : Int32) d21_5 (by decide) (pc' := 6) rfl ?_
    exact Run.nreturn d21_6 (ty := .boolean) rfl (by simp) (by decide) (by decide) ⟨_, rfl, congrArg Value.int (by rw [own_same hch hch2 hc2 FV FV2 FC FC2 AB AB2]; rfl), rfl⟩
def own_canI (p1 : Int32) : Int32 := (if p1 < (0 : Int32) then (0 : Int32) else (if (255 : Int32) < p1 then (0 : Int32) else (1 : Int32)))
theorem d17_0 : decode jdk_43_method_4_code 0 = .ok (.iload_n 0, 1) := by decide +kernel
theorem d17_1 : decode jdk_43_method_4_code 1 = .ok (.ifCond .lt 14, 3) := by decide +kernel
theorem d17_4 : decode jdk_43_method_4_code 4 = .ok (.iload_n 0, 1) := by decide +kernel
theorem d17_5 : decode jdk_43_method_4_code 5 = .ok (.sipush 255, 3) := by decide +kernel
theorem d17_8 : decode jdk_43_method_4_code 8 = .ok (.if_icmp .gt 7, 3) := by decide +kernel
theorem d17_11 : decode jdk_43_method_4_code 11 = .ok (.iconst 1, 1) := by decide +kernel
theorem d17_12 : decode jdk_43_method_4_code 12 = .ok (.goto 4, 3) := by decide +kernel
theorem d17_15 : decode jdk_43_method_4_code 15 = .ok (.iconst 0, 1) := by decide +kernel
theorem d17_16 : decode jdk_43_method_4_code 16 = .ok (.ireturn, 1) := by decide +kernel
theorem pn_17 : plainFor (⟨"java/lang/StringLatin1", "canEncode", "(I)Z"⟩ : MethodName) = true := plainFor_of_name (by first | (simp [plainName, overriddenIn]; done) | decide +kernel)
theorem ef_con_own_canI (m : MethodId) (p1 : Int32)  : entryFrame m #[(.int p1)] 1 = mkF m 0 #[.val (.int p1)] [] := by first | (simp [entryFrame, mkF, argsToLocals, Value.category]; done) | rfl
set_option maxRecDepth 65536 in
set_option maxHeartbeats 40000000 in
theorem con_own_canI (l : Launch) (Z : State) (a0 : Array Value) (hw : ∀ d ∈ tables_1, d.before a0 Z = true) (n0 : Nat) (h0 : Heap) (Z0 : n0 ≤ h0.size) (p1 : Int32)  :
    Con l Z n0 (⟨"java/lang/StringLatin1", "canEncode", "(I)Z"⟩ : MethodName) jdk_43_method_4_code 1 (some .boolean) ({ frames := 0, cells := 0, slots := 0, locals := 0 } : Room) #[(.int p1)] h0 (Val (PV (.int (own_canI p1)) h0)) := by
  refine Con.of_run pn_17 (fun m => ef_con_own_canI m p1 ) ?_
  refine Run.iloadN d17_0 rfl (pc' := 1) rfl ?_
  refine Run.if_lt d17_1 (by decide) (pc' := 15) (by decide) (pa := 4) rfl (fun hc1 => ?_) (fun hc1 => ?_)
  · -- pc 1 taken: p1 < (0 : Int32)
    refine Run.iconst (0 : Int32) d17_15 (by decide) (pc' := 16) rfl ?_
    exact Run.nreturn d17_16 (ty := .boolean) rfl (by simp) (by decide) (by decide) ⟨_, rfl, congrArg Value.int (by unfold own_canI; rw [if_pos hc1] <;> rfl), rfl⟩
  · -- pc 1 not taken: ¬ p1 < (0 : Int32)
    refine Run.iloadN d17_4 rfl (pc' := 5) rfl ?_
    refine Run.sipush (255 : Int32) d17_5 (by decide) (pc' := 8) rfl ?_
    refine Run.icmp_gt d17_8 (by decide) (pc' := 15) (by decide) (pa := 11) rfl (fun hc8 => ?_) (fun hc8 => ?_)
    · -- pc 8 taken: (255 : Int32) < p1
      refine Run.iconst (0 : Int32) d17_15 (by decide) (pc' := 16) rfl ?_
      exact Run.nreturn d17_16 (ty := .boolean) rfl (by simp) (by decide) (by decide) ⟨_, rfl, congrArg Value.int (by unfold own_canI; rw [if_neg hc1, if_pos hc8] <;> rfl), rfl⟩
    · -- pc 8 not taken: ¬ (255 : Int32) < p1
      refine Run.iconst (1 : Int32) d17_11 (by decide) (pc' := 12) rfl ?_
      refine Run.goto d17_12 (by decide) (pc' := 16) (by decide) ?_
      exact Run.nreturn d17_16 (ty := .boolean) rfl (by simp) (by decide) (by decide) ⟨_, rfl, congrArg Value.int (by unfold own_canI; rw [if_neg hc1, if_neg hc8] <;> rfl), rfl⟩
def own_max (p1 : Int32) (p2 : Int32) : Int32 := (if p1 < p2 then p2 else p1)
theorem d18_0 : decode jdk_29_method_65_code 0 = .ok (.iload_n 0, 1) := by decide +kernel
theorem d18_1 : decode jdk_29_method_65_code 1 = .ok (.iload_n 1, 1) := by decide +kernel
theorem d18_2 : decode jdk_29_method_65_code 2 = .ok (.if_icmp .lt 7, 3) := by decide +kernel
theorem d18_5 : decode jdk_29_method_65_code 5 = .ok (.iload_n 0, 1) := by decide +kernel
theorem d18_6 : decode jdk_29_method_65_code 6 = .ok (.goto 4, 3) := by decide +kernel
theorem d18_9 : decode jdk_29_method_65_code 9 = .ok (.iload_n 1, 1) := by decide +kernel
theorem d18_10 : decode jdk_29_method_65_code 10 = .ok (.ireturn, 1) := by decide +kernel
theorem pn_18 : plainFor (⟨"java/lang/Math", "max", "(II)I"⟩ : MethodName) = true := by decide +kernel
theorem ef_con_own_max (m : MethodId) (p1 : Int32) (p2 : Int32)  : entryFrame m #[(.int p1), (.int p2)] 2 = mkF m 0 #[.val (.int p1), .val (.int p2)] [] := by first | (simp [entryFrame, mkF, argsToLocals, Value.category]; done) | rfl
set_option maxRecDepth 65536 in
set_option maxHeartbeats 40000000 in
theorem con_own_max (l : Launch) (Z : State) (a0 : Array Value) (hw : ∀ d ∈ tables_1, d.before a0 Z = true) (n0 : Nat) (h0 : Heap) (Z0 : n0 ≤ h0.size) (p1 : Int32) (p2 : Int32)  :
    Con l Z n0 (⟨"java/lang/Math", "max", "(II)I"⟩ : MethodName) jdk_29_method_65_code 2 (some .int) ({ frames := 0, cells := 0, slots := 0, locals := 0 } : Room) #[(.int p1), (.int p2)] h0 (Val (PV (.int (own_max p1 p2)) h0)) := by
  refine Con.of_run pn_18 (fun m => ef_con_own_max m p1 p2 ) ?_
  refine Run.iloadN d18_0 rfl (pc' := 1) rfl ?_
  refine Run.iloadN d18_1 rfl (pc' := 2) rfl ?_
  refine Run.icmp_lt d18_2 (by decide) (pc' := 9) (by decide) (pa := 5) rfl (fun hc2 => ?_) (fun hc2 => ?_)
  · -- pc 2 taken: p1 < p2
    refine Run.iloadN d18_9 rfl (pc' := 10) rfl ?_
    exact Run.ireturn d18_10 rfl (by decide) (by decide) ⟨_, rfl, congrArg Value.int (by unfold own_max; rw [if_pos hc2] <;> rfl), rfl⟩
  · -- pc 2 not taken: ¬ p1 < p2
    refine Run.iloadN d18_5 rfl (pc' := 6) rfl ?_
    refine Run.goto d18_6 (by decide) (pc' := 10) (by decide) ?_
    exact Run.ireturn d18_10 rfl (by decide) (by decide) ⟨_, rfl, congrArg Value.int (by unfold own_max; rw [if_neg hc2] <;> rfl), rfl⟩
def own_min (p1 : Int32) (p2 : Int32) : Int32 := (if p2 < p1 then p2 else p1)
theorem d19_0 : decode jdk_29_method_69_code 0 = .ok (.iload_n 0, 1) := by decide +kernel
theorem d19_1 : decode jdk_29_method_69_code 1 = .ok (.iload_n 1, 1) := by decide +kernel
theorem d19_2 : decode jdk_29_method_69_code 2 = .ok (.if_icmp .gt 7, 3) := by decide +kernel
theorem d19_5 : decode jdk_29_method_69_code 5 = .ok (.iload_n 0, 1) := by decide +kernel
theorem d19_6 : decode jdk_29_method_69_code 6 = .ok (.goto 4, 3) := by decide +kernel
theorem d19_9 : decode jdk_29_method_69_code 9 = .ok (.iload_n 1, 1) := by decide +kernel
theorem d19_10 : decode jdk_29_method_69_code 10 = .ok (.ireturn, 1) := by decide +kernel
theorem pn_19 : plainFor (⟨"java/lang/Math", "min", "(II)I"⟩ : MethodName) = true := by decide +kernel
theorem ef_con_own_min (m : MethodId) (p1 : Int32) (p2 : Int32)  : entryFrame m #[(.int p1), (.int p2)] 2 = mkF m 0 #[.val (.int p1), .val (.int p2)] [] := by first | (simp [entryFrame, mkF, argsToLocals, Value.category]; done) | rfl
set_option maxRecDepth 65536 in
set_option maxHeartbeats 40000000 in
theorem con_own_min (l : Launch) (Z : State) (a0 : Array Value) (hw : ∀ d ∈ tables_1, d.before a0 Z = true) (n0 : Nat) (h0 : Heap) (Z0 : n0 ≤ h0.size) (p1 : Int32) (p2 : Int32)  :
    Con l Z n0 (⟨"java/lang/Math", "min", "(II)I"⟩ : MethodName) jdk_29_method_69_code 2 (some .int) ({ frames := 0, cells := 0, slots := 0, locals := 0 } : Room) #[(.int p1), (.int p2)] h0 (Val (PV (.int (own_min p1 p2)) h0)) := by
  refine Con.of_run pn_19 (fun m => ef_con_own_min m p1 p2 ) ?_
  refine Run.iloadN d19_0 rfl (pc' := 1) rfl ?_
  refine Run.iloadN d19_1 rfl (pc' := 2) rfl ?_
  refine Run.icmp_gt d19_2 (by decide) (pc' := 9) (by decide) (pa := 5) rfl (fun hc2 => ?_) (fun hc2 => ?_)
  · -- pc 2 taken: p2 < p1
    refine Run.iloadN d19_9 rfl (pc' := 10) rfl ?_
    exact Run.ireturn d19_10 rfl (by decide) (by decide) ⟨_, rfl, congrArg Value.int (by unfold own_min; rw [if_pos hc2] <;> rfl), rfl⟩
  · -- pc 2 not taken: ¬ p2 < p1
    refine Run.iloadN d19_5 rfl (pc' := 6) rfl ?_
    refine Run.goto d19_6 (by decide) (pc' := 10) (by decide) ?_
    exact Run.ireturn d19_10 rfl (by decide) (by decide) ⟨_, rfl, congrArg Value.int (by unfold own_min; rw [if_neg hc2] <;> rfl), rfl⟩
def own_ixF (cs : List Int32) (ch : Int32) : Nat → Nat → Int32
  | 0, _ => -1
  | t + 1, i => if cs.getD i 0 = ch then Int32.ofNat i else own_ixF cs ch t (i + 1)
def own_ix (cs : List Int32) (ch : Int32) : Int32 := own_ixF cs ch cs.length 0
theorem own_ixn {cs : List Int32} {ch : Int32} (h : ¬ (0 : Int32) < Int32.ofNat cs.length) (hb : cs.length < 2 ^ 31) : own_ix cs ch = -1 := by
  have e : cs.length = 0 := Nat.eq_zero_of_not_pos fun z => h ((own_lt (i := 0) (by decide) hb).mpr z)
  unfold own_ix; rw [e]; rfl
theorem own_mm (n : Nat) (h : n < 2 ^ 31) : own_min (Int32.ofNat n) (Int32.ofNat n) = Int32.ofNat n := by unfold own_min; split <;> rfl
theorem own_nbe {x y : Int32} (hx : 0 ≤ x.toInt) (hx2 : ¬ (255 : Int32) < x) (hy : 0 ≤ y.toInt) (hy2 : ¬ (255 : Int32) < y) : nar .byte x = nar .byte y ↔ x = y :=
  ⟨fun h => by rw [← own_latc hx hx2, h, own_latc hy hy2], fun h => by rw [h]⟩
theorem own_canIch {ch : Int32} (gc : 0 ≤ ch.toInt) (gc2 : ¬ (255 : Int32) < ch) : ¬ own_canI ch = 0 := by
  have h1 : ¬ ch < 0 := by rw [Int32.lt_iff_toInt_lt, own_z]; omega
  simp [own_canI, h1, gc2]
theorem d32_0 : decode jdk_43_method_23_code 0 = .ok (.iload_n 1, 1) := by decide +kernel
theorem d32_1 : decode jdk_43_method_23_code 1 = .ok (.i2b, 1) := by decide +kernel
theorem d32_2 : decode jdk_43_method_23_code 2 = .ok (.istore 4, 2) := by decide +kernel
theorem d32_4 : decode jdk_43_method_23_code 4 = .ok (.iload_n 2, 1) := by decide +kernel
theorem d32_5 : decode jdk_43_method_23_code 5 = .ok (.istore 5, 2) := by decide +kernel
theorem d32_7 : decode jdk_43_method_23_code 7 = .ok (.iload 5, 2) := by decide +kernel
theorem d32_9 : decode jdk_43_method_23_code 9 = .ok (.iload_n 3, 1) := by decide +kernel
theorem d32_10 : decode jdk_43_method_23_code 10 = .ok (.if_icmp .ge 21, 3) := by decide +kernel
theorem d32_13 : decode jdk_43_method_23_code 13 = .ok (.aload_n 0, 1) := by decide +kernel
theorem d32_14 : decode jdk_43_method_23_code 14 = .ok (.iload 5, 2) := by decide +kernel
theorem d32_16 : decode jdk_43_method_23_code 16 = .ok (.baload, 1) := by decide +kernel
theorem d32_17 : decode jdk_43_method_23_code 17 = .ok (.iload 4, 2) := by decide +kernel
theorem d32_19 : decode jdk_43_method_23_code 19 = .ok (.if_icmp .ne 6, 3) := by decide +kernel
theorem d32_22 : decode jdk_43_method_23_code 22 = .ok (.iload 5, 2) := by decide +kernel
theorem d32_24 : decode jdk_43_method_23_code 24 = .ok (.ireturn, 1) := by decide +kernel
theorem d32_25 : decode jdk_43_method_23_code 25 = .ok (.iinc 5 1, 3) := by decide +kernel
theorem d32_28 : decode jdk_43_method_23_code 28 = .ok (.goto (-21), 3) := by decide +kernel
theorem d32_31 : decode jdk_43_method_23_code 31 = .ok (.iconst (-1), 1) := by decide +kernel
theorem d32_32 : decode jdk_43_method_23_code 32 = .ok (.ireturn, 1) := by decide +kernel
theorem pn_32 : plainFor (⟨"java/lang/StringLatin1", "indexOfChar", "([BIII)I"⟩ : MethodName) = true := plainFor_of_name (by first | (simp [plainName, overriddenIn]; done) | decide +kernel)
theorem ef_con_lic (m : MethodId) (b : Addr) (cs : List Int32) (ch : Int32)  : entryFrame m #[(.ref b), (.int ch), (.int (0 : Int32)), (.int (Int32.ofNat cs.length))] 6 = mkF m 0 #[.val (.ref b), .val (.int ch), .val (.int (0 : Int32)), .val (.int (Int32.ofNat cs.length)), .unset, .unset] [] := by first | (simp [entryFrame, mkF, argsToLocals, Value.category]; done) | rfl
set_option maxRecDepth 65536 in
set_option maxHeartbeats 40000000 in
theorem con_lic (l : Launch) (Z : State) (a0 : Array Value) (hw : ∀ d ∈ tables_1, d.before a0 Z = true) (n0 : Nat) (h0 : Heap) (Z0 : n0 ≤ h0.size) (b : Addr) (cs : List Int32) (ch : Int32) (hp : own_pfx cs = cs.length) (AB : Ary Z h0 b .byte (own_by cs)) (hn : cs.length ≤ 2) (hch : own_chr cs) (gc : 0 ≤ ch.toInt) (gc2 : ¬ (255 : Int32) < ch) :
    Con l Z n0 (⟨"java/lang/StringLatin1", "indexOfChar", "([BIII)I"⟩ : MethodName) jdk_43_method_23_code 6 (some .int) ({ frames := 0, cells := 0, slots := 0, locals := 0 } : Room) #[(.ref b), (.int ch), (.int (0 : Int32)), (.int (Int32.ofNat cs.length))] h0 (Val (PV (.int (own_ix cs ch)) h0)) := by
  refine Con.of_run pn_32 (fun m => ef_con_lic m b cs ch ) ?_
  refine Run.iloadN d32_0 rfl (pc' := 1) rfl ?_
  refine Run.i2b d32_1 (pc' := 2) rfl ?_
  refine Run.istore (l' := #[.val (.ref b), .val (.int ch), .val (.int (0 : Int32)), .val (.int (Int32.ofNat cs.length)), .val (.int (nar .byte ch)), .unset]) d32_2 rfl (pc' := 4) rfl ?_
  refine Run.iloadN d32_4 rfl (pc' := 5) rfl ?_
  refine Run.istore (l' := #[.val (.ref b), .val (.int ch), .val (.int (0 : Int32)), .val (.int (Int32.ofNat cs.length)), .val (.int (nar .byte ch)), .val (.int (0 : Int32))]) d32_5 rfl (pc' := 7) rfl ?_
  have loop : ∀ t_ i : Nat, t_ + i = cs.length → own_ixF cs ch t_ i = own_ix cs ch → Run l Z n0 "java/lang/StringLatin1" jdk_43_method_23_code 6 (some .int) "indexOfChar" ({ frames := 0, cells := 0, slots := 0, locals := 0 } : Room) (Val (PV (.int (own_ix cs ch)) h0)) 7 #[.val (.ref b), .val (.int ch), .val (.int (0 : Int32)), .val (.int (Int32.ofNat cs.length)), .val (.int (nar .byte ch)), .val (.int (Int32.ofNat i))] [] h0 0 0 := by
    intro t_
    induction t_ with
    | zero =>
      intro i hti hr
      refine Run.iload d32_7 rfl (pc' := 9) rfl ?_
      refine Run.iloadN d32_9 rfl (pc' := 10) rfl ?_
      refine Run.icmp_ge d32_10 (by decide) (pc' := 31) (by decide) (pa := 13) rfl (fun hc10 => ?_) (fun hc10 => ?_)
      · -- pc 10 taken: ¬ (Int32.ofNat i) < (Int32.ofNat cs.length)
        refine Run.iconst (-1 : Int32) d32_31 (by decide) (pc' := 32) rfl ?_
        exact Run.ireturn d32_32 rfl (by decide) (by decide) ⟨_, rfl, congrArg Value.int (by rw [← hr]; rfl), rfl⟩
      · -- pc 10 not taken: (Int32.ofNat i) < (Int32.ofNat cs.length)
        exact absurd ((own_lt (by omega) (by omega)).mp hc10) (by omega)
    | succ t_ ih =>
      intro i hti hr
      have hil : i < cs.length := by omega
      refine Run.iload d32_7 rfl (pc' := 9) rfl ?_
      refine Run.iloadN d32_9 rfl (pc' := 10) rfl ?_
      refine Run.icmp_ge d32_10 (by decide) (pc' := 31) (by decide) (pa := 13) rfl (fun hc10 => ?_) (fun hc10 => ?_)
      · -- pc 10 taken: ¬ (Int32.ofNat i) < (Int32.ofNat cs.length)
        exact absurd ((own_lt (by omega) (by omega)).mpr (by omega)) hc10
      · -- pc 10 not taken: (Int32.ofNat i) < (Int32.ofNat cs.length)
        refine Run.aloadN d32_13 rfl rfl (pc' := 14) rfl ?_
        refine Run.iload d32_14 rfl (pc' := 16) rfl ?_
        refine Run.baload (i := i) (v := (.int (nar .byte (cs.getD i 0)))) d32_16 AB (own_ofn (by omega)) (own_by_get hil) (pc' := 17) rfl ?_
        refine Run.iload d32_17 rfl (pc' := 19) rfl ?_
        refine Run.icmp_ne d32_19 (by decide) (pc' := 25) (by decide) (pa := 22) rfl (fun hc19 => ?_) (fun hc19 => ?_)
        · -- pc 19 taken: ¬ (nar .byte (cs.getD i 0)) = (nar .byte ch)
          refine Run.iinc (1 : Int32) #[.val (.ref b), .val (.int ch), .val (.int (0 : Int32)), .val (.int (Int32.ofNat cs.length)), .val (.int (nar .byte ch)), .val (.int ((Int32.ofNat i) + (1 : Int32)))] d32_25 (by decide) rfl rfl (pc' := 28) rfl ?_
          refine Run.goto d32_28 (by decide) (pc' := 7) (by decide) ?_
          rw [own_inc]
          exact ih (i + 1) (by omega) (by rw [← hr]; exact (if_neg (fun z => hc19 ((own_nbe (own_chrD hch hil).1 (own_pfx_all hp hil) gc gc2).mpr z))).symm)
        · -- pc 19 not taken: (nar .byte (cs.getD i 0)) = (nar .byte ch)
          refine Run.iload d32_22 rfl (pc' := 24) rfl ?_
          exact Run.ireturn d32_24 rfl (by decide) (by decide) ⟨_, rfl, congrArg Value.int (by rw [← hr]; exact if_pos ((own_nbe (own_chrD hch hil).1 (own_pfx_all hp hil) gc gc2).mp hc19)), rfl⟩
  exact loop cs.length 0 (by omega) rfl
theorem d16_0 : decode jdk_43_method_22_code 0 = .ok (.iload_n 1, 1) := by decide +kernel
theorem d16_1 : decode jdk_43_method_22_code 1 = .ok (.invokestatic 88, 3) := by decide +kernel
theorem d16_4 : decode jdk_43_method_22_code 4 = .ok (.ifCond .ne 5, 3) := by decide +kernel
theorem d16_9 : decode jdk_43_method_22_code 9 = .ok (.iload_n 2, 1) := by decide +kernel
theorem d16_10 : decode jdk_43_method_22_code 10 = .ok (.iconst 0, 1) := by decide +kernel
theorem d16_11 : decode jdk_43_method_22_code 11 = .ok (.invokestatic 92, 3) := by decide +kernel
theorem d16_14 : decode jdk_43_method_22_code 14 = .ok (.istore_n 2, 1) := by decide +kernel
theorem d16_15 : decode jdk_43_method_22_code 15 = .ok (.iload_n 3, 1) := by decide +kernel
theorem d16_16 : decode jdk_43_method_22_code 16 = .ok (.aload_n 0, 1) := by decide +kernel
theorem d16_17 : decode jdk_43_method_22_code 17 = .ok (.arraylength, 1) := by decide +kernel
theorem d16_18 : decode jdk_43_method_22_code 18 = .ok (.invokestatic 38, 3) := by decide +kernel
theorem d16_21 : decode jdk_43_method_22_code 21 = .ok (.istore_n 3, 1) := by decide +kernel
theorem d16_22 : decode jdk_43_method_22_code 22 = .ok (.iload_n 2, 1) := by decide +kernel
theorem d16_23 : decode jdk_43_method_22_code 23 = .ok (.iload_n 3, 1) := by decide +kernel
theorem d16_24 : decode jdk_43_method_22_code 24 = .ok (.if_icmp .lt 5, 3) := by decide +kernel
theorem d16_27 : decode jdk_43_method_22_code 27 = .ok (.iconst (-1), 1) := by decide +kernel
theorem d16_28 : decode jdk_43_method_22_code 28 = .ok (.ireturn, 1) := by decide +kernel
theorem d16_29 : decode jdk_43_method_22_code 29 = .ok (.aload_n 0, 1) := by decide +kernel
theorem d16_30 : decode jdk_43_method_22_code 30 = .ok (.iload_n 1, 1) := by decide +kernel
theorem d16_31 : decode jdk_43_method_22_code 31 = .ok (.iload_n 2, 1) := by decide +kernel
theorem d16_32 : decode jdk_43_method_22_code 32 = .ok (.iload_n 3, 1) := by decide +kernel
theorem d16_33 : decode jdk_43_method_22_code 33 = .ok (.invokestatic 95, 3) := by decide +kernel
theorem d16_36 : decode jdk_43_method_22_code 36 = .ok (.ireturn, 1) := by decide +kernel
theorem pn_16 : plainFor (⟨"java/lang/StringLatin1", "indexOf", "([BIII)I"⟩ : MethodName) = true := plainFor_of_name (by first | (simp [plainName, overriddenIn]; done) | decide +kernel)
theorem pd__I_Z : parseMethodDescriptor "(I)Z" = some ⟨[.int], some .boolean⟩ := by decide +kernel
theorem pd__II_I : parseMethodDescriptor "(II)I" = some ⟨[.int, .int], some .int⟩ := by decide +kernel
theorem pd___BIII_I : parseMethodDescriptor "([BIII)I" = some ⟨[(.array .byte), .int, .int, .int], some .int⟩ := by decide +kernel
theorem ef_con_lio (m : MethodId) (b : Addr) (cs : List Int32) (ch : Int32)  : entryFrame m #[(.ref b), (.int ch), (.int (0 : Int32)), (.int (Int32.ofNat cs.length))] 4 = mkF m 0 #[.val (.ref b), .val (.int ch), .val (.int (0 : Int32)), .val (.int (Int32.ofNat cs.length))] [] := by first | (simp [entryFrame, mkF, argsToLocals, Value.category]; done) | rfl
set_option maxRecDepth 65536 in
set_option maxHeartbeats 40000000 in
theorem con_lio (l : Launch) (Z : State) (a0 : Array Value) (hw : ∀ d ∈ tables_1, d.before a0 Z = true) (n0 : Nat) (h0 : Heap) (Z0 : n0 ≤ h0.size) (b : Addr) (cs : List Int32) (ch : Int32) (hp : own_pfx cs = cs.length) (AB : Ary Z h0 b .byte (own_by cs)) (hn : cs.length ≤ 2) (hch : own_chr cs) (gc : 0 ≤ ch.toInt) (gc2 : ¬ (255 : Int32) < ch) :
    Con l Z n0 (⟨"java/lang/StringLatin1", "indexOf", "([BIII)I"⟩ : MethodName) jdk_43_method_22_code 4 (some .int) ({ frames := 1, cells := 0, slots := 0, locals := 17 } : Room) #[(.ref b), (.int ch), (.int (0 : Int32)), (.int (Int32.ofNat cs.length))] h0 (Val (PV (.int (own_ix cs ch)) h0)) := by
  refine Con.of_run pn_16 (fun m => ef_con_lio m b cs ch ) ?_
  refine Run.iloadN d16_0 rfl (pc' := 1) rfl ?_
  refine Run.callS (k' := 0) (n' := 0) (as := [(.int ch)]) (rest := []) (con_own_canI l Z a0 hw n0 h0 Z0 ch ) d16_1 (hw _ (List.mem_of_getElem? (i := 89) rfl)) (hw _ (List.mem_of_getElem? (i := 90) rfl)) (hw _ (List.mem_of_getElem? (i := 87) rfl)) (hw _ (List.mem_of_getElem? (i := 91) rfl)) (by decide) pd__I_Z rfl rfl rfl (by decide) (by show (0 : Nat) + (1 + 11) + 0 ≤ _; decide) (by decide) (by decide) (by decide) (by decide) (pc' := 4) rfl ?_
  rintro _ _ ⟨_, rfl, rfl, rfl⟩
  show Run l Z n0 "java/lang/StringLatin1" jdk_43_method_22_code 4 (some .int) "indexOf" ({ frames := 1, cells := 0, slots := 0, locals := 17 } : Room) _ 4 #[.val (.ref b), .val (.int ch), .val (.int (0 : Int32)), .val (.int (Int32.ofNat cs.length))] [(.int (own_canI ch))] h0 0 0
  refine Run.if_ne d16_4 (by decide) (pc' := 9) (by decide) (pa := 7) rfl (fun hc4 => ?_) (fun hc4 => ?_)
  · -- pc 4 taken: ¬ (own_canI ch) = (0 : Int32)
    refine Run.iloadN d16_9 rfl (pc' := 10) rfl ?_
    refine Run.iconst (0 : Int32) d16_10 (by decide) (pc' := 11) rfl ?_
    refine Run.callS (k' := 0) (n' := 0) (as := [(.int (0 : Int32)), (.int (0 : Int32))]) (rest := []) (con_own_max l Z a0 hw n0 h0 Z0 (0 : Int32) (0 : Int32) ) d16_11 (hw _ (List.mem_of_getElem? (i := 92) rfl)) (hw _ (List.mem_of_getElem? (i := 93) rfl)) (hw _ (List.mem_of_getElem? (i := 94) rfl)) (hw _ (List.mem_of_getElem? (i := 95) rfl)) (by decide) pd__II_I rfl rfl rfl (by decide) (by show (0 : Nat) + (2 + 11) + 0 ≤ _; decide) (by decide) (by decide) (by decide) (by decide) (pc' := 14) rfl ?_
    rintro _ _ ⟨_, rfl, rfl, rfl⟩
    show Run l Z n0 "java/lang/StringLatin1" jdk_43_method_22_code 4 (some .int) "indexOf" ({ frames := 1, cells := 0, slots := 0, locals := 17 } : Room) _ 14 #[.val (.ref b), .val (.int ch), .val (.int (0 : Int32)), .val (.int (Int32.ofNat cs.length))] [(.int (own_max (0 : Int32) (0 : Int32)))] h0 0 0
    rw [show own_max (0 : Int32) (0 : Int32) = 0 by decide]
    refine Run.istoreN (l' := #[.val (.ref b), .val (.int ch), .val (.int (0 : Int32)), .val (.int (Int32.ofNat cs.length))]) d16_14 rfl (pc' := 15) rfl ?_
    refine Run.iloadN d16_15 rfl (pc' := 16) rfl ?_
    refine Run.aloadN d16_16 rfl rfl (pc' := 17) rfl ?_
    refine Run.alen (z := (Int32.ofNat cs.length)) d16_17 AB (by rw [show (own_by cs).length = cs.length by simp [own_by]] <;> rfl) (pc' := 18) rfl ?_
    refine Run.callS (k' := 0) (n' := 0) (as := [(.int (Int32.ofNat cs.length)), (.int (Int32.ofNat cs.length))]) (rest := []) (con_own_min l Z a0 hw n0 h0 Z0 (Int32.ofNat cs.length) (Int32.ofNat cs.length) ) d16_18 (hw _ (List.mem_of_getElem? (i := 96) rfl)) (hw _ (List.mem_of_getElem? (i := 97) rfl)) (hw _ (List.mem_of_getElem? (i := 94) rfl)) (hw _ (List.mem_of_getElem? (i := 98) rfl)) (by decide) pd__II_I rfl rfl rfl (by decide) (by show (0 : Nat) + (2 + 11) + 0 ≤ _; decide) (by decide) (by decide) (by decide) (by decide) (pc' := 21) rfl ?_
    rintro _ _ ⟨_, rfl, rfl, rfl⟩
    show Run l Z n0 "java/lang/StringLatin1" jdk_43_method_22_code 4 (some .int) "indexOf" ({ frames := 1, cells := 0, slots := 0, locals := 17 } : Room) _ 21 #[.val (.ref b), .val (.int ch), .val (.int (0 : Int32)), .val (.int (Int32.ofNat cs.length))] [(.int (own_min (Int32.ofNat cs.length) (Int32.ofNat cs.length)))] h0 0 0
    rw [own_mm _ (by omega)]
    refine Run.istoreN (l' := #[.val (.ref b), .val (.int ch), .val (.int (0 : Int32)), .val (.int (Int32.ofNat cs.length))]) d16_21 rfl (pc' := 22) rfl ?_
    refine Run.iloadN d16_22 rfl (pc' := 23) rfl ?_
    refine Run.iloadN d16_23 rfl (pc' := 24) rfl ?_
    refine Run.icmp_lt d16_24 (by decide) (pc' := 29) (by decide) (pa := 27) rfl (fun hc24 => ?_) (fun hc24 => ?_)
    · -- pc 24 taken: (0 : Int32) < (Int32.ofNat cs.length)
      refine Run.aloadN d16_29 rfl rfl (pc' := 30) rfl ?_
      refine Run.iloadN d16_30 rfl (pc' := 31) rfl ?_
      refine Run.iloadN d16_31 rfl (pc' := 32) rfl ?_
      refine Run.iloadN d16_32 rfl (pc' := 33) rfl ?_
      refine Run.callS (k' := 0) (n' := 0) (as := [(.ref b), (.int ch), (.int (0 : Int32)), (.int (Int32.ofNat cs.length))]) (rest := []) (con_lic l Z a0 hw n0 h0 Z0  b cs ch hp AB hn hch gc gc2) d16_33 (hw _ (List.mem_of_getElem? (i := 164) rfl)) (hw _ (List.mem_of_getElem? (i := 165) rfl)) (hw _ (List.mem_of_getElem? (i := 87) rfl)) (hw _ (List.mem_of_getElem? (i := 166) rfl)) (by decide) pd___BIII_I rfl rfl rfl (by decide) (by show (0 : Nat) + (6 + 11) + 0 ≤ _; decide) (by decide) (by decide) (by decide) (by decide) (pc' := 36) rfl ?_
      rintro _ _ ⟨_, rfl, rfl, rfl⟩
      show Run l Z n0 "java/lang/StringLatin1" jdk_43_method_22_code 4 (some .int) "indexOf" ({ frames := 1, cells := 0, slots := 0, locals := 17 } : Room) _ 36 #[.val (.ref b), .val (.int ch), .val (.int (0 : Int32)), .val (.int (Int32.ofNat cs.length))] [(.int (own_ix cs ch))] h0 0 0
      exact Run.ireturn d16_36 rfl (by decide) (by decide) ⟨_, rfl, rfl, rfl⟩
    · -- pc 24 not taken: ¬ (0 : Int32) < (Int32.ofNat cs.length)
      refine Run.iconst (-1 : Int32) d16_27 (by decide) (pc' := 28) rfl ?_
      exact Run.ireturn d16_28 rfl (by decide) (by decide) ⟨_, rfl, congrArg Value.int (own_ixn hc24 (by omega)), rfl⟩
  · -- pc 4 not taken: (own_canI ch) = (0 : Int32)
    exact absurd hc4 (own_canIch gc gc2)
theorem d12_0 : decode jdk_42_method_80_code 0 = .ok (.aload_n 0, 1) := by decide +kernel
theorem d12_1 : decode jdk_42_method_80_code 1 = .ok (.invokevirtual 492, 3) := by decide +kernel
theorem d12_4 : decode jdk_42_method_80_code 4 = .ok (.ifCond .eq 19, 3) := by decide +kernel
theorem d12_7 : decode jdk_42_method_80_code 7 = .ok (.aload_n 0, 1) := by decide +kernel
theorem d12_8 : decode jdk_42_method_80_code 8 = .ok (.getfield 9, 3) := by decide +kernel
theorem d12_11 : decode jdk_42_method_80_code 11 = .ok (.iload_n 1, 1) := by decide +kernel
theorem d12_12 : decode jdk_42_method_80_code 12 = .ok (.iload_n 2, 1) := by decide +kernel
theorem d12_13 : decode jdk_42_method_80_code 13 = .ok (.aload_n 0, 1) := by decide +kernel
theorem d12_14 : decode jdk_42_method_80_code 14 = .ok (.invokevirtual 505, 3) := by decide +kernel
theorem d12_17 : decode jdk_42_method_80_code 17 = .ok (.invokestatic 637, 3) := by decide +kernel
theorem d12_20 : decode jdk_42_method_80_code 20 = .ok (.goto 16, 3) := by decide +kernel
theorem d12_23 : decode jdk_42_method_80_code 23 = .ok (.aload_n 0, 1) := by decide +kernel
theorem d12_24 : decode jdk_42_method_80_code 24 = .ok (.getfield 9, 3) := by decide +kernel
theorem d12_27 : decode jdk_42_method_80_code 27 = .ok (.iload_n 1, 1) := by decide +kernel
theorem d12_28 : decode jdk_42_method_80_code 28 = .ok (.iload_n 2, 1) := by decide +kernel
theorem d12_29 : decode jdk_42_method_80_code 29 = .ok (.aload_n 0, 1) := by decide +kernel
theorem d12_30 : decode jdk_42_method_80_code 30 = .ok (.invokevirtual 505, 3) := by decide +kernel
theorem d12_33 : decode jdk_42_method_80_code 33 = .ok (.invokestatic 640, 3) := by decide +kernel
theorem d12_36 : decode jdk_42_method_80_code 36 = .ok (.ireturn, 1) := by decide +kernel
theorem pn_12 : plainFor (⟨"java/lang/String", "indexOf", "(II)I"⟩ : MethodName) = true := plainFor_of_name (by first | (simp [plainName, overriddenIn]; done) | decide +kernel)
theorem pd___I : parseMethodDescriptor "()I" = some ⟨[], some .int⟩ := by decide +kernel
theorem pd___Z : parseMethodDescriptor "()Z" = some ⟨[], some .boolean⟩ := by decide +kernel
theorem ef_con_six2 (m : MethodId) (t b : Addr) (cs : List Int32) (ch : Int32) (cz : Int32)  : entryFrame m #[(.ref t), (.int ch), (.int (0 : Int32))] 3 = mkF m 0 #[.val (.ref t), .val (.int ch), .val (.int (0 : Int32))] [] := by first | (simp [entryFrame, mkF, argsToLocals, Value.category]; done) | rfl
set_option maxRecDepth 65536 in
set_option maxHeartbeats 40000000 in
theorem con_six2 (l : Launch) (Z : State) (a0 : Array Value) (hw : ∀ d ∈ tables_1, d.before a0 Z = true) (n0 : Nat) (h0 : Heap) (Z0 : n0 ≤ h0.size) (t b : Addr) (cs : List Int32) (ch : Int32) (cz : Int32) (od0 : Old Z n0 h0) (SZ : Sta Z Z.heap "java/lang/String" "COMPACT_STRINGS" "Z" (.int cz)) (hcz : ¬ cz = 0) (E1 : Exa Z h0 t "java/lang/String") (FV : Fld Z h0 t "java/lang/String" "value" "[B" (.ref b)) (FC : Fld Z h0 t "java/lang/String" "coder" "B" (.int (own_coder cs))) (AB : Ary Z h0 b .byte (own_enc cs)) (hp : own_pfx cs = cs.length) (hn : cs.length ≤ 2) (hch : own_chr cs) (gc : 0 ≤ ch.toInt) (gc2 : ¬ (255 : Int32) < ch) :
    Con l Z n0 (⟨"java/lang/String", "indexOf", "(II)I"⟩ : MethodName) jdk_42_method_80_code 3 (some .int) ({ frames := 2, cells := 0, slots := 0, locals := 32 } : Room) #[(.ref t), (.int ch), (.int (0 : Int32))] h0 (Val (PV (.int (own_ix cs ch)) h0)) := by
  refine Con.of_run pn_12 (fun m => ef_con_six2 m t b cs ch cz ) ?_
  refine Run.aloadN d12_0 rfl rfl (pc' := 1) rfl ?_
  refine Run.callV (k' := 0) (n' := 0) (a := t) (as := []) (rest := []) (con_isl l Z a0 hw n0 h0 Z0 t cs cz od0 SZ hcz FC ) E1 d12_1 (hw _ (List.mem_of_getElem? (i := 68) rfl)) (hw _ (List.mem_of_getElem? (i := 69) rfl)) (fun s hZ => notFace_of_selects (args := #[]) (mvT hZ (hw _ (List.mem_of_getElem? (i := 71) rfl)))) (hw _ (List.mem_of_getElem? (i := 71) rfl)) (hw _ (List.mem_of_getElem? (i := 70) rfl)) (hw _ (List.mem_of_getElem? (i := 16) rfl)) (hw _ (List.mem_of_getElem? (i := 72) rfl)) (by decide) pd___Z rfl rfl rfl (by decide) (by show (0 : Nat) + (1 + 11) + 0 ≤ _; decide) (by decide) (by decide) (by decide) (by decide) (pc' := 4) rfl ?_
  rintro _ _ ⟨_, rfl, rfl, rfl⟩
  show Run l Z n0 "java/lang/String" jdk_42_method_80_code 3 (some .int) "indexOf" ({ frames := 2, cells := 0, slots := 0, locals := 32 } : Room) _ 4 #[.val (.ref t), .val (.int ch), .val (.int (0 : Int32))] [(.int (own_isl cs))] h0 0 0
  refine Run.if_eq d12_4 (by decide) (pc' := 23) (by decide) (pa := 7) rfl (fun hc4 => ?_) (fun hc4 => ?_)
  · -- pc 4 taken: (own_isl cs) = (0 : Int32)
    exact absurd hp (own_isl0 hc4)
  · -- pc 4 not taken: ¬ (own_isl cs) = (0 : Int32)
    refine Run.aloadN d12_7 rfl rfl (pc' := 8) rfl ?_
    refine Run.getF d12_8 (host := "") (Or.inl (hw _ (List.mem_of_getElem? (i := 57) rfl))) Via.refl FV (pc' := 11) rfl ?_
    refine Run.iloadN d12_11 rfl (pc' := 12) rfl ?_
    refine Run.iloadN d12_12 rfl (pc' := 13) rfl ?_
    refine Run.aloadN d12_13 rfl rfl (pc' := 14) rfl ?_
    refine Run.callV (k' := 0) (n' := 0) (a := t) (as := []) (rest := [(.int (0 : Int32)), (.int ch), (.ref b)]) (con_len l Z a0 hw n0 h0 Z0 t b cs cz od0 SZ hcz E1 FV FC AB hn) E1 d12_14 (hw _ (List.mem_of_getElem? (i := 75) rfl)) (hw _ (List.mem_of_getElem? (i := 76) rfl)) (fun s hZ => notFace_of_selects (args := #[]) (mvT hZ (hw _ (List.mem_of_getElem? (i := 78) rfl)))) (hw _ (List.mem_of_getElem? (i := 78) rfl)) (hw _ (List.mem_of_getElem? (i := 77) rfl)) (hw _ (List.mem_of_getElem? (i := 16) rfl)) (hw _ (List.mem_of_getElem? (i := 79) rfl)) (by decide) pd___I rfl rfl rfl (by decide) (by show (3 : Nat) + (1 + 11) + 13 ≤ _; decide) (by decide) (by decide) (by decide) (by decide) (pc' := 17) rfl ?_
    rintro _ _ ⟨_, rfl, rfl, rfl⟩
    show Run l Z n0 "java/lang/String" jdk_42_method_80_code 3 (some .int) "indexOf" ({ frames := 2, cells := 0, slots := 0, locals := 32 } : Room) _ 17 #[.val (.ref t), .val (.int ch), .val (.int (0 : Int32))] [(.int (Int32.ofNat cs.length)), (.int (0 : Int32)), (.int ch), (.ref b)] h0 0 0
    refine Run.callS (k' := 0) (n' := 0) (as := [(.ref b), (.int ch), (.int (0 : Int32)), (.int (Int32.ofNat cs.length))]) (rest := []) (con_lio l Z a0 hw n0 h0 Z0  b cs ch (own_isl1 hc4) (own_encP (own_isl1 hc4) ▸ AB) hn hch gc gc2) d12_17 (hw _ (List.mem_of_getElem? (i := 85) rfl)) (hw _ (List.mem_of_getElem? (i := 86) rfl)) (hw _ (List.mem_of_getElem? (i := 87) rfl)) (hw _ (List.mem_of_getElem? (i := 88) rfl)) (by decide) pd___BIII_I rfl rfl rfl (by decide) (by show (0 : Nat) + (4 + 11) + 17 ≤ _; decide) (by decide) (by decide) (by decide) (by decide) (pc' := 20) rfl ?_
    rintro _ _ ⟨_, rfl, rfl, rfl⟩
    show Run l Z n0 "java/lang/String" jdk_42_method_80_code 3 (some .int) "indexOf" ({ frames := 2, cells := 0, slots := 0, locals := 32 } : Room) _ 20 #[.val (.ref t), .val (.int ch), .val (.int (0 : Int32))] [(.int (own_ix cs ch))] h0 0 0
    refine Run.goto d12_20 (by decide) (pc' := 36) (by decide) ?_
    exact Run.ireturn d12_36 rfl (by decide) (by decide) ⟨_, rfl, rfl, rfl⟩
theorem d11_0 : decode jdk_42_method_79_code 0 = .ok (.aload_n 0, 1) := by decide +kernel
theorem d11_1 : decode jdk_42_method_79_code 1 = .ok (.iload_n 1, 1) := by decide +kernel
theorem d11_2 : decode jdk_42_method_79_code 2 = .ok (.iconst 0, 1) := by decide +kernel
theorem d11_3 : decode jdk_42_method_79_code 3 = .ok (.invokevirtual 633, 3) := by decide +kernel
theorem d11_6 : decode jdk_42_method_79_code 6 = .ok (.ireturn, 1) := by decide +kernel
theorem pn_11 : plainFor (⟨"java/lang/String", "indexOf", "(I)I"⟩ : MethodName) = true := plainFor_of_name (by first | (simp [plainName, overriddenIn]; done) | decide +kernel)
theorem ef_con_six (m : MethodId) (t b : Addr) (cs : List Int32) (ch : Int32) (cz : Int32)  : entryFrame m #[(.ref t), (.int ch)] 2 = mkF m 0 #[.val (.ref t), .val (.int ch)] [] := by first | (simp [entryFrame, mkF, argsToLocals, Value.category]; done) | rfl
set_option maxRecDepth 65536 in
set_option maxHeartbeats 40000000 in
theorem con_six (l : Launch) (Z : State) (a0 : Array Value) (hw : ∀ d ∈ tables_1, d.before a0 Z = true) (n0 : Nat) (h0 : Heap) (Z0 : n0 ≤ h0.size) (t b : Addr) (cs : List Int32) (ch : Int32) (cz : Int32) (od0 : Old Z n0 h0) (SZ : Sta Z Z.heap "java/lang/String" "COMPACT_STRINGS" "Z" (.int cz)) (hcz : ¬ cz = 0) (E1 : Exa Z h0 t "java/lang/String") (FV : Fld Z h0 t "java/lang/String" "value" "[B" (.ref b)) (FC : Fld Z h0 t "java/lang/String" "coder" "B" (.int (own_coder cs))) (AB : Ary Z h0 b .byte (own_enc cs)) (hp : own_pfx cs = cs.length) (hn : cs.length ≤ 2) (hch : own_chr cs) (gc : 0 ≤ ch.toInt) (gc2 : ¬ (255 : Int32) < ch) :
    Con l Z n0 (⟨"java/lang/String", "indexOf", "(I)I"⟩ : MethodName) jdk_42_method_79_code 2 (some .int) ({ frames := 3, cells := 0, slots := 0, locals := 46 } : Room) #[(.ref t), (.int ch)] h0 (Val (PV (.int (own_ix cs ch)) h0)) := by
  refine Con.of_run pn_11 (fun m => ef_con_six m t b cs ch cz ) ?_
  refine Run.aloadN d11_0 rfl rfl (pc' := 1) rfl ?_
  refine Run.iloadN d11_1 rfl (pc' := 2) rfl ?_
  refine Run.iconst (0 : Int32) d11_2 (by decide) (pc' := 3) rfl ?_
  refine Run.callV (k' := 0) (n' := 0) (a := t) (as := [(.int ch), (.int (0 : Int32))]) (rest := []) (con_six2 l Z a0 hw n0 h0 Z0 t b cs ch cz od0 SZ hcz E1 FV FC AB hp hn hch gc gc2) E1 d11_3 (hw _ (List.mem_of_getElem? (i := 63) rfl)) (hw _ (List.mem_of_getElem? (i := 64) rfl)) (fun s hZ => notFace_of_selects (args := #[]) (mvT hZ (hw _ (List.mem_of_getElem? (i := 66) rfl)))) (hw _ (List.mem_of_getElem? (i := 66) rfl)) (hw _ (List.mem_of_getElem? (i := 65) rfl)) (hw _ (List.mem_of_getElem? (i := 16) rfl)) (hw _ (List.mem_of_getElem? (i := 67) rfl)) (by decide) pd__II_I rfl rfl rfl (by decide) (by show (0 : Nat) + (3 + 11) + 32 ≤ _; decide) (by decide) (by decide) (by decide) (by decide) (pc' := 6) rfl ?_
  rintro _ _ ⟨_, rfl, rfl, rfl⟩
  show Run l Z n0 "java/lang/String" jdk_42_method_79_code 2 (some .int) "indexOf" ({ frames := 3, cells := 0, slots := 0, locals := 46 } : Room) _ 6 #[.val (.ref t), .val (.int ch)] [(.int (own_ix cs ch))] h0 0 0
  exact Run.ireturn d11_6 rfl (by decide) (by decide) ⟨_, rfl, rfl, rfl⟩
theorem own_latN {c : Int32} (h : c.toInt ≤ 255) : ¬ (255 : Int32) < c := by rw [Int32.lt_iff_toInt_lt]; have e : (255 : Int32).toInt = 255 := rfl; omega
theorem own_latp : ∀ {cs : List Int32}, own_lat cs → own_pfx cs = cs.length
  | [], _ => rfl
  | c :: r, h => by
    have q := own_latN (h c (List.mem_cons_self ..)).2
    show (if (255 : Int32) < c then 0 else own_pfx r + 1) = r.length + 1
    rw [if_neg q, own_latp (fun d hd => h d (List.mem_cons_of_mem _ hd))]
theorem own_latq {cs : List Int32} (h : own_lat cs) : own_chr cs := fun c hc => ⟨(h c hc).1, by have := (h c hc).2; omega⟩
theorem own_lato {cs : List Int32} (h : own_lat cs) : own_coder cs = 0 := by unfold own_coder; rw [if_pos (own_latp h)]
theorem own_late {cs : List Int32} (h : own_lat cs) : own_enc cs = own_by cs := own_encP (own_latp h)
theorem own_lat2 {a b : Int32} (ha : 0 ≤ a.toInt ∧ a.toInt ≤ 255) (hb : 0 ≤ b.toInt ∧ b.toInt ≤ 255) : own_lat [a, b] := by
  intro v hv; simp only [List.mem_cons, List.not_mem_nil, or_false] at hv
  rcases hv with rfl | rfl <;> assumption
theorem own_l0c : own_coder [] = 0 := by decide
theorem own_l0e : own_enc [] = [] := rfl
theorem d29_0 : decode jdk_43_method_44_code 0 = .ok (.aload_n 0, 1) := by decide +kernel
theorem d29_1 : decode jdk_43_method_44_code 1 = .ok (.iload_n 1, 1) := by decide +kernel
theorem d29_2 : decode jdk_43_method_44_code 2 = .ok (.baload, 1) := by decide +kernel
theorem d29_3 : decode jdk_43_method_44_code 3 = .ok (.sipush 255, 3) := by decide +kernel
theorem d29_6 : decode jdk_43_method_44_code 6 = .ok (.iand, 1) := by decide +kernel
theorem d29_7 : decode jdk_43_method_44_code 7 = .ok (.i2c, 1) := by decide +kernel
theorem d29_8 : decode jdk_43_method_44_code 8 = .ok (.ireturn, 1) := by decide +kernel
theorem pn_29 : plainFor (⟨"java/lang/StringLatin1", "getChar", "([BI)C"⟩ : MethodName) = true := plainFor_of_name (by first | (simp [plainName, overriddenIn]; done) | decide +kernel)
theorem ef_con_lgc (m : MethodId) (b : Addr) (cs : List Int32) (i : Nat)  : entryFrame m #[(.ref b), (.int (Int32.ofNat i))] 2 = mkF m 0 #[.val (.ref b), .val (.int (Int32.ofNat i))] [] := by first | (simp [entryFrame, mkF, argsToLocals, Value.category]; done) | rfl
set_option maxRecDepth 65536 in
set_option maxHeartbeats 40000000 in
theorem con_lgc (l : Launch) (Z : State) (a0 : Array Value) (hw : ∀ d ∈ tables_1, d.before a0 Z = true) (n0 : Nat) (h0 : Heap) (Z0 : n0 ≤ h0.size) (b : Addr) (cs : List Int32) (i : Nat) (AB : Ary Z h0 b .byte (own_by cs)) (hp : own_pfx cs = cs.length) (hi : i < cs.length) (hn : cs.length ≤ 2) (hch : own_chr cs) :
    Con l Z n0 (⟨"java/lang/StringLatin1", "getChar", "([BI)C"⟩ : MethodName) jdk_43_method_44_code 2 (some .char) ({ frames := 0, cells := 0, slots := 0, locals := 0 } : Room) #[(.ref b), (.int (Int32.ofNat i))] h0 (Val (PV (.int (cs.getD i 0)) h0)) := by
  refine Con.of_run pn_29 (fun m => ef_con_lgc m b cs i ) ?_
  refine Run.aloadN d29_0 rfl rfl (pc' := 1) rfl ?_
  refine Run.iloadN d29_1 rfl (pc' := 2) rfl ?_
  refine Run.baload (i := i) (v := (.int (nar .byte (cs.getD i 0)))) d29_2 AB (own_ofn (by omega)) (own_by_get hi) (pc' := 3) rfl ?_
  refine Run.sipush (255 : Int32) d29_3 (by decide) (pc' := 6) rfl ?_
  refine Run.iand d29_6 (pc' := 7) rfl ?_
  refine Run.i2c d29_7 (pc' := 8) rfl ?_
  exact Run.nreturn d29_8 (ty := .char) rfl (by simp) (by decide) (by decide) ⟨_, rfl, congrArg Value.int (own_latc (own_chrD hch hi).1 (own_pfx_all hp hi)).symm, rfl⟩
theorem own_nch {n : Nat} (h : n ≤ 255) : nar .char (Int32.ofNat n) = Int32.ofNat n := by
  apply own_eqi
  have q := c_i2c (Int32.ofNat n); have e := own_ofn (i := n) (by omega)
  change ((nar .char _).toInt - _) % 65536 = 0 ∧ 0 ≤ (nar .char _).toInt ∧ (nar .char _).toInt < 65536 at q
  omega
theorem own_n33 {n m : Nat} (h : m < n) (h2 : n ≤ 255) : ¬ Int32.ofNat n = Int32.ofNat m := fun e => by
  have h1 := own_ofn (i := n) (by omega); rw [e, own_ofn (by omega)] at h1; omega
theorem d31_0 : decode jdk_116_method_1_code 0 = .ok (.iload_n 1, 1) := by decide +kernel
theorem d31_1 : decode jdk_116_method_1_code 1 = .ok (.i2c, 1) := by decide +kernel
theorem d31_2 : decode jdk_116_method_1_code 2 = .ok (.istore_n 2, 1) := by decide +kernel
theorem d31_3 : decode jdk_116_method_1_code 3 = .ok (.getstatic 1, 3) := by decide +kernel
theorem d31_6 : decode jdk_116_method_1_code 6 = .ok (.iload_n 2, 1) := by decide +kernel
theorem d31_7 : decode jdk_116_method_1_code 7 = .ok (.iaload, 1) := by decide +kernel
theorem d31_8 : decode jdk_116_method_1_code 8 = .ok (.istore_n 3, 1) := by decide +kernel
theorem d31_9 : decode jdk_116_method_1_code 9 = .ok (.iload_n 3, 1) := by decide +kernel
theorem d31_10 : decode jdk_116_method_1_code 10 = .ok (.ireturn, 1) := by decide +kernel
theorem pn_31 : plainFor (⟨"java/lang/CharacterDataLatin1", "getProperties", "(I)I"⟩ : MethodName) = true := plainFor_of_name (by first | (simp [plainName, overriddenIn]; done) | decide +kernel)
theorem ef_con_gpr (m : MethodId) (a : Addr) (n : Nat) (x : Int32) (ci aa : Addr) (vs : List Value)  : entryFrame m #[(.ref a), (.int (Int32.ofNat n))] 4 = mkF m 0 #[.val (.ref a), .val (.int (Int32.ofNat n)), .unset, .unset] [] := by first | (simp [entryFrame, mkF, argsToLocals, Value.category]; done) | rfl
set_option maxRecDepth 65536 in
set_option maxHeartbeats 40000000 in
theorem con_gpr (l : Launch) (Z : State) (a0 : Array Value) (hw : ∀ d ∈ tables_1, d.before a0 Z = true) (n0 : Nat) (h0 : Heap) (Z0 : n0 ≤ h0.size) (a : Addr) (n : Nat) (x : Int32) (ci aa : Addr) (vs : List Value) (od0 : Old Z n0 h0) (SI : Sta Z Z.heap "java/lang/CharacterDataLatin1" "instance" "Ljava/lang/CharacterDataLatin1;" (.ref ci)) (XI : Exa Z Z.heap ci "java/lang/CharacterDataLatin1") (SA : Sta Z Z.heap "java/lang/CharacterDataLatin1" "A" "[I" (.ref aa)) (AA : Ary Z Z.heap aa .int vs) (hprop : ∀ n : Nat, 33 ≤ n → n ≤ 255 → ∃ x : Int32, vs[n]? = some (.int x) ∧ ¬ (x &&& (28672 : Int32)) = (16384 : Int32)) (h255 : n ≤ 255) (hx : vs[n]? = some (.int x)) :
    Con l Z n0 (⟨"java/lang/CharacterDataLatin1", "getProperties", "(I)I"⟩ : MethodName) jdk_116_method_1_code 4 (some .int) ({ frames := 0, cells := 0, slots := 0, locals := 0 } : Room) #[(.ref a), (.int (Int32.ofNat n))] h0 (Val (PV (.int x) h0)) := by
  refine Con.of_run pn_31 (fun m => ef_con_gpr m a n x ci aa vs ) ?_
  refine Run.iloadN d31_0 rfl (pc' := 1) rfl ?_
  refine Run.i2c d31_1 (pc' := 2) rfl ?_
  rw [own_nch h255]
  refine Run.istoreN (l' := #[.val (.ref a), .val (.int (Int32.ofNat n)), .val (.int (Int32.ofNat n)), .unset]) d31_2 rfl (pc' := 3) rfl ?_
  refine Run.getS d31_3 (host := "") (Or.inl (hw _ (List.mem_of_getElem? (i := 163) rfl))) Via.refl (SA.ext od0.2) (pc' := 6) rfl ?_
  refine Run.iloadN d31_6 rfl (pc' := 7) rfl ?_
  refine Run.iaload (i := n) (v := (.int x)) d31_7 (AA.ext od0.2) (own_ofn (by omega)) hx (pc' := 8) rfl ?_
  refine Run.istoreN (l' := #[.val (.ref a), .val (.int (Int32.ofNat n)), .val (.int (Int32.ofNat n)), .val (.int x)]) d31_8 rfl (pc' := 9) rfl ?_
  refine Run.iloadN d31_9 rfl (pc' := 10) rfl ?_
  exact Run.ireturn d31_10 rfl (by decide) (by decide) ⟨_, rfl, rfl, rfl⟩
theorem d30_0 : decode jdk_116_method_26_code 0 = .ok (.aload_n 0, 1) := by decide +kernel
theorem d30_1 : decode jdk_116_method_26_code 1 = .ok (.iload_n 1, 1) := by decide +kernel
theorem d30_2 : decode jdk_116_method_26_code 2 = .ok (.invokevirtual 15, 3) := by decide +kernel
theorem d30_5 : decode jdk_116_method_26_code 5 = .ok (.istore_n 2, 1) := by decide +kernel
theorem d30_6 : decode jdk_116_method_26_code 6 = .ok (.iload_n 2, 1) := by decide +kernel
theorem d30_7 : decode jdk_116_method_26_code 7 = .ok (.sipush 28672, 3) := by decide +kernel
theorem d30_10 : decode jdk_116_method_26_code 10 = .ok (.iand, 1) := by decide +kernel
theorem d30_11 : decode jdk_116_method_26_code 11 = .ok (.sipush 16384, 3) := by decide +kernel
theorem d30_14 : decode jdk_116_method_26_code 14 = .ok (.if_icmp .ne 7, 3) := by decide +kernel
theorem d30_17 : decode jdk_116_method_26_code 17 = .ok (.iconst 1, 1) := by decide +kernel
theorem d30_18 : decode jdk_116_method_26_code 18 = .ok (.goto 4, 3) := by decide +kernel
theorem d30_21 : decode jdk_116_method_26_code 21 = .ok (.iconst 0, 1) := by decide +kernel
theorem d30_22 : decode jdk_116_method_26_code 22 = .ok (.ireturn, 1) := by decide +kernel
theorem pn_30 : plainFor (⟨"java/lang/CharacterDataLatin1", "isWhitespace", "(I)Z"⟩ : MethodName) = true := plainFor_of_name (by first | (simp [plainName, overriddenIn]; done) | decide +kernel)
theorem pd__I_I : parseMethodDescriptor "(I)I" = some ⟨[.int], some .int⟩ := by decide +kernel
theorem ef_con_isw (m : MethodId) (n : Nat) (ci aa : Addr) (vs : List Value)  : entryFrame m #[(.ref ci), (.int (Int32.ofNat n))] 3 = mkF m 0 #[.val (.ref ci), .val (.int (Int32.ofNat n)), .unset] [] := by first | (simp [entryFrame, mkF, argsToLocals, Value.category]; done) | rfl
set_option maxRecDepth 65536 in
set_option maxHeartbeats 40000000 in
theorem con_isw (l : Launch) (Z : State) (a0 : Array Value) (hw : ∀ d ∈ tables_1, d.before a0 Z = true) (n0 : Nat) (h0 : Heap) (Z0 : n0 ≤ h0.size) (n : Nat) (ci aa : Addr) (vs : List Value) (od0 : Old Z n0 h0) (SI : Sta Z Z.heap "java/lang/CharacterDataLatin1" "instance" "Ljava/lang/CharacterDataLatin1;" (.ref ci)) (XI : Exa Z Z.heap ci "java/lang/CharacterDataLatin1") (SA : Sta Z Z.heap "java/lang/CharacterDataLatin1" "A" "[I" (.ref aa)) (AA : Ary Z Z.heap aa .int vs) (hprop : ∀ n : Nat, 33 ≤ n → n ≤ 255 → ∃ x : Int32, vs[n]? = some (.int x) ∧ ¬ (x &&& (28672 : Int32)) = (16384 : Int32)) (h33 : 33 ≤ n) (h255 : n ≤ 255) :
    Con l Z n0 (⟨"java/lang/CharacterDataLatin1", "isWhitespace", "(I)Z"⟩ : MethodName) jdk_116_method_26_code 3 (some .boolean) ({ frames := 1, cells := 0, slots := 0, locals := 15 } : Room) #[(.ref ci), (.int (Int32.ofNat n))] h0 (Val (PV (.int (0 : Int32)) h0)) := by
  obtain ⟨x, hx, hxn⟩ := hprop n h33 h255
  refine Con.of_run pn_30 (fun m => ef_con_isw m n ci aa vs ) ?_
  refine Run.aloadN d30_0 rfl rfl (pc' := 1) rfl ?_
  refine Run.iloadN d30_1 rfl (pc' := 2) rfl ?_
  refine Run.callV (k' := 0) (n' := 0) (a := ci) (as := [(.int (Int32.ofNat n))]) (rest := []) (con_gpr l Z a0 hw n0 h0 Z0 ci n x ci aa vs od0 SI XI SA AA hprop h255 hx ) (XI.ext od0.2) d30_2 (hw _ (List.mem_of_getElem? (i := 158) rfl)) (hw _ (List.mem_of_getElem? (i := 159) rfl)) (fun s hZ => notFace_of_selects (args := #[]) (mvT hZ (hw _ (List.mem_of_getElem? (i := 161) rfl)))) (hw _ (List.mem_of_getElem? (i := 161) rfl)) (hw _ (List.mem_of_getElem? (i := 160) rfl)) (hw _ (List.mem_of_getElem? (i := 152) rfl)) (hw _ (List.mem_of_getElem? (i := 162) rfl)) (by decide) pd__I_I rfl rfl rfl (by decide) (by show (0 : Nat) + (4 + 11) + 0 ≤ _; decide) (by decide) (by decide) (by decide) (by decide) (pc' := 5) rfl ?_
  rintro _ _ ⟨_, rfl, rfl, rfl⟩
  show Run l Z n0 "java/lang/CharacterDataLatin1" jdk_116_method_26_code 3 (some .boolean) "isWhitespace" ({ frames := 1, cells := 0, slots := 0, locals := 15 } : Room) _ 5 #[.val (.ref ci), .val (.int (Int32.ofNat n)), .unset] [(.int x)] h0 0 0
  refine Run.istoreN (l' := #[.val (.ref ci), .val (.int (Int32.ofNat n)), .val (.int x)]) d30_5 rfl (pc' := 6) rfl ?_
  refine Run.iloadN d30_6 rfl (pc' := 7) rfl ?_
  refine Run.sipush (28672 : Int32) d30_7 (by decide) (pc' := 10) rfl ?_
  refine Run.iand d30_10 (pc' := 11) rfl ?_
  refine Run.sipush (16384 : Int32) d30_11 (by decide) (pc' := 14) rfl ?_
  refine Run.icmp_ne d30_14 (by decide) (pc' := 21) (by decide) (pa := 17) rfl (fun hc14 => ?_) (fun hc14 => ?_)
  · -- pc 14 taken: ¬ (x &&& (28672 : Int32)) = (16384 : Int32)
    refine Run.iconst (0 : Int32) d30_21 (by decide) (pc' := 22) rfl ?_
    exact Run.nreturn d30_22 (ty := .boolean) rfl (by simp) (by decide) (by decide) ⟨_, rfl, rfl, rfl⟩
  · -- pc 14 not taken: (x &&& (28672 : Int32)) = (16384 : Int32)
    exact absurd hc14 hxn
theorem d28_0 : decode jdk_43_method_37_code 0 = .ok (.aload_n 0, 1) := by decide +kernel
theorem d28_1 : decode jdk_43_method_37_code 1 = .ok (.arraylength, 1) := by decide +kernel
theorem d28_2 : decode jdk_43_method_37_code 2 = .ok (.istore_n 1, 1) := by decide +kernel
theorem d28_3 : decode jdk_43_method_37_code 3 = .ok (.iconst 0, 1) := by decide +kernel
theorem d28_4 : decode jdk_43_method_37_code 4 = .ok (.istore_n 2, 1) := by decide +kernel
theorem d28_5 : decode jdk_43_method_37_code 5 = .ok (.iload_n 2, 1) := by decide +kernel
theorem d28_6 : decode jdk_43_method_37_code 6 = .ok (.iload_n 1, 1) := by decide +kernel
theorem d28_7 : decode jdk_43_method_37_code 7 = .ok (.if_icmp .ge 40, 3) := by decide +kernel
theorem d28_10 : decode jdk_43_method_37_code 10 = .ok (.aload_n 0, 1) := by decide +kernel
theorem d28_11 : decode jdk_43_method_37_code 11 = .ok (.iload_n 2, 1) := by decide +kernel
theorem d28_12 : decode jdk_43_method_37_code 12 = .ok (.invokestatic 50, 3) := by decide +kernel
theorem d28_15 : decode jdk_43_method_37_code 15 = .ok (.istore_n 3, 1) := by decide +kernel
theorem d28_16 : decode jdk_43_method_37_code 16 = .ok (.iload_n 3, 1) := by decide +kernel
theorem d28_17 : decode jdk_43_method_37_code 17 = .ok (.bipush 32, 2) := by decide +kernel
theorem d28_19 : decode jdk_43_method_37_code 19 = .ok (.if_icmp .eq 22, 3) := by decide +kernel
theorem d28_22 : decode jdk_43_method_37_code 22 = .ok (.iload_n 3, 1) := by decide +kernel
theorem d28_23 : decode jdk_43_method_37_code 23 = .ok (.bipush 9, 2) := by decide +kernel
theorem d28_25 : decode jdk_43_method_37_code 25 = .ok (.if_icmp .eq 16, 3) := by decide +kernel
theorem d28_28 : decode jdk_43_method_37_code 28 = .ok (.getstatic 66, 3) := by decide +kernel
theorem d28_31 : decode jdk_43_method_37_code 31 = .ok (.iload_n 3, 1) := by decide +kernel
theorem d28_32 : decode jdk_43_method_37_code 32 = .ok (.invokevirtual 211, 3) := by decide +kernel
theorem d28_35 : decode jdk_43_method_37_code 35 = .ok (.ifCond .ne 6, 3) := by decide +kernel
theorem d28_38 : decode jdk_43_method_37_code 38 = .ok (.goto 9, 3) := by decide +kernel
theorem d28_41 : decode jdk_43_method_37_code 41 = .ok (.iinc 2 1, 3) := by decide +kernel
theorem d28_44 : decode jdk_43_method_37_code 44 = .ok (.goto (-39), 3) := by decide +kernel
theorem d28_47 : decode jdk_43_method_37_code 47 = .ok (.iload_n 2, 1) := by decide +kernel
theorem d28_48 : decode jdk_43_method_37_code 48 = .ok (.ireturn, 1) := by decide +kernel
theorem pn_28 : plainFor (⟨"java/lang/StringLatin1", "indexOfNonWhitespace", "([B)I"⟩ : MethodName) = true := plainFor_of_name (by first | (simp [plainName, overriddenIn]; done) | decide +kernel)
theorem pd___BI_C : parseMethodDescriptor "([BI)C" = some ⟨[(.array .byte), .int], some .char⟩ := by decide +kernel
theorem ef_con_lnw (m : MethodId) (b : Addr) (cs : List Int32) (n : Nat) (ci aa : Addr) (vs : List Value)  : entryFrame m #[(.ref b)] 4 = mkF m 0 #[.val (.ref b), .unset, .unset, .unset] [] := by first | (simp [entryFrame, mkF, argsToLocals, Value.category]; done) | rfl
set_option maxRecDepth 65536 in
set_option maxHeartbeats 40000000 in
theorem con_lnw (l : Launch) (Z : State) (a0 : Array Value) (hw : ∀ d ∈ tables_1, d.before a0 Z = true) (n0 : Nat) (h0 : Heap) (Z0 : n0 ≤ h0.size) (b : Addr) (cs : List Int32) (n : Nat) (ci aa : Addr) (vs : List Value) (od0 : Old Z n0 h0) (SI : Sta Z Z.heap "java/lang/CharacterDataLatin1" "instance" "Ljava/lang/CharacterDataLatin1;" (.ref ci)) (XI : Exa Z Z.heap ci "java/lang/CharacterDataLatin1") (SA : Sta Z Z.heap "java/lang/CharacterDataLatin1" "A" "[I" (.ref aa)) (AA : Ary Z Z.heap aa .int vs) (hprop : ∀ n : Nat, 33 ≤ n → n ≤ 255 → ∃ x : Int32, vs[n]? = some (.int x) ∧ ¬ (x &&& (28672 : Int32)) = (16384 : Int32)) (AB : Ary Z h0 b .byte (own_by cs)) (hp : own_pfx cs = cs.length) (hn : cs.length ≤ 2) (hch : own_chr cs) (h0n : 0 < cs.length) (hg : cs.getD 0 0 = Int32.ofNat n) (h33 : 33 ≤ n) (h255 : n ≤ 255) :
    Con l Z n0 (⟨"java/lang/StringLatin1", "indexOfNonWhitespace", "([B)I"⟩ : MethodName) jdk_43_method_37_code 4 (some .int) ({ frames := 2, cells := 0, slots := 0, locals := 29 } : Room) #[(.ref b)] h0 (Val (PV (.int (0 : Int32)) h0)) := by
  refine Con.of_run pn_28 (fun m => ef_con_lnw m b cs n ci aa vs ) ?_
  refine Run.aloadN d28_0 rfl rfl (pc' := 1) rfl ?_
  refine Run.alen (z := (Int32.ofNat cs.length)) d28_1 AB (by rw [show (own_by cs).length = cs.length by simp [own_by]] <;> rfl) (pc' := 2) rfl ?_
  refine Run.istoreN (l' := #[.val (.ref b), .val (.int (Int32.ofNat cs.length)), .unset, .unset]) d28_2 rfl (pc' := 3) rfl ?_
  refine Run.iconst (0 : Int32) d28_3 (by decide) (pc' := 4) rfl ?_
  refine Run.istoreN (l' := #[.val (.ref b), .val (.int (Int32.ofNat cs.length)), .val (.int (0 : Int32)), .unset]) d28_4 rfl (pc' := 5) rfl ?_
  refine Run.iloadN d28_5 rfl (pc' := 6) rfl ?_
  refine Run.iloadN d28_6 rfl (pc' := 7) rfl ?_
  refine Run.icmp_ge d28_7 (by decide) (pc' := 47) (by decide) (pa := 10) rfl (fun hc7 => ?_) (fun hc7 => ?_)
  · -- pc 7 taken: ¬ (0 : Int32) < (Int32.ofNat cs.length)
    exact absurd ((own_lt (i := 0) (by omega) (by omega)).mpr h0n) hc7
  · -- pc 7 not taken: (0 : Int32) < (Int32.ofNat cs.length)
    refine Run.aloadN d28_10 rfl rfl (pc' := 11) rfl ?_
    refine Run.iloadN d28_11 rfl (pc' := 12) rfl ?_
    refine Run.callS (k' := 0) (n' := 0) (as := [(.ref b), (.int (0 : Int32))]) (rest := []) (con_lgc l Z a0 hw n0 h0 Z0  b cs 0 AB hp h0n hn hch) d28_12 (hw _ (List.mem_of_getElem? (i := 148) rfl)) (hw _ (List.mem_of_getElem? (i := 149) rfl)) (hw _ (List.mem_of_getElem? (i := 87) rfl)) (hw _ (List.mem_of_getElem? (i := 150) rfl)) (by decide) pd___BI_C rfl rfl rfl (by decide) (by show (0 : Nat) + (2 + 11) + 0 ≤ _; decide) (by decide) (by decide) (by decide) (by decide) (pc' := 15) rfl ?_
    rintro _ _ ⟨_, rfl, rfl, rfl⟩
    show Run l Z n0 "java/lang/StringLatin1" jdk_43_method_37_code 4 (some .int) "indexOfNonWhitespace" ({ frames := 2, cells := 0, slots := 0, locals := 29 } : Room) _ 15 #[.val (.ref b), .val (.int (Int32.ofNat cs.length)), .val (.int (0 : Int32)), .unset] [(.int (cs.getD 0 0))] h0 0 0
    rw [hg]
    refine Run.istoreN (l' := #[.val (.ref b), .val (.int (Int32.ofNat cs.length)), .val (.int (0 : Int32)), .val (.int (Int32.ofNat n))]) d28_15 rfl (pc' := 16) rfl ?_
    refine Run.iloadN d28_16 rfl (pc' := 17) rfl ?_
    refine Run.bipush (32 : Int32) d28_17 (by decide) (pc' := 19) rfl ?_
    refine Run.icmp_eq d28_19 (by decide) (pc' := 41) (by decide) (pa := 22) rfl (fun hc19 => ?_) (fun hc19 => ?_)
    · -- pc 19 taken: (Int32.ofNat n) = (32 : Int32)
      exact absurd hc19 (own_n33 (m := 32) (by omega) h255)
    · -- pc 19 not taken: ¬ (Int32.ofNat n) = (32 : Int32)
      refine Run.iloadN d28_22 rfl (pc' := 23) rfl ?_
      refine Run.bipush (9 : Int32) d28_23 (by decide) (pc' := 25) rfl ?_
      refine Run.icmp_eq d28_25 (by decide) (pc' := 41) (by decide) (pa := 28) rfl (fun hc25 => ?_) (fun hc25 => ?_)
      · -- pc 25 taken: (Int32.ofNat n) = (9 : Int32)
        exact absurd hc25 (own_n33 (m := 9) (by omega) h255)
      · -- pc 25 not taken: ¬ (Int32.ofNat n) = (9 : Int32)
        refine Run.getS d28_28 (host := "") (Or.inl (hw _ (List.mem_of_getElem? (i := 151) rfl))) Via.refl (SI.ext od0.2) (pc' := 31) rfl ?_
        refine Run.iloadN d28_31 rfl (pc' := 32) rfl ?_
        refine Run.callV (k' := 0) (n' := 0) (a := ci) (as := [(.int (Int32.ofNat n))]) (rest := []) (con_isw l Z a0 hw n0 h0 Z0 n ci aa vs od0 SI XI SA AA hprop h33 h255 ) (XI.ext od0.2) d28_32 (hw _ (List.mem_of_getElem? (i := 153) rfl)) (hw _ (List.mem_of_getElem? (i := 154) rfl)) (fun s hZ => notFace_of_selects (args := #[]) (mvT hZ (hw _ (List.mem_of_getElem? (i := 156) rfl)))) (hw _ (List.mem_of_getElem? (i := 156) rfl)) (hw _ (List.mem_of_getElem? (i := 155) rfl)) (hw _ (List.mem_of_getElem? (i := 152) rfl)) (hw _ (List.mem_of_getElem? (i := 157) rfl)) (by decide) pd__I_Z rfl rfl rfl (by decide) (by show (0 : Nat) + (3 + 11) + 15 ≤ _; decide) (by decide) (by decide) (by decide) (by decide) (pc' := 35) rfl ?_
        rintro _ _ ⟨_, rfl, rfl, rfl⟩
        show Run l Z n0 "java/lang/StringLatin1" jdk_43_method_37_code 4 (some .int) "indexOfNonWhitespace" ({ frames := 2, cells := 0, slots := 0, locals := 29 } : Room) _ 35 #[.val (.ref b), .val (.int (Int32.ofNat cs.length)), .val (.int (0 : Int32)), .val (.int (Int32.ofNat n))] [(.int (0 : Int32))] h0 0 0
        refine Run.if_ne d28_35 (by decide) (pc' := 41) (by decide) (pa := 38) rfl (fun hc35 => ?_) (fun hc35 => ?_)
        · -- pc 35 taken: ¬ (0 : Int32) = (0 : Int32)
          exact absurd hc35 (by decide)
        · -- pc 35 not taken: (0 : Int32) = (0 : Int32)
          refine Run.goto d28_38 (by decide) (pc' := 47) (by decide) ?_
          refine Run.iloadN d28_47 rfl (pc' := 48) rfl ?_
          exact Run.ireturn d28_48 rfl (by decide) (by decide) ⟨_, rfl, rfl, rfl⟩
theorem d27_0 : decode jdk_42_method_120_code 0 = .ok (.aload_n 0, 1) := by decide +kernel
theorem d27_1 : decode jdk_42_method_120_code 1 = .ok (.invokevirtual 492, 3) := by decide +kernel
theorem d27_4 : decode jdk_42_method_120_code 4 = .ok (.ifCond .eq 13, 3) := by decide +kernel
theorem d27_7 : decode jdk_42_method_120_code 7 = .ok (.aload_n 0, 1) := by decide +kernel
theorem d27_8 : decode jdk_42_method_120_code 8 = .ok (.getfield 9, 3) := by decide +kernel
theorem d27_11 : decode jdk_42_method_120_code 11 = .ok (.invokestatic 924, 3) := by decide +kernel
theorem d27_14 : decode jdk_42_method_120_code 14 = .ok (.goto 10, 3) := by decide +kernel
theorem d27_17 : decode jdk_42_method_120_code 17 = .ok (.aload_n 0, 1) := by decide +kernel
theorem d27_18 : decode jdk_42_method_120_code 18 = .ok (.getfield 9, 3) := by decide +kernel
theorem d27_21 : decode jdk_42_method_120_code 21 = .ok (.invokestatic 926, 3) := by decide +kernel
theorem d27_24 : decode jdk_42_method_120_code 24 = .ok (.ireturn, 1) := by decide +kernel
theorem pn_27 : plainFor (⟨"java/lang/String", "indexOfNonWhitespace", "()I"⟩ : MethodName) = true := plainFor_of_name (by first | (simp [plainName, overriddenIn]; done) | decide +kernel)
theorem pd___B_I : parseMethodDescriptor "([B)I" = some ⟨[(.array .byte)], some .int⟩ := by decide +kernel
theorem ef_con_snw (m : MethodId) (t b : Addr) (cs : List Int32) (n : Nat) (cz : Int32) (ci aa : Addr) (vs : List Value)  : entryFrame m #[(.ref t)] 1 = mkF m 0 #[.val (.ref t)] [] := by first | (simp [entryFrame, mkF, argsToLocals, Value.category]; done) | rfl
set_option maxRecDepth 65536 in
set_option maxHeartbeats 40000000 in
theorem con_snw (l : Launch) (Z : State) (a0 : Array Value) (hw : ∀ d ∈ tables_1, d.before a0 Z = true) (n0 : Nat) (h0 : Heap) (Z0 : n0 ≤ h0.size) (t b : Addr) (cs : List Int32) (n : Nat) (cz : Int32) (ci aa : Addr) (vs : List Value) (od0 : Old Z n0 h0) (SZ : Sta Z Z.heap "java/lang/String" "COMPACT_STRINGS" "Z" (.int cz)) (hcz : ¬ cz = 0) (SI : Sta Z Z.heap "java/lang/CharacterDataLatin1" "instance" "Ljava/lang/CharacterDataLatin1;" (.ref ci)) (XI : Exa Z Z.heap ci "java/lang/CharacterDataLatin1") (SA : Sta Z Z.heap "java/lang/CharacterDataLatin1" "A" "[I" (.ref aa)) (AA : Ary Z Z.heap aa .int vs) (hprop : ∀ n : Nat, 33 ≤ n → n ≤ 255 → ∃ x : Int32, vs[n]? = some (.int x) ∧ ¬ (x &&& (28672 : Int32)) = (16384 : Int32)) (E1 : Exa Z h0 t "java/lang/String") (FV : Fld Z h0 t "java/lang/String" "value" "[B" (.ref b)) (FC : Fld Z h0 t "java/lang/String" "coder" "B" (.int (own_coder cs))) (AB : Ary Z h0 b .byte (own_enc cs)) (hp : own_pfx cs = cs.length) (hn : cs.length ≤ 2) (hch : own_chr cs) (h0n : 0 < cs.length) (hg : cs.getD 0 0 = Int32.ofNat n) (h33 : 33 ≤ n) (h255 : n ≤ 255) :
    Con l Z n0 (⟨"java/lang/String", "indexOfNonWhitespace", "()I"⟩ : MethodName) jdk_42_method_120_code 1 (some .int) ({ frames := 3, cells := 0, slots := 0, locals := 44 } : Room) #[(.ref t)] h0 (Val (PV (.int (0 : Int32)) h0)) := by
  refine Con.of_run pn_27 (fun m => ef_con_snw m t b cs n cz ci aa vs ) ?_
  refine Run.aloadN d27_0 rfl rfl (pc' := 1) rfl ?_
  refine Run.callV (k' := 0) (n' := 0) (a := t) (as := []) (rest := []) (con_isl l Z a0 hw n0 h0 Z0 t cs cz od0 SZ hcz FC ) E1 d27_1 (hw _ (List.mem_of_getElem? (i := 68) rfl)) (hw _ (List.mem_of_getElem? (i := 69) rfl)) (fun s hZ => notFace_of_selects (args := #[]) (mvT hZ (hw _ (List.mem_of_getElem? (i := 71) rfl)))) (hw _ (List.mem_of_getElem? (i := 71) rfl)) (hw _ (List.mem_of_getElem? (i := 70) rfl)) (hw _ (List.mem_of_getElem? (i := 16) rfl)) (hw _ (List.mem_of_getElem? (i := 72) rfl)) (by decide) pd___Z rfl rfl rfl (by decide) (by show (0 : Nat) + (1 + 11) + 0 ≤ _; decide) (by decide) (by decide) (by decide) (by decide) (pc' := 4) rfl ?_
  rintro _ _ ⟨_, rfl, rfl, rfl⟩
  show Run l Z n0 "java/lang/String" jdk_42_method_120_code 1 (some .int) "indexOfNonWhitespace" ({ frames := 3, cells := 0, slots := 0, locals := 44 } : Room) _ 4 #[.val (.ref t)] [(.int (own_isl cs))] h0 0 0
  refine Run.if_eq d27_4 (by decide) (pc' := 17) (by decide) (pa := 7) rfl (fun hc4 => ?_) (fun hc4 => ?_)
  · -- pc 4 taken: (own_isl cs) = (0 : Int32)
    exact absurd hp (own_isl0 hc4)
  · -- pc 4 not taken: ¬ (own_isl cs) = (0 : Int32)
    refine Run.aloadN d27_7 rfl rfl (pc' := 8) rfl ?_
    refine Run.getF d27_8 (host := "") (Or.inl (hw _ (List.mem_of_getElem? (i := 57) rfl))) Via.refl FV (pc' := 11) rfl ?_
    refine Run.callS (k' := 0) (n' := 0) (as := [(.ref b)]) (rest := []) (con_lnw l Z a0 hw n0 h0 Z0  b cs n ci aa vs od0 SI XI SA AA hprop (own_encP hp ▸ AB) hp hn hch h0n hg h33 h255) d27_11 (hw _ (List.mem_of_getElem? (i := 145) rfl)) (hw _ (List.mem_of_getElem? (i := 146) rfl)) (hw _ (List.mem_of_getElem? (i := 87) rfl)) (hw _ (List.mem_of_getElem? (i := 147) rfl)) (by decide) pd___B_I rfl rfl rfl (by decide) (by show (0 : Nat) + (4 + 11) + 29 ≤ _; decide) (by decide) (by decide) (by decide) (by decide) (pc' := 14) rfl ?_
    rintro _ _ ⟨_, rfl, rfl, rfl⟩
    show Run l Z n0 "java/lang/String" jdk_42_method_120_code 1 (some .int) "indexOfNonWhitespace" ({ frames := 3, cells := 0, slots := 0, locals := 44 } : Room) _ 14 #[.val (.ref t)] [(.int (0 : Int32))] h0 0 0
    refine Run.goto d27_14 (by decide) (pc' := 24) (by decide) ?_
    exact Run.ireturn d27_24 rfl (by decide) (by decide) ⟨_, rfl, rfl, rfl⟩
theorem own_zne {n : Nat} (h : 0 < n) (h2 : n < 2 ^ 31) : ¬ (0 : Int32) = Int32.ofNat n := fun e => by have h1 := own_ofn h2; rw [← e, own_z] at h1; omega
theorem d26_0 : decode jdk_42_method_117_code 0 = .ok (.aload_n 0, 1) := by decide +kernel
theorem d26_1 : decode jdk_42_method_117_code 1 = .ok (.invokevirtual 876, 3) := by decide +kernel
theorem d26_4 : decode jdk_42_method_117_code 4 = .ok (.aload_n 0, 1) := by decide +kernel
theorem d26_5 : decode jdk_42_method_117_code 5 = .ok (.invokevirtual 505, 3) := by decide +kernel
theorem d26_8 : decode jdk_42_method_117_code 8 = .ok (.if_icmp .ne 7, 3) := by decide +kernel
theorem d26_11 : decode jdk_42_method_117_code 11 = .ok (.iconst 1, 1) := by decide +kernel
theorem d26_12 : decode jdk_42_method_117_code 12 = .ok (.goto 4, 3) := by decide +kernel
theorem d26_15 : decode jdk_42_method_117_code 15 = .ok (.iconst 0, 1) := by decide +kernel
theorem d26_16 : decode jdk_42_method_117_code 16 = .ok (.ireturn, 1) := by decide +kernel
theorem pn_26 : plainFor (⟨"java/lang/String", "isBlank", "()Z"⟩ : MethodName) = true := plainFor_of_name (by first | (simp [plainName, overriddenIn]; done) | decide +kernel)
theorem ef_con_isb (m : MethodId) (t b : Addr) (cs : List Int32) (n : Nat) (cz : Int32) (ci aa : Addr) (vs : List Value)  : entryFrame m #[(.ref t)] 1 = mkF m 0 #[.val (.ref t)] [] := by first | (simp [entryFrame, mkF, argsToLocals, Value.category]; done) | rfl
set_option maxRecDepth 65536 in
set_option maxHeartbeats 40000000 in
theorem con_isb (l : Launch) (Z : State) (a0 : Array Value) (hw : ∀ d ∈ tables_1, d.before a0 Z = true) (n0 : Nat) (h0 : Heap) (Z0 : n0 ≤ h0.size) (t b : Addr) (cs : List Int32) (n : Nat) (cz : Int32) (ci aa : Addr) (vs : List Value) (od0 : Old Z n0 h0) (SZ : Sta Z Z.heap "java/lang/String" "COMPACT_STRINGS" "Z" (.int cz)) (hcz : ¬ cz = 0) (SI : Sta Z Z.heap "java/lang/CharacterDataLatin1" "instance" "Ljava/lang/CharacterDataLatin1;" (.ref ci)) (XI : Exa Z Z.heap ci "java/lang/CharacterDataLatin1") (SA : Sta Z Z.heap "java/lang/CharacterDataLatin1" "A" "[I" (.ref aa)) (AA : Ary Z Z.heap aa .int vs) (hprop : ∀ n : Nat, 33 ≤ n → n ≤ 255 → ∃ x : Int32, vs[n]? = some (.int x) ∧ ¬ (x &&& (28672 : Int32)) = (16384 : Int32)) (E1 : Exa Z h0 t "java/lang/String") (FV : Fld Z h0 t "java/lang/String" "value" "[B" (.ref b)) (FC : Fld Z h0 t "java/lang/String" "coder" "B" (.int (own_coder cs))) (AB : Ary Z h0 b .byte (own_enc cs)) (hp : own_pfx cs = cs.length) (hn : cs.length ≤ 2) (hch : own_chr cs) (h0n : 0 < cs.length) (hg : cs.getD 0 0 = Int32.ofNat n) (h33 : 33 ≤ n) (h255 : n ≤ 255) :
    Con l Z n0 (⟨"java/lang/String", "isBlank", "()Z"⟩ : MethodName) jdk_42_method_117_code 1 (some .boolean) ({ frames := 4, cells := 0, slots := 0, locals := 56 } : Room) #[(.ref t)] h0 (Val (PV (.int (0 : Int32)) h0)) := by
  refine Con.of_run pn_26 (fun m => ef_con_isb m t b cs n cz ci aa vs ) ?_
  refine Run.aloadN d26_0 rfl rfl (pc' := 1) rfl ?_
  refine Run.callV (k' := 0) (n' := 0) (a := t) (as := []) (rest := []) (con_snw l Z a0 hw n0 h0 Z0 t b cs n cz ci aa vs od0 SZ hcz SI XI SA AA hprop E1 FV FC AB  hp hn hch h0n hg h33 h255 ) E1 d26_1 (hw _ (List.mem_of_getElem? (i := 140) rfl)) (own_decl (hw _ (List.mem_of_getElem? (i := 141) rfl)) (hw _ (List.mem_of_getElem? (i := 144) rfl))) (fun s hZ => notFace_of_selects (args := #[]) (mvT hZ (hw _ (List.mem_of_getElem? (i := 143) rfl)))) (hw _ (List.mem_of_getElem? (i := 143) rfl)) (hw _ (List.mem_of_getElem? (i := 141) rfl)) (hw _ (List.mem_of_getElem? (i := 16) rfl)) (hw _ (List.mem_of_getElem? (i := 144) rfl)) (by decide) pd___I rfl rfl rfl (by decide) (by show (0 : Nat) + (1 + 11) + 44 ≤ _; decide) (by decide) (by decide) (by decide) (by decide) (pc' := 4) rfl ?_
  rintro _ _ ⟨_, rfl, rfl, rfl⟩
  show Run l Z n0 "java/lang/String" jdk_42_method_117_code 1 (some .boolean) "isBlank" ({ frames := 4, cells := 0, slots := 0, locals := 56 } : Room) _ 4 #[.val (.ref t)] [(.int (0 : Int32))] h0 0 0
  refine Run.aloadN d26_4 rfl rfl (pc' := 5) rfl ?_
  refine Run.callV (k' := 0) (n' := 0) (a := t) (as := []) (rest := [(.int (0 : Int32))]) (con_len l Z a0 hw n0 h0 Z0 t b cs cz od0 SZ hcz E1 FV FC AB hn) E1 d26_5 (hw _ (List.mem_of_getElem? (i := 75) rfl)) (hw _ (List.mem_of_getElem? (i := 76) rfl)) (fun s hZ => notFace_of_selects (args := #[]) (mvT hZ (hw _ (List.mem_of_getElem? (i := 78) rfl)))) (hw _ (List.mem_of_getElem? (i := 78) rfl)) (hw _ (List.mem_of_getElem? (i := 77) rfl)) (hw _ (List.mem_of_getElem? (i := 16) rfl)) (hw _ (List.mem_of_getElem? (i := 79) rfl)) (by decide) pd___I rfl rfl rfl (by decide) (by show (1 : Nat) + (1 + 11) + 13 ≤ _; decide) (by decide) (by decide) (by decide) (by decide) (pc' := 8) rfl ?_
  rintro _ _ ⟨_, rfl, rfl, rfl⟩
  show Run l Z n0 "java/lang/String" jdk_42_method_117_code 1 (some .boolean) "isBlank" ({ frames := 4, cells := 0, slots := 0, locals := 56 } : Room) _ 8 #[.val (.ref t)] [(.int (Int32.ofNat cs.length)), (.int (0 : Int32))] h0 0 0
  refine Run.icmp_ne d26_8 (by decide) (pc' := 15) (by decide) (pa := 11) rfl (fun hc8 => ?_) (fun hc8 => ?_)
  · -- pc 8 taken: ¬ (0 : Int32) = (Int32.ofNat cs.length)
    refine Run.iconst (0 : Int32) d26_15 (by decide) (pc' := 16) rfl ?_
    exact Run.nreturn d26_16 (ty := .boolean) rfl (by simp) (by decide) (by decide) ⟨_, rfl, rfl, rfl⟩
  · -- pc 8 not taken: (0 : Int32) = (Int32.ofNat cs.length)
    exact absurd hc8 (own_zne h0n (by omega))
def own_kd (kv ki ku : Addr) (k : Int32) : Addr := if k = 0 then kv else if k = 1 then ki else ku
theorem d5_0 : decode method_3_code 0 = .ok (.iload_n 0, 1) := by decide +kernel
theorem d5_1 : decode method_3_code 1 = .ok (.ifCond .ne 7, 3) := by decide +kernel
theorem d5_4 : decode method_3_code 4 = .ok (.getstatic 45, 3) := by decide +kernel
theorem d5_7 : decode method_3_code 7 = .ok (.areturn, 1) := by decide +kernel
theorem d5_8 : decode method_3_code 8 = .ok (.iload_n 0, 1) := by decide +kernel
theorem d5_9 : decode method_3_code 9 = .ok (.iconst 1, 1) := by decide +kernel
theorem d5_10 : decode method_3_code 10 = .ok (.if_icmp .ne 7, 3) := by decide +kernel
theorem d5_13 : decode method_3_code 13 = .ok (.getstatic 51, 3) := by decide +kernel
theorem d5_16 : decode method_3_code 16 = .ok (.areturn, 1) := by decide +kernel
theorem d5_17 : decode method_3_code 17 = .ok (.getstatic 54, 3) := by decide +kernel
theorem d5_20 : decode method_3_code 20 = .ok (.areturn, 1) := by decide +kernel
theorem pn_5 : plainFor (⟨"com/example/wireform/wireform/rules/VerdictEqualsPinLaw", "kindOf", "(I)Lcom/example/wireform/wireform/rules/Verdict$Kind;"⟩ : MethodName) = true := plainFor_of_name (by first | (simp [plainName, overriddenIn]; done) | decide +kernel)
theorem ef_con_kof (m : MethodId) (k : Int32) (kv ki ku : Addr)  : entryFrame m #[(.int k)] 1 = mkF m 0 #[.val (.int k)] [] := by first | (simp [entryFrame, mkF, argsToLocals, Value.category]; done) | rfl
set_option maxRecDepth 65536 in
set_option maxHeartbeats 40000000 in
theorem con_kof (l : Launch) (Z : State) (a0 : Array Value) (hw : ∀ d ∈ tables_1, d.before a0 Z = true) (n0 : Nat) (h0 : Heap) (Z0 : n0 ≤ h0.size) (k : Int32) (kv ki ku : Addr) (od0 : Old Z n0 h0) (SV : Sta Z Z.heap "com/example/wireform/wireform/rules/Verdict$Kind" "VALID" "Lcom/example/wireform/wireform/rules/Verdict$Kind;" (.ref kv)) (SN : Sta Z Z.heap "com/example/wireform/wireform/rules/Verdict$Kind" "INVALID" "Lcom/example/wireform/wireform/rules/Verdict$Kind;" (.ref ki)) (SU : Sta Z Z.heap "com/example/wireform/wireform/rules/Verdict$Kind" "UNDELIVERABLE" "Lcom/example/wireform/wireform/rules/Verdict$Kind;" (.ref ku)) :
    Con l Z n0 (⟨"com/example/wireform/wireform/rules/VerdictEqualsPinLaw", "kindOf", "(I)Lcom/example/wireform/wireform/rules/Verdict$Kind;"⟩ : MethodName) method_3_code 1 (some (.object "com/example/wireform/wireform/rules/Verdict$Kind")) ({ frames := 0, cells := 0, slots := 0, locals := 0 } : Room) #[(.int k)] h0 (Val (PV (.ref (own_kd kv ki ku k)) h0)) := by
  refine Con.of_run pn_5 (fun m => ef_con_kof m k kv ki ku ) ?_
  refine Run.iloadN d5_0 rfl (pc' := 1) rfl ?_
  refine Run.if_ne d5_1 (by decide) (pc' := 8) (by decide) (pa := 4) rfl (fun hc1 => ?_) (fun hc1 => ?_)
  · -- pc 1 taken: ¬ k = (0 : Int32)
    refine Run.iloadN d5_8 rfl (pc' := 9) rfl ?_
    refine Run.iconst (1 : Int32) d5_9 (by decide) (pc' := 10) rfl ?_
    refine Run.icmp_ne d5_10 (by decide) (pc' := 17) (by decide) (pa := 13) rfl (fun hc10 => ?_) (fun hc10 => ?_)
    · -- pc 10 taken: ¬ k = (1 : Int32)
      refine Run.getS d5_17 (host := "") (Or.inl (hw _ (List.mem_of_getElem? (i := 198) rfl))) Via.refl (SU.ext od0.2) (pc' := 20) rfl ?_
      exact Run.areturn d5_20 (ty := (.object "com/example/wireform/wireform/rules/Verdict$Kind")) rfl rfl rfl (by decide) (by decide) ⟨_, rfl, congrArg Value.ref (by unfold own_kd; rw [if_neg hc1, if_neg hc10]), rfl⟩
    · -- pc 10 not taken: k = (1 : Int32)
      refine Run.getS d5_13 (host := "") (Or.inl (hw _ (List.mem_of_getElem? (i := 134) rfl))) Via.refl (SN.ext od0.2) (pc' := 16) rfl ?_
      exact Run.areturn d5_16 (ty := (.object "com/example/wireform/wireform/rules/Verdict$Kind")) rfl rfl rfl (by decide) (by decide) ⟨_, rfl, congrArg Value.ref (by unfold own_kd; rw [if_neg hc1, if_pos hc10]), rfl⟩
  · -- pc 1 not taken: k = (0 : Int32)
    refine Run.getS d5_4 (host := "") (Or.inl (hw _ (List.mem_of_getElem? (i := 29) rfl))) Via.refl (SV.ext od0.2) (pc' := 7) rfl ?_
    exact Run.areturn d5_7 (ty := (.object "com/example/wireform/wireform/rules/Verdict$Kind")) rfl rfl rfl (by decide) (by decide) ⟨_, rfl, congrArg Value.ref (by unfold own_kd; rw [if_pos hc1]), rfl⟩
theorem d9_0 : decode jdk_31_method_11_code 0 = .ok (.aload_n 0, 1) := by decide +kernel
theorem d9_1 : decode jdk_31_method_11_code 1 = .ok (.ifnonnull 12, 3) := by decide +kernel
theorem d9_13 : decode jdk_31_method_11_code 13 = .ok (.aload_n 0, 1) := by decide +kernel
theorem d9_14 : decode jdk_31_method_11_code 14 = .ok (.areturn, 1) := by decide +kernel
theorem pn_9 : plainFor (⟨"java/util/Objects", "requireNonNull", "(Ljava/lang/Object;Ljava/lang/String;)Ljava/lang/Object;"⟩ : MethodName) = true := plainFor_of_name (by first | (simp [plainName, overriddenIn]; done) | decide +kernel)
theorem ef_con_rnn (m : MethodId) (a1 a2 : Addr)  : entryFrame m #[(.ref a1), (.ref a2)] 2 = mkF m 0 #[.val (.ref a1), .val (.ref a2)] [] := by first | (simp [entryFrame, mkF, argsToLocals, Value.category]; done) | rfl
set_option maxRecDepth 65536 in
set_option maxHeartbeats 40000000 in
theorem con_rnn (l : Launch) (Z : State) (a0 : Array Value) (hw : ∀ d ∈ tables_1, d.before a0 Z = true) (n0 : Nat) (h0 : Heap) (Z0 : n0 ≤ h0.size) (a1 a2 : Addr)  :
    Con l Z n0 (⟨"java/util/Objects", "requireNonNull", "(Ljava/lang/Object;Ljava/lang/String;)Ljava/lang/Object;"⟩ : MethodName) jdk_31_method_11_code 2 (some (.object "java/lang/Object")) ({ frames := 0, cells := 0, slots := 0, locals := 0 } : Room) #[(.ref a1), (.ref a2)] h0 (Val (PV (.ref a1) h0)) := by
  refine Con.of_run pn_9 (fun m => ef_con_rnn m a1 a2 ) ?_
  refine Run.aloadN d9_0 rfl rfl (pc' := 1) rfl ?_
  refine Run.ifnonnull d9_1 rfl (by decide) (pc' := 13) (by decide) (pa := 4) rfl (fun hc1 => ?_) (fun hc1 => ?_)
  · -- pc 1 taken: ¬ (.ref a1) = .null
    refine Run.aloadN d9_13 rfl rfl (pc' := 14) rfl ?_
    exact Run.areturn d9_14 (ty := (.object "java/lang/Object")) rfl rfl rfl (by decide) (by decide) ⟨_, rfl, rfl, rfl⟩
  · -- pc 1 not taken: (.ref a1) = .null
    exact absurd hc1 (by simp)
theorem d7_0 : decode jdk_30_method_1_code 0 = .ok (.aload_n 0, 1) := by decide +kernel
theorem d7_1 : decode jdk_30_method_1_code 1 = .ok (.invokespecial 1, 3) := by decide +kernel
theorem d7_4 : decode jdk_30_method_1_code 4 = .ok (.return_, 1) := by decide +kernel
theorem pn_7 : plainFor (⟨"java/lang/Record", "<init>", "()V"⟩ : MethodName) = true := plainFor_of_name (by first | (simp [plainName, overriddenIn]; done) | decide +kernel)
theorem ef_con_rec (m : MethodId) (a1 : Addr)  : entryFrame m #[(.ref a1)] 1 = mkF m 0 #[.val (.ref a1)] [] := by first | (simp [entryFrame, mkF, argsToLocals, Value.category]; done) | rfl
set_option maxRecDepth 65536 in
set_option maxHeartbeats 40000000 in
theorem con_rec (l : Launch) (Z : State) (a0 : Array Value) (hw : ∀ d ∈ tables_1, d.before a0 Z = true) (n0 : Nat) (h0 : Heap) (Z0 : n0 ≤ h0.size) (a1 : Addr)  :
    Con l Z n0 (⟨"java/lang/Record", "<init>", "()V"⟩ : MethodName) jdk_30_method_1_code 1 none ({ frames := 1, cells := 0, slots := 0, locals := 12 } : Room) #[(.ref a1)] h0 (Vd fun h' => h0 = h') := by
  refine Con.of_run pn_7 (fun m => ef_con_rec m a1 ) ?_
  refine Run.aloadN d7_0 rfl rfl (pc' := 1) rfl ?_
  refine Run.initO d7_1 (hw _ (List.mem_of_getElem? (i := 40) rfl)) (hw _ (List.mem_of_getElem? (i := 41) rfl)) (hw _ (List.mem_of_getElem? (i := 42) rfl)) rfl (by decide) (by show (0 : Nat) + 12 ≤ _; decide) (pc' := 4) rfl ?_
  exact Run.vreturn d7_4 rfl (by decide) (by decide) ⟨rfl, rfl⟩
def own_EL : List (String × Nat) := [("com/example/wireform/wireform/rules/VerdictEqualsPinLaw", 63), ("com/example/wireform/wireform/rules/Verdict", 7), ("com/example/wireform/wireform/rules/Verdict", 15)]
theorem own_EW {Z : State} {a0 : Array Value} (hw : ∀ d ∈ tables_1, d.before a0 Z = true) : EW Z a0 own_EL := EW.cons (hw _ (List.mem_of_getElem? (i := 15) rfl)) (by decide) (EW.cons (hw _ (List.mem_of_getElem? (i := 43) rfl)) (by decide) (EW.cons (hw _ (List.mem_of_getElem? (i := 48) rfl)) (by decide) (EW.nil)))
theorem own_wS {Z : State} {a0 : Array Value} (hw : ∀ d ∈ tables_1, d.before a0 Z = true) : ∀ a ∈ Bundle.stringAtoms, a.before a0 Z = true := by
  intro d hd
  simp only [Bundle.stringAtoms, List.mem_cons, List.not_mem_nil, or_false] at hd
  rcases hd with rfl | rfl | rfl | rfl | rfl | rfl | rfl
  · exact (hw _ (List.mem_of_getElem? (i := 16) rfl))
  · exact (hw _ (List.mem_of_getElem? (i := 17) rfl))
  · exact (hw _ (List.mem_of_getElem? (i := 18) rfl))
  · exact (hw _ (List.mem_of_getElem? (i := 19) rfl))
  · exact (hw _ (List.mem_of_getElem? (i := 20) rfl))
  · exact (hw _ (List.mem_of_getElem? (i := 21) rfl))
  · exact (hw _ (List.mem_of_getElem? (i := 22) rfl))
theorem own_heldc {tb : Tables} {e : Env} {args : Array Value} {s : State} (h : Calls_1 tb e args s) : ∀ p ∈ own_EL, Jvm.Lit.constHeld s p.1 p.2 := by
  intro p hp
  refine h.1 p ?_
  have : ∀ p ∈ own_EL, p ∈ consts_1 := by decide
  exact this p hp
theorem d6_0 : decode prog_47_method_1_code 0 = .ok (.aload_n 0, 1) := by decide +kernel
theorem d6_1 : decode prog_47_method_1_code 1 = .ok (.invokespecial 1, 3) := by decide +kernel
theorem d6_4 : decode prog_47_method_1_code 4 = .ok (.aload_n 1, 1) := by decide +kernel
theorem d6_5 : decode prog_47_method_1_code 5 = .ok (.ldc 7, 2) := by decide +kernel
theorem d6_7 : decode prog_47_method_1_code 7 = .ok (.invokestatic 9, 3) := by decide +kernel
theorem d6_10 : decode prog_47_method_1_code 10 = .ok (.pop, 1) := by decide +kernel
theorem d6_11 : decode prog_47_method_1_code 11 = .ok (.aload_n 3, 1) := by decide +kernel
theorem d6_12 : decode prog_47_method_1_code 12 = .ok (.ldc 15, 2) := by decide +kernel
theorem d6_14 : decode prog_47_method_1_code 14 = .ok (.invokestatic 9, 3) := by decide +kernel
theorem d6_17 : decode prog_47_method_1_code 17 = .ok (.pop, 1) := by decide +kernel
theorem d6_18 : decode prog_47_method_1_code 18 = .ok (.aload_n 1, 1) := by decide +kernel
theorem d6_19 : decode prog_47_method_1_code 19 = .ok (.getstatic 17, 3) := by decide +kernel
theorem d6_22 : decode prog_47_method_1_code 22 = .ok (.if_acmp .ne 15, 3) := by decide +kernel
theorem d6_25 : decode prog_47_method_1_code 25 = .ok (.iload_n 2, 1) := by decide +kernel
theorem d6_26 : decode prog_47_method_1_code 26 = .ok (.ifCond .ne 7, 3) := by decide +kernel
theorem d6_29 : decode prog_47_method_1_code 29 = .ok (.iconst 1, 1) := by decide +kernel
theorem d6_30 : decode prog_47_method_1_code 30 = .ok (.goto 17, 3) := by decide +kernel
theorem d6_33 : decode prog_47_method_1_code 33 = .ok (.iconst 0, 1) := by decide +kernel
theorem d6_34 : decode prog_47_method_1_code 34 = .ok (.goto 13, 3) := by decide +kernel
theorem d6_37 : decode prog_47_method_1_code 37 = .ok (.iload_n 2, 1) := by decide +kernel
theorem d6_38 : decode prog_47_method_1_code 38 = .ok (.iconst 1, 1) := by decide +kernel
theorem d6_39 : decode prog_47_method_1_code 39 = .ok (.if_icmp .lt 7, 3) := by decide +kernel
theorem d6_42 : decode prog_47_method_1_code 42 = .ok (.iconst 1, 1) := by decide +kernel
theorem d6_43 : decode prog_47_method_1_code 43 = .ok (.goto 4, 3) := by decide +kernel
theorem d6_46 : decode prog_47_method_1_code 46 = .ok (.iconst 0, 1) := by decide +kernel
theorem d6_47 : decode prog_47_method_1_code 47 = .ok (.istore 4, 2) := by decide +kernel
theorem d6_49 : decode prog_47_method_1_code 49 = .ok (.iload 4, 2) := by decide +kernel
theorem d6_51 : decode prog_47_method_1_code 51 = .ok (.ifCond .ne 21, 3) := by decide +kernel
theorem d6_72 : decode prog_47_method_1_code 72 = .ok (.aload_n 1, 1) := by decide +kernel
theorem d6_73 : decode prog_47_method_1_code 73 = .ok (.getstatic 38, 3) := by decide +kernel
theorem d6_76 : decode prog_47_method_1_code 76 = .ok (.if_acmp .ne 18, 3) := by decide +kernel
theorem d6_79 : decode prog_47_method_1_code 79 = .ok (.aload_n 3, 1) := by decide +kernel
theorem d6_80 : decode prog_47_method_1_code 80 = .ok (.invokevirtual 41, 3) := by decide +kernel
theorem d6_83 : decode prog_47_method_1_code 83 = .ok (.ifCond .ne 7, 3) := by decide +kernel
theorem d6_86 : decode prog_47_method_1_code 86 = .ok (.iconst 1, 1) := by decide +kernel
theorem d6_87 : decode prog_47_method_1_code 87 = .ok (.goto 11, 3) := by decide +kernel
theorem d6_90 : decode prog_47_method_1_code 90 = .ok (.iconst 0, 1) := by decide +kernel
theorem d6_91 : decode prog_47_method_1_code 91 = .ok (.goto 7, 3) := by decide +kernel
theorem d6_94 : decode prog_47_method_1_code 94 = .ok (.aload_n 3, 1) := by decide +kernel
theorem d6_95 : decode prog_47_method_1_code 95 = .ok (.invokevirtual 45, 3) := by decide +kernel
theorem d6_98 : decode prog_47_method_1_code 98 = .ok (.istore 5, 2) := by decide +kernel
theorem d6_100 : decode prog_47_method_1_code 100 = .ok (.iload 5, 2) := by decide +kernel
theorem d6_102 : decode prog_47_method_1_code 102 = .ok (.ifCond .ne 21, 3) := by decide +kernel
theorem d6_123 : decode prog_47_method_1_code 123 = .ok (.aload_n 3, 1) := by decide +kernel
theorem d6_124 : decode prog_47_method_1_code 124 = .ok (.bipush 10, 2) := by decide +kernel
theorem d6_126 : decode prog_47_method_1_code 126 = .ok (.invokevirtual 51, 3) := by decide +kernel
theorem d6_129 : decode prog_47_method_1_code 129 = .ok (.ifCond .ge 12, 3) := by decide +kernel
theorem d6_132 : decode prog_47_method_1_code 132 = .ok (.aload_n 3, 1) := by decide +kernel
theorem d6_133 : decode prog_47_method_1_code 133 = .ok (.bipush 13, 2) := by decide +kernel
theorem d6_135 : decode prog_47_method_1_code 135 = .ok (.invokevirtual 51, 3) := by decide +kernel
theorem d6_138 : decode prog_47_method_1_code 138 = .ok (.ifCond .lt 17, 3) := by decide +kernel
theorem d6_155 : decode prog_47_method_1_code 155 = .ok (.aload_n 0, 1) := by decide +kernel
theorem d6_156 : decode prog_47_method_1_code 156 = .ok (.aload_n 1, 1) := by decide +kernel
theorem d6_157 : decode prog_47_method_1_code 157 = .ok (.putfield 58, 3) := by decide +kernel
theorem d6_160 : decode prog_47_method_1_code 160 = .ok (.aload_n 0, 1) := by decide +kernel
theorem d6_161 : decode prog_47_method_1_code 161 = .ok (.iload_n 2, 1) := by decide +kernel
theorem d6_162 : decode prog_47_method_1_code 162 = .ok (.putfield 62, 3) := by decide +kernel
theorem d6_165 : decode prog_47_method_1_code 165 = .ok (.aload_n 0, 1) := by decide +kernel
theorem d6_166 : decode prog_47_method_1_code 166 = .ok (.aload_n 3, 1) := by decide +kernel
theorem d6_167 : decode prog_47_method_1_code 167 = .ok (.putfield 66, 3) := by decide +kernel
theorem d6_170 : decode prog_47_method_1_code 170 = .ok (.return_, 1) := by decide +kernel
theorem pn_6 : plainFor (⟨"com/example/wireform/wireform/rules/Verdict", "<init>", "(Lcom/example/wireform/wireform/rules/Verdict$Kind;ILjava/lang/String;)V"⟩ : MethodName) = true := plainFor_of_name (by first | (simp [plainName, overriddenIn]; done) | decide +kernel)
theorem pd___V : parseMethodDescriptor "()V" = some ⟨[], none⟩ := by decide +kernel
theorem pd__Ljava_lang_Object_Ljava_lang_String__Ljava_lang_Object_ : parseMethodDescriptor "(Ljava/lang/Object;Ljava/lang/String;)Ljava/lang/Object;" = some ⟨[(.object "java/lang/Object"), (.object "java/lang/String")], some (.object "java/lang/Object")⟩ := by decide +kernel
theorem ef_con_vin (m : MethodId) (v kd t b : Addr) (ln : Int32) (cs : List Int32) (cz : Int32) (ci aa : Addr) (vs : List Value) (kv ki : Addr)  : entryFrame m #[(.ref v), (.ref kd), (.int ln), (.ref t)] 6 = mkF m 0 #[.val (.ref v), .val (.ref kd), .val (.int ln), .val (.ref t), .unset, .unset] [] := by first | (simp [entryFrame, mkF, argsToLocals, Value.category]; done) | rfl
set_option maxRecDepth 65536 in
set_option maxHeartbeats 40000000 in
theorem con_vin (l : Launch) (Z : State) (a0 : Array Value) (hw : ∀ d ∈ tables_1, d.before a0 Z = true) (n0 : Nat) (h0 : Heap) (Z0 : n0 ≤ h0.size) (v kd t b : Addr) (ln : Int32) (cs : List Int32) (cz : Int32) (ci aa : Addr) (vs : List Value) (kv ki : Addr) (od0 : Old Z n0 h0) (SZ : Sta Z Z.heap "java/lang/String" "COMPACT_STRINGS" "Z" (.int cz)) (hcz : ¬ cz = 0) (SI : Sta Z Z.heap "java/lang/CharacterDataLatin1" "instance" "Ljava/lang/CharacterDataLatin1;" (.ref ci)) (XI : Exa Z Z.heap ci "java/lang/CharacterDataLatin1") (SA : Sta Z Z.heap "java/lang/CharacterDataLatin1" "A" "[I" (.ref aa)) (AA : Ary Z Z.heap aa .int vs) (hprop : ∀ n : Nat, 33 ≤ n → n ≤ 255 → ∃ x : Int32, vs[n]? = some (.int x) ∧ ¬ (x &&& (28672 : Int32)) = (16384 : Int32)) (SV : Sta Z Z.heap "com/example/wireform/wireform/rules/Verdict$Kind" "VALID" "Lcom/example/wireform/wireform/rules/Verdict$Kind;" (.ref kv)) (SN : Sta Z Z.heap "com/example/wireform/wireform/rules/Verdict$Kind" "INVALID" "Lcom/example/wireform/wireform/rules/Verdict$Kind;" (.ref ki)) (EV : Exa Z h0 v "com/example/wireform/wireform/rules/Verdict") (gv : n0 ≤ v) (F_kind : Fld Z h0 v "com/example/wireform/wireform/rules/Verdict" "kind" "Lcom/example/wireform/wireform/rules/Verdict$Kind;" .null) (F_lineNumber : Fld Z h0 v "com/example/wireform/wireform/rules/Verdict" "lineNumber" "I" (.int (0 : Int32))) (F_errorName : Fld Z h0 v "com/example/wireform/wireform/rules/Verdict" "errorName" "Ljava/lang/String;" .null) (E1 : Exa Z h0 t "java/lang/String") (FV : Fld Z h0 t "java/lang/String" "value" "[B" (.ref b)) (FC : Fld Z h0 t "java/lang/String" "coder" "B" (.int (own_coder cs))) (AB : Ary Z h0 b .byte (own_enc cs)) (htv : t ≠ v) (hbv : b ≠ v) (hp : own_pfx cs = cs.length) (hn : cs.length ≤ 2) (hch : own_chr cs) (hA : kd = kv → ln = 0) (hB : kd ≠ kv → ¬ ln < 1) (hD : kd = ki → ∃ n : Nat, 0 < cs.length ∧ cs.getD 0 0 = Int32.ofNat n ∧ 33 ≤ n ∧ n ≤ 255) (hE : kd ≠ ki → cs = []) (hx10 : own_ix cs 10 < 0) (hx13 : own_ix cs 13 < 0) :
    ConW l Z own_EL n0 (⟨"com/example/wireform/wireform/rules/Verdict", "<init>", "(Lcom/example/wireform/wireform/rules/Verdict$Kind;ILjava/lang/String;)V"⟩ : MethodName) prog_47_method_1_code 6 none ({ frames := 5, cells := 4, slots := 60, locals := 68 } : Room) #[(.ref v), (.ref kd), (.int ln), (.ref t)] h0 [] (Vd fun h' => Keep h0 h' [v] ∧ Exa Z h' v "com/example/wireform/wireform/rules/Verdict" ∧ Fld Z h' v "com/example/wireform/wireform/rules/Verdict" "kind" "Lcom/example/wireform/wireform/rules/Verdict$Kind;" (.ref kd) ∧ Fld Z h' v "com/example/wireform/wireform/rules/Verdict" "lineNumber" "I" (.int ln) ∧ Fld Z h' v "com/example/wireform/wireform/rules/Verdict" "errorName" "Ljava/lang/String;" (.ref t)) := by
  refine ConW.of_run (own_EW hw) pn_6 (fun m => ef_con_vin m v kd t b ln cs cz ci aa vs kv ki ) ?_
  intro vm hal hsf
  refine RunW.aloadN d6_0 rfl rfl (pc' := 1) rfl ?_
  refine RunW.callN (k' := 0) (n' := 0) (a := v) (as := []) (rest := []) (con_rec l Z a0 hw n0 h0 Z0 v) (by rintro _ _ ⟨rfl, rfl⟩; exact ⟨[], Keep.refl _ _, all0⟩) rfl rfl d6_1 (hw _ (List.mem_of_getElem? (i := 35) rfl)) (hw _ (List.mem_of_getElem? (i := 36) rfl)) (hw _ (List.mem_of_getElem? (i := 38) rfl)) (hw _ (List.mem_of_getElem? (i := 39) rfl)) (by decide) pd___V rfl rfl rfl (by decide) (by show (0 : Nat) + (1 + 11) + 12 ≤ _; decide) (by decide) (by decide) (by decide) (by decide) (pc' := 4) rfl ?_
  rintro _ _ ⟨rfl, rfl⟩ c11
  show RunW l Z own_EL n0 "com/example/wireform/wireform/rules/Verdict" prog_47_method_1_code 6 none "<init>" ({ frames := 5, cells := 4, slots := 60, locals := 68 } : Room) _ 4 #[.val (.ref v), .val (.ref kd), .val (.int ln), .val (.ref t), .unset, .unset] [] h0 vm 0 0
  refine RunW.aloadN d6_4 rfl rfl (pc' := 5) rfl ?_
  refine RunW.ldcT (len := 16) (z := (4 : Int32)) (bs := [(.int (107 : Int32)), (.int (105 : Int32)), (.int (110 : Int32)), (.int (100 : Int32))]) (k' := 2) (n' := 20) d6_5 (hw _ (List.mem_of_getElem? (i := 43) rfl)) (own_wS hw) (own_EW hw) (List.mem_of_getElem? (i := 1) rfl) (by decide) (by decide) (by decide) (by decide) (by decide) (by decide) (by decide) (by decide) (pc' := 7) rfl ?_
  intro h12 vm12 a12 b12 E12 c12 X12 FC12 FV12 A12 ns12
  have E_t_12 := E1.ext E12
  have F_t_value_12 := FV.ext E12
  have F_t_coder_12 := FC.ext E12
  have A_b_12 := AB.ext E12
  have E_v_12 := EV.ext E12
  have F_v_kind_12 := F_kind.ext E12
  have F_v_lineNumber_12 := F_lineNumber.ext E12
  have F_v_errorName_12 := F_errorName.ext E12
  have sz12 : n0 ≤ h12.size := Nat.le_trans Z0 E12.1
  have kp12 := Keep.ext (Keep.refl h0 [v]) E12
  have od12 := od0.ext E12
  refine RunW.callS (k' := 2) (n' := 20) (as := [(.ref kd), (.ref a12)]) (rest := []) (con_rnn l Z a0 hw n0 h12 sz12 kd a12 ) (by rintro _ _ ⟨_, -, -, rfl⟩; exact ⟨[], Keep.refl _ _, all0⟩) d6_7 (hw _ (List.mem_of_getElem? (i := 44) rfl)) (hw _ (List.mem_of_getElem? (i := 45) rfl)) (hw _ (List.mem_of_getElem? (i := 46) rfl)) (hw _ (List.mem_of_getElem? (i := 47) rfl)) (by decide) pd__Ljava_lang_Object_Ljava_lang_String__Ljava_lang_Object_ rfl rfl rfl (by decide) (by show (0 : Nat) + (2 + 11) + 0 ≤ _; decide) (by decide) (by decide) (by decide) (by decide) (pc' := 10) rfl ?_
  rintro _ _ ⟨_, rfl, rfl, rfl⟩ -
  show RunW l Z own_EL n0 "com/example/wireform/wireform/rules/Verdict" prog_47_method_1_code 6 none "<init>" ({ frames := 5, cells := 4, slots := 60, locals := 68 } : Room) _ 10 #[.val (.ref v), .val (.ref kd), .val (.int ln), .val (.ref t), .unset, .unset] [(.ref kd)] h12 vm12 2 20
  refine RunW.pop d6_10 rfl (pc' := 11) rfl ?_
  refine RunW.aloadN d6_11 rfl rfl (pc' := 12) rfl ?_
  refine RunW.ldcT (len := 36) (z := (9 : Int32)) (bs := [(.int (101 : Int32)), (.int (114 : Int32)), (.int (114 : Int32)), (.int (111 : Int32)), (.int (114 : Int32)), (.int (78 : Int32)), (.int (97 : Int32)), (.int (109 : Int32)), (.int (101 : Int32))]) (k' := 4) (n' := 60) d6_12 (hw _ (List.mem_of_getElem? (i := 48) rfl)) (own_wS hw) (own_EW hw) (List.mem_of_getElem? (i := 2) rfl) (by decide) (by decide) (by decide) (by decide) (by decide) (by decide) (by decide) (by decide) (pc' := 14) rfl ?_
  intro h13 vm13 a13 b13 E13 c13 X13 FC13 FV13 A13 ns13
  have E_t_13 := E_t_12.ext E13
  have F_t_value_13 := F_t_value_12.ext E13
  have F_t_coder_13 := F_t_coder_12.ext E13
  have A_b_13 := A_b_12.ext E13
  have E_v_13 := E_v_12.ext E13
  have F_v_kind_13 := F_v_kind_12.ext E13
  have F_v_lineNumber_13 := F_v_lineNumber_12.ext E13
  have F_v_errorName_13 := F_v_errorName_12.ext E13
  have E_a12_13 := X12.ext E13
  have F_a12_coder_13 := FC12.ext E13
  have F_a12_value_13 := FV12.ext E13
  have A_b12_13 := A12.ext E13
  have sz13 : n0 ≤ h13.size := Nat.le_trans sz12 E13.1
  have kp13 := Keep.ext kp12 E13
  have od13 := od12.ext E13
  refine RunW.callS (k' := 4) (n' := 60) (as := [(.ref t), (.ref a13)]) (rest := []) (con_rnn l Z a0 hw n0 h13 sz13 t a13 ) (by rintro _ _ ⟨_, -, -, rfl⟩; exact ⟨[], Keep.refl _ _, all0⟩) d6_14 (hw _ (List.mem_of_getElem? (i := 44) rfl)) (hw _ (List.mem_of_getElem? (i := 45) rfl)) (hw _ (List.mem_of_getElem? (i := 46) rfl)) (hw _ (List.mem_of_getElem? (i := 47) rfl)) (by decide) pd__Ljava_lang_Object_Ljava_lang_String__Ljava_lang_Object_ rfl rfl rfl (by decide) (by show (0 : Nat) + (2 + 11) + 0 ≤ _; decide) (by decide) (by decide) (by decide) (by decide) (pc' := 17) rfl ?_
  rintro _ _ ⟨_, rfl, rfl, rfl⟩ -
  show RunW l Z own_EL n0 "com/example/wireform/wireform/rules/Verdict" prog_47_method_1_code 6 none "<init>" ({ frames := 5, cells := 4, slots := 60, locals := 68 } : Room) _ 17 #[.val (.ref v), .val (.ref kd), .val (.int ln), .val (.ref t), .unset, .unset] [(.ref t)] h13 vm13 4 60
  refine RunW.pop d6_17 rfl (pc' := 18) rfl ?_
  refine RunW.aloadN d6_18 rfl rfl (pc' := 19) rfl ?_
  refine RunW.getS d6_19 (host := "") (Or.inl (hw _ (List.mem_of_getElem? (i := 49) rfl))) Via.refl (SV.ext od13.2) (pc' := 22) rfl ?_
  refine RunW.acmp_ne d6_22 rfl rfl (by decide) (pc' := 37) (by decide) (pa := 25) rfl (fun hc22 => ?_) (fun hc22 => ?_)
  · -- pc 22 taken: ¬ (.ref kd) = (.ref kv)
    refine RunW.iloadN d6_37 rfl (pc' := 38) rfl ?_
    refine RunW.iconst (1 : Int32) d6_38 (by decide) (pc' := 39) rfl ?_
    refine RunW.icmp_lt d6_39 (by decide) (pc' := 46) (by decide) (pa := 42) rfl (fun hc39 => ?_) (fun hc39 => ?_)
    · -- pc 39 taken: ln < (1 : Int32)
      exact absurd hc39 (hB (fun e => hc22 (by rw [e])))
    · -- pc 39 not taken: ¬ ln < (1 : Int32)
      refine RunW.iconst (1 : Int32) d6_42 (by decide) (pc' := 43) rfl ?_
      refine RunW.goto d6_43 (by decide) (pc' := 47) (by decide) ?_
      refine RunW.istore (l' := #[.val (.ref v), .val (.ref kd), .val (.int ln), .val (.ref t), .val (.int (1 : Int32)), .unset]) d6_47 rfl (pc' := 49) rfl ?_
      refine RunW.iload d6_49 rfl (pc' := 51) rfl ?_
      refine RunW.if_ne d6_51 (by decide) (pc' := 72) (by decide) (pa := 54) rfl (fun hc51 => ?_) (fun hc51 => ?_)
      · -- pc 51 taken: ¬ (1 : Int32) = (0 : Int32)
        refine RunW.aloadN d6_72 rfl rfl (pc' := 73) rfl ?_
        refine RunW.getS d6_73 (host := "") (Or.inl (hw _ (List.mem_of_getElem? (i := 50) rfl))) Via.refl (SN.ext od13.2) (pc' := 76) rfl ?_
        refine RunW.acmp_ne d6_76 rfl rfl (by decide) (pc' := 94) (by decide) (pa := 79) rfl (fun hc76 => ?_) (fun hc76 => ?_)
        · -- pc 76 taken: ¬ (.ref kd) = (.ref ki)
          refine RunW.aloadN d6_94 rfl rfl (pc' := 95) rfl ?_
          refine RunW.callV (k' := 4) (n' := 60) (a := t) (as := []) (rest := []) (con_emp l Z a0 hw n0 h13 sz13 t b cs F_t_value_13 A_b_13 hn) (by rintro _ _ ⟨_, -, -, rfl⟩; exact ⟨[], Keep.refl _ _, all0⟩) E_t_13 d6_95 (hw _ (List.mem_of_getElem? (i := 52) rfl)) (hw _ (List.mem_of_getElem? (i := 53) rfl)) (fun s hZ => notFace_of_selects (args := #[]) (mvT hZ (hw _ (List.mem_of_getElem? (i := 55) rfl)))) (hw _ (List.mem_of_getElem? (i := 55) rfl)) (hw _ (List.mem_of_getElem? (i := 54) rfl)) (hw _ (List.mem_of_getElem? (i := 16) rfl)) (hw _ (List.mem_of_getElem? (i := 56) rfl)) (by decide) pd___Z rfl rfl rfl (by decide) (by show (0 : Nat) + (1 + 11) + 0 ≤ _; decide) (by decide) (by decide) (by decide) (by decide) (pc' := 98) rfl ?_
          rintro _ _ ⟨_, rfl, rfl, rfl⟩ -
          show RunW l Z own_EL n0 "com/example/wireform/wireform/rules/Verdict" prog_47_method_1_code 6 none "<init>" ({ frames := 5, cells := 4, slots := 60, locals := 68 } : Room) _ 98 #[.val (.ref v), .val (.ref kd), .val (.int ln), .val (.ref t), .val (.int (1 : Int32)), .unset] [(.int (own_emp cs))] h13 vm13 4 60
          refine RunW.istore (l' := #[.val (.ref v), .val (.ref kd), .val (.int ln), .val (.ref t), .val (.int (1 : Int32)), .val (.int (own_emp cs))]) d6_98 rfl (pc' := 100) rfl ?_
          refine RunW.iload d6_100 rfl (pc' := 102) rfl ?_
          refine RunW.if_ne d6_102 (by decide) (pc' := 123) (by decide) (pa := 105) rfl (fun hc102 => ?_) (fun hc102 => ?_)
          · -- pc 102 taken: ¬ (own_emp cs) = (0 : Int32)
            refine RunW.aloadN d6_123 rfl rfl (pc' := 124) rfl ?_
            refine RunW.bipush (10 : Int32) d6_124 (by decide) (pc' := 126) rfl ?_
            refine RunW.callV (k' := 4) (n' := 60) (a := t) (as := [(.int (10 : Int32))]) (rest := []) (con_six l Z a0 hw n0 h13 sz13 t b cs (10 : Int32) cz od13 SZ hcz E_t_13 F_t_value_13 F_t_coder_13 A_b_13 hp hn hch (by decide) (by decide)) (by rintro _ _ ⟨_, -, -, rfl⟩; exact ⟨[], Keep.refl _ _, all0⟩) E_t_13 d6_126 (hw _ (List.mem_of_getElem? (i := 58) rfl)) (hw _ (List.mem_of_getElem? (i := 59) rfl)) (fun s hZ => notFace_of_selects (args := #[]) (mvT hZ (hw _ (List.mem_of_getElem? (i := 61) rfl)))) (hw _ (List.mem_of_getElem? (i := 61) rfl)) (hw _ (List.mem_of_getElem? (i := 60) rfl)) (hw _ (List.mem_of_getElem? (i := 16) rfl)) (hw _ (List.mem_of_getElem? (i := 62) rfl)) (by decide) pd__I_I rfl rfl rfl (by decide) (by show (0 : Nat) + (2 + 11) + 46 ≤ _; decide) (by decide) (by decide) (by decide) (by decide) (pc' := 129) rfl ?_
            rintro _ _ ⟨_, rfl, rfl, rfl⟩ -
            show RunW l Z own_EL n0 "com/example/wireform/wireform/rules/Verdict" prog_47_method_1_code 6 none "<init>" ({ frames := 5, cells := 4, slots := 60, locals := 68 } : Room) _ 129 #[.val (.ref v), .val (.ref kd), .val (.int ln), .val (.ref t), .val (.int (1 : Int32)), .val (.int (own_emp cs))] [(.int (own_ix cs (10 : Int32)))] h13 vm13 4 60
            refine RunW.if_ge d6_129 (by decide) (pc' := 141) (by decide) (pa := 132) rfl (fun hc129 => ?_) (fun hc129 => ?_)
            · -- pc 129 taken: ¬ (own_ix cs (10 : Int32)) < (0 : Int32)
              exact absurd hx10 hc129
            · -- pc 129 not taken: (own_ix cs (10 : Int32)) < (0 : Int32)
              refine RunW.aloadN d6_132 rfl rfl (pc' := 133) rfl ?_
              refine RunW.bipush (13 : Int32) d6_133 (by decide) (pc' := 135) rfl ?_
              refine RunW.callV (k' := 4) (n' := 60) (a := t) (as := [(.int (13 : Int32))]) (rest := []) (con_six l Z a0 hw n0 h13 sz13 t b cs (13 : Int32) cz od13 SZ hcz E_t_13 F_t_value_13 F_t_coder_13 A_b_13 hp hn hch (by decide) (by decide)) (by rintro _ _ ⟨_, -, -, rfl⟩; exact ⟨[], Keep.refl _ _, all0⟩) E_t_13 d6_135 (hw _ (List.mem_of_getElem? (i := 58) rfl)) (hw _ (List.mem_of_getElem? (i := 59) rfl)) (fun s hZ => notFace_of_selects (args := #[]) (mvT hZ (hw _ (List.mem_of_getElem? (i := 61) rfl)))) (hw _ (List.mem_of_getElem? (i := 61) rfl)) (hw _ (List.mem_of_getElem? (i := 60) rfl)) (hw _ (List.mem_of_getElem? (i := 16) rfl)) (hw _ (List.mem_of_getElem? (i := 62) rfl)) (by decide) pd__I_I rfl rfl rfl (by decide) (by show (0 : Nat) + (2 + 11) + 46 ≤ _; decide) (by decide) (by decide) (by decide) (by decide) (pc' := 138) rfl ?_
              rintro _ _ ⟨_, rfl, rfl, rfl⟩ -
              show RunW l Z own_EL n0 "com/example/wireform/wireform/rules/Verdict" prog_47_method_1_code 6 none "<init>" ({ frames := 5, cells := 4, slots := 60, locals := 68 } : Room) _ 138 #[.val (.ref v), .val (.ref kd), .val (.int ln), .val (.ref t), .val (.int (1 : Int32)), .val (.int (own_emp cs))] [(.int (own_ix cs (13 : Int32)))] h13 vm13 4 60
              refine RunW.if_lt d6_138 (by decide) (pc' := 155) (by decide) (pa := 141) rfl (fun hc138 => ?_) (fun hc138 => ?_)
              · -- pc 138 taken: (own_ix cs (13 : Int32)) < (0 : Int32)
                refine RunW.aloadN d6_155 rfl rfl (pc' := 156) rfl ?_
                refine RunW.aloadN d6_156 rfl rfl (pc' := 157) rfl ?_
                refine RunW.alike fun al15 => ?_
                refine RunW.putF d6_157 (host := "") (Or.inl (hw _ (List.mem_of_getElem? (i := 99) rfl))) Via.refl F_v_kind_13 E_v_13 (Or.inr ⟨(hw _ (List.mem_of_getElem? (i := 100) rfl)), rfl, rfl⟩) (hw _ (List.mem_of_getElem? (i := 24) rfl)) (ty := (.object "com/example/wireform/wireform/rules/Verdict$Kind")) (by decide) (go_narref rfl rfl) rfl gv (Safe.exa al15 E_v_13 (by decide) (by decide)) (pc' := 160) rfl ?_
                intro h14 W14 c14
                have Fw14 := F_v_kind_13.same W14
                have E_t_14 := E_t_13.wr W14
                have F_t_value_14 := F_t_value_13.other W14 (Or.inl htv)
                have F_t_coder_14 := F_t_coder_13.other W14 (Or.inl htv)
                have A_b_14 := A_b_13.other W14 hbv
                have E_v_14 := E_v_13.wr W14
                have F_v_lineNumber_14 := F_v_lineNumber_13.other W14 (Or.inr (slot_ne (Or.inr (hw _ (List.mem_of_getElem? (i := 102) rfl))) (Or.inr (hw _ (List.mem_of_getElem? (i := 100) rfl))) (by decide) (t := .int) (t' := (.object "com/example/wireform/wireform/rules/Verdict$Kind")) (by decide) (by decide)))
                have F_v_errorName_14 := F_v_errorName_13.other W14 (Or.inr (slot_ne (Or.inr (hw _ (List.mem_of_getElem? (i := 104) rfl))) (Or.inr (hw _ (List.mem_of_getElem? (i := 100) rfl))) (by decide) (t := (.object "java/lang/String")) (t' := (.object "com/example/wireform/wireform/rules/Verdict$Kind")) (by decide) (by decide)))
                have E_a12_14 := E_a12_13.wr W14
                have E_a13_14 := X13.wr W14
                have sz14 : n0 ≤ h14.size := by rw [W14.size]; exact sz13
                have kp14 := Keep.wr kp13 W14 (Or.inl (List.mem_of_getElem? (i := 0) rfl))
                have od14 := od13.wr W14 gv
                refine RunW.aloadN d6_160 rfl rfl (pc' := 161) rfl ?_
                refine RunW.iloadN d6_161 rfl (pc' := 162) rfl ?_
                refine RunW.putF d6_162 (host := "") (Or.inl (hw _ (List.mem_of_getElem? (i := 101) rfl))) Via.refl F_v_lineNumber_14 E_v_14 (Or.inr ⟨(hw _ (List.mem_of_getElem? (i := 102) rfl)), rfl, rfl⟩) (hw _ (List.mem_of_getElem? (i := 24) rfl)) (ty := .int) (by decide) rfl rfl gv (Safe.exa al15 E_v_14 (by decide) (by decide)) (pc' := 165) rfl ?_
                intro h16 W16 c16
                have Fw16 := F_v_lineNumber_14.same W16
                have E_t_16 := E_t_14.wr W16
                have F_t_value_16 := F_t_value_14.other W16 (Or.inl htv)
                have F_t_coder_16 := F_t_coder_14.other W16 (Or.inl htv)
                have A_b_16 := A_b_14.other W16 hbv
                have E_v_16 := E_v_14.wr W16
                have F_v_errorName_16 := F_v_errorName_14.other W16 (Or.inr (slot_ne (Or.inr (hw _ (List.mem_of_getElem? (i := 104) rfl))) (Or.inr (hw _ (List.mem_of_getElem? (i := 102) rfl))) (by decide) (t := (.object "java/lang/String")) (t' := .int) (by decide) (by decide)))
                have E_a12_16 := E_a12_14.wr W16
                have E_a13_16 := E_a13_14.wr W16
                have F_v_kind_16 := Fw14.other W16 (Or.inr (slot_ne (Or.inr (hw _ (List.mem_of_getElem? (i := 100) rfl))) (Or.inr (hw _ (List.mem_of_getElem? (i := 102) rfl))) (by decide) (t := (.object "com/example/wireform/wireform/rules/Verdict$Kind")) (t' := .int) (by decide) (by decide)))
                have sz16 : n0 ≤ h16.size := by rw [W16.size]; exact sz14
                have kp16 := Keep.wr kp14 W16 (Or.inl (List.mem_of_getElem? (i := 0) rfl))
                have od16 := od14.wr W16 gv
                refine RunW.aloadN d6_165 rfl rfl (pc' := 166) rfl ?_
                refine RunW.aloadN d6_166 rfl rfl (pc' := 167) rfl ?_
                refine RunW.putF d6_167 (host := "") (Or.inl (hw _ (List.mem_of_getElem? (i := 103) rfl))) Via.refl F_v_errorName_16 E_v_16 (Or.inr ⟨(hw _ (List.mem_of_getElem? (i := 104) rfl)), rfl, rfl⟩) (hw _ (List.mem_of_getElem? (i := 24) rfl)) (ty := (.object "java/lang/String")) (by decide) (go_narref rfl rfl) rfl gv (Safe.exa al15 E_v_16 (by decide) (by decide)) (pc' := 170) rfl ?_
                intro h17 W17 c17
                have Fw17 := F_v_errorName_16.same W17
                have E_t_17 := E_t_16.wr W17
                have F_t_value_17 := F_t_value_16.other W17 (Or.inl htv)
                have F_t_coder_17 := F_t_coder_16.other W17 (Or.inl htv)
                have A_b_17 := A_b_16.other W17 hbv
                have E_v_17 := E_v_16.wr W17
                have E_a12_17 := E_a12_16.wr W17
                have E_a13_17 := E_a13_16.wr W17
                have F_v_kind_17 := F_v_kind_16.other W17 (Or.inr (slot_ne (Or.inr (hw _ (List.mem_of_getElem? (i := 100) rfl))) (Or.inr (hw _ (List.mem_of_getElem? (i := 104) rfl))) (by decide) (t := (.object "com/example/wireform/wireform/rules/Verdict$Kind")) (t' := (.object "java/lang/String")) (by decide) (by decide)))
                have F_v_lineNumber_17 := Fw16.other W17 (Or.inr (slot_ne (Or.inr (hw _ (List.mem_of_getElem? (i := 102) rfl))) (Or.inr (hw _ (List.mem_of_getElem? (i := 104) rfl))) (by decide) (t := .int) (t' := (.object "java/lang/String")) (by decide) (by decide)))
                have sz17 : n0 ≤ h17.size := by rw [W17.size]; exact sz16
                have kp17 := Keep.wr kp16 W17 (Or.inl (List.mem_of_getElem? (i := 0) rfl))
                have od17 := od16.wr W17 gv
                exact RunW.vreturn d6_170 rfl (by decide) (by decide) ⟨rfl, kp17, E_v_17, F_v_kind_17, F_v_lineNumber_17, Fw17⟩
              · -- pc 138 not taken: ¬ (own_ix cs (13 : Int32)) < (0 : Int32)
                exact absurd hx13 hc138
          · -- pc 102 not taken: (own_emp cs) = (0 : Int32)
            exact absurd hc102 (by rw [hE (fun e => hc76 (by rw [e]))]; decide)
        · -- pc 76 not taken: (.ref kd) = (.ref ki)
          refine RunW.aloadN d6_79 rfl rfl (pc' := 80) rfl ?_
          obtain ⟨n, h0n, hg, h33, h255⟩ := hD (by injection hc76)
          refine RunW.callV (k' := 4) (n' := 60) (a := t) (as := []) (rest := []) (con_isb l Z a0 hw n0 h13 sz13 t b cs n cz ci aa vs od13 SZ hcz SI XI SA AA hprop E_t_13 F_t_value_13 F_t_coder_13 A_b_13 hp hn hch h0n hg h33 h255 ) (by rintro _ _ ⟨_, -, -, rfl⟩; exact ⟨[], Keep.refl _ _, all0⟩) E_t_13 d6_80 (hw _ (List.mem_of_getElem? (i := 135) rfl)) (hw _ (List.mem_of_getElem? (i := 136) rfl)) (fun s hZ => notFace_of_selects (args := #[]) (mvT hZ (hw _ (List.mem_of_getElem? (i := 138) rfl)))) (hw _ (List.mem_of_getElem? (i := 138) rfl)) (hw _ (List.mem_of_getElem? (i := 137) rfl)) (hw _ (List.mem_of_getElem? (i := 16) rfl)) (hw _ (List.mem_of_getElem? (i := 139) rfl)) (by decide) pd___Z rfl rfl rfl (by decide) (by show (0 : Nat) + (1 + 11) + 56 ≤ _; decide) (by decide) (by decide) (by decide) (by decide) (pc' := 83) rfl ?_
          rintro _ _ ⟨_, rfl, rfl, rfl⟩ -
          show RunW l Z own_EL n0 "com/example/wireform/wireform/rules/Verdict" prog_47_method_1_code 6 none "<init>" ({ frames := 5, cells := 4, slots := 60, locals := 68 } : Room) _ 83 #[.val (.ref v), .val (.ref kd), .val (.int ln), .val (.ref t), .val (.int (1 : Int32)), .unset] [(.int (0 : Int32))] h13 vm13 4 60
          refine RunW.if_ne d6_83 (by decide) (pc' := 90) (by decide) (pa := 86) rfl (fun hc83 => ?_) (fun hc83 => ?_)
          · -- pc 83 taken: ¬ (0 : Int32) = (0 : Int32)
            exact absurd hc83 (by decide)
          · -- pc 83 not taken: (0 : Int32) = (0 : Int32)
            refine RunW.iconst (1 : Int32) d6_86 (by decide) (pc' := 87) rfl ?_
            refine RunW.goto d6_87 (by decide) (pc' := 98) (by decide) ?_
            refine RunW.istore (l' := #[.val (.ref v), .val (.ref kd), .val (.int ln), .val (.ref t), .val (.int (1 : Int32)), .val (.int (1 : Int32))]) d6_98 rfl (pc' := 100) rfl ?_
            refine RunW.iload d6_100 rfl (pc' := 102) rfl ?_
            refine RunW.if_ne d6_102 (by decide) (pc' := 123) (by decide) (pa := 105) rfl (fun hc102 => ?_) (fun hc102 => ?_)
            · -- pc 102 taken: ¬ (1 : Int32) = (0 : Int32)
              refine RunW.aloadN d6_123 rfl rfl (pc' := 124) rfl ?_
              refine RunW.bipush (10 : Int32) d6_124 (by decide) (pc' := 126) rfl ?_
              refine RunW.callV (k' := 4) (n' := 60) (a := t) (as := [(.int (10 : Int32))]) (rest := []) (con_six l Z a0 hw n0 h13 sz13 t b cs (10 : Int32) cz od13 SZ hcz E_t_13 F_t_value_13 F_t_coder_13 A_b_13 hp hn hch (by decide) (by decide)) (by rintro _ _ ⟨_, -, -, rfl⟩; exact ⟨[], Keep.refl _ _, all0⟩) E_t_13 d6_126 (hw _ (List.mem_of_getElem? (i := 58) rfl)) (hw _ (List.mem_of_getElem? (i := 59) rfl)) (fun s hZ => notFace_of_selects (args := #[]) (mvT hZ (hw _ (List.mem_of_getElem? (i := 61) rfl)))) (hw _ (List.mem_of_getElem? (i := 61) rfl)) (hw _ (List.mem_of_getElem? (i := 60) rfl)) (hw _ (List.mem_of_getElem? (i := 16) rfl)) (hw _ (List.mem_of_getElem? (i := 62) rfl)) (by decide) pd__I_I rfl rfl rfl (by decide) (by show (0 : Nat) + (2 + 11) + 46 ≤ _; decide) (by decide) (by decide) (by decide) (by decide) (pc' := 129) rfl ?_
              rintro _ _ ⟨_, rfl, rfl, rfl⟩ -
              show RunW l Z own_EL n0 "com/example/wireform/wireform/rules/Verdict" prog_47_method_1_code 6 none "<init>" ({ frames := 5, cells := 4, slots := 60, locals := 68 } : Room) _ 129 #[.val (.ref v), .val (.ref kd), .val (.int ln), .val (.ref t), .val (.int (1 : Int32)), .val (.int (1 : Int32))] [(.int (own_ix cs (10 : Int32)))] h13 vm13 4 60
              refine RunW.if_ge d6_129 (by decide) (pc' := 141) (by decide) (pa := 132) rfl (fun hc129 => ?_) (fun hc129 => ?_)
              · -- pc 129 taken: ¬ (own_ix cs (10 : Int32)) < (0 : Int32)
                exact absurd hx10 hc129
              · -- pc 129 not taken: (own_ix cs (10 : Int32)) < (0 : Int32)
                refine RunW.aloadN d6_132 rfl rfl (pc' := 133) rfl ?_
                refine RunW.bipush (13 : Int32) d6_133 (by decide) (pc' := 135) rfl ?_
                refine RunW.callV (k' := 4) (n' := 60) (a := t) (as := [(.int (13 : Int32))]) (rest := []) (con_six l Z a0 hw n0 h13 sz13 t b cs (13 : Int32) cz od13 SZ hcz E_t_13 F_t_value_13 F_t_coder_13 A_b_13 hp hn hch (by decide) (by decide)) (by rintro _ _ ⟨_, -, -, rfl⟩; exact ⟨[], Keep.refl _ _, all0⟩) E_t_13 d6_135 (hw _ (List.mem_of_getElem? (i := 58) rfl)) (hw _ (List.mem_of_getElem? (i := 59) rfl)) (fun s hZ => notFace_of_selects (args := #[]) (mvT hZ (hw _ (List.mem_of_getElem? (i := 61) rfl)))) (hw _ (List.mem_of_getElem? (i := 61) rfl)) (hw _ (List.mem_of_getElem? (i := 60) rfl)) (hw _ (List.mem_of_getElem? (i := 16) rfl)) (hw _ (List.mem_of_getElem? (i := 62) rfl)) (by decide) pd__I_I rfl rfl rfl (by decide) (by show (0 : Nat) + (2 + 11) + 46 ≤ _; decide) (by decide) (by decide) (by decide) (by decide) (pc' := 138) rfl ?_
                rintro _ _ ⟨_, rfl, rfl, rfl⟩ -
                show RunW l Z own_EL n0 "com/example/wireform/wireform/rules/Verdict" prog_47_method_1_code 6 none "<init>" ({ frames := 5, cells := 4, slots := 60, locals := 68 } : Room) _ 138 #[.val (.ref v), .val (.ref kd), .val (.int ln), .val (.ref t), .val (.int (1 : Int32)), .val (.int (1 : Int32))] [(.int (own_ix cs (13 : Int32)))] h13 vm13 4 60
                refine RunW.if_lt d6_138 (by decide) (pc' := 155) (by decide) (pa := 141) rfl (fun hc138 => ?_) (fun hc138 => ?_)
                · -- pc 138 taken: (own_ix cs (13 : Int32)) < (0 : Int32)
                  refine RunW.aloadN d6_155 rfl rfl (pc' := 156) rfl ?_
                  refine RunW.aloadN d6_156 rfl rfl (pc' := 157) rfl ?_
                  refine RunW.alike fun al19 => ?_
                  refine RunW.putF d6_157 (host := "") (Or.inl (hw _ (List.mem_of_getElem? (i := 99) rfl))) Via.refl F_v_kind_13 E_v_13 (Or.inr ⟨(hw _ (List.mem_of_getElem? (i := 100) rfl)), rfl, rfl⟩) (hw _ (List.mem_of_getElem? (i := 24) rfl)) (ty := (.object "com/example/wireform/wireform/rules/Verdict$Kind")) (by decide) (go_narref rfl rfl) rfl gv (Safe.exa al19 E_v_13 (by decide) (by decide)) (pc' := 160) rfl ?_
                  intro h18 W18 c18
                  have Fw18 := F_v_kind_13.same W18
                  have E_t_18 := E_t_13.wr W18
                  have F_t_value_18 := F_t_value_13.other W18 (Or.inl htv)
                  have F_t_coder_18 := F_t_coder_13.other W18 (Or.inl htv)
                  have A_b_18 := A_b_13.other W18 hbv
                  have E_v_18 := E_v_13.wr W18
                  have F_v_lineNumber_18 := F_v_lineNumber_13.other W18 (Or.inr (slot_ne (Or.inr (hw _ (List.mem_of_getElem? (i := 102) rfl))) (Or.inr (hw _ (List.mem_of_getElem? (i := 100) rfl))) (by decide) (t := .int) (t' := (.object "com/example/wireform/wireform/rules/Verdict$Kind")) (by decide) (by decide)))
                  have F_v_errorName_18 := F_v_errorName_13.other W18 (Or.inr (slot_ne (Or.inr (hw _ (List.mem_of_getElem? (i := 104) rfl))) (Or.inr (hw _ (List.mem_of_getElem? (i := 100) rfl))) (by decide) (t := (.object "java/lang/String")) (t' := (.object "com/example/wireform/wireform/rules/Verdict$Kind")) (by decide) (by decide)))
                  have E_a12_18 := E_a12_13.wr W18
                  have E_a13_18 := X13.wr W18
                  have sz18 : n0 ≤ h18.size := by rw [W18.size]; exact sz13
                  have kp18 := Keep.wr kp13 W18 (Or.inl (List.mem_of_getElem? (i := 0) rfl))
                  have od18 := od13.wr W18 gv
                  refine RunW.aloadN d6_160 rfl rfl (pc' := 161) rfl ?_
                  refine RunW.iloadN d6_161 rfl (pc' := 162) rfl ?_
                  refine RunW.putF d6_162 (host := "") (Or.inl (hw _ (List.mem_of_getElem? (i := 101) rfl))) Via.refl F_v_lineNumber_18 E_v_18 (Or.inr ⟨(hw _ (List.mem_of_getElem? (i := 102) rfl)), rfl, rfl⟩) (hw _ (List.mem_of_getElem? (i := 24) rfl)) (ty := .int) (by decide) rfl rfl gv (Safe.exa al19 E_v_18 (by decide) (by decide)) (pc' := 165) rfl ?_
                  intro h20 W20 c20
                  have Fw20 := F_v_lineNumber_18.same W20
                  have E_t_20 := E_t_18.wr W20
                  have F_t_value_20 := F_t_value_18.other W20 (Or.inl htv)
                  have F_t_coder_20 := F_t_coder_18.other W20 (Or.inl htv)
                  have A_b_20 := A_b_18.other W20 hbv
                  have E_v_20 := E_v_18.wr W20
                  have F_v_errorName_20 := F_v_errorName_18.other W20 (Or.inr (slot_ne (Or.inr (hw _ (List.mem_of_getElem? (i := 104) rfl))) (Or.inr (hw _ (List.mem_of_getElem? (i := 102) rfl))) (by decide) (t := (.object "java/lang/String")) (t' := .int) (by decide) (by decide)))
                  have E_a12_20 := E_a12_18.wr W20
                  have E_a13_20 := E_a13_18.wr W20
                  have F_v_kind_20 := Fw18.other W20 (Or.inr (slot_ne (Or.inr (hw _ (List.mem_of_getElem? (i := 100) rfl))) (Or.inr (hw _ (List.mem_of_getElem? (i := 102) rfl))) (by decide) (t := (.object "com/example/wireform/wireform/rules/Verdict$Kind")) (t' := .int) (by decide) (by decide)))
                  have sz20 : n0 ≤ h20.size := by rw [W20.size]; exact sz18
                  have kp20 := Keep.wr kp18 W20 (Or.inl (List.mem_of_getElem? (i := 0) rfl))
                  have od20 := od18.wr W20 gv
                  refine RunW.aloadN d6_165 rfl rfl (pc' := 166) rfl ?_
                  refine RunW.aloadN d6_166 rfl rfl (pc' := 167) rfl ?_
                  refine RunW.putF d6_167 (host := "") (Or.inl (hw _ (List.mem_of_getElem? (i := 103) rfl))) Via.refl F_v_errorName_20 E_v_20 (Or.inr ⟨(hw _ (List.mem_of_getElem? (i := 104) rfl)), rfl, rfl⟩) (hw _ (List.mem_of_getElem? (i := 24) rfl)) (ty := (.object "java/lang/String")) (by decide) (go_narref rfl rfl) rfl gv (Safe.exa al19 E_v_20 (by decide) (by decide)) (pc' := 170) rfl ?_
                  intro h21 W21 c21
                  have Fw21 := F_v_errorName_20.same W21
                  have E_t_21 := E_t_20.wr W21
                  have F_t_value_21 := F_t_value_20.other W21 (Or.inl htv)
                  have F_t_coder_21 := F_t_coder_20.other W21 (Or.inl htv)
                  have A_b_21 := A_b_20.other W21 hbv
                  have E_v_21 := E_v_20.wr W21
                  have E_a12_21 := E_a12_20.wr W21
                  have E_a13_21 := E_a13_20.wr W21
                  have F_v_kind_21 := F_v_kind_20.other W21 (Or.inr (slot_ne (Or.inr (hw _ (List.mem_of_getElem? (i := 100) rfl))) (Or.inr (hw _ (List.mem_of_getElem? (i := 104) rfl))) (by decide) (t := (.object "com/example/wireform/wireform/rules/Verdict$Kind")) (t' := (.object "java/lang/String")) (by decide) (by decide)))
                  have F_v_lineNumber_21 := Fw20.other W21 (Or.inr (slot_ne (Or.inr (hw _ (List.mem_of_getElem? (i := 102) rfl))) (Or.inr (hw _ (List.mem_of_getElem? (i := 104) rfl))) (by decide) (t := .int) (t' := (.object "java/lang/String")) (by decide) (by decide)))
                  have sz21 : n0 ≤ h21.size := by rw [W21.size]; exact sz20
                  have kp21 := Keep.wr kp20 W21 (Or.inl (List.mem_of_getElem? (i := 0) rfl))
                  have od21 := od20.wr W21 gv
                  exact RunW.vreturn d6_170 rfl (by decide) (by decide) ⟨rfl, kp21, E_v_21, F_v_kind_21, F_v_lineNumber_21, Fw21⟩
                · -- pc 138 not taken: ¬ (own_ix cs (13 : Int32)) < (0 : Int32)
                  exact absurd hx13 hc138
            · -- pc 102 not taken: (1 : Int32) = (0 : Int32)
              exact absurd hc102 (by decide)
      · -- pc 51 not taken: (1 : Int32) = (0 : Int32)
        exact absurd hc51 (by decide)
  · -- pc 22 not taken: (.ref kd) = (.ref kv)
    refine RunW.iloadN d6_25 rfl (pc' := 26) rfl ?_
    refine RunW.if_ne d6_26 (by decide) (pc' := 33) (by decide) (pa := 29) rfl (fun hc26 => ?_) (fun hc26 => ?_)
    · -- pc 26 taken: ¬ ln = (0 : Int32)
      exact absurd (hA (by injection hc22)) hc26
    · -- pc 26 not taken: ln = (0 : Int32)
      refine RunW.iconst (1 : Int32) d6_29 (by decide) (pc' := 30) rfl ?_
      refine RunW.goto d6_30 (by decide) (pc' := 47) (by decide) ?_
      refine RunW.istore (l' := #[.val (.ref v), .val (.ref kd), .val (.int ln), .val (.ref t), .val (.int (1 : Int32)), .unset]) d6_47 rfl (pc' := 49) rfl ?_
      refine RunW.iload d6_49 rfl (pc' := 51) rfl ?_
      refine RunW.if_ne d6_51 (by decide) (pc' := 72) (by decide) (pa := 54) rfl (fun hc51 => ?_) (fun hc51 => ?_)
      · -- pc 51 taken: ¬ (1 : Int32) = (0 : Int32)
        refine RunW.aloadN d6_72 rfl rfl (pc' := 73) rfl ?_
        refine RunW.getS d6_73 (host := "") (Or.inl (hw _ (List.mem_of_getElem? (i := 50) rfl))) Via.refl (SN.ext od13.2) (pc' := 76) rfl ?_
        refine RunW.acmp_ne d6_76 rfl rfl (by decide) (pc' := 94) (by decide) (pa := 79) rfl (fun hc76 => ?_) (fun hc76 => ?_)
        · -- pc 76 taken: ¬ (.ref kd) = (.ref ki)
          refine RunW.aloadN d6_94 rfl rfl (pc' := 95) rfl ?_
          refine RunW.callV (k' := 4) (n' := 60) (a := t) (as := []) (rest := []) (con_emp l Z a0 hw n0 h13 sz13 t b cs F_t_value_13 A_b_13 hn) (by rintro _ _ ⟨_, -, -, rfl⟩; exact ⟨[], Keep.refl _ _, all0⟩) E_t_13 d6_95 (hw _ (List.mem_of_getElem? (i := 52) rfl)) (hw _ (List.mem_of_getElem? (i := 53) rfl)) (fun s hZ => notFace_of_selects (args := #[]) (mvT hZ (hw _ (List.mem_of_getElem? (i := 55) rfl)))) (hw _ (List.mem_of_getElem? (i := 55) rfl)) (hw _ (List.mem_of_getElem? (i := 54) rfl)) (hw _ (List.mem_of_getElem? (i := 16) rfl)) (hw _ (List.mem_of_getElem? (i := 56) rfl)) (by decide) pd___Z rfl rfl rfl (by decide) (by show (0 : Nat) + (1 + 11) + 0 ≤ _; decide) (by decide) (by decide) (by decide) (by decide) (pc' := 98) rfl ?_
          rintro _ _ ⟨_, rfl, rfl, rfl⟩ -
          show RunW l Z own_EL n0 "com/example/wireform/wireform/rules/Verdict" prog_47_method_1_code 6 none "<init>" ({ frames := 5, cells := 4, slots := 60, locals := 68 } : Room) _ 98 #[.val (.ref v), .val (.ref kd), .val (.int ln), .val (.ref t), .val (.int (1 : Int32)), .unset] [(.int (own_emp cs))] h13 vm13 4 60
          refine RunW.istore (l' := #[.val (.ref v), .val (.ref kd), .val (.int ln), .val (.ref t), .val (.int (1 : Int32)), .val (.int (own_emp cs))]) d6_98 rfl (pc' := 100) rfl ?_
          refine RunW.iload d6_100 rfl (pc' := 102) rfl ?_
          refine RunW.if_ne d6_102 (by decide) (pc' := 123) (by decide) (pa := 105) rfl (fun hc102 => ?_) (fun hc102 => ?_)
          · -- pc 102 taken: ¬ (own_emp cs) = (0 : Int32)
            refine RunW.aloadN d6_123 rfl rfl (pc' := 124) rfl ?_
            refine RunW.bipush (10 : Int32) d6_124 (by decide) (pc' := 126) rfl ?_
            refine RunW.callV (k' := 4) (n' := 60) (a := t) (as := [(.int (10 : Int32))]) (rest := []) (con_six l Z a0 hw n0 h13 sz13 t b cs (10 : Int32) cz od13 SZ hcz E_t_13 F_t_value_13 F_t_coder_13 A_b_13 hp hn hch (by decide) (by decide)) (by rintro _ _ ⟨_, -, -, rfl⟩; exact ⟨[], Keep.refl _ _, all0⟩) E_t_13 d6_126 (hw _ (List.mem_of_getElem? (i := 58) rfl)) (hw _ (List.mem_of_getElem? (i := 59) rfl)) (fun s hZ => notFace_of_selects (args := #[]) (mvT hZ (hw _ (List.mem_of_getElem? (i := 61) rfl)))) (hw _ (List.mem_of_getElem? (i := 61) rfl)) (hw _ (List.mem_of_getElem? (i := 60) rfl)) (hw _ (List.mem_of_getElem? (i := 16) rfl)) (hw _ (List.mem_of_getElem? (i := 62) rfl)) (by decide) pd__I_I rfl rfl rfl (by decide) (by show (0 : Nat) + (2 + 11) + 46 ≤ _; decide) (by decide) (by decide) (by decide) (by decide) (pc' := 129) rfl ?_
            rintro _ _ ⟨_, rfl, rfl, rfl⟩ -
            show RunW l Z own_EL n0 "com/example/wireform/wireform/rules/Verdict" prog_47_method_1_code 6 none "<init>" ({ frames := 5, cells := 4, slots := 60, locals := 68 } : Room) _ 129 #[.val (.ref v), .val (.ref kd), .val (.int ln), .val (.ref t), .val (.int (1 : Int32)), .val (.int (own_emp cs))] [(.int (own_ix cs (10 : Int32)))] h13 vm13 4 60
            refine RunW.if_ge d6_129 (by decide) (pc' := 141) (by decide) (pa := 132) rfl (fun hc129 => ?_) (fun hc129 => ?_)
            · -- pc 129 taken: ¬ (own_ix cs (10 : Int32)) < (0 : Int32)
              exact absurd hx10 hc129
            · -- pc 129 not taken: (own_ix cs (10 : Int32)) < (0 : Int32)
              refine RunW.aloadN d6_132 rfl rfl (pc' := 133) rfl ?_
              refine RunW.bipush (13 : Int32) d6_133 (by decide) (pc' := 135) rfl ?_
              refine RunW.callV (k' := 4) (n' := 60) (a := t) (as := [(.int (13 : Int32))]) (rest := []) (con_six l Z a0 hw n0 h13 sz13 t b cs (13 : Int32) cz od13 SZ hcz E_t_13 F_t_value_13 F_t_coder_13 A_b_13 hp hn hch (by decide) (by decide)) (by rintro _ _ ⟨_, -, -, rfl⟩; exact ⟨[], Keep.refl _ _, all0⟩) E_t_13 d6_135 (hw _ (List.mem_of_getElem? (i := 58) rfl)) (hw _ (List.mem_of_getElem? (i := 59) rfl)) (fun s hZ => notFace_of_selects (args := #[]) (mvT hZ (hw _ (List.mem_of_getElem? (i := 61) rfl)))) (hw _ (List.mem_of_getElem? (i := 61) rfl)) (hw _ (List.mem_of_getElem? (i := 60) rfl)) (hw _ (List.mem_of_getElem? (i := 16) rfl)) (hw _ (List.mem_of_getElem? (i := 62) rfl)) (by decide) pd__I_I rfl rfl rfl (by decide) (by show (0 : Nat) + (2 + 11) + 46 ≤ _; decide) (by decide) (by decide) (by decide) (by decide) (pc' := 138) rfl ?_
              rintro _ _ ⟨_, rfl, rfl, rfl⟩ -
              show RunW l Z own_EL n0 "com/example/wireform/wireform/rules/Verdict" prog_47_method_1_code 6 none "<init>" ({ frames := 5, cells := 4, slots := 60, locals := 68 } : Room) _ 138 #[.val (.ref v), .val (.ref kd), .val (.int ln), .val (.ref t), .val (.int (1 : Int32)), .val (.int (own_emp cs))] [(.int (own_ix cs (13 : Int32)))] h13 vm13 4 60
              refine RunW.if_lt d6_138 (by decide) (pc' := 155) (by decide) (pa := 141) rfl (fun hc138 => ?_) (fun hc138 => ?_)
              · -- pc 138 taken: (own_ix cs (13 : Int32)) < (0 : Int32)
                refine RunW.aloadN d6_155 rfl rfl (pc' := 156) rfl ?_
                refine RunW.aloadN d6_156 rfl rfl (pc' := 157) rfl ?_
                refine RunW.alike fun al23 => ?_
                refine RunW.putF d6_157 (host := "") (Or.inl (hw _ (List.mem_of_getElem? (i := 99) rfl))) Via.refl F_v_kind_13 E_v_13 (Or.inr ⟨(hw _ (List.mem_of_getElem? (i := 100) rfl)), rfl, rfl⟩) (hw _ (List.mem_of_getElem? (i := 24) rfl)) (ty := (.object "com/example/wireform/wireform/rules/Verdict$Kind")) (by decide) (go_narref rfl rfl) rfl gv (Safe.exa al23 E_v_13 (by decide) (by decide)) (pc' := 160) rfl ?_
                intro h22 W22 c22
                have Fw22 := F_v_kind_13.same W22
                have E_t_22 := E_t_13.wr W22
                have F_t_value_22 := F_t_value_13.other W22 (Or.inl htv)
                have F_t_coder_22 := F_t_coder_13.other W22 (Or.inl htv)
                have A_b_22 := A_b_13.other W22 hbv
                have E_v_22 := E_v_13.wr W22
                have F_v_lineNumber_22 := F_v_lineNumber_13.other W22 (Or.inr (slot_ne (Or.inr (hw _ (List.mem_of_getElem? (i := 102) rfl))) (Or.inr (hw _ (List.mem_of_getElem? (i := 100) rfl))) (by decide) (t := .int) (t' := (.object "com/example/wireform/wireform/rules/Verdict$Kind")) (by decide) (by decide)))
                have F_v_errorName_22 := F_v_errorName_13.other W22 (Or.inr (slot_ne (Or.inr (hw _ (List.mem_of_getElem? (i := 104) rfl))) (Or.inr (hw _ (List.mem_of_getElem? (i := 100) rfl))) (by decide) (t := (.object "java/lang/String")) (t' := (.object "com/example/wireform/wireform/rules/Verdict$Kind")) (by decide) (by decide)))
                have E_a12_22 := E_a12_13.wr W22
                have E_a13_22 := X13.wr W22
                have sz22 : n0 ≤ h22.size := by rw [W22.size]; exact sz13
                have kp22 := Keep.wr kp13 W22 (Or.inl (List.mem_of_getElem? (i := 0) rfl))
                have od22 := od13.wr W22 gv
                refine RunW.aloadN d6_160 rfl rfl (pc' := 161) rfl ?_
                refine RunW.iloadN d6_161 rfl (pc' := 162) rfl ?_
                refine RunW.putF d6_162 (host := "") (Or.inl (hw _ (List.mem_of_getElem? (i := 101) rfl))) Via.refl F_v_lineNumber_22 E_v_22 (Or.inr ⟨(hw _ (List.mem_of_getElem? (i := 102) rfl)), rfl, rfl⟩) (hw _ (List.mem_of_getElem? (i := 24) rfl)) (ty := .int) (by decide) rfl rfl gv (Safe.exa al23 E_v_22 (by decide) (by decide)) (pc' := 165) rfl ?_
                intro h24 W24 c24
                have Fw24 := F_v_lineNumber_22.same W24
                have E_t_24 := E_t_22.wr W24
                have F_t_value_24 := F_t_value_22.other W24 (Or.inl htv)
                have F_t_coder_24 := F_t_coder_22.other W24 (Or.inl htv)
                have A_b_24 := A_b_22.other W24 hbv
                have E_v_24 := E_v_22.wr W24
                have F_v_errorName_24 := F_v_errorName_22.other W24 (Or.inr (slot_ne (Or.inr (hw _ (List.mem_of_getElem? (i := 104) rfl))) (Or.inr (hw _ (List.mem_of_getElem? (i := 102) rfl))) (by decide) (t := (.object "java/lang/String")) (t' := .int) (by decide) (by decide)))
                have E_a12_24 := E_a12_22.wr W24
                have E_a13_24 := E_a13_22.wr W24
                have F_v_kind_24 := Fw22.other W24 (Or.inr (slot_ne (Or.inr (hw _ (List.mem_of_getElem? (i := 100) rfl))) (Or.inr (hw _ (List.mem_of_getElem? (i := 102) rfl))) (by decide) (t := (.object "com/example/wireform/wireform/rules/Verdict$Kind")) (t' := .int) (by decide) (by decide)))
                have sz24 : n0 ≤ h24.size := by rw [W24.size]; exact sz22
                have kp24 := Keep.wr kp22 W24 (Or.inl (List.mem_of_getElem? (i := 0) rfl))
                have od24 := od22.wr W24 gv
                refine RunW.aloadN d6_165 rfl rfl (pc' := 166) rfl ?_
                refine RunW.aloadN d6_166 rfl rfl (pc' := 167) rfl ?_
                refine RunW.putF d6_167 (host := "") (Or.inl (hw _ (List.mem_of_getElem? (i := 103) rfl))) Via.refl F_v_errorName_24 E_v_24 (Or.inr ⟨(hw _ (List.mem_of_getElem? (i := 104) rfl)), rfl, rfl⟩) (hw _ (List.mem_of_getElem? (i := 24) rfl)) (ty := (.object "java/lang/String")) (by decide) (go_narref rfl rfl) rfl gv (Safe.exa al23 E_v_24 (by decide) (by decide)) (pc' := 170) rfl ?_
                intro h25 W25 c25
                have Fw25 := F_v_errorName_24.same W25
                have E_t_25 := E_t_24.wr W25
                have F_t_value_25 := F_t_value_24.other W25 (Or.inl htv)
                have F_t_coder_25 := F_t_coder_24.other W25 (Or.inl htv)
                have A_b_25 := A_b_24.other W25 hbv
                have E_v_25 := E_v_24.wr W25
                have E_a12_25 := E_a12_24.wr W25
                have E_a13_25 := E_a13_24.wr W25
                have F_v_kind_25 := F_v_kind_24.other W25 (Or.inr (slot_ne (Or.inr (hw _ (List.mem_of_getElem? (i := 100) rfl))) (Or.inr (hw _ (List.mem_of_getElem? (i := 104) rfl))) (by decide) (t := (.object "com/example/wireform/wireform/rules/Verdict$Kind")) (t' := (.object "java/lang/String")) (by decide) (by decide)))
                have F_v_lineNumber_25 := Fw24.other W25 (Or.inr (slot_ne (Or.inr (hw _ (List.mem_of_getElem? (i := 102) rfl))) (Or.inr (hw _ (List.mem_of_getElem? (i := 104) rfl))) (by decide) (t := .int) (t' := (.object "java/lang/String")) (by decide) (by decide)))
                have sz25 : n0 ≤ h25.size := by rw [W25.size]; exact sz24
                have kp25 := Keep.wr kp24 W25 (Or.inl (List.mem_of_getElem? (i := 0) rfl))
                have od25 := od24.wr W25 gv
                exact RunW.vreturn d6_170 rfl (by decide) (by decide) ⟨rfl, kp25, E_v_25, F_v_kind_25, F_v_lineNumber_25, Fw25⟩
              · -- pc 138 not taken: ¬ (own_ix cs (13 : Int32)) < (0 : Int32)
                exact absurd hx13 hc138
          · -- pc 102 not taken: (own_emp cs) = (0 : Int32)
            exact absurd hc102 (by rw [hE (fun e => hc76 (by rw [e]))]; decide)
        · -- pc 76 not taken: (.ref kd) = (.ref ki)
          refine RunW.aloadN d6_79 rfl rfl (pc' := 80) rfl ?_
          obtain ⟨n, h0n, hg, h33, h255⟩ := hD (by injection hc76)
          refine RunW.callV (k' := 4) (n' := 60) (a := t) (as := []) (rest := []) (con_isb l Z a0 hw n0 h13 sz13 t b cs n cz ci aa vs od13 SZ hcz SI XI SA AA hprop E_t_13 F_t_value_13 F_t_coder_13 A_b_13 hp hn hch h0n hg h33 h255 ) (by rintro _ _ ⟨_, -, -, rfl⟩; exact ⟨[], Keep.refl _ _, all0⟩) E_t_13 d6_80 (hw _ (List.mem_of_getElem? (i := 135) rfl)) (hw _ (List.mem_of_getElem? (i := 136) rfl)) (fun s hZ => notFace_of_selects (args := #[]) (mvT hZ (hw _ (List.mem_of_getElem? (i := 138) rfl)))) (hw _ (List.mem_of_getElem? (i := 138) rfl)) (hw _ (List.mem_of_getElem? (i := 137) rfl)) (hw _ (List.mem_of_getElem? (i := 16) rfl)) (hw _ (List.mem_of_getElem? (i := 139) rfl)) (by decide) pd___Z rfl rfl rfl (by decide) (by show (0 : Nat) + (1 + 11) + 56 ≤ _; decide) (by decide) (by decide) (by decide) (by decide) (pc' := 83) rfl ?_
          rintro _ _ ⟨_, rfl, rfl, rfl⟩ -
          show RunW l Z own_EL n0 "com/example/wireform/wireform/rules/Verdict" prog_47_method_1_code 6 none "<init>" ({ frames := 5, cells := 4, slots := 60, locals := 68 } : Room) _ 83 #[.val (.ref v), .val (.ref kd), .val (.int ln), .val (.ref t), .val (.int (1 : Int32)), .unset] [(.int (0 : Int32))] h13 vm13 4 60
          refine RunW.if_ne d6_83 (by decide) (pc' := 90) (by decide) (pa := 86) rfl (fun hc83 => ?_) (fun hc83 => ?_)
          · -- pc 83 taken: ¬ (0 : Int32) = (0 : Int32)
            exact absurd hc83 (by decide)
          · -- pc 83 not taken: (0 : Int32) = (0 : Int32)
            refine RunW.iconst (1 : Int32) d6_86 (by decide) (pc' := 87) rfl ?_
            refine RunW.goto d6_87 (by decide) (pc' := 98) (by decide) ?_
            refine RunW.istore (l' := #[.val (.ref v), .val (.ref kd), .val (.int ln), .val (.ref t), .val (.int (1 : Int32)), .val (.int (1 : Int32))]) d6_98 rfl (pc' := 100) rfl ?_
            refine RunW.iload d6_100 rfl (pc' := 102) rfl ?_
            refine RunW.if_ne d6_102 (by decide) (pc' := 123) (by decide) (pa := 105) rfl (fun hc102 => ?_) (fun hc102 => ?_)
            · -- pc 102 taken: ¬ (1 : Int32) = (0 : Int32)
              refine RunW.aloadN d6_123 rfl rfl (pc' := 124) rfl ?_
              refine RunW.bipush (10 : Int32) d6_124 (by decide) (pc' := 126) rfl ?_
              refine RunW.callV (k' := 4) (n' := 60) (a := t) (as := [(.int (10 : Int32))]) (rest := []) (con_six l Z a0 hw n0 h13 sz13 t b cs (10 : Int32) cz od13 SZ hcz E_t_13 F_t_value_13 F_t_coder_13 A_b_13 hp hn hch (by decide) (by decide)) (by rintro _ _ ⟨_, -, -, rfl⟩; exact ⟨[], Keep.refl _ _, all0⟩) E_t_13 d6_126 (hw _ (List.mem_of_getElem? (i := 58) rfl)) (hw _ (List.mem_of_getElem? (i := 59) rfl)) (fun s hZ => notFace_of_selects (args := #[]) (mvT hZ (hw _ (List.mem_of_getElem? (i := 61) rfl)))) (hw _ (List.mem_of_getElem? (i := 61) rfl)) (hw _ (List.mem_of_getElem? (i := 60) rfl)) (hw _ (List.mem_of_getElem? (i := 16) rfl)) (hw _ (List.mem_of_getElem? (i := 62) rfl)) (by decide) pd__I_I rfl rfl rfl (by decide) (by show (0 : Nat) + (2 + 11) + 46 ≤ _; decide) (by decide) (by decide) (by decide) (by decide) (pc' := 129) rfl ?_
              rintro _ _ ⟨_, rfl, rfl, rfl⟩ -
              show RunW l Z own_EL n0 "com/example/wireform/wireform/rules/Verdict" prog_47_method_1_code 6 none "<init>" ({ frames := 5, cells := 4, slots := 60, locals := 68 } : Room) _ 129 #[.val (.ref v), .val (.ref kd), .val (.int ln), .val (.ref t), .val (.int (1 : Int32)), .val (.int (1 : Int32))] [(.int (own_ix cs (10 : Int32)))] h13 vm13 4 60
              refine RunW.if_ge d6_129 (by decide) (pc' := 141) (by decide) (pa := 132) rfl (fun hc129 => ?_) (fun hc129 => ?_)
              · -- pc 129 taken: ¬ (own_ix cs (10 : Int32)) < (0 : Int32)
                exact absurd hx10 hc129
              · -- pc 129 not taken: (own_ix cs (10 : Int32)) < (0 : Int32)
                refine RunW.aloadN d6_132 rfl rfl (pc' := 133) rfl ?_
                refine RunW.bipush (13 : Int32) d6_133 (by decide) (pc' := 135) rfl ?_
                refine RunW.callV (k' := 4) (n' := 60) (a := t) (as := [(.int (13 : Int32))]) (rest := []) (con_six l Z a0 hw n0 h13 sz13 t b cs (13 : Int32) cz od13 SZ hcz E_t_13 F_t_value_13 F_t_coder_13 A_b_13 hp hn hch (by decide) (by decide)) (by rintro _ _ ⟨_, -, -, rfl⟩; exact ⟨[], Keep.refl _ _, all0⟩) E_t_13 d6_135 (hw _ (List.mem_of_getElem? (i := 58) rfl)) (hw _ (List.mem_of_getElem? (i := 59) rfl)) (fun s hZ => notFace_of_selects (args := #[]) (mvT hZ (hw _ (List.mem_of_getElem? (i := 61) rfl)))) (hw _ (List.mem_of_getElem? (i := 61) rfl)) (hw _ (List.mem_of_getElem? (i := 60) rfl)) (hw _ (List.mem_of_getElem? (i := 16) rfl)) (hw _ (List.mem_of_getElem? (i := 62) rfl)) (by decide) pd__I_I rfl rfl rfl (by decide) (by show (0 : Nat) + (2 + 11) + 46 ≤ _; decide) (by decide) (by decide) (by decide) (by decide) (pc' := 138) rfl ?_
                rintro _ _ ⟨_, rfl, rfl, rfl⟩ -
                show RunW l Z own_EL n0 "com/example/wireform/wireform/rules/Verdict" prog_47_method_1_code 6 none "<init>" ({ frames := 5, cells := 4, slots := 60, locals := 68 } : Room) _ 138 #[.val (.ref v), .val (.ref kd), .val (.int ln), .val (.ref t), .val (.int (1 : Int32)), .val (.int (1 : Int32))] [(.int (own_ix cs (13 : Int32)))] h13 vm13 4 60
                refine RunW.if_lt d6_138 (by decide) (pc' := 155) (by decide) (pa := 141) rfl (fun hc138 => ?_) (fun hc138 => ?_)
                · -- pc 138 taken: (own_ix cs (13 : Int32)) < (0 : Int32)
                  refine RunW.aloadN d6_155 rfl rfl (pc' := 156) rfl ?_
                  refine RunW.aloadN d6_156 rfl rfl (pc' := 157) rfl ?_
                  refine RunW.alike fun al27 => ?_
                  refine RunW.putF d6_157 (host := "") (Or.inl (hw _ (List.mem_of_getElem? (i := 99) rfl))) Via.refl F_v_kind_13 E_v_13 (Or.inr ⟨(hw _ (List.mem_of_getElem? (i := 100) rfl)), rfl, rfl⟩) (hw _ (List.mem_of_getElem? (i := 24) rfl)) (ty := (.object "com/example/wireform/wireform/rules/Verdict$Kind")) (by decide) (go_narref rfl rfl) rfl gv (Safe.exa al27 E_v_13 (by decide) (by decide)) (pc' := 160) rfl ?_
                  intro h26 W26 c26
                  have Fw26 := F_v_kind_13.same W26
                  have E_t_26 := E_t_13.wr W26
                  have F_t_value_26 := F_t_value_13.other W26 (Or.inl htv)
                  have F_t_coder_26 := F_t_coder_13.other W26 (Or.inl htv)
                  have A_b_26 := A_b_13.other W26 hbv
                  have E_v_26 := E_v_13.wr W26
                  have F_v_lineNumber_26 := F_v_lineNumber_13.other W26 (Or.inr (slot_ne (Or.inr (hw _ (List.mem_of_getElem? (i := 102) rfl))) (Or.inr (hw _ (List.mem_of_getElem? (i := 100) rfl))) (by decide) (t := .int) (t' := (.object "com/example/wireform/wireform/rules/Verdict$Kind")) (by decide) (by decide)))
                  have F_v_errorName_26 := F_v_errorName_13.other W26 (Or.inr (slot_ne (Or.inr (hw _ (List.mem_of_getElem? (i := 104) rfl))) (Or.inr (hw _ (List.mem_of_getElem? (i := 100) rfl))) (by decide) (t := (.object "java/lang/String")) (t' := (.object "com/example/wireform/wireform/rules/Verdict$Kind")) (by decide) (by decide)))
                  have E_a12_26 := E_a12_13.wr W26
                  have E_a13_26 := X13.wr W26
                  have sz26 : n0 ≤ h26.size := by rw [W26.size]; exact sz13
                  have kp26 := Keep.wr kp13 W26 (Or.inl (List.mem_of_getElem? (i := 0) rfl))
                  have od26 := od13.wr W26 gv
                  refine RunW.aloadN d6_160 rfl rfl (pc' := 161) rfl ?_
                  refine RunW.iloadN d6_161 rfl (pc' := 162) rfl ?_
                  refine RunW.putF d6_162 (host := "") (Or.inl (hw _ (List.mem_of_getElem? (i := 101) rfl))) Via.refl F_v_lineNumber_26 E_v_26 (Or.inr ⟨(hw _ (List.mem_of_getElem? (i := 102) rfl)), rfl, rfl⟩) (hw _ (List.mem_of_getElem? (i := 24) rfl)) (ty := .int) (by decide) rfl rfl gv (Safe.exa al27 E_v_26 (by decide) (by decide)) (pc' := 165) rfl ?_
                  intro h28 W28 c28
                  have Fw28 := F_v_lineNumber_26.same W28
                  have E_t_28 := E_t_26.wr W28
                  have F_t_value_28 := F_t_value_26.other W28 (Or.inl htv)
                  have F_t_coder_28 := F_t_coder_26.other W28 (Or.inl htv)
                  have A_b_28 := A_b_26.other W28 hbv
                  have E_v_28 := E_v_26.wr W28
                  have F_v_errorName_28 := F_v_errorName_26.other W28 (Or.inr (slot_ne (Or.inr (hw _ (List.mem_of_getElem? (i := 104) rfl))) (Or.inr (hw _ (List.mem_of_getElem? (i := 102) rfl))) (by decide) (t := (.object "java/lang/String")) (t' := .int) (by decide) (by decide)))
                  have E_a12_28 := E_a12_26.wr W28
                  have E_a13_28 := E_a13_26.wr W28
                  have F_v_kind_28 := Fw26.other W28 (Or.inr (slot_ne (Or.inr (hw _ (List.mem_of_getElem? (i := 100) rfl))) (Or.inr (hw _ (List.mem_of_getElem? (i := 102) rfl))) (by decide) (t := (.object "com/example/wireform/wireform/rules/Verdict$Kind")) (t' := .int) (by decide) (by decide)))
                  have sz28 : n0 ≤ h28.size := by rw [W28.size]; exact sz26
                  have kp28 := Keep.wr kp26 W28 (Or.inl (List.mem_of_getElem? (i := 0) rfl))
                  have od28 := od26.wr W28 gv
                  refine RunW.aloadN d6_165 rfl rfl (pc' := 166) rfl ?_
                  refine RunW.aloadN d6_166 rfl rfl (pc' := 167) rfl ?_
                  refine RunW.putF d6_167 (host := "") (Or.inl (hw _ (List.mem_of_getElem? (i := 103) rfl))) Via.refl F_v_errorName_28 E_v_28 (Or.inr ⟨(hw _ (List.mem_of_getElem? (i := 104) rfl)), rfl, rfl⟩) (hw _ (List.mem_of_getElem? (i := 24) rfl)) (ty := (.object "java/lang/String")) (by decide) (go_narref rfl rfl) rfl gv (Safe.exa al27 E_v_28 (by decide) (by decide)) (pc' := 170) rfl ?_
                  intro h29 W29 c29
                  have Fw29 := F_v_errorName_28.same W29
                  have E_t_29 := E_t_28.wr W29
                  have F_t_value_29 := F_t_value_28.other W29 (Or.inl htv)
                  have F_t_coder_29 := F_t_coder_28.other W29 (Or.inl htv)
                  have A_b_29 := A_b_28.other W29 hbv
                  have E_v_29 := E_v_28.wr W29
                  have E_a12_29 := E_a12_28.wr W29
                  have E_a13_29 := E_a13_28.wr W29
                  have F_v_kind_29 := F_v_kind_28.other W29 (Or.inr (slot_ne (Or.inr (hw _ (List.mem_of_getElem? (i := 100) rfl))) (Or.inr (hw _ (List.mem_of_getElem? (i := 104) rfl))) (by decide) (t := (.object "com/example/wireform/wireform/rules/Verdict$Kind")) (t' := (.object "java/lang/String")) (by decide) (by decide)))
                  have F_v_lineNumber_29 := Fw28.other W29 (Or.inr (slot_ne (Or.inr (hw _ (List.mem_of_getElem? (i := 102) rfl))) (Or.inr (hw _ (List.mem_of_getElem? (i := 104) rfl))) (by decide) (t := .int) (t' := (.object "java/lang/String")) (by decide) (by decide)))
                  have sz29 : n0 ≤ h29.size := by rw [W29.size]; exact sz28
                  have kp29 := Keep.wr kp28 W29 (Or.inl (List.mem_of_getElem? (i := 0) rfl))
                  have od29 := od28.wr W29 gv
                  exact RunW.vreturn d6_170 rfl (by decide) (by decide) ⟨rfl, kp29, E_v_29, F_v_kind_29, F_v_lineNumber_29, Fw29⟩
                · -- pc 138 not taken: ¬ (own_ix cs (13 : Int32)) < (0 : Int32)
                  exact absurd hx13 hc138
            · -- pc 102 not taken: (1 : Int32) = (0 : Int32)
              exact absurd hc102 (by decide)
      · -- pc 51 not taken: (1 : Int32) = (0 : Int32)
        exact absurd hc51 (by decide)
theorem d4_0 : decode method_7_code 0 = .ok (.iload_n 0, 1) := by decide +kernel
theorem d4_1 : decode method_7_code 1 = .ok (.ifCond .ne 6, 3) := by decide +kernel
theorem d4_4 : decode method_7_code 4 = .ok (.ldc 63, 2) := by decide +kernel
theorem d4_6 : decode method_7_code 6 = .ok (.areturn, 1) := by decide +kernel
theorem d4_7 : decode method_7_code 7 = .ok (.iload_n 0, 1) := by decide +kernel
theorem d4_8 : decode method_7_code 8 = .ok (.iconst 1, 1) := by decide +kernel
theorem d4_9 : decode method_7_code 9 = .ok (.if_icmp .ne 9, 3) := by decide +kernel
theorem d4_12 : decode method_7_code 12 = .ok (.iload_n 1, 1) := by decide +kernel
theorem d4_13 : decode method_7_code 13 = .ok (.i2c, 1) := by decide +kernel
theorem d4_14 : decode method_7_code 14 = .ok (.invokestatic 65, 3) := by decide +kernel
theorem d4_17 : decode method_7_code 17 = .ok (.areturn, 1) := by decide +kernel
theorem d4_18 : decode method_7_code 18 = .ok (.iconst 2, 1) := by decide +kernel
theorem d4_19 : decode method_7_code 19 = .ok (.newarray .char, 2) := by decide +kernel
theorem d4_21 : decode method_7_code 21 = .ok (.astore_n 3, 1) := by decide +kernel
theorem d4_22 : decode method_7_code 22 = .ok (.aload_n 3, 1) := by decide +kernel
theorem d4_23 : decode method_7_code 23 = .ok (.iconst 0, 1) := by decide +kernel
theorem d4_24 : decode method_7_code 24 = .ok (.iload_n 1, 1) := by decide +kernel
theorem d4_25 : decode method_7_code 25 = .ok (.i2c, 1) := by decide +kernel
theorem d4_26 : decode method_7_code 26 = .ok (.castore, 1) := by decide +kernel
theorem d4_27 : decode method_7_code 27 = .ok (.aload_n 3, 1) := by decide +kernel
theorem d4_28 : decode method_7_code 28 = .ok (.iconst 1, 1) := by decide +kernel
theorem d4_29 : decode method_7_code 29 = .ok (.iload_n 2, 1) := by decide +kernel
theorem d4_30 : decode method_7_code 30 = .ok (.i2c, 1) := by decide +kernel
theorem d4_31 : decode method_7_code 31 = .ok (.castore, 1) := by decide +kernel
theorem d4_32 : decode method_7_code 32 = .ok (.new 66, 3) := by decide +kernel
theorem d4_35 : decode method_7_code 35 = .ok (.dup, 1) := by decide +kernel
theorem d4_36 : decode method_7_code 36 = .ok (.aload_n 3, 1) := by decide +kernel
theorem d4_37 : decode method_7_code 37 = .ok (.invokespecial 70, 3) := by decide +kernel
theorem d4_40 : decode method_7_code 40 = .ok (.areturn, 1) := by decide +kernel
theorem pn_4 : plainFor (⟨"com/example/wireform/wireform/rules/VerdictEqualsPinLaw", "nameFor", "(III)Ljava/lang/String;"⟩ : MethodName) = true := plainFor_of_name (by first | (simp [plainName, overriddenIn]; done) | decide +kernel)
theorem ef_con_nam0 (m : MethodId) (c0 c1 : Int32) (cz : Int32)  : entryFrame m #[(.int (0 : Int32)), (.int c0), (.int c1)] 4 = mkF m 0 #[.val (.int (0 : Int32)), .val (.int c0), .val (.int c1), .unset] [] := by first | (simp [entryFrame, mkF, argsToLocals, Value.category]; done) | rfl
set_option maxRecDepth 65536 in
set_option maxHeartbeats 40000000 in
theorem con_nam0 (l : Launch) (Z : State) (a0 : Array Value) (hw : ∀ d ∈ tables_1, d.before a0 Z = true) (n0 : Nat) (h0 : Heap) (Z0 : n0 ≤ h0.size) (c0 c1 : Int32) (cz : Int32) (od0 : Old Z n0 h0) (SZ : Sta Z Z.heap "java/lang/String" "COMPACT_STRINGS" "Z" (.int cz)) (hcz : ¬ cz = 0) (q0 : nar .char c0 = c0 ∧ 0 ≤ c0.toInt ∧ c0.toInt ≤ 255) (q1 : nar .char c1 = c1 ∧ 0 ≤ c1.toInt ∧ c1.toInt ≤ 255) :
    ConW l Z own_EL n0 (⟨"com/example/wireform/wireform/rules/VerdictEqualsPinLaw", "nameFor", "(III)Ljava/lang/String;"⟩ : MethodName) method_7_code 4 (some (.object "java/lang/String")) ({ frames := 4, cells := 3, slots := 8, locals := 66 } : Room) #[(.int (0 : Int32)), (.int c0), (.int c1)] h0 [] (Val fun w h' => ∃ t b, w = .ref t ∧ Ext h0 h' ∧ Exa Z h' t "java/lang/String" ∧ Fld Z h' t "java/lang/String" "value" "[B" (.ref b) ∧ Fld Z h' t "java/lang/String" "coder" "B" (.int (own_coder ([c0, c1].take 0))) ∧ Ary Z h' b .byte (own_enc ([c0, c1].take 0))) := by
  refine ConW.of_run (own_EW hw) pn_4 (fun m => ef_con_nam0 m c0 c1 cz ) ?_
  intro vm hal hsf
  refine RunW.iloadN d4_0 rfl (pc' := 1) rfl ?_
  refine RunW.if_ne d4_1 (by decide) (pc' := 7) (by decide) (pa := 4) rfl (fun hc1 => ?_) (fun hc1 => ?_)
  · -- pc 1 taken: ¬ (0 : Int32) = (0 : Int32)
    exact absurd hc1 (by decide)
  · -- pc 1 not taken: (0 : Int32) = (0 : Int32)
    refine RunW.ldcT (len := 0) (z := (0 : Int32)) (bs := []) (k' := 2) (n' := 4) d4_4 (hw _ (List.mem_of_getElem? (i := 15) rfl)) (own_wS hw) (own_EW hw) (List.mem_of_getElem? (i := 0) rfl) (by decide) (by decide) (by decide) (by decide) (by decide) (by decide) (by decide) (by decide) (pc' := 6) rfl ?_
    intro h11 vm11 a11 b11 E11 c11 X11 FC11 FV11 A11 ns11
    have sz11 : n0 ≤ h11.size := Nat.le_trans Z0 E11.1
    have kp11 := Keep.ext (Keep.refl h0 []) E11
    have od11 := od0.ext E11
    have FCl12 : Fld Z h11 a11 "java/lang/String" "coder" "B" (.int (own_coder [])) := by rw [own_l0c]; exact FC11
    have ABl12 : Ary Z h11 b11 .byte (own_enc []) := by rw [own_l0e]; exact A11
    exact RunW.areturn d4_6 (ty := (.object "java/lang/String")) rfl rfl rfl (by decide) (by decide) ⟨_, rfl, a11, b11, rfl, Keep.toExt kp11, X11, FV11, FCl12, ABl12⟩
theorem pd__C_Ljava_lang_String_ : parseMethodDescriptor "(C)Ljava/lang/String;" = some ⟨[.char], some (.object "java/lang/String")⟩ := by decide +kernel
theorem ef_con_nam1 (m : MethodId) (c0 c1 : Int32) (cz : Int32)  : entryFrame m #[(.int (1 : Int32)), (.int c0), (.int c1)] 4 = mkF m 0 #[.val (.int (1 : Int32)), .val (.int c0), .val (.int c1), .unset] [] := by first | (simp [entryFrame, mkF, argsToLocals, Value.category]; done) | rfl
set_option maxRecDepth 65536 in
set_option maxHeartbeats 40000000 in
theorem con_nam1 (l : Launch) (Z : State) (a0 : Array Value) (hw : ∀ d ∈ tables_1, d.before a0 Z = true) (n0 : Nat) (h0 : Heap) (Z0 : n0 ≤ h0.size) (c0 c1 : Int32) (cz : Int32) (od0 : Old Z n0 h0) (SZ : Sta Z Z.heap "java/lang/String" "COMPACT_STRINGS" "Z" (.int cz)) (hcz : ¬ cz = 0) (q0 : nar .char c0 = c0 ∧ 0 ≤ c0.toInt ∧ c0.toInt ≤ 255) (q1 : nar .char c1 = c1 ∧ 0 ≤ c1.toInt ∧ c1.toInt ≤ 255) :
    ConW l Z own_EL n0 (⟨"com/example/wireform/wireform/rules/VerdictEqualsPinLaw", "nameFor", "(III)Ljava/lang/String;"⟩ : MethodName) method_7_code 4 (some (.object "java/lang/String")) ({ frames := 4, cells := 3, slots := 8, locals := 66 } : Room) #[(.int (1 : Int32)), (.int c0), (.int c1)] h0 [] (Val fun w h' => ∃ t b, w = .ref t ∧ Ext h0 h' ∧ Exa Z h' t "java/lang/String" ∧ Fld Z h' t "java/lang/String" "value" "[B" (.ref b) ∧ Fld Z h' t "java/lang/String" "coder" "B" (.int (own_coder ([c0, c1].take 1))) ∧ Ary Z h' b .byte (own_enc ([c0, c1].take 1))) := by
  refine ConW.of_run (own_EW hw) pn_4 (fun m => ef_con_nam1 m c0 c1 cz ) ?_
  intro vm hal hsf
  refine RunW.iloadN d4_0 rfl (pc' := 1) rfl ?_
  refine RunW.if_ne d4_1 (by decide) (pc' := 7) (by decide) (pa := 4) rfl (fun hc1 => ?_) (fun hc1 => ?_)
  · -- pc 1 taken: ¬ (1 : Int32) = (0 : Int32)
    refine RunW.iloadN d4_7 rfl (pc' := 8) rfl ?_
    refine RunW.iconst (1 : Int32) d4_8 (by decide) (pc' := 9) rfl ?_
    refine RunW.icmp_ne d4_9 (by decide) (pc' := 18) (by decide) (pa := 12) rfl (fun hc9 => ?_) (fun hc9 => ?_)
    · -- pc 9 taken: ¬ (1 : Int32) = (1 : Int32)
      exact absurd hc9 (by decide)
    · -- pc 9 not taken: (1 : Int32) = (1 : Int32)
      refine RunW.iloadN d4_12 rfl (pc' := 13) rfl ?_
      refine RunW.i2c d4_13 (pc' := 14) rfl ?_
      rw [q0.1]
      refine RunW.callS (k' := 2) (n' := 5) (as := [(.int c0)]) (rest := []) (con_voc l Z a0 hw n0 h0 Z0 c0 cz od0 SZ hcz (own_latN q0.2.2)) (by rintro _ _ ⟨_, rfl, ⟨t_, b_, rfl, bw_, E_, X_, FV_, FC_, P_⟩⟩; exact ⟨[], Keep.ofExt E_, all0⟩) d4_14 (hw _ (List.mem_of_getElem? (i := 119) rfl)) (hw _ (List.mem_of_getElem? (i := 120) rfl)) (hw _ (List.mem_of_getElem? (i := 16) rfl)) (hw _ (List.mem_of_getElem? (i := 121) rfl)) (by decide) pd__C_Ljava_lang_String_ rfl rfl rfl (by decide) (by show (0 : Nat) + (1 + 11) + 27 ≤ _; decide) (by decide) (by decide) (by decide) (by decide) (pc' := 17) rfl ?_
      rintro _ h11 ⟨_, rfl, ⟨t11, b11, rfl, bw11, E11, X11, FV11, FC11, P11⟩⟩ c11
      show RunW l Z own_EL n0 "com/example/wireform/wireform/rules/VerdictEqualsPinLaw" method_7_code 4 (some (.object "java/lang/String")) "nameFor" ({ frames := 4, cells := 3, slots := 8, locals := 66 } : Room) _ 17 #[.val (.int (1 : Int32)), .val (.int c0), .val (.int c1), .unset] [(.ref t11)] h11 vm 2 5
      have ge_t11 : n0 ≤ t11 := Nat.le_trans Z0 bw11
      have bo_t11 : h0.size ≤ t11 := Nat.le_trans (Keep.refl h0 []).1 bw11
      have sz11 : n0 ≤ h11.size := Nat.le_trans Z0 E11.1
      have kp11 := Keep.ext (Keep.refl h0 []) E11
      have od11 := od0.ext E11
      exact RunW.areturn d4_17 (ty := (.object "java/lang/String")) rfl rfl rfl (by decide) (by decide) ⟨_, rfl, t11, b11, rfl, Keep.toExt kp11, X11, FV11, FC11, P11⟩
  · -- pc 1 not taken: (1 : Int32) = (0 : Int32)
    exact absurd hc1 (by decide)
theorem pd___C_V : parseMethodDescriptor "([C)V" = some ⟨[(.array .char)], none⟩ := by decide +kernel
theorem ef_con_nam2 (m : MethodId) (c0 c1 : Int32) (cz : Int32)  : entryFrame m #[(.int (2 : Int32)), (.int c0), (.int c1)] 4 = mkF m 0 #[.val (.int (2 : Int32)), .val (.int c0), .val (.int c1), .unset] [] := by first | (simp [entryFrame, mkF, argsToLocals, Value.category]; done) | rfl
set_option maxRecDepth 65536 in
set_option maxHeartbeats 40000000 in
theorem con_nam2 (l : Launch) (Z : State) (a0 : Array Value) (hw : ∀ d ∈ tables_1, d.before a0 Z = true) (n0 : Nat) (h0 : Heap) (Z0 : n0 ≤ h0.size) (c0 c1 : Int32) (cz : Int32) (od0 : Old Z n0 h0) (SZ : Sta Z Z.heap "java/lang/String" "COMPACT_STRINGS" "Z" (.int cz)) (hcz : ¬ cz = 0) (q0 : nar .char c0 = c0 ∧ 0 ≤ c0.toInt ∧ c0.toInt ≤ 255) (q1 : nar .char c1 = c1 ∧ 0 ≤ c1.toInt ∧ c1.toInt ≤ 255) :
    ConW l Z own_EL n0 (⟨"com/example/wireform/wireform/rules/VerdictEqualsPinLaw", "nameFor", "(III)Ljava/lang/String;"⟩ : MethodName) method_7_code 4 (some (.object "java/lang/String")) ({ frames := 4, cells := 3, slots := 8, locals := 66 } : Room) #[(.int (2 : Int32)), (.int c0), (.int c1)] h0 [] (Val fun w h' => ∃ t b, w = .ref t ∧ Ext h0 h' ∧ Exa Z h' t "java/lang/String" ∧ Fld Z h' t "java/lang/String" "value" "[B" (.ref b) ∧ Fld Z h' t "java/lang/String" "coder" "B" (.int (own_coder ([c0, c1].take 2))) ∧ Ary Z h' b .byte (own_enc ([c0, c1].take 2))) := by
  refine ConW.of_run (own_EW hw) pn_4 (fun m => ef_con_nam2 m c0 c1 cz ) ?_
  intro vm hal hsf
  refine RunW.iloadN d4_0 rfl (pc' := 1) rfl ?_
  refine RunW.if_ne d4_1 (by decide) (pc' := 7) (by decide) (pa := 4) rfl (fun hc1 => ?_) (fun hc1 => ?_)
  · -- pc 1 taken: ¬ (2 : Int32) = (0 : Int32)
    refine RunW.iloadN d4_7 rfl (pc' := 8) rfl ?_
    refine RunW.iconst (1 : Int32) d4_8 (by decide) (pc' := 9) rfl ?_
    refine RunW.icmp_ne d4_9 (by decide) (pc' := 18) (by decide) (pa := 12) rfl (fun hc9 => ?_) (fun hc9 => ?_)
    · -- pc 9 taken: ¬ (2 : Int32) = (1 : Int32)
      refine RunW.iconst (2 : Int32) d4_18 (by decide) (pc' := 19) rfl ?_
      refine RunW.newP (ty := .char) (m := 2) (cap := 2) (dv := (.int (0 : Int32))) (k' := 1) (n' := 2) d4_19 rfl (hw _ (List.mem_of_getElem? (i := 177) rfl)) (by decide) (by decide) (Nat.le_refl _) rfl (by decide) (by decide) (by decide) (by decide) (by decide) (pc' := 21) rfl ?_
      intro h11 b11 g11 E11 A11 c11 sf11
      have ge_b11 : n0 ≤ b11 := by rw [g11]; exact Z0
      have bo_b11 : h0.size ≤ b11 := by rw [g11]; exact (Keep.refl h0 []).1
      have sz11 : n0 ≤ h11.size := Nat.le_trans Z0 E11.1
      have kp11 := Keep.ext (Keep.refl h0 []) E11
      have od11 := od0.ext E11
      replace A11 : Ary Z h11 b11 .char [(.int (0 : Int32)), (.int (0 : Int32))] := A11
      refine RunW.astoreN (l' := #[.val (.int (2 : Int32)), .val (.int c0), .val (.int c1), .val (.ref b11)]) d4_21 rfl rfl (pc' := 22) rfl ?_
      refine RunW.aloadN d4_22 rfl rfl (pc' := 23) rfl ?_
      refine RunW.iconst (0 : Int32) d4_23 (by decide) (pc' := 24) rfl ?_
      refine RunW.iloadN d4_24 rfl (pc' := 25) rfl ?_
      refine RunW.i2c d4_25 (pc' := 26) rfl ?_
      rw [q0.1]
      refine RunW.castore (i := 0) d4_26 A11 (by decide) (by show (0 : Nat) < 2; decide) ge_b11 sf11 (pc' := 27) rfl ?_
      intro h12 W12 c12 A12
      have Z_b11_12 := CHr.safe c12 A11.lt sf11
      have sz12 : n0 ≤ h12.size := by rw [W12.size]; exact sz11
      have kp12 := Keep.wr kp11 W12 (Or.inr bo_b11)
      have od12 := od11.wr W12 ge_b11
      rw [q0.1] at A12
      replace A12 : Ary Z h12 b11 .char [(.int c0), (.int (0 : Int32))] := A12
      refine RunW.aloadN d4_27 rfl rfl (pc' := 28) rfl ?_
      refine RunW.iconst (1 : Int32) d4_28 (by decide) (pc' := 29) rfl ?_
      refine RunW.iloadN d4_29 rfl (pc' := 30) rfl ?_
      refine RunW.i2c d4_30 (pc' := 31) rfl ?_
      rw [q1.1]
      refine RunW.castore (i := 1) d4_31 A12 (by decide) (by show (1 : Nat) < 2; decide) ge_b11 Z_b11_12 (pc' := 32) rfl ?_
      intro h13 W13 c13 A13
      have Z_b11_13 := CHr.safe c13 A12.lt Z_b11_12
      have sz13 : n0 ≤ h13.size := by rw [W13.size]; exact sz12
      have kp13 := Keep.wr kp12 W13 (Or.inr bo_b11)
      have od13 := od12.wr W13 ge_b11
      rw [q1.1] at A13
      replace A13 : Ary Z h13 b11 .char [(.int c0), (.int c1)] := A13
      refine RunW.newO (k' := 2) (n' := 6) d4_32 (hw _ (List.mem_of_getElem? (i := 178) rfl)) (hw _ (List.mem_of_getElem? (i := 17) rfl)) (hw _ (List.mem_of_getElem? (i := 16) rfl)) (by decide) (by decide) (by decide) (by decide) (pc' := 35) rfl ?_
      intro h14 b14 g14 E14 X14 D14 c14 sf14
      have ge_b14 : n0 ≤ b14 := by rw [g14]; exact sz13
      have bo_b14 : h0.size ≤ b14 := by rw [g14]; exact kp13.1
      have ne_b11_b14 : b11 ≠ b14 := by rw [g14]; exact Nat.ne_of_lt A13.lt
      have Z_b11_14 := CHr.safe c14 A13.lt Z_b11_13
      have A_b11_14 := A13.ext E14
      have sz14 : n0 ≤ h14.size := Nat.le_trans sz13 E14.1
      have kp14 := Keep.ext kp13 E14
      have od14 := od13.ext E14
      have F_b14_value : Fld Z h14 b14 "java/lang/String" "value" "[B" .null := D14 (Or.inr (hw _ (List.mem_of_getElem? (i := 19) rfl))) (ty := (.array .byte)) (by decide)
      have F_b14_coder : Fld Z h14 b14 "java/lang/String" "coder" "B" (.int (0 : Int32)) := D14 (Or.inr (hw _ (List.mem_of_getElem? (i := 20) rfl))) (ty := .byte) (by decide)
      refine RunW.dup d4_35 rfl (pc' := 36) rfl ?_
      refine RunW.aloadN d4_36 rfl rfl (pc' := 37) rfl ?_
      refine RunW.callN (k' := 3) (n' := 8) (a := b14) (as := [(.ref b11)]) (rest := [(.ref b14)]) (con_si1 l Z a0 hw n0 h14 sz14 b14 b11 [c0, c1] cz .null (.int (0 : Int32)) X14 F_b14_value F_b14_coder ge_b14 A_b11_14 (by simp) (by simp) (own_lat2 q0.2 q1.2) (SZ.ext od14.2) hcz (Ne.symm ne_b11_b14)) (by rintro _ _ ⟨rfl, ⟨b_, bw_, K_, X_, FV_, FC_, P_⟩⟩; exact ⟨[b14], K_, (allS sf14 all0)⟩) rfl rfl d4_37 (hw _ (List.mem_of_getElem? (i := 179) rfl)) (hw _ (List.mem_of_getElem? (i := 180) rfl)) (hw _ (List.mem_of_getElem? (i := 16) rfl)) (hw _ (List.mem_of_getElem? (i := 181) rfl)) (by decide) pd___C_V rfl rfl rfl (by decide) (by show (1 : Nat) + (2 + 11) + 52 ≤ _; decide) (by decide) (by decide) (by decide) (by decide) (pc' := 40) rfl ?_
      rintro _ h15 ⟨rfl, ⟨b15, bw15, K15, X15, FV15, FC15, P15⟩⟩ c15
      show RunW l Z own_EL n0 "com/example/wireform/wireform/rules/VerdictEqualsPinLaw" method_7_code 4 (some (.object "java/lang/String")) "nameFor" ({ frames := 4, cells := 3, slots := 8, locals := 66 } : Room) _ 40 #[.val (.int (2 : Int32)), .val (.int c0), .val (.int c1), .val (.ref b11)] [(.ref b14)] h15 vm 3 8
      have ge_b15 : n0 ≤ b15 := Nat.le_trans sz14 bw15
      have bo_b15 : h0.size ≤ b15 := Nat.le_trans kp14.1 bw15
      have ne_b11_b15 : b11 ≠ b15 := Nat.ne_of_lt (Nat.lt_of_lt_of_le A_b11_14.lt bw15)
      have ne_b14_b15 : b14 ≠ b15 := Nat.ne_of_lt (Nat.lt_of_lt_of_le X14.lt bw15)
      have Z_b11_15 := CHr.safe c15 A_b11_14.lt Z_b11_14
      have A_b11_15 := A_b11_14.keep K15 (ninS ne_b11_b14 nin0)
      have E_b14_15 := X14.keep K15
      have Z_b14_15 := CHr.safe c15 X14.lt sf14
      have sz15 : n0 ≤ h15.size := Nat.le_trans sz14 K15.1
      have kp15 := Keep.trans kp14 K15 (allS (Or.inr bo_b14) all0)
      have od15 := od14.keep K15 (allS ge_b14 all0)
      have FCl16 : Fld Z h15 b14 "java/lang/String" "coder" "B" (.int (own_coder [c0, c1])) := by rw [own_lato (own_lat2 q0.2 q1.2)]; exact FC15
      have ABl16 : Ary Z h15 b15 .byte (own_enc [c0, c1]) := by rw [own_late (own_lat2 q0.2 q1.2)]; exact P15
      exact RunW.areturn d4_40 (ty := (.object "java/lang/String")) rfl rfl rfl (by decide) (by decide) ⟨_, rfl, b14, b15, rfl, Keep.toExt kp15, X15, FV15, FCl16, ABl16⟩
    · -- pc 9 not taken: (2 : Int32) = (1 : Int32)
      exact absurd hc9 (by decide)
  · -- pc 1 not taken: (2 : Int32) = (0 : Int32)
    exact absurd hc1 (by decide)
theorem con_nam (l : Launch) (Z : State) (a0 : Array Value) (hw : ∀ d ∈ tables_1, d.before a0 Z = true) (n0 : Nat) (h0 : Heap) (Z0 : n0 ≤ h0.size) (n : Nat) (hn : n ≤ 2) (c0 c1 : Int32) (cz : Int32) (od0 : Old Z n0 h0) (SZ : Sta Z Z.heap "java/lang/String" "COMPACT_STRINGS" "Z" (.int cz)) (hcz : ¬ cz = 0) (q0 : nar .char c0 = c0 ∧ 0 ≤ c0.toInt ∧ c0.toInt ≤ 255) (q1 : nar .char c1 = c1 ∧ 0 ≤ c1.toInt ∧ c1.toInt ≤ 255) :
    ConW l Z own_EL n0 (⟨"com/example/wireform/wireform/rules/VerdictEqualsPinLaw", "nameFor", "(III)Ljava/lang/String;"⟩ : MethodName) method_7_code 4 (some (.object "java/lang/String")) ({ frames := 4, cells := 3, slots := 8, locals := 66 } : Room) #[.int (Int32.ofNat n), .int c0, .int c1] h0 [] (Val fun w h' => ∃ t b, w = .ref t ∧ Ext h0 h' ∧ Exa Z h' t "java/lang/String" ∧ Fld Z h' t "java/lang/String" "value" "[B" (.ref b) ∧ Fld Z h' t "java/lang/String" "coder" "B" (.int (own_coder ([c0, c1].take n))) ∧ Ary Z h' b .byte (own_enc ([c0, c1].take n))) := by
  match n, hn with
  | 0, _ => exact con_nam0 l Z a0 hw n0 h0 Z0 c0 c1 cz od0 SZ hcz q0 q1
  | 1, _ => exact con_nam1 l Z a0 hw n0 h0 Z0 c0 c1 cz od0 SZ hcz q0 q1
  | 2, _ => exact con_nam2 l Z a0 hw n0 h0 Z0 c0 c1 cz od0 SZ hcz q0 q1
def own_veq (kd ke : Addr) (la lb : Int32) (cs ds : List Int32) : Int32 := if kd = ke ∧ la = lb ∧ cs = ds then 1 else 0
theorem own_eq1 {cs ds : List Int32} (h : ¬ own_eq cs ds = 0) : cs = ds := by unfold own_eq at h; split at h; assumption; exact absurd rfl h
theorem own_eq0 {cs ds : List Int32} (h : own_eq cs ds = 0) : ¬ cs = ds := fun e => by unfold own_eq at h; rw [if_pos e] at h; exact absurd h (by decide)
theorem d20_0 : decode prog_47_method_5_code 0 = .ok (.aload_n 1, 1) := by decide +kernel
theorem d20_1 : decode prog_47_method_5_code 1 = .ok (.instanceof 59, 3) := by decide +kernel
theorem d20_4 : decode prog_47_method_5_code 4 = .ok (.ifCond .eq 48, 3) := by decide +kernel
theorem d20_7 : decode prog_47_method_5_code 7 = .ok (.aload_n 1, 1) := by decide +kernel
theorem d20_8 : decode prog_47_method_5_code 8 = .ok (.checkcast 59, 3) := by decide +kernel
theorem d20_11 : decode prog_47_method_5_code 11 = .ok (.astore_n 2, 1) := by decide +kernel
theorem d20_12 : decode prog_47_method_5_code 12 = .ok (.aload_n 0, 1) := by decide +kernel
theorem d20_13 : decode prog_47_method_5_code 13 = .ok (.getfield 58, 3) := by decide +kernel
theorem d20_16 : decode prog_47_method_5_code 16 = .ok (.aload_n 2, 1) := by decide +kernel
theorem d20_17 : decode prog_47_method_5_code 17 = .ok (.getfield 58, 3) := by decide +kernel
theorem d20_20 : decode prog_47_method_5_code 20 = .ok (.if_acmp .ne 32, 3) := by decide +kernel
theorem d20_23 : decode prog_47_method_5_code 23 = .ok (.aload_n 0, 1) := by decide +kernel
theorem d20_24 : decode prog_47_method_5_code 24 = .ok (.getfield 62, 3) := by decide +kernel
theorem d20_27 : decode prog_47_method_5_code 27 = .ok (.aload_n 2, 1) := by decide +kernel
theorem d20_28 : decode prog_47_method_5_code 28 = .ok (.getfield 62, 3) := by decide +kernel
theorem d20_31 : decode prog_47_method_5_code 31 = .ok (.if_icmp .ne 21, 3) := by decide +kernel
theorem d20_34 : decode prog_47_method_5_code 34 = .ok (.aload_n 0, 1) := by decide +kernel
theorem d20_35 : decode prog_47_method_5_code 35 = .ok (.getfield 66, 3) := by decide +kernel
theorem d20_38 : decode prog_47_method_5_code 38 = .ok (.aload_n 2, 1) := by decide +kernel
theorem d20_39 : decode prog_47_method_5_code 39 = .ok (.getfield 66, 3) := by decide +kernel
theorem d20_42 : decode prog_47_method_5_code 42 = .ok (.invokevirtual 81, 3) := by decide +kernel
theorem d20_45 : decode prog_47_method_5_code 45 = .ok (.ifCond .eq 7, 3) := by decide +kernel
theorem d20_48 : decode prog_47_method_5_code 48 = .ok (.iconst 1, 1) := by decide +kernel
theorem d20_49 : decode prog_47_method_5_code 49 = .ok (.goto 4, 3) := by decide +kernel
theorem d20_52 : decode prog_47_method_5_code 52 = .ok (.iconst 0, 1) := by decide +kernel
theorem d20_53 : decode prog_47_method_5_code 53 = .ok (.ireturn, 1) := by decide +kernel
theorem pn_20 : plainFor (⟨"com/example/wireform/wireform/rules/Verdict", "equals", "(Ljava/lang/Object;)Z"⟩ : MethodName) = true := plainFor_of_name (by first | (simp [plainName, overriddenIn]; done) | decide +kernel)
theorem ef_con_ve0 (m : MethodId) (v : Addr)  : entryFrame m #[(.ref v), .null] 3 = mkF m 0 #[.val (.ref v), .val .null, .unset] [] := by first | (simp [entryFrame, mkF, argsToLocals, Value.category]; done) | rfl
set_option maxRecDepth 65536 in
set_option maxHeartbeats 40000000 in
theorem con_ve0 (l : Launch) (Z : State) (a0 : Array Value) (hw : ∀ d ∈ tables_1, d.before a0 Z = true) (n0 : Nat) (h0 : Heap) (Z0 : n0 ≤ h0.size) (v : Addr)  :
    Con l Z n0 (⟨"com/example/wireform/wireform/rules/Verdict", "equals", "(Ljava/lang/Object;)Z"⟩ : MethodName) prog_47_method_5_code 3 (some .boolean) ({ frames := 0, cells := 0, slots := 0, locals := 0 } : Room) #[(.ref v), .null] h0 (Val (PV (.int (0 : Int32)) h0)) := by
  refine Con.of_run pn_20 (fun m => ef_con_ve0 m v ) ?_
  refine Run.aloadN d20_0 rfl rfl (pc' := 1) rfl ?_
  refine Run.instNull d20_1 (pc' := 4) rfl ?_
  refine Run.if_eq d20_4 (by decide) (pc' := 52) (by decide) (pa := 7) rfl (fun hc4 => ?_) (fun hc4 => ?_)
  · -- pc 4 taken: (0 : Int32) = (0 : Int32)
    refine Run.iconst (0 : Int32) d20_52 (by decide) (pc' := 53) rfl ?_
    exact Run.nreturn d20_53 (ty := .boolean) rfl (by simp) (by decide) (by decide) ⟨_, rfl, rfl, rfl⟩
  · -- pc 4 not taken: ¬ (0 : Int32) = (0 : Int32)
    exact absurd hc4 (by decide)
theorem ef_con_ve1 (m : MethodId) (v o : Addr)  : entryFrame m #[(.ref v), (.ref o)] 3 = mkF m 0 #[.val (.ref v), .val (.ref o), .unset] [] := by first | (simp [entryFrame, mkF, argsToLocals, Value.category]; done) | rfl
set_option maxRecDepth 65536 in
set_option maxHeartbeats 40000000 in
theorem con_ve1 (l : Launch) (Z : State) (a0 : Array Value) (hw : ∀ d ∈ tables_1, d.before a0 Z = true) (n0 : Nat) (h0 : Heap) (Z0 : n0 ≤ h0.size) (v o : Addr) (XO : Exa Z h0 o "java/lang/Integer") :
    Con l Z n0 (⟨"com/example/wireform/wireform/rules/Verdict", "equals", "(Ljava/lang/Object;)Z"⟩ : MethodName) prog_47_method_5_code 3 (some .boolean) ({ frames := 0, cells := 0, slots := 0, locals := 0 } : Room) #[(.ref v), (.ref o)] h0 (Val (PV (.int (0 : Int32)) h0)) := by
  refine Con.of_run pn_20 (fun m => ef_con_ve1 m v o ) ?_
  refine Run.aloadN d20_0 rfl rfl (pc' := 1) rfl ?_
  refine Run.instNo d20_1 (hw _ (List.mem_of_getElem? (i := 110) rfl)) XO (ns_no (hw _ (List.mem_of_getElem? (i := 174) rfl)) (hw _ (List.mem_of_getElem? (i := 24) rfl)) (NS.step (hw _ (List.mem_of_getElem? (i := 174) rfl)) (NS.step (hw _ (List.mem_of_getElem? (i := 175) rfl)) (ns_root (hw _ (List.mem_of_getElem? (i := 176) rfl)) (hw _ (List.mem_of_getElem? (i := 24) rfl)) (by decide)) (by decide)) (by decide)) (by decide)) (pc' := 4) rfl ?_
  refine Run.if_eq d20_4 (by decide) (pc' := 52) (by decide) (pa := 7) rfl (fun hc4 => ?_) (fun hc4 => ?_)
  · -- pc 4 taken: (0 : Int32) = (0 : Int32)
    refine Run.iconst (0 : Int32) d20_52 (by decide) (pc' := 53) rfl ?_
    exact Run.nreturn d20_53 (ty := .boolean) rfl (by simp) (by decide) (by decide) ⟨_, rfl, rfl, rfl⟩
  · -- pc 4 not taken: ¬ (0 : Int32) = (0 : Int32)
    exact absurd hc4 (by decide)
theorem pd__Ljava_lang_Object__Z : parseMethodDescriptor "(Ljava/lang/Object;)Z" = some ⟨[(.object "java/lang/Object")], some .boolean⟩ := by decide +kernel
theorem ef_con_ve2 (m : MethodId) (v o kd ke t b u d : Addr) (la lb : Int32) (cs ds : List Int32) (cz : Int32)  : entryFrame m #[(.ref v), (.ref o)] 3 = mkF m 0 #[.val (.ref v), .val (.ref o), .unset] [] := by first | (simp [entryFrame, mkF, argsToLocals, Value.category]; done) | rfl
set_option maxRecDepth 65536 in
set_option maxHeartbeats 40000000 in
theorem con_ve2 (l : Launch) (Z : State) (a0 : Array Value) (hw : ∀ d ∈ tables_1, d.before a0 Z = true) (n0 : Nat) (h0 : Heap) (Z0 : n0 ≤ h0.size) (v o kd ke t b u d : Addr) (la lb : Int32) (cs ds : List Int32) (cz : Int32) (od0 : Old Z n0 h0) (SZ : Sta Z Z.heap "java/lang/String" "COMPACT_STRINGS" "Z" (.int cz)) (hcz : ¬ cz = 0) (XO : Exa Z h0 o "com/example/wireform/wireform/rules/Verdict") (Gk : Fld Z h0 v "com/example/wireform/wireform/rules/Verdict" "kind" "Lcom/example/wireform/wireform/rules/Verdict$Kind;" (.ref kd)) (Gl : Fld Z h0 v "com/example/wireform/wireform/rules/Verdict" "lineNumber" "I" (.int la)) (Ge : Fld Z h0 v "com/example/wireform/wireform/rules/Verdict" "errorName" "Ljava/lang/String;" (.ref t)) (Hk : Fld Z h0 o "com/example/wireform/wireform/rules/Verdict" "kind" "Lcom/example/wireform/wireform/rules/Verdict$Kind;" (.ref ke)) (Hl : Fld Z h0 o "com/example/wireform/wireform/rules/Verdict" "lineNumber" "I" (.int lb)) (He : Fld Z h0 o "com/example/wireform/wireform/rules/Verdict" "errorName" "Ljava/lang/String;" (.ref u)) (E1 : Exa Z h0 t "java/lang/String") (FV : Fld Z h0 t "java/lang/String" "value" "[B" (.ref b)) (FC : Fld Z h0 t "java/lang/String" "coder" "B" (.int (own_coder cs))) (AB : Ary Z h0 b .byte (own_enc cs)) (E2 : Exa Z h0 u "java/lang/String") (FV2 : Fld Z h0 u "java/lang/String" "value" "[B" (.ref d)) (FC2 : Fld Z h0 u "java/lang/String" "coder" "B" (.int (own_coder ds))) (AB2 : Ary Z h0 d .byte (own_enc ds)) (hn : cs.length ≤ 2) (hch : own_chr cs) (hn2 : ds.length ≤ 2) (hch2 : own_chr ds) :
    Con l Z n0 (⟨"com/example/wireform/wireform/rules/Verdict", "equals", "(Ljava/lang/Object;)Z"⟩ : MethodName) prog_47_method_5_code 3 (some .boolean) ({ frames := 2, cells := 0, slots := 0, locals := 28 } : Room) #[(.ref v), (.ref o)] h0 (Val (PV (.int (own_veq kd ke la lb cs ds)) h0)) := by
  refine Con.of_run pn_20 (fun m => ef_con_ve2 m v o kd ke t b u d la lb cs ds cz ) ?_
  refine Run.aloadN d20_0 rfl rfl (pc' := 1) rfl ?_
  refine Run.instY d20_1 (hw _ (List.mem_of_getElem? (i := 110) rfl)) (Ins.self XO) (pc' := 4) rfl ?_
  refine Run.if_eq d20_4 (by decide) (pc' := 52) (by decide) (pa := 7) rfl (fun hc4 => ?_) (fun hc4 => ?_)
  · -- pc 4 taken: (1 : Int32) = (0 : Int32)
    exact absurd hc4 (by decide)
  · -- pc 4 not taken: ¬ (1 : Int32) = (0 : Int32)
    refine Run.aloadN d20_7 rfl rfl (pc' := 8) rfl ?_
    refine Run.castY d20_8 (hw _ (List.mem_of_getElem? (i := 110) rfl)) (Ins.self XO) (pc' := 11) rfl ?_
    refine Run.astoreN (l' := #[.val (.ref v), .val (.ref o), .val (.ref o)]) d20_11 rfl rfl (pc' := 12) rfl ?_
    refine Run.aloadN d20_12 rfl rfl (pc' := 13) rfl ?_
    refine Run.getF d20_13 (host := "") (Or.inl (hw _ (List.mem_of_getElem? (i := 99) rfl))) Via.refl Gk (pc' := 16) rfl ?_
    refine Run.aloadN d20_16 rfl rfl (pc' := 17) rfl ?_
    refine Run.getF d20_17 (host := "") (Or.inl (hw _ (List.mem_of_getElem? (i := 99) rfl))) Via.refl Hk (pc' := 20) rfl ?_
    refine Run.acmp_ne d20_20 rfl rfl (by decide) (pc' := 52) (by decide) (pa := 23) rfl (fun hc20 => ?_) (fun hc20 => ?_)
    · -- pc 20 taken: ¬ (.ref kd) = (.ref ke)
      refine Run.iconst (0 : Int32) d20_52 (by decide) (pc' := 53) rfl ?_
      exact Run.nreturn d20_53 (ty := .boolean) rfl (by simp) (by decide) (by decide) ⟨_, rfl, congrArg Value.int (by unfold own_veq; rw [if_neg (fun e => hc20 (by rw [e.1]))]; rfl), rfl⟩
    · -- pc 20 not taken: (.ref kd) = (.ref ke)
      refine Run.aloadN d20_23 rfl rfl (pc' := 24) rfl ?_
      refine Run.getF d20_24 (host := "") (Or.inl (hw _ (List.mem_of_getElem? (i := 101) rfl))) Via.refl Gl (pc' := 27) rfl ?_
      refine Run.aloadN d20_27 rfl rfl (pc' := 28) rfl ?_
      refine Run.getF d20_28 (host := "") (Or.inl (hw _ (List.mem_of_getElem? (i := 101) rfl))) Via.refl Hl (pc' := 31) rfl ?_
      refine Run.icmp_ne d20_31 (by decide) (pc' := 52) (by decide) (pa := 34) rfl (fun hc31 => ?_) (fun hc31 => ?_)
      · -- pc 31 taken: ¬ la = lb
        refine Run.iconst (0 : Int32) d20_52 (by decide) (pc' := 53) rfl ?_
        exact Run.nreturn d20_53 (ty := .boolean) rfl (by simp) (by decide) (by decide) ⟨_, rfl, congrArg Value.int (by unfold own_veq; rw [if_neg (fun e => hc31 e.2.1)]; rfl), rfl⟩
      · -- pc 31 not taken: la = lb
        refine Run.aloadN d20_34 rfl rfl (pc' := 35) rfl ?_
        refine Run.getF d20_35 (host := "") (Or.inl (hw _ (List.mem_of_getElem? (i := 103) rfl))) Via.refl Ge (pc' := 38) rfl ?_
        refine Run.aloadN d20_38 rfl rfl (pc' := 39) rfl ?_
        refine Run.getF d20_39 (host := "") (Or.inl (hw _ (List.mem_of_getElem? (i := 103) rfl))) Via.refl He (pc' := 42) rfl ?_
        refine Run.callV (k' := 0) (n' := 0) (a := t) (as := [(.ref u)]) (rest := []) (con_seq l Z a0 hw n0 h0 Z0 t b u d cs ds cz od0 SZ hcz E1 FV FC AB E2 FV2 FC2 AB2 hn hch hn2 hch2) E1 d20_42 (hw _ (List.mem_of_getElem? (i := 112) rfl)) (hw _ (List.mem_of_getElem? (i := 113) rfl)) (fun s hZ => notFace_of_selects (args := #[]) (mvT hZ (hw _ (List.mem_of_getElem? (i := 115) rfl)))) (hw _ (List.mem_of_getElem? (i := 115) rfl)) (hw _ (List.mem_of_getElem? (i := 114) rfl)) (hw _ (List.mem_of_getElem? (i := 16) rfl)) (hw _ (List.mem_of_getElem? (i := 116) rfl)) (by decide) pd__Ljava_lang_Object__Z rfl rfl rfl (by decide) (by show (0 : Nat) + (3 + 11) + 14 ≤ _; decide) (by decide) (by decide) (by decide) (by decide) (pc' := 45) rfl ?_
        rintro _ _ ⟨_, rfl, rfl, rfl⟩
        show Run l Z n0 "com/example/wireform/wireform/rules/Verdict" prog_47_method_5_code 3 (some .boolean) "equals" ({ frames := 2, cells := 0, slots := 0, locals := 28 } : Room) _ 45 #[.val (.ref v), .val (.ref o), .val (.ref o)] [(.int (own_eq cs ds))] h0 0 0
        refine Run.if_eq d20_45 (by decide) (pc' := 52) (by decide) (pa := 48) rfl (fun hc45 => ?_) (fun hc45 => ?_)
        · -- pc 45 taken: (own_eq cs ds) = (0 : Int32)
          refine Run.iconst (0 : Int32) d20_52 (by decide) (pc' := 53) rfl ?_
          exact Run.nreturn d20_53 (ty := .boolean) rfl (by simp) (by decide) (by decide) ⟨_, rfl, congrArg Value.int (by unfold own_veq; rw [if_neg (fun e => own_eq0 hc45 e.2.2)]; rfl), rfl⟩
        · -- pc 45 not taken: ¬ (own_eq cs ds) = (0 : Int32)
          refine Run.iconst (1 : Int32) d20_48 (by decide) (pc' := 49) rfl ?_
          refine Run.goto d20_49 (by decide) (pc' := 53) (by decide) ?_
          exact Run.nreturn d20_53 (ty := .boolean) rfl (by simp) (by decide) (by decide) ⟨_, rfl, congrArg Value.int (by unfold own_veq; rw [if_pos ⟨by injection hc20, hc31, own_eq1 hc45⟩]; rfl), rfl⟩
theorem own_bx {a : Int32} (h1 : ¬ a < (-128 : Int32)) (h2 : ¬ (127 : Int32) < a) : -128 ≤ a.toInt ∧ a.toInt ≤ 127 := by
  rw [Int32.lt_iff_toInt_lt] at h1 h2; have h5 : (-128 : Int32).toInt = -128 := rfl; have h6 : (127 : Int32).toInt = 127 := rfl; omega
theorem own_bix {a : Int32} (ha : -128 ≤ a.toInt ∧ a.toInt ≤ 127) : (a + (128 : Int32)).toInt = (((a.toInt + 128).toNat : Nat) : Int) := by
  have h3 := c_iadd a 128; have h4 := rng32 (a + 128); have h5 : (128 : Int32).toInt = 128 := rfl
  omega
theorem own_blen {args : Array Value} {s : State} {t : Term} {a : Addr} {cl : Cell} (ht : t.eval args s none [] s = some (.ref a)) (hc : s.arrayAt? a = some cl) (h : (Term.length t).eval args s none [] s = some (.int 256)) : cl.slots.size = 256 := by
  simp only [Term.eval, ht, hc, Option.bind_eq_bind, Option.bind_some] at h
  by_cases q : cl.slots.size < 2 ^ 31
  · simp only [q, if_true] at h
    have e : cl.slots.size.toInt32 = 256 := by simpa using h
    have := len_toInt q
    rw [e] at this
    have h5 : (256 : Int32).toInt = 256 := rfl
    omega
  · simp [q] at h
theorem own_sub {args : Array Value} {s : State} {j : Int32} (hj : ¬ j < 0) : (Term.sub (.index 0) (.int 128)).eval args s none [j.toNatClampNeg] s = some (.int (j - 128)) := by
  have h := (back32 hj).1
  simp [Term.eval, h]
theorem own_cache {s : State} {ac : Addr} {cl : Cell} {val : Int32 → Value} (B : Bxs s ac cl "java/lang/Integer" "I" 256 val) : ∀ a : Int32, (-128 ≤ a.toInt ∧ a.toInt ≤ 127) → ∃ bx, cl.slots.toList[(a.toInt + 128).toNat]? = some (.ref bx) ∧ Exa s s.heap bx "java/lang/Integer" := by
  intro a ha
  have h1 := own_bix ha
  have h2 : cl.slots.size = 256 := B.2.1
  obtain ⟨hin, e0⟩ := idxIn (c := cl) h1 (by omega)
  obtain ⟨b, hb, he, -⟩ := B.2.2.2 _ hin
  rw [e0] at hb
  exact ⟨b, by simpa using hb, he⟩
theorem d41_0 : decode jdk_18_method_1_code 0 = .ok (.aload_n 0, 1) := by decide +kernel
theorem d41_1 : decode jdk_18_method_1_code 1 = .ok (.invokespecial 1, 3) := by decide +kernel
theorem d41_4 : decode jdk_18_method_1_code 4 = .ok (.return_, 1) := by decide +kernel
theorem pn_41 : plainFor (⟨"java/lang/Number", "<init>", "()V"⟩ : MethodName) = true := plainFor_of_name (by first | (simp [plainName, overriddenIn]; done) | decide +kernel)
theorem ef_con_num (m : MethodId) (a1 : Addr)  : entryFrame m #[(.ref a1)] 1 = mkF m 0 #[.val (.ref a1)] [] := by first | (simp [entryFrame, mkF, argsToLocals, Value.category]; done) | rfl
set_option maxRecDepth 65536 in
set_option maxHeartbeats 40000000 in
theorem con_num (l : Launch) (Z : State) (a0 : Array Value) (hw : ∀ d ∈ tables_1, d.before a0 Z = true) (n0 : Nat) (h0 : Heap) (Z0 : n0 ≤ h0.size) (a1 : Addr)  :
    Con l Z n0 (⟨"java/lang/Number", "<init>", "()V"⟩ : MethodName) jdk_18_method_1_code 1 none ({ frames := 1, cells := 0, slots := 0, locals := 12 } : Room) #[(.ref a1)] h0 (Vd fun h' => h0 = h') := by
  refine Con.of_run pn_41 (fun m => ef_con_num m a1 ) ?_
  refine Run.aloadN d41_0 rfl rfl (pc' := 1) rfl ?_
  refine Run.initO d41_1 (hw _ (List.mem_of_getElem? (i := 212) rfl)) (hw _ (List.mem_of_getElem? (i := 41) rfl)) (hw _ (List.mem_of_getElem? (i := 42) rfl)) rfl (by decide) (by show (0 : Nat) + 12 ≤ _; decide) (pc' := 4) rfl ?_
  exact Run.vreturn d41_4 rfl (by decide) (by decide) ⟨rfl, rfl⟩
theorem d40_0 : decode jdk_33_method_23_code 0 = .ok (.aload_n 0, 1) := by decide +kernel
theorem d40_1 : decode jdk_33_method_23_code 1 = .ok (.invokespecial 202, 3) := by decide +kernel
theorem d40_4 : decode jdk_33_method_23_code 4 = .ok (.aload_n 0, 1) := by decide +kernel
theorem d40_5 : decode jdk_33_method_23_code 5 = .ok (.iload_n 1, 1) := by decide +kernel
theorem d40_6 : decode jdk_33_method_23_code 6 = .ok (.putfield 205, 3) := by decide +kernel
theorem d40_9 : decode jdk_33_method_23_code 9 = .ok (.return_, 1) := by decide +kernel
theorem pn_40 : plainFor (⟨"java/lang/Integer", "<init>", "(I)V"⟩ : MethodName) = true := plainFor_of_name (by first | (simp [plainName, overriddenIn]; done) | decide +kernel)
theorem ef_con_int (m : MethodId) (a1 : Addr) (p2 : Int32)  : entryFrame m #[(.ref a1), (.int p2)] 2 = mkF m 0 #[.val (.ref a1), .val (.int p2)] [] := by first | (simp [entryFrame, mkF, argsToLocals, Value.category]; done) | rfl
set_option maxRecDepth 65536 in
set_option maxHeartbeats 40000000 in
theorem con_int (l : Launch) (Z : State) (a0 : Array Value) (hw : ∀ d ∈ tables_1, d.before a0 Z = true) (n0 : Nat) (h0 : Heap) (Z0 : n0 ≤ h0.size) (a1 : Addr) (p2 : Int32) (E1 : Exa Z h0 a1 "java/lang/Integer") (F1 : Fld Z h0 a1 "java/lang/Integer" "value" "I" (.int (0 : Int32))) (g1 : n0 ≤ a1) :
    Con l Z n0 (⟨"java/lang/Integer", "<init>", "(I)V"⟩ : MethodName) jdk_33_method_23_code 2 none ({ frames := 2, cells := 0, slots := 0, locals := 24 } : Room) #[(.ref a1), (.int p2)] h0 (Vd fun h' => Keep h0 h' [a1]) := by
  refine Con.of_run pn_40 (fun m => ef_con_int m a1 p2 ) ?_
  refine Run.aloadN d40_0 rfl rfl (pc' := 1) rfl ?_
  refine Run.callN (k' := 0) (n' := 0) (a := a1) (as := []) (rest := []) (con_num l Z a0 hw n0 h0 Z0 a1) rfl d40_1 (hw _ (List.mem_of_getElem? (i := 206) rfl)) (hw _ (List.mem_of_getElem? (i := 207) rfl)) (hw _ (List.mem_of_getElem? (i := 210) rfl)) (hw _ (List.mem_of_getElem? (i := 211) rfl)) (by decide) pd___V rfl rfl rfl (by decide) (by show (0 : Nat) + (1 + 11) + 12 ≤ _; decide) (by decide) (by decide) (by decide) (by decide) (pc' := 4) rfl ?_
  rintro _ rfl
  show Run l Z n0 "java/lang/Integer" jdk_33_method_23_code 2 none "<init>" ({ frames := 2, cells := 0, slots := 0, locals := 24 } : Room) _ 4 #[.val (.ref a1), .val (.int p2)] [] h0 0 0
  refine Run.aloadN d40_4 rfl rfl (pc' := 5) rfl ?_
  refine Run.iloadN d40_5 rfl (pc' := 6) rfl ?_
  refine Run.putF d40_6 (host := "") (Or.inl (hw _ (List.mem_of_getElem? (i := 213) rfl))) Via.refl F1 E1 (Or.inr ⟨(hw _ (List.mem_of_getElem? (i := 214) rfl)), rfl, rfl⟩) (hw _ (List.mem_of_getElem? (i := 201) rfl)) (ty := .int) (by decide) rfl rfl g1 (pc' := 9) rfl ?_
  intro h12 W12
  have Fw12 := F1.same W12
  have E_a1_12 := E1.wr W12
  have sz12 : n0 ≤ h12.size := by rw [W12.size]; exact Z0
  have kp12 := Keep.wr (Keep.refl h0 [a1]) W12 (Or.inl (List.mem_of_getElem? (i := 0) rfl))
  exact Run.vreturn d40_9 rfl (by decide) (by decide) ⟨rfl, kp12⟩
theorem d33_0 : decode jdk_33_method_22_code 0 = .ok (.iload_n 0, 1) := by decide +kernel
theorem d33_1 : decode jdk_33_method_22_code 1 = .ok (.bipush (-128), 2) := by decide +kernel
theorem d33_3 : decode jdk_33_method_22_code 3 = .ok (.if_icmp .lt 20, 3) := by decide +kernel
theorem d33_6 : decode jdk_33_method_22_code 6 = .ok (.iload_n 0, 1) := by decide +kernel
theorem d33_7 : decode jdk_33_method_22_code 7 = .ok (.getstatic 191, 3) := by decide +kernel
theorem d33_10 : decode jdk_33_method_22_code 10 = .ok (.if_icmp .gt 13, 3) := by decide +kernel
theorem d33_13 : decode jdk_33_method_22_code 13 = .ok (.getstatic 195, 3) := by decide +kernel
theorem d33_16 : decode jdk_33_method_22_code 16 = .ok (.iload_n 0, 1) := by decide +kernel
theorem d33_17 : decode jdk_33_method_22_code 17 = .ok (.sipush 128, 3) := by decide +kernel
theorem d33_20 : decode jdk_33_method_22_code 20 = .ok (.iadd, 1) := by decide +kernel
theorem d33_21 : decode jdk_33_method_22_code 21 = .ok (.aaload, 1) := by decide +kernel
theorem d33_22 : decode jdk_33_method_22_code 22 = .ok (.areturn, 1) := by decide +kernel
theorem d33_23 : decode jdk_33_method_22_code 23 = .ok (.new 1, 3) := by decide +kernel
theorem d33_26 : decode jdk_33_method_22_code 26 = .ok (.dup, 1) := by decide +kernel
theorem d33_27 : decode jdk_33_method_22_code 27 = .ok (.iload_n 0, 1) := by decide +kernel
theorem d33_28 : decode jdk_33_method_22_code 28 = .ok (.invokespecial 199, 3) := by decide +kernel
theorem d33_31 : decode jdk_33_method_22_code 31 = .ok (.areturn, 1) := by decide +kernel
theorem pn_33 : plainFor (⟨"java/lang/Integer", "valueOf", "(I)Ljava/lang/Integer;"⟩ : MethodName) = true := plainFor_of_name (by first | (simp [plainName, overriddenIn]; done) | decide +kernel)
theorem pd__I_V : parseMethodDescriptor "(I)V" = some ⟨[.int], none⟩ := by decide +kernel
theorem ef_con_vof (m : MethodId) (p1 : Int32) (ac : Addr) (vs : List Value)  : entryFrame m #[(.int p1)] 1 = mkF m 0 #[.val (.int p1)] [] := by first | (simp [entryFrame, mkF, argsToLocals, Value.category]; done) | rfl
set_option maxRecDepth 65536 in
set_option maxHeartbeats 40000000 in
theorem con_vof (l : Launch) (Z : State) (a0 : Array Value) (hw : ∀ d ∈ tables_1, d.before a0 Z = true) (n0 : Nat) (h0 : Heap) (Z0 : n0 ≤ h0.size) (p1 : Int32) (ac : Addr) (vs : List Value) (od0 : Old Z n0 h0) (SH : Sta Z Z.heap "java/lang/Integer$IntegerCache" "high" "I" (.int (127 : Int32))) (SC : Sta Z Z.heap "java/lang/Integer$IntegerCache" "cache" "[Ljava/lang/Integer;" (.ref ac)) (AC : Ary Z Z.heap ac (.object "java/lang/Integer") vs) (hcache : ∀ a : Int32, (-128 ≤ a.toInt ∧ a.toInt ≤ 127) → ∃ bx, vs[(a.toInt + 128).toNat]? = some (.ref bx) ∧ Exa Z Z.heap bx "java/lang/Integer") :
    Con l Z n0 (⟨"java/lang/Integer", "valueOf", "(I)Ljava/lang/Integer;"⟩ : MethodName) jdk_33_method_22_code 1 (some (.object "java/lang/Integer")) ({ frames := 3, cells := 1, slots := 1, locals := 38 } : Room) #[(.int p1)] h0 (Val fun w h' => ∃ b, w = .ref b ∧ Ext h0 h' ∧ Exa Z h' b "java/lang/Integer") := by
  refine Con.of_run pn_33 (fun m => ef_con_vof m p1 ac vs ) ?_
  refine Run.iloadN d33_0 rfl (pc' := 1) rfl ?_
  refine Run.bipush (-128 : Int32) d33_1 (by decide) (pc' := 3) rfl ?_
  refine Run.icmp_lt d33_3 (by decide) (pc' := 23) (by decide) (pa := 6) rfl (fun hc3 => ?_) (fun hc3 => ?_)
  · -- pc 3 taken: p1 < (-128 : Int32)
    refine Run.newO (k' := 1) (n' := 1) d33_23 (hw _ (List.mem_of_getElem? (i := 200) rfl)) (hw _ (List.mem_of_getElem? (i := 201) rfl)) (hw _ (List.mem_of_getElem? (i := 169) rfl)) (by decide) (by decide) (by decide) (by decide) (pc' := 26) rfl ?_
    intro h11 b11 g11 E11 X11 D11
    have ge_b11 : n0 ≤ b11 := by rw [g11]; exact Z0
    have bo_b11 : h0.size ≤ b11 := by rw [g11]; exact (Keep.refl h0 []).1
    have ne_ac_b11 : ac ≠ b11 := Nat.ne_of_lt (Nat.lt_of_lt_of_le (od0.1 ▸ AC.lt) ge_b11)
    have sz11 : n0 ≤ h11.size := Nat.le_trans Z0 E11.1
    have kp11 := Keep.ext (Keep.refl h0 []) E11
    have od11 := od0.ext E11
    have F_b11_value : Fld Z h11 b11 "java/lang/Integer" "value" "I" (.int (0 : Int32)) := D11 (Or.inr (hw _ (List.mem_of_getElem? (i := 214) rfl))) (ty := .int) (by decide)
    refine Run.dup d33_26 rfl (pc' := 27) rfl ?_
    refine Run.iloadN d33_27 rfl (pc' := 28) rfl ?_
    refine Run.callN (k' := 1) (n' := 1) (a := b11) (as := [(.int p1)]) (rest := [(.ref b11)]) (con_int l Z a0 hw n0 h11 sz11 b11 p1 X11 F_b11_value ge_b11) rfl d33_28 (hw _ (List.mem_of_getElem? (i := 202) rfl)) (hw _ (List.mem_of_getElem? (i := 203) rfl)) (hw _ (List.mem_of_getElem? (i := 169) rfl)) (hw _ (List.mem_of_getElem? (i := 205) rfl)) (by decide) pd__I_V rfl rfl rfl (by decide) (by show (1 : Nat) + (2 + 11) + 24 ≤ _; decide) (by decide) (by decide) (by decide) (by decide) (pc' := 31) rfl ?_
    rintro h12 K12
    show Run l Z n0 "java/lang/Integer" jdk_33_method_22_code 1 (some (.object "java/lang/Integer")) "valueOf" ({ frames := 3, cells := 1, slots := 1, locals := 38 } : Room) _ 31 #[.val (.int p1)] [(.ref b11)] h12 1 1
    have E_b11_12 := X11.keep K12
    have sz12 : n0 ≤ h12.size := Nat.le_trans sz11 K12.1
    have kp12 := Keep.trans kp11 K12 (allS (Or.inr bo_b11) all0)
    have od12 := od11.keep K12 (allS ge_b11 all0)
    exact Run.areturn d33_31 (ty := (.object "java/lang/Integer")) rfl rfl rfl (by decide) (by decide) ⟨_, rfl, b11, rfl, Keep.toExt kp12, E_b11_12⟩
  · -- pc 3 not taken: ¬ p1 < (-128 : Int32)
    refine Run.iloadN d33_6 rfl (pc' := 7) rfl ?_
    refine Run.getS d33_7 (host := "") (Or.inl (hw _ (List.mem_of_getElem? (i := 171) rfl))) Via.refl (SH.ext od0.2) (pc' := 10) rfl ?_
    refine Run.icmp_gt d33_10 (by decide) (pc' := 23) (by decide) (pa := 13) rfl (fun hc10 => ?_) (fun hc10 => ?_)
    · -- pc 10 taken: (127 : Int32) < p1
      refine Run.newO (k' := 1) (n' := 1) d33_23 (hw _ (List.mem_of_getElem? (i := 200) rfl)) (hw _ (List.mem_of_getElem? (i := 201) rfl)) (hw _ (List.mem_of_getElem? (i := 169) rfl)) (by decide) (by decide) (by decide) (by decide) (pc' := 26) rfl ?_
      intro h13 b13 g13 E13 X13 D13
      have ge_b13 : n0 ≤ b13 := by rw [g13]; exact Z0
      have bo_b13 : h0.size ≤ b13 := by rw [g13]; exact (Keep.refl h0 []).1
      have ne_ac_b13 : ac ≠ b13 := Nat.ne_of_lt (Nat.lt_of_lt_of_le (od0.1 ▸ AC.lt) ge_b13)
      have sz13 : n0 ≤ h13.size := Nat.le_trans Z0 E13.1
      have kp13 := Keep.ext (Keep.refl h0 []) E13
      have od13 := od0.ext E13
      have F_b13_value : Fld Z h13 b13 "java/lang/Integer" "value" "I" (.int (0 : Int32)) := D13 (Or.inr (hw _ (List.mem_of_getElem? (i := 214) rfl))) (ty := .int) (by decide)
      refine Run.dup d33_26 rfl (pc' := 27) rfl ?_
      refine Run.iloadN d33_27 rfl (pc' := 28) rfl ?_
      refine Run.callN (k' := 1) (n' := 1) (a := b13) (as := [(.int p1)]) (rest := [(.ref b13)]) (con_int l Z a0 hw n0 h13 sz13 b13 p1 X13 F_b13_value ge_b13) rfl d33_28 (hw _ (List.mem_of_getElem? (i := 202) rfl)) (hw _ (List.mem_of_getElem? (i := 203) rfl)) (hw _ (List.mem_of_getElem? (i := 169) rfl)) (hw _ (List.mem_of_getElem? (i := 205) rfl)) (by decide) pd__I_V rfl rfl rfl (by decide) (by show (1 : Nat) + (2 + 11) + 24 ≤ _; decide) (by decide) (by decide) (by decide) (by decide) (pc' := 31) rfl ?_
      rintro h14 K14
      show Run l Z n0 "java/lang/Integer" jdk_33_method_22_code 1 (some (.object "java/lang/Integer")) "valueOf" ({ frames := 3, cells := 1, slots := 1, locals := 38 } : Room) _ 31 #[.val (.int p1)] [(.ref b13)] h14 1 1
      have E_b13_14 := X13.keep K14
      have sz14 : n0 ≤ h14.size := Nat.le_trans sz13 K14.1
      have kp14 := Keep.trans kp13 K14 (allS (Or.inr bo_b13) all0)
      have od14 := od13.keep K14 (allS ge_b13 all0)
      exact Run.areturn d33_31 (ty := (.object "java/lang/Integer")) rfl rfl rfl (by decide) (by decide) ⟨_, rfl, b13, rfl, Keep.toExt kp14, E_b13_14⟩
    · -- pc 10 not taken: ¬ (127 : Int32) < p1
      obtain ⟨bx, hbx, EX⟩ := hcache p1 (own_bx hc3 hc10)
      refine Run.getS d33_13 (host := "") (Or.inl (hw _ (List.mem_of_getElem? (i := 173) rfl))) Via.refl (SC.ext od0.2) (pc' := 16) rfl ?_
      refine Run.iloadN d33_16 rfl (pc' := 17) rfl ?_
      refine Run.sipush (128 : Int32) d33_17 (by decide) (pc' := 20) rfl ?_
      refine Run.iadd d33_20 (pc' := 21) rfl ?_
      refine Run.aaload (i := (p1.toInt + 128).toNat) (v := (.ref bx)) d33_21 (AC.ext od0.2) rfl (own_bix (own_bx hc3 hc10)) hbx (pc' := 22) rfl ?_
      exact Run.areturn d33_22 (ty := (.object "java/lang/Integer")) rfl rfl rfl (by decide) (by decide) ⟨_, rfl, bx, rfl, Keep.toExt (Keep.refl h0 []), (EX.ext od0.2)⟩
def own_lf (p1 : Int32) (p2 : Int32) : Int32 := (if p1 = (0 : Int32) then (0 : Int32) else (own_max (1 : Int32) (p2 &&& (2147483647 : Int32))))
theorem d1_0 : decode method_4_code 0 = .ok (.iload_n 0, 1) := by decide +kernel
theorem d1_1 : decode method_4_code 1 = .ok (.ifCond .ne 5, 3) := by decide +kernel
theorem d1_4 : decode method_4_code 4 = .ok (.iconst 0, 1) := by decide +kernel
theorem d1_5 : decode method_4_code 5 = .ok (.ireturn, 1) := by decide +kernel
theorem d1_6 : decode method_4_code 6 = .ok (.iconst 1, 1) := by decide +kernel
theorem d1_7 : decode method_4_code 7 = .ok (.iload_n 1, 1) := by decide +kernel
theorem d1_8 : decode method_4_code 8 = .ok (.ldc 57, 2) := by decide +kernel
theorem d1_10 : decode method_4_code 10 = .ok (.iand, 1) := by decide +kernel
theorem d1_11 : decode method_4_code 11 = .ok (.invokestatic 58, 3) := by decide +kernel
theorem d1_14 : decode method_4_code 14 = .ok (.ireturn, 1) := by decide +kernel
theorem pn_1 : plainFor (⟨"com/example/wireform/wireform/rules/VerdictEqualsPinLaw", "lineFor", "(II)I"⟩ : MethodName) = true := plainFor_of_name (by first | (simp [plainName, overriddenIn]; done) | decide +kernel)
theorem ef_con_own_lf (m : MethodId) (p1 : Int32) (p2 : Int32)  : entryFrame m #[(.int p1), (.int p2)] 2 = mkF m 0 #[.val (.int p1), .val (.int p2)] [] := by first | (simp [entryFrame, mkF, argsToLocals, Value.category]; done) | rfl
set_option maxRecDepth 65536 in
set_option maxHeartbeats 40000000 in
theorem con_own_lf (l : Launch) (Z : State) (a0 : Array Value) (hw : ∀ d ∈ tables_1, d.before a0 Z = true) (n0 : Nat) (h0 : Heap) (Z0 : n0 ≤ h0.size) (p1 : Int32) (p2 : Int32)  :
    Con l Z n0 (⟨"com/example/wireform/wireform/rules/VerdictEqualsPinLaw", "lineFor", "(II)I"⟩ : MethodName) method_4_code 2 (some .int) ({ frames := 1, cells := 0, slots := 0, locals := 13 } : Room) #[(.int p1), (.int p2)] h0 (Val (PV (.int (own_lf p1 p2)) h0)) := by
  refine Con.of_run pn_1 (fun m => ef_con_own_lf m p1 p2 ) ?_
  refine Run.iloadN d1_0 rfl (pc' := 1) rfl ?_
  refine Run.if_ne d1_1 (by decide) (pc' := 6) (by decide) (pa := 4) rfl (fun hc1 => ?_) (fun hc1 => ?_)
  · -- pc 1 taken: ¬ p1 = (0 : Int32)
    refine Run.iconst (1 : Int32) d1_6 (by decide) (pc' := 7) rfl ?_
    refine Run.iloadN d1_7 rfl (pc' := 8) rfl ?_
    refine Run.ldcI (v := (2147483647 : Int32)) d1_8 (hw _ (List.mem_of_getElem? (i := 117) rfl)) (pc' := 10) rfl ?_
    refine Run.iand d1_10 (pc' := 11) rfl ?_
    refine Run.callS (k' := 0) (n' := 0) (as := [(.int (1 : Int32)), (.int (p2 &&& (2147483647 : Int32)))]) (rest := []) (con_own_max l Z a0 hw n0 h0 Z0 (1 : Int32) (p2 &&& (2147483647 : Int32)) ) d1_11 (hw _ (List.mem_of_getElem? (i := 118) rfl)) (hw _ (List.mem_of_getElem? (i := 93) rfl)) (hw _ (List.mem_of_getElem? (i := 94) rfl)) (hw _ (List.mem_of_getElem? (i := 95) rfl)) (by decide) pd__II_I rfl rfl rfl (by decide) (by show (0 : Nat) + (2 + 11) + 0 ≤ _; decide) (by decide) (by decide) (by decide) (by decide) (pc' := 14) rfl ?_
    rintro _ _ ⟨_, rfl, rfl, rfl⟩
    show Run l Z n0 "com/example/wireform/wireform/rules/VerdictEqualsPinLaw" method_4_code 2 (some .int) "lineFor" ({ frames := 1, cells := 0, slots := 0, locals := 13 } : Room) _ 14 #[.val (.int p1), .val (.int p2)] [(.int (own_max (1 : Int32) (p2 &&& (2147483647 : Int32))))] h0 0 0
    exact Run.ireturn d1_14 rfl (by decide) (by decide) ⟨_, rfl, congrArg Value.int (by unfold own_lf; rw [if_neg hc1] <;> rfl), rfl⟩
  · -- pc 1 not taken: p1 = (0 : Int32)
    refine Run.iconst (0 : Int32) d1_4 (by decide) (pc' := 5) rfl ?_
    exact Run.ireturn d1_5 rfl (by decide) (by decide) ⟨_, rfl, congrArg Value.int (by unfold own_lf; rw [if_pos hc1] <;> rfl), rfl⟩
def own_fst (p1 : Int32) : Int32 := ((33 : Int32) + ((p1 &&& (255 : Int32)) % (223 : Int32)))
theorem d2_0 : decode method_5_code 0 = .ok (.bipush 33, 2) := by decide +kernel
theorem d2_2 : decode method_5_code 2 = .ok (.iload_n 0, 1) := by decide +kernel
theorem d2_3 : decode method_5_code 3 = .ok (.sipush 255, 3) := by decide +kernel
theorem d2_6 : decode method_5_code 6 = .ok (.iand, 1) := by decide +kernel
theorem d2_7 : decode method_5_code 7 = .ok (.sipush 223, 3) := by decide +kernel
theorem d2_10 : decode method_5_code 10 = .ok (.irem, 1) := by decide +kernel
theorem d2_11 : decode method_5_code 11 = .ok (.iadd, 1) := by decide +kernel
theorem d2_12 : decode method_5_code 12 = .ok (.ireturn, 1) := by decide +kernel
theorem pn_2 : plainFor (⟨"com/example/wireform/wireform/rules/VerdictEqualsPinLaw", "first", "(I)I"⟩ : MethodName) = true := plainFor_of_name (by first | (simp [plainName, overriddenIn]; done) | decide +kernel)
theorem ef_con_own_fst (m : MethodId) (p1 : Int32)  : entryFrame m #[(.int p1)] 1 = mkF m 0 #[.val (.int p1)] [] := by first | (simp [entryFrame, mkF, argsToLocals, Value.category]; done) | rfl
set_option maxRecDepth 65536 in
set_option maxHeartbeats 40000000 in
theorem con_own_fst (l : Launch) (Z : State) (a0 : Array Value) (hw : ∀ d ∈ tables_1, d.before a0 Z = true) (n0 : Nat) (h0 : Heap) (Z0 : n0 ≤ h0.size) (p1 : Int32)  :
    Con l Z n0 (⟨"com/example/wireform/wireform/rules/VerdictEqualsPinLaw", "first", "(I)I"⟩ : MethodName) method_5_code 1 (some .int) ({ frames := 0, cells := 0, slots := 0, locals := 0 } : Room) #[(.int p1)] h0 (Val (PV (.int (own_fst p1)) h0)) := by
  refine Con.of_run pn_2 (fun m => ef_con_own_fst m p1 ) ?_
  refine Run.bipush (33 : Int32) d2_0 (by decide) (pc' := 2) rfl ?_
  refine Run.iloadN d2_2 rfl (pc' := 3) rfl ?_
  refine Run.sipush (255 : Int32) d2_3 (by decide) (pc' := 6) rfl ?_
  refine Run.iand d2_6 (pc' := 7) rfl ?_
  refine Run.sipush (223 : Int32) d2_7 (by decide) (pc' := 10) rfl ?_
  refine Run.irem d2_10 (by decide) (pc' := 11) rfl ?_
  refine Run.iadd d2_11 (pc' := 12) rfl ?_
  exact Run.ireturn d2_12 rfl (by decide) (by decide) ⟨_, rfl, rfl, rfl⟩
def own_snd (p1 : Int32) : Int32 := (if ((XT.ushr p1 (8 : Int32)) &&& (255 : Int32)) = (10 : Int32) then (88 : Int32) else (if ((XT.ushr p1 (8 : Int32)) &&& (255 : Int32)) = (13 : Int32) then (88 : Int32) else ((XT.ushr p1 (8 : Int32)) &&& (255 : Int32))))
theorem d3_0 : decode method_6_code 0 = .ok (.iload_n 0, 1) := by decide +kernel
theorem d3_1 : decode method_6_code 1 = .ok (.bipush 8, 2) := by decide +kernel
theorem d3_3 : decode method_6_code 3 = .ok (.iushr, 1) := by decide +kernel
theorem d3_4 : decode method_6_code 4 = .ok (.sipush 255, 3) := by decide +kernel
theorem d3_7 : decode method_6_code 7 = .ok (.iand, 1) := by decide +kernel
theorem d3_8 : decode method_6_code 8 = .ok (.istore_n 1, 1) := by decide +kernel
theorem d3_9 : decode method_6_code 9 = .ok (.iload_n 1, 1) := by decide +kernel
theorem d3_10 : decode method_6_code 10 = .ok (.bipush 10, 2) := by decide +kernel
theorem d3_12 : decode method_6_code 12 = .ok (.if_icmp .eq 9, 3) := by decide +kernel
theorem d3_15 : decode method_6_code 15 = .ok (.iload_n 1, 1) := by decide +kernel
theorem d3_16 : decode method_6_code 16 = .ok (.bipush 13, 2) := by decide +kernel
theorem d3_18 : decode method_6_code 18 = .ok (.if_icmp .ne 6, 3) := by decide +kernel
theorem d3_21 : decode method_6_code 21 = .ok (.bipush 88, 2) := by decide +kernel
theorem d3_23 : decode method_6_code 23 = .ok (.ireturn, 1) := by decide +kernel
theorem d3_24 : decode method_6_code 24 = .ok (.iload_n 1, 1) := by decide +kernel
theorem d3_25 : decode method_6_code 25 = .ok (.ireturn, 1) := by decide +kernel
theorem pn_3 : plainFor (⟨"com/example/wireform/wireform/rules/VerdictEqualsPinLaw", "second", "(I)I"⟩ : MethodName) = true := plainFor_of_name (by first | (simp [plainName, overriddenIn]; done) | decide +kernel)
theorem ef_con_own_snd (m : MethodId) (p1 : Int32)  : entryFrame m #[(.int p1)] 2 = mkF m 0 #[.val (.int p1), .unset] [] := by first | (simp [entryFrame, mkF, argsToLocals, Value.category]; done) | rfl
set_option maxRecDepth 65536 in
set_option maxHeartbeats 40000000 in
theorem con_own_snd (l : Launch) (Z : State) (a0 : Array Value) (hw : ∀ d ∈ tables_1, d.before a0 Z = true) (n0 : Nat) (h0 : Heap) (Z0 : n0 ≤ h0.size) (p1 : Int32)  :
    Con l Z n0 (⟨"com/example/wireform/wireform/rules/VerdictEqualsPinLaw", "second", "(I)I"⟩ : MethodName) method_6_code 2 (some .int) ({ frames := 0, cells := 0, slots := 0, locals := 0 } : Room) #[(.int p1)] h0 (Val (PV (.int (own_snd p1)) h0)) := by
  refine Con.of_run pn_3 (fun m => ef_con_own_snd m p1 ) ?_
  refine Run.iloadN d3_0 rfl (pc' := 1) rfl ?_
  refine Run.bipush (8 : Int32) d3_1 (by decide) (pc' := 3) rfl ?_
  refine Run.iushr d3_3 (pc' := 4) rfl ?_
  refine Run.sipush (255 : Int32) d3_4 (by decide) (pc' := 7) rfl ?_
  refine Run.iand d3_7 (pc' := 8) rfl ?_
  refine Run.istoreN (l' := #[.val (.int p1), .val (.int ((XT.ushr p1 (8 : Int32)) &&& (255 : Int32)))]) d3_8 rfl (pc' := 9) rfl ?_
  refine Run.iloadN d3_9 rfl (pc' := 10) rfl ?_
  refine Run.bipush (10 : Int32) d3_10 (by decide) (pc' := 12) rfl ?_
  refine Run.icmp_eq d3_12 (by decide) (pc' := 21) (by decide) (pa := 15) rfl (fun hc12 => ?_) (fun hc12 => ?_)
  · -- pc 12 taken: ((XT.ushr p1 (8 : Int32)) &&& (255 : Int32)) = (10 : Int32)
    refine Run.bipush (88 : Int32) d3_21 (by decide) (pc' := 23) rfl ?_
    exact Run.ireturn d3_23 rfl (by decide) (by decide) ⟨_, rfl, congrArg Value.int (by unfold own_snd; rw [if_pos hc12] <;> rfl), rfl⟩
  · -- pc 12 not taken: ¬ ((XT.ushr p1 (8 : Int32)) &&& (255 : Int32)) = (10 : Int32)
    refine Run.iloadN d3_15 rfl (pc' := 16) rfl ?_
    refine Run.bipush (13 : Int32) d3_16 (by decide) (pc' := 18) rfl ?_
    refine Run.icmp_ne d3_18 (by decide) (pc' := 24) (by decide) (pa := 21) rfl (fun hc18 => ?_) (fun hc18 => ?_)
    · -- pc 18 taken: ¬ ((XT.ushr p1 (8 : Int32)) &&& (255 : Int32)) = (13 : Int32)
      refine Run.iloadN d3_24 rfl (pc' := 25) rfl ?_
      exact Run.ireturn d3_25 rfl (by decide) (by decide) ⟨_, rfl, congrArg Value.int (by unfold own_snd; rw [if_neg hc12, if_neg hc18] <;> rfl), rfl⟩
    · -- pc 18 not taken: ((XT.ushr p1 (8 : Int32)) &&& (255 : Int32)) = (13 : Int32)
      refine Run.bipush (88 : Int32) d3_21 (by decide) (pc' := 23) rfl ?_
      exact Run.ireturn d3_23 rfl (by decide) (by decide) ⟨_, rfl, congrArg Value.int (by unfold own_snd; rw [if_neg hc12, if_pos hc18] <;> rfl), rfl⟩
theorem own_xne {Z : State} {h : Heap} {a b : Addr} {C D : String} (E : Exa Z h a C) (F : Exa Z h b D) (hn : C ≠ D) : a ≠ b := fun e => by
  subst e
  obtain ⟨c1, k1, e1, f1, g1, -, -⟩ := E; obtain ⟨c2, k2, e2, f2, g2, -, -⟩ := F
  cases e1.symm.trans e2
  obtain ⟨q1, r1, t1⟩ := Vm.findClass_spec f1; obtain ⟨q2, r2, t2⟩ := Vm.findClass_spec f2
  cases r1.symm.trans r2
  exact hn (t1.symm.trans t2)
theorem own_ane {Z : State} {a0 : Array Value} {h : Heap} {a b : Addr} {C : String} {n : Nat} {ty : FieldType} {vs : List Value} (hi : (Cond.instantiable C n).before a0 Z = true) (A : Ary Z h a ty vs) (F : Exa Z h b C) : a ≠ b := fun e => by
  subst e
  obtain ⟨cl, ⟨A1, ⟨-, kA, hkA, compA, hkindA⟩, -⟩, -⟩ := A
  obtain ⟨c2, k2, e2, f2, g2, -, -⟩ := F
  cases A1.symm.trans e2
  obtain ⟨c, k, hc, hk, ho, -⟩ := Cond.instantiable_spec hi
  cases hc.symm.trans f2
  cases hk.symm.trans hkA
  rw [ho] at hkindA; cases hkindA
theorem own_md (x : Int32) : ((x &&& (255 : Int32)) % (3 : Int32) = 0) ∨ ((x &&& (255 : Int32)) % (3 : Int32) = 1) ∨ ((x &&& (255 : Int32)) % (3 : Int32) = 2) := by
  have m := c_mask x 255 8 (by decide) (by decide)
  have r := c_irem (x &&& (255 : Int32)) 3 3 rfl
  simp only [Nat.reducePow] at m
  have h1 := r.1 (by omega)
  have e0 : (0 : Int32).toInt = 0 := rfl
  have e1 : (1 : Int32).toInt = 1 := rfl
  have e2 : (2 : Int32).toInt = 2 := rfl
  have : ((x &&& (255 : Int32)) % (3 : Int32)).toInt = 0 ∨ ((x &&& (255 : Int32)) % (3 : Int32)).toInt = 1 ∨ ((x &&& (255 : Int32)) % (3 : Int32)).toInt = 2 := by omega
  rcases this with q | q | q
  · exact Or.inl (own_eqi (by rw [q, e0]))
  · exact Or.inr (Or.inl (own_eqi (by rw [q, e1])))
  · exact Or.inr (Or.inr (own_eqi (by rw [q, e2])))
theorem own_l12 (x : Int32) : ∃ n : Nat, (1 ≤ n ∧ n ≤ 2) ∧ (x &&& (1 : Int32)) + (1 : Int32) = Int32.ofNat n := by
  have m := c_mask x 1 1 (by decide) (by decide)
  simp only [Nat.reducePow] at m
  have r := c_iadd (x &&& (1 : Int32)) 1; have r2 := rng32 ((x &&& (1 : Int32)) + 1)
  have e1 : (1 : Int32).toInt = 1 := rfl
  refine ⟨((x &&& (1 : Int32)).toInt + 1).toNat, by omega, own_eqi ?_⟩
  rw [own_ofn (by omega)]; omega
theorem own_lfI (k x : Int32) : (k = 0 → own_lf k x = 0) ∧ (¬ k = 0 → ¬ own_lf k x < 1) := by
  unfold own_lf own_max
  refine ⟨fun h => ?_, fun h => ?_⟩
  · simp [h]
  · rw [Int32.lt_iff_toInt_lt]
    have e1 : (1 : Int32).toInt = 1 := rfl
    repeat' split
    all_goals first | (rename_i q; rw [Int32.lt_iff_toInt_lt] at q; omega) | omega | (exfalso; simp_all; done)
theorem own_fsI (x : Int32) : 33 ≤ (own_fst x).toInt ∧ (own_fst x).toInt ≤ 255 := by
  unfold own_fst
  have m := c_mask x 255 8 (by decide) (by decide)
  simp only [Nat.reducePow] at m
  have r := c_irem (x &&& (255 : Int32)) 223 223 rfl
  have h1 := r.1 (by omega)
  have a := c_iadd 33 ((x &&& (255 : Int32)) % (223 : Int32)); have a2 := rng32 (33 + (x &&& (255 : Int32)) % (223 : Int32))
  have e1 : (33 : Int32).toInt = 33 := rfl
  omega
theorem own_snI (x : Int32) : (0 ≤ (own_snd x).toInt ∧ (own_snd x).toInt ≤ 255) ∧ own_snd x ≠ 10 ∧ own_snd x ≠ 13 := by
  unfold own_snd
  have m := c_mask (XT.ushr x (8 : Int32)) 255 8 (by decide) (by decide)
  simp only [Nat.reducePow] at m
  repeat' split
  all_goals first | decide | (refine ⟨⟨by omega, by omega⟩, ?_, ?_⟩ <;> assumption)
theorem own_lt12 {n : Nat} (h : Int32.ofNat n < 1) : Int32.ofNat n < 2 := by
  rw [Int32.lt_iff_toInt_lt] at h ⊢
  have e1 : (1 : Int32).toInt = 1 := rfl
  have e2 : (2 : Int32).toInt = 2 := rfl
  omega
theorem own_eqT {x0 x1 y0 y1 : Int32} {nA nB : Nat} (ha : nA ≤ 2) (hb : nB ≤ 2) : own_eq ([x0, x1].take nA) ([y0, y1].take nB) = if Int32.ofNat nA = Int32.ofNat nB ∧ (Int32.ofNat nA < 1 ∨ x0 = y0) ∧ (Int32.ofNat nA < 2 ∨ x1 = y1) then 1 else 0 := by
  unfold own_eq
  have h1 : nA = 0 ∨ nA = 1 ∨ nA = 2 := by omega
  have h2 : nB = 0 ∨ nB = 1 ∨ nB = 2 := by omega
  have c : ∀ (P Q : Prop) [Decidable P] [Decidable Q], (P ↔ Q) → (if P then (1 : Int32) else 0) = if Q then 1 else 0 := fun P Q _ _ h => by by_cases p : P <;> simp [p, h.mp, (show Q ↔ P from h.symm)]
  apply c
  rcases h1 with rfl | rfl | rfl <;> rcases h2 with rfl | rfl | rfl <;> simp [show (Int32.ofNat 0 < 1) by decide, show (Int32.ofNat 0 < 2) by decide, show ¬ (Int32.ofNat 1 < 1) by decide, show (Int32.ofNat 1 < 2) by decide, show ¬ (Int32.ofNat 2 < 1) by decide, show ¬ (Int32.ofNat 2 < 2) by decide, show ¬ Int32.ofNat 0 = Int32.ofNat 1 by decide, show ¬ Int32.ofNat 0 = Int32.ofNat 2 by decide, show ¬ Int32.ofNat 1 = Int32.ofNat 0 by decide, show ¬ Int32.ofNat 1 = Int32.ofNat 2 by decide, show ¬ Int32.ofNat 2 = Int32.ofNat 0 by decide, show ¬ Int32.ofNat 2 = Int32.ofNat 1 by decide]
theorem own_kd0 {kv ki ku : Addr} {k : Int32} (h : k = 0) : own_kd kv ki ku k = kv := by unfold own_kd; rw [if_pos h]
theorem own_kd1 {kv ki ku : Addr} {k : Int32} (h : k = 1) : own_kd kv ki ku k = ki := by unfold own_kd; rw [if_neg (by rw [h]; decide), if_pos h]
theorem own_kv {kv ki ku : Addr} {k : Int32} (h1 : kv ≠ ki) (h2 : kv ≠ ku) (h : own_kd kv ki ku k = kv) : k = 0 := by
  unfold own_kd at h; split at h
  · assumption
  · split at h
    · exact absurd h.symm h1
    · exact absurd h.symm h2
theorem own_ki {kv ki ku : Addr} {k : Int32} (h1 : kv ≠ ki) (h3 : ki ≠ ku) (h : own_kd kv ki ku k = ki) : k = 1 := by
  unfold own_kd at h; split at h
  · exact absurd h h1
  · split at h
    · assumption
    · exact absurd h.symm h3
theorem own_kdI {kv ki ku : Addr} {k j : Int32} (h1 : kv ≠ ki) (h2 : kv ≠ ku) (h3 : ki ≠ ku) (hk : k = 0 ∨ k = 1 ∨ k = 2) (hj : j = 0 ∨ j = 1 ∨ j = 2) (h : own_kd kv ki ku k = own_kd kv ki ku j) : k = j := by
  have e2 : own_kd kv ki ku 2 = ku := by unfold own_kd; rw [if_neg (by decide), if_neg (by decide)]
  rcases hk with rfl | rfl | rfl <;> rcases hj with rfl | rfl | rfl <;> simp only [own_kd0, own_kd1, e2] at h <;> first | rfl | exact absurd h ‹_› | exact absurd h.symm ‹_›
theorem own_f0 {x : Int32} (h : 33 ≤ x.toInt ∧ x.toInt ≤ 255) : 0 ≤ x.toInt ∧ x.toInt ≤ 255 := by omega
theorem own_nchI {x : Int32} (h : 0 ≤ x.toInt ∧ x.toInt ≤ 255) : nar .char x = x := by
  apply own_eqi
  have q := c_i2c x
  change ((nar .char _).toInt - _) % 65536 = 0 ∧ 0 ≤ (nar .char _).toInt ∧ (nar .char _).toInt < 65536 at q
  omega
theorem own_latT {cs : List Int32} {n : Nat} (h : own_lat cs) : own_lat (cs.take n) := fun c hc => h c (List.mem_of_mem_take hc)
theorem own_t2 (a b : Int32) (n : Nat) : ([a, b].take n).length ≤ 2 := by rw [List.length_take]; simp; omega
theorem own_nbk {x0 x1 : Int32} {n : Nat} (h : 33 ≤ x0.toInt ∧ x0.toInt ≤ 255) (hn : 1 ≤ n) : ∃ k : Nat, 0 < ([x0, x1].take n).length ∧ ([x0, x1].take n).getD 0 0 = Int32.ofNat k ∧ 33 ≤ k ∧ k ≤ 255 := by
  obtain ⟨j, rfl⟩ : ∃ j, n = j + 1 := ⟨n - 1, by omega⟩
  refine ⟨x0.toInt.toNat, by simp, ?_, by omega, by omega⟩
  show x0 = _
  apply own_eqi; rw [own_ofn (by omega)]; omega
theorem own_ixFn {cs : List Int32} {ch : Int32} (hb : cs.length < 2 ^ 31) : ∀ t i, t + i = cs.length → (own_ixF cs ch t i < 0 ↔ ∀ j, i ≤ j → j < cs.length → cs.getD j 0 ≠ ch)
  | 0, i, h => ⟨fun _ j h1 h2 => absurd h1 (by omega), fun _ => by show (-1 : Int32) < 0; decide⟩
  | t + 1, i, h => by
    show (if cs.getD i 0 = ch then Int32.ofNat i else own_ixF cs ch t (i + 1)) < 0 ↔ _
    by_cases e : cs.getD i 0 = ch
    · rw [if_pos e]
      exact ⟨fun z => absurd z (own_nge (by omega)), fun z => absurd e (z i (Nat.le_refl _) (by omega))⟩
    · rw [if_neg e, own_ixFn hb t (i + 1) (by omega)]
      refine ⟨fun z j h1 h2 => ?_, fun z j h1 h2 => z j (by omega) h2⟩
      by_cases q : j = i
      · rw [q]; exact e
      · exact z j (by omega) h2
theorem own_ixm {cs : List Int32} {ch : Int32} (hb : cs.length < 2 ^ 31) : own_ix cs ch < 0 ↔ ch ∉ cs := by
  unfold own_ix; rw [own_ixFn hb cs.length 0 (by omega)]
  constructor
  · intro h hm
    obtain ⟨j, hj, e⟩ := List.getElem_of_mem hm
    exact h j (Nat.zero_le _) hj (by rw [own_gD hj]; exact e)
  · intro h j _ hj e
    exact h (e ▸ (by rw [own_gD hj]; exact List.getElem_mem hj))
theorem own_no {x0 x1 ch : Int32} {n : Nat} (h : 33 ≤ x0.toInt ∧ x0.toInt ≤ 255) (h1 : x1 ≠ ch) (hc : ch.toInt < 33) : own_ix ([x0, x1].take n) ch < 0 := by
  rw [own_ixm (by have := own_t2 x0 x1 n; omega)]
  intro hm
  have := List.mem_of_mem_take hm
  simp only [List.mem_cons, List.not_mem_nil, or_false] at this
  rcases this with e | e
  · rw [e] at hc; omega
  · exact h1 e.symm
theorem own_vr (k : Addr) (a : Int32) (cs : List Int32) : ¬ own_veq k k a a cs cs = 0 := by unfold own_veq; rw [if_pos ⟨rfl, rfl, rfl⟩]; decide
theorem own_vc {k j : Addr} {a b : Int32} {cs ds : List Int32} : own_veq k j a b cs ds = own_veq j k b a ds cs := by
  unfold own_veq
  by_cases h : k = j ∧ a = b ∧ cs = ds
  · rw [if_pos h, if_pos ⟨h.1.symm, h.2.1.symm, h.2.2.symm⟩]
  · rw [if_neg h, if_neg (fun e => h ⟨e.1.symm, e.2.1.symm, e.2.2.symm⟩)]
theorem pn_0 : plainFor x = true := plainFor_of_name (by first | (simp [plainName, overriddenIn]; done) | decide +kernel)
theorem pd__I_Lcom_example_wireform_wireform_rules_Verdict_Kind_ : parseMethodDescriptor "(I)Lcom/example/wireform/wireform/rules/Verdict$Kind;" = some ⟨[.int], some (.object "com/example/wireform/wireform/rules/Verdict$Kind")⟩ := by decide +kernel
theorem pd__I_Ljava_lang_Integer_ : parseMethodDescriptor "(I)Ljava/lang/Integer;" = some ⟨[.int], some (.object "java/lang/Integer")⟩ := by decide +kernel
theorem pd__III_Ljava_lang_String_ : parseMethodDescriptor "(III)Ljava/lang/String;" = some ⟨[.int, .int, .int], some (.object "java/lang/String")⟩ := by decide +kernel
theorem pd__Lcom_example_wireform_wireform_rules_Verdict_Kind_ILjava_lang_String__V : parseMethodDescriptor "(Lcom/example/wireform/wireform/rules/Verdict$Kind;ILjava/lang/String;)V" = some ⟨[(.object "com/example/wireform/wireform/rules/Verdict$Kind"), .int, (.object "java/lang/String")], none⟩ := by decide +kernel
theorem ef_con0 (m : MethodId) (p1 : Int32) (p2 : Int32) (p3 : Int32) (p4 : Int32) (p5 : Int32) (p6 : Int32) (cz : Int32) (ci aa : Addr) (vs : List Value) (kv ki ku : Addr) (ac : Addr) (ws : List Value)  : entryFrame m #[(.int p1), (.int p2), (.int p3), (.int p4), (.int p5), (.int p6)] maxLocals = mkF m 0 #[.val (.int p1), .val (.int p2), .val (.int p3), .val (.int p4), .val (.int p5), .val (.int p6), .unset, .unset, .unset, .unset, .unset, .unset, .unset, .unset, .unset, .unset, .unset, .unset, .unset, .unset, .unset, .unset, .unset, .unset, .unset, .unset, .unset, .unset, .unset, .unset] [] := by first | (simp [entryFrame, mkF, argsToLocals, Value.category, maxLocals]; done) | rfl
set_option maxRecDepth 65536 in
set_option maxHeartbeats 40000000 in
theorem con0 (l : Launch) (Z : State) (a0 : Array Value) (hw : ∀ d ∈ tables_1, d.before a0 Z = true) (n0 : Nat) (h0 : Heap) (Z0 : n0 ≤ h0.size) (p1 : Int32) (p2 : Int32) (p3 : Int32) (p4 : Int32) (p5 : Int32) (p6 : Int32) (cz : Int32) (ci aa : Addr) (vs : List Value) (kv ki ku : Addr) (ac : Addr) (ws : List Value) (od0 : Old Z n0 h0) (SZ : Sta Z Z.heap "java/lang/String" "COMPACT_STRINGS" "Z" (.int cz)) (hcz : ¬ cz = 0) (SI : Sta Z Z.heap "java/lang/CharacterDataLatin1" "instance" "Ljava/lang/CharacterDataLatin1;" (.ref ci)) (XI : Exa Z Z.heap ci "java/lang/CharacterDataLatin1") (SA : Sta Z Z.heap "java/lang/CharacterDataLatin1" "A" "[I" (.ref aa)) (AA : Ary Z Z.heap aa .int vs) (hprop : ∀ n : Nat, 33 ≤ n → n ≤ 255 → ∃ x : Int32, vs[n]? = some (.int x) ∧ ¬ (x &&& (28672 : Int32)) = (16384 : Int32)) (SV : Sta Z Z.heap "com/example/wireform/wireform/rules/Verdict$Kind" "VALID" "Lcom/example/wireform/wireform/rules/Verdict$Kind;" (.ref kv)) (SN : Sta Z Z.heap "com/example/wireform/wireform/rules/Verdict$Kind" "INVALID" "Lcom/example/wireform/wireform/rules/Verdict$Kind;" (.ref ki)) (SU : Sta Z Z.heap "com/example/wireform/wireform/rules/Verdict$Kind" "UNDELIVERABLE" "Lcom/example/wireform/wireform/rules/Verdict$Kind;" (.ref ku)) (hk1 : kv ≠ ki) (hk2 : kv ≠ ku) (hk3 : ki ≠ ku) (SH : Sta Z Z.heap "java/lang/Integer$IntegerCache" "high" "I" (.int (127 : Int32))) (SC : Sta Z Z.heap "java/lang/Integer$IntegerCache" "cache" "[Ljava/lang/Integer;" (.ref ac)) (AC : Ary Z Z.heap ac (.object "java/lang/Integer") ws) (hcache : ∀ a : Int32, (-128 ≤ a.toInt ∧ a.toInt ≤ 127) → ∃ bx, ws[(a.toInt + 128).toNat]? = some (.ref bx) ∧ Exa Z Z.heap bx "java/lang/Integer") :
    ConW l Z own_EL n0 x code maxLocals ret room_1 #[(.int p1), (.int p2), (.int p3), (.int p4), (.int p5), (.int p6)] h0 [] (Val fun w _ => w = .int 1) := by
  refine ConW.of_run (own_EW hw) pn_0 (fun m => ef_con0 m p1 p2 p3 p4 p5 p6 cz ci aa vs kv ki ku ac ws ) ?_
  intro vm hal hsf
  refine RunW.iloadN at_0 rfl (pc' := 1) rfl ?_
  refine RunW.sipush (255 : Int32) at_1 (by decide) (pc' := 4) rfl ?_
  refine RunW.iand at_4 (pc' := 5) rfl ?_
  refine RunW.iconst (3 : Int32) at_5 (by decide) (pc' := 6) rfl ?_
  refine RunW.irem at_6 (by decide) (pc' := 7) rfl ?_
  have h_ka := own_md p1
  generalize ((p1 &&& (255 : Int32)) % (3 : Int32)) = ka at h_ka ⊢
  refine RunW.istore (l' := #[.val (.int p1), .val (.int p2), .val (.int p3), .val (.int p4), .val (.int p5), .val (.int p6), .val (.int ka), .unset, .unset, .unset, .unset, .unset, .unset, .unset, .unset, .unset, .unset, .unset, .unset, .unset, .unset, .unset, .unset, .unset, .unset, .unset, .unset, .unset, .unset, .unset]) at_7 rfl (pc' := 9) rfl ?_
  refine RunW.iloadN at_9 rfl (pc' := 10) rfl ?_
  refine RunW.bipush (8 : Int32) at_10 (by decide) (pc' := 12) rfl ?_
  refine RunW.iushr at_12 (pc' := 13) rfl ?_
  refine RunW.sipush (255 : Int32) at_13 (by decide) (pc' := 16) rfl ?_
  refine RunW.iand at_16 (pc' := 17) rfl ?_
  refine RunW.iconst (3 : Int32) at_17 (by decide) (pc' := 18) rfl ?_
  refine RunW.irem at_18 (by decide) (pc' := 19) rfl ?_
  have h_kb := own_md (XT.ushr p1 (8 : Int32))
  generalize (((XT.ushr p1 (8 : Int32)) &&& (255 : Int32)) % (3 : Int32)) = kb at h_kb ⊢
  refine RunW.istore (l' := #[.val (.int p1), .val (.int p2), .val (.int p3), .val (.int p4), .val (.int p5), .val (.int p6), .val (.int ka), .val (.int kb), .unset, .unset, .unset, .unset, .unset, .unset, .unset, .unset, .unset, .unset, .unset, .unset, .unset, .unset, .unset, .unset, .unset, .unset, .unset, .unset, .unset, .unset]) at_19 rfl (pc' := 21) rfl ?_
  have J35 : ∀ (v8 : Int32), RunW l Z own_EL n0 x.cls code maxLocals ret x.name room_1 (Val fun w _ => w = .int 1) 35 #[.val (.int p1), .val (.int p2), .val (.int p3), .val (.int p4), .val (.int p5), .val (.int p6), .val (.int ka), .val (.int kb), .val (.int v8), .unset, .unset, .unset, .unset, .unset, .unset, .unset, .unset, .unset, .unset, .unset, .unset, .unset, .unset, .unset, .unset, .unset, .unset, .unset, .unset, .unset] [] h0 vm 0 0 := by
    intro v8
    have J49 : ∀ (v9 : Int32), RunW l Z own_EL n0 x.cls code maxLocals ret x.name room_1 (Val fun w _ => w = .int 1) 49 #[.val (.int p1), .val (.int p2), .val (.int p3), .val (.int p4), .val (.int p5), .val (.int p6), .val (.int ka), .val (.int kb), .val (.int v8), .val (.int v9), .unset, .unset, .unset, .unset, .unset, .unset, .unset, .unset, .unset, .unset, .unset, .unset, .unset, .unset, .unset, .unset, .unset, .unset, .unset, .unset] [] h0 vm 0 0 := by
      intro v9
      refine RunW.iloadN at_49 rfl (pc' := 50) rfl ?_
      refine RunW.bipush (18 : Int32) at_50 (by decide) (pc' := 52) rfl ?_
      refine RunW.iushr at_52 (pc' := 53) rfl ?_
      refine RunW.iconst (1 : Int32) at_53 (by decide) (pc' := 54) rfl ?_
      refine RunW.iand at_54 (pc' := 55) rfl ?_
      refine RunW.iconst (1 : Int32) at_55 (by decide) (pc' := 56) rfl ?_
      refine RunW.iadd at_56 (pc' := 57) rfl ?_
      obtain ⟨lA, h_lA, e_lA⟩ := own_l12 (XT.ushr p1 (18 : Int32))
      rw [e_lA]
      refine RunW.istore (l' := #[.val (.int p1), .val (.int p2), .val (.int p3), .val (.int p4), .val (.int p5), .val (.int p6), .val (.int ka), .val (.int kb), .val (.int v8), .val (.int v9), .val (.int (Int32.ofNat lA)), .unset, .unset, .unset, .unset, .unset, .unset, .unset, .unset, .unset, .unset, .unset, .unset, .unset, .unset, .unset, .unset, .unset, .unset, .unset]) at_57 rfl (pc' := 59) rfl ?_
      have J79 : ∀ (lB : Nat), (1 ≤ lB ∧ lB ≤ 2) → RunW l Z own_EL n0 x.cls code maxLocals ret x.name room_1 (Val fun w _ => w = .int 1) 79 #[.val (.int p1), .val (.int p2), .val (.int p3), .val (.int p4), .val (.int p5), .val (.int p6), .val (.int ka), .val (.int kb), .val (.int v8), .val (.int v9), .val (.int (Int32.ofNat lA)), .val (.int (Int32.ofNat lB)), .unset, .unset, .unset, .unset, .unset, .unset, .unset, .unset, .unset, .unset, .unset, .unset, .unset, .unset, .unset, .unset, .unset, .unset] [] h0 vm 0 0 := by
        intro lB h_lB
        have J91 : ∀ (v12 : Int32), RunW l Z own_EL n0 x.cls code maxLocals ret x.name room_1 (Val fun w _ => w = .int 1) 91 #[.val (.int p1), .val (.int p2), .val (.int p3), .val (.int p4), .val (.int p5), .val (.int p6), .val (.int ka), .val (.int kb), .val (.int v8), .val (.int v9), .val (.int (Int32.ofNat lA)), .val (.int (Int32.ofNat lB)), .val (.int v12), .unset, .unset, .unset, .unset, .unset, .unset, .unset, .unset, .unset, .unset, .unset, .unset, .unset, .unset, .unset, .unset, .unset] [] h0 vm 0 0 := by
          intro v12
          have J104 : ∀ (v13 : Int32), RunW l Z own_EL n0 x.cls code maxLocals ret x.name room_1 (Val fun w _ => w = .int 1) 104 #[.val (.int p1), .val (.int p2), .val (.int p3), .val (.int p4), .val (.int p5), .val (.int p6), .val (.int ka), .val (.int kb), .val (.int v8), .val (.int v9), .val (.int (Int32.ofNat lA)), .val (.int (Int32.ofNat lB)), .val (.int v12), .val (.int v13), .unset, .unset, .unset, .unset, .unset, .unset, .unset, .unset, .unset, .unset, .unset, .unset, .unset, .unset, .unset, .unset] [] h0 vm 0 0 := by
            intro v13
            refine RunW.iload at_104 rfl (pc' := 106) rfl ?_
            refine RunW.iloadN at_106 rfl (pc' := 107) rfl ?_
            refine RunW.callS (k' := 0) (n' := 0) (as := [(.int ka), (.int p2)]) (rest := []) (con_own_lf l Z a0 hw n0 h0 Z0 ka p2 ) (by rintro _ _ ⟨_, -, -, rfl⟩; exact ⟨[], Keep.refl _ _, all0⟩) at_107 (hw _ (List.mem_of_getElem? (i := 2) rfl)) (hw _ (List.mem_of_getElem? (i := 3) rfl)) (hw _ (List.mem_of_getElem? (i := 4) rfl)) (hw _ (List.mem_of_getElem? (i := 5) rfl)) (by decide) pd__II_I rfl rfl rfl (by decide) (by show (0 : Nat) + (2 + 11) + 13 ≤ _; decide) (by decide) (by decide) (by decide) (by decide) (pc' := 110) rfl ?_
            rintro _ _ ⟨_, rfl, rfl, rfl⟩ -
            show RunW l Z own_EL n0 x.cls code maxLocals ret x.name room_1 _ 110 #[.val (.int p1), .val (.int p2), .val (.int p3), .val (.int p4), .val (.int p5), .val (.int p6), .val (.int ka), .val (.int kb), .val (.int v8), .val (.int v9), .val (.int (Int32.ofNat lA)), .val (.int (Int32.ofNat lB)), .val (.int v12), .val (.int v13), .unset, .unset, .unset, .unset, .unset, .unset, .unset, .unset, .unset, .unset, .unset, .unset, .unset, .unset, .unset, .unset] [(.int (own_lf ka p2))] h0 vm 0 0
            have h_lnA := own_lfI ka p2
            generalize (own_lf ka p2) = lnA at h_lnA ⊢
            refine RunW.istore (l' := #[.val (.int p1), .val (.int p2), .val (.int p3), .val (.int p4), .val (.int p5), .val (.int p6), .val (.int ka), .val (.int kb), .val (.int v8), .val (.int v9), .val (.int (Int32.ofNat lA)), .val (.int (Int32.ofNat lB)), .val (.int v12), .val (.int v13), .val (.int lnA), .unset, .unset, .unset, .unset, .unset, .unset, .unset, .unset, .unset, .unset, .unset, .unset, .unset, .unset, .unset]) at_110 rfl (pc' := 112) rfl ?_
            refine RunW.iload at_112 rfl (pc' := 114) rfl ?_
            refine RunW.iload at_114 rfl (pc' := 116) rfl ?_
            refine RunW.callS (k' := 0) (n' := 0) (as := [(.int kb), (.int v12)]) (rest := []) (con_own_lf l Z a0 hw n0 h0 Z0 kb v12 ) (by rintro _ _ ⟨_, -, -, rfl⟩; exact ⟨[], Keep.refl _ _, all0⟩) at_116 (hw _ (List.mem_of_getElem? (i := 2) rfl)) (hw _ (List.mem_of_getElem? (i := 3) rfl)) (hw _ (List.mem_of_getElem? (i := 4) rfl)) (hw _ (List.mem_of_getElem? (i := 5) rfl)) (by decide) pd__II_I rfl rfl rfl (by decide) (by show (0 : Nat) + (2 + 11) + 13 ≤ _; decide) (by decide) (by decide) (by decide) (by decide) (pc' := 119) rfl ?_
            rintro _ _ ⟨_, rfl, rfl, rfl⟩ -
            show RunW l Z own_EL n0 x.cls code maxLocals ret x.name room_1 _ 119 #[.val (.int p1), .val (.int p2), .val (.int p3), .val (.int p4), .val (.int p5), .val (.int p6), .val (.int ka), .val (.int kb), .val (.int v8), .val (.int v9), .val (.int (Int32.ofNat lA)), .val (.int (Int32.ofNat lB)), .val (.int v12), .val (.int v13), .val (.int lnA), .unset, .unset, .unset, .unset, .unset, .unset, .unset, .unset, .unset, .unset, .unset, .unset, .unset, .unset, .unset] [(.int (own_lf kb v12))] h0 vm 0 0
            have h_lnB := own_lfI kb v12
            generalize (own_lf kb v12) = lnB at h_lnB ⊢
            refine RunW.istore (l' := #[.val (.int p1), .val (.int p2), .val (.int p3), .val (.int p4), .val (.int p5), .val (.int p6), .val (.int ka), .val (.int kb), .val (.int v8), .val (.int v9), .val (.int (Int32.ofNat lA)), .val (.int (Int32.ofNat lB)), .val (.int v12), .val (.int v13), .val (.int lnA), .val (.int lnB), .unset, .unset, .unset, .unset, .unset, .unset, .unset, .unset, .unset, .unset, .unset, .unset, .unset, .unset]) at_119 rfl (pc' := 121) rfl ?_
            refine RunW.iloadN at_121 rfl (pc' := 122) rfl ?_
            refine RunW.callS (k' := 0) (n' := 0) (as := [(.int p4)]) (rest := []) (con_own_fst l Z a0 hw n0 h0 Z0 p4 ) (by rintro _ _ ⟨_, -, -, rfl⟩; exact ⟨[], Keep.refl _ _, all0⟩) at_122 (hw _ (List.mem_of_getElem? (i := 6) rfl)) (hw _ (List.mem_of_getElem? (i := 7) rfl)) (hw _ (List.mem_of_getElem? (i := 4) rfl)) (hw _ (List.mem_of_getElem? (i := 8) rfl)) (by decide) pd__I_I rfl rfl rfl (by decide) (by show (0 : Nat) + (1 + 11) + 0 ≤ _; decide) (by decide) (by decide) (by decide) (by decide) (pc' := 125) rfl ?_
            rintro _ _ ⟨_, rfl, rfl, rfl⟩ -
            show RunW l Z own_EL n0 x.cls code maxLocals ret x.name room_1 _ 125 #[.val (.int p1), .val (.int p2), .val (.int p3), .val (.int p4), .val (.int p5), .val (.int p6), .val (.int ka), .val (.int kb), .val (.int v8), .val (.int v9), .val (.int (Int32.ofNat lA)), .val (.int (Int32.ofNat lB)), .val (.int v12), .val (.int v13), .val (.int lnA), .val (.int lnB), .unset, .unset, .unset, .unset, .unset, .unset, .unset, .unset, .unset, .unset, .unset, .unset, .unset, .unset] [(.int (own_fst p4))] h0 vm 0 0
            have h_x0 := own_fsI p4
            generalize (own_fst p4) = x0 at h_x0 ⊢
            refine RunW.istore (l' := #[.val (.int p1), .val (.int p2), .val (.int p3), .val (.int p4), .val (.int p5), .val (.int p6), .val (.int ka), .val (.int kb), .val (.int v8), .val (.int v9), .val (.int (Int32.ofNat lA)), .val (.int (Int32.ofNat lB)), .val (.int v12), .val (.int v13), .val (.int lnA), .val (.int lnB), .val (.int x0), .unset, .unset, .unset, .unset, .unset, .unset, .unset, .unset, .unset, .unset, .unset, .unset, .unset]) at_125 rfl (pc' := 127) rfl ?_
            refine RunW.iloadN at_127 rfl (pc' := 128) rfl ?_
            refine RunW.callS (k' := 0) (n' := 0) (as := [(.int p4)]) (rest := []) (con_own_snd l Z a0 hw n0 h0 Z0 p4 ) (by rintro _ _ ⟨_, -, -, rfl⟩; exact ⟨[], Keep.refl _ _, all0⟩) at_128 (hw _ (List.mem_of_getElem? (i := 9) rfl)) (hw _ (List.mem_of_getElem? (i := 10) rfl)) (hw _ (List.mem_of_getElem? (i := 4) rfl)) (hw _ (List.mem_of_getElem? (i := 11) rfl)) (by decide) pd__I_I rfl rfl rfl (by decide) (by show (0 : Nat) + (2 + 11) + 0 ≤ _; decide) (by decide) (by decide) (by decide) (by decide) (pc' := 131) rfl ?_
            rintro _ _ ⟨_, rfl, rfl, rfl⟩ -
            show RunW l Z own_EL n0 x.cls code maxLocals ret x.name room_1 _ 131 #[.val (.int p1), .val (.int p2), .val (.int p3), .val (.int p4), .val (.int p5), .val (.int p6), .val (.int ka), .val (.int kb), .val (.int v8), .val (.int v9), .val (.int (Int32.ofNat lA)), .val (.int (Int32.ofNat lB)), .val (.int v12), .val (.int v13), .val (.int lnA), .val (.int lnB), .val (.int x0), .unset, .unset, .unset, .unset, .unset, .unset, .unset, .unset, .unset, .unset, .unset, .unset, .unset] [(.int (own_snd p4))] h0 vm 0 0
            have h_x1 := own_snI p4
            generalize (own_snd p4) = x1 at h_x1 ⊢
            refine RunW.istore (l' := #[.val (.int p1), .val (.int p2), .val (.int p3), .val (.int p4), .val (.int p5), .val (.int p6), .val (.int ka), .val (.int kb), .val (.int v8), .val (.int v9), .val (.int (Int32.ofNat lA)), .val (.int (Int32.ofNat lB)), .val (.int v12), .val (.int v13), .val (.int lnA), .val (.int lnB), .val (.int x0), .val (.int x1), .unset, .unset, .unset, .unset, .unset, .unset, .unset, .unset, .unset, .unset, .unset, .unset]) at_131 rfl (pc' := 133) rfl ?_
            refine RunW.iload at_133 rfl (pc' := 135) rfl ?_
            refine RunW.callS (k' := 0) (n' := 0) (as := [(.int v13)]) (rest := []) (con_own_fst l Z a0 hw n0 h0 Z0 v13 ) (by rintro _ _ ⟨_, -, -, rfl⟩; exact ⟨[], Keep.refl _ _, all0⟩) at_135 (hw _ (List.mem_of_getElem? (i := 6) rfl)) (hw _ (List.mem_of_getElem? (i := 7) rfl)) (hw _ (List.mem_of_getElem? (i := 4) rfl)) (hw _ (List.mem_of_getElem? (i := 8) rfl)) (by decide) pd__I_I rfl rfl rfl (by decide) (by show (0 : Nat) + (1 + 11) + 0 ≤ _; decide) (by decide) (by decide) (by decide) (by decide) (pc' := 138) rfl ?_
            rintro _ _ ⟨_, rfl, rfl, rfl⟩ -
            show RunW l Z own_EL n0 x.cls code maxLocals ret x.name room_1 _ 138 #[.val (.int p1), .val (.int p2), .val (.int p3), .val (.int p4), .val (.int p5), .val (.int p6), .val (.int ka), .val (.int kb), .val (.int v8), .val (.int v9), .val (.int (Int32.ofNat lA)), .val (.int (Int32.ofNat lB)), .val (.int v12), .val (.int v13), .val (.int lnA), .val (.int lnB), .val (.int x0), .val (.int x1), .unset, .unset, .unset, .unset, .unset, .unset, .unset, .unset, .unset, .unset, .unset, .unset] [(.int (own_fst v13))] h0 vm 0 0
            have h_y0 := own_fsI v13
            generalize (own_fst v13) = y0 at h_y0 ⊢
            refine RunW.istore (l' := #[.val (.int p1), .val (.int p2), .val (.int p3), .val (.int p4), .val (.int p5), .val (.int p6), .val (.int ka), .val (.int kb), .val (.int v8), .val (.int v9), .val (.int (Int32.ofNat lA)), .val (.int (Int32.ofNat lB)), .val (.int v12), .val (.int v13), .val (.int lnA), .val (.int lnB), .val (.int x0), .val (.int x1), .val (.int y0), .unset, .unset, .unset, .unset, .unset, .unset, .unset, .unset, .unset, .unset, .unset]) at_138 rfl (pc' := 140) rfl ?_
            refine RunW.iload at_140 rfl (pc' := 142) rfl ?_
            refine RunW.callS (k' := 0) (n' := 0) (as := [(.int v13)]) (rest := []) (con_own_snd l Z a0 hw n0 h0 Z0 v13 ) (by rintro _ _ ⟨_, -, -, rfl⟩; exact ⟨[], Keep.refl _ _, all0⟩) at_142 (hw _ (List.mem_of_getElem? (i := 9) rfl)) (hw _ (List.mem_of_getElem? (i := 10) rfl)) (hw _ (List.mem_of_getElem? (i := 4) rfl)) (hw _ (List.mem_of_getElem? (i := 11) rfl)) (by decide) pd__I_I rfl rfl rfl (by decide) (by show (0 : Nat) + (2 + 11) + 0 ≤ _; decide) (by decide) (by decide) (by decide) (by decide) (pc' := 145) rfl ?_
            rintro _ _ ⟨_, rfl, rfl, rfl⟩ -
            show RunW l Z own_EL n0 x.cls code maxLocals ret x.name room_1 _ 145 #[.val (.int p1), .val (.int p2), .val (.int p3), .val (.int p4), .val (.int p5), .val (.int p6), .val (.int ka), .val (.int kb), .val (.int v8), .val (.int v9), .val (.int (Int32.ofNat lA)), .val (.int (Int32.ofNat lB)), .val (.int v12), .val (.int v13), .val (.int lnA), .val (.int lnB), .val (.int x0), .val (.int x1), .val (.int y0), .unset, .unset, .unset, .unset, .unset, .unset, .unset, .unset, .unset, .unset, .unset] [(.int (own_snd v13))] h0 vm 0 0
            have h_y1 := own_snI v13
            generalize (own_snd v13) = y1 at h_y1 ⊢
            refine RunW.istore (l' := #[.val (.int p1), .val (.int p2), .val (.int p3), .val (.int p4), .val (.int p5), .val (.int p6), .val (.int ka), .val (.int kb), .val (.int v8), .val (.int v9), .val (.int (Int32.ofNat lA)), .val (.int (Int32.ofNat lB)), .val (.int v12), .val (.int v13), .val (.int lnA), .val (.int lnB), .val (.int x0), .val (.int x1), .val (.int y0), .val (.int y1), .unset, .unset, .unset, .unset, .unset, .unset, .unset, .unset, .unset, .unset]) at_145 rfl (pc' := 147) rfl ?_
            have J161 : ∀ (nA : Nat), (nA ≤ 2 ∧ (ka = 1 → 1 ≤ nA) ∧ (¬ ka = 1 → nA = 0)) → RunW l Z own_EL n0 x.cls code maxLocals ret x.name room_1 (Val fun w _ => w = .int 1) 161 #[.val (.int p1), .val (.int p2), .val (.int p3), .val (.int p4), .val (.int p5), .val (.int p6), .val (.int ka), .val (.int kb), .val (.int v8), .val (.int v9), .val (.int (Int32.ofNat lA)), .val (.int (Int32.ofNat lB)), .val (.int v12), .val (.int v13), .val (.int lnA), .val (.int lnB), .val (.int x0), .val (.int x1), .val (.int y0), .val (.int y1), .val (.int (Int32.ofNat nA)), .unset, .unset, .unset, .unset, .unset, .unset, .unset, .unset, .unset] [] h0 vm 0 0 := by
              intro nA h_nA
              have J175 : ∀ (nB : Nat), (nB ≤ 2 ∧ (kb = 1 → 1 ≤ nB) ∧ (¬ kb = 1 → nB = 0)) → RunW l Z own_EL n0 x.cls code maxLocals ret x.name room_1 (Val fun w _ => w = .int 1) 175 #[.val (.int p1), .val (.int p2), .val (.int p3), .val (.int p4), .val (.int p5), .val (.int p6), .val (.int ka), .val (.int kb), .val (.int v8), .val (.int v9), .val (.int (Int32.ofNat lA)), .val (.int (Int32.ofNat lB)), .val (.int v12), .val (.int v13), .val (.int lnA), .val (.int lnB), .val (.int x0), .val (.int x1), .val (.int y0), .val (.int y1), .val (.int (Int32.ofNat nA)), .val (.int (Int32.ofNat nB)), .unset, .unset, .unset, .unset, .unset, .unset, .unset, .unset] [] h0 vm 0 0 := by
                intro nB h_nB
                refine RunW.iload at_175 rfl (pc' := 177) rfl ?_
                refine RunW.iload at_177 rfl (pc' := 179) rfl ?_
                refine RunW.iload at_179 rfl (pc' := 181) rfl ?_
                refine RunW.callSW (k' := 3) (n' := 8) (as := [(.int (Int32.ofNat nA)), (.int x0), (.int x1)]) (rest := []) (con_nam l Z a0 hw n0 h0 Z0 nA h_nA.1 x0 x1 cz od0 SZ hcz ⟨own_nchI (own_f0 h_x0), (own_f0 h_x0)⟩ ⟨own_nchI h_x1.1, h_x1.1⟩) all0 (own_EW hw) at_181 (hw _ (List.mem_of_getElem? (i := 12) rfl)) (hw _ (List.mem_of_getElem? (i := 13) rfl)) (hw _ (List.mem_of_getElem? (i := 4) rfl)) (hw _ (List.mem_of_getElem? (i := 14) rfl)) (by decide) pd__III_Ljava_lang_String_ rfl rfl rfl (by decide) (by show (0 : Nat) + (4 + 11) + 66 ≤ _; decide) (by decide) (by decide) (by decide) (by decide) (pc' := 184) rfl ?_
                rintro _ h11 vm11 ⟨_, rfl, ⟨t11, b11, rfl, E11, X11, FV11, FC11, P11⟩⟩ c11
                show RunW l Z own_EL n0 x.cls code maxLocals ret x.name room_1 _ 184 #[.val (.int p1), .val (.int p2), .val (.int p3), .val (.int p4), .val (.int p5), .val (.int p6), .val (.int ka), .val (.int kb), .val (.int v8), .val (.int v9), .val (.int (Int32.ofNat lA)), .val (.int (Int32.ofNat lB)), .val (.int v12), .val (.int v13), .val (.int lnA), .val (.int lnB), .val (.int x0), .val (.int x1), .val (.int y0), .val (.int y1), .val (.int (Int32.ofNat nA)), .val (.int (Int32.ofNat nB)), .unset, .unset, .unset, .unset, .unset, .unset, .unset, .unset] [(.ref t11)] h11 vm11 3 8
                have sz11 : n0 ≤ h11.size := Nat.le_trans Z0 E11.1
                have kp11 := Keep.ext (Keep.refl h0 []) E11
                have od11 := od0.ext E11
                refine RunW.astore (l' := #[.val (.int p1), .val (.int p2), .val (.int p3), .val (.int p4), .val (.int p5), .val (.int p6), .val (.int ka), .val (.int kb), .val (.int v8), .val (.int v9), .val (.int (Int32.ofNat lA)), .val (.int (Int32.ofNat lB)), .val (.int v12), .val (.int v13), .val (.int lnA), .val (.int lnB), .val (.int x0), .val (.int x1), .val (.int y0), .val (.int y1), .val (.int (Int32.ofNat nA)), .val (.int (Int32.ofNat nB)), .val (.ref t11), .unset, .unset, .unset, .unset, .unset, .unset, .unset]) at_184 rfl rfl (pc' := 186) rfl ?_
                refine RunW.iload at_186 rfl (pc' := 188) rfl ?_
                refine RunW.iload at_188 rfl (pc' := 190) rfl ?_
                refine RunW.iload at_190 rfl (pc' := 192) rfl ?_
                refine RunW.callSW (k' := 6) (n' := 16) (as := [(.int (Int32.ofNat nB)), (.int y0), (.int y1)]) (rest := []) (con_nam l Z a0 hw n0 h11 sz11 nB h_nB.1 y0 y1 cz od11 SZ hcz ⟨own_nchI (own_f0 h_y0), (own_f0 h_y0)⟩ ⟨own_nchI h_y1.1, h_y1.1⟩) all0 (own_EW hw) at_192 (hw _ (List.mem_of_getElem? (i := 12) rfl)) (hw _ (List.mem_of_getElem? (i := 13) rfl)) (hw _ (List.mem_of_getElem? (i := 4) rfl)) (hw _ (List.mem_of_getElem? (i := 14) rfl)) (by decide) pd__III_Ljava_lang_String_ rfl rfl rfl (by decide) (by show (0 : Nat) + (4 + 11) + 66 ≤ _; decide) (by decide) (by decide) (by decide) (by decide) (pc' := 195) rfl ?_
                rintro _ h12 vm12 ⟨_, rfl, ⟨t12, b12, rfl, E12, X12, FV12, FC12, P12⟩⟩ c12
                show RunW l Z own_EL n0 x.cls code maxLocals ret x.name room_1 _ 195 #[.val (.int p1), .val (.int p2), .val (.int p3), .val (.int p4), .val (.int p5), .val (.int p6), .val (.int ka), .val (.int kb), .val (.int v8), .val (.int v9), .val (.int (Int32.ofNat lA)), .val (.int (Int32.ofNat lB)), .val (.int v12), .val (.int v13), .val (.int lnA), .val (.int lnB), .val (.int x0), .val (.int x1), .val (.int y0), .val (.int y1), .val (.int (Int32.ofNat nA)), .val (.int (Int32.ofNat nB)), .val (.ref t11), .unset, .unset, .unset, .unset, .unset, .unset, .unset] [(.ref t12)] h12 vm12 6 16
                have E_t11_12 := X11.ext E12
                have F_t11_value_12 := FV11.ext E12
                have F_t11_coder_12 := FC11.ext E12
                have A_b11_12 := P11.ext E12
                have sz12 : n0 ≤ h12.size := Nat.le_trans sz11 E12.1
                have kp12 := Keep.ext kp11 E12
                have od12 := od11.ext E12
                refine RunW.astore (l' := #[.val (.int p1), .val (.int p2), .val (.int p3), .val (.int p4), .val (.int p5), .val (.int p6), .val (.int ka), .val (.int kb), .val (.int v8), .val (.int v9), .val (.int (Int32.ofNat lA)), .val (.int (Int32.ofNat lB)), .val (.int v12), .val (.int v13), .val (.int lnA), .val (.int lnB), .val (.int x0), .val (.int x1), .val (.int y0), .val (.int y1), .val (.int (Int32.ofNat nA)), .val (.int (Int32.ofNat nB)), .val (.ref t11), .val (.ref t12), .unset, .unset, .unset, .unset, .unset, .unset]) at_195 rfl rfl (pc' := 197) rfl ?_
                refine RunW.newO (k' := 7) (n' := 19) at_197 (hw _ (List.mem_of_getElem? (i := 23) rfl)) (hw _ (List.mem_of_getElem? (i := 24) rfl)) (hw _ (List.mem_of_getElem? (i := 25) rfl)) (by decide) (by decide) (by decide) (by decide) (pc' := 200) rfl ?_
                intro h13 b13 g13 E13 X13 D13 c13 sf13
                have ge_b13 : n0 ≤ b13 := by rw [g13]; exact sz12
                have bo_b13 : h0.size ≤ b13 := by rw [g13]; exact kp12.1
                have ne_t11_b13 : t11 ≠ b13 := by rw [g13]; exact Nat.ne_of_lt E_t11_12.lt
                have ne_b11_b13 : b11 ≠ b13 := by rw [g13]; exact Nat.ne_of_lt A_b11_12.lt
                have ne_t12_b13 : t12 ≠ b13 := by rw [g13]; exact Nat.ne_of_lt X12.lt
                have ne_b12_b13 : b12 ≠ b13 := by rw [g13]; exact Nat.ne_of_lt P12.lt
                have ne_ci_b13 : ci ≠ b13 := Nat.ne_of_lt (Nat.lt_of_lt_of_le (od12.1 ▸ XI.lt) ge_b13)
                have ne_aa_b13 : aa ≠ b13 := Nat.ne_of_lt (Nat.lt_of_lt_of_le (od12.1 ▸ AA.lt) ge_b13)
                have ne_ac_b13 : ac ≠ b13 := Nat.ne_of_lt (Nat.lt_of_lt_of_le (od12.1 ▸ AC.lt) ge_b13)
                have E_t11_13 := E_t11_12.ext E13
                have F_t11_value_13 := F_t11_value_12.ext E13
                have F_t11_coder_13 := F_t11_coder_12.ext E13
                have A_b11_13 := A_b11_12.ext E13
                have E_t12_13 := X12.ext E13
                have F_t12_value_13 := FV12.ext E13
                have F_t12_coder_13 := FC12.ext E13
                have A_b12_13 := P12.ext E13
                have sz13 : n0 ≤ h13.size := Nat.le_trans sz12 E13.1
                have kp13 := Keep.ext kp12 E13
                have od13 := od12.ext E13
                have F_b13_kind : Fld Z h13 b13 "com/example/wireform/wireform/rules/Verdict" "kind" "Lcom/example/wireform/wireform/rules/Verdict$Kind;" .null := D13 (Or.inr (hw _ (List.mem_of_getElem? (i := 100) rfl))) (ty := (.object "com/example/wireform/wireform/rules/Verdict$Kind")) (by decide)
                have F_b13_lineNumber : Fld Z h13 b13 "com/example/wireform/wireform/rules/Verdict" "lineNumber" "I" (.int (0 : Int32)) := D13 (Or.inr (hw _ (List.mem_of_getElem? (i := 102) rfl))) (ty := .int) (by decide)
                have F_b13_errorName : Fld Z h13 b13 "com/example/wireform/wireform/rules/Verdict" "errorName" "Ljava/lang/String;" .null := D13 (Or.inr (hw _ (List.mem_of_getElem? (i := 104) rfl))) (ty := (.object "java/lang/String")) (by decide)
                refine RunW.dup at_200 rfl (pc' := 201) rfl ?_
                refine RunW.iload at_201 rfl (pc' := 203) rfl ?_
                refine RunW.callS (k' := 7) (n' := 19) (as := [(.int ka)]) (rest := [(.ref b13), (.ref b13)]) (con_kof l Z a0 hw n0 h13 sz13 ka kv ki ku od13 SV SN SU ) (by rintro _ _ ⟨_, -, -, rfl⟩; exact ⟨[], Keep.refl _ _, all0⟩) at_203 (hw _ (List.mem_of_getElem? (i := 26) rfl)) (hw _ (List.mem_of_getElem? (i := 27) rfl)) (hw _ (List.mem_of_getElem? (i := 4) rfl)) (hw _ (List.mem_of_getElem? (i := 28) rfl)) (by decide) pd__I_Lcom_example_wireform_wireform_rules_Verdict_Kind_ rfl rfl rfl (by decide) (by show (2 : Nat) + (1 + 11) + 0 ≤ _; decide) (by decide) (by decide) (by decide) (by decide) (pc' := 206) rfl ?_
                rintro _ _ ⟨_, rfl, rfl, rfl⟩ -
                show RunW l Z own_EL n0 x.cls code maxLocals ret x.name room_1 _ 206 #[.val (.int p1), .val (.int p2), .val (.int p3), .val (.int p4), .val (.int p5), .val (.int p6), .val (.int ka), .val (.int kb), .val (.int v8), .val (.int v9), .val (.int (Int32.ofNat lA)), .val (.int (Int32.ofNat lB)), .val (.int v12), .val (.int v13), .val (.int lnA), .val (.int lnB), .val (.int x0), .val (.int x1), .val (.int y0), .val (.int y1), .val (.int (Int32.ofNat nA)), .val (.int (Int32.ofNat nB)), .val (.ref t11), .val (.ref t12), .unset, .unset, .unset, .unset, .unset, .unset] [(.ref (own_kd kv ki ku ka)), (.ref b13), (.ref b13)] h13 vm12 7 19
                refine RunW.iload at_206 rfl (pc' := 208) rfl ?_
                refine RunW.aload at_208 rfl rfl (pc' := 210) rfl ?_
                refine RunW.callNW (k' := 11) (n' := 79) (a := b13) (as := [(.ref (own_kd kv ki ku ka)), (.int lnA), (.ref t11)]) (rest := [(.ref b13)]) (con_vin l Z a0 hw n0 h13 sz13 b13 (own_kd kv ki ku ka) t11 b11 lnA ([x0, x1].take nA) cz ci aa vs kv ki od13 SZ hcz SI XI SA AA hprop SV SN X13 ge_b13 F_b13_kind F_b13_lineNumber F_b13_errorName E_t11_13 F_t11_value_13 F_t11_coder_13 A_b11_13 ne_t11_b13 ne_b11_b13 (own_latp (own_latT (own_lat2 (own_f0 h_x0) h_x1.1))) (own_t2 _ _ _) (own_latq (own_latT (own_lat2 (own_f0 h_x0) h_x1.1))) (fun e => h_lnA.1 (own_kv hk1 hk2 e)) (fun e => h_lnA.2 (fun z => e (own_kd0 z))) (fun e => own_nbk h_x0 (h_nA.2.1 (own_ki hk1 hk3 e))) (fun e => by rw [h_nA.2.2 (fun z => e (own_kd1 z))]; rfl) (own_no h_x0 h_x1.2.1 (by decide)) (own_no h_x0 h_x1.2.2 (by decide))) all0 (own_EW hw) rfl rfl at_210 (hw _ (List.mem_of_getElem? (i := 32) rfl)) (hw _ (List.mem_of_getElem? (i := 33) rfl)) (hw _ (List.mem_of_getElem? (i := 25) rfl)) (hw _ (List.mem_of_getElem? (i := 34) rfl)) (by decide) pd__Lcom_example_wireform_wireform_rules_Verdict_Kind_ILjava_lang_String__V rfl rfl rfl (by decide) (by show (1 : Nat) + (6 + 11) + 68 ≤ _; decide) (by decide) (by decide) (by decide) (by decide) (pc' := 213) rfl ?_
                rintro _ h14 vm14 ⟨rfl, ⟨K14, X14, FK14, FL14, FN14⟩⟩ c14
                show RunW l Z own_EL n0 x.cls code maxLocals ret x.name room_1 _ 213 #[.val (.int p1), .val (.int p2), .val (.int p3), .val (.int p4), .val (.int p5), .val (.int p6), .val (.int ka), .val (.int kb), .val (.int v8), .val (.int v9), .val (.int (Int32.ofNat lA)), .val (.int (Int32.ofNat lB)), .val (.int v12), .val (.int v13), .val (.int lnA), .val (.int lnB), .val (.int x0), .val (.int x1), .val (.int y0), .val (.int y1), .val (.int (Int32.ofNat nA)), .val (.int (Int32.ofNat nB)), .val (.ref t11), .val (.ref t12), .unset, .unset, .unset, .unset, .unset, .unset] [(.ref b13)] h14 vm14 11 79
                have E_t11_14 := E_t11_13.keep K14
                have F_t11_value_14 := F_t11_value_13.keep K14 (ninS ne_t11_b13 nin0)
                have F_t11_coder_14 := F_t11_coder_13.keep K14 (ninS ne_t11_b13 nin0)
                have A_b11_14 := A_b11_13.keep K14 (ninS ne_b11_b13 nin0)
                have E_t12_14 := E_t12_13.keep K14
                have F_t12_value_14 := F_t12_value_13.keep K14 (ninS ne_t12_b13 nin0)
                have F_t12_coder_14 := F_t12_coder_13.keep K14 (ninS ne_t12_b13 nin0)
                have A_b12_14 := A_b12_13.keep K14 (ninS ne_b12_b13 nin0)
                have E_b13_14 := X13.keep K14
                have Z_b13_14 := CHr.safe c14 X13.lt sf13
                have sz14 : n0 ≤ h14.size := Nat.le_trans sz13 K14.1
                have kp14 := Keep.trans kp13 K14 (allS (Or.inr bo_b13) all0)
                have od14 := od13.keep K14 (allS ge_b13 all0)
                refine RunW.astore (l' := #[.val (.int p1), .val (.int p2), .val (.int p3), .val (.int p4), .val (.int p5), .val (.int p6), .val (.int ka), .val (.int kb), .val (.int v8), .val (.int v9), .val (.int (Int32.ofNat lA)), .val (.int (Int32.ofNat lB)), .val (.int v12), .val (.int v13), .val (.int lnA), .val (.int lnB), .val (.int x0), .val (.int x1), .val (.int y0), .val (.int y1), .val (.int (Int32.ofNat nA)), .val (.int (Int32.ofNat nB)), .val (.ref t11), .val (.ref t12), .val (.ref b13), .unset, .unset, .unset, .unset, .unset]) at_213 rfl rfl (pc' := 215) rfl ?_
                refine RunW.newO (k' := 12) (n' := 82) at_215 (hw _ (List.mem_of_getElem? (i := 23) rfl)) (hw _ (List.mem_of_getElem? (i := 24) rfl)) (hw _ (List.mem_of_getElem? (i := 25) rfl)) (by decide) (by decide) (by decide) (by decide) (pc' := 218) rfl ?_
                intro h15 b15 g15 E15 X15 D15 c15 sf15
                have ge_b15 : n0 ≤ b15 := by rw [g15]; exact sz14
                have bo_b15 : h0.size ≤ b15 := by rw [g15]; exact kp14.1
                have ne_t11_b15 : t11 ≠ b15 := by rw [g15]; exact Nat.ne_of_lt E_t11_14.lt
                have ne_b11_b15 : b11 ≠ b15 := by rw [g15]; exact Nat.ne_of_lt A_b11_14.lt
                have ne_t12_b15 : t12 ≠ b15 := by rw [g15]; exact Nat.ne_of_lt E_t12_14.lt
                have ne_b12_b15 : b12 ≠ b15 := by rw [g15]; exact Nat.ne_of_lt A_b12_14.lt
                have ne_b13_b15 : b13 ≠ b15 := by rw [g15]; exact Nat.ne_of_lt X14.lt
                have ne_ci_b15 : ci ≠ b15 := Nat.ne_of_lt (Nat.lt_of_lt_of_le (od14.1 ▸ XI.lt) ge_b15)
                have ne_aa_b15 : aa ≠ b15 := Nat.ne_of_lt (Nat.lt_of_lt_of_le (od14.1 ▸ AA.lt) ge_b15)
                have ne_ac_b15 : ac ≠ b15 := Nat.ne_of_lt (Nat.lt_of_lt_of_le (od14.1 ▸ AC.lt) ge_b15)
                have E_t11_15 := E_t11_14.ext E15
                have F_t11_value_15 := F_t11_value_14.ext E15
                have F_t11_coder_15 := F_t11_coder_14.ext E15
                have A_b11_15 := A_b11_14.ext E15
                have E_t12_15 := E_t12_14.ext E15
                have F_t12_value_15 := F_t12_value_14.ext E15
                have F_t12_coder_15 := F_t12_coder_14.ext E15
                have A_b12_15 := A_b12_14.ext E15
                have E_b13_15 := X14.ext E15
                have Z_b13_15 := CHr.safe c15 X14.lt Z_b13_14
                have F_b13_kind_15 := FK14.ext E15
                have F_b13_lineNumber_15 := FL14.ext E15
                have F_b13_errorName_15 := FN14.ext E15
                have sz15 : n0 ≤ h15.size := Nat.le_trans sz14 E15.1
                have kp15 := Keep.ext kp14 E15
                have od15 := od14.ext E15
                have F_b15_kind : Fld Z h15 b15 "com/example/wireform/wireform/rules/Verdict" "kind" "Lcom/example/wireform/wireform/rules/Verdict$Kind;" .null := D15 (Or.inr (hw _ (List.mem_of_getElem? (i := 100) rfl))) (ty := (.object "com/example/wireform/wireform/rules/Verdict$Kind")) (by decide)
                have F_b15_lineNumber : Fld Z h15 b15 "com/example/wireform/wireform/rules/Verdict" "lineNumber" "I" (.int (0 : Int32)) := D15 (Or.inr (hw _ (List.mem_of_getElem? (i := 102) rfl))) (ty := .int) (by decide)
                have F_b15_errorName : Fld Z h15 b15 "com/example/wireform/wireform/rules/Verdict" "errorName" "Ljava/lang/String;" .null := D15 (Or.inr (hw _ (List.mem_of_getElem? (i := 104) rfl))) (ty := (.object "java/lang/String")) (by decide)
                refine RunW.dup at_218 rfl (pc' := 219) rfl ?_
                refine RunW.iload at_219 rfl (pc' := 221) rfl ?_
                refine RunW.callS (k' := 12) (n' := 82) (as := [(.int kb)]) (rest := [(.ref b15), (.ref b15)]) (con_kof l Z a0 hw n0 h15 sz15 kb kv ki ku od15 SV SN SU ) (by rintro _ _ ⟨_, -, -, rfl⟩; exact ⟨[], Keep.refl _ _, all0⟩) at_221 (hw _ (List.mem_of_getElem? (i := 26) rfl)) (hw _ (List.mem_of_getElem? (i := 27) rfl)) (hw _ (List.mem_of_getElem? (i := 4) rfl)) (hw _ (List.mem_of_getElem? (i := 28) rfl)) (by decide) pd__I_Lcom_example_wireform_wireform_rules_Verdict_Kind_ rfl rfl rfl (by decide) (by show (2 : Nat) + (1 + 11) + 0 ≤ _; decide) (by decide) (by decide) (by decide) (by decide) (pc' := 224) rfl ?_
                rintro _ _ ⟨_, rfl, rfl, rfl⟩ -
                show RunW l Z own_EL n0 x.cls code maxLocals ret x.name room_1 _ 224 #[.val (.int p1), .val (.int p2), .val (.int p3), .val (.int p4), .val (.int p5), .val (.int p6), .val (.int ka), .val (.int kb), .val (.int v8), .val (.int v9), .val (.int (Int32.ofNat lA)), .val (.int (Int32.ofNat lB)), .val (.int v12), .val (.int v13), .val (.int lnA), .val (.int lnB), .val (.int x0), .val (.int x1), .val (.int y0), .val (.int y1), .val (.int (Int32.ofNat nA)), .val (.int (Int32.ofNat nB)), .val (.ref t11), .val (.ref t12), .val (.ref b13), .unset, .unset, .unset, .unset, .unset] [(.ref (own_kd kv ki ku kb)), (.ref b15), (.ref b15)] h15 vm14 12 82
                refine RunW.iload at_224 rfl (pc' := 226) rfl ?_
                refine RunW.aload at_226 rfl rfl (pc' := 228) rfl ?_
                refine RunW.callNW (k' := 16) (n' := 142) (a := b15) (as := [(.ref (own_kd kv ki ku kb)), (.int lnB), (.ref t12)]) (rest := [(.ref b15)]) (con_vin l Z a0 hw n0 h15 sz15 b15 (own_kd kv ki ku kb) t12 b12 lnB ([y0, y1].take nB) cz ci aa vs kv ki od15 SZ hcz SI XI SA AA hprop SV SN X15 ge_b15 F_b15_kind F_b15_lineNumber F_b15_errorName E_t12_15 F_t12_value_15 F_t12_coder_15 A_b12_15 ne_t12_b15 ne_b12_b15 (own_latp (own_latT (own_lat2 (own_f0 h_y0) h_y1.1))) (own_t2 _ _ _) (own_latq (own_latT (own_lat2 (own_f0 h_y0) h_y1.1))) (fun e => h_lnB.1 (own_kv hk1 hk2 e)) (fun e => h_lnB.2 (fun z => e (own_kd0 z))) (fun e => own_nbk h_y0 (h_nB.2.1 (own_ki hk1 hk3 e))) (fun e => by rw [h_nB.2.2 (fun z => e (own_kd1 z))]; rfl) (own_no h_y0 h_y1.2.1 (by decide)) (own_no h_y0 h_y1.2.2 (by decide))) all0 (own_EW hw) rfl rfl at_228 (hw _ (List.mem_of_getElem? (i := 32) rfl)) (hw _ (List.mem_of_getElem? (i := 33) rfl)) (hw _ (List.mem_of_getElem? (i := 25) rfl)) (hw _ (List.mem_of_getElem? (i := 34) rfl)) (by decide) pd__Lcom_example_wireform_wireform_rules_Verdict_Kind_ILjava_lang_String__V rfl rfl rfl (by decide) (by show (1 : Nat) + (6 + 11) + 68 ≤ _; decide) (by decide) (by decide) (by decide) (by decide) (pc' := 231) rfl ?_
                rintro _ h16 vm16 ⟨rfl, ⟨K16, X16, FK16, FL16, FN16⟩⟩ c16
                show RunW l Z own_EL n0 x.cls code maxLocals ret x.name room_1 _ 231 #[.val (.int p1), .val (.int p2), .val (.int p3), .val (.int p4), .val (.int p5), .val (.int p6), .val (.int ka), .val (.int kb), .val (.int v8), .val (.int v9), .val (.int (Int32.ofNat lA)), .val (.int (Int32.ofNat lB)), .val (.int v12), .val (.int v13), .val (.int lnA), .val (.int lnB), .val (.int x0), .val (.int x1), .val (.int y0), .val (.int y1), .val (.int (Int32.ofNat nA)), .val (.int (Int32.ofNat nB)), .val (.ref t11), .val (.ref t12), .val (.ref b13), .unset, .unset, .unset, .unset, .unset] [(.ref b15)] h16 vm16 16 142
                have E_t11_16 := E_t11_15.keep K16
                have F_t11_value_16 := F_t11_value_15.keep K16 (ninS ne_t11_b15 nin0)
                have F_t11_coder_16 := F_t11_coder_15.keep K16 (ninS ne_t11_b15 nin0)
                have A_b11_16 := A_b11_15.keep K16 (ninS ne_b11_b15 nin0)
                have E_t12_16 := E_t12_15.keep K16
                have F_t12_value_16 := F_t12_value_15.keep K16 (ninS ne_t12_b15 nin0)
                have F_t12_coder_16 := F_t12_coder_15.keep K16 (ninS ne_t12_b15 nin0)
                have A_b12_16 := A_b12_15.keep K16 (ninS ne_b12_b15 nin0)
                have E_b13_16 := E_b13_15.keep K16
                have Z_b13_16 := CHr.safe c16 E_b13_15.lt Z_b13_15
                have F_b13_kind_16 := F_b13_kind_15.keep K16 (ninS ne_b13_b15 nin0)
                have F_b13_lineNumber_16 := F_b13_lineNumber_15.keep K16 (ninS ne_b13_b15 nin0)
                have F_b13_errorName_16 := F_b13_errorName_15.keep K16 (ninS ne_b13_b15 nin0)
                have E_b15_16 := X15.keep K16
                have Z_b15_16 := CHr.safe c16 X15.lt sf15
                have sz16 : n0 ≤ h16.size := Nat.le_trans sz15 K16.1
                have kp16 := Keep.trans kp15 K16 (allS (Or.inr bo_b15) all0)
                have od16 := od15.keep K16 (allS ge_b15 all0)
                refine RunW.astore (l' := #[.val (.int p1), .val (.int p2), .val (.int p3), .val (.int p4), .val (.int p5), .val (.int p6), .val (.int ka), .val (.int kb), .val (.int v8), .val (.int v9), .val (.int (Int32.ofNat lA)), .val (.int (Int32.ofNat lB)), .val (.int v12), .val (.int v13), .val (.int lnA), .val (.int lnB), .val (.int x0), .val (.int x1), .val (.int y0), .val (.int y1), .val (.int (Int32.ofNat nA)), .val (.int (Int32.ofNat nB)), .val (.ref t11), .val (.ref t12), .val (.ref b13), .val (.ref b15), .unset, .unset, .unset, .unset]) at_231 rfl rfl (pc' := 233) rfl ?_
                have J273 : ∀ (e26 : Int32), (e26 = own_eq ([x0, x1].take nA) ([y0, y1].take nB)) → RunW l Z own_EL n0 x.cls code maxLocals ret x.name room_1 (Val fun w _ => w = .int 1) 273 #[.val (.int p1), .val (.int p2), .val (.int p3), .val (.int p4), .val (.int p5), .val (.int p6), .val (.int ka), .val (.int kb), .val (.int v8), .val (.int v9), .val (.int (Int32.ofNat lA)), .val (.int (Int32.ofNat lB)), .val (.int v12), .val (.int v13), .val (.int lnA), .val (.int lnB), .val (.int x0), .val (.int x1), .val (.int y0), .val (.int y1), .val (.int (Int32.ofNat nA)), .val (.int (Int32.ofNat nB)), .val (.ref t11), .val (.ref t12), .val (.ref b13), .val (.ref b15), .val (.int e26), .unset, .unset, .unset] [] h16 vm16 16 142 := by
                  intro e26 h_e26
                  have J299 : ∀ (e27 : Int32), (e27 = (own_veq (own_kd kv ki ku ka) (own_kd kv ki ku kb) lnA lnB ([x0, x1].take nA) ([y0, y1].take nB))) → RunW l Z own_EL n0 x.cls code maxLocals ret x.name room_1 (Val fun w _ => w = .int 1) 299 #[.val (.int p1), .val (.int p2), .val (.int p3), .val (.int p4), .val (.int p5), .val (.int p6), .val (.int ka), .val (.int kb), .val (.int v8), .val (.int v9), .val (.int (Int32.ofNat lA)), .val (.int (Int32.ofNat lB)), .val (.int v12), .val (.int v13), .val (.int lnA), .val (.int lnB), .val (.int x0), .val (.int x1), .val (.int y0), .val (.int y1), .val (.int (Int32.ofNat nA)), .val (.int (Int32.ofNat nB)), .val (.ref t11), .val (.ref t12), .val (.ref b13), .val (.ref b15), .val (.int e26), .val (.int e27), .unset, .unset] [] h16 vm16 16 142 := by
                    intro e27 h_e27
                    refine RunW.iload at_299 rfl (pc' := 301) rfl ?_
                    refine RunW.iconst (3 : Int32) at_301 (by decide) (pc' := 302) rfl ?_
                    refine RunW.iand at_302 (pc' := 303) rfl ?_
                    refine RunW.istore (l' := #[.val (.int p1), .val (.int p2), .val (.int p3), .val (.int p4), .val (.int p5), .val (.int p6), .val (.int ka), .val (.int kb), .val (.int v8), .val (.int v9), .val (.int (Int32.ofNat lA)), .val (.int (Int32.ofNat lB)), .val (.int v12), .val (.int v13), .val (.int lnA), .val (.int lnB), .val (.int x0), .val (.int x1), .val (.int y0), .val (.int y1), .val (.int (Int32.ofNat nA)), .val (.int (Int32.ofNat nB)), .val (.ref t11), .val (.ref t12), .val (.ref b13), .val (.ref b15), .val (.int e26), .val (.int e27), .val (.int (p6 &&& (3 : Int32))), .unset]) at_303 rfl (pc' := 305) rfl ?_
                    refine RunW.iload at_305 rfl (pc' := 307) rfl ?_
                    refine RunW.iconst (1 : Int32) at_307 (by decide) (pc' := 308) rfl ?_
                    refine RunW.icmp_ne at_308 (by decide) (pc' := 326) (by decide) (pa := 311) rfl (fun hc308 => ?_) (fun hc308 => ?_)
                    · -- pc 308 taken: ¬ (p6 &&& (3 : Int32)) = (1 : Int32)
                      refine RunW.iload at_326 rfl (pc' := 328) rfl ?_
                      refine RunW.iconst (2 : Int32) at_328 (by decide) (pc' := 329) rfl ?_
                      refine RunW.icmp_ne at_329 (by decide) (pc' := 351) (by decide) (pa := 332) rfl (fun hc329 => ?_) (fun hc329 => ?_)
                      · -- pc 329 taken: ¬ (p6 &&& (3 : Int32)) = (2 : Int32)
                        refine RunW.iload at_351 rfl (pc' := 353) rfl ?_
                        refine RunW.iconst (3 : Int32) at_353 (by decide) (pc' := 354) rfl ?_
                        refine RunW.icmp_ne at_354 (by decide) (pc' := 408) (by decide) (pa := 357) rfl (fun hc354 => ?_) (fun hc354 => ?_)
                        · -- pc 354 taken: ¬ (p6 &&& (3 : Int32)) = (3 : Int32)
                          refine RunW.aload at_408 rfl rfl (pc' := 410) rfl ?_
                          refine RunW.aload at_410 rfl rfl (pc' := 412) rfl ?_
                          refine RunW.callV (k' := 16) (n' := 142) (a := b13) (as := [(.ref b15)]) (rest := []) (con_ve2 l Z a0 hw n0 h16 sz16 b13 b15 (own_kd kv ki ku ka) (own_kd kv ki ku kb) t11 b11 t12 b12 lnA lnB ([x0, x1].take nA) ([y0, y1].take nB) cz od16 SZ hcz X16 F_b13_kind_16 F_b13_lineNumber_16 F_b13_errorName_16 FK16 FL16 FN16 E_t11_16 F_t11_value_16 F_t11_coder_16 A_b11_16 E_t12_16 F_t12_value_16 F_t12_coder_16 A_b12_16 (own_t2 _ _ _) (own_latq (own_latT (own_lat2 (own_f0 h_x0) h_x1.1))) (own_t2 _ _ _) (own_latq (own_latT (own_lat2 (own_f0 h_y0) h_y1.1))) ) (by rintro _ _ ⟨_, -, -, rfl⟩; exact ⟨[], Keep.refl _ _, all0⟩) E_b13_16 at_412 (hw _ (List.mem_of_getElem? (i := 105) rfl)) (hw _ (List.mem_of_getElem? (i := 106) rfl)) (fun s hZ => notFace_of_selects (args := #[]) (mvT hZ (hw _ (List.mem_of_getElem? (i := 108) rfl)))) (hw _ (List.mem_of_getElem? (i := 108) rfl)) (hw _ (List.mem_of_getElem? (i := 107) rfl)) (hw _ (List.mem_of_getElem? (i := 25) rfl)) (hw _ (List.mem_of_getElem? (i := 109) rfl)) (by decide) pd__Ljava_lang_Object__Z rfl rfl rfl (by decide) (by show (0 : Nat) + (3 + 11) + 28 ≤ _; decide) (by decide) (by decide) (by decide) (by decide) (pc' := 415) rfl ?_
                          rintro _ _ ⟨_, rfl, rfl, rfl⟩ -
                          show RunW l Z own_EL n0 x.cls code maxLocals ret x.name room_1 _ 415 #[.val (.int p1), .val (.int p2), .val (.int p3), .val (.int p4), .val (.int p5), .val (.int p6), .val (.int ka), .val (.int kb), .val (.int v8), .val (.int v9), .val (.int (Int32.ofNat lA)), .val (.int (Int32.ofNat lB)), .val (.int v12), .val (.int v13), .val (.int lnA), .val (.int lnB), .val (.int x0), .val (.int x1), .val (.int y0), .val (.int y1), .val (.int (Int32.ofNat nA)), .val (.int (Int32.ofNat nB)), .val (.ref t11), .val (.ref t12), .val (.ref b13), .val (.ref b15), .val (.int e26), .val (.int e27), .val (.int (p6 &&& (3 : Int32))), .unset] [(.int (own_veq (own_kd kv ki ku ka) (own_kd kv ki ku kb) lnA lnB ([x0, x1].take nA) ([y0, y1].take nB)))] h16 vm16 16 142
                          refine RunW.iload at_415 rfl (pc' := 417) rfl ?_
                          refine RunW.icmp_ne at_417 (by decide) (pc' := 436) (by decide) (pa := 420) rfl (fun hc417 => ?_) (fun hc417 => ?_)
                          · -- pc 417 taken: ¬ (own_veq (own_kd kv ki ku ka) (own_kd kv ki ku kb) lnA lnB ([x0, x1].take nA) ([y0, y1].take nB)) = e27
                            exact absurd h_e27.symm hc417
                          · -- pc 417 not taken: (own_veq (own_kd kv ki ku ka) (own_kd kv ki ku kb) lnA lnB ([x0, x1].take nA) ([y0, y1].take nB)) = e27
                            refine RunW.aload at_420 rfl rfl (pc' := 422) rfl ?_
                            refine RunW.aload at_422 rfl rfl (pc' := 424) rfl ?_
                            refine RunW.callV (k' := 16) (n' := 142) (a := b15) (as := [(.ref b13)]) (rest := []) (con_ve2 l Z a0 hw n0 h16 sz16 b15 b13 (own_kd kv ki ku kb) (own_kd kv ki ku ka) t12 b12 t11 b11 lnB lnA ([y0, y1].take nB) ([x0, x1].take nA) cz od16 SZ hcz E_b13_16 FK16 FL16 FN16 F_b13_kind_16 F_b13_lineNumber_16 F_b13_errorName_16 E_t12_16 F_t12_value_16 F_t12_coder_16 A_b12_16 E_t11_16 F_t11_value_16 F_t11_coder_16 A_b11_16 (own_t2 _ _ _) (own_latq (own_latT (own_lat2 (own_f0 h_y0) h_y1.1))) (own_t2 _ _ _) (own_latq (own_latT (own_lat2 (own_f0 h_x0) h_x1.1))) ) (by rintro _ _ ⟨_, -, -, rfl⟩; exact ⟨[], Keep.refl _ _, all0⟩) X16 at_424 (hw _ (List.mem_of_getElem? (i := 105) rfl)) (hw _ (List.mem_of_getElem? (i := 106) rfl)) (fun s hZ => notFace_of_selects (args := #[]) (mvT hZ (hw _ (List.mem_of_getElem? (i := 108) rfl)))) (hw _ (List.mem_of_getElem? (i := 108) rfl)) (hw _ (List.mem_of_getElem? (i := 107) rfl)) (hw _ (List.mem_of_getElem? (i := 25) rfl)) (hw _ (List.mem_of_getElem? (i := 109) rfl)) (by decide) pd__Ljava_lang_Object__Z rfl rfl rfl (by decide) (by show (0 : Nat) + (3 + 11) + 28 ≤ _; decide) (by decide) (by decide) (by decide) (by decide) (pc' := 427) rfl ?_
                            rintro _ _ ⟨_, rfl, rfl, rfl⟩ -
                            show RunW l Z own_EL n0 x.cls code maxLocals ret x.name room_1 _ 427 #[.val (.int p1), .val (.int p2), .val (.int p3), .val (.int p4), .val (.int p5), .val (.int p6), .val (.int ka), .val (.int kb), .val (.int v8), .val (.int v9), .val (.int (Int32.ofNat lA)), .val (.int (Int32.ofNat lB)), .val (.int v12), .val (.int v13), .val (.int lnA), .val (.int lnB), .val (.int x0), .val (.int x1), .val (.int y0), .val (.int y1), .val (.int (Int32.ofNat nA)), .val (.int (Int32.ofNat nB)), .val (.ref t11), .val (.ref t12), .val (.ref b13), .val (.ref b15), .val (.int e26), .val (.int e27), .val (.int (p6 &&& (3 : Int32))), .unset] [(.int (own_veq (own_kd kv ki ku kb) (own_kd kv ki ku ka) lnB lnA ([y0, y1].take nB) ([x0, x1].take nA)))] h16 vm16 16 142
                            refine RunW.iload at_427 rfl (pc' := 429) rfl ?_
                            refine RunW.icmp_ne at_429 (by decide) (pc' := 436) (by decide) (pa := 432) rfl (fun hc429 => ?_) (fun hc429 => ?_)
                            · -- pc 429 taken: ¬ (own_veq (own_kd kv ki ku kb) (own_kd kv ki ku ka) lnB lnA ([y0, y1].take nB) ([x0, x1].take nA)) = e27
                              exact absurd (by rw [h_e27]; exact own_vc ..) hc429
                            · -- pc 429 not taken: (own_veq (own_kd kv ki ku kb) (own_kd kv ki ku ka) lnB lnA ([y0, y1].take nB) ([x0, x1].take nA)) = e27
                              refine RunW.iconst (1 : Int32) at_432 (by decide) (pc' := 433) rfl ?_
                              refine RunW.goto at_433 (by decide) (pc' := 437) (by decide) ?_
                              exact RunW.nreturn at_437 (ty := .boolean) rfl (by simp) (by decide) (by decide) ⟨_, rfl, rfl⟩
                        · -- pc 354 not taken: (p6 &&& (3 : Int32)) = (3 : Int32)
                          refine RunW.newO (k' := 17) (n' := 145) at_357 (hw _ (List.mem_of_getElem? (i := 23) rfl)) (hw _ (List.mem_of_getElem? (i := 24) rfl)) (hw _ (List.mem_of_getElem? (i := 25) rfl)) (by decide) (by decide) (by decide) (by decide) (pc' := 360) rfl ?_
                          intro h17 b17 g17 E17 X17 D17 c17 sf17
                          have ge_b17 : n0 ≤ b17 := by rw [g17]; exact sz16
                          have bo_b17 : h0.size ≤ b17 := by rw [g17]; exact kp16.1
                          have ne_t11_b17 : t11 ≠ b17 := by rw [g17]; exact Nat.ne_of_lt E_t11_16.lt
                          have ne_b11_b17 : b11 ≠ b17 := by rw [g17]; exact Nat.ne_of_lt A_b11_16.lt
                          have ne_t12_b17 : t12 ≠ b17 := by rw [g17]; exact Nat.ne_of_lt E_t12_16.lt
                          have ne_b12_b17 : b12 ≠ b17 := by rw [g17]; exact Nat.ne_of_lt A_b12_16.lt
                          have ne_b13_b17 : b13 ≠ b17 := by rw [g17]; exact Nat.ne_of_lt E_b13_16.lt
                          have ne_b15_b17 : b15 ≠ b17 := by rw [g17]; exact Nat.ne_of_lt X16.lt
                          have ne_ci_b17 : ci ≠ b17 := Nat.ne_of_lt (Nat.lt_of_lt_of_le (od16.1 ▸ XI.lt) ge_b17)
                          have ne_aa_b17 : aa ≠ b17 := Nat.ne_of_lt (Nat.lt_of_lt_of_le (od16.1 ▸ AA.lt) ge_b17)
                          have ne_ac_b17 : ac ≠ b17 := Nat.ne_of_lt (Nat.lt_of_lt_of_le (od16.1 ▸ AC.lt) ge_b17)
                          have E_t11_17 := E_t11_16.ext E17
                          have F_t11_value_17 := F_t11_value_16.ext E17
                          have F_t11_coder_17 := F_t11_coder_16.ext E17
                          have A_b11_17 := A_b11_16.ext E17
                          have E_t12_17 := E_t12_16.ext E17
                          have F_t12_value_17 := F_t12_value_16.ext E17
                          have F_t12_coder_17 := F_t12_coder_16.ext E17
                          have A_b12_17 := A_b12_16.ext E17
                          have E_b13_17 := E_b13_16.ext E17
                          have Z_b13_17 := CHr.safe c17 E_b13_16.lt Z_b13_16
                          have F_b13_kind_17 := F_b13_kind_16.ext E17
                          have F_b13_lineNumber_17 := F_b13_lineNumber_16.ext E17
                          have F_b13_errorName_17 := F_b13_errorName_16.ext E17
                          have E_b15_17 := X16.ext E17
                          have Z_b15_17 := CHr.safe c17 X16.lt Z_b15_16
                          have F_b15_kind_17 := FK16.ext E17
                          have F_b15_lineNumber_17 := FL16.ext E17
                          have F_b15_errorName_17 := FN16.ext E17
                          have sz17 : n0 ≤ h17.size := Nat.le_trans sz16 E17.1
                          have kp17 := Keep.ext kp16 E17
                          have od17 := od16.ext E17
                          have F_b17_kind : Fld Z h17 b17 "com/example/wireform/wireform/rules/Verdict" "kind" "Lcom/example/wireform/wireform/rules/Verdict$Kind;" .null := D17 (Or.inr (hw _ (List.mem_of_getElem? (i := 100) rfl))) (ty := (.object "com/example/wireform/wireform/rules/Verdict$Kind")) (by decide)
                          have F_b17_lineNumber : Fld Z h17 b17 "com/example/wireform/wireform/rules/Verdict" "lineNumber" "I" (.int (0 : Int32)) := D17 (Or.inr (hw _ (List.mem_of_getElem? (i := 102) rfl))) (ty := .int) (by decide)
                          have F_b17_errorName : Fld Z h17 b17 "com/example/wireform/wireform/rules/Verdict" "errorName" "Ljava/lang/String;" .null := D17 (Or.inr (hw _ (List.mem_of_getElem? (i := 104) rfl))) (ty := (.object "java/lang/String")) (by decide)
                          refine RunW.dup at_360 rfl (pc' := 361) rfl ?_
                          refine RunW.iload at_361 rfl (pc' := 363) rfl ?_
                          refine RunW.callS (k' := 17) (n' := 145) (as := [(.int ka)]) (rest := [(.ref b17), (.ref b17)]) (con_kof l Z a0 hw n0 h17 sz17 ka kv ki ku od17 SV SN SU ) (by rintro _ _ ⟨_, -, -, rfl⟩; exact ⟨[], Keep.refl _ _, all0⟩) at_363 (hw _ (List.mem_of_getElem? (i := 26) rfl)) (hw _ (List.mem_of_getElem? (i := 27) rfl)) (hw _ (List.mem_of_getElem? (i := 4) rfl)) (hw _ (List.mem_of_getElem? (i := 28) rfl)) (by decide) pd__I_Lcom_example_wireform_wireform_rules_Verdict_Kind_ rfl rfl rfl (by decide) (by show (2 : Nat) + (1 + 11) + 0 ≤ _; decide) (by decide) (by decide) (by decide) (by decide) (pc' := 366) rfl ?_
                          rintro _ _ ⟨_, rfl, rfl, rfl⟩ -
                          show RunW l Z own_EL n0 x.cls code maxLocals ret x.name room_1 _ 366 #[.val (.int p1), .val (.int p2), .val (.int p3), .val (.int p4), .val (.int p5), .val (.int p6), .val (.int ka), .val (.int kb), .val (.int v8), .val (.int v9), .val (.int (Int32.ofNat lA)), .val (.int (Int32.ofNat lB)), .val (.int v12), .val (.int v13), .val (.int lnA), .val (.int lnB), .val (.int x0), .val (.int x1), .val (.int y0), .val (.int y1), .val (.int (Int32.ofNat nA)), .val (.int (Int32.ofNat nB)), .val (.ref t11), .val (.ref t12), .val (.ref b13), .val (.ref b15), .val (.int e26), .val (.int e27), .val (.int (p6 &&& (3 : Int32))), .unset] [(.ref (own_kd kv ki ku ka)), (.ref b17), (.ref b17)] h17 vm16 17 145
                          refine RunW.iload at_366 rfl (pc' := 368) rfl ?_
                          refine RunW.iload at_368 rfl (pc' := 370) rfl ?_
                          refine RunW.iload at_370 rfl (pc' := 372) rfl ?_
                          refine RunW.iload at_372 rfl (pc' := 374) rfl ?_
                          refine RunW.callSW (k' := 20) (n' := 153) (as := [(.int (Int32.ofNat nA)), (.int x0), (.int x1)]) (rest := [(.int lnA), (.ref (own_kd kv ki ku ka)), (.ref b17), (.ref b17)]) (con_nam l Z a0 hw n0 h17 sz17 nA h_nA.1 x0 x1 cz od17 SZ hcz ⟨own_nchI (own_f0 h_x0), (own_f0 h_x0)⟩ ⟨own_nchI h_x1.1, h_x1.1⟩) all0 (own_EW hw) at_374 (hw _ (List.mem_of_getElem? (i := 12) rfl)) (hw _ (List.mem_of_getElem? (i := 13) rfl)) (hw _ (List.mem_of_getElem? (i := 4) rfl)) (hw _ (List.mem_of_getElem? (i := 14) rfl)) (by decide) pd__III_Ljava_lang_String_ rfl rfl rfl (by decide) (by show (4 : Nat) + (4 + 11) + 66 ≤ _; decide) (by decide) (by decide) (by decide) (by decide) (pc' := 377) rfl ?_
                          rintro _ h18 vm18 ⟨_, rfl, ⟨t18, b18, rfl, E18, X18, FV18, FC18, P18⟩⟩ c18
                          show RunW l Z own_EL n0 x.cls code maxLocals ret x.name room_1 _ 377 #[.val (.int p1), .val (.int p2), .val (.int p3), .val (.int p4), .val (.int p5), .val (.int p6), .val (.int ka), .val (.int kb), .val (.int v8), .val (.int v9), .val (.int (Int32.ofNat lA)), .val (.int (Int32.ofNat lB)), .val (.int v12), .val (.int v13), .val (.int lnA), .val (.int lnB), .val (.int x0), .val (.int x1), .val (.int y0), .val (.int y1), .val (.int (Int32.ofNat nA)), .val (.int (Int32.ofNat nB)), .val (.ref t11), .val (.ref t12), .val (.ref b13), .val (.ref b15), .val (.int e26), .val (.int e27), .val (.int (p6 &&& (3 : Int32))), .unset] [(.ref t18), (.int lnA), (.ref (own_kd kv ki ku ka)), (.ref b17), (.ref b17)] h18 vm18 20 153
                          have E_t11_18 := E_t11_17.ext E18
                          have F_t11_value_18 := F_t11_value_17.ext E18
                          have F_t11_coder_18 := F_t11_coder_17.ext E18
                          have A_b11_18 := A_b11_17.ext E18
                          have E_t12_18 := E_t12_17.ext E18
                          have F_t12_value_18 := F_t12_value_17.ext E18
                          have F_t12_coder_18 := F_t12_coder_17.ext E18
                          have A_b12_18 := A_b12_17.ext E18
                          have E_b13_18 := E_b13_17.ext E18
                          have Z_b13_18 := CHr.safe c18 E_b13_17.lt Z_b13_17
                          have F_b13_kind_18 := F_b13_kind_17.ext E18
                          have F_b13_lineNumber_18 := F_b13_lineNumber_17.ext E18
                          have F_b13_errorName_18 := F_b13_errorName_17.ext E18
                          have E_b15_18 := E_b15_17.ext E18
                          have Z_b15_18 := CHr.safe c18 E_b15_17.lt Z_b15_17
                          have F_b15_kind_18 := F_b15_kind_17.ext E18
                          have F_b15_lineNumber_18 := F_b15_lineNumber_17.ext E18
                          have F_b15_errorName_18 := F_b15_errorName_17.ext E18
                          have E_b17_18 := X17.ext E18
                          have Z_b17_18 := CHr.safe c18 X17.lt sf17
                          have F_b17_kind_18 := F_b17_kind.ext E18
                          have F_b17_lineNumber_18 := F_b17_lineNumber.ext E18
                          have F_b17_errorName_18 := F_b17_errorName.ext E18
                          have sz18 : n0 ≤ h18.size := Nat.le_trans sz17 E18.1
                          have kp18 := Keep.ext kp17 E18
                          have od18 := od17.ext E18
                          have ne_t18_b17 : t18 ≠ b17 := own_xne X18 E_b17_18 (by decide)
                          have ne_b18_b17 : b18 ≠ b17 := own_ane (hw _ (List.mem_of_getElem? (i := 24) rfl)) P18 E_b17_18
                          refine RunW.callNW (k' := 24) (n' := 213) (a := b17) (as := [(.ref (own_kd kv ki ku ka)), (.int lnA), (.ref t18)]) (rest := [(.ref b17)]) (con_vin l Z a0 hw n0 h18 sz18 b17 (own_kd kv ki ku ka) t18 b18 lnA ([x0, x1].take nA) cz ci aa vs kv ki od18 SZ hcz SI XI SA AA hprop SV SN E_b17_18 ge_b17 F_b17_kind_18 F_b17_lineNumber_18 F_b17_errorName_18 X18 FV18 FC18 P18 ne_t18_b17 ne_b18_b17 (own_latp (own_latT (own_lat2 (own_f0 h_x0) h_x1.1))) (own_t2 _ _ _) (own_latq (own_latT (own_lat2 (own_f0 h_x0) h_x1.1))) (fun e => h_lnA.1 (own_kv hk1 hk2 e)) (fun e => h_lnA.2 (fun z => e (own_kd0 z))) (fun e => own_nbk h_x0 (h_nA.2.1 (own_ki hk1 hk3 e))) (fun e => by rw [h_nA.2.2 (fun z => e (own_kd1 z))]; rfl) (own_no h_x0 h_x1.2.1 (by decide)) (own_no h_x0 h_x1.2.2 (by decide))) all0 (own_EW hw) rfl rfl at_377 (hw _ (List.mem_of_getElem? (i := 32) rfl)) (hw _ (List.mem_of_getElem? (i := 33) rfl)) (hw _ (List.mem_of_getElem? (i := 25) rfl)) (hw _ (List.mem_of_getElem? (i := 34) rfl)) (by decide) pd__Lcom_example_wireform_wireform_rules_Verdict_Kind_ILjava_lang_String__V rfl rfl rfl (by decide) (by show (1 : Nat) + (6 + 11) + 68 ≤ _; decide) (by decide) (by decide) (by decide) (by decide) (pc' := 380) rfl ?_
                          rintro _ h19 vm19 ⟨rfl, ⟨K19, X19, FK19, FL19, FN19⟩⟩ c19
                          show RunW l Z own_EL n0 x.cls code maxLocals ret x.name room_1 _ 380 #[.val (.int p1), .val (.int p2), .val (.int p3), .val (.int p4), .val (.int p5), .val (.int p6), .val (.int ka), .val (.int kb), .val (.int v8), .val (.int v9), .val (.int (Int32.ofNat lA)), .val (.int (Int32.ofNat lB)), .val (.int v12), .val (.int v13), .val (.int lnA), .val (.int lnB), .val (.int x0), .val (.int x1), .val (.int y0), .val (.int y1), .val (.int (Int32.ofNat nA)), .val (.int (Int32.ofNat nB)), .val (.ref t11), .val (.ref t12), .val (.ref b13), .val (.ref b15), .val (.int e26), .val (.int e27), .val (.int (p6 &&& (3 : Int32))), .unset] [(.ref b17)] h19 vm19 24 213
                          have E_t11_19 := E_t11_18.keep K19
                          have F_t11_value_19 := F_t11_value_18.keep K19 (ninS ne_t11_b17 nin0)
                          have F_t11_coder_19 := F_t11_coder_18.keep K19 (ninS ne_t11_b17 nin0)
                          have A_b11_19 := A_b11_18.keep K19 (ninS ne_b11_b17 nin0)
                          have E_t12_19 := E_t12_18.keep K19
                          have F_t12_value_19 := F_t12_value_18.keep K19 (ninS ne_t12_b17 nin0)
                          have F_t12_coder_19 := F_t12_coder_18.keep K19 (ninS ne_t12_b17 nin0)
                          have A_b12_19 := A_b12_18.keep K19 (ninS ne_b12_b17 nin0)
                          have E_b13_19 := E_b13_18.keep K19
                          have Z_b13_19 := CHr.safe c19 E_b13_18.lt Z_b13_18
                          have F_b13_kind_19 := F_b13_kind_18.keep K19 (ninS ne_b13_b17 nin0)
                          have F_b13_lineNumber_19 := F_b13_lineNumber_18.keep K19 (ninS ne_b13_b17 nin0)
                          have F_b13_errorName_19 := F_b13_errorName_18.keep K19 (ninS ne_b13_b17 nin0)
                          have E_b15_19 := E_b15_18.keep K19
                          have Z_b15_19 := CHr.safe c19 E_b15_18.lt Z_b15_18
                          have F_b15_kind_19 := F_b15_kind_18.keep K19 (ninS ne_b15_b17 nin0)
                          have F_b15_lineNumber_19 := F_b15_lineNumber_18.keep K19 (ninS ne_b15_b17 nin0)
                          have F_b15_errorName_19 := F_b15_errorName_18.keep K19 (ninS ne_b15_b17 nin0)
                          have E_b17_19 := E_b17_18.keep K19
                          have Z_b17_19 := CHr.safe c19 E_b17_18.lt Z_b17_18
                          have E_t18_19 := X18.keep K19
                          have F_t18_value_19 := FV18.keep K19 (ninS ne_t18_b17 nin0)
                          have F_t18_coder_19 := FC18.keep K19 (ninS ne_t18_b17 nin0)
                          have A_b18_19 := P18.keep K19 (ninS ne_b18_b17 nin0)
                          have sz19 : n0 ≤ h19.size := Nat.le_trans sz18 K19.1
                          have kp19 := Keep.trans kp18 K19 (allS (Or.inr bo_b17) all0)
                          have od19 := od18.keep K19 (allS ge_b17 all0)
                          refine RunW.astore (l' := #[.val (.int p1), .val (.int p2), .val (.int p3), .val (.int p4), .val (.int p5), .val (.int p6), .val (.int ka), .val (.int kb), .val (.int v8), .val (.int v9), .val (.int (Int32.ofNat lA)), .val (.int (Int32.ofNat lB)), .val (.int v12), .val (.int v13), .val (.int lnA), .val (.int lnB), .val (.int x0), .val (.int x1), .val (.int y0), .val (.int y1), .val (.int (Int32.ofNat nA)), .val (.int (Int32.ofNat nB)), .val (.ref t11), .val (.ref t12), .val (.ref b13), .val (.ref b15), .val (.int e26), .val (.int e27), .val (.int (p6 &&& (3 : Int32))), .val (.ref b17)]) at_380 rfl rfl (pc' := 382) rfl ?_
                          refine RunW.aload at_382 rfl rfl (pc' := 384) rfl ?_
                          refine RunW.aload at_384 rfl rfl (pc' := 386) rfl ?_
                          refine RunW.callV (k' := 24) (n' := 213) (a := b13) (as := [(.ref b17)]) (rest := []) (con_ve2 l Z a0 hw n0 h19 sz19 b13 b17 (own_kd kv ki ku ka) (own_kd kv ki ku ka) t11 b11 t18 b18 lnA lnA ([x0, x1].take nA) ([x0, x1].take nA) cz od19 SZ hcz X19 F_b13_kind_19 F_b13_lineNumber_19 F_b13_errorName_19 FK19 FL19 FN19 E_t11_19 F_t11_value_19 F_t11_coder_19 A_b11_19 E_t18_19 F_t18_value_19 F_t18_coder_19 A_b18_19 (own_t2 _ _ _) (own_latq (own_latT (own_lat2 (own_f0 h_x0) h_x1.1))) (own_t2 _ _ _) (own_latq (own_latT (own_lat2 (own_f0 h_x0) h_x1.1))) ) (by rintro _ _ ⟨_, -, -, rfl⟩; exact ⟨[], Keep.refl _ _, all0⟩) E_b13_19 at_386 (hw _ (List.mem_of_getElem? (i := 105) rfl)) (hw _ (List.mem_of_getElem? (i := 106) rfl)) (fun s hZ => notFace_of_selects (args := #[]) (mvT hZ (hw _ (List.mem_of_getElem? (i := 108) rfl)))) (hw _ (List.mem_of_getElem? (i := 108) rfl)) (hw _ (List.mem_of_getElem? (i := 107) rfl)) (hw _ (List.mem_of_getElem? (i := 25) rfl)) (hw _ (List.mem_of_getElem? (i := 109) rfl)) (by decide) pd__Ljava_lang_Object__Z rfl rfl rfl (by decide) (by show (0 : Nat) + (3 + 11) + 28 ≤ _; decide) (by decide) (by decide) (by decide) (by decide) (pc' := 389) rfl ?_
                          rintro _ _ ⟨_, rfl, rfl, rfl⟩ -
                          show RunW l Z own_EL n0 x.cls code maxLocals ret x.name room_1 _ 389 #[.val (.int p1), .val (.int p2), .val (.int p3), .val (.int p4), .val (.int p5), .val (.int p6), .val (.int ka), .val (.int kb), .val (.int v8), .val (.int v9), .val (.int (Int32.ofNat lA)), .val (.int (Int32.ofNat lB)), .val (.int v12), .val (.int v13), .val (.int lnA), .val (.int lnB), .val (.int x0), .val (.int x1), .val (.int y0), .val (.int y1), .val (.int (Int32.ofNat nA)), .val (.int (Int32.ofNat nB)), .val (.ref t11), .val (.ref t12), .val (.ref b13), .val (.ref b15), .val (.int e26), .val (.int e27), .val (.int (p6 &&& (3 : Int32))), .val (.ref b17)] [(.int (own_veq (own_kd kv ki ku ka) (own_kd kv ki ku ka) lnA lnA ([x0, x1].take nA) ([x0, x1].take nA)))] h19 vm19 24 213
                          refine RunW.if_eq at_389 (by decide) (pc' := 406) (by decide) (pa := 392) rfl (fun hc389 => ?_) (fun hc389 => ?_)
                          · -- pc 389 taken: (own_veq (own_kd kv ki ku ka) (own_kd kv ki ku ka) lnA lnA ([x0, x1].take nA) ([x0, x1].take nA)) = (0 : Int32)
                            exact absurd hc389 (own_vr _ _ _)
                          · -- pc 389 not taken: ¬ (own_veq (own_kd kv ki ku ka) (own_kd kv ki ku ka) lnA lnA ([x0, x1].take nA) ([x0, x1].take nA)) = (0 : Int32)
                            refine RunW.aload at_392 rfl rfl (pc' := 394) rfl ?_
                            refine RunW.aload at_394 rfl rfl (pc' := 396) rfl ?_
                            refine RunW.callV (k' := 24) (n' := 213) (a := b17) (as := [(.ref b13)]) (rest := []) (con_ve2 l Z a0 hw n0 h19 sz19 b17 b13 (own_kd kv ki ku ka) (own_kd kv ki ku ka) t18 b18 t11 b11 lnA lnA ([x0, x1].take nA) ([x0, x1].take nA) cz od19 SZ hcz E_b13_19 FK19 FL19 FN19 F_b13_kind_19 F_b13_lineNumber_19 F_b13_errorName_19 E_t18_19 F_t18_value_19 F_t18_coder_19 A_b18_19 E_t11_19 F_t11_value_19 F_t11_coder_19 A_b11_19 (own_t2 _ _ _) (own_latq (own_latT (own_lat2 (own_f0 h_x0) h_x1.1))) (own_t2 _ _ _) (own_latq (own_latT (own_lat2 (own_f0 h_x0) h_x1.1))) ) (by rintro _ _ ⟨_, -, -, rfl⟩; exact ⟨[], Keep.refl _ _, all0⟩) X19 at_396 (hw _ (List.mem_of_getElem? (i := 105) rfl)) (hw _ (List.mem_of_getElem? (i := 106) rfl)) (fun s hZ => notFace_of_selects (args := #[]) (mvT hZ (hw _ (List.mem_of_getElem? (i := 108) rfl)))) (hw _ (List.mem_of_getElem? (i := 108) rfl)) (hw _ (List.mem_of_getElem? (i := 107) rfl)) (hw _ (List.mem_of_getElem? (i := 25) rfl)) (hw _ (List.mem_of_getElem? (i := 109) rfl)) (by decide) pd__Ljava_lang_Object__Z rfl rfl rfl (by decide) (by show (0 : Nat) + (3 + 11) + 28 ≤ _; decide) (by decide) (by decide) (by decide) (by decide) (pc' := 399) rfl ?_
                            rintro _ _ ⟨_, rfl, rfl, rfl⟩ -
                            show RunW l Z own_EL n0 x.cls code maxLocals ret x.name room_1 _ 399 #[.val (.int p1), .val (.int p2), .val (.int p3), .val (.int p4), .val (.int p5), .val (.int p6), .val (.int ka), .val (.int kb), .val (.int v8), .val (.int v9), .val (.int (Int32.ofNat lA)), .val (.int (Int32.ofNat lB)), .val (.int v12), .val (.int v13), .val (.int lnA), .val (.int lnB), .val (.int x0), .val (.int x1), .val (.int y0), .val (.int y1), .val (.int (Int32.ofNat nA)), .val (.int (Int32.ofNat nB)), .val (.ref t11), .val (.ref t12), .val (.ref b13), .val (.ref b15), .val (.int e26), .val (.int e27), .val (.int (p6 &&& (3 : Int32))), .val (.ref b17)] [(.int (own_veq (own_kd kv ki ku ka) (own_kd kv ki ku ka) lnA lnA ([x0, x1].take nA) ([x0, x1].take nA)))] h19 vm19 24 213
                            refine RunW.if_eq at_399 (by decide) (pc' := 406) (by decide) (pa := 402) rfl (fun hc399 => ?_) (fun hc399 => ?_)
                            · -- pc 399 taken: (own_veq (own_kd kv ki ku ka) (own_kd kv ki ku ka) lnA lnA ([x0, x1].take nA) ([x0, x1].take nA)) = (0 : Int32)
                              exact absurd hc399 (own_vr _ _ _)
                            · -- pc 399 not taken: ¬ (own_veq (own_kd kv ki ku ka) (own_kd kv ki ku ka) lnA lnA ([x0, x1].take nA) ([x0, x1].take nA)) = (0 : Int32)
                              refine RunW.iconst (1 : Int32) at_402 (by decide) (pc' := 403) rfl ?_
                              refine RunW.goto at_403 (by decide) (pc' := 407) (by decide) ?_
                              exact RunW.nreturn at_407 (ty := .boolean) rfl (by simp) (by decide) (by decide) ⟨_, rfl, rfl⟩
                      · -- pc 329 not taken: (p6 &&& (3 : Int32)) = (2 : Int32)
                        refine RunW.aload at_332 rfl rfl (pc' := 334) rfl ?_
                        refine RunW.iload at_334 rfl (pc' := 336) rfl ?_
                        refine RunW.callS (k' := 17) (n' := 143) (as := [(.int lnA)]) (rest := [(.ref b13)]) (con_vof l Z a0 hw n0 h16 sz16 lnA ac ws od16 SH SC AC hcache) (by rintro _ _ ⟨_, rfl, ⟨b_, rfl, E_, P_⟩⟩; exact ⟨[], Keep.ofExt E_, all0⟩) at_336 (hw _ (List.mem_of_getElem? (i := 167) rfl)) (hw _ (List.mem_of_getElem? (i := 168) rfl)) (hw _ (List.mem_of_getElem? (i := 169) rfl)) (hw _ (List.mem_of_getElem? (i := 170) rfl)) (by decide) pd__I_Ljava_lang_Integer_ rfl rfl rfl (by decide) (by show (1 : Nat) + (1 + 11) + 38 ≤ _; decide) (by decide) (by decide) (by decide) (by decide) (pc' := 339) rfl ?_
                        rintro _ h20 ⟨_, rfl, ⟨b20, rfl, E20, P20⟩⟩ c20
                        show RunW l Z own_EL n0 x.cls code maxLocals ret x.name room_1 _ 339 #[.val (.int p1), .val (.int p2), .val (.int p3), .val (.int p4), .val (.int p5), .val (.int p6), .val (.int ka), .val (.int kb), .val (.int v8), .val (.int v9), .val (.int (Int32.ofNat lA)), .val (.int (Int32.ofNat lB)), .val (.int v12), .val (.int v13), .val (.int lnA), .val (.int lnB), .val (.int x0), .val (.int x1), .val (.int y0), .val (.int y1), .val (.int (Int32.ofNat nA)), .val (.int (Int32.ofNat nB)), .val (.ref t11), .val (.ref t12), .val (.ref b13), .val (.ref b15), .val (.int e26), .val (.int e27), .val (.int (p6 &&& (3 : Int32))), .unset] [(.ref b20), (.ref b13)] h20 vm16 17 143
                        have E_t11_20 := E_t11_16.ext E20
                        have F_t11_value_20 := F_t11_value_16.ext E20
                        have F_t11_coder_20 := F_t11_coder_16.ext E20
                        have A_b11_20 := A_b11_16.ext E20
                        have E_t12_20 := E_t12_16.ext E20
                        have F_t12_value_20 := F_t12_value_16.ext E20
                        have F_t12_coder_20 := F_t12_coder_16.ext E20
                        have A_b12_20 := A_b12_16.ext E20
                        have E_b13_20 := E_b13_16.ext E20
                        have Z_b13_20 := CHr.safe c20 E_b13_16.lt Z_b13_16
                        have F_b13_kind_20 := F_b13_kind_16.ext E20
                        have F_b13_lineNumber_20 := F_b13_lineNumber_16.ext E20
                        have F_b13_errorName_20 := F_b13_errorName_16.ext E20
                        have E_b15_20 := X16.ext E20
                        have Z_b15_20 := CHr.safe c20 X16.lt Z_b15_16
                        have F_b15_kind_20 := FK16.ext E20
                        have F_b15_lineNumber_20 := FL16.ext E20
                        have F_b15_errorName_20 := FN16.ext E20
                        have sz20 : n0 ≤ h20.size := Nat.le_trans sz16 E20.1
                        have kp20 := Keep.ext kp16 E20
                        have od20 := od16.ext E20
                        refine RunW.callV (k' := 17) (n' := 143) (a := b13) (as := [(.ref b20)]) (rest := []) (con_ve1 l Z a0 hw n0 h20 sz20 b13 b20 P20 ) (by rintro _ _ ⟨_, -, -, rfl⟩; exact ⟨[], Keep.refl _ _, all0⟩) E_b13_20 at_339 (hw _ (List.mem_of_getElem? (i := 105) rfl)) (hw _ (List.mem_of_getElem? (i := 106) rfl)) (fun s hZ => notFace_of_selects (args := #[]) (mvT hZ (hw _ (List.mem_of_getElem? (i := 108) rfl)))) (hw _ (List.mem_of_getElem? (i := 108) rfl)) (hw _ (List.mem_of_getElem? (i := 107) rfl)) (hw _ (List.mem_of_getElem? (i := 25) rfl)) (hw _ (List.mem_of_getElem? (i := 109) rfl)) (by decide) pd__Ljava_lang_Object__Z rfl rfl rfl (by decide) (by show (0 : Nat) + (3 + 11) + 0 ≤ _; decide) (by decide) (by decide) (by decide) (by decide) (pc' := 342) rfl ?_
                        rintro _ _ ⟨_, rfl, rfl, rfl⟩ -
                        show RunW l Z own_EL n0 x.cls code maxLocals ret x.name room_1 _ 342 #[.val (.int p1), .val (.int p2), .val (.int p3), .val (.int p4), .val (.int p5), .val (.int p6), .val (.int ka), .val (.int kb), .val (.int v8), .val (.int v9), .val (.int (Int32.ofNat lA)), .val (.int (Int32.ofNat lB)), .val (.int v12), .val (.int v13), .val (.int lnA), .val (.int lnB), .val (.int x0), .val (.int x1), .val (.int y0), .val (.int y1), .val (.int (Int32.ofNat nA)), .val (.int (Int32.ofNat nB)), .val (.ref t11), .val (.ref t12), .val (.ref b13), .val (.ref b15), .val (.int e26), .val (.int e27), .val (.int (p6 &&& (3 : Int32))), .unset] [(.int (0 : Int32))] h20 vm16 17 143
                        refine RunW.if_ne at_342 (by decide) (pc' := 349) (by decide) (pa := 345) rfl (fun hc342 => ?_) (fun hc342 => ?_)
                        · -- pc 342 taken: ¬ (0 : Int32) = (0 : Int32)
                          exact absurd hc342 (by decide)
                        · -- pc 342 not taken: (0 : Int32) = (0 : Int32)
                          refine RunW.iconst (1 : Int32) at_345 (by decide) (pc' := 346) rfl ?_
                          refine RunW.goto at_346 (by decide) (pc' := 350) (by decide) ?_
                          exact RunW.nreturn at_350 (ty := .boolean) rfl (by simp) (by decide) (by decide) ⟨_, rfl, rfl⟩
                    · -- pc 308 not taken: (p6 &&& (3 : Int32)) = (1 : Int32)
                      refine RunW.aload at_311 rfl rfl (pc' := 313) rfl ?_
                      refine RunW.aconst at_313 (pc' := 314) rfl ?_
                      refine RunW.callV (k' := 16) (n' := 142) (a := b13) (as := [.null]) (rest := []) (con_ve0 l Z a0 hw n0 h16 sz16 b13 ) (by rintro _ _ ⟨_, -, -, rfl⟩; exact ⟨[], Keep.refl _ _, all0⟩) E_b13_16 at_314 (hw _ (List.mem_of_getElem? (i := 105) rfl)) (hw _ (List.mem_of_getElem? (i := 106) rfl)) (fun s hZ => notFace_of_selects (args := #[]) (mvT hZ (hw _ (List.mem_of_getElem? (i := 108) rfl)))) (hw _ (List.mem_of_getElem? (i := 108) rfl)) (hw _ (List.mem_of_getElem? (i := 107) rfl)) (hw _ (List.mem_of_getElem? (i := 25) rfl)) (hw _ (List.mem_of_getElem? (i := 109) rfl)) (by decide) pd__Ljava_lang_Object__Z rfl rfl rfl (by decide) (by show (0 : Nat) + (3 + 11) + 0 ≤ _; decide) (by decide) (by decide) (by decide) (by decide) (pc' := 317) rfl ?_
                      rintro _ _ ⟨_, rfl, rfl, rfl⟩ -
                      show RunW l Z own_EL n0 x.cls code maxLocals ret x.name room_1 _ 317 #[.val (.int p1), .val (.int p2), .val (.int p3), .val (.int p4), .val (.int p5), .val (.int p6), .val (.int ka), .val (.int kb), .val (.int v8), .val (.int v9), .val (.int (Int32.ofNat lA)), .val (.int (Int32.ofNat lB)), .val (.int v12), .val (.int v13), .val (.int lnA), .val (.int lnB), .val (.int x0), .val (.int x1), .val (.int y0), .val (.int y1), .val (.int (Int32.ofNat nA)), .val (.int (Int32.ofNat nB)), .val (.ref t11), .val (.ref t12), .val (.ref b13), .val (.ref b15), .val (.int e26), .val (.int e27), .val (.int (p6 &&& (3 : Int32))), .unset] [(.int (0 : Int32))] h16 vm16 16 142
                      refine RunW.if_ne at_317 (by decide) (pc' := 324) (by decide) (pa := 320) rfl (fun hc317 => ?_) (fun hc317 => ?_)
                      · -- pc 317 taken: ¬ (0 : Int32) = (0 : Int32)
                        exact absurd hc317 (by decide)
                      · -- pc 317 not taken: (0 : Int32) = (0 : Int32)
                        refine RunW.iconst (1 : Int32) at_320 (by decide) (pc' := 321) rfl ?_
                        refine RunW.goto at_321 (by decide) (pc' := 325) (by decide) ?_
                        exact RunW.nreturn at_325 (ty := .boolean) rfl (by simp) (by decide) (by decide) ⟨_, rfl, rfl⟩
                  refine RunW.iload at_273 rfl (pc' := 275) rfl ?_
                  refine RunW.iload at_275 rfl (pc' := 277) rfl ?_
                  refine RunW.icmp_ne at_277 (by decide) (pc' := 296) (by decide) (pa := 280) rfl (fun hc277 => ?_) (fun hc277 => ?_)
                  · -- pc 277 taken: ¬ ka = kb
                    refine RunW.iconst (0 : Int32) at_296 (by decide) (pc' := 297) rfl ?_
                    refine RunW.istore (l' := #[.val (.int p1), .val (.int p2), .val (.int p3), .val (.int p4), .val (.int p5), .val (.int p6), .val (.int ka), .val (.int kb), .val (.int v8), .val (.int v9), .val (.int (Int32.ofNat lA)), .val (.int (Int32.ofNat lB)), .val (.int v12), .val (.int v13), .val (.int lnA), .val (.int lnB), .val (.int x0), .val (.int x1), .val (.int y0), .val (.int y1), .val (.int (Int32.ofNat nA)), .val (.int (Int32.ofNat nB)), .val (.ref t11), .val (.ref t12), .val (.ref b13), .val (.ref b15), .val (.int e26), .val (.int (0 : Int32)), .unset, .unset]) at_297 rfl (pc' := 299) rfl ?_
                    exact J299 _ (by unfold own_veq; exact (if_neg (fun e => hc277 (own_kdI hk1 hk2 hk3 h_ka h_kb e.1))).symm)
                  · -- pc 277 not taken: ka = kb
                    refine RunW.iload at_280 rfl (pc' := 282) rfl ?_
                    refine RunW.iload at_282 rfl (pc' := 284) rfl ?_
                    refine RunW.icmp_ne at_284 (by decide) (pc' := 296) (by decide) (pa := 287) rfl (fun hc284 => ?_) (fun hc284 => ?_)
                    · -- pc 284 taken: ¬ lnA = lnB
                      refine RunW.iconst (0 : Int32) at_296 (by decide) (pc' := 297) rfl ?_
                      refine RunW.istore (l' := #[.val (.int p1), .val (.int p2), .val (.int p3), .val (.int p4), .val (.int p5), .val (.int p6), .val (.int ka), .val (.int kb), .val (.int v8), .val (.int v9), .val (.int (Int32.ofNat lA)), .val (.int (Int32.ofNat lB)), .val (.int v12), .val (.int v13), .val (.int lnA), .val (.int lnB), .val (.int x0), .val (.int x1), .val (.int y0), .val (.int y1), .val (.int (Int32.ofNat nA)), .val (.int (Int32.ofNat nB)), .val (.ref t11), .val (.ref t12), .val (.ref b13), .val (.ref b15), .val (.int e26), .val (.int (0 : Int32)), .unset, .unset]) at_297 rfl (pc' := 299) rfl ?_
                      exact J299 _ (by unfold own_veq; exact (if_neg (fun e => hc284 e.2.1)).symm)
                    · -- pc 284 not taken: lnA = lnB
                      refine RunW.iload at_287 rfl (pc' := 289) rfl ?_
                      refine RunW.if_eq at_289 (by decide) (pc' := 296) (by decide) (pa := 292) rfl (fun hc289 => ?_) (fun hc289 => ?_)
                      · -- pc 289 taken: e26 = (0 : Int32)
                        refine RunW.iconst (0 : Int32) at_296 (by decide) (pc' := 297) rfl ?_
                        refine RunW.istore (l' := #[.val (.int p1), .val (.int p2), .val (.int p3), .val (.int p4), .val (.int p5), .val (.int p6), .val (.int ka), .val (.int kb), .val (.int v8), .val (.int v9), .val (.int (Int32.ofNat lA)), .val (.int (Int32.ofNat lB)), .val (.int v12), .val (.int v13), .val (.int lnA), .val (.int lnB), .val (.int x0), .val (.int x1), .val (.int y0), .val (.int y1), .val (.int (Int32.ofNat nA)), .val (.int (Int32.ofNat nB)), .val (.ref t11), .val (.ref t12), .val (.ref b13), .val (.ref b15), .val (.int e26), .val (.int (0 : Int32)), .unset, .unset]) at_297 rfl (pc' := 299) rfl ?_
                        exact J299 _ (by unfold own_veq; exact (if_neg (fun e => own_eq0 (h_e26 ▸ hc289) e.2.2)).symm)
                      · -- pc 289 not taken: ¬ e26 = (0 : Int32)
                        refine RunW.iconst (1 : Int32) at_292 (by decide) (pc' := 293) rfl ?_
                        refine RunW.goto at_293 (by decide) (pc' := 297) (by decide) ?_
                        refine RunW.istore (l' := #[.val (.int p1), .val (.int p2), .val (.int p3), .val (.int p4), .val (.int p5), .val (.int p6), .val (.int ka), .val (.int kb), .val (.int v8), .val (.int v9), .val (.int (Int32.ofNat lA)), .val (.int (Int32.ofNat lB)), .val (.int v12), .val (.int v13), .val (.int lnA), .val (.int lnB), .val (.int x0), .val (.int x1), .val (.int y0), .val (.int y1), .val (.int (Int32.ofNat nA)), .val (.int (Int32.ofNat nB)), .val (.ref t11), .val (.ref t12), .val (.ref b13), .val (.ref b15), .val (.int e26), .val (.int (1 : Int32)), .unset, .unset]) at_297 rfl (pc' := 299) rfl ?_
                        exact J299 _ (by unfold own_veq; exact (if_pos ⟨by rw [hc277], hc284, own_eq1 (h_e26 ▸ hc289)⟩).symm)
                refine RunW.iload at_233 rfl (pc' := 235) rfl ?_
                refine RunW.iload at_235 rfl (pc' := 237) rfl ?_
                refine RunW.icmp_ne at_237 (by decide) (pc' := 270) (by decide) (pa := 240) rfl (fun hc237 => ?_) (fun hc237 => ?_)
                · -- pc 237 taken: ¬ (Int32.ofNat nA) = (Int32.ofNat nB)
                  refine RunW.iconst (0 : Int32) at_270 (by decide) (pc' := 271) rfl ?_
                  refine RunW.istore (l' := #[.val (.int p1), .val (.int p2), .val (.int p3), .val (.int p4), .val (.int p5), .val (.int p6), .val (.int ka), .val (.int kb), .val (.int v8), .val (.int v9), .val (.int (Int32.ofNat lA)), .val (.int (Int32.ofNat lB)), .val (.int v12), .val (.int v13), .val (.int lnA), .val (.int lnB), .val (.int x0), .val (.int x1), .val (.int y0), .val (.int y1), .val (.int (Int32.ofNat nA)), .val (.int (Int32.ofNat nB)), .val (.ref t11), .val (.ref t12), .val (.ref b13), .val (.ref b15), .val (.int (0 : Int32)), .unset, .unset, .unset]) at_271 rfl (pc' := 273) rfl ?_
                  exact J273 _ (by rw [own_eqT h_nA.1 h_nB.1]; exact (if_neg (fun e => hc237 e.1)).symm)
                · -- pc 237 not taken: (Int32.ofNat nA) = (Int32.ofNat nB)
                  refine RunW.iload at_240 rfl (pc' := 242) rfl ?_
                  refine RunW.iconst (1 : Int32) at_242 (by decide) (pc' := 243) rfl ?_
                  refine RunW.icmp_lt at_243 (by decide) (pc' := 253) (by decide) (pa := 246) rfl (fun hc243 => ?_) (fun hc243 => ?_)
                  · -- pc 243 taken: (Int32.ofNat nA) < (1 : Int32)
                    refine RunW.iload at_253 rfl (pc' := 255) rfl ?_
                    refine RunW.iconst (2 : Int32) at_255 (by decide) (pc' := 256) rfl ?_
                    refine RunW.icmp_lt at_256 (by decide) (pc' := 266) (by decide) (pa := 259) rfl (fun hc256 => ?_) (fun hc256 => ?_)
                    · -- pc 256 taken: (Int32.ofNat nA) < (2 : Int32)
                      refine RunW.iconst (1 : Int32) at_266 (by decide) (pc' := 267) rfl ?_
                      refine RunW.goto at_267 (by decide) (pc' := 271) (by decide) ?_
                      refine RunW.istore (l' := #[.val (.int p1), .val (.int p2), .val (.int p3), .val (.int p4), .val (.int p5), .val (.int p6), .val (.int ka), .val (.int kb), .val (.int v8), .val (.int v9), .val (.int (Int32.ofNat lA)), .val (.int (Int32.ofNat lB)), .val (.int v12), .val (.int v13), .val (.int lnA), .val (.int lnB), .val (.int x0), .val (.int x1), .val (.int y0), .val (.int y1), .val (.int (Int32.ofNat nA)), .val (.int (Int32.ofNat nB)), .val (.ref t11), .val (.ref t12), .val (.ref b13), .val (.ref b15), .val (.int (1 : Int32)), .unset, .unset, .unset]) at_271 rfl (pc' := 273) rfl ?_
                      exact J273 _ (by rw [own_eqT h_nA.1 h_nB.1]; exact (if_pos ⟨hc237, Or.inl hc243, Or.inl hc256⟩).symm)
                    · -- pc 256 not taken: ¬ (Int32.ofNat nA) < (2 : Int32)
                      exact absurd (own_lt12 hc243) hc256
                  · -- pc 243 not taken: ¬ (Int32.ofNat nA) < (1 : Int32)
                    refine RunW.iload at_246 rfl (pc' := 248) rfl ?_
                    refine RunW.iload at_248 rfl (pc' := 250) rfl ?_
                    refine RunW.icmp_ne at_250 (by decide) (pc' := 270) (by decide) (pa := 253) rfl (fun hc250 => ?_) (fun hc250 => ?_)
                    · -- pc 250 taken: ¬ x0 = y0
                      refine RunW.iconst (0 : Int32) at_270 (by decide) (pc' := 271) rfl ?_
                      refine RunW.istore (l' := #[.val (.int p1), .val (.int p2), .val (.int p3), .val (.int p4), .val (.int p5), .val (.int p6), .val (.int ka), .val (.int kb), .val (.int v8), .val (.int v9), .val (.int (Int32.ofNat lA)), .val (.int (Int32.ofNat lB)), .val (.int v12), .val (.int v13), .val (.int lnA), .val (.int lnB), .val (.int x0), .val (.int x1), .val (.int y0), .val (.int y1), .val (.int (Int32.ofNat nA)), .val (.int (Int32.ofNat nB)), .val (.ref t11), .val (.ref t12), .val (.ref b13), .val (.ref b15), .val (.int (0 : Int32)), .unset, .unset, .unset]) at_271 rfl (pc' := 273) rfl ?_
                      exact J273 _ (by rw [own_eqT h_nA.1 h_nB.1]; exact (if_neg (fun e => e.2.1.elim hc243 hc250)).symm)
                    · -- pc 250 not taken: x0 = y0
                      refine RunW.iload at_253 rfl (pc' := 255) rfl ?_
                      refine RunW.iconst (2 : Int32) at_255 (by decide) (pc' := 256) rfl ?_
                      refine RunW.icmp_lt at_256 (by decide) (pc' := 266) (by decide) (pa := 259) rfl (fun hc256 => ?_) (fun hc256 => ?_)
                      · -- pc 256 taken: (Int32.ofNat nA) < (2 : Int32)
                        refine RunW.iconst (1 : Int32) at_266 (by decide) (pc' := 267) rfl ?_
                        refine RunW.goto at_267 (by decide) (pc' := 271) (by decide) ?_
                        refine RunW.istore (l' := #[.val (.int p1), .val (.int p2), .val (.int p3), .val (.int p4), .val (.int p5), .val (.int p6), .val (.int ka), .val (.int kb), .val (.int v8), .val (.int v9), .val (.int (Int32.ofNat lA)), .val (.int (Int32.ofNat lB)), .val (.int v12), .val (.int v13), .val (.int lnA), .val (.int lnB), .val (.int x0), .val (.int x1), .val (.int y0), .val (.int y1), .val (.int (Int32.ofNat nA)), .val (.int (Int32.ofNat nB)), .val (.ref t11), .val (.ref t12), .val (.ref b13), .val (.ref b15), .val (.int (1 : Int32)), .unset, .unset, .unset]) at_271 rfl (pc' := 273) rfl ?_
                        exact J273 _ (by rw [own_eqT h_nA.1 h_nB.1]; exact (if_pos ⟨hc237, Or.inr hc250, Or.inl hc256⟩).symm)
                      · -- pc 256 not taken: ¬ (Int32.ofNat nA) < (2 : Int32)
                        refine RunW.iload at_259 rfl (pc' := 261) rfl ?_
                        refine RunW.iload at_261 rfl (pc' := 263) rfl ?_
                        refine RunW.icmp_ne at_263 (by decide) (pc' := 270) (by decide) (pa := 266) rfl (fun hc263 => ?_) (fun hc263 => ?_)
                        · -- pc 263 taken: ¬ x1 = y1
                          refine RunW.iconst (0 : Int32) at_270 (by decide) (pc' := 271) rfl ?_
                          refine RunW.istore (l' := #[.val (.int p1), .val (.int p2), .val (.int p3), .val (.int p4), .val (.int p5), .val (.int p6), .val (.int ka), .val (.int kb), .val (.int v8), .val (.int v9), .val (.int (Int32.ofNat lA)), .val (.int (Int32.ofNat lB)), .val (.int v12), .val (.int v13), .val (.int lnA), .val (.int lnB), .val (.int x0), .val (.int x1), .val (.int y0), .val (.int y1), .val (.int (Int32.ofNat nA)), .val (.int (Int32.ofNat nB)), .val (.ref t11), .val (.ref t12), .val (.ref b13), .val (.ref b15), .val (.int (0 : Int32)), .unset, .unset, .unset]) at_271 rfl (pc' := 273) rfl ?_
                          exact J273 _ (by rw [own_eqT h_nA.1 h_nB.1]; exact (if_neg (fun e => e.2.2.elim hc256 hc263)).symm)
                        · -- pc 263 not taken: x1 = y1
                          refine RunW.iconst (1 : Int32) at_266 (by decide) (pc' := 267) rfl ?_
                          refine RunW.goto at_267 (by decide) (pc' := 271) (by decide) ?_
                          refine RunW.istore (l' := #[.val (.int p1), .val (.int p2), .val (.int p3), .val (.int p4), .val (.int p5), .val (.int p6), .val (.int ka), .val (.int kb), .val (.int v8), .val (.int v9), .val (.int (Int32.ofNat lA)), .val (.int (Int32.ofNat lB)), .val (.int v12), .val (.int v13), .val (.int lnA), .val (.int lnB), .val (.int x0), .val (.int x1), .val (.int y0), .val (.int y1), .val (.int (Int32.ofNat nA)), .val (.int (Int32.ofNat nB)), .val (.ref t11), .val (.ref t12), .val (.ref b13), .val (.ref b15), .val (.int (1 : Int32)), .unset, .unset, .unset]) at_271 rfl (pc' := 273) rfl ?_
                          exact J273 _ (by rw [own_eqT h_nA.1 h_nB.1]; exact (if_pos ⟨hc237, Or.inr hc250, Or.inr hc263⟩).symm)
              refine RunW.iload at_161 rfl (pc' := 163) rfl ?_
              refine RunW.iconst (1 : Int32) at_163 (by decide) (pc' := 164) rfl ?_
              refine RunW.icmp_ne at_164 (by decide) (pc' := 172) (by decide) (pa := 167) rfl (fun hc164 => ?_) (fun hc164 => ?_)
              · -- pc 164 taken: ¬ kb = (1 : Int32)
                refine RunW.iconst (0 : Int32) at_172 (by decide) (pc' := 173) rfl ?_
                refine RunW.istore (l' := #[.val (.int p1), .val (.int p2), .val (.int p3), .val (.int p4), .val (.int p5), .val (.int p6), .val (.int ka), .val (.int kb), .val (.int v8), .val (.int v9), .val (.int (Int32.ofNat lA)), .val (.int (Int32.ofNat lB)), .val (.int v12), .val (.int v13), .val (.int lnA), .val (.int lnB), .val (.int x0), .val (.int x1), .val (.int y0), .val (.int y1), .val (.int (Int32.ofNat nA)), .val (.int (0 : Int32)), .unset, .unset, .unset, .unset, .unset, .unset, .unset, .unset]) at_173 rfl (pc' := 175) rfl ?_
                exact J175 0 ⟨by decide, fun e => absurd e hc164, fun _ => rfl⟩
              · -- pc 164 not taken: kb = (1 : Int32)
                refine RunW.iload at_167 rfl (pc' := 169) rfl ?_
                refine RunW.goto at_169 (by decide) (pc' := 173) (by decide) ?_
                refine RunW.istore (l' := #[.val (.int p1), .val (.int p2), .val (.int p3), .val (.int p4), .val (.int p5), .val (.int p6), .val (.int ka), .val (.int kb), .val (.int v8), .val (.int v9), .val (.int (Int32.ofNat lA)), .val (.int (Int32.ofNat lB)), .val (.int v12), .val (.int v13), .val (.int lnA), .val (.int lnB), .val (.int x0), .val (.int x1), .val (.int y0), .val (.int y1), .val (.int (Int32.ofNat nA)), .val (.int (Int32.ofNat lB)), .unset, .unset, .unset, .unset, .unset, .unset, .unset, .unset]) at_173 rfl (pc' := 175) rfl ?_
                exact J175 lB ⟨h_lB.2, fun _ => h_lB.1, fun e => absurd hc164 e⟩
            refine RunW.iload at_147 rfl (pc' := 149) rfl ?_
            refine RunW.iconst (1 : Int32) at_149 (by decide) (pc' := 150) rfl ?_
            refine RunW.icmp_ne at_150 (by decide) (pc' := 158) (by decide) (pa := 153) rfl (fun hc150 => ?_) (fun hc150 => ?_)
            · -- pc 150 taken: ¬ ka = (1 : Int32)
              refine RunW.iconst (0 : Int32) at_158 (by decide) (pc' := 159) rfl ?_
              refine RunW.istore (l' := #[.val (.int p1), .val (.int p2), .val (.int p3), .val (.int p4), .val (.int p5), .val (.int p6), .val (.int ka), .val (.int kb), .val (.int v8), .val (.int v9), .val (.int (Int32.ofNat lA)), .val (.int (Int32.ofNat lB)), .val (.int v12), .val (.int v13), .val (.int lnA), .val (.int lnB), .val (.int x0), .val (.int x1), .val (.int y0), .val (.int y1), .val (.int (0 : Int32)), .unset, .unset, .unset, .unset, .unset, .unset, .unset, .unset, .unset]) at_159 rfl (pc' := 161) rfl ?_
              exact J161 0 ⟨by decide, fun e => absurd e hc150, fun _ => rfl⟩
            · -- pc 150 not taken: ka = (1 : Int32)
              refine RunW.iload at_153 rfl (pc' := 155) rfl ?_
              refine RunW.goto at_155 (by decide) (pc' := 159) (by decide) ?_
              refine RunW.istore (l' := #[.val (.int p1), .val (.int p2), .val (.int p3), .val (.int p4), .val (.int p5), .val (.int p6), .val (.int ka), .val (.int kb), .val (.int v8), .val (.int v9), .val (.int (Int32.ofNat lA)), .val (.int (Int32.ofNat lB)), .val (.int v12), .val (.int v13), .val (.int lnA), .val (.int lnB), .val (.int x0), .val (.int x1), .val (.int y0), .val (.int y1), .val (.int (Int32.ofNat lA)), .unset, .unset, .unset, .unset, .unset, .unset, .unset, .unset, .unset]) at_159 rfl (pc' := 161) rfl ?_
              exact J161 lA ⟨h_lA.2, fun _ => h_lA.1, fun e => absurd hc150 e⟩
          refine RunW.iload at_91 rfl (pc' := 93) rfl ?_
          refine RunW.if_eq at_93 (by decide) (pc' := 100) (by decide) (pa := 96) rfl (fun hc93 => ?_) (fun hc93 => ?_)
          · -- pc 93 taken: v9 = (0 : Int32)
            refine RunW.iload at_100 rfl (pc' := 102) rfl ?_
            refine RunW.istore (l' := #[.val (.int p1), .val (.int p2), .val (.int p3), .val (.int p4), .val (.int p5), .val (.int p6), .val (.int ka), .val (.int kb), .val (.int v8), .val (.int v9), .val (.int (Int32.ofNat lA)), .val (.int (Int32.ofNat lB)), .val (.int v12), .val (.int p5), .unset, .unset, .unset, .unset, .unset, .unset, .unset, .unset, .unset, .unset, .unset, .unset, .unset, .unset, .unset, .unset]) at_102 rfl (pc' := 104) rfl ?_
            exact J104 _
          · -- pc 93 not taken: ¬ v9 = (0 : Int32)
            refine RunW.iloadN at_96 rfl (pc' := 97) rfl ?_
            refine RunW.goto at_97 (by decide) (pc' := 102) (by decide) ?_
            refine RunW.istore (l' := #[.val (.int p1), .val (.int p2), .val (.int p3), .val (.int p4), .val (.int p5), .val (.int p6), .val (.int ka), .val (.int kb), .val (.int v8), .val (.int v9), .val (.int (Int32.ofNat lA)), .val (.int (Int32.ofNat lB)), .val (.int v12), .val (.int p4), .unset, .unset, .unset, .unset, .unset, .unset, .unset, .unset, .unset, .unset, .unset, .unset, .unset, .unset, .unset, .unset]) at_102 rfl (pc' := 104) rfl ?_
            exact J104 _
        refine RunW.iload at_79 rfl (pc' := 81) rfl ?_
        refine RunW.if_eq at_81 (by decide) (pc' := 88) (by decide) (pa := 84) rfl (fun hc81 => ?_) (fun hc81 => ?_)
        · -- pc 81 taken: v8 = (0 : Int32)
          refine RunW.iloadN at_88 rfl (pc' := 89) rfl ?_
          refine RunW.istore (l' := #[.val (.int p1), .val (.int p2), .val (.int p3), .val (.int p4), .val (.int p5), .val (.int p6), .val (.int ka), .val (.int kb), .val (.int v8), .val (.int v9), .val (.int (Int32.ofNat lA)), .val (.int (Int32.ofNat lB)), .val (.int p3), .unset, .unset, .unset, .unset, .unset, .unset, .unset, .unset, .unset, .unset, .unset, .unset, .unset, .unset, .unset, .unset, .unset]) at_89 rfl (pc' := 91) rfl ?_
          exact J91 _
        · -- pc 81 not taken: ¬ v8 = (0 : Int32)
          refine RunW.iloadN at_84 rfl (pc' := 85) rfl ?_
          refine RunW.goto at_85 (by decide) (pc' := 89) (by decide) ?_
          refine RunW.istore (l' := #[.val (.int p1), .val (.int p2), .val (.int p3), .val (.int p4), .val (.int p5), .val (.int p6), .val (.int ka), .val (.int kb), .val (.int v8), .val (.int v9), .val (.int (Int32.ofNat lA)), .val (.int (Int32.ofNat lB)), .val (.int p2), .unset, .unset, .unset, .unset, .unset, .unset, .unset, .unset, .unset, .unset, .unset, .unset, .unset, .unset, .unset, .unset, .unset]) at_89 rfl (pc' := 91) rfl ?_
          exact J91 _
      refine RunW.iload at_59 rfl (pc' := 61) rfl ?_
      refine RunW.if_eq at_61 (by decide) (pc' := 69) (by decide) (pa := 64) rfl (fun hc61 => ?_) (fun hc61 => ?_)
      · -- pc 61 taken: v9 = (0 : Int32)
        refine RunW.iloadN at_69 rfl (pc' := 70) rfl ?_
        refine RunW.bipush (19 : Int32) at_70 (by decide) (pc' := 72) rfl ?_
        refine RunW.iushr at_72 (pc' := 73) rfl ?_
        refine RunW.iconst (1 : Int32) at_73 (by decide) (pc' := 74) rfl ?_
        refine RunW.iand at_74 (pc' := 75) rfl ?_
        refine RunW.iconst (1 : Int32) at_75 (by decide) (pc' := 76) rfl ?_
        refine RunW.iadd at_76 (pc' := 77) rfl ?_
        obtain ⟨lC, h_lC, e_lC⟩ := own_l12 (XT.ushr p1 (19 : Int32))
        rw [e_lC]
        refine RunW.istore (l' := #[.val (.int p1), .val (.int p2), .val (.int p3), .val (.int p4), .val (.int p5), .val (.int p6), .val (.int ka), .val (.int kb), .val (.int v8), .val (.int v9), .val (.int (Int32.ofNat lA)), .val (.int (Int32.ofNat lC)), .unset, .unset, .unset, .unset, .unset, .unset, .unset, .unset, .unset, .unset, .unset, .unset, .unset, .unset, .unset, .unset, .unset, .unset]) at_77 rfl (pc' := 79) rfl ?_
        exact J79 lC h_lC
      · -- pc 61 not taken: ¬ v9 = (0 : Int32)
        refine RunW.iload at_64 rfl (pc' := 66) rfl ?_
        refine RunW.goto at_66 (by decide) (pc' := 77) (by decide) ?_
        refine RunW.istore (l' := #[.val (.int p1), .val (.int p2), .val (.int p3), .val (.int p4), .val (.int p5), .val (.int p6), .val (.int ka), .val (.int kb), .val (.int v8), .val (.int v9), .val (.int (Int32.ofNat lA)), .val (.int (Int32.ofNat lA)), .unset, .unset, .unset, .unset, .unset, .unset, .unset, .unset, .unset, .unset, .unset, .unset, .unset, .unset, .unset, .unset, .unset, .unset]) at_77 rfl (pc' := 79) rfl ?_
        exact J79 lA h_lA
    refine RunW.iloadN at_35 rfl (pc' := 36) rfl ?_
    refine RunW.ldcI (v := (131072 : Int32)) at_36 (hw _ (List.mem_of_getElem? (i := 1) rfl)) (pc' := 38) rfl ?_
    refine RunW.iand at_38 (pc' := 39) rfl ?_
    refine RunW.if_eq at_39 (by decide) (pc' := 46) (by decide) (pa := 42) rfl (fun hc39 => ?_) (fun hc39 => ?_)
    · -- pc 39 taken: (p1 &&& (131072 : Int32)) = (0 : Int32)
      refine RunW.iconst (0 : Int32) at_46 (by decide) (pc' := 47) rfl ?_
      refine RunW.istore (l' := #[.val (.int p1), .val (.int p2), .val (.int p3), .val (.int p4), .val (.int p5), .val (.int p6), .val (.int ka), .val (.int kb), .val (.int v8), .val (.int (0 : Int32)), .unset, .unset, .unset, .unset, .unset, .unset, .unset, .unset, .unset, .unset, .unset, .unset, .unset, .unset, .unset, .unset, .unset, .unset, .unset, .unset]) at_47 rfl (pc' := 49) rfl ?_
      exact J49 _
    · -- pc 39 not taken: ¬ (p1 &&& (131072 : Int32)) = (0 : Int32)
      refine RunW.iconst (1 : Int32) at_42 (by decide) (pc' := 43) rfl ?_
      refine RunW.goto at_43 (by decide) (pc' := 47) (by decide) ?_
      refine RunW.istore (l' := #[.val (.int p1), .val (.int p2), .val (.int p3), .val (.int p4), .val (.int p5), .val (.int p6), .val (.int ka), .val (.int kb), .val (.int v8), .val (.int (1 : Int32)), .unset, .unset, .unset, .unset, .unset, .unset, .unset, .unset, .unset, .unset, .unset, .unset, .unset, .unset, .unset, .unset, .unset, .unset, .unset, .unset]) at_47 rfl (pc' := 49) rfl ?_
      exact J49 _
  refine RunW.iloadN at_21 rfl (pc' := 22) rfl ?_
  refine RunW.ldcI (v := (65536 : Int32)) at_22 (hw _ (List.mem_of_getElem? (i := 0) rfl)) (pc' := 24) rfl ?_
  refine RunW.iand at_24 (pc' := 25) rfl ?_
  refine RunW.if_eq at_25 (by decide) (pc' := 32) (by decide) (pa := 28) rfl (fun hc25 => ?_) (fun hc25 => ?_)
  · -- pc 25 taken: (p1 &&& (65536 : Int32)) = (0 : Int32)
    refine RunW.iconst (0 : Int32) at_32 (by decide) (pc' := 33) rfl ?_
    refine RunW.istore (l' := #[.val (.int p1), .val (.int p2), .val (.int p3), .val (.int p4), .val (.int p5), .val (.int p6), .val (.int ka), .val (.int kb), .val (.int (0 : Int32)), .unset, .unset, .unset, .unset, .unset, .unset, .unset, .unset, .unset, .unset, .unset, .unset, .unset, .unset, .unset, .unset, .unset, .unset, .unset, .unset, .unset]) at_33 rfl (pc' := 35) rfl ?_
    exact J35 _
  · -- pc 25 not taken: ¬ (p1 &&& (65536 : Int32)) = (0 : Int32)
    refine RunW.iconst (1 : Int32) at_28 (by decide) (pc' := 29) rfl ?_
    refine RunW.goto at_29 (by decide) (pc' := 33) (by decide) ?_
    refine RunW.istore (l' := #[.val (.int p1), .val (.int p2), .val (.int p3), .val (.int p4), .val (.int p5), .val (.int p6), .val (.int ka), .val (.int kb), .val (.int (1 : Int32)), .unset, .unset, .unset, .unset, .unset, .unset, .unset, .unset, .unset, .unset, .unset, .unset, .unset, .unset, .unset, .unset, .unset, .unset, .unset, .unset, .unset]) at_33 rfl (pc' := 35) rfl ?_
    exact J35 _
theorem own_el {args : Array Value} {s : State} {aa : Addr} {ca : Cell} {ty : FieldType} {t : Term} {j v : Int32} {n : Nat} (eaa : t.eval args s none [] s = some (.ref aa)) (A : Arr s s.heap aa ca ty) (hx : (Cond.eq (Term.elem t (Term.int j)) (Term.int v)).value args s none s [] = some true) (hn : j.toNatClampNeg = n) : ca.slots.toList[n]? = some (.int v) := by
  have e := eqv_i (Term.int_eval v) hx
  have q := (elem_in e eaa (Term.int_eval j) A.1).2
  rw [hn] at q; simpa using q
def own_tab : List (Nat × Int32) := [(33, 1744830488), (34, 1744830488), (35, 671088664), (36, 671113242), (37, 671088664), (38, 1744830488), (39, 1744830488), (40, -402653163), (41, -402653162), (42, 1744830488), (43, 536870937), (44, 939524120), (45, 536870932), (46, 939524120), (47, 939524120), (48, 402667017), (49, 402667017), (50, 402667017), (51, 402667017), (52, 402667017), (53, 402667017), (54, 402667017), (55, 402667017), (56, 402667017), (57, 402667017), (58, 939524120), (59, 1744830488), (60, -402653159), (61, 1744830489), (62, -402653159), (63, 1744830488), (64, 1744830488), (65, 8552417), (66, 8552417), (67, 8552417), (68, 8552417), (69, 8552417), (70, 8552417), (71, 8552417), (72, 8552417), (73, 8552417), (74, 8552417), (75, 8552417), (76, 8552417), (77, 8552417), (78, 8552417), (79, 8552417), (80, 8552417), (81, 8552417), (82, 8552417), (83, 8552417), (84, 8552417), (85, 8552417), (86, 8552417), (87, 8552417), (88, 8552417), (89, 8552417), (90, 8552417), (91, -402653163), (92, 1744830488), (93, -402653162), (94, 1744830491), (95, 1744850967), (96, 1744830491), (97, 8486882), (98, 8486882), (99, 8486882), (100, 8486882), (101, 8486882), (102, 8486882), (103, 8486882), (104, 8486882), (105, 8486882), (106, 8486882), (107, 8486882), (108, 8486882), (109, 8486882), (110, 8486882), (111, 8486882), (112, 8486882), (113, 8486882), (114, 8486882), (115, 8486882), (116, 8486882), (117, 8486882), (118, 8486882), (119, 8486882), (120, 8486882), (121, 8486882), (122, 8486882), (123, -402653163), (124, 1744830489), (125, -402653162), (126, 1744830489), (127, 1207963663), (128, 1207963663), (129, 1207963663), (130, 1207963663), (131, 1207963663), (132, 1207963663), (133, 1342181391), (134, 1207963663), (135, 1207963663), (136, 1207963663), (137, 1207963663), (138, 1207963663), (139, 1207963663), (140, 1207963663), (141, 1207963663), (142, 1207963663), (143, 1207963663), (144, 1207963663), (145, 1207963663), (146, 1207963663), (147, 1207963663), (148, 1207963663), (149, 1207963663), (150, 1207963663), (151, 1207963663), (152, 1207963663), (153, 1207963663), (154, 1207963663), (155, 1207963663), (156, 1207963663), (157, 1207963663), (158, 1207963663), (159, 1207963663), (160, 939524108), (161, 1744830488), (162, 671113242), (163, 671113242), (164, 671113242), (165, 671113242), (166, 1744830492), (167, 1744830488), (168, 1744830491), (169, 1744830492), (170, 28677), (171, -402653155), (172, 1744830489), (173, 1207963664), (174, 1744830492), (175, 1744830491), (176, 671088668), (177, 671088665), (178, 402654731), (179, 402654731), (180, 1744830491), (181, 134049794), (182, 1744830488), (183, 1744830488), (184, 1744830491), (185, 402654475), (186, 28677), (187, -402653154), (188, 1744832523), (189, 1744832523), (190, 1744832523), (191, 1744830488), (192, 8548353), (193, 8548353), (194, 8548353), (195, 8548353), (196, 8548353), (197, 8548353), (198, 8548353), (199, 8548353), (200, 8548353), (201, 8548353), (202, 8548353), (203, 8548353), (204, 8548353), (205, 8548353), (206, 8548353), (207, 8548353), (208, 8548353), (209, 8548353), (210, 8548353), (211, 8548353), (212, 8548353), (213, 8548353), (214, 8548353), (215, 1744830489), (216, 8548353), (217, 8548353), (218, 8548353), (219, 8548353), (220, 8548353), (221, 8548353), (222, 8548353), (223, 134049794), (224, 8482818), (225, 8482818), (226, 8482818), (227, 8482818), (228, 8482818), (229, 8482818), (230, 8482818), (231, 8482818), (232, 8482818), (233, 8482818), (234, 8482818), (235, 8482818), (236, 8482818), (237, 8482818), (238, 8482818), (239, 8482818), (240, 8482818), (241, 8482818), (242, 8482818), (243, 8482818), (244, 8482818), (245, 8482818), (246, 8482818), (247, 1744830489), (248, 8482818), (249, 8482818), (250, 8482818), (251, 8482818), (252, 8482818), (253, 8482818), (254, 8482818), (255, 102592514)]
set_option maxRecDepth 65536 in
theorem own_tabq : ∀ n : Nat, n < 256 → 33 ≤ n → ∃ p ∈ own_tab, p.1 = n ∧ ¬ (p.2 &&& (28672 : Int32)) = (16384 : Int32) := by decide +kernel
set_option maxRecDepth 65536 in
set_option maxHeartbeats 40000000 in
theorem comes_1 {Post : Tables → Env → Array Value → State → Outcome → State → Prop} (hpost : ∀ tb e args s v u, (limb_1_1.after args s (.returned v) u = true ∧ limb_1_2.after args s (.returned v) u = true ∧ True) → Jvm.D.FramedW s (.returned v) u (Jvm.fieldLocs frame_1_writes args s ++ Jvm.arrayLocs frame_1_arrays args s ++ Jvm.staticLocs frame_1_statics s) 40 3264 → Post tb e args s (.returned v) u) :
    ArmFor flags0 classFile x code maxLocals ret World_1 tables_1 room_1 Calls_1 rest_1 Pre_1 Post := by
  intro l hfl _ _ p e ha hc hk s m args below hf hA hF happ hP
  obtain ⟨hcalls, hrest, hpre⟩ := hP
  obtain ⟨-, -, -, hnamed, -, -, -, hat⟩ := (Spec.applies_iff hf).mp happ
  obtain ⟨hg, hn⟩ := and_e (Cond.before_iff.mp (show (Jvm.Cond.and given_1 narrow_1).before args s = true from hpre))
  obtain ⟨hcnt, g0⟩ := and_e hg
  obtain ⟨ga0, g1⟩ := and_e g0
  obtain ⟨ga1, g2⟩ := and_e g1
  obtain ⟨ga2, g3⟩ := and_e g2
  obtain ⟨ga3, g4⟩ := and_e g3
  obtain ⟨ga4, g5⟩ := and_e g4
  obtain ⟨w0, w1, w2, w3, w4, w5, rfl⟩ : ∃ w0 w1 w2 w3 w4 w5 : Value, args = #[w0, w1, w2, w3, w4, w5] := by
    have hs : args.size = 6 := by simpa [Cond.value, given_1] using hcnt
    obtain ⟨L⟩ := args
    match L, hs with
    | [w0, w1, w2, w3, w4, w5], _ => exact ⟨w0, w1, w2, w3, w4, w5, rfl⟩
  have hw := fun d (hd : d ∈ tables_1) => atoms_spec (ws := Jvm.Cond.code x code maxLocals ret :: tables_1) hat d (List.mem_cons_of_mem _ hd)
  obtain ⟨hsets, hown0⟩ := atoms_of _ (rest_1_c_eq ▸ (show rest_1_c.before _ s = true from hrest))
  have hr0 := Cond.before_iff.mp hown0
  have hfit : Fit s := fun {y c} hc i hi => by
    obtain ⟨ha, rfl⟩ := Array.getElem?_eq_some_iff.mp hc
    have q := List.all_eq_true.mp ((Array.all_eq_true_iff_forall_mem.mp hF) _ (Array.getElem_mem ha)) i (List.mem_range.mpr hi)
    simpa [Array.getElem?_eq_getElem hi] using q
  obtain ⟨i0, e0⟩ := is_v ga0
  obtain rfl : w0 = (.int i0) := Option.some.inj e0
  obtain ⟨i1, e1⟩ := is_v ga1
  obtain rfl : w1 = (.int i1) := Option.some.inj e1
  obtain ⟨i2, e2⟩ := is_v ga2
  obtain rfl : w2 = (.int i2) := Option.some.inj e2
  obtain ⟨i3, e3⟩ := is_v ga3
  obtain rfl : w3 = (.int i3) := Option.some.inj e3
  obtain ⟨i4, e4⟩ := is_v ga4
  obtain rfl : w4 = (.int i4) := Option.some.inj e4
  obtain ⟨i5, e5⟩ := is_v g5
  obtain rfl : w5 = (.int i5) := Option.some.inj e5
  obtain ⟨x0, y0⟩ := and_e hn
  obtain ⟨x1, y1⟩ := and_e y0
  obtain ⟨x2, y2⟩ := and_e y1
  obtain ⟨x3, y3⟩ := and_e y2
  obtain ⟨x4, x5⟩ := and_e y3
  obtain ⟨kv, ekv⟩ := exa_v x0
  have SV := Sta.start ekv (Or.inr ⟨(hw _ (List.mem_of_getElem? (i := 30) rfl)), (hw _ (List.mem_of_getElem? (i := 31) rfl))⟩)
  have okv := Fld.start ((fld_at ekv).symm.trans (eqv_i (Term.int_eval (0)) x2))
  obtain ⟨ki, eki⟩ := exa_v x1
  have SN := Sta.start eki (Or.inr ⟨(hw _ (List.mem_of_getElem? (i := 30) rfl)), (hw _ (List.mem_of_getElem? (i := 51) rfl))⟩)
  have oki := Fld.start ((fld_at eki).symm.trans (eqv_i (Term.int_eval (1)) x3))
  obtain ⟨ku, eku⟩ := exa_v x4
  have SU := Sta.start eku (Or.inr ⟨(hw _ (List.mem_of_getElem? (i := 30) rfl)), (hw _ (List.mem_of_getElem? (i := 199) rfl))⟩)
  have oku := Fld.start ((fld_at eku).symm.trans (eqv_i (Term.int_eval (2)) x5))
  have hk1 : kv ≠ ki := Fld.ne okv oki (by decide)
  have hk2 : kv ≠ ku := Fld.ne okv oku (by decide)
  have hk3 : ki ≠ ku := Fld.ne oki oku (by decide)
  obtain ⟨ci, eci⟩ := exa_v (Cond.before_iff.mp (hsets _ (List.mem_of_getElem? (i := 11) rfl)))
  have XI := Exa.start eci (Cond.before_iff.mp (hsets _ (List.mem_of_getElem? (i := 11) rfl)))
  have SI := Sta.start eci (Or.inl (hsets _ (List.mem_of_getElem? (i := 10) rfl)))
  obtain ⟨aa, eaa⟩ := arr_v (Cond.before_iff.mp (hsets _ (List.mem_of_getElem? (i := 14) rfl)))
  have SA := Sta.start eaa (Or.inl (hsets _ (List.mem_of_getElem? (i := 13) rfl)))
  obtain ⟨ca, ARA⟩ := Arr.start eaa (Cond.before_iff.mp (hsets _ (List.mem_of_getElem? (i := 14) rfl)))
  have TT : ∀ p ∈ own_tab, ca.slots.toList[p.1]? = some (.int p.2) := by
    unfold own_tab
    refine List.forall_mem_cons.mpr ⟨own_el eaa ARA (Cond.before_iff.mp (hsets _ (List.mem_of_getElem? (i := 50) rfl))) rfl, ?_⟩
    refine List.forall_mem_cons.mpr ⟨own_el eaa ARA (Cond.before_iff.mp (hsets _ (List.mem_of_getElem? (i := 51) rfl))) rfl, ?_⟩
    refine List.forall_mem_cons.mpr ⟨own_el eaa ARA (Cond.before_iff.mp (hsets _ (List.mem_of_getElem? (i := 52) rfl))) rfl, ?_⟩
    refine List.forall_mem_cons.mpr ⟨own_el eaa ARA (Cond.before_iff.mp (hsets _ (List.mem_of_getElem? (i := 53) rfl))) rfl, ?_⟩
    refine List.forall_mem_cons.mpr ⟨own_el eaa ARA (Cond.before_iff.mp (hsets _ (List.mem_of_getElem? (i := 54) rfl))) rfl, ?_⟩
    refine List.forall_mem_cons.mpr ⟨own_el eaa ARA (Cond.before_iff.mp (hsets _ (List.mem_of_getElem? (i := 55) rfl))) rfl, ?_⟩
    refine List.forall_mem_cons.mpr ⟨own_el eaa ARA (Cond.before_iff.mp (hsets _ (List.mem_of_getElem? (i := 56) rfl))) rfl, ?_⟩
    refine List.forall_mem_cons.mpr ⟨own_el eaa ARA (Cond.before_iff.mp (hsets _ (List.mem_of_getElem? (i := 57) rfl))) rfl, ?_⟩
    refine List.forall_mem_cons.mpr ⟨own_el eaa ARA (Cond.before_iff.mp (hsets _ (List.mem_of_getElem? (i := 58) rfl))) rfl, ?_⟩
    refine List.forall_mem_cons.mpr ⟨own_el eaa ARA (Cond.before_iff.mp (hsets _ (List.mem_of_getElem? (i := 59) rfl))) rfl, ?_⟩
    refine List.forall_mem_cons.mpr ⟨own_el eaa ARA (Cond.before_iff.mp (hsets _ (List.mem_of_getElem? (i := 60) rfl))) rfl, ?_⟩
    refine List.forall_mem_cons.mpr ⟨own_el eaa ARA (Cond.before_iff.mp (hsets _ (List.mem_of_getElem? (i := 61) rfl))) rfl, ?_⟩
    refine List.forall_mem_cons.mpr ⟨own_el eaa ARA (Cond.before_iff.mp (hsets _ (List.mem_of_getElem? (i := 62) rfl))) rfl, ?_⟩
    refine List.forall_mem_cons.mpr ⟨own_el eaa ARA (Cond.before_iff.mp (hsets _ (List.mem_of_getElem? (i := 63) rfl))) rfl, ?_⟩
    refine List.forall_mem_cons.mpr ⟨own_el eaa ARA (Cond.before_iff.mp (hsets _ (List.mem_of_getElem? (i := 64) rfl))) rfl, ?_⟩
    refine List.forall_mem_cons.mpr ⟨own_el eaa ARA (Cond.before_iff.mp (hsets _ (List.mem_of_getElem? (i := 65) rfl))) rfl, ?_⟩
    refine List.forall_mem_cons.mpr ⟨own_el eaa ARA (Cond.before_iff.mp (hsets _ (List.mem_of_getElem? (i := 66) rfl))) rfl, ?_⟩
    refine List.forall_mem_cons.mpr ⟨own_el eaa ARA (Cond.before_iff.mp (hsets _ (List.mem_of_getElem? (i := 67) rfl))) rfl, ?_⟩
    refine List.forall_mem_cons.mpr ⟨own_el eaa ARA (Cond.before_iff.mp (hsets _ (List.mem_of_getElem? (i := 68) rfl))) rfl, ?_⟩
    refine List.forall_mem_cons.mpr ⟨own_el eaa ARA (Cond.before_iff.mp (hsets _ (List.mem_of_getElem? (i := 69) rfl))) rfl, ?_⟩
    refine List.forall_mem_cons.mpr ⟨own_el eaa ARA (Cond.before_iff.mp (hsets _ (List.mem_of_getElem? (i := 70) rfl))) rfl, ?_⟩
    refine List.forall_mem_cons.mpr ⟨own_el eaa ARA (Cond.before_iff.mp (hsets _ (List.mem_of_getElem? (i := 71) rfl))) rfl, ?_⟩
    refine List.forall_mem_cons.mpr ⟨own_el eaa ARA (Cond.before_iff.mp (hsets _ (List.mem_of_getElem? (i := 72) rfl))) rfl, ?_⟩
    refine List.forall_mem_cons.mpr ⟨own_el eaa ARA (Cond.before_iff.mp (hsets _ (List.mem_of_getElem? (i := 73) rfl))) rfl, ?_⟩
    refine List.forall_mem_cons.mpr ⟨own_el eaa ARA (Cond.before_iff.mp (hsets _ (List.mem_of_getElem? (i := 74) rfl))) rfl, ?_⟩
    refine List.forall_mem_cons.mpr ⟨own_el eaa ARA (Cond.before_iff.mp (hsets _ (List.mem_of_getElem? (i := 75) rfl))) rfl, ?_⟩
    refine List.forall_mem_cons.mpr ⟨own_el eaa ARA (Cond.before_iff.mp (hsets _ (List.mem_of_getElem? (i := 76) rfl))) rfl, ?_⟩
    refine List.forall_mem_cons.mpr ⟨own_el eaa ARA (Cond.before_iff.mp (hsets _ (List.mem_of_getElem? (i := 77) rfl))) rfl, ?_⟩
    refine List.forall_mem_cons.mpr ⟨own_el eaa ARA (Cond.before_iff.mp (hsets _ (List.mem_of_getElem? (i := 78) rfl))) rfl, ?_⟩
    refine List.forall_mem_cons.mpr ⟨own_el eaa ARA (Cond.before_iff.mp (hsets _ (List.mem_of_getElem? (i := 79) rfl))) rfl, ?_⟩
    refine List.forall_mem_cons.mpr ⟨own_el eaa ARA (Cond.before_iff.mp (hsets _ (List.mem_of_getElem? (i := 80) rfl))) rfl, ?_⟩
    refine List.forall_mem_cons.mpr ⟨own_el eaa ARA (Cond.before_iff.mp (hsets _ (List.mem_of_getElem? (i := 81) rfl))) rfl, ?_⟩
    refine List.forall_mem_cons.mpr ⟨own_el eaa ARA (Cond.before_iff.mp (hsets _ (List.mem_of_getElem? (i := 82) rfl))) rfl, ?_⟩
    refine List.forall_mem_cons.mpr ⟨own_el eaa ARA (Cond.before_iff.mp (hsets _ (List.mem_of_getElem? (i := 83) rfl))) rfl, ?_⟩
    refine List.forall_mem_cons.mpr ⟨own_el eaa ARA (Cond.before_iff.mp (hsets _ (List.mem_of_getElem? (i := 84) rfl))) rfl, ?_⟩
    refine List.forall_mem_cons.mpr ⟨own_el eaa ARA (Cond.before_iff.mp (hsets _ (List.mem_of_getElem? (i := 85) rfl))) rfl, ?_⟩
    refine List.forall_mem_cons.mpr ⟨own_el eaa ARA (Cond.before_iff.mp (hsets _ (List.mem_of_getElem? (i := 86) rfl))) rfl, ?_⟩
    refine List.forall_mem_cons.mpr ⟨own_el eaa ARA (Cond.before_iff.mp (hsets _ (List.mem_of_getElem? (i := 87) rfl))) rfl, ?_⟩
    refine List.forall_mem_cons.mpr ⟨own_el eaa ARA (Cond.before_iff.mp (hsets _ (List.mem_of_getElem? (i := 88) rfl))) rfl, ?_⟩
    refine List.forall_mem_cons.mpr ⟨own_el eaa ARA (Cond.before_iff.mp (hsets _ (List.mem_of_getElem? (i := 89) rfl))) rfl, ?_⟩
    refine List.forall_mem_cons.mpr ⟨own_el eaa ARA (Cond.before_iff.mp (hsets _ (List.mem_of_getElem? (i := 90) rfl))) rfl, ?_⟩
    refine List.forall_mem_cons.mpr ⟨own_el eaa ARA (Cond.before_iff.mp (hsets _ (List.mem_of_getElem? (i := 91) rfl))) rfl, ?_⟩
    refine List.forall_mem_cons.mpr ⟨own_el eaa ARA (Cond.before_iff.mp (hsets _ (List.mem_of_getElem? (i := 92) rfl))) rfl, ?_⟩
    refine List.forall_mem_cons.mpr ⟨own_el eaa ARA (Cond.before_iff.mp (hsets _ (List.mem_of_getElem? (i := 93) rfl))) rfl, ?_⟩
    refine List.forall_mem_cons.mpr ⟨own_el eaa ARA (Cond.before_iff.mp (hsets _ (List.mem_of_getElem? (i := 94) rfl))) rfl, ?_⟩
    refine List.forall_mem_cons.mpr ⟨own_el eaa ARA (Cond.before_iff.mp (hsets _ (List.mem_of_getElem? (i := 95) rfl))) rfl, ?_⟩
    refine List.forall_mem_cons.mpr ⟨own_el eaa ARA (Cond.before_iff.mp (hsets _ (List.mem_of_getElem? (i := 96) rfl))) rfl, ?_⟩
    refine List.forall_mem_cons.mpr ⟨own_el eaa ARA (Cond.before_iff.mp (hsets _ (List.mem_of_getElem? (i := 97) rfl))) rfl, ?_⟩
    refine List.forall_mem_cons.mpr ⟨own_el eaa ARA (Cond.before_iff.mp (hsets _ (List.mem_of_getElem? (i := 98) rfl))) rfl, ?_⟩
    refine List.forall_mem_cons.mpr ⟨own_el eaa ARA (Cond.before_iff.mp (hsets _ (List.mem_of_getElem? (i := 99) rfl))) rfl, ?_⟩
    refine List.forall_mem_cons.mpr ⟨own_el eaa ARA (Cond.before_iff.mp (hsets _ (List.mem_of_getElem? (i := 100) rfl))) rfl, ?_⟩
    refine List.forall_mem_cons.mpr ⟨own_el eaa ARA (Cond.before_iff.mp (hsets _ (List.mem_of_getElem? (i := 101) rfl))) rfl, ?_⟩
    refine List.forall_mem_cons.mpr ⟨own_el eaa ARA (Cond.before_iff.mp (hsets _ (List.mem_of_getElem? (i := 102) rfl))) rfl, ?_⟩
    refine List.forall_mem_cons.mpr ⟨own_el eaa ARA (Cond.before_iff.mp (hsets _ (List.mem_of_getElem? (i := 103) rfl))) rfl, ?_⟩
    refine List.forall_mem_cons.mpr ⟨own_el eaa ARA (Cond.before_iff.mp (hsets _ (List.mem_of_getElem? (i := 104) rfl))) rfl, ?_⟩
    refine List.forall_mem_cons.mpr ⟨own_el eaa ARA (Cond.before_iff.mp (hsets _ (List.mem_of_getElem? (i := 105) rfl))) rfl, ?_⟩
    refine List.forall_mem_cons.mpr ⟨own_el eaa ARA (Cond.before_iff.mp (hsets _ (List.mem_of_getElem? (i := 106) rfl))) rfl, ?_⟩
    refine List.forall_mem_cons.mpr ⟨own_el eaa ARA (Cond.before_iff.mp (hsets _ (List.mem_of_getElem? (i := 107) rfl))) rfl, ?_⟩
    refine List.forall_mem_cons.mpr ⟨own_el eaa ARA (Cond.before_iff.mp (hsets _ (List.mem_of_getElem? (i := 108) rfl))) rfl, ?_⟩
    refine List.forall_mem_cons.mpr ⟨own_el eaa ARA (Cond.before_iff.mp (hsets _ (List.mem_of_getElem? (i := 109) rfl))) rfl, ?_⟩
    refine List.forall_mem_cons.mpr ⟨own_el eaa ARA (Cond.before_iff.mp (hsets _ (List.mem_of_getElem? (i := 110) rfl))) rfl, ?_⟩
    refine List.forall_mem_cons.mpr ⟨own_el eaa ARA (Cond.before_iff.mp (hsets _ (List.mem_of_getElem? (i := 111) rfl))) rfl, ?_⟩
    refine List.forall_mem_cons.mpr ⟨own_el eaa ARA (Cond.before_iff.mp (hsets _ (List.mem_of_getElem? (i := 112) rfl))) rfl, ?_⟩
    refine List.forall_mem_cons.mpr ⟨own_el eaa ARA (Cond.before_iff.mp (hsets _ (List.mem_of_getElem? (i := 113) rfl))) rfl, ?_⟩
    refine List.forall_mem_cons.mpr ⟨own_el eaa ARA (Cond.before_iff.mp (hsets _ (List.mem_of_getElem? (i := 114) rfl))) rfl, ?_⟩
    refine List.forall_mem_cons.mpr ⟨own_el eaa ARA (Cond.before_iff.mp (hsets _ (List.mem_of_getElem? (i := 115) rfl))) rfl, ?_⟩
    refine List.forall_mem_cons.mpr ⟨own_el eaa ARA (Cond.before_iff.mp (hsets _ (List.mem_of_getElem? (i := 116) rfl))) rfl, ?_⟩
    refine List.forall_mem_cons.mpr ⟨own_el eaa ARA (Cond.before_iff.mp (hsets _ (List.mem_of_getElem? (i := 117) rfl))) rfl, ?_⟩
    refine List.forall_mem_cons.mpr ⟨own_el eaa ARA (Cond.before_iff.mp (hsets _ (List.mem_of_getElem? (i := 118) rfl))) rfl, ?_⟩
    refine List.forall_mem_cons.mpr ⟨own_el eaa ARA (Cond.before_iff.mp (hsets _ (List.mem_of_getElem? (i := 119) rfl))) rfl, ?_⟩
    refine List.forall_mem_cons.mpr ⟨own_el eaa ARA (Cond.before_iff.mp (hsets _ (List.mem_of_getElem? (i := 120) rfl))) rfl, ?_⟩
    refine List.forall_mem_cons.mpr ⟨own_el eaa ARA (Cond.before_iff.mp (hsets _ (List.mem_of_getElem? (i := 121) rfl))) rfl, ?_⟩
    refine List.forall_mem_cons.mpr ⟨own_el eaa ARA (Cond.before_iff.mp (hsets _ (List.mem_of_getElem? (i := 122) rfl))) rfl, ?_⟩
    refine List.forall_mem_cons.mpr ⟨own_el eaa ARA (Cond.before_iff.mp (hsets _ (List.mem_of_getElem? (i := 123) rfl))) rfl, ?_⟩
    refine List.forall_mem_cons.mpr ⟨own_el eaa ARA (Cond.before_iff.mp (hsets _ (List.mem_of_getElem? (i := 124) rfl))) rfl, ?_⟩
    refine List.forall_mem_cons.mpr ⟨own_el eaa ARA (Cond.before_iff.mp (hsets _ (List.mem_of_getElem? (i := 125) rfl))) rfl, ?_⟩
    refine List.forall_mem_cons.mpr ⟨own_el eaa ARA (Cond.before_iff.mp (hsets _ (List.mem_of_getElem? (i := 126) rfl))) rfl, ?_⟩
    refine List.forall_mem_cons.mpr ⟨own_el eaa ARA (Cond.before_iff.mp (hsets _ (List.mem_of_getElem? (i := 127) rfl))) rfl, ?_⟩
    refine List.forall_mem_cons.mpr ⟨own_el eaa ARA (Cond.before_iff.mp (hsets _ (List.mem_of_getElem? (i := 128) rfl))) rfl, ?_⟩
    refine List.forall_mem_cons.mpr ⟨own_el eaa ARA (Cond.before_iff.mp (hsets _ (List.mem_of_getElem? (i := 129) rfl))) rfl, ?_⟩
    refine List.forall_mem_cons.mpr ⟨own_el eaa ARA (Cond.before_iff.mp (hsets _ (List.mem_of_getElem? (i := 130) rfl))) rfl, ?_⟩
    refine List.forall_mem_cons.mpr ⟨own_el eaa ARA (Cond.before_iff.mp (hsets _ (List.mem_of_getElem? (i := 131) rfl))) rfl, ?_⟩
    refine List.forall_mem_cons.mpr ⟨own_el eaa ARA (Cond.before_iff.mp (hsets _ (List.mem_of_getElem? (i := 132) rfl))) rfl, ?_⟩
    refine List.forall_mem_cons.mpr ⟨own_el eaa ARA (Cond.before_iff.mp (hsets _ (List.mem_of_getElem? (i := 133) rfl))) rfl, ?_⟩
    refine List.forall_mem_cons.mpr ⟨own_el eaa ARA (Cond.before_iff.mp (hsets _ (List.mem_of_getElem? (i := 134) rfl))) rfl, ?_⟩
    refine List.forall_mem_cons.mpr ⟨own_el eaa ARA (Cond.before_iff.mp (hsets _ (List.mem_of_getElem? (i := 135) rfl))) rfl, ?_⟩
    refine List.forall_mem_cons.mpr ⟨own_el eaa ARA (Cond.before_iff.mp (hsets _ (List.mem_of_getElem? (i := 136) rfl))) rfl, ?_⟩
    refine List.forall_mem_cons.mpr ⟨own_el eaa ARA (Cond.before_iff.mp (hsets _ (List.mem_of_getElem? (i := 137) rfl))) rfl, ?_⟩
    refine List.forall_mem_cons.mpr ⟨own_el eaa ARA (Cond.before_iff.mp (hsets _ (List.mem_of_getElem? (i := 138) rfl))) rfl, ?_⟩
    refine List.forall_mem_cons.mpr ⟨own_el eaa ARA (Cond.before_iff.mp (hsets _ (List.mem_of_getElem? (i := 139) rfl))) rfl, ?_⟩
    refine List.forall_mem_cons.mpr ⟨own_el eaa ARA (Cond.before_iff.mp (hsets _ (List.mem_of_getElem? (i := 140) rfl))) rfl, ?_⟩
    refine List.forall_mem_cons.mpr ⟨own_el eaa ARA (Cond.before_iff.mp (hsets _ (List.mem_of_getElem? (i := 141) rfl))) rfl, ?_⟩
    refine List.forall_mem_cons.mpr ⟨own_el eaa ARA (Cond.before_iff.mp (hsets _ (List.mem_of_getElem? (i := 142) rfl))) rfl, ?_⟩
    refine List.forall_mem_cons.mpr ⟨own_el eaa ARA (Cond.before_iff.mp (hsets _ (List.mem_of_getElem? (i := 143) rfl))) rfl, ?_⟩
    refine List.forall_mem_cons.mpr ⟨own_el eaa ARA (Cond.before_iff.mp (hsets _ (List.mem_of_getElem? (i := 144) rfl))) rfl, ?_⟩
    refine List.forall_mem_cons.mpr ⟨own_el eaa ARA (Cond.before_iff.mp (hsets _ (List.mem_of_getElem? (i := 145) rfl))) rfl, ?_⟩
    refine List.forall_mem_cons.mpr ⟨own_el eaa ARA (Cond.before_iff.mp (hsets _ (List.mem_of_getElem? (i := 146) rfl))) rfl, ?_⟩
    refine List.forall_mem_cons.mpr ⟨own_el eaa ARA (Cond.before_iff.mp (hsets _ (List.mem_of_getElem? (i := 147) rfl))) rfl, ?_⟩
    refine List.forall_mem_cons.mpr ⟨own_el eaa ARA (Cond.before_iff.mp (hsets _ (List.mem_of_getElem? (i := 148) rfl))) rfl, ?_⟩
    refine List.forall_mem_cons.mpr ⟨own_el eaa ARA (Cond.before_iff.mp (hsets _ (List.mem_of_getElem? (i := 149) rfl))) rfl, ?_⟩
    refine List.forall_mem_cons.mpr ⟨own_el eaa ARA (Cond.before_iff.mp (hsets _ (List.mem_of_getElem? (i := 150) rfl))) rfl, ?_⟩
    refine List.forall_mem_cons.mpr ⟨own_el eaa ARA (Cond.before_iff.mp (hsets _ (List.mem_of_getElem? (i := 151) rfl))) rfl, ?_⟩
    refine List.forall_mem_cons.mpr ⟨own_el eaa ARA (Cond.before_iff.mp (hsets _ (List.mem_of_getElem? (i := 152) rfl))) rfl, ?_⟩
    refine List.forall_mem_cons.mpr ⟨own_el eaa ARA (Cond.before_iff.mp (hsets _ (List.mem_of_getElem? (i := 153) rfl))) rfl, ?_⟩
    refine List.forall_mem_cons.mpr ⟨own_el eaa ARA (Cond.before_iff.mp (hsets _ (List.mem_of_getElem? (i := 154) rfl))) rfl, ?_⟩
    refine List.forall_mem_cons.mpr ⟨own_el eaa ARA (Cond.before_iff.mp (hsets _ (List.mem_of_getElem? (i := 155) rfl))) rfl, ?_⟩
    refine List.forall_mem_cons.mpr ⟨own_el eaa ARA (Cond.before_iff.mp (hsets _ (List.mem_of_getElem? (i := 156) rfl))) rfl, ?_⟩
    refine List.forall_mem_cons.mpr ⟨own_el eaa ARA (Cond.before_iff.mp (hsets _ (List.mem_of_getElem? (i := 157) rfl))) rfl, ?_⟩
    refine List.forall_mem_cons.mpr ⟨own_el eaa ARA (Cond.before_iff.mp (hsets _ (List.mem_of_getElem? (i := 158) rfl))) rfl, ?_⟩
    refine List.forall_mem_cons.mpr ⟨own_el eaa ARA (Cond.before_iff.mp (hsets _ (List.mem_of_getElem? (i := 159) rfl))) rfl, ?_⟩
    refine List.forall_mem_cons.mpr ⟨own_el eaa ARA (Cond.before_iff.mp (hsets _ (List.mem_of_getElem? (i := 160) rfl))) rfl, ?_⟩
    refine List.forall_mem_cons.mpr ⟨own_el eaa ARA (Cond.before_iff.mp (hsets _ (List.mem_of_getElem? (i := 161) rfl))) rfl, ?_⟩
    refine List.forall_mem_cons.mpr ⟨own_el eaa ARA (Cond.before_iff.mp (hsets _ (List.mem_of_getElem? (i := 162) rfl))) rfl, ?_⟩
    refine List.forall_mem_cons.mpr ⟨own_el eaa ARA (Cond.before_iff.mp (hsets _ (List.mem_of_getElem? (i := 163) rfl))) rfl, ?_⟩
    refine List.forall_mem_cons.mpr ⟨own_el eaa ARA (Cond.before_iff.mp (hsets _ (List.mem_of_getElem? (i := 164) rfl))) rfl, ?_⟩
    refine List.forall_mem_cons.mpr ⟨own_el eaa ARA (Cond.before_iff.mp (hsets _ (List.mem_of_getElem? (i := 165) rfl))) rfl, ?_⟩
    refine List.forall_mem_cons.mpr ⟨own_el eaa ARA (Cond.before_iff.mp (hsets _ (List.mem_of_getElem? (i := 166) rfl))) rfl, ?_⟩
    refine List.forall_mem_cons.mpr ⟨own_el eaa ARA (Cond.before_iff.mp (hsets _ (List.mem_of_getElem? (i := 167) rfl))) rfl, ?_⟩
    refine List.forall_mem_cons.mpr ⟨own_el eaa ARA (Cond.before_iff.mp (hsets _ (List.mem_of_getElem? (i := 168) rfl))) rfl, ?_⟩
    refine List.forall_mem_cons.mpr ⟨own_el eaa ARA (Cond.before_iff.mp (hsets _ (List.mem_of_getElem? (i := 169) rfl))) rfl, ?_⟩
    refine List.forall_mem_cons.mpr ⟨own_el eaa ARA (Cond.before_iff.mp (hsets _ (List.mem_of_getElem? (i := 170) rfl))) rfl, ?_⟩
    refine List.forall_mem_cons.mpr ⟨own_el eaa ARA (Cond.before_iff.mp (hsets _ (List.mem_of_getElem? (i := 171) rfl))) rfl, ?_⟩
    refine List.forall_mem_cons.mpr ⟨own_el eaa ARA (Cond.before_iff.mp (hsets _ (List.mem_of_getElem? (i := 172) rfl))) rfl, ?_⟩
    refine List.forall_mem_cons.mpr ⟨own_el eaa ARA (Cond.before_iff.mp (hsets _ (List.mem_of_getElem? (i := 173) rfl))) rfl, ?_⟩
    refine List.forall_mem_cons.mpr ⟨own_el eaa ARA (Cond.before_iff.mp (hsets _ (List.mem_of_getElem? (i := 174) rfl))) rfl, ?_⟩
    refine List.forall_mem_cons.mpr ⟨own_el eaa ARA (Cond.before_iff.mp (hsets _ (List.mem_of_getElem? (i := 175) rfl))) rfl, ?_⟩
    refine List.forall_mem_cons.mpr ⟨own_el eaa ARA (Cond.before_iff.mp (hsets _ (List.mem_of_getElem? (i := 176) rfl))) rfl, ?_⟩
    refine List.forall_mem_cons.mpr ⟨own_el eaa ARA (Cond.before_iff.mp (hsets _ (List.mem_of_getElem? (i := 177) rfl))) rfl, ?_⟩
    refine List.forall_mem_cons.mpr ⟨own_el eaa ARA (Cond.before_iff.mp (hsets _ (List.mem_of_getElem? (i := 178) rfl))) rfl, ?_⟩
    refine List.forall_mem_cons.mpr ⟨own_el eaa ARA (Cond.before_iff.mp (hsets _ (List.mem_of_getElem? (i := 179) rfl))) rfl, ?_⟩
    refine List.forall_mem_cons.mpr ⟨own_el eaa ARA (Cond.before_iff.mp (hsets _ (List.mem_of_getElem? (i := 180) rfl))) rfl, ?_⟩
    refine List.forall_mem_cons.mpr ⟨own_el eaa ARA (Cond.before_iff.mp (hsets _ (List.mem_of_getElem? (i := 181) rfl))) rfl, ?_⟩
    refine List.forall_mem_cons.mpr ⟨own_el eaa ARA (Cond.before_iff.mp (hsets _ (List.mem_of_getElem? (i := 182) rfl))) rfl, ?_⟩
    refine List.forall_mem_cons.mpr ⟨own_el eaa ARA (Cond.before_iff.mp (hsets _ (List.mem_of_getElem? (i := 183) rfl))) rfl, ?_⟩
    refine List.forall_mem_cons.mpr ⟨own_el eaa ARA (Cond.before_iff.mp (hsets _ (List.mem_of_getElem? (i := 184) rfl))) rfl, ?_⟩
    refine List.forall_mem_cons.mpr ⟨own_el eaa ARA (Cond.before_iff.mp (hsets _ (List.mem_of_getElem? (i := 185) rfl))) rfl, ?_⟩
    refine List.forall_mem_cons.mpr ⟨own_el eaa ARA (Cond.before_iff.mp (hsets _ (List.mem_of_getElem? (i := 186) rfl))) rfl, ?_⟩
    refine List.forall_mem_cons.mpr ⟨own_el eaa ARA (Cond.before_iff.mp (hsets _ (List.mem_of_getElem? (i := 187) rfl))) rfl, ?_⟩
    refine List.forall_mem_cons.mpr ⟨own_el eaa ARA (Cond.before_iff.mp (hsets _ (List.mem_of_getElem? (i := 188) rfl))) rfl, ?_⟩
    refine List.forall_mem_cons.mpr ⟨own_el eaa ARA (Cond.before_iff.mp (hsets _ (List.mem_of_getElem? (i := 189) rfl))) rfl, ?_⟩
    refine List.forall_mem_cons.mpr ⟨own_el eaa ARA (Cond.before_iff.mp (hsets _ (List.mem_of_getElem? (i := 190) rfl))) rfl, ?_⟩
    refine List.forall_mem_cons.mpr ⟨own_el eaa ARA (Cond.before_iff.mp (hsets _ (List.mem_of_getElem? (i := 191) rfl))) rfl, ?_⟩
    refine List.forall_mem_cons.mpr ⟨own_el eaa ARA (Cond.before_iff.mp (hsets _ (List.mem_of_getElem? (i := 192) rfl))) rfl, ?_⟩
    refine List.forall_mem_cons.mpr ⟨own_el eaa ARA (Cond.before_iff.mp (hsets _ (List.mem_of_getElem? (i := 193) rfl))) rfl, ?_⟩
    refine List.forall_mem_cons.mpr ⟨own_el eaa ARA (Cond.before_iff.mp (hsets _ (List.mem_of_getElem? (i := 194) rfl))) rfl, ?_⟩
    refine List.forall_mem_cons.mpr ⟨own_el eaa ARA (Cond.before_iff.mp (hsets _ (List.mem_of_getElem? (i := 195) rfl))) rfl, ?_⟩
    refine List.forall_mem_cons.mpr ⟨own_el eaa ARA (Cond.before_iff.mp (hsets _ (List.mem_of_getElem? (i := 196) rfl))) rfl, ?_⟩
    refine List.forall_mem_cons.mpr ⟨own_el eaa ARA (Cond.before_iff.mp (hsets _ (List.mem_of_getElem? (i := 197) rfl))) rfl, ?_⟩
    refine List.forall_mem_cons.mpr ⟨own_el eaa ARA (Cond.before_iff.mp (hsets _ (List.mem_of_getElem? (i := 198) rfl))) rfl, ?_⟩
    refine List.forall_mem_cons.mpr ⟨own_el eaa ARA (Cond.before_iff.mp (hsets _ (List.mem_of_getElem? (i := 199) rfl))) rfl, ?_⟩
    refine List.forall_mem_cons.mpr ⟨own_el eaa ARA (Cond.before_iff.mp (hsets _ (List.mem_of_getElem? (i := 200) rfl))) rfl, ?_⟩
    refine List.forall_mem_cons.mpr ⟨own_el eaa ARA (Cond.before_iff.mp (hsets _ (List.mem_of_getElem? (i := 201) rfl))) rfl, ?_⟩
    refine List.forall_mem_cons.mpr ⟨own_el eaa ARA (Cond.before_iff.mp (hsets _ (List.mem_of_getElem? (i := 202) rfl))) rfl, ?_⟩
    refine List.forall_mem_cons.mpr ⟨own_el eaa ARA (Cond.before_iff.mp (hsets _ (List.mem_of_getElem? (i := 203) rfl))) rfl, ?_⟩
    refine List.forall_mem_cons.mpr ⟨own_el eaa ARA (Cond.before_iff.mp (hsets _ (List.mem_of_getElem? (i := 204) rfl))) rfl, ?_⟩
    refine List.forall_mem_cons.mpr ⟨own_el eaa ARA (Cond.before_iff.mp (hsets _ (List.mem_of_getElem? (i := 205) rfl))) rfl, ?_⟩
    refine List.forall_mem_cons.mpr ⟨own_el eaa ARA (Cond.before_iff.mp (hsets _ (List.mem_of_getElem? (i := 206) rfl))) rfl, ?_⟩
    refine List.forall_mem_cons.mpr ⟨own_el eaa ARA (Cond.before_iff.mp (hsets _ (List.mem_of_getElem? (i := 207) rfl))) rfl, ?_⟩
    refine List.forall_mem_cons.mpr ⟨own_el eaa ARA (Cond.before_iff.mp (hsets _ (List.mem_of_getElem? (i := 208) rfl))) rfl, ?_⟩
    refine List.forall_mem_cons.mpr ⟨own_el eaa ARA (Cond.before_iff.mp (hsets _ (List.mem_of_getElem? (i := 209) rfl))) rfl, ?_⟩
    refine List.forall_mem_cons.mpr ⟨own_el eaa ARA (Cond.before_iff.mp (hsets _ (List.mem_of_getElem? (i := 210) rfl))) rfl, ?_⟩
    refine List.forall_mem_cons.mpr ⟨own_el eaa ARA (Cond.before_iff.mp (hsets _ (List.mem_of_getElem? (i := 211) rfl))) rfl, ?_⟩
    refine List.forall_mem_cons.mpr ⟨own_el eaa ARA (Cond.before_iff.mp (hsets _ (List.mem_of_getElem? (i := 212) rfl))) rfl, ?_⟩
    refine List.forall_mem_cons.mpr ⟨own_el eaa ARA (Cond.before_iff.mp (hsets _ (List.mem_of_getElem? (i := 213) rfl))) rfl, ?_⟩
    refine List.forall_mem_cons.mpr ⟨own_el eaa ARA (Cond.before_iff.mp (hsets _ (List.mem_of_getElem? (i := 214) rfl))) rfl, ?_⟩
    refine List.forall_mem_cons.mpr ⟨own_el eaa ARA (Cond.before_iff.mp (hsets _ (List.mem_of_getElem? (i := 215) rfl))) rfl, ?_⟩
    refine List.forall_mem_cons.mpr ⟨own_el eaa ARA (Cond.before_iff.mp (hsets _ (List.mem_of_getElem? (i := 216) rfl))) rfl, ?_⟩
    refine List.forall_mem_cons.mpr ⟨own_el eaa ARA (Cond.before_iff.mp (hsets _ (List.mem_of_getElem? (i := 217) rfl))) rfl, ?_⟩
    refine List.forall_mem_cons.mpr ⟨own_el eaa ARA (Cond.before_iff.mp (hsets _ (List.mem_of_getElem? (i := 218) rfl))) rfl, ?_⟩
    refine List.forall_mem_cons.mpr ⟨own_el eaa ARA (Cond.before_iff.mp (hsets _ (List.mem_of_getElem? (i := 219) rfl))) rfl, ?_⟩
    refine List.forall_mem_cons.mpr ⟨own_el eaa ARA (Cond.before_iff.mp (hsets _ (List.mem_of_getElem? (i := 220) rfl))) rfl, ?_⟩
    refine List.forall_mem_cons.mpr ⟨own_el eaa ARA (Cond.before_iff.mp (hsets _ (List.mem_of_getElem? (i := 221) rfl))) rfl, ?_⟩
    refine List.forall_mem_cons.mpr ⟨own_el eaa ARA (Cond.before_iff.mp (hsets _ (List.mem_of_getElem? (i := 222) rfl))) rfl, ?_⟩
    refine List.forall_mem_cons.mpr ⟨own_el eaa ARA (Cond.before_iff.mp (hsets _ (List.mem_of_getElem? (i := 223) rfl))) rfl, ?_⟩
    refine List.forall_mem_cons.mpr ⟨own_el eaa ARA (Cond.before_iff.mp (hsets _ (List.mem_of_getElem? (i := 224) rfl))) rfl, ?_⟩
    refine List.forall_mem_cons.mpr ⟨own_el eaa ARA (Cond.before_iff.mp (hsets _ (List.mem_of_getElem? (i := 225) rfl))) rfl, ?_⟩
    refine List.forall_mem_cons.mpr ⟨own_el eaa ARA (Cond.before_iff.mp (hsets _ (List.mem_of_getElem? (i := 226) rfl))) rfl, ?_⟩
    refine List.forall_mem_cons.mpr ⟨own_el eaa ARA (Cond.before_iff.mp (hsets _ (List.mem_of_getElem? (i := 227) rfl))) rfl, ?_⟩
    refine List.forall_mem_cons.mpr ⟨own_el eaa ARA (Cond.before_iff.mp (hsets _ (List.mem_of_getElem? (i := 228) rfl))) rfl, ?_⟩
    refine List.forall_mem_cons.mpr ⟨own_el eaa ARA (Cond.before_iff.mp (hsets _ (List.mem_of_getElem? (i := 229) rfl))) rfl, ?_⟩
    refine List.forall_mem_cons.mpr ⟨own_el eaa ARA (Cond.before_iff.mp (hsets _ (List.mem_of_getElem? (i := 230) rfl))) rfl, ?_⟩
    refine List.forall_mem_cons.mpr ⟨own_el eaa ARA (Cond.before_iff.mp (hsets _ (List.mem_of_getElem? (i := 231) rfl))) rfl, ?_⟩
    refine List.forall_mem_cons.mpr ⟨own_el eaa ARA (Cond.before_iff.mp (hsets _ (List.mem_of_getElem? (i := 232) rfl))) rfl, ?_⟩
    refine List.forall_mem_cons.mpr ⟨own_el eaa ARA (Cond.before_iff.mp (hsets _ (List.mem_of_getElem? (i := 233) rfl))) rfl, ?_⟩
    refine List.forall_mem_cons.mpr ⟨own_el eaa ARA (Cond.before_iff.mp (hsets _ (List.mem_of_getElem? (i := 234) rfl))) rfl, ?_⟩
    refine List.forall_mem_cons.mpr ⟨own_el eaa ARA (Cond.before_iff.mp (hsets _ (List.mem_of_getElem? (i := 235) rfl))) rfl, ?_⟩
    refine List.forall_mem_cons.mpr ⟨own_el eaa ARA (Cond.before_iff.mp (hsets _ (List.mem_of_getElem? (i := 236) rfl))) rfl, ?_⟩
    refine List.forall_mem_cons.mpr ⟨own_el eaa ARA (Cond.before_iff.mp (hsets _ (List.mem_of_getElem? (i := 237) rfl))) rfl, ?_⟩
    refine List.forall_mem_cons.mpr ⟨own_el eaa ARA (Cond.before_iff.mp (hsets _ (List.mem_of_getElem? (i := 238) rfl))) rfl, ?_⟩
    refine List.forall_mem_cons.mpr ⟨own_el eaa ARA (Cond.before_iff.mp (hsets _ (List.mem_of_getElem? (i := 239) rfl))) rfl, ?_⟩
    refine List.forall_mem_cons.mpr ⟨own_el eaa ARA (Cond.before_iff.mp (hsets _ (List.mem_of_getElem? (i := 240) rfl))) rfl, ?_⟩
    refine List.forall_mem_cons.mpr ⟨own_el eaa ARA (Cond.before_iff.mp (hsets _ (List.mem_of_getElem? (i := 241) rfl))) rfl, ?_⟩
    refine List.forall_mem_cons.mpr ⟨own_el eaa ARA (Cond.before_iff.mp (hsets _ (List.mem_of_getElem? (i := 242) rfl))) rfl, ?_⟩
    refine List.forall_mem_cons.mpr ⟨own_el eaa ARA (Cond.before_iff.mp (hsets _ (List.mem_of_getElem? (i := 243) rfl))) rfl, ?_⟩
    refine List.forall_mem_cons.mpr ⟨own_el eaa ARA (Cond.before_iff.mp (hsets _ (List.mem_of_getElem? (i := 244) rfl))) rfl, ?_⟩
    refine List.forall_mem_cons.mpr ⟨own_el eaa ARA (Cond.before_iff.mp (hsets _ (List.mem_of_getElem? (i := 245) rfl))) rfl, ?_⟩
    refine List.forall_mem_cons.mpr ⟨own_el eaa ARA (Cond.before_iff.mp (hsets _ (List.mem_of_getElem? (i := 246) rfl))) rfl, ?_⟩
    refine List.forall_mem_cons.mpr ⟨own_el eaa ARA (Cond.before_iff.mp (hsets _ (List.mem_of_getElem? (i := 247) rfl))) rfl, ?_⟩
    refine List.forall_mem_cons.mpr ⟨own_el eaa ARA (Cond.before_iff.mp (hsets _ (List.mem_of_getElem? (i := 248) rfl))) rfl, ?_⟩
    refine List.forall_mem_cons.mpr ⟨own_el eaa ARA (Cond.before_iff.mp (hsets _ (List.mem_of_getElem? (i := 249) rfl))) rfl, ?_⟩
    refine List.forall_mem_cons.mpr ⟨own_el eaa ARA (Cond.before_iff.mp (hsets _ (List.mem_of_getElem? (i := 250) rfl))) rfl, ?_⟩
    refine List.forall_mem_cons.mpr ⟨own_el eaa ARA (Cond.before_iff.mp (hsets _ (List.mem_of_getElem? (i := 251) rfl))) rfl, ?_⟩
    refine List.forall_mem_cons.mpr ⟨own_el eaa ARA (Cond.before_iff.mp (hsets _ (List.mem_of_getElem? (i := 252) rfl))) rfl, ?_⟩
    refine List.forall_mem_cons.mpr ⟨own_el eaa ARA (Cond.before_iff.mp (hsets _ (List.mem_of_getElem? (i := 253) rfl))) rfl, ?_⟩
    refine List.forall_mem_cons.mpr ⟨own_el eaa ARA (Cond.before_iff.mp (hsets _ (List.mem_of_getElem? (i := 254) rfl))) rfl, ?_⟩
    refine List.forall_mem_cons.mpr ⟨own_el eaa ARA (Cond.before_iff.mp (hsets _ (List.mem_of_getElem? (i := 255) rfl))) rfl, ?_⟩
    refine List.forall_mem_cons.mpr ⟨own_el eaa ARA (Cond.before_iff.mp (hsets _ (List.mem_of_getElem? (i := 256) rfl))) rfl, ?_⟩
    refine List.forall_mem_cons.mpr ⟨own_el eaa ARA (Cond.before_iff.mp (hsets _ (List.mem_of_getElem? (i := 257) rfl))) rfl, ?_⟩
    refine List.forall_mem_cons.mpr ⟨own_el eaa ARA (Cond.before_iff.mp (hsets _ (List.mem_of_getElem? (i := 258) rfl))) rfl, ?_⟩
    refine List.forall_mem_cons.mpr ⟨own_el eaa ARA (Cond.before_iff.mp (hsets _ (List.mem_of_getElem? (i := 259) rfl))) rfl, ?_⟩
    refine List.forall_mem_cons.mpr ⟨own_el eaa ARA (Cond.before_iff.mp (hsets _ (List.mem_of_getElem? (i := 260) rfl))) rfl, ?_⟩
    refine List.forall_mem_cons.mpr ⟨own_el eaa ARA (Cond.before_iff.mp (hsets _ (List.mem_of_getElem? (i := 261) rfl))) rfl, ?_⟩
    refine List.forall_mem_cons.mpr ⟨own_el eaa ARA (Cond.before_iff.mp (hsets _ (List.mem_of_getElem? (i := 262) rfl))) rfl, ?_⟩
    refine List.forall_mem_cons.mpr ⟨own_el eaa ARA (Cond.before_iff.mp (hsets _ (List.mem_of_getElem? (i := 263) rfl))) rfl, ?_⟩
    refine List.forall_mem_cons.mpr ⟨own_el eaa ARA (Cond.before_iff.mp (hsets _ (List.mem_of_getElem? (i := 264) rfl))) rfl, ?_⟩
    refine List.forall_mem_cons.mpr ⟨own_el eaa ARA (Cond.before_iff.mp (hsets _ (List.mem_of_getElem? (i := 265) rfl))) rfl, ?_⟩
    refine List.forall_mem_cons.mpr ⟨own_el eaa ARA (Cond.before_iff.mp (hsets _ (List.mem_of_getElem? (i := 266) rfl))) rfl, ?_⟩
    refine List.forall_mem_cons.mpr ⟨own_el eaa ARA (Cond.before_iff.mp (hsets _ (List.mem_of_getElem? (i := 267) rfl))) rfl, ?_⟩
    refine List.forall_mem_cons.mpr ⟨own_el eaa ARA (Cond.before_iff.mp (hsets _ (List.mem_of_getElem? (i := 268) rfl))) rfl, ?_⟩
    refine List.forall_mem_cons.mpr ⟨own_el eaa ARA (Cond.before_iff.mp (hsets _ (List.mem_of_getElem? (i := 269) rfl))) rfl, ?_⟩
    refine List.forall_mem_cons.mpr ⟨own_el eaa ARA (Cond.before_iff.mp (hsets _ (List.mem_of_getElem? (i := 270) rfl))) rfl, ?_⟩
    refine List.forall_mem_cons.mpr ⟨own_el eaa ARA (Cond.before_iff.mp (hsets _ (List.mem_of_getElem? (i := 271) rfl))) rfl, ?_⟩
    refine List.forall_mem_cons.mpr ⟨own_el eaa ARA (Cond.before_iff.mp (hsets _ (List.mem_of_getElem? (i := 272) rfl))) rfl, ?_⟩
    exact fun _ z => absurd z (by simp)
  have hprop : ∀ n : Nat, 33 ≤ n → n ≤ 255 → ∃ x : Int32, ca.slots.toList[n]? = some (.int x) ∧ ¬ (x &&& (28672 : Int32)) = (16384 : Int32) := fun n h1 h2 => by
    obtain ⟨p, hp, rfl, hq⟩ := own_tabq n (by omega) h1
    exact ⟨p.2, TT p hp, hq⟩
  obtain ⟨cz, evZ⟩ := is_v (Cond.before_iff.mp (hsets _ (List.mem_of_getElem? (i := 1) rfl)))
  have SZ := Sta.start evZ (Or.inl (hsets _ (List.mem_of_getElem? (i := 0) rfl)))
  have hcz : ¬ cz = (0 : Int32) := gotF (Cond.eq_ints evZ (Term.int_eval (0))) (not_v (Cond.before_iff.mp (hsets _ (List.mem_of_getElem? (i := 2) rfl))))
  have evH := eqv_i (Term.int_eval (127)) (Cond.before_iff.mp (hsets _ (List.mem_of_getElem? (i := 276) rfl)))
  have SH := Sta.start evH (Or.inl (hsets _ (List.mem_of_getElem? (i := 274) rfl)))
  obtain ⟨ac, evC⟩ := arr_v (Cond.before_iff.mp (hsets _ (List.mem_of_getElem? (i := 277) rfl)))
  have SC := Sta.start evC (Or.inr ⟨(hw _ (List.mem_of_getElem? (i := 172) rfl)), (hsets _ (List.mem_of_getElem? (i := 275) rfl))⟩)
  obtain ⟨cl, AC⟩ := Arr.start evC (Cond.before_iff.mp (hsets _ (List.mem_of_getElem? (i := 277) rfl)))
  have evL := eqv_i (Term.int_eval (256)) (Cond.before_iff.mp (hsets _ (List.mem_of_getElem? (i := 279) rfl)))
  have hsz := own_blen evC (AC.fin (Vm.Alike.refl _)) evL
  have BX := Bxs.start (z := 256) (val := fun j => .int (j - 128)) (fun _ => evC) AC (by omega) (by rw [hsz]; decide) (by decide) (Cond.before_iff.mp (hsets _ (List.mem_of_getElem? (i := 280) rfl))) (fun X j hj hX => eqv_i (own_sub hj) hX)
  have hcache := own_cache BX
  have hCH : CHv s own_EL s.vm s.heap := CHv.start (own_EW hw) (own_heldc hcalls) (hsets _ (List.mem_of_getElem? (i := 2) rfl)) (hw _ (List.mem_of_getElem? (i := 18) rfl)) (hw _ (List.mem_of_getElem? (i := 17) rfl))
  obtain ⟨n, o, h1, h2, h3, _, L, rfl, ⟨⟨_, rfl, rfl⟩, N⟩, -, hq⟩ := con0 l s _ hw s.heap.size s.heap (Nat.le_refl _) i0 i1 i2 i3 i4 i5 cz ci aa _ kv ki ku ac _ (Old.start s) SZ hcz SI XI SA ⟨ca, ARA, rfl⟩ hprop SV SN SU hk1 hk2 hk3 SH SC ⟨cl, AC, rfl⟩ hcache tables_1 p e ha hc hk s m _ below hf ((Spec.applies_iff_loose hf).mp happ).1 ⟨rfl, State.Warmed39.refl s, rfl, hCH, all0⟩ trivial
  refine ⟨n, _, h1, h2, h3, hpost _ _ _ _ _ _ ⟨Cond.after_iff.mpr rfl, Cond.after_iff.mpr (eq_i res_at (Term.int_eval (1)) rfl), trivial⟩ ⟨hq.1, hq.2.1, hq.2.2.1, (hq.2.2.2.sift fun y hy => Or.inr (N y hy)).mono (by decide) (by decide)⟩⟩
theorem main_1_1 : Claimed_1_1 := comes_1 fun _ _ _ _ _ _ h hF => ⟨h.1, hF⟩
theorem main_1_2 : Claimed_1_2 := comes_1 fun _ _ _ _ _ _ h hF => ⟨h.2.1, hF⟩
end Jvm.Pilot.@@N@@
namespace Jvm.Pilot.@@N@@
open Jvm Jvm.ClassFile Sem Op Lib Jvm.Free Jvm.Stand Jvm.Pilot.@@N@@.Jvm.D
/-! MADE BY PROGRAM (witnessworld.py) out of the Statement's table words and the real class files: 31 classes; the members and pool entries that the words name. The judged class is class 1, her method 1. -/
namespace start1
open Jvm.ClassFile
def u (s : String) : CpInfo := .utf8 (stringToUtf16 s)
/-- a pool by its gaps: so many unusable entries, then the entry; so many at the end -/
def gap : Nat → List CpInfo → List CpInfo
  | 0, r => r
  | n + 1, r => .unusable :: gap n r
def poolList (es : List (Nat × CpInfo)) (last : Nat) : List CpInfo := es.foldr (fun e r => gap e.1 (e.2 :: r)) (gap last [])
def pool (es : List (Nat × CpInfo)) (last : Nat) : Array CpInfo := ⟨poolList es last⟩
def fileOf (pool : Array CpInfo) (this : Nat) (attrs : Array Attribute := #[]) (ms : Array MethodInfo := #[]) (fl : Nat := 33) (sup : Nat := 0) (ifs : Array Nat := #[]) (fds : Array FieldInfo := #[]) : ClassFile where
  minorVersion := 0
  majorVersion := 65
  constantPool := pool
  accessFlags := fl
  thisClass := this
  superClass := sup
  interfaces := ifs
  fields := fds
  methods := ms
  attributes := attrs
def plain (name : String) (sup : Option ClassId) : Class where
  name := name
  kind := .ordinary
  loader := none
  accessFlags := 33
  super := sup
  interfaces := #[]
  cf := none
  fields := #[]
  methods := #[]
  instanceTypes := #[]
  staticTypes := #[]
  resolved := #[]
  callSites := []
  init := .initialized
  statics := none
  mirror := none

def pool0 : Array CpInfo := pool [(5, u "<init>"), (0, u "()V"), (1, .class_ 10), (1, u "java/lang/Object")] 113

def k0c0 : Code := { maxStack := 0, maxLocals := 1, code := object_method_1_code, exceptionTable := #[], attributes := #[] }
def k0m0 : Method := { name := "<init>", desc := "()V", sig := { parameters := [], returnType := none }, accessFlags := 1, code := some k0c0 }
/-- java/lang/Object -/
def k0 : Class := { plain "java/lang/Object" none with
  accessFlags := 33
  interfaces := #[]
  cf := some (fileOf pool0 8 #[] #[{ accessFlags := 1, nameIndex := 5, descriptorIndex := 6, attributes := #[] }] 33 0 #[] #[])
  fields := #[]
  methods := #[k0m0]
  instanceTypes := #[]
  staticTypes := #[]
  resolved := Array.replicate 124 none
  statics := none }

def pool1 : Array CpInfo := pool [(2, .class_ 4), (1, u "java/lang/Object"), (0, u "<init>"), (0, u "()V"), (0, .integer 65536), (0, .integer 131072), (0, .methodref 10 11), (0, .class_ 12), (0, .nameAndType 13 14), (0, u "com/example/wireform/wireform/rules/VerdictEqualsPinLaw"), (0, u "lineFor"), (0, u "(II)I"), (0, .methodref 10 16), (0, .nameAndType 17 18), (0, u "first"), (0, u "(I)I"), (0, .methodref 10 20), (0, .nameAndType 21 18), (0, u "second"), (0, .methodref 10 23), (0, .nameAndType 24 25), (0, u "nameFor"), (0, u "(III)Ljava/lang/String;"), (0, .class_ 27), (0, u "com/example/wireform/wireform/rules/Verdict"), (0, .methodref 10 29), (0, .nameAndType 30 31), (0, u "kindOf"), (0, u "(I)Lcom/example/wireform/wireform/rules/Verdict$Kind;"), (0, .methodref 26 33), (0, .nameAndType 5 34), (0, u "(Lcom/example/wireform/wireform/rules/Verdict$Kind;ILjava/lang/String;)V"), (0, .methodref 26 36), (0, .nameAndType 37 38), (0, u "equals"), (0, u "(Ljava/lang/Object;)Z"), (0, .methodref 40 41), (0, .class_ 42), (0, .nameAndType 43 44), (0, u "java/lang/Integer"), (0, u "valueOf"), (0, u "(I)Ljava/lang/Integer;"), (0, .fieldref 46 47), (0, .class_ 48), (0, .nameAndType 49 50), (0, u "com/example/wireform/wireform/rules/Verdict$Kind"), (0, u "VALID"), (0, u "Lcom/example/wireform/wireform/rules/Verdict$Kind;"), (0, .fieldref 46 52), (0, .nameAndType 53 50), (0, u "INVALID"), (0, .fieldref 46 55), (0, .nameAndType 56 50), (0, u "UNDELIVERABLE"), (0, .integer 2147483647), (0, .methodref 59 60), (0, .class_ 61), (0, .nameAndType 62 14), (0, u "java/lang/Math"), (0, u "max"), (0, .string 64), (0, u ""), (0, .methodref 66 67), (0, .class_ 68), (0, .nameAndType 43 69), (0, u "java/lang/String"), (0, u "(C)Ljava/lang/String;"), (0, .methodref 66 71), (0, .nameAndType 5 72), (0, u "([C)V"), (2, u "law"), (0, u "(IIIIII)Z")] 5

def k1m0 : Method := { name := "<init>", desc := "()V", sig := { parameters := [], returnType := none }, accessFlags := 1, code := none }
def k1c1 : Code := { maxStack := 7, maxLocals := 30, code := code, exceptionTable := #[], attributes := #[] }
def k1m1 : Method := { name := "law", desc := "(IIIIII)Z", sig := { parameters := [.int, .int, .int, .int, .int, .int], returnType := some .boolean }, accessFlags := 9, code := some k1c1 }
def k1c2 : Code := { maxStack := 2, maxLocals := 1, code := method_3_code, exceptionTable := #[], attributes := #[] }
def k1m2 : Method := { name := "kindOf", desc := "(I)Lcom/example/wireform/wireform/rules/Verdict$Kind;", sig := { parameters := [.int], returnType := some (.object "com/example/wireform/wireform/rules/Verdict$Kind") }, accessFlags := 10, code := some k1c2 }
def k1c3 : Code := { maxStack := 3, maxLocals := 2, code := method_4_code, exceptionTable := #[], attributes := #[] }
def k1m3 : Method := { name := "lineFor", desc := "(II)I", sig := { parameters := [.int, .int], returnType := some .int }, accessFlags := 10, code := some k1c3 }
def k1c4 : Code := { maxStack := 3, maxLocals := 1, code := method_5_code, exceptionTable := #[], attributes := #[] }
def k1m4 : Method := { name := "first", desc := "(I)I", sig := { parameters := [.int], returnType := some .int }, accessFlags := 10, code := some k1c4 }
def k1c5 : Code := { maxStack := 2, maxLocals := 2, code := method_6_code, exceptionTable := #[], attributes := #[] }
def k1m5 : Method := { name := "second", desc := "(I)I", sig := { parameters := [.int], returnType := some .int }, accessFlags := 10, code := some k1c5 }
def k1c6 : Code := { maxStack := 3, maxLocals := 4, code := method_7_code, exceptionTable := #[], attributes := #[] }
def k1m6 : Method := { name := "nameFor", desc := "(III)Ljava/lang/String;", sig := { parameters := [.int, .int, .int], returnType := some (.object "java/lang/String") }, accessFlags := 10, code := some k1c6 }
/-- com/example/wireform/wireform/rules/VerdictEqualsPinLaw -/
def k1 : Class := { plain "com/example/wireform/wireform/rules/VerdictEqualsPinLaw" (some 0) with
  accessFlags := 49
  interfaces := #[]
  cf := some (fileOf pool1 10 #[] #[{ accessFlags := 1, nameIndex := 5, descriptorIndex := 6, attributes := #[] }, { accessFlags := 9, nameIndex := 75, descriptorIndex := 76, attributes := #[] }, { accessFlags := 10, nameIndex := 30, descriptorIndex := 31, attributes := #[] }, { accessFlags := 10, nameIndex := 13, descriptorIndex := 14, attributes := #[] }, { accessFlags := 10, nameIndex := 17, descriptorIndex := 18, attributes := #[] }, { accessFlags := 10, nameIndex := 21, descriptorIndex := 18, attributes := #[] }, { accessFlags := 10, nameIndex := 24, descriptorIndex := 25, attributes := #[] }] 49 2 #[] #[])
  fields := #[]
  methods := #[k1m0, k1m1, k1m2, k1m3, k1m4, k1m5, k1m6]
  instanceTypes := #[]
  staticTypes := #[]
  resolved := Array.replicate 82 none
  statics := none }

def pool2 : Array CpInfo := pool [(1, .class_ 2), (0, u "java/io/Serializable"), (0, .class_ 4), (0, u "java/lang/Object")] 2

/-- java/io/Serializable -/
def k2 : Class := { plain "java/io/Serializable" (some 0) with
  accessFlags := 1537
  interfaces := #[]
  cf := some (fileOf pool2 1 #[] #[] 1537 3 #[] #[])
  fields := #[]
  methods := #[]
  instanceTypes := #[]
  staticTypes := #[]
  resolved := Array.replicate 7 none
  statics := none }

def pool3 : Array CpInfo := pool [(1, .class_ 2), (0, u "java/lang/Comparable"), (0, .class_ 4), (0, u "java/lang/Object")] 7

/-- java/lang/Comparable -/
def k3 : Class := { plain "java/lang/Comparable" (some 0) with
  accessFlags := 1537
  interfaces := #[]
  cf := some (fileOf pool3 1 #[] #[] 1537 3 #[] #[])
  fields := #[]
  methods := #[]
  instanceTypes := #[]
  staticTypes := #[]
  resolved := Array.replicate 12 none
  statics := none }

def pool4 : Array CpInfo := pool [(2, .class_ 4), (1, u "java/lang/CharSequence"), (42, .class_ 48), (0, u "java/lang/CharSequence$1CodePointIterator"), (10, .class_ 60), (0, u "java/lang/CharSequence$1CharIterator"), (5, .class_ 67), (0, u "java/lang/Object")] 63

/-- java/lang/CharSequence -/
def k4 : Class := { plain "java/lang/CharSequence" (some 0) with
  accessFlags := 1537
  interfaces := #[]
  cf := some (fileOf pool4 2 #[.nestMembers #[47, 59]] #[] 1537 66 #[] #[])
  fields := #[]
  methods := #[]
  instanceTypes := #[]
  staticTypes := #[]
  resolved := Array.replicate 131 none
  statics := none }

def pool5 : Array CpInfo := pool [(1, .class_ 2), (0, u "java/lang/constant/Constable"), (0, .class_ 4), (0, u "java/lang/Object")] 6

/-- java/lang/constant/Constable -/
def k5 : Class := { plain "java/lang/constant/Constable" (some 0) with
  accessFlags := 1537
  interfaces := #[]
  cf := some (fileOf pool5 1 #[] #[] 1537 3 #[] #[])
  fields := #[]
  methods := #[]
  instanceTypes := #[]
  staticTypes := #[]
  resolved := Array.replicate 11 none
  statics := none }

def pool6 : Array CpInfo := pool [(1, .class_ 2), (0, u "java/lang/constant/ConstantDesc"), (0, .class_ 4), (0, u "java/lang/Object")] 32

/-- java/lang/constant/ConstantDesc -/
def k6 : Class := { plain "java/lang/constant/ConstantDesc" (some 0) with
  accessFlags := 1537
  interfaces := #[]
  cf := some (fileOf pool6 1 #[] #[] 1537 3 #[] #[])
  fields := #[]
  methods := #[]
  instanceTypes := #[]
  staticTypes := #[]
  resolved := Array.replicate 37 none
  statics := none }

def pool7 : Array CpInfo := pool [(1, .methodref 2 3), (0, .class_ 4), (0, .nameAndType 5 6), (0, u "java/lang/Object"), (0, u "<init>"), (0, u "()V"), (2, .fieldref 10 11), (0, .class_ 12), (0, .nameAndType 13 14), (0, u "java/lang/String"), (0, u "value"), (0, u "[B"), (0, .fieldref 10 16), (0, .nameAndType 17 18), (0, u "coder"), (0, u "B"), (2, u "hash"), (0, u "I"), (2, u "hashIsZero"), (0, u "Z"), (0, .methodref 10 28), (0, .nameAndType 5 29), (0, u "([CIILjava/lang/Void;)V"), (8, .fieldref 10 39), (0, .nameAndType 40 26), (0, u "COMPACT_STRINGS"), (1, .class_ 44), (1, u "java/lang/StringUTF16"), (0, u "compress"), (1, .methodref 42 48), (0, .nameAndType 49 50), (0, u "coderFromArrayLen"), (0, u "([BI)B"), (2, u "toBytes"), (53, .class_ 109), (1, u "java/lang/StringLatin1"), (32, u "()Z"), (34, .methodref 42 178), (0, .nameAndType 45 179), (0, u "([CII)[B"), (29, .methodref 10 210), (0, .nameAndType 5 211), (0, u "([BB)V"), (122, u "()I"), (0, .methodref 10 336), (0, .nameAndType 17 337), (0, u "()B"), (31, u "(C)Z"), (122, .methodref 10 493), (0, .nameAndType 494 142), (0, u "isLatin1"), (10, .methodref 10 506), (0, .nameAndType 507 334), (0, u "length"), (33, .methodref 107 542), (0, .nameAndType 543 544), (0, u "equals"), (0, u "([B[B)Z"), (28, u "(Ljava/lang/Object;)Z"), (1, .class_ 576), (0, u "java/lang/CharSequence"), (22, u "CASE_INSENSITIVE_ORDER"), (0, u "Ljava/util/Comparator;"), (30, u "([B)I"), (1, .methodref 10 634), (0, .nameAndType 635 636), (0, u "indexOf"), (0, u "(II)I"), (0, .methodref 107 638), (0, .nameAndType 635 639), (0, u "([BIII)I"), (52, u "isEmpty"), (72, u "(I)I"), (16, u "valueOf"), (0, u "(C)Ljava/lang/String;"), (92, .methodref 10 877), (0, .nameAndType 878 334), (0, u "indexOfNonWhitespace"), (45, .methodref 107 925), (0, .nameAndType 878 631), (26, u "isBlank"), (57, u "([C)V"), (4, .methodref 107 1016), (0, .nameAndType 1017 369), (0, u "canEncode"), (0, .methodref 107 1019), (0, .nameAndType 53 1020), (0, u "(C)[B"), (80, u "serialPersistentFields"), (0, u "[Ljava/io/ObjectStreamField;"), (0, .class_ 1104), (0, u "java/lang/String$CaseInsensitiveComparator"), (1, .class_ 1107), (0, u "java/io/Serializable"), (0, .class_ 1109), (0, u "java/lang/Comparable"), (0, .class_ 1111), (0, u "java/lang/constant/Constable"), (0, .class_ 1113), (0, u "java/lang/constant/ConstantDesc"), (2, u "serialVersionUID"), (0, u "J"), (3, u "REPL"), (0, u "C"), (2, u "LATIN1"), (1, u "UTF16")] 323

def k7m0 : Method := { name := "<init>", desc := "()V", sig := { parameters := [], returnType := none }, accessFlags := 1, code := none }
def k7c1 : Code := { maxStack := 5, maxLocals := 2, code := jdk_42_method_3_code, exceptionTable := #[], attributes := #[] }
def k7m1 : Method := { name := "<init>", desc := "([C)V", sig := { parameters := [(.array .char)], returnType := none }, accessFlags := 1, code := some k7c1 }
def k7c2 : Code := { maxStack := 2, maxLocals := 1, code := jdk_42_method_54_code, exceptionTable := #[], attributes := #[] }
def k7m2 : Method := { name := "length", desc := "()I", sig := { parameters := [], returnType := some .int }, accessFlags := 1, code := some k7c2 }
def k7c3 : Code := { maxStack := 1, maxLocals := 1, code := jdk_42_method_55_code, exceptionTable := #[], attributes := #[] }
def k7m3 : Method := { name := "isEmpty", desc := "()Z", sig := { parameters := [], returnType := some .boolean }, accessFlags := 1, code := some k7c3 }
def k7c4 : Code := { maxStack := 2, maxLocals := 3, code := jdk_42_method_66_code, exceptionTable := #[], attributes := #[] }
def k7m4 : Method := { name := "equals", desc := "(Ljava/lang/Object;)Z", sig := { parameters := [(.object "java/lang/Object")], returnType := some .boolean }, accessFlags := 1, code := some k7c4 }
def k7c5 : Code := { maxStack := 3, maxLocals := 2, code := jdk_42_method_79_code, exceptionTable := #[], attributes := #[] }
def k7m5 : Method := { name := "indexOf", desc := "(I)I", sig := { parameters := [.int], returnType := some .int }, accessFlags := 1, code := some k7c5 }
def k7c6 : Code := { maxStack := 4, maxLocals := 3, code := jdk_42_method_80_code, exceptionTable := #[], attributes := #[] }
def k7m6 : Method := { name := "indexOf", desc := "(II)I", sig := { parameters := [.int, .int], returnType := some .int }, accessFlags := 1, code := some k7c6 }
def k7c7 : Code := { maxStack := 2, maxLocals := 1, code := jdk_42_method_117_code, exceptionTable := #[], attributes := #[] }
def k7m7 : Method := { name := "isBlank", desc := "()Z", sig := { parameters := [], returnType := some .boolean }, accessFlags := 1, code := some k7c7 }
def k7c8 : Code := { maxStack := 1, maxLocals := 1, code := jdk_42_method_120_code, exceptionTable := #[], attributes := #[] }
def k7m8 : Method := { name := "indexOfNonWhitespace", desc := "()I", sig := { parameters := [], returnType := some .int }, accessFlags := 2, code := some k7c8 }
def k7c9 : Code := { maxStack := 4, maxLocals := 1, code := jdk_42_method_139_code, exceptionTable := #[], attributes := #[] }
def k7m9 : Method := { name := "valueOf", desc := "(C)Ljava/lang/String;", sig := { parameters := [.char], returnType := some (.object "java/lang/String") }, accessFlags := 9, code := some k7c9 }
def k7c10 : Code := { maxStack := 4, maxLocals := 6, code := jdk_42_method_149_code, exceptionTable := #[], attributes := #[] }
def k7m10 : Method := { name := "<init>", desc := "([CIILjava/lang/Void;)V", sig := { parameters := [(.array .char), .int, .int, (.object "java/lang/Void")], returnType := none }, accessFlags := 2, code := some k7c10 }
def k7c11 : Code := { maxStack := 2, maxLocals := 3, code := jdk_42_method_151_code, exceptionTable := #[], attributes := #[] }
def k7m11 : Method := { name := "<init>", desc := "([BB)V", sig := { parameters := [(.array .byte), .byte], returnType := none }, accessFlags := 0, code := some k7c11 }
def k7c12 : Code := { maxStack := 1, maxLocals := 1, code := jdk_42_method_152_code, exceptionTable := #[], attributes := #[] }
def k7m12 : Method := { name := "coder", desc := "()B", sig := { parameters := [], returnType := some .byte }, accessFlags := 0, code := some k7c12 }
def k7c13 : Code := { maxStack := 1, maxLocals := 1, code := jdk_42_method_154_code, exceptionTable := #[], attributes := #[] }
def k7m13 : Method := { name := "isLatin1", desc := "()Z", sig := { parameters := [], returnType := some .boolean }, accessFlags := 0, code := some k7c13 }
/-- java/lang/String -/
def k7 : Class := { plain "java/lang/String" (some 0) with
  accessFlags := 49
  interfaces := #[2, 3, 4, 5, 6]
  cf := some (fileOf pool7 10 #[.nestMembers #[1103]] #[{ accessFlags := 1, nameIndex := 5, descriptorIndex := 6, attributes := #[] }, { accessFlags := 1, nameIndex := 5, descriptorIndex := 1010, attributes := #[] }, { accessFlags := 1, nameIndex := 507, descriptorIndex := 334, attributes := #[] }, { accessFlags := 1, nameIndex := 692, descriptorIndex := 142, attributes := #[] }, { accessFlags := 1, nameIndex := 543, descriptorIndex := 573, attributes := #[] }, { accessFlags := 1, nameIndex := 635, descriptorIndex := 765, attributes := #[] }, { accessFlags := 1, nameIndex := 635, descriptorIndex := 636, attributes := #[] }, { accessFlags := 1, nameIndex := 952, descriptorIndex := 142, attributes := #[] }, { accessFlags := 2, nameIndex := 878, descriptorIndex := 334, attributes := #[] }, { accessFlags := 9, nameIndex := 782, descriptorIndex := 783, attributes := #[] }, { accessFlags := 2, nameIndex := 5, descriptorIndex := 29, attributes := #[] }, { accessFlags := 0, nameIndex := 5, descriptorIndex := 211, attributes := #[] }, { accessFlags := 0, nameIndex := 17, descriptorIndex := 337, attributes := #[] }, { accessFlags := 0, nameIndex := 494, descriptorIndex := 142, attributes := #[] }] 49 2 #[1106, 1108, 575, 1110, 1112] #[{ accessFlags := 18, nameIndex := 13, descriptorIndex := 14, attributes := #[] }, { accessFlags := 18, nameIndex := 17, descriptorIndex := 18, attributes := #[] }, { accessFlags := 2, nameIndex := 21, descriptorIndex := 22, attributes := #[] }, { accessFlags := 2, nameIndex := 25, descriptorIndex := 26, attributes := #[] }, { accessFlags := 26, nameIndex := 1116, descriptorIndex := 1117, attributes := #[] }, { accessFlags := 24, nameIndex := 40, descriptorIndex := 26, attributes := #[] }, { accessFlags := 26, nameIndex := 1101, descriptorIndex := 1102, attributes := #[] }, { accessFlags := 26, nameIndex := 1121, descriptorIndex := 1122, attributes := #[] }, { accessFlags := 25, nameIndex := 599, descriptorIndex := 600, attributes := #[] }, { accessFlags := 24, nameIndex := 1125, descriptorIndex := 18, attributes := #[] }, { accessFlags := 24, nameIndex := 1127, descriptorIndex := 18, attributes := #[] }])
  fields := #[{ name := "value", type := (.array .byte), accessFlags := 18, slot := 0, constantValue := 0 }, { name := "coder", type := .byte, accessFlags := 18, slot := 1, constantValue := 0 }, { name := "hash", type := .int, accessFlags := 2, slot := 2, constantValue := 0 }, { name := "hashIsZero", type := .boolean, accessFlags := 2, slot := 3, constantValue := 0 }, { name := "serialVersionUID", type := .long, accessFlags := 26, slot := 0, constantValue := 0 }, { name := "COMPACT_STRINGS", type := .boolean, accessFlags := 24, slot := 1, constantValue := 0 }, { name := "serialPersistentFields", type := (.array (.object "java/io/ObjectStreamField")), accessFlags := 26, slot := 2, constantValue := 0 }, { name := "REPL", type := .char, accessFlags := 26, slot := 3, constantValue := 0 }, { name := "CASE_INSENSITIVE_ORDER", type := (.object "java/util/Comparator"), accessFlags := 25, slot := 4, constantValue := 0 }, { name := "LATIN1", type := .byte, accessFlags := 24, slot := 5, constantValue := 0 }, { name := "UTF16", type := .byte, accessFlags := 24, slot := 6, constantValue := 0 }]
  methods := #[k7m0, k7m1, k7m2, k7m3, k7m4, k7m5, k7m6, k7m7, k7m8, k7m9, k7m10, k7m11, k7m12, k7m13]
  instanceTypes := #[(.array .byte), .byte, .int, .boolean]
  staticTypes := #[.long, .boolean, (.array (.object "java/io/ObjectStreamField")), .char, (.object "java/util/Comparator"), .byte, .byte]
  resolved := Array.replicate 1451 none
  statics := some 0 }

def pool8 : Array CpInfo := pool [(1, .methodref 2 3), (0, .class_ 4), (0, .nameAndType 5 6), (0, u "java/lang/Object"), (0, u "<init>"), (0, u "()V"), (0, .class_ 8), (0, u "java/lang/Record")] 13

def k8c0 : Code := { maxStack := 1, maxLocals := 1, code := jdk_30_method_1_code, exceptionTable := #[], attributes := #[] }
def k8m0 : Method := { name := "<init>", desc := "()V", sig := { parameters := [], returnType := none }, accessFlags := 4, code := some k8c0 }
/-- java/lang/Record -/
def k8 : Class := { plain "java/lang/Record" (some 0) with
  accessFlags := 1057
  interfaces := #[]
  cf := some (fileOf pool8 7 #[] #[{ accessFlags := 4, nameIndex := 5, descriptorIndex := 6, attributes := #[] }] 1057 2 #[] #[])
  fields := #[]
  methods := #[k8m0]
  instanceTypes := #[]
  staticTypes := #[]
  resolved := Array.replicate 22 none
  statics := none }

def pool9 : Array CpInfo := pool [(1, .methodref 2 3), (0, .class_ 4), (0, .nameAndType 5 6), (0, u "java/lang/Record"), (0, u "<init>"), (0, u "()V"), (0, .string 8), (0, u "kind"), (0, .methodref 10 11), (0, .class_ 12), (0, .nameAndType 13 14), (0, u "java/util/Objects"), (0, u "requireNonNull"), (0, u "(Ljava/lang/Object;Ljava/lang/String;)Ljava/lang/Object;"), (0, .string 16), (0, u "errorName"), (0, .fieldref 18 19), (0, .class_ 20), (0, .nameAndType 21 22), (0, u "com/example/wireform/wireform/rules/Verdict$Kind"), (0, u "VALID"), (0, u "Lcom/example/wireform/wireform/rules/Verdict$Kind;"), (3, .class_ 28), (1, u "java/lang/String"), (9, .fieldref 18 39), (0, .nameAndType 40 22), (0, u "INVALID"), (0, .methodref 26 42), (0, .nameAndType 43 44), (0, u "isBlank"), (0, u "()Z"), (0, .methodref 26 46), (0, .nameAndType 47 44), (0, u "isEmpty"), (3, .methodref 26 52), (0, .nameAndType 53 54), (0, u "indexOf"), (0, u "(I)I"), (3, .fieldref 59 60), (0, .class_ 61), (0, .nameAndType 8 22), (0, u "com/example/wireform/wireform/rules/Verdict"), (0, .fieldref 59 63), (0, .nameAndType 64 65), (0, u "lineNumber"), (0, u "I"), (0, .fieldref 59 67), (0, .nameAndType 16 68), (0, u "Ljava/lang/String;"), (2, u "VALID_MESSAGE"), (0, u "Lcom/example/wireform/wireform/rules/Verdict;"), (2, u "(Lcom/example/wireform/wireform/rules/Verdict$Kind;ILjava/lang/String;)V"), (5, .methodref 26 82), (0, .nameAndType 83 84), (0, u "equals"), (0, u "(Ljava/lang/Object;)Z")] 78

def k9c0 : Code := { maxStack := 4, maxLocals := 6, code := prog_47_method_1_code, exceptionTable := #[], attributes := #[] }
def k9m0 : Method := { name := "<init>", desc := "(Lcom/example/wireform/wireform/rules/Verdict$Kind;ILjava/lang/String;)V", sig := { parameters := [(.object "com/example/wireform/wireform/rules/Verdict$Kind"), .int, (.object "java/lang/String")], returnType := none }, accessFlags := 1, code := some k9c0 }
def k9c1 : Code := { maxStack := 2, maxLocals := 3, code := prog_47_method_5_code, exceptionTable := #[], attributes := #[] }
def k9m1 : Method := { name := "equals", desc := "(Ljava/lang/Object;)Z", sig := { parameters := [(.object "java/lang/Object")], returnType := some .boolean }, accessFlags := 1, code := some k9c1 }
/-- com/example/wireform/wireform/rules/Verdict -/
def k9 : Class := { plain "com/example/wireform/wireform/rules/Verdict" (some 8) with
  accessFlags := 49
  interfaces := #[]
  cf := some (fileOf pool9 59 #[.nestMembers #[18]] #[{ accessFlags := 1, nameIndex := 5, descriptorIndex := 75, attributes := #[] }, { accessFlags := 1, nameIndex := 83, descriptorIndex := 84, attributes := #[] }] 49 2 #[] #[{ accessFlags := 18, nameIndex := 8, descriptorIndex := 22, attributes := #[] }, { accessFlags := 18, nameIndex := 64, descriptorIndex := 65, attributes := #[] }, { accessFlags := 18, nameIndex := 16, descriptorIndex := 68, attributes := #[] }, { accessFlags := 26, nameIndex := 71, descriptorIndex := 72, attributes := #[] }])
  fields := #[{ name := "kind", type := (.object "com/example/wireform/wireform/rules/Verdict$Kind"), accessFlags := 18, slot := 0, constantValue := 0 }, { name := "lineNumber", type := .int, accessFlags := 18, slot := 1, constantValue := 0 }, { name := "errorName", type := (.object "java/lang/String"), accessFlags := 18, slot := 2, constantValue := 0 }, { name := "VALID_MESSAGE", type := (.object "com/example/wireform/wireform/rules/Verdict"), accessFlags := 26, slot := 0, constantValue := 0 }]
  methods := #[k9m0, k9m1]
  instanceTypes := #[(.object "com/example/wireform/wireform/rules/Verdict$Kind"), .int, (.object "java/lang/String")]
  staticTypes := #[(.object "com/example/wireform/wireform/rules/Verdict")]
  resolved := Array.replicate 163 none
  statics := none }

def pool10 : Array CpInfo := pool [(2, .class_ 4), (1, u "java/lang/Enum"), (0, u "name"), (0, u "Ljava/lang/String;"), (2, u "ordinal"), (0, u "I"), (1, .class_ 14), (1, u "java/lang/Object"), (4, u "hash"), (86, .class_ 108), (1, u "java/lang/Enum$EnumDesc"), (2, .class_ 112), (0, u "java/lang/constant/Constable"), (0, .class_ 114), (0, u "java/lang/Comparable"), (0, .class_ 116), (0, u "java/io/Serializable")] 87

/-- java/lang/Enum -/
def k10 : Class := { plain "java/lang/Enum" (some 0) with
  accessFlags := 1057
  interfaces := #[5, 3, 2]
  cf := some (fileOf pool10 2 #[.nestMembers #[106]] #[] 1057 12 #[111, 113, 115] #[{ accessFlags := 18, nameIndex := 5, descriptorIndex := 6, attributes := #[] }, { accessFlags := 18, nameIndex := 9, descriptorIndex := 10, attributes := #[] }, { accessFlags := 2, nameIndex := 19, descriptorIndex := 10, attributes := #[] }])
  fields := #[{ name := "name", type := (.object "java/lang/String"), accessFlags := 18, slot := 0, constantValue := 0 }, { name := "ordinal", type := .int, accessFlags := 18, slot := 1, constantValue := 0 }, { name := "hash", type := .int, accessFlags := 2, slot := 2, constantValue := 0 }]
  methods := #[]
  instanceTypes := #[(.object "java/lang/String"), .int, .int]
  staticTypes := #[]
  resolved := Array.replicate 204 none
  statics := none }

def pool11 : Array CpInfo := pool [(1, .class_ 2), (0, u "com/example/wireform/wireform/rules/Verdict$Kind"), (2, u "VALID"), (0, u "Lcom/example/wireform/wireform/rules/Verdict$Kind;"), (2, u "INVALID"), (2, u "UNDELIVERABLE"), (2, u "$VALUES"), (0, u "[Lcom/example/wireform/wireform/rules/Verdict$Kind;"), (6, .class_ 25), (1, u "java/lang/Enum"), (26, .class_ 53), (0, u "com/example/wireform/wireform/rules/Verdict")] 2

/-- com/example/wireform/wireform/rules/Verdict$Kind -/
def k11 : Class := { plain "com/example/wireform/wireform/rules/Verdict$Kind" (some 10) with
  accessFlags := 16433
  interfaces := #[]
  cf := some (fileOf pool11 1 #[.nestHost 52] #[] 16433 23 #[] #[{ accessFlags := 16409, nameIndex := 5, descriptorIndex := 6, attributes := #[] }, { accessFlags := 16409, nameIndex := 9, descriptorIndex := 6, attributes := #[] }, { accessFlags := 16409, nameIndex := 12, descriptorIndex := 6, attributes := #[] }, { accessFlags := 4122, nameIndex := 15, descriptorIndex := 16, attributes := #[] }])
  fields := #[{ name := "VALID", type := (.object "com/example/wireform/wireform/rules/Verdict$Kind"), accessFlags := 16409, slot := 0, constantValue := 0 }, { name := "INVALID", type := (.object "com/example/wireform/wireform/rules/Verdict$Kind"), accessFlags := 16409, slot := 1, constantValue := 0 }, { name := "UNDELIVERABLE", type := (.object "com/example/wireform/wireform/rules/Verdict$Kind"), accessFlags := 16409, slot := 2, constantValue := 0 }, { name := "$VALUES", type := (.array (.object "com/example/wireform/wireform/rules/Verdict$Kind")), accessFlags := 4122, slot := 3, constantValue := 0 }]
  methods := #[]
  instanceTypes := #[(.object "java/lang/String"), .int, .int]
  staticTypes := #[(.object "com/example/wireform/wireform/rules/Verdict$Kind"), (.object "com/example/wireform/wireform/rules/Verdict$Kind"), (.object "com/example/wireform/wireform/rules/Verdict$Kind"), (.array (.object "com/example/wireform/wireform/rules/Verdict$Kind"))]
  resolved := Array.replicate 56 none
  statics := some 1 }

def pool12 : Array CpInfo := pool [(2, .class_ 4), (1, u "java/lang/Object"), (0, u "<init>"), (0, u "()V"), (35, .class_ 44), (1, u "java/util/Objects"), (0, u "requireNonNull"), (48, u "(Ljava/lang/Object;Ljava/lang/String;)Ljava/lang/Object;")] 89

def k12m0 : Method := { name := "<init>", desc := "()V", sig := { parameters := [], returnType := none }, accessFlags := 2, code := none }
def k12c1 : Code := { maxStack := 3, maxLocals := 2, code := jdk_31_method_11_code, exceptionTable := #[], attributes := #[] }
def k12m1 : Method := { name := "requireNonNull", desc := "(Ljava/lang/Object;Ljava/lang/String;)Ljava/lang/Object;", sig := { parameters := [(.object "java/lang/Object"), (.object "java/lang/String")], returnType := some (.object "java/lang/Object") }, accessFlags := 9, code := some k12c1 }
/-- java/util/Objects -/
def k12 : Class := { plain "java/util/Objects" (some 0) with
  accessFlags := 49
  interfaces := #[]
  cf := some (fileOf pool12 42 #[] #[{ accessFlags := 2, nameIndex := 5, descriptorIndex := 6, attributes := #[] }, { accessFlags := 9, nameIndex := 45, descriptorIndex := 94, attributes := #[] }] 49 2 #[] #[])
  fields := #[]
  methods := #[k12m0, k12m1]
  instanceTypes := #[]
  staticTypes := #[]
  resolved := Array.replicate 184 none
  statics := none }

def pool13 : Array CpInfo := pool [(4, .class_ 6), (1, u "java/lang/Object"), (0, u "<init>"), (0, u "()V"), (5, .class_ 16), (1, u "java/lang/StringLatin1"), (21, .methodref 39 40), (0, .class_ 41), (0, .nameAndType 42 43), (0, u "java/lang/Math"), (0, u "min"), (0, u "(II)I"), (6, .methodref 14 51), (0, .nameAndType 52 53), (0, u "getChar"), (0, u "([BI)C"), (3, u "([B)I"), (8, .fieldref 67 68), (0, .class_ 69), (0, .nameAndType 70 71), (0, u "java/lang/CharacterDataLatin1"), (0, u "instance"), (0, u "Ljava/lang/CharacterDataLatin1;"), (16, .methodref 14 89), (0, .nameAndType 90 91), (0, u "canEncode"), (0, u "(I)Z"), (0, .methodref 39 93), (0, .nameAndType 94 43), (0, u "max"), (0, .methodref 14 96), (0, .nameAndType 97 98), (0, u "indexOfChar"), (0, u "([BIII)I"), (2, u "indexOf"), (3, u "(C)Z"), (15, u "$assertionsDisabled"), (0, u "Z"), (88, .methodref 67 212), (0, .nameAndType 213 91), (0, u "isWhitespace"), (2, u "indexOfNonWhitespace"), (4, .class_ 223), (1, u "java/lang/StringLatin1$LinesSpliterator"), (57, u "equals"), (0, u "([B[B)Z"), (97, u "toBytes"), (1, u "(C)[B"), (7, .class_ 391), (0, u "java/lang/StringLatin1$CharsSpliterator")] 3

def k13m0 : Method := { name := "<init>", desc := "()V", sig := { parameters := [], returnType := none }, accessFlags := 0, code := none }
def k13c1 : Code := { maxStack := 2, maxLocals := 1, code := jdk_43_method_3_code, exceptionTable := #[], attributes := #[] }
def k13m1 : Method := { name := "canEncode", desc := "(C)Z", sig := { parameters := [.char], returnType := some .boolean }, accessFlags := 9, code := some k13c1 }
def k13c2 : Code := { maxStack := 2, maxLocals := 1, code := jdk_43_method_4_code, exceptionTable := #[], attributes := #[] }
def k13m2 : Method := { name := "canEncode", desc := "(I)Z", sig := { parameters := [.int], returnType := some .boolean }, accessFlags := 9, code := some k13c2 }
def k13c3 : Code := { maxStack := 3, maxLocals := 3, code := jdk_43_method_13_code, exceptionTable := #[], attributes := #[] }
def k13m3 : Method := { name := "equals", desc := "([B[B)Z", sig := { parameters := [(.array .byte), (.array .byte)], returnType := some .boolean }, accessFlags := 9, code := some k13c3 }
def k13c4 : Code := { maxStack := 4, maxLocals := 4, code := jdk_43_method_22_code, exceptionTable := #[], attributes := #[] }
def k13m4 : Method := { name := "indexOf", desc := "([BIII)I", sig := { parameters := [(.array .byte), .int, .int, .int], returnType := some .int }, accessFlags := 9, code := some k13c4 }
def k13c5 : Code := { maxStack := 2, maxLocals := 6, code := jdk_43_method_23_code, exceptionTable := #[], attributes := #[] }
def k13m5 : Method := { name := "indexOfChar", desc := "([BIII)I", sig := { parameters := [(.array .byte), .int, .int, .int], returnType := some .int }, accessFlags := 10, code := some k13c5 }
def k13c6 : Code := { maxStack := 2, maxLocals := 4, code := jdk_43_method_37_code, exceptionTable := #[], attributes := #[] }
def k13m6 : Method := { name := "indexOfNonWhitespace", desc := "([B)I", sig := { parameters := [(.array .byte)], returnType := some .int }, accessFlags := 9, code := some k13c6 }
def k13c7 : Code := { maxStack := 2, maxLocals := 2, code := jdk_43_method_44_code, exceptionTable := #[], attributes := #[] }
def k13m7 : Method := { name := "getChar", desc := "([BI)C", sig := { parameters := [(.array .byte), .int], returnType := some .char }, accessFlags := 9, code := some k13c7 }
def k13c8 : Code := { maxStack := 4, maxLocals := 1, code := jdk_43_method_46_code, exceptionTable := #[], attributes := #[] }
def k13m8 : Method := { name := "toBytes", desc := "(C)[B", sig := { parameters := [.char], returnType := some (.array .byte) }, accessFlags := 9, code := some k13c8 }
/-- java/lang/StringLatin1 -/
def k13 : Class := { plain "java/lang/StringLatin1" (some 0) with
  accessFlags := 48
  interfaces := #[]
  cf := some (fileOf pool13 14 #[.nestMembers #[390, 221]] #[{ accessFlags := 0, nameIndex := 7, descriptorIndex := 8, attributes := #[] }, { accessFlags := 9, nameIndex := 90, descriptorIndex := 105, attributes := #[] }, { accessFlags := 9, nameIndex := 90, descriptorIndex := 91, attributes := #[] }, { accessFlags := 9, nameIndex := 281, descriptorIndex := 282, attributes := #[] }, { accessFlags := 9, nameIndex := 101, descriptorIndex := 98, attributes := #[] }, { accessFlags := 10, nameIndex := 97, descriptorIndex := 98, attributes := #[] }, { accessFlags := 9, nameIndex := 216, descriptorIndex := 57, attributes := #[] }, { accessFlags := 9, nameIndex := 52, descriptorIndex := 53, attributes := #[] }, { accessFlags := 9, nameIndex := 380, descriptorIndex := 382, attributes := #[] }] 48 4 #[] #[{ accessFlags := 4120, nameIndex := 121, descriptorIndex := 122, attributes := #[] }])
  fields := #[{ name := "$assertionsDisabled", type := .boolean, accessFlags := 4120, slot := 0, constantValue := 0 }]
  methods := #[k13m0, k13m1, k13m2, k13m3, k13m4, k13m5, k13m6, k13m7, k13m8]
  instanceTypes := #[]
  staticTypes := #[.boolean]
  resolved := Array.replicate 395 none
  statics := none }

def pool14 : Array CpInfo := pool [(1, .class_ 2), (0, u "java/lang/Math"), (1, .class_ 6), (1, u "java/lang/Object"), (0, u "<init>"), (0, u "()V"), (89, .class_ 100), (1, u "java/lang/Math$RandomNumberGeneratorHolder"), (71, u "negativeZeroFloatBits"), (0, u "J"), (2, u "negativeZeroDoubleBits"), (21, u "max"), (2, u "min"), (43, u "$assertionsDisabled"), (0, u "Z"), (88, u "(II)I"), (2, u "twoToTheDoubleScaleDown"), (0, u "D"), (4, u "twoToTheDoubleScaleUp"), (9, u "E"), (3, u "PI"), (2, u "TAU"), (2, u "DEGREES_TO_RADIANS"), (0, u "RADIANS_TO_DEGREES")] 94

def k14m0 : Method := { name := "<init>", desc := "()V", sig := { parameters := [], returnType := none }, accessFlags := 2, code := none }
def k14c1 : Code := { maxStack := 2, maxLocals := 2, code := jdk_29_method_65_code, exceptionTable := #[], attributes := #[] }
def k14m1 : Method := { name := "max", desc := "(II)I", sig := { parameters := [.int, .int], returnType := some .int }, accessFlags := 9, code := some k14c1 }
def k14c2 : Code := { maxStack := 2, maxLocals := 2, code := jdk_29_method_69_code, exceptionTable := #[], attributes := #[] }
def k14m2 : Method := { name := "min", desc := "(II)I", sig := { parameters := [.int, .int], returnType := some .int }, accessFlags := 9, code := some k14c2 }
/-- java/lang/Math -/
def k14 : Class := { plain "java/lang/Math" (some 0) with
  accessFlags := 49
  interfaces := #[]
  cf := some (fileOf pool14 1 #[.nestMembers #[98]] #[{ accessFlags := 2, nameIndex := 7, descriptorIndex := 8, attributes := #[] }, { accessFlags := 9, nameIndex := 198, descriptorIndex := 335, attributes := #[] }, { accessFlags := 9, nameIndex := 201, descriptorIndex := 335, attributes := #[] }] 49 4 #[] #[{ accessFlags := 25, nameIndex := 354, descriptorIndex := 339, attributes := #[] }, { accessFlags := 25, nameIndex := 358, descriptorIndex := 339, attributes := #[] }, { accessFlags := 25, nameIndex := 361, descriptorIndex := 339, attributes := #[] }, { accessFlags := 26, nameIndex := 364, descriptorIndex := 339, attributes := #[] }, { accessFlags := 26, nameIndex := 365, descriptorIndex := 339, attributes := #[] }, { accessFlags := 26, nameIndex := 172, descriptorIndex := 173, attributes := #[] }, { accessFlags := 26, nameIndex := 176, descriptorIndex := 173, attributes := #[] }, { accessFlags := 8, nameIndex := 344, descriptorIndex := 339, attributes := #[] }, { accessFlags := 8, nameIndex := 338, descriptorIndex := 339, attributes := #[] }, { accessFlags := 4120, nameIndex := 245, descriptorIndex := 246, attributes := #[] }])
  fields := #[{ name := "E", type := .double, accessFlags := 25, slot := 0, constantValue := 0 }, { name := "PI", type := .double, accessFlags := 25, slot := 1, constantValue := 0 }, { name := "TAU", type := .double, accessFlags := 25, slot := 2, constantValue := 0 }, { name := "DEGREES_TO_RADIANS", type := .double, accessFlags := 26, slot := 3, constantValue := 0 }, { name := "RADIANS_TO_DEGREES", type := .double, accessFlags := 26, slot := 4, constantValue := 0 }, { name := "negativeZeroFloatBits", type := .long, accessFlags := 26, slot := 5, constantValue := 0 }, { name := "negativeZeroDoubleBits", type := .long, accessFlags := 26, slot := 6, constantValue := 0 }, { name := "twoToTheDoubleScaleUp", type := .double, accessFlags := 8, slot := 7, constantValue := 0 }, { name := "twoToTheDoubleScaleDown", type := .double, accessFlags := 8, slot := 8, constantValue := 0 }, { name := "$assertionsDisabled", type := .boolean, accessFlags := 4120, slot := 9, constantValue := 0 }]
  methods := #[k14m0, k14m1, k14m2]
  instanceTypes := #[]
  staticTypes := #[.double, .double, .double, .double, .double, .long, .long, .double, .double, .boolean]
  resolved := Array.replicate 460 none
  statics := none }

def pool15 : Array CpInfo := pool [(2, .class_ 4), (1, u "java/lang/Object"), (0, u "<init>"), (0, u "()V"), (1, .class_ 10), (1, u "java/lang/CharacterData")] 75

def k15m0 : Method := { name := "<init>", desc := "()V", sig := { parameters := [], returnType := none }, accessFlags := 0, code := none }
/-- java/lang/CharacterData -/
def k15 : Class := { plain "java/lang/CharacterData" (some 0) with
  accessFlags := 1056
  interfaces := #[]
  cf := some (fileOf pool15 8 #[] #[{ accessFlags := 0, nameIndex := 5, descriptorIndex := 6, attributes := #[] }] 1056 2 #[] #[])
  fields := #[]
  methods := #[k15m0]
  instanceTypes := #[]
  staticTypes := #[]
  resolved := Array.replicate 86 none
  statics := none }

def pool16 : Array CpInfo := pool [(1, .fieldref 2 3), (0, .class_ 4), (0, .nameAndType 5 6), (0, u "java/lang/CharacterDataLatin1"), (0, u "A"), (0, u "[I"), (2, u "B"), (0, u "[C"), (3, u "(I)I"), (0, .methodref 2 16), (0, .nameAndType 17 14), (0, u "getProperties"), (3, u "(I)Z"), (5, u "DIGITS"), (0, u "[B"), (8, u "sharpsMap"), (1, .class_ 41), (1, u "java/lang/CharacterData"), (0, u "<init>"), (0, u "()V"), (3, u "instance"), (0, u "Ljava/lang/CharacterDataLatin1;"), (78, u "isWhitespace")] 13

def k16c0 : Code := { maxStack := 2, maxLocals := 4, code := jdk_116_method_1_code, exceptionTable := #[], attributes := #[] }
def k16m0 : Method := { name := "getProperties", desc := "(I)I", sig := { parameters := [.int], returnType := some .int }, accessFlags := 0, code := some k16c0 }
def k16c1 : Code := { maxStack := 2, maxLocals := 3, code := jdk_116_method_26_code, exceptionTable := #[], attributes := #[] }
def k16m1 : Method := { name := "isWhitespace", desc := "(I)Z", sig := { parameters := [.int], returnType := some .boolean }, accessFlags := 0, code := some k16c1 }
def k16m2 : Method := { name := "<init>", desc := "()V", sig := { parameters := [], returnType := none }, accessFlags := 2, code := none }
/-- java/lang/CharacterDataLatin1 -/
def k16 : Class := { plain "java/lang/CharacterDataLatin1" (some 15) with
  accessFlags := 32
  interfaces := #[]
  cf := some (fileOf pool16 2 #[] #[{ accessFlags := 0, nameIndex := 17, descriptorIndex := 14, attributes := #[] }, { accessFlags := 0, nameIndex := 127, descriptorIndex := 21, attributes := #[] }, { accessFlags := 2, nameIndex := 42, descriptorIndex := 43, attributes := #[] }] 32 39 #[] #[{ accessFlags := 26, nameIndex := 27, descriptorIndex := 28, attributes := #[] }, { accessFlags := 8, nameIndex := 37, descriptorIndex := 10, attributes := #[] }, { accessFlags := 24, nameIndex := 47, descriptorIndex := 48, attributes := #[] }, { accessFlags := 24, nameIndex := 5, descriptorIndex := 6, attributes := #[] }, { accessFlags := 24, nameIndex := 9, descriptorIndex := 10, attributes := #[] }])
  fields := #[{ name := "DIGITS", type := (.array .byte), accessFlags := 26, slot := 0, constantValue := 0 }, { name := "sharpsMap", type := (.array .char), accessFlags := 8, slot := 1, constantValue := 0 }, { name := "instance", type := (.object "java/lang/CharacterDataLatin1"), accessFlags := 24, slot := 2, constantValue := 0 }, { name := "A", type := (.array .int), accessFlags := 24, slot := 3, constantValue := 0 }, { name := "B", type := (.array .char), accessFlags := 24, slot := 4, constantValue := 0 }]
  methods := #[k16m0, k16m1, k16m2]
  instanceTypes := #[]
  staticTypes := #[(.array .byte), (.array .char), (.object "java/lang/CharacterDataLatin1"), (.array .int), (.array .char)]
  resolved := Array.replicate 141 none
  statics := some 2 }

def pool17 : Array CpInfo := pool [(1, .methodref 2 3), (0, .class_ 4), (0, .nameAndType 5 6), (0, u "java/lang/Object"), (0, u "<init>"), (0, u "()V"), (1, .class_ 10), (1, u "java/lang/Number"), (2, .class_ 14), (0, u "java/io/Serializable"), (0, u "serialVersionUID"), (0, u "J")] 20

def k17c0 : Code := { maxStack := 1, maxLocals := 1, code := jdk_18_method_1_code, exceptionTable := #[], attributes := #[] }
def k17m0 : Method := { name := "<init>", desc := "()V", sig := { parameters := [], returnType := none }, accessFlags := 1, code := some k17c0 }
/-- java/lang/Number -/
def k17 : Class := { plain "java/lang/Number" (some 0) with
  accessFlags := 1057
  interfaces := #[2]
  cf := some (fileOf pool17 8 #[] #[{ accessFlags := 1, nameIndex := 5, descriptorIndex := 6, attributes := #[] }] 1057 2 #[13] #[{ accessFlags := 26, nameIndex := 15, descriptorIndex := 16, attributes := #[] }])
  fields := #[{ name := "serialVersionUID", type := .long, accessFlags := 26, slot := 0, constantValue := 0 }]
  methods := #[k17m0]
  instanceTypes := #[]
  staticTypes := #[.long]
  resolved := Array.replicate 37 none
  statics := none }

def pool18 : Array CpInfo := pool [(1, .class_ 2), (0, u "java/lang/Integer"), (16, u "digits"), (0, u "[C"), (46, u "<init>"), (17, u "DigitOnes"), (0, u "[B"), (2, u "DigitTens"), (10, .nameAndType 67 101), (0, u "()V"), (85, u "valueOf"), (0, u "(I)Ljava/lang/Integer;"), (0, .class_ 190), (0, u "java/lang/Integer$IntegerCache"), (0, .fieldref 189 192), (0, .nameAndType 193 194), (0, u "high"), (0, u "I"), (0, .fieldref 189 196), (0, .nameAndType 197 198), (0, u "cache"), (0, u "[Ljava/lang/Integer;"), (0, .methodref 1 200), (0, .nameAndType 67 201), (0, u "(I)V"), (0, .methodref 203 100), (0, .class_ 204), (0, u "java/lang/Number"), (0, .fieldref 1 206), (0, .nameAndType 207 194), (0, u "value"), (94, u "TYPE"), (0, u "Ljava/lang/Class;"), (0, .class_ 305), (0, u "java/lang/Comparable"), (0, .class_ 307), (0, u "java/lang/constant/Constable"), (0, .class_ 309), (0, u "java/lang/constant/ConstantDesc"), (0, u "MIN_VALUE"), (1, u "MAX_VALUE"), (3, u "SIZE"), (1, u "BYTES"), (1, u "serialVersionUID"), (0, u "J")] 131

def k18c0 : Code := { maxStack := 3, maxLocals := 1, code := jdk_33_method_22_code, exceptionTable := #[], attributes := #[] }
def k18m0 : Method := { name := "valueOf", desc := "(I)Ljava/lang/Integer;", sig := { parameters := [.int], returnType := some (.object "java/lang/Integer") }, accessFlags := 9, code := some k18c0 }
def k18c1 : Code := { maxStack := 2, maxLocals := 2, code := jdk_33_method_23_code, exceptionTable := #[], attributes := #[] }
def k18m1 : Method := { name := "<init>", desc := "(I)V", sig := { parameters := [.int], returnType := none }, accessFlags := 1, code := some k18c1 }
/-- java/lang/Integer -/
def k18 : Class := { plain "java/lang/Integer" (some 17) with
  accessFlags := 49
  interfaces := #[3, 5, 6]
  cf := some (fileOf pool18 1 #[.nestMembers #[189]] #[{ accessFlags := 9, nameIndex := 187, descriptorIndex := 188, attributes := #[] }, { accessFlags := 1, nameIndex := 67, descriptorIndex := 201, attributes := #[] }] 49 203 #[304, 306, 308] #[{ accessFlags := 25, nameIndex := 310, descriptorIndex := 194, attributes := #[] }, { accessFlags := 25, nameIndex := 312, descriptorIndex := 194, attributes := #[] }, { accessFlags := 25, nameIndex := 302, descriptorIndex := 303, attributes := #[] }, { accessFlags := 24, nameIndex := 19, descriptorIndex := 20, attributes := #[] }, { accessFlags := 24, nameIndex := 89, descriptorIndex := 86, attributes := #[] }, { accessFlags := 24, nameIndex := 85, descriptorIndex := 86, attributes := #[] }, { accessFlags := 18, nameIndex := 207, descriptorIndex := 194, attributes := #[] }, { accessFlags := 25, nameIndex := 316, descriptorIndex := 194, attributes := #[] }, { accessFlags := 25, nameIndex := 318, descriptorIndex := 194, attributes := #[] }, { accessFlags := 26, nameIndex := 320, descriptorIndex := 321, attributes := #[] }])
  fields := #[{ name := "MIN_VALUE", type := .int, accessFlags := 25, slot := 0, constantValue := 0 }, { name := "MAX_VALUE", type := .int, accessFlags := 25, slot := 1, constantValue := 0 }, { name := "TYPE", type := (.object "java/lang/Class"), accessFlags := 25, slot := 2, constantValue := 0 }, { name := "digits", type := (.array .char), accessFlags := 24, slot := 3, constantValue := 0 }, { name := "DigitTens", type := (.array .byte), accessFlags := 24, slot := 4, constantValue := 0 }, { name := "DigitOnes", type := (.array .byte), accessFlags := 24, slot := 5, constantValue := 0 }, { name := "value", type := .int, accessFlags := 18, slot := 0, constantValue := 0 }, { name := "SIZE", type := .int, accessFlags := 25, slot := 6, constantValue := 0 }, { name := "BYTES", type := .int, accessFlags := 25, slot := 7, constantValue := 0 }, { name := "serialVersionUID", type := .long, accessFlags := 26, slot := 8, constantValue := 0 }]
  methods := #[k18m0, k18m1]
  instanceTypes := #[.int]
  staticTypes := #[.int, .int, (.object "java/lang/Class"), (.array .char), (.array .byte), (.array .byte), .int, .int, .long]
  resolved := Array.replicate 453 none
  statics := none }

def pool19 : Array CpInfo := pool [(2, .class_ 4), (1, u "java/lang/Object"), (0, u "<init>"), (0, u "()V"), (0, .class_ 8), (0, u "java/lang/Integer"), (7, .class_ 18), (1, u "java/lang/Integer$IntegerCache"), (0, u "$assertionsDisabled"), (0, u "Z"), (26, u "high"), (0, u "I"), (8, u "archivedCache"), (0, u "[Ljava/lang/Integer;"), (12, u "cache"), (0, u "low")] 27

def k19m0 : Method := { name := "<init>", desc := "()V", sig := { parameters := [], returnType := none }, accessFlags := 2, code := none }
/-- java/lang/Integer$IntegerCache -/
def k19 : Class := { plain "java/lang/Integer$IntegerCache" (some 0) with
  accessFlags := 48
  interfaces := #[]
  cf := some (fileOf pool19 16 #[.nestHost 7] #[{ accessFlags := 2, nameIndex := 5, descriptorIndex := 6, attributes := #[] }] 48 2 #[] #[{ accessFlags := 24, nameIndex := 72, descriptorIndex := 48, attributes := #[] }, { accessFlags := 24, nameIndex := 47, descriptorIndex := 48, attributes := #[] }, { accessFlags := 24, nameIndex := 71, descriptorIndex := 58, attributes := #[] }, { accessFlags := 8, nameIndex := 57, descriptorIndex := 58, attributes := #[] }, { accessFlags := 4120, nameIndex := 19, descriptorIndex := 20, attributes := #[] }])
  fields := #[{ name := "low", type := .int, accessFlags := 24, slot := 0, constantValue := 0 }, { name := "high", type := .int, accessFlags := 24, slot := 1, constantValue := 0 }, { name := "cache", type := (.array (.object "java/lang/Integer")), accessFlags := 24, slot := 2, constantValue := 0 }, { name := "archivedCache", type := (.array (.object "java/lang/Integer")), accessFlags := 8, slot := 3, constantValue := 0 }, { name := "$assertionsDisabled", type := .boolean, accessFlags := 4120, slot := 4, constantValue := 0 }]
  methods := #[k19m0]
  instanceTypes := #[]
  staticTypes := #[.int, .int, (.array (.object "java/lang/Integer")), (.array (.object "java/lang/Integer")), .boolean]
  resolved := Array.replicate 100 none
  statics := some 3 }

def pool20 : Array CpInfo := pool [(6, .class_ 8), (1, u "java/lang/Object"), (0, u "<init>"), (0, u "()V"), (1, .class_ 14), (1, u "java/lang/StringUTF16"), (31, u "$assertionsDisabled"), (0, u "Z"), (13, u "HI_BYTE_SHIFT"), (0, u "I"), (2, u "LO_BYTE_SHIFT"), (49, .methodref 12 116), (0, .nameAndType 117 118), (0, u "compress"), (0, u "([CI[BII)I"), (3, u "([CII)[B"), (138, u "coderFromArrayLen"), (0, u "([BI)B"), (106, .class_ 371), (1, u "java/lang/StringUTF16$LinesSpliterator"), (58, u "MAX_LENGTH"), (196, .class_ 628), (0, u "java/lang/StringUTF16$CodePointsSpliterator"), (0, .class_ 630), (0, u "java/lang/StringUTF16$CharsSpliterator")] 4

def k20m0 : Method := { name := "<init>", desc := "()V", sig := { parameters := [], returnType := none }, accessFlags := 0, code := none }
def k20c1 : Code := { maxStack := 2, maxLocals := 2, code := jdk_52_method_15_code, exceptionTable := #[], attributes := #[] }
def k20m1 : Method := { name := "coderFromArrayLen", desc := "([BI)B", sig := { parameters := [(.array .byte), .int], returnType := some .byte }, accessFlags := 8, code := some k20c1 }
def k20c2 : Code := { maxStack := 5, maxLocals := 6, code := jdk_52_method_16_code, exceptionTable := #[], attributes := #[] }
def k20m2 : Method := { name := "compress", desc := "([CII)[B", sig := { parameters := [(.array .char), .int, .int], returnType := some (.array .byte) }, accessFlags := 9, code := some k20c2 }
def k20c3 : Code := { maxStack := 3, maxLocals := 7, code := jdk_52_method_21_code, exceptionTable := #[], attributes := #[] }
def k20m3 : Method := { name := "compress", desc := "([CI[BII)I", sig := { parameters := [(.array .char), .int, (.array .byte), .int, .int], returnType := some .int }, accessFlags := 9, code := some k20c3 }
/-- java/lang/StringUTF16 -/
def k20 : Class := { plain "java/lang/StringUTF16" (some 0) with
  accessFlags := 48
  interfaces := #[]
  cf := some (fileOf pool20 12 #[.nestMembers #[627, 629, 369]] #[{ accessFlags := 0, nameIndex := 9, descriptorIndex := 10, attributes := #[] }, { accessFlags := 8, nameIndex := 261, descriptorIndex := 262, attributes := #[] }, { accessFlags := 9, nameIndex := 117, descriptorIndex := 122, attributes := #[] }, { accessFlags := 9, nameIndex := 117, descriptorIndex := 118, attributes := #[] }] 48 6 #[] #[{ accessFlags := 26, nameIndex := 61, descriptorIndex := 62, attributes := #[] }, { accessFlags := 26, nameIndex := 65, descriptorIndex := 62, attributes := #[] }, { accessFlags := 24, nameIndex := 430, descriptorIndex := 62, attributes := #[] }, { accessFlags := 4120, nameIndex := 46, descriptorIndex := 47, attributes := #[] }])
  fields := #[{ name := "HI_BYTE_SHIFT", type := .int, accessFlags := 26, slot := 0, constantValue := 0 }, { name := "LO_BYTE_SHIFT", type := .int, accessFlags := 26, slot := 1, constantValue := 0 }, { name := "MAX_LENGTH", type := .int, accessFlags := 24, slot := 2, constantValue := 0 }, { name := "$assertionsDisabled", type := .boolean, accessFlags := 4120, slot := 3, constantValue := 0 }]
  methods := #[k20m0, k20m1, k20m2, k20m3]
  instanceTypes := #[]
  staticTypes := #[.int, .int, .int, .boolean]
  resolved := Array.replicate 635 none
  statics := none }

def pool21 : Array CpInfo := pool [(9, u "<init>"), (6, .class_ 18), (1, u "java/lang/Object"), (0, u "()V"), (1, .class_ 23), (1, u "jdk/internal/util/ArraysSupport"), (0, u "LOG2_ARRAY_LONG_INDEX_SCALE"), (0, u "I"), (2, u "U"), (0, u "Ljdk/internal/misc/Unsafe;"), (8, u "BIG_ENDIAN"), (0, u "Z"), (8, u "LOG2_BYTE_BIT_SIZE"), (4, u "LOG2_ARRAY_INT_INDEX_SCALE"), (54, u "JLA"), (0, u "Ljdk/internal/access/JavaLangAccess;"), (11, u "LOG2_ARRAY_BOOLEAN_INDEX_SCALE"), (9, u "LOG2_ARRAY_BYTE_INDEX_SCALE"), (5, u "LOG2_ARRAY_CHAR_INDEX_SCALE"), (5, u "LOG2_ARRAY_SHORT_INDEX_SCALE"), (18, u "LOG2_ARRAY_FLOAT_INDEX_SCALE"), (24, u "LOG2_ARRAY_DOUBLE_INDEX_SCALE"), (89, u "T_BOOLEAN"), (2, u "T_CHAR"), (1, u "T_FLOAT"), (1, u "T_DOUBLE"), (1, u "T_BYTE"), (1, u "T_SHORT"), (1, u "T_INT"), (1, u "T_LONG"), (1, u "SOFT_MAX_ARRAY_LENGTH")] 83

def k21m0 : Method := { name := "<init>", desc := "()V", sig := { parameters := [], returnType := none }, accessFlags := 2, code := none }
/-- jdk/internal/util/ArraysSupport -/
def k21 : Class := { plain "jdk/internal/util/ArraysSupport" (some 0) with
  accessFlags := 33
  interfaces := #[]
  cf := some (fileOf pool21 21 #[] #[{ accessFlags := 2, nameIndex := 9, descriptorIndex := 19, attributes := #[] }] 33 16 #[] #[{ accessFlags := 24, nameIndex := 28, descriptorIndex := 29, attributes := #[] }, { accessFlags := 26, nameIndex := 38, descriptorIndex := 39, attributes := #[] }, { accessFlags := 25, nameIndex := 121, descriptorIndex := 25, attributes := #[] }, { accessFlags := 25, nameIndex := 131, descriptorIndex := 25, attributes := #[] }, { accessFlags := 25, nameIndex := 137, descriptorIndex := 25, attributes := #[] }, { accessFlags := 25, nameIndex := 143, descriptorIndex := 25, attributes := #[] }, { accessFlags := 25, nameIndex := 53, descriptorIndex := 25, attributes := #[] }, { accessFlags := 25, nameIndex := 24, descriptorIndex := 25, attributes := #[] }, { accessFlags := 25, nameIndex := 162, descriptorIndex := 25, attributes := #[] }, { accessFlags := 25, nameIndex := 187, descriptorIndex := 25, attributes := #[] }, { accessFlags := 26, nameIndex := 48, descriptorIndex := 25, attributes := #[] }, { accessFlags := 25, nameIndex := 277, descriptorIndex := 25, attributes := #[] }, { accessFlags := 25, nameIndex := 280, descriptorIndex := 25, attributes := #[] }, { accessFlags := 25, nameIndex := 282, descriptorIndex := 25, attributes := #[] }, { accessFlags := 25, nameIndex := 284, descriptorIndex := 25, attributes := #[] }, { accessFlags := 25, nameIndex := 286, descriptorIndex := 25, attributes := #[] }, { accessFlags := 25, nameIndex := 288, descriptorIndex := 25, attributes := #[] }, { accessFlags := 25, nameIndex := 290, descriptorIndex := 25, attributes := #[] }, { accessFlags := 25, nameIndex := 292, descriptorIndex := 25, attributes := #[] }, { accessFlags := 26, nameIndex := 108, descriptorIndex := 109, attributes := #[] }, { accessFlags := 25, nameIndex := 294, descriptorIndex := 25, attributes := #[] }])
  fields := #[{ name := "U", type := (.object "jdk/internal/misc/Unsafe"), accessFlags := 24, slot := 0, constantValue := 0 }, { name := "BIG_ENDIAN", type := .boolean, accessFlags := 26, slot := 1, constantValue := 0 }, { name := "LOG2_ARRAY_BOOLEAN_INDEX_SCALE", type := .int, accessFlags := 25, slot := 2, constantValue := 0 }, { name := "LOG2_ARRAY_BYTE_INDEX_SCALE", type := .int, accessFlags := 25, slot := 3, constantValue := 0 }, { name := "LOG2_ARRAY_CHAR_INDEX_SCALE", type := .int, accessFlags := 25, slot := 4, constantValue := 0 }, { name := "LOG2_ARRAY_SHORT_INDEX_SCALE", type := .int, accessFlags := 25, slot := 5, constantValue := 0 }, { name := "LOG2_ARRAY_INT_INDEX_SCALE", type := .int, accessFlags := 25, slot := 6, constantValue := 0 }, { name := "LOG2_ARRAY_LONG_INDEX_SCALE", type := .int, accessFlags := 25, slot := 7, constantValue := 0 }, { name := "LOG2_ARRAY_FLOAT_INDEX_SCALE", type := .int, accessFlags := 25, slot := 8, constantValue := 0 }, { name := "LOG2_ARRAY_DOUBLE_INDEX_SCALE", type := .int, accessFlags := 25, slot := 9, constantValue := 0 }, { name := "LOG2_BYTE_BIT_SIZE", type := .int, accessFlags := 26, slot := 10, constantValue := 0 }, { name := "T_BOOLEAN", type := .int, accessFlags := 25, slot := 11, constantValue := 0 }, { name := "T_CHAR", type := .int, accessFlags := 25, slot := 12, constantValue := 0 }, { name := "T_FLOAT", type := .int, accessFlags := 25, slot := 13, constantValue := 0 }, { name := "T_DOUBLE", type := .int, accessFlags := 25, slot := 14, constantValue := 0 }, { name := "T_BYTE", type := .int, accessFlags := 25, slot := 15, constantValue := 0 }, { name := "T_SHORT", type := .int, accessFlags := 25, slot := 16, constantValue := 0 }, { name := "T_INT", type := .int, accessFlags := 25, slot := 17, constantValue := 0 }, { name := "T_LONG", type := .int, accessFlags := 25, slot := 18, constantValue := 0 }, { name := "JLA", type := (.object "jdk/internal/access/JavaLangAccess"), accessFlags := 26, slot := 19, constantValue := 0 }, { name := "SOFT_MAX_ARRAY_LENGTH", type := .int, accessFlags := 25, slot := 20, constantValue := 0 }]
  methods := #[k21m0]
  instanceTypes := #[]
  staticTypes := #[(.object "jdk/internal/misc/Unsafe"), .boolean, .int, .int, .int, .int, .int, .int, .int, .int, .int, .int, .int, .int, .int, .int, .int, .int, .int, (.object "jdk/internal/access/JavaLangAccess"), .int]
  resolved := Array.replicate 378 none
  statics := some 4 }

def pool22 : Array CpInfo := pool [(2, .class_ 4), (1, u "java/lang/Object"), (0, u "<init>"), (0, u "()V"), (17, .class_ 26), (1, u "jdk/internal/util/Preconditions"), (28, .class_ 56), (0, u "jdk/internal/util/Preconditions$4"), (57, .class_ 115), (0, u "jdk/internal/util/Preconditions$1"), (7, u "SIOOBE_FORMATTER"), (0, u "Ljava/util/function/BiFunction;"), (0, .class_ 126), (0, u "jdk/internal/util/Preconditions$2"), (3, u "AIOOBE_FORMATTER"), (0, .class_ 132), (0, u "jdk/internal/util/Preconditions$3"), (3, u "IOOBE_FORMATTER")] 57

def k22m0 : Method := { name := "<init>", desc := "()V", sig := { parameters := [], returnType := none }, accessFlags := 1, code := none }
/-- jdk/internal/util/Preconditions -/
def k22 : Class := { plain "jdk/internal/util/Preconditions" (some 0) with
  accessFlags := 33
  interfaces := #[]
  cf := some (fileOf pool22 24 #[.nestMembers #[55, 131, 125, 114]] #[{ accessFlags := 1, nameIndex := 5, descriptorIndex := 6, attributes := #[] }] 33 2 #[] #[{ accessFlags := 25, nameIndex := 123, descriptorIndex := 124, attributes := #[] }, { accessFlags := 25, nameIndex := 130, descriptorIndex := 124, attributes := #[] }, { accessFlags := 25, nameIndex := 136, descriptorIndex := 124, attributes := #[] }])
  fields := #[{ name := "SIOOBE_FORMATTER", type := (.object "java/util/function/BiFunction"), accessFlags := 25, slot := 0, constantValue := 0 }, { name := "AIOOBE_FORMATTER", type := (.object "java/util/function/BiFunction"), accessFlags := 25, slot := 1, constantValue := 0 }, { name := "IOOBE_FORMATTER", type := (.object "java/util/function/BiFunction"), accessFlags := 25, slot := 2, constantValue := 0 }]
  methods := #[k22m0]
  instanceTypes := #[]
  staticTypes := #[(.object "java/util/function/BiFunction"), (.object "java/util/function/BiFunction"), (.object "java/util/function/BiFunction")]
  resolved := Array.replicate 194 none
  statics := some 5 }

def pool23 : Array CpInfo := pool [(1, u "java/lang/Cloneable"), (0, .class_ 1), (0, u "java/lang/Object"), (0, .class_ 3)] 3

/-- java/lang/Cloneable -/
def k23 : Class := { plain "java/lang/Cloneable" (some 0) with
  accessFlags := 1537
  interfaces := #[]
  cf := some (fileOf pool23 2 #[] #[] 1537 4 #[] #[])
  fields := #[]
  methods := #[]
  instanceTypes := #[]
  staticTypes := #[]
  resolved := Array.replicate 8 none
  statics := none }

/-- the primitive byte -/
def k24 : Class := { plain "byte" none with kind := .primitive 'B', accessFlags := 0x411 }
/-- [B -/
def k25 : Class := { plain "[B" (some 0) with kind := .array 24 .byte, interfaces := #[23, 2], accessFlags := 1041 }

/-- the primitive char -/
def k26 : Class := { plain "char" none with kind := .primitive 'C', accessFlags := 0x411 }
/-- [C -/
def k27 : Class := { plain "[C" (some 0) with kind := .array 26 .char, interfaces := #[23, 2], accessFlags := 1041 }

/-- the primitive int -/
def k28 : Class := { plain "int" none with kind := .primitive 'I', accessFlags := 0x411 }
/-- [I -/
def k29 : Class := { plain "[I" (some 0) with kind := .array 28 .int, interfaces := #[23, 2], accessFlags := 1041 }

/-- [Ljava/lang/Integer; -/
def k30 : Class := { plain "[Ljava/lang/Integer;" (some 0) with kind := .array 18 (.object "java/lang/Integer"), interfaces := #[23, 2], accessFlags := 1041 }

def heap : Heap := #[{ cls := 7, slots := #[.long 0, .int 1, .null, .int 0, .null, .int 0, .int 0], vm := .statics 7 },
  { cls := 11, slots := #[.ref 263, .ref 264, .ref 265, .null], vm := .statics 11 },
  { cls := 16, slots := #[.null, .null, .ref 266, .ref 267, .null], vm := .statics 16 },
  { cls := 19, slots := #[.int 0, .int 127, .ref 6, .null, .int 0], vm := .statics 19 },
  { cls := 21, slots := #[.null, .int 0, .int 0, .int 0, .int 0, .int 0, .int 0, .int 0, .int 0, .int 0, .int 0, .int 0, .int 0, .int 0, .int 0, .int 0, .int 0, .int 0, .int 0, .null, .int 0], vm := .statics 21 },
  { cls := 22, slots := #[.null, .null, .null], vm := .statics 22 },
  { cls := 30, slots := #[.ref 7, .ref 8, .ref 9, .ref 10, .ref 11, .ref 12, .ref 13, .ref 14, .ref 15, .ref 16, .ref 17, .ref 18, .ref 19, .ref 20, .ref 21, .ref 22, .ref 23, .ref 24, .ref 25, .ref 26, .ref 27, .ref 28, .ref 29, .ref 30, .ref 31, .ref 32, .ref 33, .ref 34, .ref 35, .ref 36, .ref 37, .ref 38, .ref 39, .ref 40, .ref 41, .ref 42, .ref 43, .ref 44, .ref 45, .ref 46, .ref 47, .ref 48, .ref 49, .ref 50, .ref 51, .ref 52, .ref 53, .ref 54, .ref 55, .ref 56, .ref 57, .ref 58, .ref 59, .ref 60, .ref 61, .ref 62, .ref 63, .ref 64, .ref 65, .ref 66, .ref 67, .ref 68, .ref 69, .ref 70, .ref 71, .ref 72, .ref 73, .ref 74, .ref 75, .ref 76, .ref 77, .ref 78, .ref 79, .ref 80, .ref 81, .ref 82, .ref 83, .ref 84, .ref 85, .ref 86, .ref 87, .ref 88, .ref 89, .ref 90, .ref 91, .ref 92, .ref 93, .ref 94, .ref 95, .ref 96, .ref 97, .ref 98, .ref 99, .ref 100, .ref 101, .ref 102, .ref 103, .ref 104, .ref 105, .ref 106, .ref 107, .ref 108, .ref 109, .ref 110, .ref 111, .ref 112, .ref 113, .ref 114, .ref 115, .ref 116, .ref 117, .ref 118, .ref 119, .ref 120, .ref 121, .ref 122, .ref 123, .ref 124, .ref 125, .ref 126, .ref 127, .ref 128, .ref 129, .ref 130, .ref 131, .ref 132, .ref 133, .ref 134, .ref 135, .ref 136, .ref 137, .ref 138, .ref 139, .ref 140, .ref 141, .ref 142, .ref 143, .ref 144, .ref 145, .ref 146, .ref 147, .ref 148, .ref 149, .ref 150, .ref 151, .ref 152, .ref 153, .ref 154, .ref 155, .ref 156, .ref 157, .ref 158, .ref 159, .ref 160, .ref 161, .ref 162, .ref 163, .ref 164, .ref 165, .ref 166, .ref 167, .ref 168, .ref 169, .ref 170, .ref 171, .ref 172, .ref 173, .ref 174, .ref 175, .ref 176, .ref 177, .ref 178, .ref 179, .ref 180, .ref 181, .ref 182, .ref 183, .ref 184, .ref 185, .ref 186, .ref 187, .ref 188, .ref 189, .ref 190, .ref 191, .ref 192, .ref 193, .ref 194, .ref 195, .ref 196, .ref 197, .ref 198, .ref 199, .ref 200, .ref 201, .ref 202, .ref 203, .ref 204, .ref 205, .ref 206, .ref 207, .ref 208, .ref 209, .ref 210, .ref 211, .ref 212, .ref 213, .ref 214, .ref 215, .ref 216, .ref 217, .ref 218, .ref 219, .ref 220, .ref 221, .ref 222, .ref 223, .ref 224, .ref 225, .ref 226, .ref 227, .ref 228, .ref 229, .ref 230, .ref 231, .ref 232, .ref 233, .ref 234, .ref 235, .ref 236, .ref 237, .ref 238, .ref 239, .ref 240, .ref 241, .ref 242, .ref 243, .ref 244, .ref 245, .ref 246, .ref 247, .ref 248, .ref 249, .ref 250, .ref 251, .ref 252, .ref 253, .ref 254, .ref 255, .ref 256, .ref 257, .ref 258, .ref 259, .ref 260, .ref 261, .ref 262], vm := .none },
  { cls := 18, slots := #[.int (-128)], vm := .none },
  { cls := 18, slots := #[.int (-127)], vm := .none },
  { cls := 18, slots := #[.int (-126)], vm := .none },
  { cls := 18, slots := #[.int (-125)], vm := .none },
  { cls := 18, slots := #[.int (-124)], vm := .none },
  { cls := 18, slots := #[.int (-123)], vm := .none },
  { cls := 18, slots := #[.int (-122)], vm := .none },
  { cls := 18, slots := #[.int (-121)], vm := .none },
  { cls := 18, slots := #[.int (-120)], vm := .none },
  { cls := 18, slots := #[.int (-119)], vm := .none },
  { cls := 18, slots := #[.int (-118)], vm := .none },
  { cls := 18, slots := #[.int (-117)], vm := .none },
  { cls := 18, slots := #[.int (-116)], vm := .none },
  { cls := 18, slots := #[.int (-115)], vm := .none },
  { cls := 18, slots := #[.int (-114)], vm := .none },
  { cls := 18, slots := #[.int (-113)], vm := .none },
  { cls := 18, slots := #[.int (-112)], vm := .none },
  { cls := 18, slots := #[.int (-111)], vm := .none },
  { cls := 18, slots := #[.int (-110)], vm := .none },
  { cls := 18, slots := #[.int (-109)], vm := .none },
  { cls := 18, slots := #[.int (-108)], vm := .none },
  { cls := 18, slots := #[.int (-107)], vm := .none },
  { cls := 18, slots := #[.int (-106)], vm := .none },
  { cls := 18, slots := #[.int (-105)], vm := .none },
  { cls := 18, slots := #[.int (-104)], vm := .none },
  { cls := 18, slots := #[.int (-103)], vm := .none },
  { cls := 18, slots := #[.int (-102)], vm := .none },
  { cls := 18, slots := #[.int (-101)], vm := .none },
  { cls := 18, slots := #[.int (-100)], vm := .none },
  { cls := 18, slots := #[.int (-99)], vm := .none },
  { cls := 18, slots := #[.int (-98)], vm := .none },
  { cls := 18, slots := #[.int (-97)], vm := .none },
  { cls := 18, slots := #[.int (-96)], vm := .none },
  { cls := 18, slots := #[.int (-95)], vm := .none },
  { cls := 18, slots := #[.int (-94)], vm := .none },
  { cls := 18, slots := #[.int (-93)], vm := .none },
  { cls := 18, slots := #[.int (-92)], vm := .none },
  { cls := 18, slots := #[.int (-91)], vm := .none },
  { cls := 18, slots := #[.int (-90)], vm := .none },
  { cls := 18, slots := #[.int (-89)], vm := .none },
  { cls := 18, slots := #[.int (-88)], vm := .none },
  { cls := 18, slots := #[.int (-87)], vm := .none },
  { cls := 18, slots := #[.int (-86)], vm := .none },
  { cls := 18, slots := #[.int (-85)], vm := .none },
  { cls := 18, slots := #[.int (-84)], vm := .none },
  { cls := 18, slots := #[.int (-83)], vm := .none },
  { cls := 18, slots := #[.int (-82)], vm := .none },
  { cls := 18, slots := #[.int (-81)], vm := .none },
  { cls := 18, slots := #[.int (-80)], vm := .none },
  { cls := 18, slots := #[.int (-79)], vm := .none },
  { cls := 18, slots := #[.int (-78)], vm := .none },
  { cls := 18, slots := #[.int (-77)], vm := .none },
  { cls := 18, slots := #[.int (-76)], vm := .none },
  { cls := 18, slots := #[.int (-75)], vm := .none },
  { cls := 18, slots := #[.int (-74)], vm := .none },
  { cls := 18, slots := #[.int (-73)], vm := .none },
  { cls := 18, slots := #[.int (-72)], vm := .none },
  { cls := 18, slots := #[.int (-71)], vm := .none },
  { cls := 18, slots := #[.int (-70)], vm := .none },
  { cls := 18, slots := #[.int (-69)], vm := .none },
  { cls := 18, slots := #[.int (-68)], vm := .none },
  { cls := 18, slots := #[.int (-67)], vm := .none },
  { cls := 18, slots := #[.int (-66)], vm := .none },
  { cls := 18, slots := #[.int (-65)], vm := .none },
  { cls := 18, slots := #[.int (-64)], vm := .none },
  { cls := 18, slots := #[.int (-63)], vm := .none },
  { cls := 18, slots := #[.int (-62)], vm := .none },
  { cls := 18, slots := #[.int (-61)], vm := .none },
  { cls := 18, slots := #[.int (-60)], vm := .none },
  { cls := 18, slots := #[.int (-59)], vm := .none },
  { cls := 18, slots := #[.int (-58)], vm := .none },
  { cls := 18, slots := #[.int (-57)], vm := .none },
  { cls := 18, slots := #[.int (-56)], vm := .none },
  { cls := 18, slots := #[.int (-55)], vm := .none },
  { cls := 18, slots := #[.int (-54)], vm := .none },
  { cls := 18, slots := #[.int (-53)], vm := .none },
  { cls := 18, slots := #[.int (-52)], vm := .none },
  { cls := 18, slots := #[.int (-51)], vm := .none },
  { cls := 18, slots := #[.int (-50)], vm := .none },
  { cls := 18, slots := #[.int (-49)], vm := .none },
  { cls := 18, slots := #[.int (-48)], vm := .none },
  { cls := 18, slots := #[.int (-47)], vm := .none },
  { cls := 18, slots := #[.int (-46)], vm := .none },
  { cls := 18, slots := #[.int (-45)], vm := .none },
  { cls := 18, slots := #[.int (-44)], vm := .none },
  { cls := 18, slots := #[.int (-43)], vm := .none },
  { cls := 18, slots := #[.int (-42)], vm := .none },
  { cls := 18, slots := #[.int (-41)], vm := .none },
  { cls := 18, slots := #[.int (-40)], vm := .none },
  { cls := 18, slots := #[.int (-39)], vm := .none },
  { cls := 18, slots := #[.int (-38)], vm := .none },
  { cls := 18, slots := #[.int (-37)], vm := .none },
  { cls := 18, slots := #[.int (-36)], vm := .none },
  { cls := 18, slots := #[.int (-35)], vm := .none },
  { cls := 18, slots := #[.int (-34)], vm := .none },
  { cls := 18, slots := #[.int (-33)], vm := .none },
  { cls := 18, slots := #[.int (-32)], vm := .none },
  { cls := 18, slots := #[.int (-31)], vm := .none },
  { cls := 18, slots := #[.int (-30)], vm := .none },
  { cls := 18, slots := #[.int (-29)], vm := .none },
  { cls := 18, slots := #[.int (-28)], vm := .none },
  { cls := 18, slots := #[.int (-27)], vm := .none },
  { cls := 18, slots := #[.int (-26)], vm := .none },
  { cls := 18, slots := #[.int (-25)], vm := .none },
  { cls := 18, slots := #[.int (-24)], vm := .none },
  { cls := 18, slots := #[.int (-23)], vm := .none },
  { cls := 18, slots := #[.int (-22)], vm := .none },
  { cls := 18, slots := #[.int (-21)], vm := .none },
  { cls := 18, slots := #[.int (-20)], vm := .none },
  { cls := 18, slots := #[.int (-19)], vm := .none },
  { cls := 18, slots := #[.int (-18)], vm := .none },
  { cls := 18, slots := #[.int (-17)], vm := .none },
  { cls := 18, slots := #[.int (-16)], vm := .none },
  { cls := 18, slots := #[.int (-15)], vm := .none },
  { cls := 18, slots := #[.int (-14)], vm := .none },
  { cls := 18, slots := #[.int (-13)], vm := .none },
  { cls := 18, slots := #[.int (-12)], vm := .none },
  { cls := 18, slots := #[.int (-11)], vm := .none },
  { cls := 18, slots := #[.int (-10)], vm := .none },
  { cls := 18, slots := #[.int (-9)], vm := .none },
  { cls := 18, slots := #[.int (-8)], vm := .none },
  { cls := 18, slots := #[.int (-7)], vm := .none },
  { cls := 18, slots := #[.int (-6)], vm := .none },
  { cls := 18, slots := #[.int (-5)], vm := .none },
  { cls := 18, slots := #[.int (-4)], vm := .none },
  { cls := 18, slots := #[.int (-3)], vm := .none },
  { cls := 18, slots := #[.int (-2)], vm := .none },
  { cls := 18, slots := #[.int (-1)], vm := .none },
  { cls := 18, slots := #[.int (0)], vm := .none },
  { cls := 18, slots := #[.int (1)], vm := .none },
  { cls := 18, slots := #[.int (2)], vm := .none },
  { cls := 18, slots := #[.int (3)], vm := .none },
  { cls := 18, slots := #[.int (4)], vm := .none },
  { cls := 18, slots := #[.int (5)], vm := .none },
  { cls := 18, slots := #[.int (6)], vm := .none },
  { cls := 18, slots := #[.int (7)], vm := .none },
  { cls := 18, slots := #[.int (8)], vm := .none },
  { cls := 18, slots := #[.int (9)], vm := .none },
  { cls := 18, slots := #[.int (10)], vm := .none },
  { cls := 18, slots := #[.int (11)], vm := .none },
  { cls := 18, slots := #[.int (12)], vm := .none },
  { cls := 18, slots := #[.int (13)], vm := .none },
  { cls := 18, slots := #[.int (14)], vm := .none },
  { cls := 18, slots := #[.int (15)], vm := .none },
  { cls := 18, slots := #[.int (16)], vm := .none },
  { cls := 18, slots := #[.int (17)], vm := .none },
  { cls := 18, slots := #[.int (18)], vm := .none },
  { cls := 18, slots := #[.int (19)], vm := .none },
  { cls := 18, slots := #[.int (20)], vm := .none },
  { cls := 18, slots := #[.int (21)], vm := .none },
  { cls := 18, slots := #[.int (22)], vm := .none },
  { cls := 18, slots := #[.int (23)], vm := .none },
  { cls := 18, slots := #[.int (24)], vm := .none },
  { cls := 18, slots := #[.int (25)], vm := .none },
  { cls := 18, slots := #[.int (26)], vm := .none },
  { cls := 18, slots := #[.int (27)], vm := .none },
  { cls := 18, slots := #[.int (28)], vm := .none },
  { cls := 18, slots := #[.int (29)], vm := .none },
  { cls := 18, slots := #[.int (30)], vm := .none },
  { cls := 18, slots := #[.int (31)], vm := .none },
  { cls := 18, slots := #[.int (32)], vm := .none },
  { cls := 18, slots := #[.int (33)], vm := .none },
  { cls := 18, slots := #[.int (34)], vm := .none },
  { cls := 18, slots := #[.int (35)], vm := .none },
  { cls := 18, slots := #[.int (36)], vm := .none },
  { cls := 18, slots := #[.int (37)], vm := .none },
  { cls := 18, slots := #[.int (38)], vm := .none },
  { cls := 18, slots := #[.int (39)], vm := .none },
  { cls := 18, slots := #[.int (40)], vm := .none },
  { cls := 18, slots := #[.int (41)], vm := .none },
  { cls := 18, slots := #[.int (42)], vm := .none },
  { cls := 18, slots := #[.int (43)], vm := .none },
  { cls := 18, slots := #[.int (44)], vm := .none },
  { cls := 18, slots := #[.int (45)], vm := .none },
  { cls := 18, slots := #[.int (46)], vm := .none },
  { cls := 18, slots := #[.int (47)], vm := .none },
  { cls := 18, slots := #[.int (48)], vm := .none },
  { cls := 18, slots := #[.int (49)], vm := .none },
  { cls := 18, slots := #[.int (50)], vm := .none },
  { cls := 18, slots := #[.int (51)], vm := .none },
  { cls := 18, slots := #[.int (52)], vm := .none },
  { cls := 18, slots := #[.int (53)], vm := .none },
  { cls := 18, slots := #[.int (54)], vm := .none },
  { cls := 18, slots := #[.int (55)], vm := .none },
  { cls := 18, slots := #[.int (56)], vm := .none },
  { cls := 18, slots := #[.int (57)], vm := .none },
  { cls := 18, slots := #[.int (58)], vm := .none },
  { cls := 18, slots := #[.int (59)], vm := .none },
  { cls := 18, slots := #[.int (60)], vm := .none },
  { cls := 18, slots := #[.int (61)], vm := .none },
  { cls := 18, slots := #[.int (62)], vm := .none },
  { cls := 18, slots := #[.int (63)], vm := .none },
  { cls := 18, slots := #[.int (64)], vm := .none },
  { cls := 18, slots := #[.int (65)], vm := .none },
  { cls := 18, slots := #[.int (66)], vm := .none },
  { cls := 18, slots := #[.int (67)], vm := .none },
  { cls := 18, slots := #[.int (68)], vm := .none },
  { cls := 18, slots := #[.int (69)], vm := .none },
  { cls := 18, slots := #[.int (70)], vm := .none },
  { cls := 18, slots := #[.int (71)], vm := .none },
  { cls := 18, slots := #[.int (72)], vm := .none },
  { cls := 18, slots := #[.int (73)], vm := .none },
  { cls := 18, slots := #[.int (74)], vm := .none },
  { cls := 18, slots := #[.int (75)], vm := .none },
  { cls := 18, slots := #[.int (76)], vm := .none },
  { cls := 18, slots := #[.int (77)], vm := .none },
  { cls := 18, slots := #[.int (78)], vm := .none },
  { cls := 18, slots := #[.int (79)], vm := .none },
  { cls := 18, slots := #[.int (80)], vm := .none },
  { cls := 18, slots := #[.int (81)], vm := .none },
  { cls := 18, slots := #[.int (82)], vm := .none },
  { cls := 18, slots := #[.int (83)], vm := .none },
  { cls := 18, slots := #[.int (84)], vm := .none },
  { cls := 18, slots := #[.int (85)], vm := .none },
  { cls := 18, slots := #[.int (86)], vm := .none },
  { cls := 18, slots := #[.int (87)], vm := .none },
  { cls := 18, slots := #[.int (88)], vm := .none },
  { cls := 18, slots := #[.int (89)], vm := .none },
  { cls := 18, slots := #[.int (90)], vm := .none },
  { cls := 18, slots := #[.int (91)], vm := .none },
  { cls := 18, slots := #[.int (92)], vm := .none },
  { cls := 18, slots := #[.int (93)], vm := .none },
  { cls := 18, slots := #[.int (94)], vm := .none },
  { cls := 18, slots := #[.int (95)], vm := .none },
  { cls := 18, slots := #[.int (96)], vm := .none },
  { cls := 18, slots := #[.int (97)], vm := .none },
  { cls := 18, slots := #[.int (98)], vm := .none },
  { cls := 18, slots := #[.int (99)], vm := .none },
  { cls := 18, slots := #[.int (100)], vm := .none },
  { cls := 18, slots := #[.int (101)], vm := .none },
  { cls := 18, slots := #[.int (102)], vm := .none },
  { cls := 18, slots := #[.int (103)], vm := .none },
  { cls := 18, slots := #[.int (104)], vm := .none },
  { cls := 18, slots := #[.int (105)], vm := .none },
  { cls := 18, slots := #[.int (106)], vm := .none },
  { cls := 18, slots := #[.int (107)], vm := .none },
  { cls := 18, slots := #[.int (108)], vm := .none },
  { cls := 18, slots := #[.int (109)], vm := .none },
  { cls := 18, slots := #[.int (110)], vm := .none },
  { cls := 18, slots := #[.int (111)], vm := .none },
  { cls := 18, slots := #[.int (112)], vm := .none },
  { cls := 18, slots := #[.int (113)], vm := .none },
  { cls := 18, slots := #[.int (114)], vm := .none },
  { cls := 18, slots := #[.int (115)], vm := .none },
  { cls := 18, slots := #[.int (116)], vm := .none },
  { cls := 18, slots := #[.int (117)], vm := .none },
  { cls := 18, slots := #[.int (118)], vm := .none },
  { cls := 18, slots := #[.int (119)], vm := .none },
  { cls := 18, slots := #[.int (120)], vm := .none },
  { cls := 18, slots := #[.int (121)], vm := .none },
  { cls := 18, slots := #[.int (122)], vm := .none },
  { cls := 18, slots := #[.int (123)], vm := .none },
  { cls := 18, slots := #[.int (124)], vm := .none },
  { cls := 18, slots := #[.int (125)], vm := .none },
  { cls := 18, slots := #[.int (126)], vm := .none },
  { cls := 18, slots := #[.int (127)], vm := .none },
  { cls := 11, slots := #[.null, .int 0, .int 0], vm := .none },
  { cls := 11, slots := #[.null, .int 1, .int 0], vm := .none },
  { cls := 11, slots := #[.null, .int 2, .int 0], vm := .none },
  { cls := 16, slots := #[], vm := .none },
  { cls := 29, slots := #[.int 1207963663, .int 1207963663, .int 1207963663, .int 1207963663, .int 1207963663, .int 1207963663, .int 1207963663, .int 1207963663, .int 1207963663, .int 1476411407, .int 1342193679, .int 1476411407, .int 1610629135, .int 1342193679, .int 1207963663, .int 1207963663, .int 1207963663, .int 1207963663, .int 1207963663, .int 1207963663, .int 1207963663, .int 1207963663, .int 1207963663, .int 1207963663, .int 1207963663, .int 1207963663, .int 1207963663, .int 1207963663, .int 1342193679, .int 1342193679, .int 1342193679, .int 1476411407, .int 1610629132, .int 1744830488, .int 1744830488, .int 671088664, .int 671113242, .int 671088664, .int 1744830488, .int 1744830488, .int (-402653163), .int (-402653162), .int 1744830488, .int 536870937, .int 939524120, .int 536870932, .int 939524120, .int 939524120, .int 402667017, .int 402667017, .int 402667017, .int 402667017, .int 402667017, .int 402667017, .int 402667017, .int 402667017, .int 402667017, .int 402667017, .int 939524120, .int 1744830488, .int (-402653159), .int 1744830489, .int (-402653159), .int 1744830488, .int 1744830488, .int 8552417, .int 8552417, .int 8552417, .int 8552417, .int 8552417, .int 8552417, .int 8552417, .int 8552417, .int 8552417, .int 8552417, .int 8552417, .int 8552417, .int 8552417, .int 8552417, .int 8552417, .int 8552417, .int 8552417, .int 8552417, .int 8552417, .int 8552417, .int 8552417, .int 8552417, .int 8552417, .int 8552417, .int 8552417, .int 8552417, .int (-402653163), .int 1744830488, .int (-402653162), .int 1744830491, .int 1744850967, .int 1744830491, .int 8486882, .int 8486882, .int 8486882, .int 8486882, .int 8486882, .int 8486882, .int 8486882, .int 8486882, .int 8486882, .int 8486882, .int 8486882, .int 8486882, .int 8486882, .int 8486882, .int 8486882, .int 8486882, .int 8486882, .int 8486882, .int 8486882, .int 8486882, .int 8486882, .int 8486882, .int 8486882, .int 8486882, .int 8486882, .int 8486882, .int (-402653163), .int 1744830489, .int (-402653162), .int 1744830489, .int 1207963663, .int 1207963663, .int 1207963663, .int 1207963663, .int 1207963663, .int 1207963663, .int 1342181391, .int 1207963663, .int 1207963663, .int 1207963663, .int 1207963663, .int 1207963663, .int 1207963663, .int 1207963663, .int 1207963663, .int 1207963663, .int 1207963663, .int 1207963663, .int 1207963663, .int 1207963663, .int 1207963663, .int 1207963663, .int 1207963663, .int 1207963663, .int 1207963663, .int 1207963663, .int 1207963663, .int 1207963663, .int 1207963663, .int 1207963663, .int 1207963663, .int 1207963663, .int 1207963663, .int 939524108, .int 1744830488, .int 671113242, .int 671113242, .int 671113242, .int 671113242, .int 1744830492, .int 1744830488, .int 1744830491, .int 1744830492, .int 28677, .int (-402653155), .int 1744830489, .int 1207963664, .int 1744830492, .int 1744830491, .int 671088668, .int 671088665, .int 402654731, .int 402654731, .int 1744830491, .int 134049794, .int 1744830488, .int 1744830488, .int 1744830491, .int 402654475, .int 28677, .int (-402653154), .int 1744832523, .int 1744832523, .int 1744832523, .int 1744830488, .int 8548353, .int 8548353, .int 8548353, .int 8548353, .int 8548353, .int 8548353, .int 8548353, .int 8548353, .int 8548353, .int 8548353, .int 8548353, .int 8548353, .int 8548353, .int 8548353, .int 8548353, .int 8548353, .int 8548353, .int 8548353, .int 8548353, .int 8548353, .int 8548353, .int 8548353, .int 8548353, .int 1744830489, .int 8548353, .int 8548353, .int 8548353, .int 8548353, .int 8548353, .int 8548353, .int 8548353, .int 134049794, .int 8482818, .int 8482818, .int 8482818, .int 8482818, .int 8482818, .int 8482818, .int 8482818, .int 8482818, .int 8482818, .int 8482818, .int 8482818, .int 8482818, .int 8482818, .int 8482818, .int 8482818, .int 8482818, .int 8482818, .int 8482818, .int 8482818, .int 8482818, .int 8482818, .int 8482818, .int 8482818, .int 1744830489, .int 8482818, .int 8482818, .int 8482818, .int 8482818, .int 8482818, .int 8482818, .int 8482818, .int 102592514], vm := .none }]
def classes : Array Class := #[k0, k1, k2, k3, k4, k5, k6, k7, k8, k9, k10, k11, k12, k13, k14, k15, k16, k17, k18, k19, k20, k21, k22, k23, k24, k25, k26, k27, k28, k29, k30]
def interned : List (Array UInt16 × Addr) := []
def slotsUsed : Nat := 822
def theMethod : MethodId := ⟨1, 1⟩
def args0 : Array Value := #[.int 1, .int 5, .int 6, .int 700, .int 900, .int 0]
def aboutOver (below : List Frame) : State where
  vm := { classes := classes, interned := interned.toArray }
  heap := heap
  slotsUsed := slotsUsed
  threads := #[{ frames := .invoking theMethod args0 :: below }]
def below0 : List Frame := [.native { method := ⟨0, 0⟩, args := #[] }]
def about1 : State := aboutOver below0
def p0 : Program := .bare "" "" ""
def e0 : Env := launch0.env 0 0 0
theorem w_frames : about1.frames = Frame.invoking theMethod args0 :: below0 := rfl
set_option maxRecDepth 65536 in
theorem w_args : argsFit about1.vm theMethod args0 = true := by decide +kernel
set_option maxRecDepth 65536 in
theorem w_heap : heapFits about1 = true := by decide +kernel
set_option maxRecDepth 65536 in
theorem w_runnable : about1.curStatus? = some .runnable := by decide +kernel
set_option maxRecDepth 65536 in
theorem w_alone : about1.alone = true := by decide +kernel
set_option maxRecDepth 65536 in
theorem w_named : about1.methodNamed? x = some theMethod := by decide +kernel
set_option maxRecDepth 65536 in
theorem w_hears : about1.hears theMethod below0 = true := by decide +kernel
set_option maxRecDepth 65536 in
theorem w_ripe : about1.ripe theMethod args0 below0 = true := by decide +kernel
theorem w_running : about1.status = .running := rfl
set_option maxRecDepth 65536 in
theorem w_room : about1.hasRoom e0.platform room_1 = true :=
  launch0.hasRoom_least _ room_1 (by decide +kernel) (by decide +kernel) (by decide +kernel) (by decide +kernel) (by decide +kernel) (by decide +kernel)
theorem allAtoms_all (ts : List Jvm.Cond) (a : Array Jvm.Value) (st : Jvm.State) : (allAtoms ts).before a st = ts.all (fun c => c.before a st) := by
  induction ts with
  | nil => rfl
  | cons c t ih =>
    show (Jvm.Cond.and c (allAtoms t)).before a st = _
    rw [Jvm.Cond.before_and, ih, List.all_cons]
def words1 : List Jvm.Cond := Jvm.Cond.code x code maxLocals ret :: tables_1
/-- a 'code' word, met by the world's own term for the bytes: nothing is compared byte by byte -/
theorem code_word {y : MethodName} {bytes : ByteArray} {mx : Nat} {rt : Option FieldType} {a : Array Value} {s : State} {m : MethodId} {meth : Method} {c : Code} (h1 : s.methodNamed? y = some m) (h2 : s.vm.method? m = some meth) (h3 : meth.code = some c) (h4 : c.code = bytes)
    (h5 : (c.maxLocals == mx && c.exceptionTable.isEmpty && decide (c.maxStack ≤ mostOperands) && decide (meth.sig.returnType = rt) && !meth.locks && decide (parseMethodDescriptor y.desc = some meth.sig)) = true) : (Jvm.Cond.code y bytes mx rt).before a s = true := by
  simp only [Bool.and_eq_true, beq_iff_eq, Bool.not_eq_true', decide_eq_true_eq] at h5
  obtain ⟨⟨⟨⟨⟨g1, g2⟩, g3⟩, g4⟩, g5⟩, g6⟩ := h5
  simp [Cond.before, Cond.holds, Cond.value, h1, h2, h3, h4, g1, g2, g3, g4, g5, g6]
def isCode : Jvm.Cond → Bool
  | .code _ _ _ _ => true
  | _ => false
theorem all_split {L : List Jvm.Cond} {P : Jvm.Cond → Bool} (h1 : L.all (fun c => isCode c || P c) = true) (h2 : ∀ c ∈ L.filter isCode, P c = true) : L.all P = true := by
  refine List.all_eq_true.mpr fun c hc => ?_
  have h := List.all_eq_true.mp h1 c hc
  rcases Bool.eq_false_or_eq_true (isCode c) with hi | hi
  · exact h2 c (List.mem_filter.mpr ⟨hc, hi⟩)
  · simpa [hi] using h
set_option maxRecDepth 65536 in
theorem w_c0 : (Jvm.Cond.code x code maxLocals ret).before args0 about1 = true := code_word (m := ⟨1, 1⟩) (meth := k1m1) (c := k1c1) (by decide +kernel) rfl rfl rfl (by decide +kernel)
set_option maxRecDepth 65536 in
theorem w_c1 : (Jvm.Cond.code ({ cls := "com/example/wireform/wireform/rules/VerdictEqualsPinLaw", name := "lineFor", desc := "(II)I" } : Jvm.MethodName) method_4_code (2 : Nat) (Option.some Jvm.ClassFile.FieldType.int)).before args0 about1 = true := code_word (m := ⟨1, 3⟩) (meth := k1m3) (c := k1c3) (by decide +kernel) rfl rfl rfl (by decide +kernel)
set_option maxRecDepth 65536 in
theorem w_c2 : (Jvm.Cond.code ({ cls := "com/example/wireform/wireform/rules/VerdictEqualsPinLaw", name := "first", desc := "(I)I" } : Jvm.MethodName) method_5_code (1 : Nat) (Option.some Jvm.ClassFile.FieldType.int)).before args0 about1 = true := code_word (m := ⟨1, 4⟩) (meth := k1m4) (c := k1c4) (by decide +kernel) rfl rfl rfl (by decide +kernel)
set_option maxRecDepth 65536 in
theorem w_c3 : (Jvm.Cond.code ({ cls := "com/example/wireform/wireform/rules/VerdictEqualsPinLaw", name := "second", desc := "(I)I" } : Jvm.MethodName) method_6_code (2 : Nat) (Option.some Jvm.ClassFile.FieldType.int)).before args0 about1 = true := code_word (m := ⟨1, 5⟩) (meth := k1m5) (c := k1c5) (by decide +kernel) rfl rfl rfl (by decide +kernel)
set_option maxRecDepth 65536 in
theorem w_c4 : (Jvm.Cond.code ({ cls := "com/example/wireform/wireform/rules/VerdictEqualsPinLaw", name := "nameFor", desc := "(III)Ljava/lang/String;" } : Jvm.MethodName) method_7_code (4 : Nat) (Option.some (Jvm.ClassFile.FieldType.object "java/lang/String"))).before args0 about1 = true := code_word (m := ⟨1, 6⟩) (meth := k1m6) (c := k1c6) (by decide +kernel) rfl rfl rfl (by decide +kernel)
set_option maxRecDepth 65536 in
theorem w_c5 : (Jvm.Cond.code ({ cls := "com/example/wireform/wireform/rules/VerdictEqualsPinLaw", name := "kindOf", desc := "(I)Lcom/example/wireform/wireform/rules/Verdict$Kind;" } : Jvm.MethodName) method_3_code (1 : Nat) (Option.some (Jvm.ClassFile.FieldType.object "com/example/wireform/wireform/rules/Verdict$Kind"))).before args0 about1 = true := code_word (m := ⟨1, 2⟩) (meth := k1m2) (c := k1c2) (by decide +kernel) rfl rfl rfl (by decide +kernel)
set_option maxRecDepth 65536 in
theorem w_c6 : (Jvm.Cond.code ({ cls := "com/example/wireform/wireform/rules/Verdict", name := "<init>", desc := "(Lcom/example/wireform/wireform/rules/Verdict$Kind;ILjava/lang/String;)V" } : Jvm.MethodName) prog_47_method_1_code (6 : Nat) (Option.none : Option Jvm.ClassFile.FieldType)).before args0 about1 = true := code_word (m := ⟨9, 0⟩) (meth := k9m0) (c := k9c0) (by decide +kernel) rfl rfl rfl (by decide +kernel)
set_option maxRecDepth 65536 in
theorem w_c7 : (Jvm.Cond.code ({ cls := "java/lang/Record", name := "<init>", desc := "()V" } : Jvm.MethodName) jdk_30_method_1_code (1 : Nat) (Option.none : Option Jvm.ClassFile.FieldType)).before args0 about1 = true := code_word (m := ⟨8, 0⟩) (meth := k8m0) (c := k8c0) (by decide +kernel) rfl rfl rfl (by decide +kernel)
set_option maxRecDepth 65536 in
theorem w_c8 : (Jvm.Cond.code ({ cls := "java/lang/Object", name := "<init>", desc := "()V" } : Jvm.MethodName) object_method_1_code (1 : Nat) (Option.none : Option Jvm.ClassFile.FieldType)).before args0 about1 = true := code_word (m := ⟨0, 0⟩) (meth := k0m0) (c := k0c0) (by decide +kernel) rfl rfl rfl (by decide +kernel)
set_option maxRecDepth 65536 in
theorem w_c9 : (Jvm.Cond.code ({ cls := "java/util/Objects", name := "requireNonNull", desc := "(Ljava/lang/Object;Ljava/lang/String;)Ljava/lang/Object;" } : Jvm.MethodName) jdk_31_method_11_code (2 : Nat) (Option.some (Jvm.ClassFile.FieldType.object "java/lang/Object"))).before args0 about1 = true := code_word (m := ⟨12, 1⟩) (meth := k12m1) (c := k12c1) (by decide +kernel) rfl rfl rfl (by decide +kernel)
set_option maxRecDepth 65536 in
theorem w_c10 : (Jvm.Cond.code ({ cls := "java/lang/String", name := "isEmpty", desc := "()Z" } : Jvm.MethodName) jdk_42_method_55_code (1 : Nat) (Option.some Jvm.ClassFile.FieldType.boolean)).before args0 about1 = true := code_word (m := ⟨7, 3⟩) (meth := k7m3) (c := k7c3) (by decide +kernel) rfl rfl rfl (by decide +kernel)
set_option maxRecDepth 65536 in
theorem w_c11 : (Jvm.Cond.code ({ cls := "java/lang/String", name := "indexOf", desc := "(I)I" } : Jvm.MethodName) jdk_42_method_79_code (2 : Nat) (Option.some Jvm.ClassFile.FieldType.int)).before args0 about1 = true := code_word (m := ⟨7, 5⟩) (meth := k7m5) (c := k7c5) (by decide +kernel) rfl rfl rfl (by decide +kernel)
set_option maxRecDepth 65536 in
theorem w_c12 : (Jvm.Cond.code ({ cls := "java/lang/String", name := "indexOf", desc := "(II)I" } : Jvm.MethodName) jdk_42_method_80_code (3 : Nat) (Option.some Jvm.ClassFile.FieldType.int)).before args0 about1 = true := code_word (m := ⟨7, 6⟩) (meth := k7m6) (c := k7c6) (by decide +kernel) rfl rfl rfl (by decide +kernel)
set_option maxRecDepth 65536 in
theorem w_c13 : (Jvm.Cond.code ({ cls := "java/lang/String", name := "isLatin1", desc := "()Z" } : Jvm.MethodName) jdk_42_method_154_code (1 : Nat) (Option.some Jvm.ClassFile.FieldType.boolean)).before args0 about1 = true := code_word (m := ⟨7, 13⟩) (meth := k7m13) (c := k7c13) (by decide +kernel) rfl rfl rfl (by decide +kernel)
set_option maxRecDepth 65536 in
theorem w_c14 : (Jvm.Cond.code ({ cls := "java/lang/String", name := "length", desc := "()I" } : Jvm.MethodName) jdk_42_method_54_code (1 : Nat) (Option.some Jvm.ClassFile.FieldType.int)).before args0 about1 = true := code_word (m := ⟨7, 2⟩) (meth := k7m2) (c := k7c2) (by decide +kernel) rfl rfl rfl (by decide +kernel)
set_option maxRecDepth 65536 in
theorem w_c15 : (Jvm.Cond.code ({ cls := "java/lang/String", name := "coder", desc := "()B" } : Jvm.MethodName) jdk_42_method_152_code (1 : Nat) (Option.some Jvm.ClassFile.FieldType.byte)).before args0 about1 = true := code_word (m := ⟨7, 12⟩) (meth := k7m12) (c := k7c12) (by decide +kernel) rfl rfl rfl (by decide +kernel)
set_option maxRecDepth 65536 in
theorem w_c16 : (Jvm.Cond.code ({ cls := "java/lang/StringLatin1", name := "indexOf", desc := "([BIII)I" } : Jvm.MethodName) jdk_43_method_22_code (4 : Nat) (Option.some Jvm.ClassFile.FieldType.int)).before args0 about1 = true := code_word (m := ⟨13, 4⟩) (meth := k13m4) (c := k13c4) (by decide +kernel) rfl rfl rfl (by decide +kernel)
set_option maxRecDepth 65536 in
theorem w_c17 : (Jvm.Cond.code ({ cls := "java/lang/StringLatin1", name := "canEncode", desc := "(I)Z" } : Jvm.MethodName) jdk_43_method_4_code (1 : Nat) (Option.some Jvm.ClassFile.FieldType.boolean)).before args0 about1 = true := code_word (m := ⟨13, 2⟩) (meth := k13m2) (c := k13c2) (by decide +kernel) rfl rfl rfl (by decide +kernel)
set_option maxRecDepth 65536 in
theorem w_c18 : (Jvm.Cond.code ({ cls := "java/lang/Math", name := "max", desc := "(II)I" } : Jvm.MethodName) jdk_29_method_65_code (2 : Nat) (Option.some Jvm.ClassFile.FieldType.int)).before args0 about1 = true := code_word (m := ⟨14, 1⟩) (meth := k14m1) (c := k14c1) (by decide +kernel) rfl rfl rfl (by decide +kernel)
set_option maxRecDepth 65536 in
theorem w_c19 : (Jvm.Cond.code ({ cls := "java/lang/Math", name := "min", desc := "(II)I" } : Jvm.MethodName) jdk_29_method_69_code (2 : Nat) (Option.some Jvm.ClassFile.FieldType.int)).before args0 about1 = true := code_word (m := ⟨14, 2⟩) (meth := k14m2) (c := k14c2) (by decide +kernel) rfl rfl rfl (by decide +kernel)
set_option maxRecDepth 65536 in
theorem w_c20 : (Jvm.Cond.code ({ cls := "com/example/wireform/wireform/rules/Verdict", name := "equals", desc := "(Ljava/lang/Object;)Z" } : Jvm.MethodName) prog_47_method_5_code (3 : Nat) (Option.some Jvm.ClassFile.FieldType.boolean)).before args0 about1 = true := code_word (m := ⟨9, 1⟩) (meth := k9m1) (c := k9c1) (by decide +kernel) rfl rfl rfl (by decide +kernel)
set_option maxRecDepth 65536 in
theorem w_c21 : (Jvm.Cond.code ({ cls := "java/lang/String", name := "equals", desc := "(Ljava/lang/Object;)Z" } : Jvm.MethodName) jdk_42_method_66_code (3 : Nat) (Option.some Jvm.ClassFile.FieldType.boolean)).before args0 about1 = true := code_word (m := ⟨7, 4⟩) (meth := k7m4) (c := k7c4) (by decide +kernel) rfl rfl rfl (by decide +kernel)
set_option maxRecDepth 65536 in
theorem w_c22 : (Jvm.Cond.code ({ cls := "java/lang/String", name := "valueOf", desc := "(C)Ljava/lang/String;" } : Jvm.MethodName) jdk_42_method_139_code (1 : Nat) (Option.some (Jvm.ClassFile.FieldType.object "java/lang/String"))).before args0 about1 = true := code_word (m := ⟨7, 9⟩) (meth := k7m9) (c := k7c9) (by decide +kernel) rfl rfl rfl (by decide +kernel)
set_option maxRecDepth 65536 in
theorem w_c23 : (Jvm.Cond.code ({ cls := "java/lang/StringLatin1", name := "canEncode", desc := "(C)Z" } : Jvm.MethodName) jdk_43_method_3_code (1 : Nat) (Option.some Jvm.ClassFile.FieldType.boolean)).before args0 about1 = true := code_word (m := ⟨13, 1⟩) (meth := k13m1) (c := k13c1) (by decide +kernel) rfl rfl rfl (by decide +kernel)
set_option maxRecDepth 65536 in
theorem w_c24 : (Jvm.Cond.code ({ cls := "java/lang/StringLatin1", name := "toBytes", desc := "(C)[B" } : Jvm.MethodName) jdk_43_method_46_code (1 : Nat) (Option.some (Jvm.ClassFile.FieldType.array Jvm.ClassFile.FieldType.byte))).before args0 about1 = true := code_word (m := ⟨13, 8⟩) (meth := k13m8) (c := k13c8) (by decide +kernel) rfl rfl rfl (by decide +kernel)
set_option maxRecDepth 65536 in
theorem w_c25 : (Jvm.Cond.code ({ cls := "java/lang/String", name := "<init>", desc := "([BB)V" } : Jvm.MethodName) jdk_42_method_151_code (3 : Nat) (Option.none : Option Jvm.ClassFile.FieldType)).before args0 about1 = true := code_word (m := ⟨7, 11⟩) (meth := k7m11) (c := k7c11) (by decide +kernel) rfl rfl rfl (by decide +kernel)
set_option maxRecDepth 65536 in
theorem w_c26 : (Jvm.Cond.code ({ cls := "java/lang/String", name := "isBlank", desc := "()Z" } : Jvm.MethodName) jdk_42_method_117_code (1 : Nat) (Option.some Jvm.ClassFile.FieldType.boolean)).before args0 about1 = true := code_word (m := ⟨7, 7⟩) (meth := k7m7) (c := k7c7) (by decide +kernel) rfl rfl rfl (by decide +kernel)
set_option maxRecDepth 65536 in
theorem w_c27 : (Jvm.Cond.code ({ cls := "java/lang/String", name := "indexOfNonWhitespace", desc := "()I" } : Jvm.MethodName) jdk_42_method_120_code (1 : Nat) (Option.some Jvm.ClassFile.FieldType.int)).before args0 about1 = true := code_word (m := ⟨7, 8⟩) (meth := k7m8) (c := k7c8) (by decide +kernel) rfl rfl rfl (by decide +kernel)
set_option maxRecDepth 65536 in
theorem w_c28 : (Jvm.Cond.code ({ cls := "java/lang/StringLatin1", name := "indexOfNonWhitespace", desc := "([B)I" } : Jvm.MethodName) jdk_43_method_37_code (4 : Nat) (Option.some Jvm.ClassFile.FieldType.int)).before args0 about1 = true := code_word (m := ⟨13, 6⟩) (meth := k13m6) (c := k13c6) (by decide +kernel) rfl rfl rfl (by decide +kernel)
set_option maxRecDepth 65536 in
theorem w_c29 : (Jvm.Cond.code ({ cls := "java/lang/StringLatin1", name := "getChar", desc := "([BI)C" } : Jvm.MethodName) jdk_43_method_44_code (2 : Nat) (Option.some Jvm.ClassFile.FieldType.char)).before args0 about1 = true := code_word (m := ⟨13, 7⟩) (meth := k13m7) (c := k13c7) (by decide +kernel) rfl rfl rfl (by decide +kernel)
set_option maxRecDepth 65536 in
theorem w_c30 : (Jvm.Cond.code ({ cls := "java/lang/CharacterDataLatin1", name := "isWhitespace", desc := "(I)Z" } : Jvm.MethodName) jdk_116_method_26_code (3 : Nat) (Option.some Jvm.ClassFile.FieldType.boolean)).before args0 about1 = true := code_word (m := ⟨16, 1⟩) (meth := k16m1) (c := k16c1) (by decide +kernel) rfl rfl rfl (by decide +kernel)
set_option maxRecDepth 65536 in
theorem w_c31 : (Jvm.Cond.code ({ cls := "java/lang/CharacterDataLatin1", name := "getProperties", desc := "(I)I" } : Jvm.MethodName) jdk_116_method_1_code (4 : Nat) (Option.some Jvm.ClassFile.FieldType.int)).before args0 about1 = true := code_word (m := ⟨16, 0⟩) (meth := k16m0) (c := k16c0) (by decide +kernel) rfl rfl rfl (by decide +kernel)
set_option maxRecDepth 65536 in
theorem w_c32 : (Jvm.Cond.code ({ cls := "java/lang/StringLatin1", name := "indexOfChar", desc := "([BIII)I" } : Jvm.MethodName) jdk_43_method_23_code (6 : Nat) (Option.some Jvm.ClassFile.FieldType.int)).before args0 about1 = true := code_word (m := ⟨13, 5⟩) (meth := k13m5) (c := k13c5) (by decide +kernel) rfl rfl rfl (by decide +kernel)
set_option maxRecDepth 65536 in
theorem w_c33 : (Jvm.Cond.code ({ cls := "java/lang/Integer", name := "valueOf", desc := "(I)Ljava/lang/Integer;" } : Jvm.MethodName) jdk_33_method_22_code (1 : Nat) (Option.some (Jvm.ClassFile.FieldType.object "java/lang/Integer"))).before args0 about1 = true := code_word (m := ⟨18, 0⟩) (meth := k18m0) (c := k18c0) (by decide +kernel) rfl rfl rfl (by decide +kernel)
set_option maxRecDepth 65536 in
theorem w_c34 : (Jvm.Cond.code ({ cls := "java/lang/String", name := "<init>", desc := "([C)V" } : Jvm.MethodName) jdk_42_method_3_code (2 : Nat) (Option.none : Option Jvm.ClassFile.FieldType)).before args0 about1 = true := code_word (m := ⟨7, 1⟩) (meth := k7m1) (c := k7c1) (by decide +kernel) rfl rfl rfl (by decide +kernel)
set_option maxRecDepth 65536 in
theorem w_c35 : (Jvm.Cond.code ({ cls := "java/lang/String", name := "<init>", desc := "([CIILjava/lang/Void;)V" } : Jvm.MethodName) jdk_42_method_149_code (6 : Nat) (Option.none : Option Jvm.ClassFile.FieldType)).before args0 about1 = true := code_word (m := ⟨7, 10⟩) (meth := k7m10) (c := k7c10) (by decide +kernel) rfl rfl rfl (by decide +kernel)
set_option maxRecDepth 65536 in
theorem w_c36 : (Jvm.Cond.code ({ cls := "java/lang/StringUTF16", name := "compress", desc := "([CII)[B" } : Jvm.MethodName) jdk_52_method_16_code (6 : Nat) (Option.some (Jvm.ClassFile.FieldType.array Jvm.ClassFile.FieldType.byte))).before args0 about1 = true := code_word (m := ⟨20, 2⟩) (meth := k20m2) (c := k20c2) (by decide +kernel) rfl rfl rfl (by decide +kernel)
set_option maxRecDepth 65536 in
theorem w_c37 : (Jvm.Cond.code ({ cls := "java/lang/StringUTF16", name := "compress", desc := "([CI[BII)I" } : Jvm.MethodName) jdk_52_method_21_code (7 : Nat) (Option.some Jvm.ClassFile.FieldType.int)).before args0 about1 = true := code_word (m := ⟨20, 3⟩) (meth := k20m3) (c := k20c3) (by decide +kernel) rfl rfl rfl (by decide +kernel)
set_option maxRecDepth 65536 in
theorem w_c38 : (Jvm.Cond.code ({ cls := "java/lang/StringUTF16", name := "coderFromArrayLen", desc := "([BI)B" } : Jvm.MethodName) jdk_52_method_15_code (2 : Nat) (Option.some Jvm.ClassFile.FieldType.byte)).before args0 about1 = true := code_word (m := ⟨20, 1⟩) (meth := k20m1) (c := k20c1) (by decide +kernel) rfl rfl rfl (by decide +kernel)
set_option maxRecDepth 65536 in
theorem w_c39 : (Jvm.Cond.code ({ cls := "java/lang/StringLatin1", name := "equals", desc := "([B[B)Z" } : Jvm.MethodName) jdk_43_method_13_code (3 : Nat) (Option.some Jvm.ClassFile.FieldType.boolean)).before args0 about1 = true := code_word (m := ⟨13, 3⟩) (meth := k13m3) (c := k13c3) (by decide +kernel) rfl rfl rfl (by decide +kernel)
set_option maxRecDepth 65536 in
theorem w_c40 : (Jvm.Cond.code ({ cls := "java/lang/Integer", name := "<init>", desc := "(I)V" } : Jvm.MethodName) jdk_33_method_23_code (2 : Nat) (Option.none : Option Jvm.ClassFile.FieldType)).before args0 about1 = true := code_word (m := ⟨18, 1⟩) (meth := k18m1) (c := k18c1) (by decide +kernel) rfl rfl rfl (by decide +kernel)
set_option maxRecDepth 65536 in
theorem w_c41 : (Jvm.Cond.code ({ cls := "java/lang/Number", name := "<init>", desc := "()V" } : Jvm.MethodName) jdk_18_method_1_code (1 : Nat) (Option.none : Option Jvm.ClassFile.FieldType)).before args0 about1 = true := code_word (m := ⟨17, 0⟩) (meth := k17m0) (c := k17c0) (by decide +kernel) rfl rfl rfl (by decide +kernel)
def codes1 : List Jvm.Cond := [Jvm.Cond.code x code maxLocals ret, Jvm.Cond.code ({ cls := "com/example/wireform/wireform/rules/VerdictEqualsPinLaw", name := "lineFor", desc := "(II)I" } : Jvm.MethodName) method_4_code (2 : Nat) (Option.some Jvm.ClassFile.FieldType.int), Jvm.Cond.code ({ cls := "com/example/wireform/wireform/rules/VerdictEqualsPinLaw", name := "first", desc := "(I)I" } : Jvm.MethodName) method_5_code (1 : Nat) (Option.some Jvm.ClassFile.FieldType.int), Jvm.Cond.code ({ cls := "com/example/wireform/wireform/rules/VerdictEqualsPinLaw", name := "second", desc := "(I)I" } : Jvm.MethodName) method_6_code (2 : Nat) (Option.some Jvm.ClassFile.FieldType.int), Jvm.Cond.code ({ cls := "com/example/wireform/wireform/rules/VerdictEqualsPinLaw", name := "nameFor", desc := "(III)Ljava/lang/String;" } : Jvm.MethodName) method_7_code (4 : Nat) (Option.some (Jvm.ClassFile.FieldType.object "java/lang/String")), Jvm.Cond.code ({ cls := "com/example/wireform/wireform/rules/VerdictEqualsPinLaw", name := "kindOf", desc := "(I)Lcom/example/wireform/wireform/rules/Verdict$Kind;" } : Jvm.MethodName) method_3_code (1 : Nat) (Option.some (Jvm.ClassFile.FieldType.object "com/example/wireform/wireform/rules/Verdict$Kind")), Jvm.Cond.code ({ cls := "com/example/wireform/wireform/rules/Verdict", name := "<init>", desc := "(Lcom/example/wireform/wireform/rules/Verdict$Kind;ILjava/lang/String;)V" } : Jvm.MethodName) prog_47_method_1_code (6 : Nat) (Option.none : Option Jvm.ClassFile.FieldType), Jvm.Cond.code ({ cls := "java/lang/Record", name := "<init>", desc := "()V" } : Jvm.MethodName) jdk_30_method_1_code (1 : Nat) (Option.none : Option Jvm.ClassFile.FieldType), Jvm.Cond.code ({ cls := "java/lang/Object", name := "<init>", desc := "()V" } : Jvm.MethodName) object_method_1_code (1 : Nat) (Option.none : Option Jvm.ClassFile.FieldType), Jvm.Cond.code ({ cls := "java/util/Objects", name := "requireNonNull", desc := "(Ljava/lang/Object;Ljava/lang/String;)Ljava/lang/Object;" } : Jvm.MethodName) jdk_31_method_11_code (2 : Nat) (Option.some (Jvm.ClassFile.FieldType.object "java/lang/Object")), Jvm.Cond.code ({ cls := "java/lang/String", name := "isEmpty", desc := "()Z" } : Jvm.MethodName) jdk_42_method_55_code (1 : Nat) (Option.some Jvm.ClassFile.FieldType.boolean), Jvm.Cond.code ({ cls := "java/lang/String", name := "indexOf", desc := "(I)I" } : Jvm.MethodName) jdk_42_method_79_code (2 : Nat) (Option.some Jvm.ClassFile.FieldType.int), Jvm.Cond.code ({ cls := "java/lang/String", name := "indexOf", desc := "(II)I" } : Jvm.MethodName) jdk_42_method_80_code (3 : Nat) (Option.some Jvm.ClassFile.FieldType.int), Jvm.Cond.code ({ cls := "java/lang/String", name := "isLatin1", desc := "()Z" } : Jvm.MethodName) jdk_42_method_154_code (1 : Nat) (Option.some Jvm.ClassFile.FieldType.boolean), Jvm.Cond.code ({ cls := "java/lang/String", name := "length", desc := "()I" } : Jvm.MethodName) jdk_42_method_54_code (1 : Nat) (Option.some Jvm.ClassFile.FieldType.int), Jvm.Cond.code ({ cls := "java/lang/String", name := "coder", desc := "()B" } : Jvm.MethodName) jdk_42_method_152_code (1 : Nat) (Option.some Jvm.ClassFile.FieldType.byte), Jvm.Cond.code ({ cls := "java/lang/StringLatin1", name := "indexOf", desc := "([BIII)I" } : Jvm.MethodName) jdk_43_method_22_code (4 : Nat) (Option.some Jvm.ClassFile.FieldType.int), Jvm.Cond.code ({ cls := "java/lang/StringLatin1", name := "canEncode", desc := "(I)Z" } : Jvm.MethodName) jdk_43_method_4_code (1 : Nat) (Option.some Jvm.ClassFile.FieldType.boolean), Jvm.Cond.code ({ cls := "java/lang/Math", name := "max", desc := "(II)I" } : Jvm.MethodName) jdk_29_method_65_code (2 : Nat) (Option.some Jvm.ClassFile.FieldType.int), Jvm.Cond.code ({ cls := "java/lang/Math", name := "min", desc := "(II)I" } : Jvm.MethodName) jdk_29_method_69_code (2 : Nat) (Option.some Jvm.ClassFile.FieldType.int), Jvm.Cond.code ({ cls := "com/example/wireform/wireform/rules/Verdict", name := "equals", desc := "(Ljava/lang/Object;)Z" } : Jvm.MethodName) prog_47_method_5_code (3 : Nat) (Option.some Jvm.ClassFile.FieldType.boolean), Jvm.Cond.code ({ cls := "java/lang/String", name := "equals", desc := "(Ljava/lang/Object;)Z" } : Jvm.MethodName) jdk_42_method_66_code (3 : Nat) (Option.some Jvm.ClassFile.FieldType.boolean), Jvm.Cond.code ({ cls := "java/lang/String", name := "valueOf", desc := "(C)Ljava/lang/String;" } : Jvm.MethodName) jdk_42_method_139_code (1 : Nat) (Option.some (Jvm.ClassFile.FieldType.object "java/lang/String")), Jvm.Cond.code ({ cls := "java/lang/StringLatin1", name := "canEncode", desc := "(C)Z" } : Jvm.MethodName) jdk_43_method_3_code (1 : Nat) (Option.some Jvm.ClassFile.FieldType.boolean), Jvm.Cond.code ({ cls := "java/lang/StringLatin1", name := "toBytes", desc := "(C)[B" } : Jvm.MethodName) jdk_43_method_46_code (1 : Nat) (Option.some (Jvm.ClassFile.FieldType.array Jvm.ClassFile.FieldType.byte)), Jvm.Cond.code ({ cls := "java/lang/String", name := "<init>", desc := "([BB)V" } : Jvm.MethodName) jdk_42_method_151_code (3 : Nat) (Option.none : Option Jvm.ClassFile.FieldType), Jvm.Cond.code ({ cls := "java/lang/String", name := "isBlank", desc := "()Z" } : Jvm.MethodName) jdk_42_method_117_code (1 : Nat) (Option.some Jvm.ClassFile.FieldType.boolean), Jvm.Cond.code ({ cls := "java/lang/String", name := "indexOfNonWhitespace", desc := "()I" } : Jvm.MethodName) jdk_42_method_120_code (1 : Nat) (Option.some Jvm.ClassFile.FieldType.int), Jvm.Cond.code ({ cls := "java/lang/StringLatin1", name := "indexOfNonWhitespace", desc := "([B)I" } : Jvm.MethodName) jdk_43_method_37_code (4 : Nat) (Option.some Jvm.ClassFile.FieldType.int), Jvm.Cond.code ({ cls := "java/lang/StringLatin1", name := "getChar", desc := "([BI)C" } : Jvm.MethodName) jdk_43_method_44_code (2 : Nat) (Option.some Jvm.ClassFile.FieldType.char), Jvm.Cond.code ({ cls := "java/lang/CharacterDataLatin1", name := "isWhitespace", desc := "(I)Z" } : Jvm.MethodName) jdk_116_method_26_code (3 : Nat) (Option.some Jvm.ClassFile.FieldType.boolean), Jvm.Cond.code ({ cls := "java/lang/CharacterDataLatin1", name := "getProperties", desc := "(I)I" } : Jvm.MethodName) jdk_116_method_1_code (4 : Nat) (Option.some Jvm.ClassFile.FieldType.int), Jvm.Cond.code ({ cls := "java/lang/StringLatin1", name := "indexOfChar", desc := "([BIII)I" } : Jvm.MethodName) jdk_43_method_23_code (6 : Nat) (Option.some Jvm.ClassFile.FieldType.int), Jvm.Cond.code ({ cls := "java/lang/Integer", name := "valueOf", desc := "(I)Ljava/lang/Integer;" } : Jvm.MethodName) jdk_33_method_22_code (1 : Nat) (Option.some (Jvm.ClassFile.FieldType.object "java/lang/Integer")), Jvm.Cond.code ({ cls := "java/lang/String", name := "<init>", desc := "([C)V" } : Jvm.MethodName) jdk_42_method_3_code (2 : Nat) (Option.none : Option Jvm.ClassFile.FieldType), Jvm.Cond.code ({ cls := "java/lang/String", name := "<init>", desc := "([CIILjava/lang/Void;)V" } : Jvm.MethodName) jdk_42_method_149_code (6 : Nat) (Option.none : Option Jvm.ClassFile.FieldType), Jvm.Cond.code ({ cls := "java/lang/StringUTF16", name := "compress", desc := "([CII)[B" } : Jvm.MethodName) jdk_52_method_16_code (6 : Nat) (Option.some (Jvm.ClassFile.FieldType.array Jvm.ClassFile.FieldType.byte)), Jvm.Cond.code ({ cls := "java/lang/StringUTF16", name := "compress", desc := "([CI[BII)I" } : Jvm.MethodName) jdk_52_method_21_code (7 : Nat) (Option.some Jvm.ClassFile.FieldType.int), Jvm.Cond.code ({ cls := "java/lang/StringUTF16", name := "coderFromArrayLen", desc := "([BI)B" } : Jvm.MethodName) jdk_52_method_15_code (2 : Nat) (Option.some Jvm.ClassFile.FieldType.byte), Jvm.Cond.code ({ cls := "java/lang/StringLatin1", name := "equals", desc := "([B[B)Z" } : Jvm.MethodName) jdk_43_method_13_code (3 : Nat) (Option.some Jvm.ClassFile.FieldType.boolean), Jvm.Cond.code ({ cls := "java/lang/Integer", name := "<init>", desc := "(I)V" } : Jvm.MethodName) jdk_33_method_23_code (2 : Nat) (Option.none : Option Jvm.ClassFile.FieldType), Jvm.Cond.code ({ cls := "java/lang/Number", name := "<init>", desc := "()V" } : Jvm.MethodName) jdk_18_method_1_code (1 : Nat) (Option.none : Option Jvm.ClassFile.FieldType)]
set_option maxRecDepth 65536 in
theorem codes_eq : words1.filter isCode = codes1 := rfl
theorem w_codes : ∀ c ∈ words1.filter isCode, c.before args0 about1 = true := by
  rw [codes_eq]
  intro c hc
  simp only [codes1, List.mem_cons, List.not_mem_nil, or_false] at hc
  rcases hc with rfl | rfl | rfl | rfl | rfl | rfl | rfl | rfl | rfl | rfl | rfl | rfl | rfl | rfl | rfl | rfl | rfl | rfl | rfl | rfl | rfl | rfl | rfl | rfl | rfl | rfl | rfl | rfl | rfl | rfl | rfl | rfl | rfl | rfl | rfl | rfl | rfl | rfl | rfl | rfl | rfl | rfl
  · exact w_c0
  · exact w_c1
  · exact w_c2
  · exact w_c3
  · exact w_c4
  · exact w_c5
  · exact w_c6
  · exact w_c7
  · exact w_c8
  · exact w_c9
  · exact w_c10
  · exact w_c11
  · exact w_c12
  · exact w_c13
  · exact w_c14
  · exact w_c15
  · exact w_c16
  · exact w_c17
  · exact w_c18
  · exact w_c19
  · exact w_c20
  · exact w_c21
  · exact w_c22
  · exact w_c23
  · exact w_c24
  · exact w_c25
  · exact w_c26
  · exact w_c27
  · exact w_c28
  · exact w_c29
  · exact w_c30
  · exact w_c31
  · exact w_c32
  · exact w_c33
  · exact w_c34
  · exact w_c35
  · exact w_c36
  · exact w_c37
  · exact w_c38
  · exact w_c39
  · exact w_c40
  · exact w_c41
set_option maxRecDepth 65536 in
theorem w_t1 : (words1.take 24).all (fun c => isCode c || c.before args0 about1) = true := by decide +kernel
set_option maxRecDepth 65536 in
theorem w_t2 : ((words1.drop 24).take 24).all (fun c => isCode c || c.before args0 about1) = true := by decide +kernel
set_option maxRecDepth 65536 in
theorem w_t3 : (((words1.drop 24).drop 24).take 24).all (fun c => isCode c || c.before args0 about1) = true := by decide +kernel
set_option maxRecDepth 65536 in
theorem w_t4 : ((((words1.drop 24).drop 24).drop 24).take 24).all (fun c => isCode c || c.before args0 about1) = true := by decide +kernel
set_option maxRecDepth 65536 in
theorem w_t5 : (((((words1.drop 24).drop 24).drop 24).drop 24).take 24).all (fun c => isCode c || c.before args0 about1) = true := by decide +kernel
set_option maxRecDepth 65536 in
theorem w_t6 : ((((((words1.drop 24).drop 24).drop 24).drop 24).drop 24).take 24).all (fun c => isCode c || c.before args0 about1) = true := by decide +kernel
set_option maxRecDepth 65536 in
theorem w_t7 : (((((((words1.drop 24).drop 24).drop 24).drop 24).drop 24).drop 24).take 24).all (fun c => isCode c || c.before args0 about1) = true := by decide +kernel
set_option maxRecDepth 65536 in
theorem w_t8 : ((((((((words1.drop 24).drop 24).drop 24).drop 24).drop 24).drop 24).drop 24).take 24).all (fun c => isCode c || c.before args0 about1) = true := by decide +kernel
set_option maxRecDepth 65536 in
theorem w_t9 : ((((((((words1.drop 24).drop 24).drop 24).drop 24).drop 24).drop 24).drop 24).drop 24).all (fun c => isCode c || c.before args0 about1) = true := by decide +kernel
theorem w_tables : (allAtoms (Jvm.Cond.code x code maxLocals ret :: tables_1)).before args0 about1 = true := by
  rw [allAtoms_all]
  show words1.all (fun c => c.before args0 about1) = true
  refine all_split ?_ w_codes
  rw [← List.take_append_drop 24 words1, List.all_append, w_t1, ← List.take_append_drop 24 (words1.drop 24), List.all_append, w_t2, ← List.take_append_drop 24 ((words1.drop 24).drop 24), List.all_append, w_t3, ← List.take_append_drop 24 (((words1.drop 24).drop 24).drop 24), List.all_append, w_t4, ← List.take_append_drop 24 ((((words1.drop 24).drop 24).drop 24).drop 24), List.all_append, w_t5, ← List.take_append_drop 24 (((((words1.drop 24).drop 24).drop 24).drop 24).drop 24), List.all_append, w_t6, ← List.take_append_drop 24 ((((((words1.drop 24).drop 24).drop 24).drop 24).drop 24).drop 24), List.all_append, w_t7, ← List.take_append_drop 24 (((((((words1.drop 24).drop 24).drop 24).drop 24).drop 24).drop 24).drop 24), List.all_append, w_t8, w_t9]
  rfl
set_option maxRecDepth 65536 in
theorem w_rest : rest_1_c.before args0 about1 = true := by decide +kernel
set_option maxRecDepth 65536 in
theorem w_case : (Jvm.Cond.and given_1 narrow_1).before args0 about1 = true := by decide +kernel
set_option maxRecDepth 65536 in
theorem w_consts : constsHeld consts_1 about1 := Jvm.Lit.constsHeldB_iff.mp (by decide +kernel)
theorem w_applies : (headSpec (Jvm.Cond.code x code maxLocals ret :: tables_1) room_1).applies x e0.platform about1 = true :=
  (Spec.applies_iff w_frames).mpr ⟨w_running, w_runnable, w_alone, w_named, w_hears, w_ripe, w_room, w_tables⟩
theorem atStart : AtStart classFile x code maxLocals ret World_1 tables_1 room_1 Calls_1 rest_1 Pre_1 launch0 p0 e0 about1 theMethod args0 below0 :=
  ⟨lists_1, trivial, launch0.admits_env _ _ _, launch0.least_env, fairChoices_fair.cas, fairChoices_fair.clock, w_frames, w_args, w_heap, w_applies, ⟨w_consts, trivial⟩, w_rest, w_case⟩
end start1
theorem witness_1 : WitnessClaimed_1 := ⟨start1.p0, start1.e0, start1.about1, start1.theMethod, start1.args0, start1.below0, start1.atStart⟩
end Jvm.Pilot.@@N@@
