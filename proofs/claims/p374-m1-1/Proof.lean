import JvmDerived
import JvmDerived.Pilot.@@N@@Statement
import JvmDerived.Pilot.@@N@@Code
set_option linter.unusedVariables false
set_option linter.unusedSimpArgs false
namespace Jvm.GoKit
open Sem ClassFile Op Lib Jvm.Stand Jvm.Free Jvm.LawKit Jvm.RoadKit
/-! my own layer: a body's run in continuation style, over the library's Stand laws -/
def Val (P : Value → Heap → Prop) (v : Option Value) (h : Heap) : Prop := ∃ w, v = some w ∧ P w h
def Vd (P : Heap → Prop) (v : Option Value) (h : Heap) : Prop := v = none ∧ P h
def PV (w : Value) (h0 : Heap) (w' : Value) (h : Heap) : Prop := w = w' ∧ h0 = h
def Ctx (Z : State) (own : String) (code : ByteArray) (maxL : Nat) (ret : Option FieldType) (nm : String) (p : Program) (s : State) (m : MethodId) (meth : Method) (c : Code) : Prop :=
  p.tables.exec = Jvm.exec ∧ Z.Warmed39 s.vm ∧ s.vm.findClass own = some m.cls ∧ c.code = code ∧ c.maxLocals = maxL ∧ meth.sig.returnType = ret ∧ meth.locks = false ∧ meth.name = nm
def Go (p : Program) (e : Env) (below : List Frame) (s : State) (n0 K N : Nat) (Q : Option Value → Heap → Prop) (S : State) : Prop :=
  ∃ s₂ v L, Steps p.tables e below S s₂ ∧ s₂.status = .running ∧ Ended s₂ below (.returned v) ∧ (Q v s₂.heap ∧ Fr n0 L) ∧ FrameEnd s (.returned v) s₂ L K N
def Run (l : Launch) (Z : State) (n0 : Nat) (own : String) (code : ByteArray) (maxL : Nat) (ret : Option FieldType) (nm : String) (R : Room) (Q : Option Value → Heap → Prop) (pc : Nat) (Ls : Array Slot) (st : List Value) (h : Heap) (k n : Nat) : Prop :=
  ∀ (p : Program) (e : Env) (s : State) (m : MethodId) (args : Array Value) (below : List Frame) (meth : Method) (c : Code) (T : State) (locs : List Loc) (cells slots : Nat),
    Ctx Z own code maxL ret nm p s m meth c → Stand p l e R s m args below meth c T locs cells slots → T.heap = h → Fr n0 locs → cells ≤ k → slots ≤ n →
    Go p e below s n0 R.cells R.slots Q (T.setTop (mkF m pc Ls st))
def Con (l : Launch) (Z : State) (n0 : Nat) (y : MethodName) (bytes : ByteArray) (maxL : Nat) (ret : Option FieldType) (rm : Room) (as : Array Value) (h : Heap) (Q : Option Value → Heap → Prop) : Prop :=
  ∀ ws, MetFree l y (head1 (Cond.code y bytes maxL ret :: ws) rm) (fun a U => a = as ∧ Z.Warmed39 U.vm ∧ U.heap = h) (fun _ _ _ _ _ => True) (fun _ U o U' => ∃ v L, o = .returned v ∧ (Q v U'.heap ∧ Fr n0 L) ∧ FrameEnd U o U' L rm.cells rm.slots)
theorem Con.of_run {l : Launch} {Z : State} {n0 : Nat} {y : MethodName} {bytes : ByteArray} {maxL : Nat} {ret : Option FieldType} {rm : Room} {as : Array Value} {h : Heap} {Q : Option Value → Heap → Prop} {Ls : Array Slot}
    (hp : plainFor y = true) (he : ∀ m, entryFrame m as maxL = mkF m 0 Ls []) (run : Run l Z n0 y.cls bytes maxL ret y.name rm Q 0 Ls [] h 0 0) : Con l Z n0 y bytes maxL ret rm as h Q := by
  intro ws
  refine MetFree.of_bodySF hp hisR ?_
  intro p e s m args below meth c s₁ Bd hml0 hP hK
  obtain ⟨rfl, hZ, hh⟩ := hP
  obtain ⟨s₂, v, L, h1, h2, h3, h4, h5⟩ := run p e s m _ below meth c s₁ [] 0 0 ⟨Bd.exec, hZ, findClass_of_methodNamed Bd.named, Bd.bytes, hml0, Bd.returns, Bd.notSynchronized, (name_of_methodNamed Bd.named Bd.method).1⟩ (Stand.of_body Bd) (by rw [← hh, Bd.state]; rfl) (Fr.nil _) (Nat.zero_le _) (Nat.zero_le _)
  exact ⟨s₂, _, castTop (he m) h1, h2, h3, v, L, rfl, h4, h5⟩
theorem Con.mono {l : Launch} {Z : State} {n0 : Nat} {y : MethodName} {bytes : ByteArray} {maxL : Nat} {ret : Option FieldType} {rm : Room} {as : Array Value} {h : Heap} {Q Q' : Option Value → Heap → Prop}
    (H : Con l Z n0 y bytes maxL ret rm as h Q) (q : ∀ v h', Q v h' → Q' v h') : Con l Z n0 y bytes maxL ret rm as h Q' := by
  intro ws p e ha hc hk s m args below hf happ hP hK
  obtain ⟨n, o, h1, h2, h3, v, L, h4, h5, h6⟩ := H ws p e ha hc hk s m args below hf happ hP hK
  exact ⟨n, o, h1, h2, h3, v, L, h4, ⟨q _ _ h5.1, h5.2⟩, h6⟩
section Walk
variable {l : Launch} {Z : State} {n0 : Nat} {own : String} {code : ByteArray} {maxL : Nat} {ret : Option FieldType} {nm : String} {R : Room} {Q : Option Value → Heap → Prop} {pc pc' : Nat} {Ls : Array Slot} {st : List Value} {h : Heap} {k n k' n' : Nat}
theorem Run.via {Ls' : Array Slot} {st' : List Value} (f : ∀ (p : Program) (e : Env) (s : State) (m : MethodId) (args : Array Value) (below : List Frame) (meth : Method) (c : Code) (T : State) (locs : List Loc) (cells slots : Nat),
      Ctx Z own code maxL ret nm p s m meth c → Stand p l e R s m args below meth c T locs cells slots → T.heap = h → ∃ T', Stand p l e R s m args below meth c T' locs cells slots ∧ T'.heap = h ∧ ∀ t, Steps p.tables e below (T'.setTop (mkF m pc' Ls' st')) t → Steps p.tables e below (T.setTop (mkF m pc Ls st)) t)
    (nxt : Run l Z n0 own code maxL ret nm R Q pc' Ls' st' h k n) : Run l Z n0 own code maxL ret nm R Q pc Ls st h k n := by
  intro p e s m args below meth c T locs cells slots hC X eT hF hk hn
  obtain ⟨T', X', e', stp⟩ := f p e s m args below meth c T locs cells slots hC X eT
  obtain ⟨s₂, v, L, g1, g2⟩ := nxt p e s m args below meth c T' locs cells slots hC X' e' hF hk hn
  exact ⟨s₂, v, L, stp _ g1, g2⟩
theorem Run.stp {Ls' : Array Slot} {st' : List Value} (f : ∀ (p : Program) (e : Env) (below : List Frame) (T : State) (m : MethodId) (c : Code) (t : State), At T m c below → p.tables.exec = Jvm.exec → c.code = code → Steps p.tables e below (T.setTop (mkF m pc' Ls' st')) t → Steps p.tables e below (T.setTop (mkF m pc Ls st)) t)
    (nxt : Run l Z n0 own code maxL ret nm R Q pc' Ls' st' h k n) : Run l Z n0 own code maxL ret nm R Q pc Ls st h k n :=
  Run.via (fun p e s m args below meth c T locs cells slots hC X eT => ⟨T, X, eT, fun t q => f p e below T m c t X.here hC.1 hC.2.2.2.1 q⟩) nxt
theorem Run.more {ka na : Nat} (nxt : Run l Z n0 own code maxL ret nm R Q pc Ls st h k n) (h1 : ka ≤ k) (h2 : na ≤ n) : Run l Z n0 own code maxL ret nm R Q pc Ls st h ka na :=
  fun p e s m args below meth c T locs cells slots hC X eT hF hk hn => nxt p e s m args below meth c T locs cells slots hC X eT hF (Nat.le_trans hk h1) (Nat.le_trans hn h2)

theorem Run.iloadN {x : Fin 4} {v : Int32} (hd : decode code pc = .ok (.iload_n x, 1)) (hl : Ls[x.val]? = some (.val (.int v))) (hp : pc + 1 = pc') (nxt : Run l Z n0 own code maxL ret nm R Q pc' Ls (.int v :: st) h k n) : Run l Z n0 own code maxL ret nm R Q pc Ls st h k n := by
  subst hp
  exact Run.stp (fun p e below T m c t hA hx hc q => XS.iloadN hA hx rfl (hb hc hd) hl q) nxt
theorem Run.iload {x : Nat} {v : Int32} (hd : decode code pc = .ok (.iload x, 2)) (hl : Ls[x]? = some (.val (.int v))) (hp : pc + 2 = pc') (nxt : Run l Z n0 own code maxL ret nm R Q pc' Ls (.int v :: st) h k n) : Run l Z n0 own code maxL ret nm R Q pc Ls st h k n := by
  subst hp
  exact Run.stp (fun p e below T m c t hA hx hc q => XS.iload hA hx rfl (hb hc hd) hl q) nxt
theorem Run.lloadN {x : Fin 4} {v : Int64} (hd : decode code pc = .ok (.lload_n x, 1)) (hl : Ls[x.val]? = some (.val (.long v))) (hp : pc + 1 = pc') (nxt : Run l Z n0 own code maxL ret nm R Q pc' Ls (.long v :: st) h k n) : Run l Z n0 own code maxL ret nm R Q pc Ls st h k n := by
  subst hp
  exact Run.stp (fun p e below T m c t hA hx hc q => XT.lloadN hA hx rfl (hb hc hd) hl q) nxt
theorem Run.lload {x : Nat} {v : Int64} (hd : decode code pc = .ok (.lload x, 2)) (hl : Ls[x]? = some (.val (.long v))) (hp : pc + 2 = pc') (nxt : Run l Z n0 own code maxL ret nm R Q pc' Ls (.long v :: st) h k n) : Run l Z n0 own code maxL ret nm R Q pc Ls st h k n := by
  subst hp
  exact Run.stp (fun p e below T m c t hA hx hc q => XT.lload hA hx rfl (hb hc hd) hl q) nxt
theorem Run.aloadN {x : Fin 4} {v : Value} (hd : decode code pc = .ok (.aload_n x, 1)) (hl : Ls[x.val]? = some (.val v)) (hv : v.isRef = true) (hp : pc + 1 = pc') (nxt : Run l Z n0 own code maxL ret nm R Q pc' Ls (v :: st) h k n) : Run l Z n0 own code maxL ret nm R Q pc Ls st h k n := by
  subst hp
  exact Run.stp (fun p e below T m c t hA hx hc q => XS.aloadN hA hx rfl (hb hc hd) hl hv q) nxt
theorem Run.aload {x : Nat} {v : Value} (hd : decode code pc = .ok (.aload x, 2)) (hl : Ls[x]? = some (.val v)) (hv : v.isRef = true) (hp : pc + 2 = pc') (nxt : Run l Z n0 own code maxL ret nm R Q pc' Ls (v :: st) h k n) : Run l Z n0 own code maxL ret nm R Q pc Ls st h k n := by
  subst hp
  exact Run.stp (fun p e below T m c t hA hx hc q => XS.aload hA hx rfl (hb hc hd) hl hv q) nxt
theorem Run.iconst {i : Int} (v : Int32) (hd : decode code pc = .ok (.iconst i, 1)) (hv : Int32.ofInt i = v) (hp : pc + 1 = pc') (nxt : Run l Z n0 own code maxL ret nm R Q pc' Ls (.int v :: st) h k n) : Run l Z n0 own code maxL ret nm R Q pc Ls st h k n := by
  subst hp
  exact Run.stp (fun p e below T m c t hA hx hc q => XT.iconstV hA hx rfl v (hb hc hd) hv q) nxt
theorem Run.bipush {i : Int} (v : Int32) (hd : decode code pc = .ok (.bipush i, 2)) (hv : (Int8.ofInt i).toInt32 = v) (hp : pc + 2 = pc') (nxt : Run l Z n0 own code maxL ret nm R Q pc' Ls (.int v :: st) h k n) : Run l Z n0 own code maxL ret nm R Q pc Ls st h k n := by
  subst hp
  exact Run.stp (fun p e below T m c t hA hx hc q => XT.bipushV hA hx rfl v (hb hc hd) hv q) nxt
theorem Run.sipush {i : Int} (v : Int32) (hd : decode code pc = .ok (.sipush i, 3)) (hv : (Int16.ofInt i).toInt32 = v) (hp : pc + 3 = pc') (nxt : Run l Z n0 own code maxL ret nm R Q pc' Ls (.int v :: st) h k n) : Run l Z n0 own code maxL ret nm R Q pc Ls st h k n := by
  subst hp
  exact Run.stp (fun p e below T m c t hA hx hc q => XT.sipushV hA hx rfl v (hb hc hd) hv q) nxt
theorem Run.lconst {i : Fin 2} (v : Int64) (hd : decode code pc = .ok (.lconst i, 1)) (hv : Int64.ofNat i = v) (hp : pc + 1 = pc') (nxt : Run l Z n0 own code maxL ret nm R Q pc' Ls (.long v :: st) h k n) : Run l Z n0 own code maxL ret nm R Q pc Ls st h k n := by
  subst hp
  exact Run.stp (fun p e below T m c t hA hx hc q => XT.lconstV hA hx rfl v (hb hc hd) hv q) nxt
theorem Run.aconst  (hd : decode code pc = .ok (.aconst_null, 1))  (hp : pc + 1 = pc') (nxt : Run l Z n0 own code maxL ret nm R Q pc' Ls (.null :: st) h k n) : Run l Z n0 own code maxL ret nm R Q pc Ls st h k n := by
  subst hp
  exact Run.stp (fun p e below T m c t hA hx hc q => XS.aconstNull hA hx rfl (hb hc hd) q) nxt
theorem Run.istoreN {x : Fin 4} {v : Int32} (l' : Array Slot) (hd : decode code pc = .ok (.istore_n x, 1)) (hl : storeLocals Ls x.val (.int v) = some l') (hp : pc + 1 = pc') (nxt : Run l Z n0 own code maxL ret nm R Q pc' l' st h k n) : Run l Z n0 own code maxL ret nm R Q pc Ls (.int v :: st) h k n := by
  subst hp
  exact Run.stp (fun p e below T m c t hA hx hc q => XS.istoreN hA hx rfl (hb hc hd) rfl hl q) nxt
theorem Run.istore {x : Nat} {v : Int32} (l' : Array Slot) (hd : decode code pc = .ok (.istore x, 2)) (hl : storeLocals Ls x (.int v) = some l') (hp : pc + 2 = pc') (nxt : Run l Z n0 own code maxL ret nm R Q pc' l' st h k n) : Run l Z n0 own code maxL ret nm R Q pc Ls (.int v :: st) h k n := by
  subst hp
  exact Run.stp (fun p e below T m c t hA hx hc q => XS.istore hA hx rfl (hb hc hd) rfl hl q) nxt
theorem Run.lstoreN {x : Fin 4} {v : Int64} (l' : Array Slot) (hd : decode code pc = .ok (.lstore_n x, 1)) (hl : storeLocals Ls x.val (.long v) = some l') (hp : pc + 1 = pc') (nxt : Run l Z n0 own code maxL ret nm R Q pc' l' st h k n) : Run l Z n0 own code maxL ret nm R Q pc Ls (.long v :: st) h k n := by
  subst hp
  exact Run.stp (fun p e below T m c t hA hx hc q => XT.lstoreN hA hx rfl (hb hc hd) rfl hl q) nxt
theorem Run.lstore {x : Nat} {v : Int64} (l' : Array Slot) (hd : decode code pc = .ok (.lstore x, 2)) (hl : storeLocals Ls x (.long v) = some l') (hp : pc + 2 = pc') (nxt : Run l Z n0 own code maxL ret nm R Q pc' l' st h k n) : Run l Z n0 own code maxL ret nm R Q pc Ls (.long v :: st) h k n := by
  subst hp
  exact Run.stp (fun p e below T m c t hA hx hc q => XT.lstore hA hx rfl (hb hc hd) rfl hl q) nxt
theorem Run.astoreN {x : Fin 4} {v : Value} (l' : Array Slot) (hd : decode code pc = .ok (.astore_n x, 1)) (hv : v.isRef = true) (hl : storeLocals Ls x.val v = some l') (hp : pc + 1 = pc') (nxt : Run l Z n0 own code maxL ret nm R Q pc' l' st h k n) : Run l Z n0 own code maxL ret nm R Q pc Ls (v :: st) h k n := by
  subst hp
  exact Run.stp (fun p e below T m c t hA hx hc q => XS.astoreN hA hx rfl (hb hc hd) rfl hv hl q) nxt
theorem Run.astore {x : Nat} {v : Value} (l' : Array Slot) (hd : decode code pc = .ok (.astore x, 2)) (hv : v.isRef = true) (hl : storeLocals Ls x v = some l') (hp : pc + 2 = pc') (nxt : Run l Z n0 own code maxL ret nm R Q pc' l' st h k n) : Run l Z n0 own code maxL ret nm R Q pc Ls (v :: st) h k n := by
  subst hp
  exact Run.stp (fun p e below T m c t hA hx hc q => XS.astore hA hx rfl (hb hc hd) rfl hv hl q) nxt
theorem Run.iinc {x : Nat} {i : Int} {u : Int32} (v : Int32) (l' : Array Slot) (hd : decode code pc = .ok (.iinc x i, 3)) (hv : Int32.ofInt i = v) (hg : Ls[x]? = some (.val (.int u))) (hl : storeLocals Ls x (.int (u + v)) = some l') (hp : pc + 3 = pc') (nxt : Run l Z n0 own code maxL ret nm R Q pc' l' st h k n) : Run l Z n0 own code maxL ret nm R Q pc Ls st h k n := by
  subst hp
  exact Run.stp (fun p e below T m c t hA hx hc q => XT.iincV hA hx rfl v (hb hc hd) hv hg hl q) nxt
theorem Run.iadd {x y : Int32} (hd : decode code pc = .ok (.iadd, 1))  (hp : pc + 1 = pc') (nxt : Run l Z n0 own code maxL ret nm R Q pc' Ls (.int (x + y) :: st) h k n) : Run l Z n0 own code maxL ret nm R Q pc Ls (.int y :: .int x :: st) h k n := by
  subst hp
  exact Run.stp (fun p e below T m c t hA hx hc q => XS.iadd hA hx rfl (hb hc hd) rfl q) nxt
theorem Run.isub {x y : Int32} (hd : decode code pc = .ok (.isub, 1))  (hp : pc + 1 = pc') (nxt : Run l Z n0 own code maxL ret nm R Q pc' Ls (.int (x - y) :: st) h k n) : Run l Z n0 own code maxL ret nm R Q pc Ls (.int y :: .int x :: st) h k n := by
  subst hp
  exact Run.stp (fun p e below T m c t hA hx hc q => XS.isub hA hx rfl (hb hc hd) rfl q) nxt
theorem Run.imul {x y : Int32} (hd : decode code pc = .ok (.imul, 1))  (hp : pc + 1 = pc') (nxt : Run l Z n0 own code maxL ret nm R Q pc' Ls (.int (x * y) :: st) h k n) : Run l Z n0 own code maxL ret nm R Q pc Ls (.int y :: .int x :: st) h k n := by
  subst hp
  exact Run.stp (fun p e below T m c t hA hx hc q => XS.imul hA hx rfl (hb hc hd) rfl q) nxt
theorem Run.iand {x y : Int32} (hd : decode code pc = .ok (.iand, 1))  (hp : pc + 1 = pc') (nxt : Run l Z n0 own code maxL ret nm R Q pc' Ls (.int (x &&& y) :: st) h k n) : Run l Z n0 own code maxL ret nm R Q pc Ls (.int y :: .int x :: st) h k n := by
  subst hp
  exact Run.stp (fun p e below T m c t hA hx hc q => XS.iand hA hx rfl (hb hc hd) rfl q) nxt
theorem Run.ior {x y : Int32} (hd : decode code pc = .ok (.ior, 1))  (hp : pc + 1 = pc') (nxt : Run l Z n0 own code maxL ret nm R Q pc' Ls (.int (x ||| y) :: st) h k n) : Run l Z n0 own code maxL ret nm R Q pc Ls (.int y :: .int x :: st) h k n := by
  subst hp
  exact Run.stp (fun p e below T m c t hA hx hc q => XT.ior hA hx rfl (hb hc hd) rfl q) nxt
theorem Run.ixor {x y : Int32} (hd : decode code pc = .ok (.ixor, 1))  (hp : pc + 1 = pc') (nxt : Run l Z n0 own code maxL ret nm R Q pc' Ls (.int (x ^^^ y) :: st) h k n) : Run l Z n0 own code maxL ret nm R Q pc Ls (.int y :: .int x :: st) h k n := by
  subst hp
  exact Run.stp (fun p e below T m c t hA hx hc q => XT.ixor hA hx rfl (hb hc hd) rfl q) nxt
theorem Run.ishl {x y : Int32} (hd : decode code pc = .ok (.ishl, 1))  (hp : pc + 1 = pc') (nxt : Run l Z n0 own code maxL ret nm R Q pc' Ls (.int (x <<< (y &&& 31)) :: st) h k n) : Run l Z n0 own code maxL ret nm R Q pc Ls (.int y :: .int x :: st) h k n := by
  subst hp
  exact Run.stp (fun p e below T m c t hA hx hc q => XT.ishl hA hx rfl (hb hc hd) rfl q) nxt
theorem Run.ishr {x y : Int32} (hd : decode code pc = .ok (.ishr, 1))  (hp : pc + 1 = pc') (nxt : Run l Z n0 own code maxL ret nm R Q pc' Ls (.int (x >>> (y &&& 31)) :: st) h k n) : Run l Z n0 own code maxL ret nm R Q pc Ls (.int y :: .int x :: st) h k n := by
  subst hp
  exact Run.stp (fun p e below T m c t hA hx hc q => XT.ishr hA hx rfl (hb hc hd) rfl q) nxt
theorem Run.iushr {x y : Int32} (hd : decode code pc = .ok (.iushr, 1))  (hp : pc + 1 = pc') (nxt : Run l Z n0 own code maxL ret nm R Q pc' Ls (.int (XT.ushr x y) :: st) h k n) : Run l Z n0 own code maxL ret nm R Q pc Ls (.int y :: .int x :: st) h k n := by
  subst hp
  exact Run.stp (fun p e below T m c t hA hx hc q => XT.iushr hA hx rfl (hb hc hd) rfl q) nxt
theorem Run.ladd {x y : Int64} (hd : decode code pc = .ok (.ladd, 1))  (hp : pc + 1 = pc') (nxt : Run l Z n0 own code maxL ret nm R Q pc' Ls (.long (x + y) :: st) h k n) : Run l Z n0 own code maxL ret nm R Q pc Ls (.long y :: .long x :: st) h k n := by
  subst hp
  exact Run.stp (fun p e below T m c t hA hx hc q => XT.ladd hA hx rfl (hb hc hd) rfl q) nxt
theorem Run.lsub {x y : Int64} (hd : decode code pc = .ok (.lsub, 1))  (hp : pc + 1 = pc') (nxt : Run l Z n0 own code maxL ret nm R Q pc' Ls (.long (x - y) :: st) h k n) : Run l Z n0 own code maxL ret nm R Q pc Ls (.long y :: .long x :: st) h k n := by
  subst hp
  exact Run.stp (fun p e below T m c t hA hx hc q => XT.lsub hA hx rfl (hb hc hd) rfl q) nxt
theorem Run.lmul {x y : Int64} (hd : decode code pc = .ok (.lmul, 1))  (hp : pc + 1 = pc') (nxt : Run l Z n0 own code maxL ret nm R Q pc' Ls (.long (x * y) :: st) h k n) : Run l Z n0 own code maxL ret nm R Q pc Ls (.long y :: .long x :: st) h k n := by
  subst hp
  exact Run.stp (fun p e below T m c t hA hx hc q => XT.lmul hA hx rfl (hb hc hd) rfl q) nxt
theorem Run.land {x y : Int64} (hd : decode code pc = .ok (.land, 1))  (hp : pc + 1 = pc') (nxt : Run l Z n0 own code maxL ret nm R Q pc' Ls (.long (x &&& y) :: st) h k n) : Run l Z n0 own code maxL ret nm R Q pc Ls (.long y :: .long x :: st) h k n := by
  subst hp
  exact Run.stp (fun p e below T m c t hA hx hc q => XT.land hA hx rfl (hb hc hd) rfl q) nxt
theorem Run.lor {x y : Int64} (hd : decode code pc = .ok (.lor, 1))  (hp : pc + 1 = pc') (nxt : Run l Z n0 own code maxL ret nm R Q pc' Ls (.long (x ||| y) :: st) h k n) : Run l Z n0 own code maxL ret nm R Q pc Ls (.long y :: .long x :: st) h k n := by
  subst hp
  exact Run.stp (fun p e below T m c t hA hx hc q => XT.lor hA hx rfl (hb hc hd) rfl q) nxt
theorem Run.lxor {x y : Int64} (hd : decode code pc = .ok (.lxor, 1))  (hp : pc + 1 = pc') (nxt : Run l Z n0 own code maxL ret nm R Q pc' Ls (.long (x ^^^ y) :: st) h k n) : Run l Z n0 own code maxL ret nm R Q pc Ls (.long y :: .long x :: st) h k n := by
  subst hp
  exact Run.stp (fun p e below T m c t hA hx hc q => XT.lxor hA hx rfl (hb hc hd) rfl q) nxt
theorem Run.idiv {x y : Int32} (hd : decode code pc = .ok (.idiv, 1)) (hy : y ≠ 0) (hp : pc + 1 = pc') (nxt : Run l Z n0 own code maxL ret nm R Q pc' Ls (.int (x / y) :: st) h k n) : Run l Z n0 own code maxL ret nm R Q pc Ls (.int y :: .int x :: st) h k n := by
  subst hp
  exact Run.stp (fun p e below T m c t hA hx hc q => XS.idiv hA hx rfl (hb hc hd) rfl hy q) nxt
theorem Run.irem {x y : Int32} (hd : decode code pc = .ok (.irem, 1)) (hy : y ≠ 0) (hp : pc + 1 = pc') (nxt : Run l Z n0 own code maxL ret nm R Q pc' Ls (.int (x % y) :: st) h k n) : Run l Z n0 own code maxL ret nm R Q pc Ls (.int y :: .int x :: st) h k n := by
  subst hp
  exact Run.stp (fun p e below T m c t hA hx hc q => XS.irem hA hx rfl (hb hc hd) rfl hy (by rw [irem_eq_mod]; exact q)) nxt
theorem Run.ldiv {x y : Int64} (hd : decode code pc = .ok (.ldiv, 1)) (hy : y ≠ 0) (hp : pc + 1 = pc') (nxt : Run l Z n0 own code maxL ret nm R Q pc' Ls (.long (x / y) :: st) h k n) : Run l Z n0 own code maxL ret nm R Q pc Ls (.long y :: .long x :: st) h k n := by
  subst hp
  exact Run.stp (fun p e below T m c t hA hx hc q => XT.ldiv hA hx rfl (hb hc hd) rfl hy q) nxt
theorem Run.lrem {x y : Int64} (hd : decode code pc = .ok (.lrem, 1)) (hy : y ≠ 0) (hp : pc + 1 = pc') (nxt : Run l Z n0 own code maxL ret nm R Q pc' Ls (.long (x % y) :: st) h k n) : Run l Z n0 own code maxL ret nm R Q pc Ls (.long y :: .long x :: st) h k n := by
  subst hp
  exact Run.stp (fun p e below T m c t hA hx hc q => XT.lrem hA hx rfl (hb hc hd) rfl hy (by rw [lrem_mod]; exact q)) nxt
theorem Run.ineg {x : Int32} (hd : decode code pc = .ok (.ineg, 1))  (hp : pc + 1 = pc') (nxt : Run l Z n0 own code maxL ret nm R Q pc' Ls (.int (-x) :: st) h k n) : Run l Z n0 own code maxL ret nm R Q pc Ls (.int x :: st) h k n := by
  subst hp
  exact Run.stp (fun p e below T m c t hA hx hc q => XS.ineg hA hx rfl (hb hc hd) rfl q) nxt
theorem Run.lneg {x : Int64} (hd : decode code pc = .ok (.lneg, 1))  (hp : pc + 1 = pc') (nxt : Run l Z n0 own code maxL ret nm R Q pc' Ls (.long (-x) :: st) h k n) : Run l Z n0 own code maxL ret nm R Q pc Ls (.long x :: st) h k n := by
  subst hp
  exact Run.stp (fun p e below T m c t hA hx hc q => XT.lneg hA hx rfl (hb hc hd) rfl q) nxt
theorem Run.i2l {x : Int32} (hd : decode code pc = .ok (.i2l, 1))  (hp : pc + 1 = pc') (nxt : Run l Z n0 own code maxL ret nm R Q pc' Ls (.long x.toInt64 :: st) h k n) : Run l Z n0 own code maxL ret nm R Q pc Ls (.int x :: st) h k n := by
  subst hp
  exact Run.stp (fun p e below T m c t hA hx hc q => XT.i2l hA hx rfl (hb hc hd) rfl q) nxt
theorem Run.l2i {x : Int64} (hd : decode code pc = .ok (.l2i, 1))  (hp : pc + 1 = pc') (nxt : Run l Z n0 own code maxL ret nm R Q pc' Ls (.int x.toInt32 :: st) h k n) : Run l Z n0 own code maxL ret nm R Q pc Ls (.long x :: st) h k n := by
  subst hp
  exact Run.stp (fun p e below T m c t hA hx hc q => XT.l2i hA hx rfl (hb hc hd) rfl q) nxt
theorem Run.i2b {x : Int32} (hd : decode code pc = .ok (.i2b, 1))  (hp : pc + 1 = pc') (nxt : Run l Z n0 own code maxL ret nm R Q pc' Ls (.int (nar .byte x) :: st) h k n) : Run l Z n0 own code maxL ret nm R Q pc Ls (.int x :: st) h k n := by
  subst hp
  exact Run.stp (fun p e below T m c t hA hx hc q => XT.i2b hA hx rfl (hb hc hd) rfl q) nxt
theorem Run.i2c {x : Int32} (hd : decode code pc = .ok (.i2c, 1))  (hp : pc + 1 = pc') (nxt : Run l Z n0 own code maxL ret nm R Q pc' Ls (.int (nar .char x) :: st) h k n) : Run l Z n0 own code maxL ret nm R Q pc Ls (.int x :: st) h k n := by
  subst hp
  exact Run.stp (fun p e below T m c t hA hx hc q => XT.i2c hA hx rfl (hb hc hd) rfl q) nxt
theorem Run.i2s {x : Int32} (hd : decode code pc = .ok (.i2s, 1))  (hp : pc + 1 = pc') (nxt : Run l Z n0 own code maxL ret nm R Q pc' Ls (.int (nar .short x) :: st) h k n) : Run l Z n0 own code maxL ret nm R Q pc Ls (.int x :: st) h k n := by
  subst hp
  exact Run.stp (fun p e below T m c t hA hx hc q => XT.i2s hA hx rfl (hb hc hd) rfl q) nxt
theorem Run.lshl {x : Int64} {y : Int32} (hd : decode code pc = .ok (.lshl, 1))  (hp : pc + 1 = pc') (nxt : Run l Z n0 own code maxL ret nm R Q pc' Ls (.long (x <<< (y.toInt64 &&& 63)) :: st) h k n) : Run l Z n0 own code maxL ret nm R Q pc Ls (.int y :: .long x :: st) h k n := by
  subst hp
  exact Run.stp (fun p e below T m c t hA hx hc q => XT.lshl hA hx rfl (hb hc hd) rfl q) nxt
theorem Run.lshr {x : Int64} {y : Int32} (hd : decode code pc = .ok (.lshr, 1))  (hp : pc + 1 = pc') (nxt : Run l Z n0 own code maxL ret nm R Q pc' Ls (.long (x >>> (y.toInt64 &&& 63)) :: st) h k n) : Run l Z n0 own code maxL ret nm R Q pc Ls (.int y :: .long x :: st) h k n := by
  subst hp
  exact Run.stp (fun p e below T m c t hA hx hc q => XT.lshr hA hx rfl (hb hc hd) rfl q) nxt
theorem Run.lushr {x : Int64} {y : Int32} (hd : decode code pc = .ok (.lushr, 1))  (hp : pc + 1 = pc') (nxt : Run l Z n0 own code maxL ret nm R Q pc' Ls (.long (XT.ushrL x y) :: st) h k n) : Run l Z n0 own code maxL ret nm R Q pc Ls (.int y :: .long x :: st) h k n := by
  subst hp
  exact Run.stp (fun p e below T m c t hA hx hc q => XT.lushr hA hx rfl (hb hc hd) rfl q) nxt
theorem Run.lcmp {x y : Int64} (hd : decode code pc = .ok (.lcmp, 1))  (hp : pc + 1 = pc') (nxt : Run l Z n0 own code maxL ret nm R Q pc' Ls (.int (XT.cmpL x y) :: st) h k n) : Run l Z n0 own code maxL ret nm R Q pc Ls (.long y :: .long x :: st) h k n := by
  subst hp
  exact Run.stp (fun p e below T m c t hA hx hc q => XT.lcmp hA hx rfl (hb hc hd) rfl q) nxt
theorem Run.dup {x : Value} (hd : decode code pc = .ok (.dup, 1)) (hv : x.category = 1) (hp : pc + 1 = pc') (nxt : Run l Z n0 own code maxL ret nm R Q pc' Ls (x :: x :: st) h k n) : Run l Z n0 own code maxL ret nm R Q pc Ls (x :: st) h k n := by
  subst hp
  exact Run.stp (fun p e below T m c t hA hx hc q => XS.dup hA hx rfl (hb hc hd) rfl hv q) nxt
theorem Run.pop {x : Value} (hd : decode code pc = .ok (.pop, 1)) (hv : x.category = 1) (hp : pc + 1 = pc') (nxt : Run l Z n0 own code maxL ret nm R Q pc' Ls st h k n) : Run l Z n0 own code maxL ret nm R Q pc Ls (x :: st) h k n := by
  subst hp
  exact Run.stp (fun p e below T m c t hA hx hc q => XT.pop hA hx rfl (hb hc hd) rfl hv q) nxt
theorem Run.dupX1 {x y : Value} (hd : decode code pc = .ok (.dup_x1, 1)) (hv : x.category = 1) (hv' : y.category = 1) (hp : pc + 1 = pc') (nxt : Run l Z n0 own code maxL ret nm R Q pc' Ls (x :: y :: x :: st) h k n) : Run l Z n0 own code maxL ret nm R Q pc Ls (x :: y :: st) h k n := by
  subst hp
  exact Run.stp (fun p e below T m c t hA hx hc q => XT.dupX1 hA hx rfl (hb hc hd) rfl hv hv' q) nxt
theorem Run.dup2 {x y : Value} (hd : decode code pc = .ok (.dup2, 1)) (hv : x.category = 1) (hv' : y.category = 1) (hp : pc + 1 = pc') (nxt : Run l Z n0 own code maxL ret nm R Q pc' Ls (x :: y :: x :: y :: st) h k n) : Run l Z n0 own code maxL ret nm R Q pc Ls (x :: y :: st) h k n := by
  subst hp
  exact Run.stp (fun p e below T m c t hA hx hc q => XT.dup2 hA hx rfl (hb hc hd) rfl hv hv' q) nxt
theorem Run.dup2L {x : Int64} (hd : decode code pc = .ok (.dup2, 1))  (hp : pc + 1 = pc') (nxt : Run l Z n0 own code maxL ret nm R Q pc' Ls (.long x :: .long x :: st) h k n) : Run l Z n0 own code maxL ret nm R Q pc Ls (.long x :: st) h k n := by
  subst hp
  exact Run.stp (fun p e below T m c t hA hx hc q => XT.dup2L hA hx rfl (hb hc hd) rfl q) nxt
theorem Run.floadN {x : Fin 4} {v : UInt32} (hd : decode code pc = .ok (.fload_n x, 1)) (hl : Ls[x.val]? = some (.val (.float v))) (hp : pc + 1 = pc') (nxt : Run l Z n0 own code maxL ret nm R Q pc' Ls (.float v :: st) h k n) : Run l Z n0 own code maxL ret nm R Q pc Ls st h k n := by
  subst hp
  exact Run.stp (fun p e below T m c t hA hx hc q => XS.floadN hA hx rfl (hb hc hd) hl q) nxt
theorem Run.dloadN {x : Fin 4} {v : UInt64} (hd : decode code pc = .ok (.dload_n x, 1)) (hl : Ls[x.val]? = some (.val (.double v))) (hp : pc + 1 = pc') (nxt : Run l Z n0 own code maxL ret nm R Q pc' Ls (.double v :: st) h k n) : Run l Z n0 own code maxL ret nm R Q pc Ls st h k n := by
  subst hp
  exact Run.stp (fun p e below T m c t hA hx hc q => XS.dloadN hA hx rfl (hb hc hd) hl q) nxt
theorem Run.dstoreN {x : Fin 4} {v : UInt64} (l' : Array Slot) (hd : decode code pc = .ok (.dstore_n x, 1)) (hl : storeLocals Ls x.val (.double v) = some l') (hp : pc + 1 = pc') (nxt : Run l Z n0 own code maxL ret nm R Q pc' l' st h k n) : Run l Z n0 own code maxL ret nm R Q pc Ls (.double v :: st) h k n := by
  subst hp
  exact Run.stp (fun p e below T m c t hA hx hc q => XS.dstoreN hA hx rfl (hb hc hd) rfl hl q) nxt
theorem Run.fconst0  (hd : decode code pc = .ok (.fconst 0, 1))  (hp : pc + 1 = pc') (nxt : Run l Z n0 own code maxL ret nm R Q pc' Ls (.float 0 :: st) h k n) : Run l Z n0 own code maxL ret nm R Q pc Ls st h k n := by
  subst hp
  exact Run.stp (fun p e below T m c t hA hx hc q => XS.fconst0 hA hx rfl (hb hc hd) rfl q) nxt
theorem Run.i2f {x : Int32} (hd : decode code pc = .ok (.i2f, 1))  (hp : pc + 1 = pc') (nxt : Run l Z n0 own code maxL ret nm R Q pc' Ls (.float (FP.i2f x) :: st) h k n) : Run l Z n0 own code maxL ret nm R Q pc Ls (.int x :: st) h k n := by
  subst hp
  exact Run.stp (fun p e below T m c t hA hx hc q => XS.i2fS hA hx rfl (hb hc hd) rfl rfl q) nxt
theorem Run.i2d {x : Int32} (hd : decode code pc = .ok (.i2d, 1))  (hp : pc + 1 = pc') (nxt : Run l Z n0 own code maxL ret nm R Q pc' Ls (.double (FP.i2d x) :: st) h k n) : Run l Z n0 own code maxL ret nm R Q pc Ls (.int x :: st) h k n := by
  subst hp
  exact Run.stp (fun p e below T m c t hA hx hc q => XS.i2dS hA hx rfl (hb hc hd) rfl rfl q) nxt
theorem Run.fdiv {x y : UInt32} (hd : decode code pc = .ok (.fdiv, 1)) (hn : Jvm.Free.Fl.NoNaN32 (FP.fdiv x y)) (hp : pc + 1 = pc') (nxt : Run l Z n0 own code maxL ret nm R Q pc' Ls (.float (FP.fdiv x y) :: st) h k n) : Run l Z n0 own code maxL ret nm R Q pc Ls (.float y :: .float x :: st) h k n := by
  subst hp
  exact Run.stp (fun p e below T m c t hA hx hc q => XS.fdivS hA hx rfl (hb hc hd) rfl hn rfl q) nxt
theorem Run.fadd {x y : UInt32} (hd : decode code pc = .ok (.fadd, 1)) (hn : Jvm.Free.Fl.NoNaN32 (FP.fadd x y)) (hp : pc + 1 = pc') (nxt : Run l Z n0 own code maxL ret nm R Q pc' Ls (.float (FP.fadd x y) :: st) h k n) : Run l Z n0 own code maxL ret nm R Q pc Ls (.float y :: .float x :: st) h k n := by
  subst hp
  exact Run.stp (fun p e below T m c t hA hx hc q => XS.faddS hA hx rfl (hb hc hd) rfl hn rfl q) nxt
theorem Run.f2d {x : UInt32} (hd : decode code pc = .ok (.f2d, 1)) (hn : Jvm.Free.Fl.NoNaN64 (FP.f2d x)) (hp : pc + 1 = pc') (nxt : Run l Z n0 own code maxL ret nm R Q pc' Ls (.double (FP.f2d x) :: st) h k n) : Run l Z n0 own code maxL ret nm R Q pc Ls (.float x :: st) h k n := by
  subst hp
  exact Run.stp (fun p e below T m c t hA hx hc q => XS.f2dS hA hx rfl (hb hc hd) rfl hn rfl q) nxt
theorem Run.fcmp {o : CmpOp} {x y : UInt32} (hd : decode code pc = .ok (.fcmp o, 1))  (hp : pc + 1 = pc') (nxt : Run l Z n0 own code maxL ret nm R Q pc' Ls (.int (cmpValue (FP.fcmp x y) o) :: st) h k n) : Run l Z n0 own code maxL ret nm R Q pc Ls (.float y :: .float x :: st) h k n := by
  subst hp
  exact Run.stp (fun p e below T m c t hA hx hc q => XS.fcmpS hA hx rfl (hb hc hd) rfl rfl q) nxt
theorem Run.dcmp {o : CmpOp} {x y : UInt64} (hd : decode code pc = .ok (.dcmp o, 1))  (hp : pc + 1 = pc') (nxt : Run l Z n0 own code maxL ret nm R Q pc' Ls (.int (cmpValue (FP.dcmp x y) o) :: st) h k n) : Run l Z n0 own code maxL ret nm R Q pc Ls (.double y :: .double x :: st) h k n := by
  subst hp
  exact Run.stp (fun p e below T m c t hA hx hc q => XS.dcmpS hA hx rfl (hb hc hd) rfl rfl q) nxt
theorem Run.ldcF {a0 : Array Value} {i : Nat} {v : UInt32} (hd : decode code pc = .ok (.ldc i, 2)) (w : (Cond.constantFloat own i v).before a0 Z = true) (hp : pc + 2 = pc') (nxt : Run l Z n0 own code maxL ret nm R Q pc' Ls (.float v :: st) h k n) : Run l Z n0 own code maxL ret nm R Q pc Ls st h k n := by
  subst hp
  exact Run.via (fun p e s m args below meth c T locs cells slots hC X eT => ⟨T, X, eT, fun t q => X.ldcFloatC hC.1 hC.2.2.1 (mvT hC.2.1 w) (g := mkF m pc Ls st) rfl (hb hC.2.2.2.1 hd) t q⟩) nxt
theorem Run.goto {o : Int} (hd : decode code pc = .ok (.goto o, 3)) (ho : 0 ≤ (pc : Int) + o) (hp : ((pc : Int) + o).toNat = pc') (nxt : Run l Z n0 own code maxL ret nm R Q pc' Ls st h k n) : Run l Z n0 own code maxL ret nm R Q pc Ls st h k n :=
  Run.stp (fun p e below T m c t hA hx hc q => XS.goto hA hx rfl rfl (hb hc hd) ho hp q) nxt
theorem Run.if_eq {x : Int32} {o : Int} {pa : Nat} (hd : decode code pc = .ok (.ifCond .eq o, 3)) (ho : 0 ≤ (pc : Int) + o) (hp : ((pc : Int) + o).toNat = pc') (hq : pc + 3 = pa)
    (yes : x = 0 → Run l Z n0 own code maxL ret nm R Q pc' Ls st h k n) (no : ¬ x = 0 → Run l Z n0 own code maxL ret nm R Q pa Ls st h k n) : Run l Z n0 own code maxL ret nm R Q pc Ls (.int x :: st) h k n := by
  subst hq
  by_cases hc : x = 0
  · exact Run.stp (fun p e below T m c t hA hx hb' q => XS.ifYes hA hx rfl rfl (hb hb' hd) rfl (XT.i0_eq_t hc) ho hp q) (yes hc)
  · exact Run.stp (fun p e below T m c t hA hx hb' q => XS.ifNo hA hx rfl (hb hb' hd) rfl (XT.i0_eq_f hc) q) (no hc)
theorem Run.icmp_eq {x y : Int32} {o : Int} {pa : Nat} (hd : decode code pc = .ok (.if_icmp .eq o, 3)) (ho : 0 ≤ (pc : Int) + o) (hp : ((pc : Int) + o).toNat = pc') (hq : pc + 3 = pa)
    (yes : x = y → Run l Z n0 own code maxL ret nm R Q pc' Ls st h k n) (no : ¬ x = y → Run l Z n0 own code maxL ret nm R Q pa Ls st h k n) : Run l Z n0 own code maxL ret nm R Q pc Ls (.int y :: .int x :: st) h k n := by
  subst hq
  by_cases hc : x = y
  · exact Run.stp (fun p e below T m c t hA hx hb' q => XS.icmpYes hA hx rfl rfl (hb hb' hd) rfl (XT.ii_eq_t hc) ho hp q) (yes hc)
  · exact Run.stp (fun p e below T m c t hA hx hb' q => XS.icmpNo hA hx rfl (hb hb' hd) rfl (XT.ii_eq_f hc) q) (no hc)
theorem Run.if_ne {x : Int32} {o : Int} {pa : Nat} (hd : decode code pc = .ok (.ifCond .ne o, 3)) (ho : 0 ≤ (pc : Int) + o) (hp : ((pc : Int) + o).toNat = pc') (hq : pc + 3 = pa)
    (yes : ¬ x = 0 → Run l Z n0 own code maxL ret nm R Q pc' Ls st h k n) (no : x = 0 → Run l Z n0 own code maxL ret nm R Q pa Ls st h k n) : Run l Z n0 own code maxL ret nm R Q pc Ls (.int x :: st) h k n := by
  subst hq
  by_cases hc : x = 0
  · exact Run.stp (fun p e below T m c t hA hx hb' q => XS.ifNo hA hx rfl (hb hb' hd) rfl (XT.i0_ne_f hc) q) (no (by simpa using hc))
  · exact Run.stp (fun p e below T m c t hA hx hb' q => XS.ifYes hA hx rfl rfl (hb hb' hd) rfl (XT.i0_ne_t hc) ho hp q) (yes hc)
theorem Run.icmp_ne {x y : Int32} {o : Int} {pa : Nat} (hd : decode code pc = .ok (.if_icmp .ne o, 3)) (ho : 0 ≤ (pc : Int) + o) (hp : ((pc : Int) + o).toNat = pc') (hq : pc + 3 = pa)
    (yes : ¬ x = y → Run l Z n0 own code maxL ret nm R Q pc' Ls st h k n) (no : x = y → Run l Z n0 own code maxL ret nm R Q pa Ls st h k n) : Run l Z n0 own code maxL ret nm R Q pc Ls (.int y :: .int x :: st) h k n := by
  subst hq
  by_cases hc : x = y
  · exact Run.stp (fun p e below T m c t hA hx hb' q => XS.icmpNo hA hx rfl (hb hb' hd) rfl (XT.ii_ne_f hc) q) (no (by simpa using hc))
  · exact Run.stp (fun p e below T m c t hA hx hb' q => XS.icmpYes hA hx rfl rfl (hb hb' hd) rfl (XT.ii_ne_t hc) ho hp q) (yes hc)
theorem Run.if_lt {x : Int32} {o : Int} {pa : Nat} (hd : decode code pc = .ok (.ifCond .lt o, 3)) (ho : 0 ≤ (pc : Int) + o) (hp : ((pc : Int) + o).toNat = pc') (hq : pc + 3 = pa)
    (yes : x < 0 → Run l Z n0 own code maxL ret nm R Q pc' Ls st h k n) (no : ¬ x < 0 → Run l Z n0 own code maxL ret nm R Q pa Ls st h k n) : Run l Z n0 own code maxL ret nm R Q pc Ls (.int x :: st) h k n := by
  subst hq
  by_cases hc : x < 0
  · exact Run.stp (fun p e below T m c t hA hx hb' q => XS.ifYes hA hx rfl rfl (hb hb' hd) rfl (XT.i0_lt_t hc) ho hp q) (yes hc)
  · exact Run.stp (fun p e below T m c t hA hx hb' q => XS.ifNo hA hx rfl (hb hb' hd) rfl (XT.i0_lt_f hc) q) (no hc)
theorem Run.icmp_lt {x y : Int32} {o : Int} {pa : Nat} (hd : decode code pc = .ok (.if_icmp .lt o, 3)) (ho : 0 ≤ (pc : Int) + o) (hp : ((pc : Int) + o).toNat = pc') (hq : pc + 3 = pa)
    (yes : x < y → Run l Z n0 own code maxL ret nm R Q pc' Ls st h k n) (no : ¬ x < y → Run l Z n0 own code maxL ret nm R Q pa Ls st h k n) : Run l Z n0 own code maxL ret nm R Q pc Ls (.int y :: .int x :: st) h k n := by
  subst hq
  by_cases hc : x < y
  · exact Run.stp (fun p e below T m c t hA hx hb' q => XS.icmpYes hA hx rfl rfl (hb hb' hd) rfl (XT.ii_lt_t hc) ho hp q) (yes hc)
  · exact Run.stp (fun p e below T m c t hA hx hb' q => XS.icmpNo hA hx rfl (hb hb' hd) rfl (XT.ii_lt_f hc) q) (no hc)
theorem Run.if_ge {x : Int32} {o : Int} {pa : Nat} (hd : decode code pc = .ok (.ifCond .ge o, 3)) (ho : 0 ≤ (pc : Int) + o) (hp : ((pc : Int) + o).toNat = pc') (hq : pc + 3 = pa)
    (yes : ¬ x < 0 → Run l Z n0 own code maxL ret nm R Q pc' Ls st h k n) (no : x < 0 → Run l Z n0 own code maxL ret nm R Q pa Ls st h k n) : Run l Z n0 own code maxL ret nm R Q pc Ls (.int x :: st) h k n := by
  subst hq
  by_cases hc : x < 0
  · exact Run.stp (fun p e below T m c t hA hx hb' q => XS.ifNo hA hx rfl (hb hb' hd) rfl (XT.i0_ge_f hc) q) (no (by simpa using hc))
  · exact Run.stp (fun p e below T m c t hA hx hb' q => XS.ifYes hA hx rfl rfl (hb hb' hd) rfl (XT.i0_ge_t hc) ho hp q) (yes hc)
theorem Run.icmp_ge {x y : Int32} {o : Int} {pa : Nat} (hd : decode code pc = .ok (.if_icmp .ge o, 3)) (ho : 0 ≤ (pc : Int) + o) (hp : ((pc : Int) + o).toNat = pc') (hq : pc + 3 = pa)
    (yes : ¬ x < y → Run l Z n0 own code maxL ret nm R Q pc' Ls st h k n) (no : x < y → Run l Z n0 own code maxL ret nm R Q pa Ls st h k n) : Run l Z n0 own code maxL ret nm R Q pc Ls (.int y :: .int x :: st) h k n := by
  subst hq
  by_cases hc : x < y
  · exact Run.stp (fun p e below T m c t hA hx hb' q => XS.icmpNo hA hx rfl (hb hb' hd) rfl (XT.ii_ge_f hc) q) (no (by simpa using hc))
  · exact Run.stp (fun p e below T m c t hA hx hb' q => XS.icmpYes hA hx rfl rfl (hb hb' hd) rfl (XT.ii_ge_t hc) ho hp q) (yes hc)
theorem Run.if_gt {x : Int32} {o : Int} {pa : Nat} (hd : decode code pc = .ok (.ifCond .gt o, 3)) (ho : 0 ≤ (pc : Int) + o) (hp : ((pc : Int) + o).toNat = pc') (hq : pc + 3 = pa)
    (yes : 0 < x → Run l Z n0 own code maxL ret nm R Q pc' Ls st h k n) (no : ¬ 0 < x → Run l Z n0 own code maxL ret nm R Q pa Ls st h k n) : Run l Z n0 own code maxL ret nm R Q pc Ls (.int x :: st) h k n := by
  subst hq
  by_cases hc : 0 < x
  · exact Run.stp (fun p e below T m c t hA hx hb' q => XS.ifYes hA hx rfl rfl (hb hb' hd) rfl (XT.i0_gt_t hc) ho hp q) (yes hc)
  · exact Run.stp (fun p e below T m c t hA hx hb' q => XS.ifNo hA hx rfl (hb hb' hd) rfl (XT.i0_gt_f hc) q) (no hc)
theorem Run.icmp_gt {x y : Int32} {o : Int} {pa : Nat} (hd : decode code pc = .ok (.if_icmp .gt o, 3)) (ho : 0 ≤ (pc : Int) + o) (hp : ((pc : Int) + o).toNat = pc') (hq : pc + 3 = pa)
    (yes : y < x → Run l Z n0 own code maxL ret nm R Q pc' Ls st h k n) (no : ¬ y < x → Run l Z n0 own code maxL ret nm R Q pa Ls st h k n) : Run l Z n0 own code maxL ret nm R Q pc Ls (.int y :: .int x :: st) h k n := by
  subst hq
  by_cases hc : y < x
  · exact Run.stp (fun p e below T m c t hA hx hb' q => XS.icmpYes hA hx rfl rfl (hb hb' hd) rfl (XT.ii_gt_t hc) ho hp q) (yes hc)
  · exact Run.stp (fun p e below T m c t hA hx hb' q => XS.icmpNo hA hx rfl (hb hb' hd) rfl (XT.ii_gt_f hc) q) (no hc)
theorem Run.if_le {x : Int32} {o : Int} {pa : Nat} (hd : decode code pc = .ok (.ifCond .le o, 3)) (ho : 0 ≤ (pc : Int) + o) (hp : ((pc : Int) + o).toNat = pc') (hq : pc + 3 = pa)
    (yes : ¬ 0 < x → Run l Z n0 own code maxL ret nm R Q pc' Ls st h k n) (no : 0 < x → Run l Z n0 own code maxL ret nm R Q pa Ls st h k n) : Run l Z n0 own code maxL ret nm R Q pc Ls (.int x :: st) h k n := by
  subst hq
  by_cases hc : 0 < x
  · exact Run.stp (fun p e below T m c t hA hx hb' q => XS.ifNo hA hx rfl (hb hb' hd) rfl (XT.i0_le_f hc) q) (no (by simpa using hc))
  · exact Run.stp (fun p e below T m c t hA hx hb' q => XS.ifYes hA hx rfl rfl (hb hb' hd) rfl (XT.i0_le_t hc) ho hp q) (yes hc)
theorem Run.icmp_le {x y : Int32} {o : Int} {pa : Nat} (hd : decode code pc = .ok (.if_icmp .le o, 3)) (ho : 0 ≤ (pc : Int) + o) (hp : ((pc : Int) + o).toNat = pc') (hq : pc + 3 = pa)
    (yes : ¬ y < x → Run l Z n0 own code maxL ret nm R Q pc' Ls st h k n) (no : y < x → Run l Z n0 own code maxL ret nm R Q pa Ls st h k n) : Run l Z n0 own code maxL ret nm R Q pc Ls (.int y :: .int x :: st) h k n := by
  subst hq
  by_cases hc : y < x
  · exact Run.stp (fun p e below T m c t hA hx hb' q => XS.icmpNo hA hx rfl (hb hb' hd) rfl (XT.ii_le_f hc) q) (no (by simpa using hc))
  · exact Run.stp (fun p e below T m c t hA hx hb' q => XS.icmpYes hA hx rfl rfl (hb hb' hd) rfl (XT.ii_le_t hc) ho hp q) (yes hc)
theorem Run.lif_eq {x y : Int64} {o : Int} {pa : Nat} (hd : decode code pc = .ok (.ifCond .eq o, 3)) (ho : 0 ≤ (pc : Int) + o) (hp : ((pc : Int) + o).toNat = pc') (hq : pc + 3 = pa)
    (yes : x = y → Run l Z n0 own code maxL ret nm R Q pc' Ls st h k n) (no : ¬ x = y → Run l Z n0 own code maxL ret nm R Q pa Ls st h k n) : Run l Z n0 own code maxL ret nm R Q pc Ls (.int (XT.cmpL x y) :: st) h k n := by
  subst hq
  by_cases hc : x = y
  · exact Run.stp (fun p e below T m c t hA hx hb' q => XS.ifYes hA hx rfl rfl (hb hb' hd) rfl (XT.ll_eq_t hc) ho hp q) (yes hc)
  · exact Run.stp (fun p e below T m c t hA hx hb' q => XS.ifNo hA hx rfl (hb hb' hd) rfl (XT.ll_eq_f hc) q) (no hc)
theorem Run.lif_ne {x y : Int64} {o : Int} {pa : Nat} (hd : decode code pc = .ok (.ifCond .ne o, 3)) (ho : 0 ≤ (pc : Int) + o) (hp : ((pc : Int) + o).toNat = pc') (hq : pc + 3 = pa)
    (yes : ¬ x = y → Run l Z n0 own code maxL ret nm R Q pc' Ls st h k n) (no : x = y → Run l Z n0 own code maxL ret nm R Q pa Ls st h k n) : Run l Z n0 own code maxL ret nm R Q pc Ls (.int (XT.cmpL x y) :: st) h k n := by
  subst hq
  by_cases hc : x = y
  · exact Run.stp (fun p e below T m c t hA hx hb' q => XS.ifNo hA hx rfl (hb hb' hd) rfl (XT.ll_ne_f hc) q) (no (by simpa using hc))
  · exact Run.stp (fun p e below T m c t hA hx hb' q => XS.ifYes hA hx rfl rfl (hb hb' hd) rfl (XT.ll_ne_t hc) ho hp q) (yes hc)
theorem Run.lif_lt {x y : Int64} {o : Int} {pa : Nat} (hd : decode code pc = .ok (.ifCond .lt o, 3)) (ho : 0 ≤ (pc : Int) + o) (hp : ((pc : Int) + o).toNat = pc') (hq : pc + 3 = pa)
    (yes : x < y → Run l Z n0 own code maxL ret nm R Q pc' Ls st h k n) (no : ¬ x < y → Run l Z n0 own code maxL ret nm R Q pa Ls st h k n) : Run l Z n0 own code maxL ret nm R Q pc Ls (.int (XT.cmpL x y) :: st) h k n := by
  subst hq
  by_cases hc : x < y
  · exact Run.stp (fun p e below T m c t hA hx hb' q => XS.ifYes hA hx rfl rfl (hb hb' hd) rfl (XT.ll_lt_t hc) ho hp q) (yes hc)
  · exact Run.stp (fun p e below T m c t hA hx hb' q => XS.ifNo hA hx rfl (hb hb' hd) rfl (XT.ll_lt_f hc) q) (no hc)
theorem Run.lif_ge {x y : Int64} {o : Int} {pa : Nat} (hd : decode code pc = .ok (.ifCond .ge o, 3)) (ho : 0 ≤ (pc : Int) + o) (hp : ((pc : Int) + o).toNat = pc') (hq : pc + 3 = pa)
    (yes : ¬ x < y → Run l Z n0 own code maxL ret nm R Q pc' Ls st h k n) (no : x < y → Run l Z n0 own code maxL ret nm R Q pa Ls st h k n) : Run l Z n0 own code maxL ret nm R Q pc Ls (.int (XT.cmpL x y) :: st) h k n := by
  subst hq
  by_cases hc : x < y
  · exact Run.stp (fun p e below T m c t hA hx hb' q => XS.ifNo hA hx rfl (hb hb' hd) rfl (XT.ll_ge_f hc) q) (no (by simpa using hc))
  · exact Run.stp (fun p e below T m c t hA hx hb' q => XS.ifYes hA hx rfl rfl (hb hb' hd) rfl (XT.ll_ge_t hc) ho hp q) (yes hc)
theorem Run.lif_gt {x y : Int64} {o : Int} {pa : Nat} (hd : decode code pc = .ok (.ifCond .gt o, 3)) (ho : 0 ≤ (pc : Int) + o) (hp : ((pc : Int) + o).toNat = pc') (hq : pc + 3 = pa)
    (yes : y < x → Run l Z n0 own code maxL ret nm R Q pc' Ls st h k n) (no : ¬ y < x → Run l Z n0 own code maxL ret nm R Q pa Ls st h k n) : Run l Z n0 own code maxL ret nm R Q pc Ls (.int (XT.cmpL x y) :: st) h k n := by
  subst hq
  by_cases hc : y < x
  · exact Run.stp (fun p e below T m c t hA hx hb' q => XS.ifYes hA hx rfl rfl (hb hb' hd) rfl (XT.ll_gt_t hc) ho hp q) (yes hc)
  · exact Run.stp (fun p e below T m c t hA hx hb' q => XS.ifNo hA hx rfl (hb hb' hd) rfl (XT.ll_gt_f hc) q) (no hc)
theorem Run.lif_le {x y : Int64} {o : Int} {pa : Nat} (hd : decode code pc = .ok (.ifCond .le o, 3)) (ho : 0 ≤ (pc : Int) + o) (hp : ((pc : Int) + o).toNat = pc') (hq : pc + 3 = pa)
    (yes : ¬ y < x → Run l Z n0 own code maxL ret nm R Q pc' Ls st h k n) (no : y < x → Run l Z n0 own code maxL ret nm R Q pa Ls st h k n) : Run l Z n0 own code maxL ret nm R Q pc Ls (.int (XT.cmpL x y) :: st) h k n := by
  subst hq
  by_cases hc : y < x
  · exact Run.stp (fun p e below T m c t hA hx hb' q => XS.ifNo hA hx rfl (hb hb' hd) rfl (XT.ll_le_f hc) q) (no (by simpa using hc))
  · exact Run.stp (fun p e below T m c t hA hx hb' q => XS.ifYes hA hx rfl rfl (hb hb' hd) rfl (XT.ll_le_t hc) ho hp q) (yes hc)
theorem Run.acmp_eq {x y : Value} {o : Int} {pa : Nat} (hd : decode code pc = .ok (.if_acmp .eq o, 3)) (hv : x.isRef = true) (hv' : y.isRef = true) (ho : 0 ≤ (pc : Int) + o) (hp : ((pc : Int) + o).toNat = pc') (hq : pc + 3 = pa)
    (yes : x = y → Run l Z n0 own code maxL ret nm R Q pc' Ls st h k n) (no : ¬ x = y → Run l Z n0 own code maxL ret nm R Q pa Ls st h k n) : Run l Z n0 own code maxL ret nm R Q pc Ls (y :: x :: st) h k n := by
  subst hq
  by_cases hc : x = y
  · exact Run.stp (fun p e below T m c t hA hx hb' q => XT.acmpYes hA hx rfl rfl (hb hb' hd) rfl hv hv' (XT.aa_eq_t hc) ho hp q) (yes hc)
  · exact Run.stp (fun p e below T m c t hA hx hb' q => XT.acmpNo hA hx rfl (hb hb' hd) rfl hv hv' (XT.aa_eq_f hc) q) (no hc)
theorem Run.acmp_ne {x y : Value} {o : Int} {pa : Nat} (hd : decode code pc = .ok (.if_acmp .ne o, 3)) (hv : x.isRef = true) (hv' : y.isRef = true) (ho : 0 ≤ (pc : Int) + o) (hp : ((pc : Int) + o).toNat = pc') (hq : pc + 3 = pa)
    (yes : ¬ x = y → Run l Z n0 own code maxL ret nm R Q pc' Ls st h k n) (no : x = y → Run l Z n0 own code maxL ret nm R Q pa Ls st h k n) : Run l Z n0 own code maxL ret nm R Q pc Ls (y :: x :: st) h k n := by
  subst hq
  by_cases hc : x = y
  · exact Run.stp (fun p e below T m c t hA hx hb' q => XT.acmpNo hA hx rfl (hb hb' hd) rfl hv hv' (XT.aa_ne_f hc) q) (no (by simpa using hc))
  · exact Run.stp (fun p e below T m c t hA hx hb' q => XT.acmpYes hA hx rfl rfl (hb hb' hd) rfl hv hv' (XT.aa_ne_t hc) ho hp q) (yes hc)
theorem Run.ifnull {v : Value} {o : Int} {pa : Nat} (hd : decode code pc = .ok (.ifnull o, 3)) (hv : v.isRef = true) (ho : 0 ≤ (pc : Int) + o) (hp : ((pc : Int) + o).toNat = pc') (hq : pc + 3 = pa)
    (yes : v = .null → Run l Z n0 own code maxL ret nm R Q pc' Ls st h k n) (no : ¬ v = .null → Run l Z n0 own code maxL ret nm R Q pa Ls st h k n) : Run l Z n0 own code maxL ret nm R Q pc Ls (v :: st) h k n := by
  subst hq
  by_cases hc : v = .null
  · exact Run.stp (fun p e below T m c t hA hx hb' q => XT.nullYes hA hx rfl rfl (hb hb' hd) rfl hc ho hp q) (yes hc)
  · exact Run.stp (fun p e below T m c t hA hx hb' q => XT.nullNo hA hx rfl (hb hb' hd) rfl hv hc q) (no hc)
theorem Run.ifnonnull {v : Value} {o : Int} {pa : Nat} (hd : decode code pc = .ok (.ifnonnull o, 3)) (hv : v.isRef = true) (ho : 0 ≤ (pc : Int) + o) (hp : ((pc : Int) + o).toNat = pc') (hq : pc + 3 = pa)
    (yes : ¬ v = .null → Run l Z n0 own code maxL ret nm R Q pc' Ls st h k n) (no : v = .null → Run l Z n0 own code maxL ret nm R Q pa Ls st h k n) : Run l Z n0 own code maxL ret nm R Q pc Ls (v :: st) h k n := by
  subst hq
  by_cases hc : v = .null
  · exact Run.stp (fun p e below T m c t hA hx hb' q => XT.nonnullNo hA hx rfl (hb hb' hd) rfl hc q) (no hc)
  · exact Run.stp (fun p e below T m c t hA hx hb' q => XT.nonnullYes hA hx rfl rfl (hb hb' hd) rfl hv hc ho hp q) (yes hc)
/-! the pool's constants, fields, statics -/
theorem Run.ldcI {a0 : Array Value} {i : Nat} {v : Int32} (hd : decode code pc = .ok (.ldc i, 2)) (w : (Cond.constant own i v).before a0 Z = true) (hp : pc + 2 = pc') (nxt : Run l Z n0 own code maxL ret nm R Q pc' Ls (.int v :: st) h k n) : Run l Z n0 own code maxL ret nm R Q pc Ls st h k n := by
  subst hp
  exact Run.via (fun p e s m args below meth c T locs cells slots hC X eT => ⟨T, X, eT, fun t q => X.ldcI hC.1 hC.2.2.1 (mvT hC.2.1 w) rfl (hb hC.2.2.2.1 hd) q⟩) nxt
theorem Run.ldcWI {a0 : Array Value} {i : Nat} {v : Int32} (hd : decode code pc = .ok (.ldc_w i, 3)) (w : (Cond.constant own i v).before a0 Z = true) (hp : pc + 3 = pc') (nxt : Run l Z n0 own code maxL ret nm R Q pc' Ls (.int v :: st) h k n) : Run l Z n0 own code maxL ret nm R Q pc Ls st h k n := by
  subst hp
  exact Run.via (fun p e s m args below meth c T locs cells slots hC X eT => ⟨T, X, eT, fun t q => X.ldcWI hC.1 hC.2.2.1 (mvT hC.2.1 w) rfl (hb hC.2.2.2.1 hd) q⟩) nxt
theorem Run.ldc2J {a0 : Array Value} {i : Nat} {v : Int64} (hd : decode code pc = .ok (.ldc2_w i, 3)) (w : (Cond.constantLong own i v).before a0 Z = true) (hp : pc + 3 = pc') (nxt : Run l Z n0 own code maxL ret nm R Q pc' Ls (.long v :: st) h k n) : Run l Z n0 own code maxL ret nm R Q pc Ls st h k n := by
  subst hp
  exact Run.via (fun p e s m args below meth c T locs cells slots hC X eT => ⟨T, X, eT, fun t q => X.ldc2J hC.1 hC.2.2.1 (mvT hC.2.1 w) rfl (hb hC.2.2.2.1 hd) q⟩) nxt
theorem Run.getS {a0 : Array Value} {R0 O f d host : String} {i : Nat} {v : Value} (hd : decode code pc = .ok (.getstatic i, 3)) (w : (Cond.fieldLink own i R0 f d).before a0 Z = true ∨ (Cond.fieldLinkNest own i R0 f d host).before a0 Z = true) (via : Via Z R0 O f d) (F : Sta Z h O f d v) (hp : pc + 3 = pc') (nxt : Run l Z n0 own code maxL ret nm R Q pc' Ls (v :: st) h k n) : Run l Z n0 own code maxL ret nm R Q pc Ls st h k n := by
  subst hp
  exact Run.via (fun p e s m args below meth c T locs cells slots hC X eT => getS2 X hC.1 hC.2.1 hC.2.2.1 w via eT F (g := mkF m pc Ls st) rfl (hb hC.2.2.2.1 hd)) nxt
theorem Run.getF {a0 : Array Value} {R0 O f d host : String} {i : Nat} {a : Addr} {v : Value} (hd : decode code pc = .ok (.getfield i, 3)) (w : (Cond.fieldLink own i R0 f d).before a0 Z = true ∨ (Cond.fieldLinkNest own i R0 f d host).before a0 Z = true) (via : Via Z R0 O f d) (F : Fld Z h a O f d v) (hp : pc + 3 = pc') (nxt : Run l Z n0 own code maxL ret nm R Q pc' Ls (v :: st) h k n) : Run l Z n0 own code maxL ret nm R Q pc Ls (.ref a :: st) h k n := by
  subst hp
  exact Run.via (fun p e s m args below meth c T locs cells slots hC X eT => getF X hC.1 hC.2.1 hC.2.2.1 w via eT F (g := mkF m pc Ls (.ref a :: st)) rfl rfl (hb hC.2.2.2.1 hd)) nxt
/-! the returns -/
theorem Go.fin {p : Program} {e : Env} {s : State} {m : MethodId} {args : Array Value} {below : List Frame} {meth : Method} {c : Code} {T S : State} {locs : List Loc} {cells slots : Nat} {v : Option Value} (X : Stand p l e R s m args below meth c T locs cells slots) (hv : meth.sig.returnType = none → v = none) (hlk : meth.locks = false) (hF : Fr n0 locs) (hk : cells ≤ R.cells) (hn : slots ≤ R.slots) (hQ : Q v T.heap)
    (f : ∀ fs, (∀ (f : JFrame) (acts : List Action), f.method = m → f.locked = none → f.entered = [] → (doReturn e (T.setTop f) acts v).1 = T.setFrames fs) → Steps p.tables e below S (T.setFrames fs)) : Go p e below s n0 R.cells R.slots Q S := by
  obtain ⟨fs, hr, hrun, hended, hW, hsame⟩ := X.leave (v := v) hv hlk
  exact ⟨_, v, locs, f fs hr, hrun, hended, ⟨hQ, hF⟩, ⟨_, rfl⟩, hW, hsame.mono hk hn⟩
theorem Run.ireturn {z : Int32} (hd : decode code pc = .ok (.ireturn, 1)) (hret : ret = some .int) (hk : k ≤ R.cells) (hn : n ≤ R.slots) (hQ : Q (some (.int z)) h) : Run l Z n0 own code maxL ret nm R Q pc Ls (.int z :: st) h k n := by
  intro p e s m args below meth c T locs cells slots hC X eT hF hk' hn'
  subst eT
  have hr := hC.2.2.2.2.2.1
  exact Go.fin X (fun q => by rw [hr, hret] at q; cases q) hC.2.2.2.2.2.2.1 hF (Nat.le_trans hk' hk) (Nat.le_trans hn' hn) hQ (fun fs hl => retOut X hC.1 (hr.trans hret) rfl (Or.inl ⟨rfl, Or.inl rfl, z, rfl⟩) (hb hC.2.2.2.1 hd) hl)
theorem Run.nreturn {z : Int32} {ty : FieldType} (hd : decode code pc = .ok (.ireturn, 1)) (hret : ret = some ty) (ht : ty = .boolean ∨ ty = .byte ∨ ty = .char ∨ ty = .short) (hk : k ≤ R.cells) (hn : n ≤ R.slots) (hQ : Q (some (.int (nar ty z))) h) : Run l Z n0 own code maxL ret nm R Q pc Ls (.int z :: st) h k n := by
  intro p e s m args below meth c T locs cells slots hC X eT hF hk' hn'
  subst eT
  have hr := hC.2.2.2.2.2.1
  exact Go.fin X (fun q => by rw [hr, hret] at q; cases q) hC.2.2.2.2.2.2.1 hF (Nat.le_trans hk' hk) (Nat.le_trans hn' hn) hQ (fun fs hl => retN X hC.1 (hr.trans hret) ht (hb hC.2.2.2.1 hd) hl)
theorem Run.lreturn {z : Int64} (hd : decode code pc = .ok (.lreturn, 1)) (hret : ret = some .long) (hk : k ≤ R.cells) (hn : n ≤ R.slots) (hQ : Q (some (.long z)) h) : Run l Z n0 own code maxL ret nm R Q pc Ls (.long z :: st) h k n := by
  intro p e s m args below meth c T locs cells slots hC X eT hF hk' hn'
  subst eT
  have hr := hC.2.2.2.2.2.1
  exact Go.fin X (fun q => by rw [hr, hret] at q; cases q) hC.2.2.2.2.2.2.1 hF (Nat.le_trans hk' hk) (Nat.le_trans hn' hn) hQ (fun fs hl => retOut X hC.1 (hr.trans hret) rfl (Or.inr (Or.inl ⟨rfl, rfl, z, rfl⟩)) (hb hC.2.2.2.1 hd) hl)
theorem go_narref {t : FieldType} {w : Value} (ht : t.isReference = true) (hw : w.isRef = true) : narrow t w = w := by
  cases t <;> first | rfl | (cases ht; done) | (cases w <;> first | rfl | cases hw)
theorem Run.areturn {w : Value} {ty : FieldType} (hd : decode code pc = .ok (.areturn, 1)) (hret : ret = some ty) (ht : ty.isReference = true) (hw : w.isRef = true) (hk : k ≤ R.cells) (hn : n ≤ R.slots) (hQ : Q (some w) h) : Run l Z n0 own code maxL ret nm R Q pc Ls (w :: st) h k n := by
  intro p e s m args below meth c T locs cells slots hC X eT hF hk' hn'
  subst eT
  have hr := hC.2.2.2.2.2.1
  exact Go.fin X (fun q => by rw [hr, hret] at q; cases q) hC.2.2.2.2.2.2.1 hF (Nat.le_trans hk' hk) (Nat.le_trans hn' hn) hQ (fun fs hl => retOut X hC.1 (hr.trans hret) (go_narref ht hw) (Or.inr (Or.inr (Or.inr (Or.inr ⟨rfl, ht, hw⟩)))) (hb hC.2.2.2.1 hd) hl)
theorem Run.vreturn (hd : decode code pc = .ok (.return_, 1)) (hret : ret = none) (hk : k ≤ R.cells) (hn : n ≤ R.slots) (hQ : Q none h) : Run l Z n0 own code maxL ret nm R Q pc Ls [] h k n := by
  intro p e s m args below meth c T locs cells slots hC X eT hF hk' hn'
  subst eT
  have hr := hC.2.2.2.2.2.1
  exact Go.fin X (fun _ => rfl) hC.2.2.2.2.2.2.1 hF (Nat.le_trans hk' hk) (Nat.le_trans hn' hn) hQ (fun fs hl => X.returnOut hC.1 (hr.trans hret) (hb hC.2.2.2.1 hd) hl)

theorem Run.dreturn {z : UInt64} (hd : decode code pc = .ok (.dreturn, 1)) (hret : ret = some .double) (hk : k ≤ R.cells) (hn : n ≤ R.slots) (hQ : Q (some (.double z)) h) : Run l Z n0 own code maxL ret nm R Q pc Ls (.double z :: st) h k n := by
  intro p e s m args below meth c T locs cells slots hC X eT hF hk' hn'
  subst eT
  have hr := hC.2.2.2.2.2.1
  exact Go.fin X (fun q => by rw [hr, hret] at q; cases q) hC.2.2.2.2.2.2.1 hF (Nat.le_trans hk' hk) (Nat.le_trans hn' hn) hQ (fun fs hl => retOut X hC.1 (hr.trans hret) rfl (Or.inr (Or.inr (Or.inl ⟨rfl, rfl, z, rfl⟩))) (hb hC.2.2.2.1 hd) hl)
theorem Run.freturn {z : UInt32} (hd : decode code pc = .ok (.freturn, 1)) (hret : ret = some .float) (hk : k ≤ R.cells) (hn : n ≤ R.slots) (hQ : Q (some (.float z)) h) : Run l Z n0 own code maxL ret nm R Q pc Ls (.float z :: st) h k n := by
  intro p e s m args below meth c T locs cells slots hC X eT hF hk' hn'
  subst eT
  have hr := hC.2.2.2.2.2.1
  exact Go.fin X (fun q => by rw [hr, hret] at q; cases q) hC.2.2.2.2.2.2.1 hF (Nat.le_trans hk' hk) (Nat.le_trans hn' hn) hQ (fun fs hl => retOut X hC.1 (hr.trans hret) rfl (Or.inr (Or.inr (Or.inr (Or.inl ⟨rfl, rfl, z, rfl⟩)))) (hb hC.2.2.2.1 hd) hl)
/-! calls by a contract -/
theorem Run.callS {a0 : Array Value} {y : MethodName} {bytes : ByteArray} {mL : Nat} {rt : Option FieldType} {rm : Room} {as rest : List Value} {Qy : Option Value → Heap → Prop} {i : Nat} {ps : List FieldType} {rr : Option FieldType}
    (hC : Con l Z n0 y bytes mL rt rm as.toArray h Qy) (hd : decode code pc = .ok (.invokestatic i, 3)) (w1 : (Cond.methodLink own i y).before a0 Z = true) (w2 : (Cond.static y).before a0 Z = true) (w3 : (Cond.initialized y.cls).before a0 Z = true) (w4 : (Cond.code y bytes mL rt).before a0 Z = true)
    (hy : y.cls ≠ "java/lang/invoke/MethodHandle" ∧ y.cls ≠ "java/lang/invoke/VarHandle") (hds : parseMethodDescriptor y.desc = some ⟨ps, rr⟩) (hl : as.length = ps.length) (hst : st = as.reverse ++ rest) (hsz : Ls.size = maxL)
    (hf : rm.frames + 1 ≤ R.frames) (hlo : (rest.map fun v => v.category).sum + (mL + 11) + rm.locals ≤ R.locals) (hk : k + rm.cells ≤ k') (hk' : k' ≤ R.cells) (hn : n + rm.slots ≤ n') (hn' : n' ≤ R.slots) (hp : pc + 3 = pc')
    (nxt : ∀ v h', Qy v h' → Run l Z n0 own code maxL ret nm R Q pc' Ls (v.toList ++ rest) h' k' n') : Run l Z n0 own code maxL ret nm R Q pc Ls st h k n := by
  subst hp hst
  intro p e s m args below meth c T locs cells slots hX X eT hF hc hs
  obtain ⟨hx, hZ, hown, hby, hml, -⟩ := id hX
  obtain ⟨v, vm₁, ⟨B, L', cc, ss⟩, -, X', ⟨Lc, hQ, l1, y1, z1⟩, stp⟩ := Jvm.LawKit.callS X hx (y := y) hown (mvT hZ w1) (mvT hZ w2) (mvT hZ w3) (mvT hZ w4) hy (backOf (W := (rest.map fun v => v.category).sum) (Q := fun v h L => Qy v h ∧ Fr n0 L) (hC []) hZ w4 w3 hf hlo) (g := mkF m pc Ls (as.reverse ++ rest)) rfl (hsz.trans hml.symm) (argsL := as) (rest := rest) (lenOf hds hl) rfl (by show 2 * 0 + _ ≤ _; omega) (hb hby hd) (fun _ _ => ⟨rfl, eT, (by show cells + rm.cells ≤ R.cells; omega), (by show slots + rm.slots ≤ R.slots; omega)⟩)
  dsimp only [Pt.U, Pt.locs, Pt.cells, Pt.slots] at X' l1 y1 z1 stp hQ
  subst l1 y1 z1
  obtain ⟨s₂, v', L, g1, g2⟩ := nxt v _ hQ.1 p e s m args below meth c B _ _ _ hX X' rfl (Fr.app hF hQ.2) (by omega) (by omega)
  exact ⟨s₂, v', L, stp _ g1, g2⟩
theorem Run.callV {a0 : Array Value} {C : String} {y z : MethodName} {bytes : ByteArray} {mL : Nat} {rt : Option FieldType} {rm : Room} {a : Addr} {as rest : List Value} {Qy : Option Value → Heap → Prop} {i : Nat} {ps : List FieldType} {rr : Option FieldType}
    (hC : Con l Z n0 z bytes mL rt rm (.ref a :: as).toArray h Qy) (hE : Exa Z h a C) (hd : decode code pc = .ok (.invokevirtual i, 3)) (w1 : (Cond.methodLink own i y).before a0 Z = true) (w2 : (Cond.declares y).before a0 Z = true) (nf : ∀ (s : State), Z.Warmed39 s.vm → NotFace s y) (w3 : (Cond.selects C y z).before a0 Z = true) (w4 : (Cond.instanceMethod z).before a0 Z = true) (w5 : (Cond.initialized z.cls).before a0 Z = true) (w6 : (Cond.code z bytes mL rt).before a0 Z = true)
    (hy : y.cls ≠ "java/lang/invoke/MethodHandle" ∧ y.cls ≠ "java/lang/invoke/VarHandle") (hds : parseMethodDescriptor y.desc = some ⟨ps, rr⟩) (hl : as.length = ps.length) (hst : st = as.reverse ++ .ref a :: rest) (hsz : Ls.size = maxL)
    (hf : rm.frames + 1 ≤ R.frames) (hlo : (rest.map fun v => v.category).sum + (mL + 11) + rm.locals ≤ R.locals) (hk : k + rm.cells ≤ k') (hk' : k' ≤ R.cells) (hn : n + rm.slots ≤ n') (hn' : n' ≤ R.slots) (hp : pc + 3 = pc')
    (nxt : ∀ v h', Qy v h' → Run l Z n0 own code maxL ret nm R Q pc' Ls (v.toList ++ rest) h' k' n') : Run l Z n0 own code maxL ret nm R Q pc Ls st h k n := by
  subst hp hst
  intro p e s m args below meth c T locs cells slots hX X eT hF hc hs
  obtain ⟨hx, hZ, hown, hby, hml, -⟩ := id hX
  obtain ⟨cq, kq, qa, qb, qc⟩ := isOf hZ eT hE
  obtain ⟨v, vm₁, ⟨B, L', cc, ss⟩, -, X', ⟨Lc, hQ, l1, y1, z1⟩, stp⟩ := X.virtualBack hx (y := y) (z := z) hown (mvT hZ w1) (mvT hZ w2) (nf s hZ) (mvT hZ w3) (mvT hZ w4) hy (backOf (W := (rest.map fun v => v.category).sum) (Q := fun v h L => Qy v h ∧ Fr n0 L) (hC []) hZ w6 w5 hf hlo) qa qc (g := mkF m pc Ls (as.reverse ++ .ref a :: rest)) rfl (hsz.trans hml.symm) (Steps.refl _) (argsL := as) (rest := rest) (lenOf hds hl) rfl (by show 2 * 0 + _ ≤ _; omega) (hb hby hd) (fun _ _ => ⟨rfl, eT, (by show cells + rm.cells ≤ R.cells; omega), (by show slots + rm.slots ≤ R.slots; omega)⟩)
  dsimp only [Pt.U, Pt.locs, Pt.cells, Pt.slots] at X' l1 y1 z1 stp hQ
  subst l1 y1 z1
  obtain ⟨s₂, v', L, g1, g2⟩ := nxt v _ hQ.1 p e s m args below meth c B _ _ _ hX X' rfl (Fr.app hF hQ.2) (by omega) (by omega)
  exact ⟨s₂, v', L, stp.trans g1, g2⟩
theorem Run.callN {a0 : Array Value} {y : MethodName} {bytes : ByteArray} {mL : Nat} {rm : Room} {a : Addr} {as rest : List Value} {P : Heap → Prop} {i : Nat} {ps : List FieldType} {rr : Option FieldType}
    (hC : Con l Z n0 y bytes mL none rm (.ref a :: as).toArray h (Vd P)) (hy1 : y.name = "<init>") (hd : decode code pc = .ok (.invokespecial i, 3)) (w1 : (Cond.methodLink own i y).before a0 Z = true) (w2 : (Cond.instanceMethod y).before a0 Z = true) (w3 : (Cond.initialized y.cls).before a0 Z = true) (w4 : (Cond.code y bytes mL none).before a0 Z = true)
    (hy : y.cls ≠ "java/lang/invoke/MethodHandle" ∧ y.cls ≠ "java/lang/invoke/VarHandle") (hds : parseMethodDescriptor y.desc = some ⟨ps, rr⟩) (hl : as.length = ps.length) (hst : st = as.reverse ++ .ref a :: rest) (hsz : Ls.size = maxL)
    (hf : rm.frames + 1 ≤ R.frames) (hlo : (rest.map fun v => v.category).sum + (mL + 11) + rm.locals ≤ R.locals) (hk : k + rm.cells ≤ k') (hk' : k' ≤ R.cells) (hn : n + rm.slots ≤ n') (hn' : n' ≤ R.slots) (hp : pc + 3 = pc')
    (nxt : ∀ h', P h' → Run l Z n0 own code maxL ret nm R Q pc' Ls rest h' k' n') : Run l Z n0 own code maxL ret nm R Q pc Ls st h k n := by
  subst hp hst
  intro p e s m args below meth c T locs cells slots hX X eT hF hc hs
  obtain ⟨hx, hZ, hown, hby, hml, -⟩ := id hX
  obtain ⟨v, vm₁, ⟨B, L', cc, ss⟩, -, X', ⟨Lc, hQ, l1, y1, z1⟩, stp⟩ := X.specialBack hx (y := y) hy1 hown (mvT hZ w1) (mvT hZ w2) (mvT hZ w4) hy (backOf (W := (rest.map fun v => v.category).sum) (Q := fun v h L => Vd P v h ∧ Fr n0 L) (hC []) hZ w4 w3 hf hlo) (g := mkF m pc Ls (as.reverse ++ .ref a :: rest)) rfl (hsz.trans hml.symm) (Steps.refl _) (a := a) (argsL := as) (rest := rest) (lenOf hds hl) rfl (by show 2 * 0 + _ ≤ _; omega) (hb hby hd) (fun _ _ => ⟨rfl, eT, (by show cells + rm.cells ≤ R.cells; omega), (by show slots + rm.slots ≤ R.slots; omega)⟩)
  dsimp only [Pt.U, Pt.locs, Pt.cells, Pt.slots] at X' l1 y1 z1 stp hQ
  subst l1 y1 z1
  obtain ⟨⟨rfl, hP⟩, hL⟩ := hQ
  obtain ⟨s₂, v', L, g1, g2⟩ := nxt _ hP p e s m args below meth c B _ _ _ hX X' rfl (Fr.app hF hL) (by omega) (by omega)
  exact ⟨s₂, v', L, stp.trans g1, g2⟩
/-! the heap: new objects, fields written, arrays -/
theorem Run.wr {a : Addr} {sl : Nat} {v : Value} {Ls' : Array Slot} {st' : List Value} (f : ∀ (p : Program) (e : Env) (s : State) (m : MethodId) (args : Array Value) (below : List Frame) (meth : Method) (c : Code) (T : State) (locs : List Loc) (cells slots : Nat),
      Ctx Z own code maxL ret nm p s m meth c → Stand p l e R s m args below meth c T locs cells slots → T.heap = h → ∃ T' h', Stand p l e R s m args below meth c T' (locs ++ [⟨a, sl⟩]) cells slots ∧ T'.heap = h' ∧ Wr h h' a sl v ∧ ∀ t, Steps p.tables e below (T'.setTop (mkF m pc' Ls' st')) t → Steps p.tables e below (T.setTop (mkF m pc Ls st)) t)
    (ha : n0 ≤ a) (nxt : ∀ h', Wr h h' a sl v → Run l Z n0 own code maxL ret nm R Q pc' Ls' st' h' k n) : Run l Z n0 own code maxL ret nm R Q pc Ls st h k n := by
  intro p e s m args below meth c T locs cells slots hC X eT hF hk hn
  obtain ⟨T', h', X', e', W, stp⟩ := f p e s m args below meth c T locs cells slots hC X eT
  obtain ⟨s₂, v', L, g1, g2⟩ := nxt h' W p e s m args below meth c T' _ cells slots hC X' e' (Fr.snoc X' hF ha) hk hn
  exact ⟨s₂, v', L, stp _ g1, g2⟩
theorem Run.newO {a0 : Array Value} {C : String} {i sl : Nat} (hd : decode code pc = .ok (.new i, 3)) (w : (Cond.classLink own i C).before a0 Z = true) (wi : (Cond.instantiable C sl).before a0 Z = true) (wz : (Cond.initialized C).before a0 Z = true)
    (hk : k + 1 ≤ k') (hk' : k' ≤ R.cells) (hn : n + sl ≤ n') (hn' : n' ≤ R.slots) (hp : pc + 3 = pc')
    (nxt : ∀ h' a, a = h.size → Ext h h' → Exa Z h' a C → (∀ {O f d : String} {ty : FieldType}, Laid Z a0 C O f d → parseFieldDescriptor d = some ty → Fld Z h' a O f d (defaultValue ty)) → Run l Z n0 own code maxL ret nm R Q pc' Ls (.ref a :: st) h' k' n') : Run l Z n0 own code maxL ret nm R Q pc Ls st h k n := by
  subst hp
  intro p e s m args below meth c T locs cells slots hC X eT hF hkk hnn
  obtain ⟨T', h', X', e', E, A, D, -, stp⟩ := newO X hC.1 hC.2.1 hC.2.2.1 w wi wz eT (g := mkF m pc Ls st) rfl (hb hC.2.2.2.1 hd) (by omega) (by omega)
  obtain ⟨s₂, v, L, g1, g2⟩ := nxt h' h.size rfl E A D p e s m args below meth c T' locs _ _ hC X' e' hF (by omega) (by omega)
  exact ⟨s₂, v, L, stp _ g1, g2⟩
theorem Run.initO {a0 : Array Value} {i : Nat} {a : Addr} (hd : decode code pc = .ok (.invokespecial i, 3)) (w1 : (Cond.methodLink own i Lib.objectInit).before a0 Z = true) (w2 : (Cond.instanceMethod Lib.objectInit).before a0 Z = true) (w3 : (Cond.code Lib.objectInit ⟨#[0xb1]⟩ 1 none).before a0 Z = true)
    (hsz : Ls.size = maxL) (hf : 1 ≤ R.frames) (hl : (st.map fun v => v.category).sum + 12 ≤ R.locals) (hp : pc + 3 = pc') (nxt : Run l Z n0 own code maxL ret nm R Q pc' Ls st h k n) : Run l Z n0 own code maxL ret nm R Q pc Ls (.ref a :: st) h k n := by
  subst hp
  exact Run.via (fun p e s m args below meth c T locs cells slots hC X eT => initO X hC.1 hC.2.1 hC.2.2.1 w1 w2 w3 eT (g := mkF m pc Ls (.ref a :: st)) rfl (hsz.trans hC.2.2.2.2.1.symm) rfl (hb hC.2.2.2.1 hd) hf (W := (st.map fun v => v.category).sum) (by show 2 * 0 + _ ≤ _; omega) hl) nxt
theorem Run.putF {a0 : Array Value} {R0 O f d host C : String} {i sl : Nat} {ty : FieldType} {a : Addr} {v old : Value} (hd : decode code pc = .ok (.putfield i, 3)) (w : (Cond.fieldLink own i R0 f d).before a0 Z = true ∨ (Cond.fieldLinkNest own i R0 f d host).before a0 Z = true) (via : Via Z R0 O f d) (F : Fld Z h a O f d old) (E : Exa Z h a C)
    (L : (Cond.lays C O f d).before a0 Z = true ∨ ((Cond.laysFinal C O f d).before a0 Z = true ∧ own = O ∧ nm = "<init>")) (wi : (Cond.instantiable C sl).before a0 Z = true) (hty : parseFieldDescriptor d = some ty) (hnv : narrow ty v = v) (hfv : fits ty v = true) (ha : n0 ≤ a) (hp : pc + 3 = pc')
    (nxt : ∀ h', Wr h h' a (Jvm.RoadKit.slotOf Z O f d) v → Run l Z n0 own code maxL ret nm R Q pc' Ls st h' k n) : Run l Z n0 own code maxL ret nm R Q pc Ls (v :: .ref a :: st) h k n := by
  subst hp
  exact Run.wr (fun p e s m args below meth c T locs cells slots hC X eT => putF X hC.1 hC.2.1 hC.2.2.1 w via eT F E (L.imp id fun q => ⟨q.1, q.2.1, hC.2.2.2.2.2.2.2.trans q.2.2⟩) wi hty hnv hfv (g := mkF m pc Ls (v :: .ref a :: st)) rfl rfl (hb hC.2.2.2.1 hd)) ha nxt
theorem Run.putFN {a0 : Array Value} {R0 O f d C : String} {i sl : Nat} {ty : FieldType} {a : Addr} {v v' old : Value} (hd : decode code pc = .ok (.putfield i, 3)) (w : (Cond.fieldLink own i R0 f d).before a0 Z = true) (via : Via Z R0 O f d) (F : Fld Z h a O f d old) (E : Exa Z h a C)
    (L : (Cond.lays C O f d).before a0 Z = true ∨ ((Cond.laysFinal C O f d).before a0 Z = true ∧ own = O ∧ nm = "<init>")) (wi : (Cond.instantiable C sl).before a0 Z = true) (hty : parseFieldDescriptor d = some ty) (hnv : narrow ty v = v') (hfv : fits ty v' = true) (ha : n0 ≤ a) (hp : pc + 3 = pc')
    (nxt : ∀ h', Wr h h' a (Jvm.RoadKit.slotOf Z O f d) v' → Run l Z n0 own code maxL ret nm R Q pc' Ls st h' k n) : Run l Z n0 own code maxL ret nm R Q pc Ls (v :: .ref a :: st) h k n := by
  subst hp
  exact Run.wr (fun p e s m args below meth c T locs cells slots hC X eT => putFN X hC.1 hC.2.1 hC.2.2.1 w via eT F E (L.imp id fun q => ⟨q.1, q.2.1, hC.2.2.2.2.2.2.2.trans q.2.2⟩) wi hty hnv hfv (g := mkF m pc Ls (v :: .ref a :: st)) rfl rfl (hb hC.2.2.2.1 hd)) ha nxt
theorem Run.castY {a0 : Array Value} {K : String} {i : Nat} {a : Addr} (hd : decode code pc = .ok (.checkcast i, 3)) (w : (Cond.classLink own i K).before a0 Z = true) (F : Ins Z h a K true) (hp : pc + 3 = pc') (nxt : Run l Z n0 own code maxL ret nm R Q pc' Ls (.ref a :: st) h k n) : Run l Z n0 own code maxL ret nm R Q pc Ls (.ref a :: st) h k n := by
  subst hp
  exact Run.via (fun p e s m args below meth c T locs cells slots hC X eT => castY X hC.1 hC.2.1 hC.2.2.1 w eT F (g := mkF m pc Ls (.ref a :: st)) rfl rfl (hb hC.2.2.2.1 hd)) nxt
theorem Run.castNull {i : Nat} (hd : decode code pc = .ok (.checkcast i, 3)) (hp : pc + 3 = pc') (nxt : Run l Z n0 own code maxL ret nm R Q pc' Ls (.null :: st) h k n) : Run l Z n0 own code maxL ret nm R Q pc Ls (.null :: st) h k n := by
  subst hp
  exact Run.via (fun p e s m args below meth c T locs cells slots hC X eT => ⟨T, X, eT, fun t q => X.checkcastNull hC.1 (g := mkF m pc Ls (.null :: st)) rfl rfl (hb hC.2.2.2.1 hd) t q⟩) nxt
theorem Run.instY {a0 : Array Value} {K : String} {i : Nat} {a : Addr} (hd : decode code pc = .ok (.instanceof i, 3)) (w : (Cond.classLink own i K).before a0 Z = true) (F : Ins Z h a K true) (hp : pc + 3 = pc') (nxt : Run l Z n0 own code maxL ret nm R Q pc' Ls (.int 1 :: st) h k n) : Run l Z n0 own code maxL ret nm R Q pc Ls (.ref a :: st) h k n := by
  subst hp
  exact Run.via (fun p e s m args below meth c T locs cells slots hC X eT => instY X hC.1 hC.2.1 hC.2.2.1 w eT F (g := mkF m pc Ls (.ref a :: st)) rfl rfl (hb hC.2.2.2.1 hd)) nxt
theorem Run.instNo {a0 : Array Value} {K C : String} {i : Nat} {a : Addr} (hd : decode code pc = .ok (.instanceof i, 3)) (w : (Cond.classLink own i K).before a0 Z = true) (E : Exa Z h a C) (F : ∃ c t, Z.vm.findClass C = some c ∧ Z.vm.findClass K = some t ∧ Z.vm.assignable c t = false) (hp : pc + 3 = pc') (nxt : Run l Z n0 own code maxL ret nm R Q pc' Ls (.int 0 :: st) h k n) : Run l Z n0 own code maxL ret nm R Q pc Ls (.ref a :: st) h k n := by
  subst hp
  exact Run.via (fun p e s m args below meth c T locs cells slots hC X eT => instNo X hC.1 hC.2.1 hC.2.2.1 w eT E F (g := mkF m pc Ls (.ref a :: st)) rfl rfl (hb hC.2.2.2.1 hd)) nxt
theorem Run.instNull {i : Nat} (hd : decode code pc = .ok (.instanceof i, 3)) (hp : pc + 3 = pc') (nxt : Run l Z n0 own code maxL ret nm R Q pc' Ls (.int 0 :: st) h k n) : Run l Z n0 own code maxL ret nm R Q pc Ls (.null :: st) h k n := by
  subst hp
  exact Run.via (fun p e s m args below meth c T locs cells slots hC X eT => ⟨T, X, eT, fun t q => X.instanceofNull hC.1 (g := mkF m pc Ls (.null :: st)) rfl rfl (hb hC.2.2.2.1 hd) t q⟩) nxt
/-- the array at a holds just the list vs -/
def Ary (Z : State) (h : Heap) (a : Addr) (ty : FieldType) (vs : List Value) : Prop := ∃ c : Cell, Arr Z h a c ty ∧ c.slots.toList = vs
section Ar
variable {h' : Heap} {a b : Addr} {ty : FieldType} {vs : List Value} {sl : Nat} {v : Value} {ws : List Addr}
theorem Ary.lt (F : Ary Z h a ty vs) : a < h.size := by obtain ⟨c, A, -⟩ := F; exact A.lt
theorem Ary.ext (F : Ary Z h a ty vs) (E : Ext h h') : Ary Z h' a ty vs := by obtain ⟨c, A, r⟩ := F; exact ⟨c, A.ext E, r⟩
theorem Ary.other (F : Ary Z h b ty vs) (W : Wr h h' a sl v) (q : b ≠ a) : Ary Z h' b ty vs := by obtain ⟨c, A, r⟩ := F; exact ⟨c, A.other W q, r⟩
theorem Ary.keep (F : Ary Z h a ty vs) (K : Keep h h' ws) (q : a ∉ ws) : Ary Z h' a ty vs := by obtain ⟨c, A, r⟩ := F; exact ⟨c, ⟨K.2.1 a c A.1 q, A.2⟩, r⟩
theorem Ary.set (F : Ary Z h a ty vs) (W : Wr h h' a sl v) : Ary Z h' a ty (vs.set sl v) := by
  obtain ⟨c, A, r⟩ := F
  exact ⟨_, A.same W, by rw [← r]; simp [Cell.setSlot]⟩
theorem Ext.refl (h : Heap) : Ext h h := ⟨Nat.le_refl _, fun _ _ q => q⟩
theorem Ext.trans {h0 : Heap} (E : Ext h0 h) (E' : Ext h h') : Ext h0 h' := ⟨Nat.le_trans E.1 E'.1, fun a c q => E'.2 a c (E.2 a c q)⟩
theorem Ext.wr {h0 : Heap} (E : Ext h0 h) (W : Wr h h' a sl v) (q : h0.size ≤ a) : Ext h0 h' := by
  refine ⟨Nat.le_trans E.1 (Nat.le_of_eq W.size.symm), fun b c hb => ?_⟩
  obtain ⟨c', e1, -, -, -, e5, -⟩ := wr_at W (E.2 b c hb)
  have : b ≠ a := fun z => by subst z; exact absurd (Array.getElem?_eq_some_iff.mp hb).1 (Nat.not_lt.mpr q)
  rw [← e5 this]; exact e1
theorem Ext.keep {h0 : Heap} (E : Ext h0 h) (K : Keep h h' ws) (q : ∀ x ∈ ws, h0.size ≤ x) : Ext h0 h' :=
  ⟨Nat.le_trans E.1 K.1, fun b c hb => K.2.1 b c (E.2 b c hb) fun z => absurd (Array.getElem?_eq_some_iff.mp hb).1 (Nat.not_lt.mpr (q b z))⟩
theorem Keep.toExt (K : Keep h h' []) : Ext h h' := ⟨K.1, fun b c hb => K.2.1 b c hb nin0⟩
theorem own_fitsR {t : FieldType} (ht : refKind t = true) (hv : v.isRef = true) : fits t v = true := by cases t <;> first | (cases ht; done) | (cases v <;> first | rfl | cases hv)
theorem nst_exa {C : String} (E : Exa Z h a C) : ∃ c : Cell, h[a]? = some c ∧ c.vm.isStatics = false := by obtain ⟨c, _, h1, -, -, h4, -⟩ := E; exact ⟨c, h1, h4⟩
theorem nst_ary (A : Ary Z h a ty vs) : ∃ c : Cell, h[a]? = some c ∧ c.vm.isStatics = false := by obtain ⟨c, A, -⟩ := A; exact ⟨c, A.1, A.plain⟩
theorem sta_keep {C f d : String} (F : Sta Z h C f d v) (K : Keep h h' ws) (q : ∀ x ∈ ws, ∃ c : Cell, h[x]? = some c ∧ c.vm.isStatics = false) : Sta Z h' C f d v := by
  obtain ⟨cf, i, k, f, st, cell, h1, h2, h3, h4, h5, h6, h7⟩ := F
  refine ⟨cf, i, k, f, st, cell, h1, h2, h3, h4, K.2.1 st cell h5 fun hx => ?_, h6, h7⟩
  obtain ⟨c, e1, e2⟩ := q st hx
  cases e1.symm.trans h5
  rw [h6] at e2; cases e2
theorem Keep.ofExt (E : Ext h h') : Keep h h' [] := (Keep.refl h []).ext E
theorem idxIn {c : Cell} {j : Int32} {i : Nat} (hj : j.toInt = (i : Int)) (hi : i < c.slots.size) : ¬ (j < 0 ∨ c.slots.size ≤ j.toNatClampNeg) ∧ j.toNatClampNeg = i := by
  have e : j.toNatClampNeg = i := by have : j.toNatClampNeg = j.toInt.toNat := rfl; rw [this, hj]; rfl
  refine ⟨fun q => ?_, e⟩
  rcases q with q | q
  · rw [Int32.lt_iff_toInt_lt, hj] at q; have : (0 : Int32).toInt = 0 := rfl; omega
  · omega
theorem sizeOf {c : Cell} (r : c.slots.toList = vs) : c.slots.size = vs.length := by rw [← r]; simp
theorem getOf {c : Cell} {i : Nat} (r : c.slots.toList = vs) (hv : vs[i]? = some v) : c.slots[i]? = some v := by rw [← r] at hv; simpa using hv
end Ar
theorem ns_root {a0 : Array Value} {O K : String} {m : Nat} (w : (Cond.noSuperclass O).before a0 Z = true) (wk : (Cond.instantiable K m).before a0 Z = true) (hn : O ≠ K) : NS Z O K := by
  obtain ⟨c, k, h1, h2, h3, -, -⟩ := Cond.noSuperclass_spec w
  obtain ⟨t, k2, g1, -⟩ := Cond.instantiable_spec wk
  have ne := ids_ne h1 g1 hn
  refine ⟨c, t, h1, g1, fun fuel => ?_⟩
  cases fuel with
  | zero => rfl
  | succ f => simp [Vm.isSubclassAux, ne, h2, h3]
theorem ns_no {a0 : Array Value} {C S K : String} {m : Nat} (w : (Cond.superclass C S).before a0 Z = true) (wk : (Cond.instantiable K m).before a0 Z = true) (n : NS Z C K) (hn : C ≠ K) : ∃ c t, Z.vm.findClass C = some c ∧ Z.vm.findClass K = some t ∧ Z.vm.assignable c t = false := by
  obtain ⟨c, t, h0, g0, n3⟩ := n
  obtain ⟨p, k, kp, h1, h2, h3, h4, h5, -, h7⟩ := Cond.superclass_spec h0 w
  obtain ⟨t', k', g1, g2, g5, g7, -⟩ := Cond.instantiable_spec wk
  cases g0.symm.trans g1
  have ne := ids_ne h0 g0 hn
  have g8 : k'.isInterface = false := by cases hq : k'.isInterface <;> simp [hq] at g7 ⊢
  refine ⟨c, t, h0, g0, ?_⟩
  show Z.vm.assignableAux (255 + 1) c t = false
  simp [Vm.assignableAux, ne, h2, g2, h5, g5, g8, Vm.isSubclass, n3]
theorem Run.alen {a : Addr} {ty : FieldType} {vs : List Value} {z : Int32} (hd : decode code pc = .ok (.arraylength, 1)) (A : Ary Z h a ty vs) (hz : vs.length.toInt32 = z) (hp : pc + 1 = pc') (nxt : Run l Z n0 own code maxL ret nm R Q pc' Ls (.int z :: st) h k n) : Run l Z n0 own code maxL ret nm R Q pc Ls (.ref a :: st) h k n := by
  subst hp hz
  obtain ⟨c0, A, r⟩ := A
  exact Run.via (fun p e s m args below meth c T locs cells slots hC X eT => ⟨T, X, eT, fun t q => X.arraylength hC.1 (by rw [eT]; exact A.1) (State.isArrayOf_alike hC.2.1.alike A.2.1) (g := mkF m pc Ls (.ref a :: st)) rfl rfl (hb hC.2.2.2.1 hd) t (by rw [sizeOf r]; exact q)⟩) nxt
theorem Run.iaload {a : Addr} {vs : List Value} {j : Int32} {i : Nat} {v : Value} (hd : decode code pc = .ok (.iaload, 1)) (A : Ary Z h a .int vs) (hj : j.toInt = (i : Int)) (hv : vs[i]? = some v) (hp : pc + 1 = pc') (nxt : Run l Z n0 own code maxL ret nm R Q pc' Ls (v :: st) h k n) : Run l Z n0 own code maxL ret nm R Q pc Ls (.int j :: .ref a :: st) h k n := by
  subst hp
  obtain ⟨c0, A, r⟩ := A
  obtain ⟨hin, e0⟩ := idxIn (c := c0) hj (by rw [sizeOf r]; exact (List.getElem?_eq_some_iff.mp hv).1)
  exact Run.via (fun p e s m args below meth c T locs cells slots hC X eT => ⟨T, X, eT, fun t q => X.iaload hC.1 (by rw [eT]; exact A.1) (State.isArrayOf_alike hC.2.1.alike A.2.1) A.2.2 hin (by rw [e0]; exact getOf r hv) (g := mkF m pc Ls (.int j :: .ref a :: st)) rfl rfl (hb hC.2.2.2.1 hd) t q⟩) nxt
theorem Run.laload {a : Addr} {vs : List Value} {j : Int32} {i : Nat} {v : Value} (hd : decode code pc = .ok (.laload, 1)) (A : Ary Z h a .long vs) (hj : j.toInt = (i : Int)) (hv : vs[i]? = some v) (hp : pc + 1 = pc') (nxt : Run l Z n0 own code maxL ret nm R Q pc' Ls (v :: st) h k n) : Run l Z n0 own code maxL ret nm R Q pc Ls (.int j :: .ref a :: st) h k n := by
  subst hp
  obtain ⟨c0, A, r⟩ := A
  obtain ⟨hin, e0⟩ := idxIn (c := c0) hj (by rw [sizeOf r]; exact (List.getElem?_eq_some_iff.mp hv).1)
  exact Run.via (fun p e s m args below meth c T locs cells slots hC X eT => ⟨T, X, eT, fun t q => X.laload hC.1 (by rw [eT]; exact A.1) (State.isArrayOf_alike hC.2.1.alike A.2.1) A.2.2 hin (by rw [e0]; exact getOf r hv) (g := mkF m pc Ls (.int j :: .ref a :: st)) rfl rfl (hb hC.2.2.2.1 hd) t q⟩) nxt
theorem Run.caload {a : Addr} {vs : List Value} {j : Int32} {i : Nat} {v : Value} (hd : decode code pc = .ok (.caload, 1)) (A : Ary Z h a .char vs) (hj : j.toInt = (i : Int)) (hv : vs[i]? = some v) (hp : pc + 1 = pc') (nxt : Run l Z n0 own code maxL ret nm R Q pc' Ls (v :: st) h k n) : Run l Z n0 own code maxL ret nm R Q pc Ls (.int j :: .ref a :: st) h k n := by
  subst hp
  obtain ⟨c0, A, r⟩ := A
  obtain ⟨hin, e0⟩ := idxIn (c := c0) hj (by rw [sizeOf r]; exact (List.getElem?_eq_some_iff.mp hv).1)
  exact Run.via (fun p e s m args below meth c T locs cells slots hC X eT => ⟨T, X, eT, fun t q => X.caload hC.1 (by rw [eT]; exact A.1) (State.isArrayOf_alike hC.2.1.alike A.2.1) A.2.2 hin (by rw [e0]; exact getOf r hv) (g := mkF m pc Ls (.int j :: .ref a :: st)) rfl rfl (hb hC.2.2.2.1 hd) t q⟩) nxt
theorem Run.saload {a : Addr} {vs : List Value} {j : Int32} {i : Nat} {v : Value} (hd : decode code pc = .ok (.saload, 1)) (A : Ary Z h a .short vs) (hj : j.toInt = (i : Int)) (hv : vs[i]? = some v) (hp : pc + 1 = pc') (nxt : Run l Z n0 own code maxL ret nm R Q pc' Ls (v :: st) h k n) : Run l Z n0 own code maxL ret nm R Q pc Ls (.int j :: .ref a :: st) h k n := by
  subst hp
  obtain ⟨c0, A, r⟩ := A
  obtain ⟨hin, e0⟩ := idxIn (c := c0) hj (by rw [sizeOf r]; exact (List.getElem?_eq_some_iff.mp hv).1)
  exact Run.via (fun p e s m args below meth c T locs cells slots hC X eT => ⟨T, X, eT, fun t q => X.saload hC.1 (by rw [eT]; exact A.1) (State.isArrayOf_alike hC.2.1.alike A.2.1) A.2.2 hin (by rw [e0]; exact getOf r hv) (g := mkF m pc Ls (.int j :: .ref a :: st)) rfl rfl (hb hC.2.2.2.1 hd) t q⟩) nxt
theorem Run.baload {a : Addr} {vs : List Value} {j : Int32} {i : Nat} {v : Value} (hd : decode code pc = .ok (.baload, 1)) (A : Ary Z h a .byte vs) (hj : j.toInt = (i : Int)) (hv : vs[i]? = some v) (hp : pc + 1 = pc') (nxt : Run l Z n0 own code maxL ret nm R Q pc' Ls (v :: st) h k n) : Run l Z n0 own code maxL ret nm R Q pc Ls (.int j :: .ref a :: st) h k n := by
  subst hp
  obtain ⟨c0, A, r⟩ := A
  obtain ⟨hin, e0⟩ := idxIn (c := c0) hj (by rw [sizeOf r]; exact (List.getElem?_eq_some_iff.mp hv).1)
  exact Run.via (fun p e s m args below meth c T locs cells slots hC X eT => ⟨T, X, eT, fun t q => X.baloadBytes hC.1 (by rw [eT]; exact A.1) (State.isArrayOf_alike hC.2.1.alike A.2.1) A.2.2 hin (by rw [e0]; exact getOf r hv) (g := mkF m pc Ls (.int j :: .ref a :: st)) rfl rfl (hb hC.2.2.2.1 hd) t q⟩) nxt
theorem Run.aaload {a : Addr} {vs : List Value} {j : Int32} {i : Nat} {v : Value} {ty : FieldType} (hd : decode code pc = .ok (.aaload, 1)) (A : Ary Z h a ty vs) (hty : ty.isReference = true) (hj : j.toInt = (i : Int)) (hv : vs[i]? = some v) (hp : pc + 1 = pc') (nxt : Run l Z n0 own code maxL ret nm R Q pc' Ls (v :: st) h k n) : Run l Z n0 own code maxL ret nm R Q pc Ls (.int j :: .ref a :: st) h k n := by
  subst hp
  obtain ⟨c0, A, r⟩ := A
  obtain ⟨hin, e0⟩ := idxIn (c := c0) hj (by rw [sizeOf r]; exact (List.getElem?_eq_some_iff.mp hv).1)
  exact Run.via (fun p e s m args below meth c T locs cells slots hC X eT => ⟨T, X, eT, fun t q => X.aaload hC.1 (by rw [eT]; exact A.1) (State.isArrayOf_alike hC.2.1.alike A.2.1) hty A.2.2 hin (by rw [e0]; exact getOf r hv) (g := mkF m pc Ls (.int j :: .ref a :: st)) rfl rfl (hb hC.2.2.2.1 hd) t q⟩) nxt
theorem Run.iastore {a : Addr} {vs : List Value} {j : Int32} {i : Nat} {x : Int32} (hd : decode code pc = .ok (.iastore, 1)) (A : Ary Z h a .int vs) (hj : j.toInt = (i : Int)) (hi : i < vs.length) (ha : n0 ≤ a) (hp : pc + 1 = pc') (nxt : ∀ h', Wr h h' a i (.int x) → Ary Z h' a .int (vs.set i (.int x)) → Run l Z n0 own code maxL ret nm R Q pc' Ls st h' k n) : Run l Z n0 own code maxL ret nm R Q pc Ls (.int x :: .int j :: .ref a :: st) h k n := by
  subst hp
  have A' := A
  obtain ⟨c0, A, r⟩ := A
  obtain ⟨hin, e0⟩ := idxIn (c := c0) hj (by rw [sizeOf r]; exact hi)
  refine Run.wr (fun p e s m args below meth c T locs cells slots hC X eT => ?_) ha (fun h' W => nxt h' W (A'.set W))
  have q := stI X hC.1 hC.2.1 eT A hin (g := mkF m pc Ls (.int x :: .int j :: .ref a :: st)) rfl rfl (hb hC.2.2.2.1 hd)
  rw [e0] at q
  exact q
theorem Run.lastore {a : Addr} {vs : List Value} {j : Int32} {i : Nat} {x : Int64} (hd : decode code pc = .ok (.lastore, 1)) (A : Ary Z h a .long vs) (hj : j.toInt = (i : Int)) (hi : i < vs.length) (ha : n0 ≤ a) (hp : pc + 1 = pc') (nxt : ∀ h', Wr h h' a i (.long x) → Ary Z h' a .long (vs.set i (.long x)) → Run l Z n0 own code maxL ret nm R Q pc' Ls st h' k n) : Run l Z n0 own code maxL ret nm R Q pc Ls (.long x :: .int j :: .ref a :: st) h k n := by
  subst hp
  have A' := A
  obtain ⟨c0, A, r⟩ := A
  obtain ⟨hin, e0⟩ := idxIn (c := c0) hj (by rw [sizeOf r]; exact hi)
  refine Run.wr (fun p e s m args below meth c T locs cells slots hC X eT => ?_) ha (fun h' W => nxt h' W (A'.set W))
  have q := stJ X hC.1 hC.2.1 eT A hin (g := mkF m pc Ls (.long x :: .int j :: .ref a :: st)) rfl rfl (hb hC.2.2.2.1 hd)
  rw [e0] at q
  exact q
theorem Run.castore {a : Addr} {vs : List Value} {j : Int32} {i : Nat} {x : Int32} (hd : decode code pc = .ok (.castore, 1)) (A : Ary Z h a .char vs) (hj : j.toInt = (i : Int)) (hi : i < vs.length) (ha : n0 ≤ a) (hp : pc + 1 = pc') (nxt : ∀ h', Wr h h' a i (.int (nar .char x)) → Ary Z h' a .char (vs.set i (.int (nar .char x))) → Run l Z n0 own code maxL ret nm R Q pc' Ls st h' k n) : Run l Z n0 own code maxL ret nm R Q pc Ls (.int x :: .int j :: .ref a :: st) h k n := by
  subst hp
  have A' := A
  obtain ⟨c0, A, r⟩ := A
  obtain ⟨hin, e0⟩ := idxIn (c := c0) hj (by rw [sizeOf r]; exact hi)
  refine Run.wr (fun p e s m args below meth c T locs cells slots hC X eT => ?_) ha (fun h' W => nxt h' W (A'.set W))
  have q := stC X hC.1 hC.2.1 eT A hin (g := mkF m pc Ls (.int x :: .int j :: .ref a :: st)) rfl rfl (hb hC.2.2.2.1 hd)
  rw [e0] at q
  exact q
theorem Run.sastore {a : Addr} {vs : List Value} {j : Int32} {i : Nat} {x : Int32} (hd : decode code pc = .ok (.sastore, 1)) (A : Ary Z h a .short vs) (hj : j.toInt = (i : Int)) (hi : i < vs.length) (ha : n0 ≤ a) (hp : pc + 1 = pc') (nxt : ∀ h', Wr h h' a i (.int (nar .short x)) → Ary Z h' a .short (vs.set i (.int (nar .short x))) → Run l Z n0 own code maxL ret nm R Q pc' Ls st h' k n) : Run l Z n0 own code maxL ret nm R Q pc Ls (.int x :: .int j :: .ref a :: st) h k n := by
  subst hp
  have A' := A
  obtain ⟨c0, A, r⟩ := A
  obtain ⟨hin, e0⟩ := idxIn (c := c0) hj (by rw [sizeOf r]; exact hi)
  refine Run.wr (fun p e s m args below meth c T locs cells slots hC X eT => ?_) ha (fun h' W => nxt h' W (A'.set W))
  have q := stS X hC.1 hC.2.1 eT A hin (g := mkF m pc Ls (.int x :: .int j :: .ref a :: st)) rfl rfl (hb hC.2.2.2.1 hd)
  rw [e0] at q
  exact q
theorem Run.bastore {a : Addr} {vs : List Value} {j : Int32} {i : Nat} {x : Int32} (hd : decode code pc = .ok (.bastore, 1)) (A : Ary Z h a .byte vs) (hj : j.toInt = (i : Int)) (hi : i < vs.length) (ha : n0 ≤ a) (hp : pc + 1 = pc') (nxt : ∀ h', Wr h h' a i (.int (nar .byte x)) → Ary Z h' a .byte (vs.set i (.int (nar .byte x))) → Run l Z n0 own code maxL ret nm R Q pc' Ls st h' k n) : Run l Z n0 own code maxL ret nm R Q pc Ls (.int x :: .int j :: .ref a :: st) h k n := by
  subst hp
  have A' := A
  obtain ⟨c0, A, r⟩ := A
  obtain ⟨hin, e0⟩ := idxIn (c := c0) hj (by rw [sizeOf r]; exact hi)
  refine Run.wr (fun p e s m args below meth c T locs cells slots hC X eT => ?_) ha (fun h' W => nxt h' W (A'.set W))
  have q := stB X hC.1 hC.2.1 eT A hin (g := mkF m pc Ls (.int x :: .int j :: .ref a :: st)) rfl rfl (hb hC.2.2.2.1 hd)
  rw [e0] at q
  exact q
theorem Run.newP {a0 : Array Value} {aty : ArrayType} {ty : FieldType} {z : Int32} {cap m : Nat} {dv : Value} (hd : decode code pc = .ok (.newarray aty, 2)) (hty : newarray.typeOf aty = ty) (w : (Cond.arrayClass ty).before a0 Z = true) (hz : ¬ z < 0) (hcap : z.toNatClampNeg = m) (hm : m ≤ cap) (hdv : defaultValue ty = dv) (hcb : cap * 8 ≤ 536870912)
    (hk : k + 1 ≤ k') (hk' : k' ≤ R.cells) (hn : n + cap ≤ n') (hn' : n' ≤ R.slots) (hp : pc + 2 = pc')
    (nxt : ∀ h' a, a = h.size → Ext h h' → Ary Z h' a ty (List.replicate m dv) → Run l Z n0 own code maxL ret nm R Q pc' Ls (.ref a :: st) h' k' n') : Run l Z n0 own code maxL ret nm R Q pc Ls (.int z :: st) h k n := by
  subst hp hty hdv
  intro p e s m args below meth c T locs cells slots hC X eT hF hkk hnn
  obtain ⟨T', h', cA, X', e', E, A, stp⟩ := newP X hC.1 hC.2.1 w eT (g := mkF m pc Ls (.int z :: st)) rfl (hb hC.2.2.2.1 hd) rfl hz (by omega) hcb (by omega) (by omega)
  obtain ⟨s₂, v, L, g1, g2⟩ := nxt h' h.size rfl E ⟨_, A, by simp [newA, hcap]⟩ p e s m args below meth c T' locs _ _ hC X' e' hF (by omega) (by omega)
  exact ⟨s₂, v, L, stp _ g1, g2⟩
theorem Ary.toArv {h : Heap} {a : Addr} {ty : FieldType} {vs : List Value} {z : Int32} (dv : Value) (F : Ary Z h a ty vs) (hz : z.toInt = (vs.length : Int)) (hf : ∀ v ∈ vs, fits ty v = true) : ∃ kc, Arv Z h a kc ty z vs dv := by
  obtain ⟨c, A, r⟩ := F
  have hsz := sizeOf r
  have e : z.toNatClampNeg = vs.length := by have : z.toNatClampNeg = z.toInt.toNat := rfl; rw [this, hz]; rfl
  refine ⟨c.cls, c, A, rfl, by rw [e, hsz], ?_, fun j hj => ?_, fun j hj => ?_⟩
  · rw [Int32.lt_iff_toInt_lt, hz]; have : (0 : Int32).toInt = 0 := rfl; omega
  · have hj' : j < vs.length := by omega
    rw [getOf r (List.getElem?_eq_getElem hj')]
    simp [List.getD_eq_getElem?_getD, List.getElem?_eq_getElem hj']
  · have hj' : j < vs.length := by omega
    have q := hf _ (List.getElem_mem hj')
    simpa [List.getD_eq_getElem?_getD, List.getElem?_eq_getElem hj'] using q
theorem Ary.ofArv {h : Heap} {a : Addr} {ty : FieldType} {vs : List Value} {z : Int32} {dv : Value} {kc : ClassId} (F : Arv Z h a kc ty z vs dv) (hz : z.toInt = (vs.length : Int)) : Ary Z h a ty vs := by
  obtain ⟨c, A, -, S, -, H, -⟩ := F
  have e : z.toNatClampNeg = vs.length := by have : z.toNatClampNeg = z.toInt.toNat := rfl; rw [this, hz]; rfl
  refine ⟨c, A, List.ext_getElem? fun j => ?_⟩
  by_cases hj : j < vs.length
  · have q := H j (by omega)
    rw [Array.getElem?_toList, q]
    simp [List.getD_eq_getElem?_getD, List.getElem?_eq_getElem hj]
  · rw [List.getElem?_eq_none (l := c.slots.toList) (by rw [Array.length_toList]; omega), List.getElem?_eq_none (l := vs) (by omega)]
/-- System.arraycopy(a, 0, b, 0, a.length) of plain components -/
theorem Run.acopy {a0 : Array Value} {i : Nat} {a b : Addr} {ty : FieldType} {vs us : List Value} {z z' : Int32} (hd : decode code pc = .ok (.invokestatic i, 3)) (w1 : (Cond.methodLink own i Jvm.Stand.acN).before a0 Z = true) (w2 : (Cond.native Jvm.Stand.acN).before a0 Z = true) (w3 : (Cond.static Jvm.Stand.acN).before a0 Z = true) (w4 : (Cond.initialized "java/lang/System").before a0 Z = true)
    (A : Ary Z h a ty vs) (B : Ary Z h b ty us) (hk : refKind ty = false) (hz : z.toInt = (vs.length : Int)) (hz' : z'.toInt = (us.length : Int)) (hle : vs.length ≤ us.length) (fa : ∀ v ∈ vs, fits ty v = true) (fb : ∀ v ∈ us, fits ty v = true) (ge : n0 ≤ b)
    (hsz : Ls.size = maxL) (hf : 1 ≤ R.frames) (hl : (st.map fun v => v.category).sum + (nativeFrameWords "java/lang/System" "arraycopy" 5 + 11) ≤ R.locals) (hp : pc + 3 = pc')
    (nxt : ∀ h', Keep h h' [b] → Ary Z h' b ty (vs ++ us.drop vs.length) → Run l Z n0 own code maxL ret nm R Q pc' Ls st h' k n) : Run l Z n0 own code maxL ret nm R Q pc Ls (.int z :: .int 0 :: .ref b :: .int 0 :: .ref a :: st) h k n := by
  subst hp
  intro p e s m args below meth c T locs cells slots hC X eT hF hkk hnn
  obtain ⟨k1, A1⟩ := A.toArv (z := z) .null hz fa
  obtain ⟨k2, B1⟩ := B.toArv (z := z') .null hz' fb
  have e1 : z.toNatClampNeg = vs.length := by have : z.toNatClampNeg = z.toInt.toNat := rfl; rw [this, hz]; rfl
  have e2 : z'.toNatClampNeg = us.length := by have : z'.toNatClampNeg = z'.toInt.toNat := rfl; rw [this, hz']; rfl
  have e0 : (0 : Int32).toNatClampNeg = 0 := rfl
  have n1 : ¬ z < 0 := by rw [Int32.lt_iff_toInt_lt, hz]; have : (0 : Int32).toInt = 0 := rfl; omega
  have hus : vs = (List.range z.toNatClampNeg).map fun j => vs.getD ((0 : Int32).toNatClampNeg + j) .null := by
    rw [e1, e0]
    apply List.ext_getElem?
    intro j
    by_cases hj : j < vs.length
    · simp [hj, List.getD_eq_getElem?_getD]
    · rw [List.getElem?_eq_none (by omega), List.getElem?_eq_none (by simp; omega)]
  obtain ⟨T', h', L, X', e', N', K, B', stp⟩ := cpA X hC.1 hC.2.1 hC.2.2.1 w1 w2 w3 w4 eT A1 B1 (Or.inl ⟨rfl, hk⟩) (by decide) (by decide) n1 (by rw [e0]; omega) (by rw [e0]; omega) hus (by rw [e0]; omega) hF ge (g := mkF m pc Ls (.int z :: .int 0 :: .ref b :: .int 0 :: .ref a :: st)) rfl (hsz.trans hC.2.2.2.2.1.symm) rfl (hb hC.2.2.2.1 hd) hf (W := (st.map fun v => v.category).sum) (by show 2 * 0 + _ ≤ _; omega) hl
  have hB : Ary Z h' b ty (vs ++ us.drop vs.length) := by
    have q : us.take (0 : Int32).toNatClampNeg ++ vs ++ us.drop ((0 : Int32).toNatClampNeg + z.toNatClampNeg) = vs ++ us.drop vs.length := by rw [e0, e1]; simp
    rw [q] at B'
    exact Ary.ofArv B' (by rw [hz']; simp; omega)
  obtain ⟨s₂, v, L2, g1, g2⟩ := nxt h' K hB p e s m args below meth c T' L cells slots hC X' e' N' hkk hnn
  exact ⟨s₂, v, L2, stp _ g1, g2⟩
/-- System.arraycopy of a part -/
theorem Run.acopyG {a0 : Array Value} {ix i j m : Nat} {a b : Addr} {ty : FieldType} {vs us : List Value} {z z1 z' sp dp : Int32} (hd : decode code pc = .ok (.invokestatic ix, 3)) (w1 : (Cond.methodLink own ix Jvm.Stand.acN).before a0 Z = true) (w2 : (Cond.native Jvm.Stand.acN).before a0 Z = true) (w3 : (Cond.static Jvm.Stand.acN).before a0 Z = true) (w4 : (Cond.initialized "java/lang/System").before a0 Z = true)
    (A : Ary Z h a ty vs) (B : Ary Z h b ty us) (hk : refKind ty = false) (hz1 : z1.toInt = (vs.length : Int)) (hz' : z'.toInt = (us.length : Int)) (hz : z.toInt = (m : Int)) (hsp : sp.toInt = (i : Int)) (hdp : dp.toInt = (j : Int)) (hle : i + m ≤ vs.length) (hle' : j + m ≤ us.length) (fa : ∀ v ∈ vs, fits ty v = true) (fb : ∀ v ∈ us, fits ty v = true) (ge : n0 ≤ b)
    (hsz : Ls.size = maxL) (hf : 1 ≤ R.frames) (hl : (st.map fun v => v.category).sum + (nativeFrameWords "java/lang/System" "arraycopy" 5 + 11) ≤ R.locals) (hp : pc + 3 = pc')
    (nxt : ∀ h', Keep h h' [b] → Ary Z h' b ty (us.take j ++ (vs.drop i).take m ++ us.drop (j + m)) → Run l Z n0 own code maxL ret nm R Q pc' Ls st h' k n) : Run l Z n0 own code maxL ret nm R Q pc Ls (.int z :: .int dp :: .ref b :: .int sp :: .ref a :: st) h k n := by
  subst hp
  intro p e s m' args below meth c T locs cells slots hC X eT hF hkk hnn
  obtain ⟨k1, A1⟩ := A.toArv (z := z1) .null hz1 fa
  obtain ⟨k2, B1⟩ := B.toArv (z := z') .null hz' fb
  have cl : ∀ {x : Int32} {q : Nat}, x.toInt = (q : Int) → x.toNatClampNeg = q ∧ ¬ x < 0 := fun {x q} hx => ⟨by have : x.toNatClampNeg = x.toInt.toNat := rfl; rw [this, hx]; rfl, by rw [Int32.lt_iff_toInt_lt, hx]; have : (0 : Int32).toInt = 0 := rfl; omega⟩
  have e0 := cl hz; have e1 := cl hz1; have e2 := cl hz'; have e3 := cl hsp; have e4 := cl hdp
  have hus : (vs.drop i).take m = (List.range z.toNatClampNeg).map fun q => vs.getD (sp.toNatClampNeg + q) .null := by
    rw [e0.1, e3.1]
    apply List.ext_getElem?
    intro q
    by_cases hj : q < m
    · rw [List.getElem?_take_of_lt hj, List.getElem?_drop]; simp [hj, List.getD_eq_getElem?_getD, show i + q < vs.length by omega]
    · rw [List.getElem?_eq_none (by simp; omega), List.getElem?_eq_none (by simp; omega)]
  obtain ⟨T', h', L, X', e', N', K, B', stp⟩ := cpA X hC.1 hC.2.1 hC.2.2.1 w1 w2 w3 w4 eT A1 B1 (Or.inl ⟨rfl, hk⟩) e3.2 e4.2 e0.2 (by rw [e0.1, e1.1, e3.1]; exact hle) (by rw [e0.1, e2.1, e4.1]; exact hle') hus (by rw [e0.1, e4.1]; exact hle') hF ge (g := mkF m' pc Ls (.int z :: .int dp :: .ref b :: .int sp :: .ref a :: st)) rfl (hsz.trans hC.2.2.2.2.1.symm) rfl (hb hC.2.2.2.1 hd) hf (W := (st.map fun v => v.category).sum) (by show 2 * 0 + _ ≤ _; omega) hl
  rw [e4.1, e0.1] at B'
  have hB := Ary.ofArv B' (by rw [hz']; simp; omega)
  obtain ⟨s₂, v, L2, g1, g2⟩ := nxt h' K hB p e s m' args below meth c T' L cells slots hC X' e' N' hkk hnn
  exact ⟨s₂, v, L2, stp _ g1, g2⟩
/-- clone of an array -/
theorem Run.aclone {a0 : Array Value} {i cap : Nat} {a : Addr} {ty : FieldType} {cl : Cell} {ad : String} (hd : decode code pc = .ok (.invokevirtual i, 3)) (w1 : (Cond.methodLink own i ⟨ad, "clone", "()Ljava/lang/Object;"⟩).before a0 Z = true) (w2 : (Cond.sameMethod ad "java/lang/Object" "clone" "()Ljava/lang/Object;").before a0 Z = true) (w3 : (Cond.native ⟨"java/lang/Object", "clone", "()Ljava/lang/Object;"⟩).before a0 Z = true)
    (w4 : (Cond.instanceMethod ⟨"java/lang/Object", "clone", "()Ljava/lang/Object;"⟩).before a0 Z = true) (w5 : (Cond.selects ad ⟨ad, "clone", "()Ljava/lang/Object;"⟩ ⟨"java/lang/Object", "clone", "()Ljava/lang/Object;"⟩).before a0 Z = true) (w6 : (Cond.castable ad "java/lang/Cloneable").before a0 Z = true)
    (A : Arr Z h a cl ty) (E : Exa Z h a ad) (F : FitC Z cl) (hsz : Ls.size = maxL) (hf : 1 ≤ R.frames) (hl : (st.map fun v => v.category).sum + 14 ≤ R.locals) (hcap : cl.slots.size ≤ cap) (hk : k + 1 ≤ k') (hk' : k' ≤ R.cells) (hn : n + cap ≤ n') (hn' : n' ≤ R.slots) (hp : pc + 3 = pc')
    (nxt : ∀ h' b, b = h.size → Ext h h' → Ary Z h' b ty cl.slots.toList → Exa Z h' b ad → Run l Z n0 own code maxL ret nm R Q pc' Ls (.ref b :: st) h' k' n') : Run l Z n0 own code maxL ret nm R Q pc Ls (.ref a :: st) h k n := by
  subst hp
  intro p e s m args below meth c T locs cells slots hC X eT hF hkk hnn
  obtain ⟨T', h', X', e', E', A', X2, stp⟩ := cloneA X hC.1 hC.2.1 hC.2.2.1 w1 w2 w3 w4 w5 w6 eT A E F (g := mkF m pc Ls (.ref a :: st)) rfl (hsz.trans hC.2.2.2.2.1.symm) rfl (hb hC.2.2.2.1 hd) hf (W := (st.map fun v => v.category).sum) (by show 2 * 0 + _ ≤ _; omega) hl hcap (by omega) (by omega)
  obtain ⟨s₂, v, L, g1, g2⟩ := nxt h' h.size rfl E' ⟨_, A', rfl⟩ X2 p e s m args below meth c T' locs _ _ hC X' e' hF (by omega) (by omega)
  exact ⟨s₂, v, L, stp _ g1, g2⟩
end Walk
end Jvm.GoKit
namespace Jvm.GoKit
open Sem ClassFile Op Lib Jvm.Stand Jvm.Free Jvm.LawKit Jvm.RoadKit
/-! the wide twin: walks that may load String constants cold; vm: the tables as they stand but for what is warmed narrowly -/
def GoW (p : Program) (e : Env) (below : List Frame) (Z s : State) (EL : List (String × Nat)) (n0 K N : Nat) (Q : Option Value → Heap → Prop) (S : State) : Prop :=
  ∃ s₂ v L, Steps p.tables e below S s₂ ∧ s₂.status = .running ∧ Ended s₂ below (.returned v) ∧ (Q v s₂.heap ∧ Fr n0 L) ∧ CHr Z EL s.vm s.heap s₂.vm s₂.heap ∧ ReturnedEndW s (.returned v) s₂ L K N
def RunW (l : Launch) (Z : State) (EL : List (String × Nat)) (n0 : Nat) (own : String) (code : ByteArray) (maxL : Nat) (ret : Option FieldType) (nm : String) (R : Room) (Q : Option Value → Heap → Prop) (pc : Nat) (Ls : Array Slot) (st : List Value) (h : Heap) (vm : Vm) (k n : Nat) : Prop :=
  ∀ (p : Program) (e : Env) (s : State) (m : MethodId) (args : Array Value) (below : List Frame) (meth : Method) (c : Code) (T : State) (locs : List Loc) (cells slots k0 : Nat),
    Ctx Z own code maxL ret nm p (s.setVm vm) m meth c → Stand p l e R (s.setVm vm) m args below meth c T locs cells slots → s.Since vm k0 → k0 ≤ h.size → CHr Z EL s.vm s.heap vm h → (∃ a0, EW Z a0 EL) → T.heap = h → Fr n0 locs → cells ≤ k → slots ≤ n →
    GoW p e below Z s EL n0 R.cells R.slots Q (T.setTop (mkF m pc Ls st))
def ConW (l : Launch) (Z : State) (EL : List (String × Nat)) (n0 : Nat) (y : MethodName) (bytes : ByteArray) (maxL : Nat) (ret : Option FieldType) (rm : Room) (as : Array Value) (h : Heap) (sf : List Addr) (Q : Option Value → Heap → Prop) : Prop :=
  ∀ ws, MetFree l y (head1 (Cond.code y bytes maxL ret :: ws) rm) (fun a U => a = as ∧ Z.Warmed39 U.vm ∧ U.heap = h ∧ CHv Z EL U.vm h ∧ ∀ x ∈ sf, Safe Z EL U.vm h x) (fun _ _ _ _ _ => True) (fun _ U o U' => ∃ v L, o = .returned v ∧ (Q v U'.heap ∧ Fr n0 L) ∧ CHr Z EL U.vm U.heap U'.vm U'.heap ∧ ReturnedEndW U o U' L rm.cells rm.slots)
theorem since_refl (s : State) : s.Since s.vm s.heap.size := ⟨State.Warmed39.refl s, fun j p hj hp => absurd (Array.getElem?_eq_some_iff.mp hp).1 (Nat.not_lt.mpr hj)⟩
theorem setVm_self (s : State) : s.setVm s.vm = s := rfl
section WalkW
variable {l : Launch} {Z : State} {EL : List (String × Nat)} {n0 : Nat} {own : String} {code : ByteArray} {maxL : Nat} {ret : Option FieldType} {nm : String} {R : Room} {Q : Option Value → Heap → Prop} {pc pc' : Nat} {Ls : Array Slot} {st : List Value} {h : Heap} {vm : Vm} {k n k' n' : Nat}
theorem ConW.of_run {y : MethodName} {bytes : ByteArray} {rm : Room} {as : Array Value} {sf : List Addr} {a0 : Array Value} (hEL : EW Z a0 EL)
    (hp : plainFor y = true) (he : ∀ m, entryFrame m as maxL = mkF m 0 Ls []) (run : ∀ vm, Z.vm.Alike vm → (∀ x ∈ sf, Safe Z EL vm h x) → RunW l Z EL n0 y.cls bytes maxL ret y.name rm Q 0 Ls [] h vm 0 0) : ConW l Z EL n0 y bytes maxL ret rm as h sf Q := by
  intro ws
  refine MetFree.of_bodySF hp hisR ?_
  intro p e s m args below meth c s₁ Bd hml0 hP hK
  obtain ⟨rfl, hZ, hh, hC, hsf⟩ := hP
  have hh2 : s₁.heap = h := by rw [← hh, Bd.state]; rfl
  obtain ⟨s₂, v, L, h1, h2, h3, h4, h5, h6⟩ := run s.vm hZ.alike hsf p e s m _ below meth c s₁ [] 0 0 s.heap.size ⟨Bd.exec, hZ, findClass_of_methodNamed Bd.named, Bd.bytes, hml0, Bd.returns, Bd.notSynchronized, (name_of_methodNamed Bd.named Bd.method).1⟩ (Stand.of_body Bd) (since_refl s) (by rw [hh]; exact Nat.le_refl _) (by rw [hh]; exact CHr.refl hC) ⟨a0, hEL⟩ hh2 (Fr.nil _) (Nat.zero_le _) (Nat.zero_le _)
  exact ⟨s₂, _, castTop (he m) h1, h2, h3, v, L, rfl, h4, h5, h6⟩
theorem RunW.via {Ls' : Array Slot} {st' : List Value} (f : ∀ (p : Program) (e : Env) (s : State) (m : MethodId) (args : Array Value) (below : List Frame) (meth : Method) (c : Code) (T : State) (locs : List Loc) (cells slots : Nat),
      Ctx Z own code maxL ret nm p s m meth c → Stand p l e R s m args below meth c T locs cells slots → T.heap = h → ∃ T', Stand p l e R s m args below meth c T' locs cells slots ∧ T'.heap = h ∧ ∀ t, Steps p.tables e below (T'.setTop (mkF m pc' Ls' st')) t → Steps p.tables e below (T.setTop (mkF m pc Ls st)) t)
    (nxt : RunW l Z EL n0 own code maxL ret nm R Q pc' Ls' st' h vm k n) : RunW l Z EL n0 own code maxL ret nm R Q pc Ls st h vm k n := by
  intro p e s m args below meth c T locs cells slots k0 hC X hS hk0 hR hE eT hF hk hn
  obtain ⟨T', X', e', stp⟩ := f p e (s.setVm vm) m args below meth c T locs cells slots hC X eT
  obtain ⟨s₂, v, L, g1, g2⟩ := nxt p e s m args below meth c T' locs cells slots k0 hC X' hS hk0 hR hE e' hF hk hn
  exact ⟨s₂, v, L, stp _ g1, g2⟩
theorem RunW.stp {Ls' : Array Slot} {st' : List Value} (f : ∀ (p : Program) (e : Env) (below : List Frame) (T : State) (m : MethodId) (c : Code) (t : State), At T m c below → p.tables.exec = Jvm.exec → c.code = code → Steps p.tables e below (T.setTop (mkF m pc' Ls' st')) t → Steps p.tables e below (T.setTop (mkF m pc Ls st)) t)
    (nxt : RunW l Z EL n0 own code maxL ret nm R Q pc' Ls' st' h vm k n) : RunW l Z EL n0 own code maxL ret nm R Q pc Ls st h vm k n :=
  RunW.via (fun p e s m args below meth c T locs cells slots hC X eT => ⟨T, X, eT, fun t q => f p e below T m c t X.here hC.1 hC.2.2.2.1 q⟩) nxt
theorem RunW.more {ka na : Nat} (nxt : RunW l Z EL n0 own code maxL ret nm R Q pc Ls st h vm k n) (h1 : ka ≤ k) (h2 : na ≤ n) : RunW l Z EL n0 own code maxL ret nm R Q pc Ls st h vm ka na :=
  fun p e s m args below meth c T locs cells slots k0 hC X hS hk0 hR hE eT hF hk hn => nxt p e s m args below meth c T locs cells slots k0 hC X hS hk0 hR hE eT hF (Nat.le_trans hk h1) (Nat.le_trans hn h2)
theorem RunW.alike (f : Z.vm.Alike vm → RunW l Z EL n0 own code maxL ret nm R Q pc Ls st h vm k n) : RunW l Z EL n0 own code maxL ret nm R Q pc Ls st h vm k n :=
  fun p e s m args below meth c T locs cells slots k0 hC X hS hk0 hR hE eT hF hk hn => f hC.2.1.alike p e s m args below meth c T locs cells slots k0 hC X hS hk0 hR hE eT hF hk hn

theorem RunW.iloadN {x : Fin 4} {v : Int32} (hd : decode code pc = .ok (.iload_n x, 1)) (hl : Ls[x.val]? = some (.val (.int v))) (hp : pc + 1 = pc') (nxt : RunW l Z EL n0 own code maxL ret nm R Q pc' Ls (.int v :: st) h vm k n) : RunW l Z EL n0 own code maxL ret nm R Q pc Ls st h vm k n := by
  subst hp
  exact RunW.stp (fun p e below T m c t hA hx hc q => XS.iloadN hA hx rfl (hb hc hd) hl q) nxt
theorem RunW.iload {x : Nat} {v : Int32} (hd : decode code pc = .ok (.iload x, 2)) (hl : Ls[x]? = some (.val (.int v))) (hp : pc + 2 = pc') (nxt : RunW l Z EL n0 own code maxL ret nm R Q pc' Ls (.int v :: st) h vm k n) : RunW l Z EL n0 own code maxL ret nm R Q pc Ls st h vm k n := by
  subst hp
  exact RunW.stp (fun p e below T m c t hA hx hc q => XS.iload hA hx rfl (hb hc hd) hl q) nxt
theorem RunW.lloadN {x : Fin 4} {v : Int64} (hd : decode code pc = .ok (.lload_n x, 1)) (hl : Ls[x.val]? = some (.val (.long v))) (hp : pc + 1 = pc') (nxt : RunW l Z EL n0 own code maxL ret nm R Q pc' Ls (.long v :: st) h vm k n) : RunW l Z EL n0 own code maxL ret nm R Q pc Ls st h vm k n := by
  subst hp
  exact RunW.stp (fun p e below T m c t hA hx hc q => XT.lloadN hA hx rfl (hb hc hd) hl q) nxt
theorem RunW.lload {x : Nat} {v : Int64} (hd : decode code pc = .ok (.lload x, 2)) (hl : Ls[x]? = some (.val (.long v))) (hp : pc + 2 = pc') (nxt : RunW l Z EL n0 own code maxL ret nm R Q pc' Ls (.long v :: st) h vm k n) : RunW l Z EL n0 own code maxL ret nm R Q pc Ls st h vm k n := by
  subst hp
  exact RunW.stp (fun p e below T m c t hA hx hc q => XT.lload hA hx rfl (hb hc hd) hl q) nxt
theorem RunW.aloadN {x : Fin 4} {v : Value} (hd : decode code pc = .ok (.aload_n x, 1)) (hl : Ls[x.val]? = some (.val v)) (hv : v.isRef = true) (hp : pc + 1 = pc') (nxt : RunW l Z EL n0 own code maxL ret nm R Q pc' Ls (v :: st) h vm k n) : RunW l Z EL n0 own code maxL ret nm R Q pc Ls st h vm k n := by
  subst hp
  exact RunW.stp (fun p e below T m c t hA hx hc q => XS.aloadN hA hx rfl (hb hc hd) hl hv q) nxt
theorem RunW.aload {x : Nat} {v : Value} (hd : decode code pc = .ok (.aload x, 2)) (hl : Ls[x]? = some (.val v)) (hv : v.isRef = true) (hp : pc + 2 = pc') (nxt : RunW l Z EL n0 own code maxL ret nm R Q pc' Ls (v :: st) h vm k n) : RunW l Z EL n0 own code maxL ret nm R Q pc Ls st h vm k n := by
  subst hp
  exact RunW.stp (fun p e below T m c t hA hx hc q => XS.aload hA hx rfl (hb hc hd) hl hv q) nxt
theorem RunW.iconst {i : Int} (v : Int32) (hd : decode code pc = .ok (.iconst i, 1)) (hv : Int32.ofInt i = v) (hp : pc + 1 = pc') (nxt : RunW l Z EL n0 own code maxL ret nm R Q pc' Ls (.int v :: st) h vm k n) : RunW l Z EL n0 own code maxL ret nm R Q pc Ls st h vm k n := by
  subst hp
  exact RunW.stp (fun p e below T m c t hA hx hc q => XT.iconstV hA hx rfl v (hb hc hd) hv q) nxt
theorem RunW.bipush {i : Int} (v : Int32) (hd : decode code pc = .ok (.bipush i, 2)) (hv : (Int8.ofInt i).toInt32 = v) (hp : pc + 2 = pc') (nxt : RunW l Z EL n0 own code maxL ret nm R Q pc' Ls (.int v :: st) h vm k n) : RunW l Z EL n0 own code maxL ret nm R Q pc Ls st h vm k n := by
  subst hp
  exact RunW.stp (fun p e below T m c t hA hx hc q => XT.bipushV hA hx rfl v (hb hc hd) hv q) nxt
theorem RunW.sipush {i : Int} (v : Int32) (hd : decode code pc = .ok (.sipush i, 3)) (hv : (Int16.ofInt i).toInt32 = v) (hp : pc + 3 = pc') (nxt : RunW l Z EL n0 own code maxL ret nm R Q pc' Ls (.int v :: st) h vm k n) : RunW l Z EL n0 own code maxL ret nm R Q pc Ls st h vm k n := by
  subst hp
  exact RunW.stp (fun p e below T m c t hA hx hc q => XT.sipushV hA hx rfl v (hb hc hd) hv q) nxt
theorem RunW.lconst {i : Fin 2} (v : Int64) (hd : decode code pc = .ok (.lconst i, 1)) (hv : Int64.ofNat i = v) (hp : pc + 1 = pc') (nxt : RunW l Z EL n0 own code maxL ret nm R Q pc' Ls (.long v :: st) h vm k n) : RunW l Z EL n0 own code maxL ret nm R Q pc Ls st h vm k n := by
  subst hp
  exact RunW.stp (fun p e below T m c t hA hx hc q => XT.lconstV hA hx rfl v (hb hc hd) hv q) nxt
theorem RunW.aconst  (hd : decode code pc = .ok (.aconst_null, 1))  (hp : pc + 1 = pc') (nxt : RunW l Z EL n0 own code maxL ret nm R Q pc' Ls (.null :: st) h vm k n) : RunW l Z EL n0 own code maxL ret nm R Q pc Ls st h vm k n := by
  subst hp
  exact RunW.stp (fun p e below T m c t hA hx hc q => XS.aconstNull hA hx rfl (hb hc hd) q) nxt
theorem RunW.istoreN {x : Fin 4} {v : Int32} (l' : Array Slot) (hd : decode code pc = .ok (.istore_n x, 1)) (hl : storeLocals Ls x.val (.int v) = some l') (hp : pc + 1 = pc') (nxt : RunW l Z EL n0 own code maxL ret nm R Q pc' l' st h vm k n) : RunW l Z EL n0 own code maxL ret nm R Q pc Ls (.int v :: st) h vm k n := by
  subst hp
  exact RunW.stp (fun p e below T m c t hA hx hc q => XS.istoreN hA hx rfl (hb hc hd) rfl hl q) nxt
theorem RunW.istore {x : Nat} {v : Int32} (l' : Array Slot) (hd : decode code pc = .ok (.istore x, 2)) (hl : storeLocals Ls x (.int v) = some l') (hp : pc + 2 = pc') (nxt : RunW l Z EL n0 own code maxL ret nm R Q pc' l' st h vm k n) : RunW l Z EL n0 own code maxL ret nm R Q pc Ls (.int v :: st) h vm k n := by
  subst hp
  exact RunW.stp (fun p e below T m c t hA hx hc q => XS.istore hA hx rfl (hb hc hd) rfl hl q) nxt
theorem RunW.lstoreN {x : Fin 4} {v : Int64} (l' : Array Slot) (hd : decode code pc = .ok (.lstore_n x, 1)) (hl : storeLocals Ls x.val (.long v) = some l') (hp : pc + 1 = pc') (nxt : RunW l Z EL n0 own code maxL ret nm R Q pc' l' st h vm k n) : RunW l Z EL n0 own code maxL ret nm R Q pc Ls (.long v :: st) h vm k n := by
  subst hp
  exact RunW.stp (fun p e below T m c t hA hx hc q => XT.lstoreN hA hx rfl (hb hc hd) rfl hl q) nxt
theorem RunW.lstore {x : Nat} {v : Int64} (l' : Array Slot) (hd : decode code pc = .ok (.lstore x, 2)) (hl : storeLocals Ls x (.long v) = some l') (hp : pc + 2 = pc') (nxt : RunW l Z EL n0 own code maxL ret nm R Q pc' l' st h vm k n) : RunW l Z EL n0 own code maxL ret nm R Q pc Ls (.long v :: st) h vm k n := by
  subst hp
  exact RunW.stp (fun p e below T m c t hA hx hc q => XT.lstore hA hx rfl (hb hc hd) rfl hl q) nxt
theorem RunW.astoreN {x : Fin 4} {v : Value} (l' : Array Slot) (hd : decode code pc = .ok (.astore_n x, 1)) (hv : v.isRef = true) (hl : storeLocals Ls x.val v = some l') (hp : pc + 1 = pc') (nxt : RunW l Z EL n0 own code maxL ret nm R Q pc' l' st h vm k n) : RunW l Z EL n0 own code maxL ret nm R Q pc Ls (v :: st) h vm k n := by
  subst hp
  exact RunW.stp (fun p e below T m c t hA hx hc q => XS.astoreN hA hx rfl (hb hc hd) rfl hv hl q) nxt
theorem RunW.astore {x : Nat} {v : Value} (l' : Array Slot) (hd : decode code pc = .ok (.astore x, 2)) (hv : v.isRef = true) (hl : storeLocals Ls x v = some l') (hp : pc + 2 = pc') (nxt : RunW l Z EL n0 own code maxL ret nm R Q pc' l' st h vm k n) : RunW l Z EL n0 own code maxL ret nm R Q pc Ls (v :: st) h vm k n := by
  subst hp
  exact RunW.stp (fun p e below T m c t hA hx hc q => XS.astore hA hx rfl (hb hc hd) rfl hv hl q) nxt
theorem RunW.iinc {x : Nat} {i : Int} {u : Int32} (v : Int32) (l' : Array Slot) (hd : decode code pc = .ok (.iinc x i, 3)) (hv : Int32.ofInt i = v) (hg : Ls[x]? = some (.val (.int u))) (hl : storeLocals Ls x (.int (u + v)) = some l') (hp : pc + 3 = pc') (nxt : RunW l Z EL n0 own code maxL ret nm R Q pc' l' st h vm k n) : RunW l Z EL n0 own code maxL ret nm R Q pc Ls st h vm k n := by
  subst hp
  exact RunW.stp (fun p e below T m c t hA hx hc q => XT.iincV hA hx rfl v (hb hc hd) hv hg hl q) nxt
theorem RunW.iadd {x y : Int32} (hd : decode code pc = .ok (.iadd, 1))  (hp : pc + 1 = pc') (nxt : RunW l Z EL n0 own code maxL ret nm R Q pc' Ls (.int (x + y) :: st) h vm k n) : RunW l Z EL n0 own code maxL ret nm R Q pc Ls (.int y :: .int x :: st) h vm k n := by
  subst hp
  exact RunW.stp (fun p e below T m c t hA hx hc q => XS.iadd hA hx rfl (hb hc hd) rfl q) nxt
theorem RunW.isub {x y : Int32} (hd : decode code pc = .ok (.isub, 1))  (hp : pc + 1 = pc') (nxt : RunW l Z EL n0 own code maxL ret nm R Q pc' Ls (.int (x - y) :: st) h vm k n) : RunW l Z EL n0 own code maxL ret nm R Q pc Ls (.int y :: .int x :: st) h vm k n := by
  subst hp
  exact RunW.stp (fun p e below T m c t hA hx hc q => XS.isub hA hx rfl (hb hc hd) rfl q) nxt
theorem RunW.imul {x y : Int32} (hd : decode code pc = .ok (.imul, 1))  (hp : pc + 1 = pc') (nxt : RunW l Z EL n0 own code maxL ret nm R Q pc' Ls (.int (x * y) :: st) h vm k n) : RunW l Z EL n0 own code maxL ret nm R Q pc Ls (.int y :: .int x :: st) h vm k n := by
  subst hp
  exact RunW.stp (fun p e below T m c t hA hx hc q => XS.imul hA hx rfl (hb hc hd) rfl q) nxt
theorem RunW.iand {x y : Int32} (hd : decode code pc = .ok (.iand, 1))  (hp : pc + 1 = pc') (nxt : RunW l Z EL n0 own code maxL ret nm R Q pc' Ls (.int (x &&& y) :: st) h vm k n) : RunW l Z EL n0 own code maxL ret nm R Q pc Ls (.int y :: .int x :: st) h vm k n := by
  subst hp
  exact RunW.stp (fun p e below T m c t hA hx hc q => XS.iand hA hx rfl (hb hc hd) rfl q) nxt
theorem RunW.ior {x y : Int32} (hd : decode code pc = .ok (.ior, 1))  (hp : pc + 1 = pc') (nxt : RunW l Z EL n0 own code maxL ret nm R Q pc' Ls (.int (x ||| y) :: st) h vm k n) : RunW l Z EL n0 own code maxL ret nm R Q pc Ls (.int y :: .int x :: st) h vm k n := by
  subst hp
  exact RunW.stp (fun p e below T m c t hA hx hc q => XT.ior hA hx rfl (hb hc hd) rfl q) nxt
theorem RunW.ixor {x y : Int32} (hd : decode code pc = .ok (.ixor, 1))  (hp : pc + 1 = pc') (nxt : RunW l Z EL n0 own code maxL ret nm R Q pc' Ls (.int (x ^^^ y) :: st) h vm k n) : RunW l Z EL n0 own code maxL ret nm R Q pc Ls (.int y :: .int x :: st) h vm k n := by
  subst hp
  exact RunW.stp (fun p e below T m c t hA hx hc q => XT.ixor hA hx rfl (hb hc hd) rfl q) nxt
theorem RunW.ishl {x y : Int32} (hd : decode code pc = .ok (.ishl, 1))  (hp : pc + 1 = pc') (nxt : RunW l Z EL n0 own code maxL ret nm R Q pc' Ls (.int (x <<< (y &&& 31)) :: st) h vm k n) : RunW l Z EL n0 own code maxL ret nm R Q pc Ls (.int y :: .int x :: st) h vm k n := by
  subst hp
  exact RunW.stp (fun p e below T m c t hA hx hc q => XT.ishl hA hx rfl (hb hc hd) rfl q) nxt
theorem RunW.ishr {x y : Int32} (hd : decode code pc = .ok (.ishr, 1))  (hp : pc + 1 = pc') (nxt : RunW l Z EL n0 own code maxL ret nm R Q pc' Ls (.int (x >>> (y &&& 31)) :: st) h vm k n) : RunW l Z EL n0 own code maxL ret nm R Q pc Ls (.int y :: .int x :: st) h vm k n := by
  subst hp
  exact RunW.stp (fun p e below T m c t hA hx hc q => XT.ishr hA hx rfl (hb hc hd) rfl q) nxt
theorem RunW.iushr {x y : Int32} (hd : decode code pc = .ok (.iushr, 1))  (hp : pc + 1 = pc') (nxt : RunW l Z EL n0 own code maxL ret nm R Q pc' Ls (.int (XT.ushr x y) :: st) h vm k n) : RunW l Z EL n0 own code maxL ret nm R Q pc Ls (.int y :: .int x :: st) h vm k n := by
  subst hp
  exact RunW.stp (fun p e below T m c t hA hx hc q => XT.iushr hA hx rfl (hb hc hd) rfl q) nxt
theorem RunW.ladd {x y : Int64} (hd : decode code pc = .ok (.ladd, 1))  (hp : pc + 1 = pc') (nxt : RunW l Z EL n0 own code maxL ret nm R Q pc' Ls (.long (x + y) :: st) h vm k n) : RunW l Z EL n0 own code maxL ret nm R Q pc Ls (.long y :: .long x :: st) h vm k n := by
  subst hp
  exact RunW.stp (fun p e below T m c t hA hx hc q => XT.ladd hA hx rfl (hb hc hd) rfl q) nxt
theorem RunW.lsub {x y : Int64} (hd : decode code pc = .ok (.lsub, 1))  (hp : pc + 1 = pc') (nxt : RunW l Z EL n0 own code maxL ret nm R Q pc' Ls (.long (x - y) :: st) h vm k n) : RunW l Z EL n0 own code maxL ret nm R Q pc Ls (.long y :: .long x :: st) h vm k n := by
  subst hp
  exact RunW.stp (fun p e below T m c t hA hx hc q => XT.lsub hA hx rfl (hb hc hd) rfl q) nxt
theorem RunW.lmul {x y : Int64} (hd : decode code pc = .ok (.lmul, 1))  (hp : pc + 1 = pc') (nxt : RunW l Z EL n0 own code maxL ret nm R Q pc' Ls (.long (x * y) :: st) h vm k n) : RunW l Z EL n0 own code maxL ret nm R Q pc Ls (.long y :: .long x :: st) h vm k n := by
  subst hp
  exact RunW.stp (fun p e below T m c t hA hx hc q => XT.lmul hA hx rfl (hb hc hd) rfl q) nxt
theorem RunW.land {x y : Int64} (hd : decode code pc = .ok (.land, 1))  (hp : pc + 1 = pc') (nxt : RunW l Z EL n0 own code maxL ret nm R Q pc' Ls (.long (x &&& y) :: st) h vm k n) : RunW l Z EL n0 own code maxL ret nm R Q pc Ls (.long y :: .long x :: st) h vm k n := by
  subst hp
  exact RunW.stp (fun p e below T m c t hA hx hc q => XT.land hA hx rfl (hb hc hd) rfl q) nxt
theorem RunW.lor {x y : Int64} (hd : decode code pc = .ok (.lor, 1))  (hp : pc + 1 = pc') (nxt : RunW l Z EL n0 own code maxL ret nm R Q pc' Ls (.long (x ||| y) :: st) h vm k n) : RunW l Z EL n0 own code maxL ret nm R Q pc Ls (.long y :: .long x :: st) h vm k n := by
  subst hp
  exact RunW.stp (fun p e below T m c t hA hx hc q => XT.lor hA hx rfl (hb hc hd) rfl q) nxt
theorem RunW.lxor {x y : Int64} (hd : decode code pc = .ok (.lxor, 1))  (hp : pc + 1 = pc') (nxt : RunW l Z EL n0 own code maxL ret nm R Q pc' Ls (.long (x ^^^ y) :: st) h vm k n) : RunW l Z EL n0 own code maxL ret nm R Q pc Ls (.long y :: .long x :: st) h vm k n := by
  subst hp
  exact RunW.stp (fun p e below T m c t hA hx hc q => XT.lxor hA hx rfl (hb hc hd) rfl q) nxt
theorem RunW.idiv {x y : Int32} (hd : decode code pc = .ok (.idiv, 1)) (hy : y ≠ 0) (hp : pc + 1 = pc') (nxt : RunW l Z EL n0 own code maxL ret nm R Q pc' Ls (.int (x / y) :: st) h vm k n) : RunW l Z EL n0 own code maxL ret nm R Q pc Ls (.int y :: .int x :: st) h vm k n := by
  subst hp
  exact RunW.stp (fun p e below T m c t hA hx hc q => XS.idiv hA hx rfl (hb hc hd) rfl hy q) nxt
theorem RunW.irem {x y : Int32} (hd : decode code pc = .ok (.irem, 1)) (hy : y ≠ 0) (hp : pc + 1 = pc') (nxt : RunW l Z EL n0 own code maxL ret nm R Q pc' Ls (.int (x % y) :: st) h vm k n) : RunW l Z EL n0 own code maxL ret nm R Q pc Ls (.int y :: .int x :: st) h vm k n := by
  subst hp
  exact RunW.stp (fun p e below T m c t hA hx hc q => XS.irem hA hx rfl (hb hc hd) rfl hy (by rw [irem_eq_mod]; exact q)) nxt
theorem RunW.ldiv {x y : Int64} (hd : decode code pc = .ok (.ldiv, 1)) (hy : y ≠ 0) (hp : pc + 1 = pc') (nxt : RunW l Z EL n0 own code maxL ret nm R Q pc' Ls (.long (x / y) :: st) h vm k n) : RunW l Z EL n0 own code maxL ret nm R Q pc Ls (.long y :: .long x :: st) h vm k n := by
  subst hp
  exact RunW.stp (fun p e below T m c t hA hx hc q => XT.ldiv hA hx rfl (hb hc hd) rfl hy q) nxt
theorem RunW.lrem {x y : Int64} (hd : decode code pc = .ok (.lrem, 1)) (hy : y ≠ 0) (hp : pc + 1 = pc') (nxt : RunW l Z EL n0 own code maxL ret nm R Q pc' Ls (.long (x % y) :: st) h vm k n) : RunW l Z EL n0 own code maxL ret nm R Q pc Ls (.long y :: .long x :: st) h vm k n := by
  subst hp
  exact RunW.stp (fun p e below T m c t hA hx hc q => XT.lrem hA hx rfl (hb hc hd) rfl hy (by rw [lrem_mod]; exact q)) nxt
theorem RunW.ineg {x : Int32} (hd : decode code pc = .ok (.ineg, 1))  (hp : pc + 1 = pc') (nxt : RunW l Z EL n0 own code maxL ret nm R Q pc' Ls (.int (-x) :: st) h vm k n) : RunW l Z EL n0 own code maxL ret nm R Q pc Ls (.int x :: st) h vm k n := by
  subst hp
  exact RunW.stp (fun p e below T m c t hA hx hc q => XS.ineg hA hx rfl (hb hc hd) rfl q) nxt
theorem RunW.lneg {x : Int64} (hd : decode code pc = .ok (.lneg, 1))  (hp : pc + 1 = pc') (nxt : RunW l Z EL n0 own code maxL ret nm R Q pc' Ls (.long (-x) :: st) h vm k n) : RunW l Z EL n0 own code maxL ret nm R Q pc Ls (.long x :: st) h vm k n := by
  subst hp
  exact RunW.stp (fun p e below T m c t hA hx hc q => XT.lneg hA hx rfl (hb hc hd) rfl q) nxt
theorem RunW.i2l {x : Int32} (hd : decode code pc = .ok (.i2l, 1))  (hp : pc + 1 = pc') (nxt : RunW l Z EL n0 own code maxL ret nm R Q pc' Ls (.long x.toInt64 :: st) h vm k n) : RunW l Z EL n0 own code maxL ret nm R Q pc Ls (.int x :: st) h vm k n := by
  subst hp
  exact RunW.stp (fun p e below T m c t hA hx hc q => XT.i2l hA hx rfl (hb hc hd) rfl q) nxt
theorem RunW.l2i {x : Int64} (hd : decode code pc = .ok (.l2i, 1))  (hp : pc + 1 = pc') (nxt : RunW l Z EL n0 own code maxL ret nm R Q pc' Ls (.int x.toInt32 :: st) h vm k n) : RunW l Z EL n0 own code maxL ret nm R Q pc Ls (.long x :: st) h vm k n := by
  subst hp
  exact RunW.stp (fun p e below T m c t hA hx hc q => XT.l2i hA hx rfl (hb hc hd) rfl q) nxt
theorem RunW.i2b {x : Int32} (hd : decode code pc = .ok (.i2b, 1))  (hp : pc + 1 = pc') (nxt : RunW l Z EL n0 own code maxL ret nm R Q pc' Ls (.int (nar .byte x) :: st) h vm k n) : RunW l Z EL n0 own code maxL ret nm R Q pc Ls (.int x :: st) h vm k n := by
  subst hp
  exact RunW.stp (fun p e below T m c t hA hx hc q => XT.i2b hA hx rfl (hb hc hd) rfl q) nxt
theorem RunW.i2c {x : Int32} (hd : decode code pc = .ok (.i2c, 1))  (hp : pc + 1 = pc') (nxt : RunW l Z EL n0 own code maxL ret nm R Q pc' Ls (.int (nar .char x) :: st) h vm k n) : RunW l Z EL n0 own code maxL ret nm R Q pc Ls (.int x :: st) h vm k n := by
  subst hp
  exact RunW.stp (fun p e below T m c t hA hx hc q => XT.i2c hA hx rfl (hb hc hd) rfl q) nxt
theorem RunW.i2s {x : Int32} (hd : decode code pc = .ok (.i2s, 1))  (hp : pc + 1 = pc') (nxt : RunW l Z EL n0 own code maxL ret nm R Q pc' Ls (.int (nar .short x) :: st) h vm k n) : RunW l Z EL n0 own code maxL ret nm R Q pc Ls (.int x :: st) h vm k n := by
  subst hp
  exact RunW.stp (fun p e below T m c t hA hx hc q => XT.i2s hA hx rfl (hb hc hd) rfl q) nxt
theorem RunW.lshl {x : Int64} {y : Int32} (hd : decode code pc = .ok (.lshl, 1))  (hp : pc + 1 = pc') (nxt : RunW l Z EL n0 own code maxL ret nm R Q pc' Ls (.long (x <<< (y.toInt64 &&& 63)) :: st) h vm k n) : RunW l Z EL n0 own code maxL ret nm R Q pc Ls (.int y :: .long x :: st) h vm k n := by
  subst hp
  exact RunW.stp (fun p e below T m c t hA hx hc q => XT.lshl hA hx rfl (hb hc hd) rfl q) nxt
theorem RunW.lshr {x : Int64} {y : Int32} (hd : decode code pc = .ok (.lshr, 1))  (hp : pc + 1 = pc') (nxt : RunW l Z EL n0 own code maxL ret nm R Q pc' Ls (.long (x >>> (y.toInt64 &&& 63)) :: st) h vm k n) : RunW l Z EL n0 own code maxL ret nm R Q pc Ls (.int y :: .long x :: st) h vm k n := by
  subst hp
  exact RunW.stp (fun p e below T m c t hA hx hc q => XT.lshr hA hx rfl (hb hc hd) rfl q) nxt
theorem RunW.lushr {x : Int64} {y : Int32} (hd : decode code pc = .ok (.lushr, 1))  (hp : pc + 1 = pc') (nxt : RunW l Z EL n0 own code maxL ret nm R Q pc' Ls (.long (XT.ushrL x y) :: st) h vm k n) : RunW l Z EL n0 own code maxL ret nm R Q pc Ls (.int y :: .long x :: st) h vm k n := by
  subst hp
  exact RunW.stp (fun p e below T m c t hA hx hc q => XT.lushr hA hx rfl (hb hc hd) rfl q) nxt
theorem RunW.lcmp {x y : Int64} (hd : decode code pc = .ok (.lcmp, 1))  (hp : pc + 1 = pc') (nxt : RunW l Z EL n0 own code maxL ret nm R Q pc' Ls (.int (XT.cmpL x y) :: st) h vm k n) : RunW l Z EL n0 own code maxL ret nm R Q pc Ls (.long y :: .long x :: st) h vm k n := by
  subst hp
  exact RunW.stp (fun p e below T m c t hA hx hc q => XT.lcmp hA hx rfl (hb hc hd) rfl q) nxt
theorem RunW.dup {x : Value} (hd : decode code pc = .ok (.dup, 1)) (hv : x.category = 1) (hp : pc + 1 = pc') (nxt : RunW l Z EL n0 own code maxL ret nm R Q pc' Ls (x :: x :: st) h vm k n) : RunW l Z EL n0 own code maxL ret nm R Q pc Ls (x :: st) h vm k n := by
  subst hp
  exact RunW.stp (fun p e below T m c t hA hx hc q => XS.dup hA hx rfl (hb hc hd) rfl hv q) nxt
theorem RunW.pop {x : Value} (hd : decode code pc = .ok (.pop, 1)) (hv : x.category = 1) (hp : pc + 1 = pc') (nxt : RunW l Z EL n0 own code maxL ret nm R Q pc' Ls st h vm k n) : RunW l Z EL n0 own code maxL ret nm R Q pc Ls (x :: st) h vm k n := by
  subst hp
  exact RunW.stp (fun p e below T m c t hA hx hc q => XT.pop hA hx rfl (hb hc hd) rfl hv q) nxt
theorem RunW.dupX1 {x y : Value} (hd : decode code pc = .ok (.dup_x1, 1)) (hv : x.category = 1) (hv' : y.category = 1) (hp : pc + 1 = pc') (nxt : RunW l Z EL n0 own code maxL ret nm R Q pc' Ls (x :: y :: x :: st) h vm k n) : RunW l Z EL n0 own code maxL ret nm R Q pc Ls (x :: y :: st) h vm k n := by
  subst hp
  exact RunW.stp (fun p e below T m c t hA hx hc q => XT.dupX1 hA hx rfl (hb hc hd) rfl hv hv' q) nxt
theorem RunW.dup2 {x y : Value} (hd : decode code pc = .ok (.dup2, 1)) (hv : x.category = 1) (hv' : y.category = 1) (hp : pc + 1 = pc') (nxt : RunW l Z EL n0 own code maxL ret nm R Q pc' Ls (x :: y :: x :: y :: st) h vm k n) : RunW l Z EL n0 own code maxL ret nm R Q pc Ls (x :: y :: st) h vm k n := by
  subst hp
  exact RunW.stp (fun p e below T m c t hA hx hc q => XT.dup2 hA hx rfl (hb hc hd) rfl hv hv' q) nxt
theorem RunW.dup2L {x : Int64} (hd : decode code pc = .ok (.dup2, 1))  (hp : pc + 1 = pc') (nxt : RunW l Z EL n0 own code maxL ret nm R Q pc' Ls (.long x :: .long x :: st) h vm k n) : RunW l Z EL n0 own code maxL ret nm R Q pc Ls (.long x :: st) h vm k n := by
  subst hp
  exact RunW.stp (fun p e below T m c t hA hx hc q => XT.dup2L hA hx rfl (hb hc hd) rfl q) nxt
theorem RunW.floadN {x : Fin 4} {v : UInt32} (hd : decode code pc = .ok (.fload_n x, 1)) (hl : Ls[x.val]? = some (.val (.float v))) (hp : pc + 1 = pc') (nxt : RunW l Z EL n0 own code maxL ret nm R Q pc' Ls (.float v :: st) h vm k n) : RunW l Z EL n0 own code maxL ret nm R Q pc Ls st h vm k n := by
  subst hp
  exact RunW.stp (fun p e below T m c t hA hx hc q => XS.floadN hA hx rfl (hb hc hd) hl q) nxt
theorem RunW.dloadN {x : Fin 4} {v : UInt64} (hd : decode code pc = .ok (.dload_n x, 1)) (hl : Ls[x.val]? = some (.val (.double v))) (hp : pc + 1 = pc') (nxt : RunW l Z EL n0 own code maxL ret nm R Q pc' Ls (.double v :: st) h vm k n) : RunW l Z EL n0 own code maxL ret nm R Q pc Ls st h vm k n := by
  subst hp
  exact RunW.stp (fun p e below T m c t hA hx hc q => XS.dloadN hA hx rfl (hb hc hd) hl q) nxt
theorem RunW.dstoreN {x : Fin 4} {v : UInt64} (l' : Array Slot) (hd : decode code pc = .ok (.dstore_n x, 1)) (hl : storeLocals Ls x.val (.double v) = some l') (hp : pc + 1 = pc') (nxt : RunW l Z EL n0 own code maxL ret nm R Q pc' l' st h vm k n) : RunW l Z EL n0 own code maxL ret nm R Q pc Ls (.double v :: st) h vm k n := by
  subst hp
  exact RunW.stp (fun p e below T m c t hA hx hc q => XS.dstoreN hA hx rfl (hb hc hd) rfl hl q) nxt
theorem RunW.fconst0  (hd : decode code pc = .ok (.fconst 0, 1))  (hp : pc + 1 = pc') (nxt : RunW l Z EL n0 own code maxL ret nm R Q pc' Ls (.float 0 :: st) h vm k n) : RunW l Z EL n0 own code maxL ret nm R Q pc Ls st h vm k n := by
  subst hp
  exact RunW.stp (fun p e below T m c t hA hx hc q => XS.fconst0 hA hx rfl (hb hc hd) rfl q) nxt
theorem RunW.i2f {x : Int32} (hd : decode code pc = .ok (.i2f, 1))  (hp : pc + 1 = pc') (nxt : RunW l Z EL n0 own code maxL ret nm R Q pc' Ls (.float (FP.i2f x) :: st) h vm k n) : RunW l Z EL n0 own code maxL ret nm R Q pc Ls (.int x :: st) h vm k n := by
  subst hp
  exact RunW.stp (fun p e below T m c t hA hx hc q => XS.i2fS hA hx rfl (hb hc hd) rfl rfl q) nxt
theorem RunW.i2d {x : Int32} (hd : decode code pc = .ok (.i2d, 1))  (hp : pc + 1 = pc') (nxt : RunW l Z EL n0 own code maxL ret nm R Q pc' Ls (.double (FP.i2d x) :: st) h vm k n) : RunW l Z EL n0 own code maxL ret nm R Q pc Ls (.int x :: st) h vm k n := by
  subst hp
  exact RunW.stp (fun p e below T m c t hA hx hc q => XS.i2dS hA hx rfl (hb hc hd) rfl rfl q) nxt
theorem RunW.fdiv {x y : UInt32} (hd : decode code pc = .ok (.fdiv, 1)) (hn : Jvm.Free.Fl.NoNaN32 (FP.fdiv x y)) (hp : pc + 1 = pc') (nxt : RunW l Z EL n0 own code maxL ret nm R Q pc' Ls (.float (FP.fdiv x y) :: st) h vm k n) : RunW l Z EL n0 own code maxL ret nm R Q pc Ls (.float y :: .float x :: st) h vm k n := by
  subst hp
  exact RunW.stp (fun p e below T m c t hA hx hc q => XS.fdivS hA hx rfl (hb hc hd) rfl hn rfl q) nxt
theorem RunW.fadd {x y : UInt32} (hd : decode code pc = .ok (.fadd, 1)) (hn : Jvm.Free.Fl.NoNaN32 (FP.fadd x y)) (hp : pc + 1 = pc') (nxt : RunW l Z EL n0 own code maxL ret nm R Q pc' Ls (.float (FP.fadd x y) :: st) h vm k n) : RunW l Z EL n0 own code maxL ret nm R Q pc Ls (.float y :: .float x :: st) h vm k n := by
  subst hp
  exact RunW.stp (fun p e below T m c t hA hx hc q => XS.faddS hA hx rfl (hb hc hd) rfl hn rfl q) nxt
theorem RunW.f2d {x : UInt32} (hd : decode code pc = .ok (.f2d, 1)) (hn : Jvm.Free.Fl.NoNaN64 (FP.f2d x)) (hp : pc + 1 = pc') (nxt : RunW l Z EL n0 own code maxL ret nm R Q pc' Ls (.double (FP.f2d x) :: st) h vm k n) : RunW l Z EL n0 own code maxL ret nm R Q pc Ls (.float x :: st) h vm k n := by
  subst hp
  exact RunW.stp (fun p e below T m c t hA hx hc q => XS.f2dS hA hx rfl (hb hc hd) rfl hn rfl q) nxt
theorem RunW.fcmp {o : CmpOp} {x y : UInt32} (hd : decode code pc = .ok (.fcmp o, 1))  (hp : pc + 1 = pc') (nxt : RunW l Z EL n0 own code maxL ret nm R Q pc' Ls (.int (cmpValue (FP.fcmp x y) o) :: st) h vm k n) : RunW l Z EL n0 own code maxL ret nm R Q pc Ls (.float y :: .float x :: st) h vm k n := by
  subst hp
  exact RunW.stp (fun p e below T m c t hA hx hc q => XS.fcmpS hA hx rfl (hb hc hd) rfl rfl q) nxt
theorem RunW.dcmp {o : CmpOp} {x y : UInt64} (hd : decode code pc = .ok (.dcmp o, 1))  (hp : pc + 1 = pc') (nxt : RunW l Z EL n0 own code maxL ret nm R Q pc' Ls (.int (cmpValue (FP.dcmp x y) o) :: st) h vm k n) : RunW l Z EL n0 own code maxL ret nm R Q pc Ls (.double y :: .double x :: st) h vm k n := by
  subst hp
  exact RunW.stp (fun p e below T m c t hA hx hc q => XS.dcmpS hA hx rfl (hb hc hd) rfl rfl q) nxt
theorem RunW.ldcF {a0 : Array Value} {i : Nat} {v : UInt32} (hd : decode code pc = .ok (.ldc i, 2)) (w : (Cond.constantFloat own i v).before a0 Z = true) (hp : pc + 2 = pc') (nxt : RunW l Z EL n0 own code maxL ret nm R Q pc' Ls (.float v :: st) h vm k n) : RunW l Z EL n0 own code maxL ret nm R Q pc Ls st h vm k n := by
  subst hp
  exact RunW.via (fun p e s m args below meth c T locs cells slots hC X eT => ⟨T, X, eT, fun t q => X.ldcFloatC hC.1 hC.2.2.1 (mvT hC.2.1 w) (g := mkF m pc Ls st) rfl (hb hC.2.2.2.1 hd) t q⟩) nxt
theorem RunW.goto {o : Int} (hd : decode code pc = .ok (.goto o, 3)) (ho : 0 ≤ (pc : Int) + o) (hp : ((pc : Int) + o).toNat = pc') (nxt : RunW l Z EL n0 own code maxL ret nm R Q pc' Ls st h vm k n) : RunW l Z EL n0 own code maxL ret nm R Q pc Ls st h vm k n :=
  RunW.stp (fun p e below T m c t hA hx hc q => XS.goto hA hx rfl rfl (hb hc hd) ho hp q) nxt
theorem RunW.if_eq {x : Int32} {o : Int} {pa : Nat} (hd : decode code pc = .ok (.ifCond .eq o, 3)) (ho : 0 ≤ (pc : Int) + o) (hp : ((pc : Int) + o).toNat = pc') (hq : pc + 3 = pa)
    (yes : x = 0 → RunW l Z EL n0 own code maxL ret nm R Q pc' Ls st h vm k n) (no : ¬ x = 0 → RunW l Z EL n0 own code maxL ret nm R Q pa Ls st h vm k n) : RunW l Z EL n0 own code maxL ret nm R Q pc Ls (.int x :: st) h vm k n := by
  subst hq
  by_cases hc : x = 0
  · exact RunW.stp (fun p e below T m c t hA hx hb' q => XS.ifYes hA hx rfl rfl (hb hb' hd) rfl (XT.i0_eq_t hc) ho hp q) (yes hc)
  · exact RunW.stp (fun p e below T m c t hA hx hb' q => XS.ifNo hA hx rfl (hb hb' hd) rfl (XT.i0_eq_f hc) q) (no hc)
theorem RunW.icmp_eq {x y : Int32} {o : Int} {pa : Nat} (hd : decode code pc = .ok (.if_icmp .eq o, 3)) (ho : 0 ≤ (pc : Int) + o) (hp : ((pc : Int) + o).toNat = pc') (hq : pc + 3 = pa)
    (yes : x = y → RunW l Z EL n0 own code maxL ret nm R Q pc' Ls st h vm k n) (no : ¬ x = y → RunW l Z EL n0 own code maxL ret nm R Q pa Ls st h vm k n) : RunW l Z EL n0 own code maxL ret nm R Q pc Ls (.int y :: .int x :: st) h vm k n := by
  subst hq
  by_cases hc : x = y
  · exact RunW.stp (fun p e below T m c t hA hx hb' q => XS.icmpYes hA hx rfl rfl (hb hb' hd) rfl (XT.ii_eq_t hc) ho hp q) (yes hc)
  · exact RunW.stp (fun p e below T m c t hA hx hb' q => XS.icmpNo hA hx rfl (hb hb' hd) rfl (XT.ii_eq_f hc) q) (no hc)
theorem RunW.if_ne {x : Int32} {o : Int} {pa : Nat} (hd : decode code pc = .ok (.ifCond .ne o, 3)) (ho : 0 ≤ (pc : Int) + o) (hp : ((pc : Int) + o).toNat = pc') (hq : pc + 3 = pa)
    (yes : ¬ x = 0 → RunW l Z EL n0 own code maxL ret nm R Q pc' Ls st h vm k n) (no : x = 0 → RunW l Z EL n0 own code maxL ret nm R Q pa Ls st h vm k n) : RunW l Z EL n0 own code maxL ret nm R Q pc Ls (.int x :: st) h vm k n := by
  subst hq
  by_cases hc : x = 0
  · exact RunW.stp (fun p e below T m c t hA hx hb' q => XS.ifNo hA hx rfl (hb hb' hd) rfl (XT.i0_ne_f hc) q) (no (by simpa using hc))
  · exact RunW.stp (fun p e below T m c t hA hx hb' q => XS.ifYes hA hx rfl rfl (hb hb' hd) rfl (XT.i0_ne_t hc) ho hp q) (yes hc)
theorem RunW.icmp_ne {x y : Int32} {o : Int} {pa : Nat} (hd : decode code pc = .ok (.if_icmp .ne o, 3)) (ho : 0 ≤ (pc : Int) + o) (hp : ((pc : Int) + o).toNat = pc') (hq : pc + 3 = pa)
    (yes : ¬ x = y → RunW l Z EL n0 own code maxL ret nm R Q pc' Ls st h vm k n) (no : x = y → RunW l Z EL n0 own code maxL ret nm R Q pa Ls st h vm k n) : RunW l Z EL n0 own code maxL ret nm R Q pc Ls (.int y :: .int x :: st) h vm k n := by
  subst hq
  by_cases hc : x = y
  · exact RunW.stp (fun p e below T m c t hA hx hb' q => XS.icmpNo hA hx rfl (hb hb' hd) rfl (XT.ii_ne_f hc) q) (no (by simpa using hc))
  · exact RunW.stp (fun p e below T m c t hA hx hb' q => XS.icmpYes hA hx rfl rfl (hb hb' hd) rfl (XT.ii_ne_t hc) ho hp q) (yes hc)
theorem RunW.if_lt {x : Int32} {o : Int} {pa : Nat} (hd : decode code pc = .ok (.ifCond .lt o, 3)) (ho : 0 ≤ (pc : Int) + o) (hp : ((pc : Int) + o).toNat = pc') (hq : pc + 3 = pa)
    (yes : x < 0 → RunW l Z EL n0 own code maxL ret nm R Q pc' Ls st h vm k n) (no : ¬ x < 0 → RunW l Z EL n0 own code maxL ret nm R Q pa Ls st h vm k n) : RunW l Z EL n0 own code maxL ret nm R Q pc Ls (.int x :: st) h vm k n := by
  subst hq
  by_cases hc : x < 0
  · exact RunW.stp (fun p e below T m c t hA hx hb' q => XS.ifYes hA hx rfl rfl (hb hb' hd) rfl (XT.i0_lt_t hc) ho hp q) (yes hc)
  · exact RunW.stp (fun p e below T m c t hA hx hb' q => XS.ifNo hA hx rfl (hb hb' hd) rfl (XT.i0_lt_f hc) q) (no hc)
theorem RunW.icmp_lt {x y : Int32} {o : Int} {pa : Nat} (hd : decode code pc = .ok (.if_icmp .lt o, 3)) (ho : 0 ≤ (pc : Int) + o) (hp : ((pc : Int) + o).toNat = pc') (hq : pc + 3 = pa)
    (yes : x < y → RunW l Z EL n0 own code maxL ret nm R Q pc' Ls st h vm k n) (no : ¬ x < y → RunW l Z EL n0 own code maxL ret nm R Q pa Ls st h vm k n) : RunW l Z EL n0 own code maxL ret nm R Q pc Ls (.int y :: .int x :: st) h vm k n := by
  subst hq
  by_cases hc : x < y
  · exact RunW.stp (fun p e below T m c t hA hx hb' q => XS.icmpYes hA hx rfl rfl (hb hb' hd) rfl (XT.ii_lt_t hc) ho hp q) (yes hc)
  · exact RunW.stp (fun p e below T m c t hA hx hb' q => XS.icmpNo hA hx rfl (hb hb' hd) rfl (XT.ii_lt_f hc) q) (no hc)
theorem RunW.if_ge {x : Int32} {o : Int} {pa : Nat} (hd : decode code pc = .ok (.ifCond .ge o, 3)) (ho : 0 ≤ (pc : Int) + o) (hp : ((pc : Int) + o).toNat = pc') (hq : pc + 3 = pa)
    (yes : ¬ x < 0 → RunW l Z EL n0 own code maxL ret nm R Q pc' Ls st h vm k n) (no : x < 0 → RunW l Z EL n0 own code maxL ret nm R Q pa Ls st h vm k n) : RunW l Z EL n0 own code maxL ret nm R Q pc Ls (.int x :: st) h vm k n := by
  subst hq
  by_cases hc : x < 0
  · exact RunW.stp (fun p e below T m c t hA hx hb' q => XS.ifNo hA hx rfl (hb hb' hd) rfl (XT.i0_ge_f hc) q) (no (by simpa using hc))
  · exact RunW.stp (fun p e below T m c t hA hx hb' q => XS.ifYes hA hx rfl rfl (hb hb' hd) rfl (XT.i0_ge_t hc) ho hp q) (yes hc)
theorem RunW.icmp_ge {x y : Int32} {o : Int} {pa : Nat} (hd : decode code pc = .ok (.if_icmp .ge o, 3)) (ho : 0 ≤ (pc : Int) + o) (hp : ((pc : Int) + o).toNat = pc') (hq : pc + 3 = pa)
    (yes : ¬ x < y → RunW l Z EL n0 own code maxL ret nm R Q pc' Ls st h vm k n) (no : x < y → RunW l Z EL n0 own code maxL ret nm R Q pa Ls st h vm k n) : RunW l Z EL n0 own code maxL ret nm R Q pc Ls (.int y :: .int x :: st) h vm k n := by
  subst hq
  by_cases hc : x < y
  · exact RunW.stp (fun p e below T m c t hA hx hb' q => XS.icmpNo hA hx rfl (hb hb' hd) rfl (XT.ii_ge_f hc) q) (no (by simpa using hc))
  · exact RunW.stp (fun p e below T m c t hA hx hb' q => XS.icmpYes hA hx rfl rfl (hb hb' hd) rfl (XT.ii_ge_t hc) ho hp q) (yes hc)
theorem RunW.if_gt {x : Int32} {o : Int} {pa : Nat} (hd : decode code pc = .ok (.ifCond .gt o, 3)) (ho : 0 ≤ (pc : Int) + o) (hp : ((pc : Int) + o).toNat = pc') (hq : pc + 3 = pa)
    (yes : 0 < x → RunW l Z EL n0 own code maxL ret nm R Q pc' Ls st h vm k n) (no : ¬ 0 < x → RunW l Z EL n0 own code maxL ret nm R Q pa Ls st h vm k n) : RunW l Z EL n0 own code maxL ret nm R Q pc Ls (.int x :: st) h vm k n := by
  subst hq
  by_cases hc : 0 < x
  · exact RunW.stp (fun p e below T m c t hA hx hb' q => XS.ifYes hA hx rfl rfl (hb hb' hd) rfl (XT.i0_gt_t hc) ho hp q) (yes hc)
  · exact RunW.stp (fun p e below T m c t hA hx hb' q => XS.ifNo hA hx rfl (hb hb' hd) rfl (XT.i0_gt_f hc) q) (no hc)
theorem RunW.icmp_gt {x y : Int32} {o : Int} {pa : Nat} (hd : decode code pc = .ok (.if_icmp .gt o, 3)) (ho : 0 ≤ (pc : Int) + o) (hp : ((pc : Int) + o).toNat = pc') (hq : pc + 3 = pa)
    (yes : y < x → RunW l Z EL n0 own code maxL ret nm R Q pc' Ls st h vm k n) (no : ¬ y < x → RunW l Z EL n0 own code maxL ret nm R Q pa Ls st h vm k n) : RunW l Z EL n0 own code maxL ret nm R Q pc Ls (.int y :: .int x :: st) h vm k n := by
  subst hq
  by_cases hc : y < x
  · exact RunW.stp (fun p e below T m c t hA hx hb' q => XS.icmpYes hA hx rfl rfl (hb hb' hd) rfl (XT.ii_gt_t hc) ho hp q) (yes hc)
  · exact RunW.stp (fun p e below T m c t hA hx hb' q => XS.icmpNo hA hx rfl (hb hb' hd) rfl (XT.ii_gt_f hc) q) (no hc)
theorem RunW.if_le {x : Int32} {o : Int} {pa : Nat} (hd : decode code pc = .ok (.ifCond .le o, 3)) (ho : 0 ≤ (pc : Int) + o) (hp : ((pc : Int) + o).toNat = pc') (hq : pc + 3 = pa)
    (yes : ¬ 0 < x → RunW l Z EL n0 own code maxL ret nm R Q pc' Ls st h vm k n) (no : 0 < x → RunW l Z EL n0 own code maxL ret nm R Q pa Ls st h vm k n) : RunW l Z EL n0 own code maxL ret nm R Q pc Ls (.int x :: st) h vm k n := by
  subst hq
  by_cases hc : 0 < x
  · exact RunW.stp (fun p e below T m c t hA hx hb' q => XS.ifNo hA hx rfl (hb hb' hd) rfl (XT.i0_le_f hc) q) (no (by simpa using hc))
  · exact RunW.stp (fun p e below T m c t hA hx hb' q => XS.ifYes hA hx rfl rfl (hb hb' hd) rfl (XT.i0_le_t hc) ho hp q) (yes hc)
theorem RunW.icmp_le {x y : Int32} {o : Int} {pa : Nat} (hd : decode code pc = .ok (.if_icmp .le o, 3)) (ho : 0 ≤ (pc : Int) + o) (hp : ((pc : Int) + o).toNat = pc') (hq : pc + 3 = pa)
    (yes : ¬ y < x → RunW l Z EL n0 own code maxL ret nm R Q pc' Ls st h vm k n) (no : y < x → RunW l Z EL n0 own code maxL ret nm R Q pa Ls st h vm k n) : RunW l Z EL n0 own code maxL ret nm R Q pc Ls (.int y :: .int x :: st) h vm k n := by
  subst hq
  by_cases hc : y < x
  · exact RunW.stp (fun p e below T m c t hA hx hb' q => XS.icmpNo hA hx rfl (hb hb' hd) rfl (XT.ii_le_f hc) q) (no (by simpa using hc))
  · exact RunW.stp (fun p e below T m c t hA hx hb' q => XS.icmpYes hA hx rfl rfl (hb hb' hd) rfl (XT.ii_le_t hc) ho hp q) (yes hc)
theorem RunW.lif_eq {x y : Int64} {o : Int} {pa : Nat} (hd : decode code pc = .ok (.ifCond .eq o, 3)) (ho : 0 ≤ (pc : Int) + o) (hp : ((pc : Int) + o).toNat = pc') (hq : pc + 3 = pa)
    (yes : x = y → RunW l Z EL n0 own code maxL ret nm R Q pc' Ls st h vm k n) (no : ¬ x = y → RunW l Z EL n0 own code maxL ret nm R Q pa Ls st h vm k n) : RunW l Z EL n0 own code maxL ret nm R Q pc Ls (.int (XT.cmpL x y) :: st) h vm k n := by
  subst hq
  by_cases hc : x = y
  · exact RunW.stp (fun p e below T m c t hA hx hb' q => XS.ifYes hA hx rfl rfl (hb hb' hd) rfl (XT.ll_eq_t hc) ho hp q) (yes hc)
  · exact RunW.stp (fun p e below T m c t hA hx hb' q => XS.ifNo hA hx rfl (hb hb' hd) rfl (XT.ll_eq_f hc) q) (no hc)
theorem RunW.lif_ne {x y : Int64} {o : Int} {pa : Nat} (hd : decode code pc = .ok (.ifCond .ne o, 3)) (ho : 0 ≤ (pc : Int) + o) (hp : ((pc : Int) + o).toNat = pc') (hq : pc + 3 = pa)
    (yes : ¬ x = y → RunW l Z EL n0 own code maxL ret nm R Q pc' Ls st h vm k n) (no : x = y → RunW l Z EL n0 own code maxL ret nm R Q pa Ls st h vm k n) : RunW l Z EL n0 own code maxL ret nm R Q pc Ls (.int (XT.cmpL x y) :: st) h vm k n := by
  subst hq
  by_cases hc : x = y
  · exact RunW.stp (fun p e below T m c t hA hx hb' q => XS.ifNo hA hx rfl (hb hb' hd) rfl (XT.ll_ne_f hc) q) (no (by simpa using hc))
  · exact RunW.stp (fun p e below T m c t hA hx hb' q => XS.ifYes hA hx rfl rfl (hb hb' hd) rfl (XT.ll_ne_t hc) ho hp q) (yes hc)
theorem RunW.lif_lt {x y : Int64} {o : Int} {pa : Nat} (hd : decode code pc = .ok (.ifCond .lt o, 3)) (ho : 0 ≤ (pc : Int) + o) (hp : ((pc : Int) + o).toNat = pc') (hq : pc + 3 = pa)
    (yes : x < y → RunW l Z EL n0 own code maxL ret nm R Q pc' Ls st h vm k n) (no : ¬ x < y → RunW l Z EL n0 own code maxL ret nm R Q pa Ls st h vm k n) : RunW l Z EL n0 own code maxL ret nm R Q pc Ls (.int (XT.cmpL x y) :: st) h vm k n := by
  subst hq
  by_cases hc : x < y
  · exact RunW.stp (fun p e below T m c t hA hx hb' q => XS.ifYes hA hx rfl rfl (hb hb' hd) rfl (XT.ll_lt_t hc) ho hp q) (yes hc)
  · exact RunW.stp (fun p e below T m c t hA hx hb' q => XS.ifNo hA hx rfl (hb hb' hd) rfl (XT.ll_lt_f hc) q) (no hc)
theorem RunW.lif_ge {x y : Int64} {o : Int} {pa : Nat} (hd : decode code pc = .ok (.ifCond .ge o, 3)) (ho : 0 ≤ (pc : Int) + o) (hp : ((pc : Int) + o).toNat = pc') (hq : pc + 3 = pa)
    (yes : ¬ x < y → RunW l Z EL n0 own code maxL ret nm R Q pc' Ls st h vm k n) (no : x < y → RunW l Z EL n0 own code maxL ret nm R Q pa Ls st h vm k n) : RunW l Z EL n0 own code maxL ret nm R Q pc Ls (.int (XT.cmpL x y) :: st) h vm k n := by
  subst hq
  by_cases hc : x < y
  · exact RunW.stp (fun p e below T m c t hA hx hb' q => XS.ifNo hA hx rfl (hb hb' hd) rfl (XT.ll_ge_f hc) q) (no (by simpa using hc))
  · exact RunW.stp (fun p e below T m c t hA hx hb' q => XS.ifYes hA hx rfl rfl (hb hb' hd) rfl (XT.ll_ge_t hc) ho hp q) (yes hc)
theorem RunW.lif_gt {x y : Int64} {o : Int} {pa : Nat} (hd : decode code pc = .ok (.ifCond .gt o, 3)) (ho : 0 ≤ (pc : Int) + o) (hp : ((pc : Int) + o).toNat = pc') (hq : pc + 3 = pa)
    (yes : y < x → RunW l Z EL n0 own code maxL ret nm R Q pc' Ls st h vm k n) (no : ¬ y < x → RunW l Z EL n0 own code maxL ret nm R Q pa Ls st h vm k n) : RunW l Z EL n0 own code maxL ret nm R Q pc Ls (.int (XT.cmpL x y) :: st) h vm k n := by
  subst hq
  by_cases hc : y < x
  · exact RunW.stp (fun p e below T m c t hA hx hb' q => XS.ifYes hA hx rfl rfl (hb hb' hd) rfl (XT.ll_gt_t hc) ho hp q) (yes hc)
  · exact RunW.stp (fun p e below T m c t hA hx hb' q => XS.ifNo hA hx rfl (hb hb' hd) rfl (XT.ll_gt_f hc) q) (no hc)
theorem RunW.lif_le {x y : Int64} {o : Int} {pa : Nat} (hd : decode code pc = .ok (.ifCond .le o, 3)) (ho : 0 ≤ (pc : Int) + o) (hp : ((pc : Int) + o).toNat = pc') (hq : pc + 3 = pa)
    (yes : ¬ y < x → RunW l Z EL n0 own code maxL ret nm R Q pc' Ls st h vm k n) (no : y < x → RunW l Z EL n0 own code maxL ret nm R Q pa Ls st h vm k n) : RunW l Z EL n0 own code maxL ret nm R Q pc Ls (.int (XT.cmpL x y) :: st) h vm k n := by
  subst hq
  by_cases hc : y < x
  · exact RunW.stp (fun p e below T m c t hA hx hb' q => XS.ifNo hA hx rfl (hb hb' hd) rfl (XT.ll_le_f hc) q) (no (by simpa using hc))
  · exact RunW.stp (fun p e below T m c t hA hx hb' q => XS.ifYes hA hx rfl rfl (hb hb' hd) rfl (XT.ll_le_t hc) ho hp q) (yes hc)
theorem RunW.acmp_eq {x y : Value} {o : Int} {pa : Nat} (hd : decode code pc = .ok (.if_acmp .eq o, 3)) (hv : x.isRef = true) (hv' : y.isRef = true) (ho : 0 ≤ (pc : Int) + o) (hp : ((pc : Int) + o).toNat = pc') (hq : pc + 3 = pa)
    (yes : x = y → RunW l Z EL n0 own code maxL ret nm R Q pc' Ls st h vm k n) (no : ¬ x = y → RunW l Z EL n0 own code maxL ret nm R Q pa Ls st h vm k n) : RunW l Z EL n0 own code maxL ret nm R Q pc Ls (y :: x :: st) h vm k n := by
  subst hq
  by_cases hc : x = y
  · exact RunW.stp (fun p e below T m c t hA hx hb' q => XT.acmpYes hA hx rfl rfl (hb hb' hd) rfl hv hv' (XT.aa_eq_t hc) ho hp q) (yes hc)
  · exact RunW.stp (fun p e below T m c t hA hx hb' q => XT.acmpNo hA hx rfl (hb hb' hd) rfl hv hv' (XT.aa_eq_f hc) q) (no hc)
theorem RunW.acmp_ne {x y : Value} {o : Int} {pa : Nat} (hd : decode code pc = .ok (.if_acmp .ne o, 3)) (hv : x.isRef = true) (hv' : y.isRef = true) (ho : 0 ≤ (pc : Int) + o) (hp : ((pc : Int) + o).toNat = pc') (hq : pc + 3 = pa)
    (yes : ¬ x = y → RunW l Z EL n0 own code maxL ret nm R Q pc' Ls st h vm k n) (no : x = y → RunW l Z EL n0 own code maxL ret nm R Q pa Ls st h vm k n) : RunW l Z EL n0 own code maxL ret nm R Q pc Ls (y :: x :: st) h vm k n := by
  subst hq
  by_cases hc : x = y
  · exact RunW.stp (fun p e below T m c t hA hx hb' q => XT.acmpNo hA hx rfl (hb hb' hd) rfl hv hv' (XT.aa_ne_f hc) q) (no (by simpa using hc))
  · exact RunW.stp (fun p e below T m c t hA hx hb' q => XT.acmpYes hA hx rfl rfl (hb hb' hd) rfl hv hv' (XT.aa_ne_t hc) ho hp q) (yes hc)
theorem RunW.ifnull {v : Value} {o : Int} {pa : Nat} (hd : decode code pc = .ok (.ifnull o, 3)) (hv : v.isRef = true) (ho : 0 ≤ (pc : Int) + o) (hp : ((pc : Int) + o).toNat = pc') (hq : pc + 3 = pa)
    (yes : v = .null → RunW l Z EL n0 own code maxL ret nm R Q pc' Ls st h vm k n) (no : ¬ v = .null → RunW l Z EL n0 own code maxL ret nm R Q pa Ls st h vm k n) : RunW l Z EL n0 own code maxL ret nm R Q pc Ls (v :: st) h vm k n := by
  subst hq
  by_cases hc : v = .null
  · exact RunW.stp (fun p e below T m c t hA hx hb' q => XT.nullYes hA hx rfl rfl (hb hb' hd) rfl hc ho hp q) (yes hc)
  · exact RunW.stp (fun p e below T m c t hA hx hb' q => XT.nullNo hA hx rfl (hb hb' hd) rfl hv hc q) (no hc)
theorem RunW.ifnonnull {v : Value} {o : Int} {pa : Nat} (hd : decode code pc = .ok (.ifnonnull o, 3)) (hv : v.isRef = true) (ho : 0 ≤ (pc : Int) + o) (hp : ((pc : Int) + o).toNat = pc') (hq : pc + 3 = pa)
    (yes : ¬ v = .null → RunW l Z EL n0 own code maxL ret nm R Q pc' Ls st h vm k n) (no : v = .null → RunW l Z EL n0 own code maxL ret nm R Q pa Ls st h vm k n) : RunW l Z EL n0 own code maxL ret nm R Q pc Ls (v :: st) h vm k n := by
  subst hq
  by_cases hc : v = .null
  · exact RunW.stp (fun p e below T m c t hA hx hb' q => XT.nonnullNo hA hx rfl (hb hb' hd) rfl hc q) (no hc)
  · exact RunW.stp (fun p e below T m c t hA hx hb' q => XT.nonnullYes hA hx rfl rfl (hb hb' hd) rfl hv hc ho hp q) (yes hc)
theorem RunW.ldcI {a0 : Array Value} {i : Nat} {v : Int32} (hd : decode code pc = .ok (.ldc i, 2)) (w : (Cond.constant own i v).before a0 Z = true) (hp : pc + 2 = pc') (nxt : RunW l Z EL n0 own code maxL ret nm R Q pc' Ls (.int v :: st) h vm k n) : RunW l Z EL n0 own code maxL ret nm R Q pc Ls st h vm k n := by
  subst hp
  exact RunW.via (fun p e s m args below meth c T locs cells slots hC X eT => ⟨T, X, eT, fun t q => X.ldcI hC.1 hC.2.2.1 (mvT hC.2.1 w) rfl (hb hC.2.2.2.1 hd) q⟩) nxt
theorem RunW.ldcWI {a0 : Array Value} {i : Nat} {v : Int32} (hd : decode code pc = .ok (.ldc_w i, 3)) (w : (Cond.constant own i v).before a0 Z = true) (hp : pc + 3 = pc') (nxt : RunW l Z EL n0 own code maxL ret nm R Q pc' Ls (.int v :: st) h vm k n) : RunW l Z EL n0 own code maxL ret nm R Q pc Ls st h vm k n := by
  subst hp
  exact RunW.via (fun p e s m args below meth c T locs cells slots hC X eT => ⟨T, X, eT, fun t q => X.ldcWI hC.1 hC.2.2.1 (mvT hC.2.1 w) rfl (hb hC.2.2.2.1 hd) q⟩) nxt
theorem RunW.ldc2J {a0 : Array Value} {i : Nat} {v : Int64} (hd : decode code pc = .ok (.ldc2_w i, 3)) (w : (Cond.constantLong own i v).before a0 Z = true) (hp : pc + 3 = pc') (nxt : RunW l Z EL n0 own code maxL ret nm R Q pc' Ls (.long v :: st) h vm k n) : RunW l Z EL n0 own code maxL ret nm R Q pc Ls st h vm k n := by
  subst hp
  exact RunW.via (fun p e s m args below meth c T locs cells slots hC X eT => ⟨T, X, eT, fun t q => X.ldc2J hC.1 hC.2.2.1 (mvT hC.2.1 w) rfl (hb hC.2.2.2.1 hd) q⟩) nxt
theorem RunW.getS {a0 : Array Value} {R0 O f d host : String} {i : Nat} {v : Value} (hd : decode code pc = .ok (.getstatic i, 3)) (w : (Cond.fieldLink own i R0 f d).before a0 Z = true ∨ (Cond.fieldLinkNest own i R0 f d host).before a0 Z = true) (via : Via Z R0 O f d) (F : Sta Z h O f d v) (hp : pc + 3 = pc') (nxt : RunW l Z EL n0 own code maxL ret nm R Q pc' Ls (v :: st) h vm k n) : RunW l Z EL n0 own code maxL ret nm R Q pc Ls st h vm k n := by
  subst hp
  exact RunW.via (fun p e s m args below meth c T locs cells slots hC X eT => getS2 X hC.1 hC.2.1 hC.2.2.1 w via eT F (g := mkF m pc Ls st) rfl (hb hC.2.2.2.1 hd)) nxt
theorem RunW.getF {a0 : Array Value} {R0 O f d host : String} {i : Nat} {a : Addr} {v : Value} (hd : decode code pc = .ok (.getfield i, 3)) (w : (Cond.fieldLink own i R0 f d).before a0 Z = true ∨ (Cond.fieldLinkNest own i R0 f d host).before a0 Z = true) (via : Via Z R0 O f d) (F : Fld Z h a O f d v) (hp : pc + 3 = pc') (nxt : RunW l Z EL n0 own code maxL ret nm R Q pc' Ls (v :: st) h vm k n) : RunW l Z EL n0 own code maxL ret nm R Q pc Ls (.ref a :: st) h vm k n := by
  subst hp
  exact RunW.via (fun p e s m args below meth c T locs cells slots hC X eT => getF X hC.1 hC.2.1 hC.2.2.1 w via eT F (g := mkF m pc Ls (.ref a :: st)) rfl rfl (hb hC.2.2.2.1 hd)) nxt
theorem RunW.initO {a0 : Array Value} {i : Nat} {a : Addr} (hd : decode code pc = .ok (.invokespecial i, 3)) (w1 : (Cond.methodLink own i Lib.objectInit).before a0 Z = true) (w2 : (Cond.instanceMethod Lib.objectInit).before a0 Z = true) (w3 : (Cond.code Lib.objectInit ⟨#[0xb1]⟩ 1 none).before a0 Z = true)
    (hsz : Ls.size = maxL) (hf : 1 ≤ R.frames) (hl : (st.map fun v => v.category).sum + 12 ≤ R.locals) (hp : pc + 3 = pc') (nxt : RunW l Z EL n0 own code maxL ret nm R Q pc' Ls st h vm k n) : RunW l Z EL n0 own code maxL ret nm R Q pc Ls (.ref a :: st) h vm k n := by
  subst hp
  exact RunW.via (fun p e s m args below meth c T locs cells slots hC X eT => initO X hC.1 hC.2.1 hC.2.2.1 w1 w2 w3 eT (g := mkF m pc Ls (.ref a :: st)) rfl (hsz.trans hC.2.2.2.2.1.symm) rfl (hb hC.2.2.2.1 hd) hf (W := (st.map fun v => v.category).sum) (by show 2 * 0 + _ ≤ _; omega) hl) nxt
theorem RunW.castY {a0 : Array Value} {K : String} {i : Nat} {a : Addr} (hd : decode code pc = .ok (.checkcast i, 3)) (w : (Cond.classLink own i K).before a0 Z = true) (F : Ins Z h a K true) (hp : pc + 3 = pc') (nxt : RunW l Z EL n0 own code maxL ret nm R Q pc' Ls (.ref a :: st) h vm k n) : RunW l Z EL n0 own code maxL ret nm R Q pc Ls (.ref a :: st) h vm k n := by
  subst hp
  exact RunW.via (fun p e s m args below meth c T locs cells slots hC X eT => castY X hC.1 hC.2.1 hC.2.2.1 w eT F (g := mkF m pc Ls (.ref a :: st)) rfl rfl (hb hC.2.2.2.1 hd)) nxt
theorem RunW.castNull {i : Nat} (hd : decode code pc = .ok (.checkcast i, 3)) (hp : pc + 3 = pc') (nxt : RunW l Z EL n0 own code maxL ret nm R Q pc' Ls (.null :: st) h vm k n) : RunW l Z EL n0 own code maxL ret nm R Q pc Ls (.null :: st) h vm k n := by
  subst hp
  exact RunW.via (fun p e s m args below meth c T locs cells slots hC X eT => ⟨T, X, eT, fun t q => X.checkcastNull hC.1 (g := mkF m pc Ls (.null :: st)) rfl rfl (hb hC.2.2.2.1 hd) t q⟩) nxt
theorem RunW.instY {a0 : Array Value} {K : String} {i : Nat} {a : Addr} (hd : decode code pc = .ok (.instanceof i, 3)) (w : (Cond.classLink own i K).before a0 Z = true) (F : Ins Z h a K true) (hp : pc + 3 = pc') (nxt : RunW l Z EL n0 own code maxL ret nm R Q pc' Ls (.int 1 :: st) h vm k n) : RunW l Z EL n0 own code maxL ret nm R Q pc Ls (.ref a :: st) h vm k n := by
  subst hp
  exact RunW.via (fun p e s m args below meth c T locs cells slots hC X eT => instY X hC.1 hC.2.1 hC.2.2.1 w eT F (g := mkF m pc Ls (.ref a :: st)) rfl rfl (hb hC.2.2.2.1 hd)) nxt
theorem RunW.instNo {a0 : Array Value} {K C : String} {i : Nat} {a : Addr} (hd : decode code pc = .ok (.instanceof i, 3)) (w : (Cond.classLink own i K).before a0 Z = true) (E : Exa Z h a C) (F : ∃ c t, Z.vm.findClass C = some c ∧ Z.vm.findClass K = some t ∧ Z.vm.assignable c t = false) (hp : pc + 3 = pc') (nxt : RunW l Z EL n0 own code maxL ret nm R Q pc' Ls (.int 0 :: st) h vm k n) : RunW l Z EL n0 own code maxL ret nm R Q pc Ls (.ref a :: st) h vm k n := by
  subst hp
  exact RunW.via (fun p e s m args below meth c T locs cells slots hC X eT => instNo X hC.1 hC.2.1 hC.2.2.1 w eT E F (g := mkF m pc Ls (.ref a :: st)) rfl rfl (hb hC.2.2.2.1 hd)) nxt
theorem RunW.instNull {i : Nat} (hd : decode code pc = .ok (.instanceof i, 3)) (hp : pc + 3 = pc') (nxt : RunW l Z EL n0 own code maxL ret nm R Q pc' Ls (.int 0 :: st) h vm k n) : RunW l Z EL n0 own code maxL ret nm R Q pc Ls (.null :: st) h vm k n := by
  subst hp
  exact RunW.via (fun p e s m args below meth c T locs cells slots hC X eT => ⟨T, X, eT, fun t q => X.instanceofNull hC.1 (g := mkF m pc Ls (.null :: st)) rfl rfl (hb hC.2.2.2.1 hd) t q⟩) nxt
theorem RunW.alen {a : Addr} {ty : FieldType} {vs : List Value} {z : Int32} (hd : decode code pc = .ok (.arraylength, 1)) (A : Ary Z h a ty vs) (hz : vs.length.toInt32 = z) (hp : pc + 1 = pc') (nxt : RunW l Z EL n0 own code maxL ret nm R Q pc' Ls (.int z :: st) h vm k n) : RunW l Z EL n0 own code maxL ret nm R Q pc Ls (.ref a :: st) h vm k n := by
  subst hp hz
  obtain ⟨c0, A, r⟩ := A
  exact RunW.via (fun p e s m args below meth c T locs cells slots hC X eT => ⟨T, X, eT, fun t q => X.arraylength hC.1 (by rw [eT]; exact A.1) (State.isArrayOf_alike hC.2.1.alike A.2.1) (g := mkF m pc Ls (.ref a :: st)) rfl rfl (hb hC.2.2.2.1 hd) t (by rw [sizeOf r]; exact q)⟩) nxt
theorem RunW.iaload {a : Addr} {vs : List Value} {j : Int32} {i : Nat} {v : Value} (hd : decode code pc = .ok (.iaload, 1)) (A : Ary Z h a .int vs) (hj : j.toInt = (i : Int)) (hv : vs[i]? = some v) (hp : pc + 1 = pc') (nxt : RunW l Z EL n0 own code maxL ret nm R Q pc' Ls (v :: st) h vm k n) : RunW l Z EL n0 own code maxL ret nm R Q pc Ls (.int j :: .ref a :: st) h vm k n := by
  subst hp
  obtain ⟨c0, A, r⟩ := A
  obtain ⟨hin, e0⟩ := idxIn (c := c0) hj (by rw [sizeOf r]; exact (List.getElem?_eq_some_iff.mp hv).1)
  exact RunW.via (fun p e s m args below meth c T locs cells slots hC X eT => ⟨T, X, eT, fun t q => X.iaload hC.1 (by rw [eT]; exact A.1) (State.isArrayOf_alike hC.2.1.alike A.2.1) A.2.2 hin (by rw [e0]; exact getOf r hv) (g := mkF m pc Ls (.int j :: .ref a :: st)) rfl rfl (hb hC.2.2.2.1 hd) t q⟩) nxt
theorem RunW.laload {a : Addr} {vs : List Value} {j : Int32} {i : Nat} {v : Value} (hd : decode code pc = .ok (.laload, 1)) (A : Ary Z h a .long vs) (hj : j.toInt = (i : Int)) (hv : vs[i]? = some v) (hp : pc + 1 = pc') (nxt : RunW l Z EL n0 own code maxL ret nm R Q pc' Ls (v :: st) h vm k n) : RunW l Z EL n0 own code maxL ret nm R Q pc Ls (.int j :: .ref a :: st) h vm k n := by
  subst hp
  obtain ⟨c0, A, r⟩ := A
  obtain ⟨hin, e0⟩ := idxIn (c := c0) hj (by rw [sizeOf r]; exact (List.getElem?_eq_some_iff.mp hv).1)
  exact RunW.via (fun p e s m args below meth c T locs cells slots hC X eT => ⟨T, X, eT, fun t q => X.laload hC.1 (by rw [eT]; exact A.1) (State.isArrayOf_alike hC.2.1.alike A.2.1) A.2.2 hin (by rw [e0]; exact getOf r hv) (g := mkF m pc Ls (.int j :: .ref a :: st)) rfl rfl (hb hC.2.2.2.1 hd) t q⟩) nxt
theorem RunW.caload {a : Addr} {vs : List Value} {j : Int32} {i : Nat} {v : Value} (hd : decode code pc = .ok (.caload, 1)) (A : Ary Z h a .char vs) (hj : j.toInt = (i : Int)) (hv : vs[i]? = some v) (hp : pc + 1 = pc') (nxt : RunW l Z EL n0 own code maxL ret nm R Q pc' Ls (v :: st) h vm k n) : RunW l Z EL n0 own code maxL ret nm R Q pc Ls (.int j :: .ref a :: st) h vm k n := by
  subst hp
  obtain ⟨c0, A, r⟩ := A
  obtain ⟨hin, e0⟩ := idxIn (c := c0) hj (by rw [sizeOf r]; exact (List.getElem?_eq_some_iff.mp hv).1)
  exact RunW.via (fun p e s m args below meth c T locs cells slots hC X eT => ⟨T, X, eT, fun t q => X.caload hC.1 (by rw [eT]; exact A.1) (State.isArrayOf_alike hC.2.1.alike A.2.1) A.2.2 hin (by rw [e0]; exact getOf r hv) (g := mkF m pc Ls (.int j :: .ref a :: st)) rfl rfl (hb hC.2.2.2.1 hd) t q⟩) nxt
theorem RunW.saload {a : Addr} {vs : List Value} {j : Int32} {i : Nat} {v : Value} (hd : decode code pc = .ok (.saload, 1)) (A : Ary Z h a .short vs) (hj : j.toInt = (i : Int)) (hv : vs[i]? = some v) (hp : pc + 1 = pc') (nxt : RunW l Z EL n0 own code maxL ret nm R Q pc' Ls (v :: st) h vm k n) : RunW l Z EL n0 own code maxL ret nm R Q pc Ls (.int j :: .ref a :: st) h vm k n := by
  subst hp
  obtain ⟨c0, A, r⟩ := A
  obtain ⟨hin, e0⟩ := idxIn (c := c0) hj (by rw [sizeOf r]; exact (List.getElem?_eq_some_iff.mp hv).1)
  exact RunW.via (fun p e s m args below meth c T locs cells slots hC X eT => ⟨T, X, eT, fun t q => X.saload hC.1 (by rw [eT]; exact A.1) (State.isArrayOf_alike hC.2.1.alike A.2.1) A.2.2 hin (by rw [e0]; exact getOf r hv) (g := mkF m pc Ls (.int j :: .ref a :: st)) rfl rfl (hb hC.2.2.2.1 hd) t q⟩) nxt
theorem RunW.baload {a : Addr} {vs : List Value} {j : Int32} {i : Nat} {v : Value} (hd : decode code pc = .ok (.baload, 1)) (A : Ary Z h a .byte vs) (hj : j.toInt = (i : Int)) (hv : vs[i]? = some v) (hp : pc + 1 = pc') (nxt : RunW l Z EL n0 own code maxL ret nm R Q pc' Ls (v :: st) h vm k n) : RunW l Z EL n0 own code maxL ret nm R Q pc Ls (.int j :: .ref a :: st) h vm k n := by
  subst hp
  obtain ⟨c0, A, r⟩ := A
  obtain ⟨hin, e0⟩ := idxIn (c := c0) hj (by rw [sizeOf r]; exact (List.getElem?_eq_some_iff.mp hv).1)
  exact RunW.via (fun p e s m args below meth c T locs cells slots hC X eT => ⟨T, X, eT, fun t q => X.baloadBytes hC.1 (by rw [eT]; exact A.1) (State.isArrayOf_alike hC.2.1.alike A.2.1) A.2.2 hin (by rw [e0]; exact getOf r hv) (g := mkF m pc Ls (.int j :: .ref a :: st)) rfl rfl (hb hC.2.2.2.1 hd) t q⟩) nxt
theorem RunW.aaload {a : Addr} {vs : List Value} {j : Int32} {i : Nat} {v : Value} {ty : FieldType} (hd : decode code pc = .ok (.aaload, 1)) (A : Ary Z h a ty vs) (hty : ty.isReference = true) (hj : j.toInt = (i : Int)) (hv : vs[i]? = some v) (hp : pc + 1 = pc') (nxt : RunW l Z EL n0 own code maxL ret nm R Q pc' Ls (v :: st) h vm k n) : RunW l Z EL n0 own code maxL ret nm R Q pc Ls (.int j :: .ref a :: st) h vm k n := by
  subst hp
  obtain ⟨c0, A, r⟩ := A
  obtain ⟨hin, e0⟩ := idxIn (c := c0) hj (by rw [sizeOf r]; exact (List.getElem?_eq_some_iff.mp hv).1)
  exact RunW.via (fun p e s m args below meth c T locs cells slots hC X eT => ⟨T, X, eT, fun t q => X.aaload hC.1 (by rw [eT]; exact A.1) (State.isArrayOf_alike hC.2.1.alike A.2.1) hty A.2.2 hin (by rw [e0]; exact getOf r hv) (g := mkF m pc Ls (.int j :: .ref a :: st)) rfl rfl (hb hC.2.2.2.1 hd) t q⟩) nxt
theorem GoW.fin {p : Program} {e : Env} {s : State} {m : MethodId} {args : Array Value} {below : List Frame} {meth : Method} {c : Code} {T S : State} {locs : List Loc} {cells slots k0 : Nat} {v : Option Value} (X : Stand p l e R (s.setVm vm) m args below meth c T locs cells slots) (hZ : Z.Warmed39 (s.setVm vm).vm) (hS : s.Since vm k0) (hk0 : k0 ≤ h.size) (hR : CHr Z EL s.vm s.heap vm h) (hE : ∃ a0, EW Z a0 EL) (eT : T.heap = h) (hv : meth.sig.returnType = none → v = none) (hlk : meth.locks = false) (hF : Fr n0 locs) (hk : cells ≤ R.cells) (hn : slots ≤ R.slots) (hQ : Q v h)
    (f : ∀ fs, (∀ (f : JFrame) (acts : List Action), f.method = m → f.locked = none → f.entered = [] → (doReturn e (T.setTop f) acts v).1 = T.setFrames fs) → Steps p.tables e below S (T.setFrames fs)) : GoW p e below Z s EL n0 R.cells R.slots Q S := by
  subst eT
  obtain ⟨a0, hE⟩ := hE
  have hRq := hR.trans (CHv.at X hZ hE hR.1)
  obtain ⟨fs, hr, hrun, hended, hW⟩ := X.leaveW hS hk0 (v := v) hv hlk
  exact ⟨_, v, locs, f fs hr, hrun, hended, ⟨hQ, hF⟩, hRq, hW.1, hW.2.1, hW.2.2.1, hW.2.2.2.mono hk hn⟩
theorem RunW.ireturn {z : Int32} (hd : decode code pc = .ok (.ireturn, 1)) (hret : ret = some .int) (hk : k ≤ R.cells) (hn : n ≤ R.slots) (hQ : Q (some (.int z)) h) : RunW l Z EL n0 own code maxL ret nm R Q pc Ls (.int z :: st) h vm k n := by
  intro p e s m args below meth c T locs cells slots k0 hC X hS hk0 hR hE eT hF hk' hn'
  have hr := hC.2.2.2.2.2.1
  exact GoW.fin X hC.2.1 hS hk0 hR hE eT (fun q => by rw [hr, hret] at q; cases q) hC.2.2.2.2.2.2.1 hF (Nat.le_trans hk' hk) (Nat.le_trans hn' hn) hQ (fun fs hl => retOut X hC.1 (hr.trans hret) rfl (Or.inl ⟨rfl, Or.inl rfl, z, rfl⟩) (hb hC.2.2.2.1 hd) hl)
theorem RunW.nreturn {z : Int32} {ty : FieldType} (hd : decode code pc = .ok (.ireturn, 1)) (hret : ret = some ty) (ht : ty = .boolean ∨ ty = .byte ∨ ty = .char ∨ ty = .short) (hk : k ≤ R.cells) (hn : n ≤ R.slots) (hQ : Q (some (.int (nar ty z))) h) : RunW l Z EL n0 own code maxL ret nm R Q pc Ls (.int z :: st) h vm k n := by
  intro p e s m args below meth c T locs cells slots k0 hC X hS hk0 hR hE eT hF hk' hn'
  have hr := hC.2.2.2.2.2.1
  exact GoW.fin X hC.2.1 hS hk0 hR hE eT (fun q => by rw [hr, hret] at q; cases q) hC.2.2.2.2.2.2.1 hF (Nat.le_trans hk' hk) (Nat.le_trans hn' hn) hQ (fun fs hl => retN X hC.1 (hr.trans hret) ht (hb hC.2.2.2.1 hd) hl)
theorem RunW.lreturn {z : Int64} (hd : decode code pc = .ok (.lreturn, 1)) (hret : ret = some .long) (hk : k ≤ R.cells) (hn : n ≤ R.slots) (hQ : Q (some (.long z)) h) : RunW l Z EL n0 own code maxL ret nm R Q pc Ls (.long z :: st) h vm k n := by
  intro p e s m args below meth c T locs cells slots k0 hC X hS hk0 hR hE eT hF hk' hn'
  have hr := hC.2.2.2.2.2.1
  exact GoW.fin X hC.2.1 hS hk0 hR hE eT (fun q => by rw [hr, hret] at q; cases q) hC.2.2.2.2.2.2.1 hF (Nat.le_trans hk' hk) (Nat.le_trans hn' hn) hQ (fun fs hl => retOut X hC.1 (hr.trans hret) rfl (Or.inr (Or.inl ⟨rfl, rfl, z, rfl⟩)) (hb hC.2.2.2.1 hd) hl)
theorem RunW.areturn {w : Value} {ty : FieldType} (hd : decode code pc = .ok (.areturn, 1)) (hret : ret = some ty) (ht : ty.isReference = true) (hw : w.isRef = true) (hk : k ≤ R.cells) (hn : n ≤ R.slots) (hQ : Q (some w) h) : RunW l Z EL n0 own code maxL ret nm R Q pc Ls (w :: st) h vm k n := by
  intro p e s m args below meth c T locs cells slots k0 hC X hS hk0 hR hE eT hF hk' hn'
  have hr := hC.2.2.2.2.2.1
  exact GoW.fin X hC.2.1 hS hk0 hR hE eT (fun q => by rw [hr, hret] at q; cases q) hC.2.2.2.2.2.2.1 hF (Nat.le_trans hk' hk) (Nat.le_trans hn' hn) hQ (fun fs hl => retOut X hC.1 (hr.trans hret) (go_narref ht hw) (Or.inr (Or.inr (Or.inr (Or.inr ⟨rfl, ht, hw⟩)))) (hb hC.2.2.2.1 hd) hl)
theorem RunW.vreturn  (hd : decode code pc = .ok (.return_, 1)) (hret : ret = none) (hk : k ≤ R.cells) (hn : n ≤ R.slots) (hQ : Q none h) : RunW l Z EL n0 own code maxL ret nm R Q pc Ls [] h vm k n := by
  intro p e s m args below meth c T locs cells slots k0 hC X hS hk0 hR hE eT hF hk' hn'
  have hr := hC.2.2.2.2.2.1
  exact GoW.fin X hC.2.1 hS hk0 hR hE eT (fun _ => rfl) hC.2.2.2.2.2.2.1 hF (Nat.le_trans hk' hk) (Nat.le_trans hn' hn) hQ (fun fs hl => X.returnOut hC.1 (hr.trans hret) (hb hC.2.2.2.1 hd) hl)
theorem RunW.freturn {z : UInt32} (hd : decode code pc = .ok (.freturn, 1)) (hret : ret = some .float) (hk : k ≤ R.cells) (hn : n ≤ R.slots) (hQ : Q (some (.float z)) h) : RunW l Z EL n0 own code maxL ret nm R Q pc Ls (.float z :: st) h vm k n := by
  intro p e s m args below meth c T locs cells slots k0 hC X hS hk0 hR hE eT hF hk' hn'
  have hr := hC.2.2.2.2.2.1
  exact GoW.fin X hC.2.1 hS hk0 hR hE eT (fun q => by rw [hr, hret] at q; cases q) hC.2.2.2.2.2.2.1 hF (Nat.le_trans hk' hk) (Nat.le_trans hn' hn) hQ (fun fs hl => retOut X hC.1 (hr.trans hret) rfl (Or.inr (Or.inr (Or.inr (Or.inl ⟨rfl, rfl, z, rfl⟩)))) (hb hC.2.2.2.1 hd) hl)

theorem RunW.wr {a : Addr} {sl : Nat} {v : Value} {Ls' : Array Slot} {st' : List Value} (f : ∀ (p : Program) (e : Env) (s : State) (m : MethodId) (args : Array Value) (below : List Frame) (meth : Method) (c : Code) (T : State) (locs : List Loc) (cells slots : Nat),
      Ctx Z own code maxL ret nm p s m meth c → Stand p l e R s m args below meth c T locs cells slots → T.heap = h → ∃ T' h', Stand p l e R s m args below meth c T' (locs ++ [⟨a, sl⟩]) cells slots ∧ T'.heap = h' ∧ Wr h h' a sl v ∧ ∀ t, Steps p.tables e below (T'.setTop (mkF m pc' Ls' st')) t → Steps p.tables e below (T.setTop (mkF m pc Ls st)) t)
    (ha : n0 ≤ a) (sa : Safe Z EL vm h a) (nxt : ∀ h', Wr h h' a sl v → CHr Z EL vm h vm h' → RunW l Z EL n0 own code maxL ret nm R Q pc' Ls' st' h' vm k n) : RunW l Z EL n0 own code maxL ret nm R Q pc Ls st h vm k n := by
  intro p e s m args below meth c T locs cells slots k0 hC X hS hk0 hR hE eT hF hk hn
  obtain ⟨T', h', X', e', W, stp⟩ := f p e (s.setVm vm) m args below meth c T locs cells slots hC X eT
  have c1 := CHr.wr W sa hR.1
  obtain ⟨s₂, v', L, g1, g2⟩ := nxt h' W c1 p e s m args below meth c T' _ cells slots k0 hC X' hS (by rw [W.size]; exact hk0) (hR.trans c1) hE e' (Fr.snoc X' hF ha) hk hn
  exact ⟨s₂, v', L, stp _ g1, g2⟩
theorem RunW.newO {a0 : Array Value} {C : String} {i sl : Nat} (hd : decode code pc = .ok (.new i, 3)) (w : (Cond.classLink own i C).before a0 Z = true) (wi : (Cond.instantiable C sl).before a0 Z = true) (wz : (Cond.initialized C).before a0 Z = true)
    (hk : k + 1 ≤ k') (hk' : k' ≤ R.cells) (hn : n + sl ≤ n') (hn' : n' ≤ R.slots) (hp : pc + 3 = pc')
    (nxt : ∀ h' a, a = h.size → Ext h h' → Exa Z h' a C → (∀ {O f d : String} {ty : FieldType}, Laid Z a0 C O f d → parseFieldDescriptor d = some ty → Fld Z h' a O f d (defaultValue ty)) → CHr Z EL vm h vm h' → Safe Z EL vm h' a → RunW l Z EL n0 own code maxL ret nm R Q pc' Ls (.ref a :: st) h' vm k' n') : RunW l Z EL n0 own code maxL ret nm R Q pc Ls st h vm k n := by
  subst hp
  intro p e s m args below meth c T locs cells slots k0 hC X hS hk0 hR hE eT hF hkk hnn
  obtain ⟨T', h', X', e', E, A, D, -, stp⟩ := newO X hC.1 hC.2.1 hC.2.2.1 w wi wz eT (g := mkF m pc Ls st) rfl (hb hC.2.2.2.1 hd) (by omega) (by omega)
  have c1 := CHr.ext E hR.1
  obtain ⟨s₂, v, L, g1, g2⟩ := nxt h' h.size rfl E A D c1 (Safe.ext E hR.1 (Safe.new (Nat.le_refl _))) p e s m args below meth c T' locs _ _ k0 hC X' hS (Nat.le_trans hk0 E.1) (hR.trans c1) hE e' hF (by omega) (by omega)
  exact ⟨s₂, v, L, stp _ g1, g2⟩
theorem RunW.newP {a0 : Array Value} {aty : ArrayType} {ty : FieldType} {z : Int32} {cap m : Nat} {dv : Value} (hd : decode code pc = .ok (.newarray aty, 2)) (hty : newarray.typeOf aty = ty) (w : (Cond.arrayClass ty).before a0 Z = true) (hz : ¬ z < 0) (hcap : z.toNatClampNeg = m) (hm : m ≤ cap) (hdv : defaultValue ty = dv) (hcb : cap * 8 ≤ 536870912)
    (hk : k + 1 ≤ k') (hk' : k' ≤ R.cells) (hn : n + cap ≤ n') (hn' : n' ≤ R.slots) (hp : pc + 2 = pc')
    (nxt : ∀ h' a, a = h.size → Ext h h' → Ary Z h' a ty (List.replicate m dv) → CHr Z EL vm h vm h' → Safe Z EL vm h' a → RunW l Z EL n0 own code maxL ret nm R Q pc' Ls (.ref a :: st) h' vm k' n') : RunW l Z EL n0 own code maxL ret nm R Q pc Ls (.int z :: st) h vm k n := by
  subst hp hty hdv
  intro p e s m' args below meth c T locs cells slots k0 hC X hS hk0 hR hE eT hF hkk hnn
  obtain ⟨T', h', cA, X', e', E, A, stp⟩ := newP X hC.1 hC.2.1 w eT (g := mkF m' pc Ls (.int z :: st)) rfl (hb hC.2.2.2.1 hd) rfl hz (by omega) hcb (by omega) (by omega)
  have c1 := CHr.ext E hR.1
  obtain ⟨s₂, v, L, g1, g2⟩ := nxt h' h.size rfl E ⟨_, A, by simp [newA, hcap]⟩ c1 (Safe.ext E hR.1 (Safe.new (Nat.le_refl _))) p e s m' args below meth c T' locs _ _ k0 hC X' hS (Nat.le_trans hk0 E.1) (hR.trans c1) hE e' hF (by omega) (by omega)
  exact ⟨s₂, v, L, stp _ g1, g2⟩
theorem RunW.putF {a0 : Array Value} {R0 O f d host C : String} {i sl : Nat} {ty : FieldType} {a : Addr} {v old : Value} (hd : decode code pc = .ok (.putfield i, 3)) (w : (Cond.fieldLink own i R0 f d).before a0 Z = true ∨ (Cond.fieldLinkNest own i R0 f d host).before a0 Z = true) (via : Via Z R0 O f d) (F : Fld Z h a O f d old) (E : Exa Z h a C)
    (L : (Cond.lays C O f d).before a0 Z = true ∨ ((Cond.laysFinal C O f d).before a0 Z = true ∧ own = O ∧ nm = "<init>")) (wi : (Cond.instantiable C sl).before a0 Z = true) (hty : parseFieldDescriptor d = some ty) (hnv : narrow ty v = v) (hfv : fits ty v = true) (ha : n0 ≤ a) (sa : Safe Z EL vm h a) (hp : pc + 3 = pc')
    (nxt : ∀ h', Wr h h' a (Jvm.RoadKit.slotOf Z O f d) v → CHr Z EL vm h vm h' → RunW l Z EL n0 own code maxL ret nm R Q pc' Ls st h' vm k n) : RunW l Z EL n0 own code maxL ret nm R Q pc Ls (v :: .ref a :: st) h vm k n := by
  subst hp
  exact RunW.wr (fun p e s m args below meth c T locs cells slots hC X eT => putF X hC.1 hC.2.1 hC.2.2.1 w via eT F E (L.imp id fun q => ⟨q.1, q.2.1, hC.2.2.2.2.2.2.2.trans q.2.2⟩) wi hty hnv hfv (g := mkF m pc Ls (v :: .ref a :: st)) rfl rfl (hb hC.2.2.2.1 hd)) ha sa nxt
theorem RunW.putFN {a0 : Array Value} {R0 O f d C : String} {i sl : Nat} {ty : FieldType} {a : Addr} {v v' old : Value} (hd : decode code pc = .ok (.putfield i, 3)) (w : (Cond.fieldLink own i R0 f d).before a0 Z = true) (via : Via Z R0 O f d) (F : Fld Z h a O f d old) (E : Exa Z h a C)
    (L : (Cond.lays C O f d).before a0 Z = true ∨ ((Cond.laysFinal C O f d).before a0 Z = true ∧ own = O ∧ nm = "<init>")) (wi : (Cond.instantiable C sl).before a0 Z = true) (hty : parseFieldDescriptor d = some ty) (hnv : narrow ty v = v') (hfv : fits ty v' = true) (ha : n0 ≤ a) (sa : Safe Z EL vm h a) (hp : pc + 3 = pc')
    (nxt : ∀ h', Wr h h' a (Jvm.RoadKit.slotOf Z O f d) v' → CHr Z EL vm h vm h' → RunW l Z EL n0 own code maxL ret nm R Q pc' Ls st h' vm k n) : RunW l Z EL n0 own code maxL ret nm R Q pc Ls (v :: .ref a :: st) h vm k n := by
  subst hp
  exact RunW.wr (fun p e s m args below meth c T locs cells slots hC X eT => putFN X hC.1 hC.2.1 hC.2.2.1 w via eT F E (L.imp id fun q => ⟨q.1, q.2.1, hC.2.2.2.2.2.2.2.trans q.2.2⟩) wi hty hnv hfv (g := mkF m pc Ls (v :: .ref a :: st)) rfl rfl (hb hC.2.2.2.1 hd)) ha sa nxt
theorem RunW.iastore {a : Addr} {vs : List Value} {j : Int32} {i : Nat} {x : Int32} (hd : decode code pc = .ok (.iastore, 1)) (A : Ary Z h a .int vs) (hj : j.toInt = (i : Int)) (hi : i < vs.length) (ha : n0 ≤ a) (sa : Safe Z EL vm h a) (hp : pc + 1 = pc') (nxt : ∀ h', Wr h h' a i (.int x) → CHr Z EL vm h vm h' → Ary Z h' a .int (vs.set i (.int x)) → RunW l Z EL n0 own code maxL ret nm R Q pc' Ls st h' vm k n) : RunW l Z EL n0 own code maxL ret nm R Q pc Ls (.int x :: .int j :: .ref a :: st) h vm k n := by
  subst hp
  have A' := A
  obtain ⟨c0, A, r⟩ := A
  obtain ⟨hin, e0⟩ := idxIn (c := c0) hj (by rw [sizeOf r]; exact hi)
  refine RunW.wr (fun p e s m args below meth c T locs cells slots hC X eT => ?_) ha sa (fun h' W c1 => nxt h' W c1 (A'.set W))
  have q := stI X hC.1 hC.2.1 eT A hin (g := mkF m pc Ls (.int x :: .int j :: .ref a :: st)) rfl rfl (hb hC.2.2.2.1 hd)
  rw [e0] at q
  exact q
theorem RunW.lastore {a : Addr} {vs : List Value} {j : Int32} {i : Nat} {x : Int64} (hd : decode code pc = .ok (.lastore, 1)) (A : Ary Z h a .long vs) (hj : j.toInt = (i : Int)) (hi : i < vs.length) (ha : n0 ≤ a) (sa : Safe Z EL vm h a) (hp : pc + 1 = pc') (nxt : ∀ h', Wr h h' a i (.long x) → CHr Z EL vm h vm h' → Ary Z h' a .long (vs.set i (.long x)) → RunW l Z EL n0 own code maxL ret nm R Q pc' Ls st h' vm k n) : RunW l Z EL n0 own code maxL ret nm R Q pc Ls (.long x :: .int j :: .ref a :: st) h vm k n := by
  subst hp
  have A' := A
  obtain ⟨c0, A, r⟩ := A
  obtain ⟨hin, e0⟩ := idxIn (c := c0) hj (by rw [sizeOf r]; exact hi)
  refine RunW.wr (fun p e s m args below meth c T locs cells slots hC X eT => ?_) ha sa (fun h' W c1 => nxt h' W c1 (A'.set W))
  have q := stJ X hC.1 hC.2.1 eT A hin (g := mkF m pc Ls (.long x :: .int j :: .ref a :: st)) rfl rfl (hb hC.2.2.2.1 hd)
  rw [e0] at q
  exact q
theorem RunW.castore {a : Addr} {vs : List Value} {j : Int32} {i : Nat} {x : Int32} (hd : decode code pc = .ok (.castore, 1)) (A : Ary Z h a .char vs) (hj : j.toInt = (i : Int)) (hi : i < vs.length) (ha : n0 ≤ a) (sa : Safe Z EL vm h a) (hp : pc + 1 = pc') (nxt : ∀ h', Wr h h' a i (.int (nar .char x)) → CHr Z EL vm h vm h' → Ary Z h' a .char (vs.set i (.int (nar .char x))) → RunW l Z EL n0 own code maxL ret nm R Q pc' Ls st h' vm k n) : RunW l Z EL n0 own code maxL ret nm R Q pc Ls (.int x :: .int j :: .ref a :: st) h vm k n := by
  subst hp
  have A' := A
  obtain ⟨c0, A, r⟩ := A
  obtain ⟨hin, e0⟩ := idxIn (c := c0) hj (by rw [sizeOf r]; exact hi)
  refine RunW.wr (fun p e s m args below meth c T locs cells slots hC X eT => ?_) ha sa (fun h' W c1 => nxt h' W c1 (A'.set W))
  have q := stC X hC.1 hC.2.1 eT A hin (g := mkF m pc Ls (.int x :: .int j :: .ref a :: st)) rfl rfl (hb hC.2.2.2.1 hd)
  rw [e0] at q
  exact q
theorem RunW.sastore {a : Addr} {vs : List Value} {j : Int32} {i : Nat} {x : Int32} (hd : decode code pc = .ok (.sastore, 1)) (A : Ary Z h a .short vs) (hj : j.toInt = (i : Int)) (hi : i < vs.length) (ha : n0 ≤ a) (sa : Safe Z EL vm h a) (hp : pc + 1 = pc') (nxt : ∀ h', Wr h h' a i (.int (nar .short x)) → CHr Z EL vm h vm h' → Ary Z h' a .short (vs.set i (.int (nar .short x))) → RunW l Z EL n0 own code maxL ret nm R Q pc' Ls st h' vm k n) : RunW l Z EL n0 own code maxL ret nm R Q pc Ls (.int x :: .int j :: .ref a :: st) h vm k n := by
  subst hp
  have A' := A
  obtain ⟨c0, A, r⟩ := A
  obtain ⟨hin, e0⟩ := idxIn (c := c0) hj (by rw [sizeOf r]; exact hi)
  refine RunW.wr (fun p e s m args below meth c T locs cells slots hC X eT => ?_) ha sa (fun h' W c1 => nxt h' W c1 (A'.set W))
  have q := stS X hC.1 hC.2.1 eT A hin (g := mkF m pc Ls (.int x :: .int j :: .ref a :: st)) rfl rfl (hb hC.2.2.2.1 hd)
  rw [e0] at q
  exact q
theorem RunW.bastore {a : Addr} {vs : List Value} {j : Int32} {i : Nat} {x : Int32} (hd : decode code pc = .ok (.bastore, 1)) (A : Ary Z h a .byte vs) (hj : j.toInt = (i : Int)) (hi : i < vs.length) (ha : n0 ≤ a) (sa : Safe Z EL vm h a) (hp : pc + 1 = pc') (nxt : ∀ h', Wr h h' a i (.int (nar .byte x)) → CHr Z EL vm h vm h' → Ary Z h' a .byte (vs.set i (.int (nar .byte x))) → RunW l Z EL n0 own code maxL ret nm R Q pc' Ls st h' vm k n) : RunW l Z EL n0 own code maxL ret nm R Q pc Ls (.int x :: .int j :: .ref a :: st) h vm k n := by
  subst hp
  have A' := A
  obtain ⟨c0, A, r⟩ := A
  obtain ⟨hin, e0⟩ := idxIn (c := c0) hj (by rw [sizeOf r]; exact hi)
  refine RunW.wr (fun p e s m args below meth c T locs cells slots hC X eT => ?_) ha sa (fun h' W c1 => nxt h' W c1 (A'.set W))
  have q := stB X hC.1 hC.2.1 eT A hin (g := mkF m pc Ls (.int x :: .int j :: .ref a :: st)) rfl rfl (hb hC.2.2.2.1 hd)
  rw [e0] at q
  exact q
theorem backW {p : Program} {e : Env} {s : State} {args : Array Value} {below : List Frame} {a0 a1 : Array Value} {y : MethodName} {bytes : ByteArray} {mL : Nat} {rt : Option FieldType} {rm : Room} {len W : Nat} {as' : Array Value} {sf : List Addr} {Q : Option Value → Heap → List Loc → Prop}
    (hM : MetFree l y (head1 [Cond.code y bytes mL rt] rm) (fun a U => a = as' ∧ Z.Warmed39 U.vm ∧ U.heap = h ∧ CHv Z EL U.vm h ∧ ∀ x ∈ sf, Safe Z EL U.vm h x) (fun _ _ _ _ _ => True) (fun _ U o U' => ∃ v L, o = .returned v ∧ Q v U'.heap L ∧ CHr Z EL U.vm U.heap U'.vm U'.heap ∧ ReturnedEndW U o U' L rm.cells rm.slots))
    (hZ : Z.Warmed39 (s.setVm vm).vm) (wc : (Cond.code y bytes mL rt).before a0 Z = true) (wz : (Cond.initialized y.cls).before a0 Z = true) (hf : rm.frames + 1 ≤ R.frames) (hl : W + (mL + 11) + rm.locals ≤ R.locals) (hEL : EW Z a1 EL) (H : CHv Z EL vm h) (hsf : ∀ x ∈ sf, Safe Z EL vm h x) :
    BackS l R p e below (s.setVm vm) args y len W (fun A a => a = as' ∧ A.U.heap = h ∧ A.cells + rm.cells ≤ R.cells ∧ A.slots + rm.slots ≤ R.slots)
      (fun A _ v B => ∃ L, Q v B.U.heap L ∧ B.locs = A.locs ++ L ∧ B.cells = A.cells + rm.cells ∧ B.slots = A.slots + rm.slots ∧ CHr Z EL vm h B.U.vm B.U.heap) := by
  refine BackS.of_freeW (bytes := bytes) (maxL := mL) (ret := rt) (E := fun _ first o t L k n => k = rm.cells ∧ n = rm.slots ∧ (∃ v, o = .returned v ∧ Q v t.heap L) ∧ CHr Z EL first.vm first.heap t.vm t.heap) hM hf hl ?_ ?_ (fun _ _ _ _ _ _ _ _ _ => trivial) (fun _ _ _ _ ⟨v, L, h1, h2, h3, h4⟩ => ⟨L, _, _, h4, rfl, rfl, ⟨v, h1, h2⟩, h3⟩) ?_
  · intro m meth c A a Y hp
    have hU : Z.Warmed39 A.U.vm := wtrans (s := s.setVm vm) hZ Y.warmed
    exact ⟨by show (Cond.and _ .tt).before a A.U = true; rw [Cond.before_and, mv hU wc]; rfl, mv hU wc, mv hU wz, hp.2.2.1, hp.2.2.2⟩
  · intro m meth c A a g mk Y hp
    have c1 := CHv.at Y hZ hEL H
    refine ⟨hp.1, wtrans (s := s.setVm vm) hZ Y.warmed, hp.2.1, c1.1, fun x hx => ?_⟩
    exact fun B => by
      rcases c1.2.2 x B with q | q
      · exact hsf x hx q
      · obtain ⟨cell, q2⟩ := B.there
        exact absurd (Array.getElem?_eq_some_iff.mp q2).1 (Nat.not_lt.mpr q)
  · intro m meth c A a g mk v t L k n Y hp _ _ hq
    obtain ⟨e1, e2, ⟨v', e3, e4⟩, e5⟩ := hq
    cases e3; subst e1 e2
    refine ⟨L, e4, rfl, rfl, rfl, (CHv.at Y hZ hEL H).trans ?_⟩
    rw [← hp.2.1]; exact e5
theorem RunW.callS {a0 : Array Value} {y : MethodName} {bytes : ByteArray} {mL : Nat} {rt : Option FieldType} {rm : Room} {as rest : List Value} {Qy : Option Value → Heap → Prop} {i : Nat} {ps : List FieldType} {rr : Option FieldType}
    (hC : Con l Z n0 y bytes mL rt rm as.toArray h Qy) (hs : ∀ v h', Qy v h' → ∃ ws, Keep h h' ws ∧ ∀ x ∈ ws, Safe Z EL vm h x) (hd : decode code pc = .ok (.invokestatic i, 3)) (w1 : (Cond.methodLink own i y).before a0 Z = true) (w2 : (Cond.static y).before a0 Z = true) (w3 : (Cond.initialized y.cls).before a0 Z = true) (w4 : (Cond.code y bytes mL rt).before a0 Z = true)
    (hy : y.cls ≠ "java/lang/invoke/MethodHandle" ∧ y.cls ≠ "java/lang/invoke/VarHandle") (hds : parseMethodDescriptor y.desc = some ⟨ps, rr⟩) (hl : as.length = ps.length) (hst : st = as.reverse ++ rest) (hsz : Ls.size = maxL)
    (hf : rm.frames + 1 ≤ R.frames) (hlo : (rest.map fun v => v.category).sum + (mL + 11) + rm.locals ≤ R.locals) (hk : k + rm.cells ≤ k') (hk' : k' ≤ R.cells) (hn : n + rm.slots ≤ n') (hn' : n' ≤ R.slots) (hp : pc + 3 = pc')
    (nxt : ∀ v h', Qy v h' → CHr Z EL vm h vm h' → RunW l Z EL n0 own code maxL ret nm R Q pc' Ls (v.toList ++ rest) h' vm k' n') : RunW l Z EL n0 own code maxL ret nm R Q pc Ls st h vm k n := by
  subst hp hst
  intro p e s m args below meth c T locs cells slots k0 hX X hS hk0 hR hE eT hF hc hss
  obtain ⟨hx, hZ, hown, hby, hml, -⟩ := id hX
  obtain ⟨v, vm₁, ⟨B, L', cc, ss⟩, -, X', ⟨Lc, hQ, l1, y1, z1⟩, stp⟩ := Jvm.LawKit.callS X hx (y := y) hown (mvT hZ w1) (mvT hZ w2) (mvT hZ w3) (mvT hZ w4) hy (backOf (W := (rest.map fun v => v.category).sum) (Q := fun v h L => Qy v h ∧ Fr n0 L) (hC []) hZ w4 w3 hf hlo) (g := mkF m pc Ls (as.reverse ++ rest)) rfl (hsz.trans hml.symm) (argsL := as) (rest := rest) (lenOf hds hl) rfl (by show 2 * 0 + _ ≤ _; omega) (hb hby hd) (fun _ _ => ⟨rfl, eT, (by show cells + rm.cells ≤ R.cells; omega), (by show slots + rm.slots ≤ R.slots; omega)⟩)
  dsimp only [Pt.U, Pt.locs, Pt.cells, Pt.slots] at X' l1 y1 z1 stp hQ
  subst l1 y1 z1
  obtain ⟨ws, K, hsw⟩ := hs v _ hQ.1
  have c1 := CHr.keep K hsw hR.1
  obtain ⟨s₂, v', L, g1, g2⟩ := nxt v _ hQ.1 c1 p e s m args below meth c B _ _ _ k0 hX X' hS (Nat.le_trans hk0 K.1) (hR.trans c1) hE rfl (Fr.app hF hQ.2) (by omega) (by omega)
  exact ⟨s₂, v', L, stp _ g1, g2⟩
theorem RunW.callSW {a0 a1 : Array Value} {sf : List Addr} {y : MethodName} {bytes : ByteArray} {mL : Nat} {rt : Option FieldType} {rm : Room} {as rest : List Value} {Qy : Option Value → Heap → Prop} {i : Nat} {ps : List FieldType} {rr : Option FieldType}
    (hC : ConW l Z EL n0 y bytes mL rt rm as.toArray h sf Qy) (hsf : ∀ x ∈ sf, Safe Z EL vm h x) (hEL : EW Z a1 EL) (hd : decode code pc = .ok (.invokestatic i, 3)) (w1 : (Cond.methodLink own i y).before a0 Z = true) (w2 : (Cond.static y).before a0 Z = true) (w3 : (Cond.initialized y.cls).before a0 Z = true) (w4 : (Cond.code y bytes mL rt).before a0 Z = true)
    (hy : y.cls ≠ "java/lang/invoke/MethodHandle" ∧ y.cls ≠ "java/lang/invoke/VarHandle") (hds : parseMethodDescriptor y.desc = some ⟨ps, rr⟩) (hl : as.length = ps.length) (hst : st = as.reverse ++ rest) (hsz : Ls.size = maxL)
    (hf : rm.frames + 1 ≤ R.frames) (hlo : (rest.map fun v => v.category).sum + (mL + 11) + rm.locals ≤ R.locals) (hk : k + rm.cells ≤ k') (hk' : k' ≤ R.cells) (hn : n + rm.slots ≤ n') (hn' : n' ≤ R.slots) (hp : pc + 3 = pc')
    (nxt : ∀ v h' vm', Qy v h' → CHr Z EL vm h vm' h' → RunW l Z EL n0 own code maxL ret nm R Q pc' Ls (v.toList ++ rest) h' vm' k' n') : RunW l Z EL n0 own code maxL ret nm R Q pc Ls st h vm k n := by
  subst hp hst
  intro p e s m args below meth c T locs cells slots k0 hX X hS hk0 hR hE eT hF hc hss
  obtain ⟨hx, hZ, hown, hby, hml, hrt, hlk, hnm⟩ := id hX
  obtain ⟨v, vm₁, ⟨B, L', cc, ss⟩, -, X', hS2, hgr, ⟨Lc, hQ, l1, y1, z1, c1⟩, stp⟩ := callSS X hx (y := y) hown (mvT hZ w1) (mvT hZ w2) (mvT hZ w3) (mvT hZ w4) hy (backW (W := (rest.map fun v => v.category).sum) (Q := fun v h L => Qy v h ∧ Fr n0 L) (hC []) hZ w4 w3 hf hlo hEL hR.1 hsf) (g := mkF m pc Ls (as.reverse ++ rest)) rfl (hsz.trans hml.symm) (argsL := as) (rest := rest) (lenOf hds hl) rfl (by show 2 * 0 + _ ≤ _; omega) (hb hby hd) (fun _ _ => ⟨rfl, eT, (by show cells + rm.cells ≤ R.cells; omega), (by show slots + rm.slots ≤ R.slots; omega)⟩)
  dsimp only [Pt.U, Pt.locs, Pt.cells, Pt.slots] at X' hS2 hgr l1 y1 z1 stp hQ c1
  subst l1 y1 z1
  have hZ2 : Z.Warmed39 B.vm := State.Warmed39.trans (t := s.setVm vm) hZ hS2.1
  obtain ⟨s₂, v', L, g1, g2⟩ := nxt v _ B.vm hQ.1 c1 p e s m args below meth c B _ _ _ B.heap.size ⟨hx, hZ2, (by rw [show (s.setVm B.vm).vm = B.vm from rfl, hS2.1.alike.findClass]; exact hown), hby, hml, hrt, hlk, hnm⟩ X' (hS.trans hS2 (by rw [← eT] at hk0; omega)) (Nat.le_refl _) (hR.trans c1) hE rfl (Fr.app hF hQ.2) (by omega) (by omega)
  exact ⟨s₂, v', L, stp.trans g1, g2⟩
theorem RunW.callV {a0 : Array Value} {C : String} {y z : MethodName} {bytes : ByteArray} {mL : Nat} {rt : Option FieldType} {rm : Room} {a : Addr} {as rest : List Value} {Qy : Option Value → Heap → Prop} {i : Nat} {ps : List FieldType} {rr : Option FieldType}
    (hC : Con l Z n0 z bytes mL rt rm (.ref a :: as).toArray h Qy) (hs : ∀ v h', Qy v h' → ∃ ws, Keep h h' ws ∧ ∀ x ∈ ws, Safe Z EL vm h x) (hX0 : Exa Z h a C) (hd : decode code pc = .ok (.invokevirtual i, 3)) (w1 : (Cond.methodLink own i y).before a0 Z = true) (w2 : (Cond.declares y).before a0 Z = true) (nf : ∀ (s : State), Z.Warmed39 s.vm → NotFace s y) (w3 : (Cond.selects C y z).before a0 Z = true) (w4 : (Cond.instanceMethod z).before a0 Z = true) (w5 : (Cond.initialized z.cls).before a0 Z = true) (w6 : (Cond.code z bytes mL rt).before a0 Z = true)
    (hy : y.cls ≠ "java/lang/invoke/MethodHandle" ∧ y.cls ≠ "java/lang/invoke/VarHandle") (hds : parseMethodDescriptor y.desc = some ⟨ps, rr⟩) (hl : as.length = ps.length) (hst : st = as.reverse ++ .ref a :: rest) (hsz : Ls.size = maxL)
    (hf : rm.frames + 1 ≤ R.frames) (hlo : (rest.map fun v => v.category).sum + (mL + 11) + rm.locals ≤ R.locals) (hk : k + rm.cells ≤ k') (hk' : k' ≤ R.cells) (hn : n + rm.slots ≤ n') (hn' : n' ≤ R.slots) (hp : pc + 3 = pc')
    (nxt : ∀ v h', Qy v h' → CHr Z EL vm h vm h' → RunW l Z EL n0 own code maxL ret nm R Q pc' Ls (v.toList ++ rest) h' vm k' n') : RunW l Z EL n0 own code maxL ret nm R Q pc Ls st h vm k n := by
  subst hp hst
  intro p e s m args below meth c T locs cells slots k0 hX X hS hk0 hR hE eT hF hc hss
  obtain ⟨hx, hZ, hown, hby, hml, -⟩ := id hX
  obtain ⟨cq, kq, qa, qb, qc⟩ := isOf hZ eT hX0
  obtain ⟨v, vm₁, ⟨B, L', cc, ss⟩, -, X', ⟨Lc, hQ, l1, y1, z1⟩, stp⟩ := X.virtualBack hx (y := y) (z := z) hown (mvT hZ w1) (mvT hZ w2) (nf (s.setVm vm) hZ) (mvT hZ w3) (mvT hZ w4) hy (backOf (W := (rest.map fun v => v.category).sum) (Q := fun v h L => Qy v h ∧ Fr n0 L) (hC []) hZ w6 w5 hf hlo) qa qc (g := mkF m pc Ls (as.reverse ++ .ref a :: rest)) rfl (hsz.trans hml.symm) (Steps.refl _) (argsL := as) (rest := rest) (lenOf hds hl) rfl (by show 2 * 0 + _ ≤ _; omega) (hb hby hd) (fun _ _ => ⟨rfl, eT, (by show cells + rm.cells ≤ R.cells; omega), (by show slots + rm.slots ≤ R.slots; omega)⟩)
  dsimp only [Pt.U, Pt.locs, Pt.cells, Pt.slots] at X' l1 y1 z1 stp hQ
  subst l1 y1 z1
  obtain ⟨ws, K, hsw⟩ := hs v _ hQ.1
  have c1 := CHr.keep K hsw hR.1
  obtain ⟨s₂, v', L, g1, g2⟩ := nxt v _ hQ.1 c1 p e s m args below meth c B _ _ _ k0 hX X' hS (Nat.le_trans hk0 K.1) (hR.trans c1) hE rfl (Fr.app hF hQ.2) (by omega) (by omega)
  exact ⟨s₂, v', L, stp.trans g1, g2⟩
theorem RunW.callVW {a0 a1 : Array Value} {sf : List Addr} {C : String} {y z : MethodName} {bytes : ByteArray} {mL : Nat} {rt : Option FieldType} {rm : Room} {a : Addr} {as rest : List Value} {Qy : Option Value → Heap → Prop} {i : Nat} {ps : List FieldType} {rr : Option FieldType}
    (hC : ConW l Z EL n0 z bytes mL rt rm (.ref a :: as).toArray h sf Qy) (hsf : ∀ x ∈ sf, Safe Z EL vm h x) (hEL : EW Z a1 EL) (hX0 : Exa Z h a C) (hd : decode code pc = .ok (.invokevirtual i, 3)) (w1 : (Cond.methodLink own i y).before a0 Z = true) (w2 : (Cond.declares y).before a0 Z = true) (nf : ∀ (s : State), Z.Warmed39 s.vm → NotFace s y) (w3 : (Cond.selects C y z).before a0 Z = true) (w4 : (Cond.instanceMethod z).before a0 Z = true) (w5 : (Cond.initialized z.cls).before a0 Z = true) (w6 : (Cond.code z bytes mL rt).before a0 Z = true)
    (hy : y.cls ≠ "java/lang/invoke/MethodHandle" ∧ y.cls ≠ "java/lang/invoke/VarHandle") (hds : parseMethodDescriptor y.desc = some ⟨ps, rr⟩) (hl : as.length = ps.length) (hst : st = as.reverse ++ .ref a :: rest) (hsz : Ls.size = maxL)
    (hf : rm.frames + 1 ≤ R.frames) (hlo : (rest.map fun v => v.category).sum + (mL + 11) + rm.locals ≤ R.locals) (hk : k + rm.cells ≤ k') (hk' : k' ≤ R.cells) (hn : n + rm.slots ≤ n') (hn' : n' ≤ R.slots) (hp : pc + 3 = pc')
    (nxt : ∀ v h' vm', Qy v h' → CHr Z EL vm h vm' h' → RunW l Z EL n0 own code maxL ret nm R Q pc' Ls (v.toList ++ rest) h' vm' k' n') : RunW l Z EL n0 own code maxL ret nm R Q pc Ls st h vm k n := by
  subst hp hst
  intro p e s m args below meth c T locs cells slots k0 hX X hS hk0 hR hE eT hF hc hss
  obtain ⟨hx, hZ, hown, hby, hml, hrt, hlk, hnm⟩ := id hX
  obtain ⟨cq, kq, qa, qb, qc⟩ := isOf hZ eT hX0
  obtain ⟨v, vm₁, ⟨B, L', cc, ss⟩, -, X', hS2, hgr, ⟨Lc, hQ, l1, y1, z1, c1⟩, stp⟩ := X.virtualBackS hx (y := y) (z := z) hown (mvT hZ w1) (mvT hZ w2) (nf (s.setVm vm) hZ) (mvT hZ w3) (mvT hZ w4) hy (backW (W := (rest.map fun v => v.category).sum) (Q := fun v h L => Qy v h ∧ Fr n0 L) (hC []) hZ w6 w5 hf hlo hEL hR.1 hsf) qa qc (g := mkF m pc Ls (as.reverse ++ .ref a :: rest)) rfl (hsz.trans hml.symm) (Steps.refl _) (argsL := as) (rest := rest) (lenOf hds hl) rfl (by show 2 * 0 + _ ≤ _; omega) (hb hby hd) (fun _ _ => ⟨rfl, eT, (by show cells + rm.cells ≤ R.cells; omega), (by show slots + rm.slots ≤ R.slots; omega)⟩)
  dsimp only [Pt.U, Pt.locs, Pt.cells, Pt.slots] at X' hS2 hgr l1 y1 z1 stp hQ c1
  subst l1 y1 z1
  have hZ2 : Z.Warmed39 B.vm := State.Warmed39.trans (t := s.setVm vm) hZ hS2.1
  obtain ⟨s₂, v', L, g1, g2⟩ := nxt v _ B.vm hQ.1 c1 p e s m args below meth c B _ _ _ B.heap.size ⟨hx, hZ2, (by rw [show (s.setVm B.vm).vm = B.vm from rfl, hS2.1.alike.findClass]; exact hown), hby, hml, hrt, hlk, hnm⟩ X' (hS.trans hS2 (by rw [← eT] at hk0; omega)) (Nat.le_refl _) (hR.trans c1) hE rfl (Fr.app hF hQ.2) (by omega) (by omega)
  exact ⟨s₂, v', L, stp.trans g1, g2⟩
theorem RunW.callN {a0 : Array Value} {y : MethodName} {bytes : ByteArray} {mL : Nat} {rt : Option FieldType} {rm : Room} {a : Addr} {as rest : List Value} {Qy : Option Value → Heap → Prop} {i : Nat} {ps : List FieldType} {rr : Option FieldType}
    (hC : Con l Z n0 y bytes mL rt rm (.ref a :: as).toArray h Qy) (hs : ∀ v h', Qy v h' → ∃ ws, Keep h h' ws ∧ ∀ x ∈ ws, Safe Z EL vm h x) (hrt : rt = none) (hy1 : y.name = "<init>") (hd : decode code pc = .ok (.invokespecial i, 3)) (w1 : (Cond.methodLink own i y).before a0 Z = true) (w2 : (Cond.instanceMethod y).before a0 Z = true) (w3 : (Cond.initialized y.cls).before a0 Z = true) (w4 : (Cond.code y bytes mL rt).before a0 Z = true)
    (hy : y.cls ≠ "java/lang/invoke/MethodHandle" ∧ y.cls ≠ "java/lang/invoke/VarHandle") (hds : parseMethodDescriptor y.desc = some ⟨ps, rr⟩) (hl : as.length = ps.length) (hst : st = as.reverse ++ .ref a :: rest) (hsz : Ls.size = maxL)
    (hf : rm.frames + 1 ≤ R.frames) (hlo : (rest.map fun v => v.category).sum + (mL + 11) + rm.locals ≤ R.locals) (hk : k + rm.cells ≤ k') (hk' : k' ≤ R.cells) (hn : n + rm.slots ≤ n') (hn' : n' ≤ R.slots) (hp : pc + 3 = pc')
    (nxt : ∀ v h', Qy v h' → CHr Z EL vm h vm h' → RunW l Z EL n0 own code maxL ret nm R Q pc' Ls (v.toList ++ rest) h' vm k' n') : RunW l Z EL n0 own code maxL ret nm R Q pc Ls st h vm k n := by
  subst hp hst
  intro p e s m args below meth c T locs cells slots k0 hX X hS hk0 hR hE eT hF hc hss
  obtain ⟨hx, hZ, hown, hby, hml, -⟩ := id hX
  subst hrt
  obtain ⟨v, vm₁, ⟨B, L', cc, ss⟩, -, X', ⟨Lc, hQ, l1, y1, z1⟩, stp⟩ := X.specialBack hx (y := y) hy1 hown (mvT hZ w1) (mvT hZ w2) (mvT hZ w4) hy (backOf (W := (rest.map fun v => v.category).sum) (Q := fun v h L => Qy v h ∧ Fr n0 L) (hC []) hZ w4 w3 hf hlo) (g := mkF m pc Ls (as.reverse ++ .ref a :: rest)) rfl (hsz.trans hml.symm) (Steps.refl _) (a := a) (argsL := as) (rest := rest) (lenOf hds hl) rfl (by show 2 * 0 + _ ≤ _; omega) (hb hby hd) (fun _ _ => ⟨rfl, eT, (by show cells + rm.cells ≤ R.cells; omega), (by show slots + rm.slots ≤ R.slots; omega)⟩)
  dsimp only [Pt.U, Pt.locs, Pt.cells, Pt.slots] at X' l1 y1 z1 stp hQ
  subst l1 y1 z1
  obtain ⟨ws, K, hsw⟩ := hs v _ hQ.1
  have c1 := CHr.keep K hsw hR.1
  obtain ⟨s₂, v', L, g1, g2⟩ := nxt v _ hQ.1 c1 p e s m args below meth c B _ _ _ k0 hX X' hS (Nat.le_trans hk0 K.1) (hR.trans c1) hE rfl (Fr.app hF hQ.2) (by omega) (by omega)
  exact ⟨s₂, v', L, stp.trans g1, g2⟩
theorem RunW.callNW {a0 a1 : Array Value} {sf : List Addr} {y : MethodName} {bytes : ByteArray} {mL : Nat} {rt : Option FieldType} {rm : Room} {a : Addr} {as rest : List Value} {Qy : Option Value → Heap → Prop} {i : Nat} {ps : List FieldType} {rr : Option FieldType}
    (hC : ConW l Z EL n0 y bytes mL rt rm (.ref a :: as).toArray h sf Qy) (hsf : ∀ x ∈ sf, Safe Z EL vm h x) (hEL : EW Z a1 EL) (hrt : rt = none) (hy1 : y.name = "<init>") (hd : decode code pc = .ok (.invokespecial i, 3)) (w1 : (Cond.methodLink own i y).before a0 Z = true) (w2 : (Cond.instanceMethod y).before a0 Z = true) (w3 : (Cond.initialized y.cls).before a0 Z = true) (w4 : (Cond.code y bytes mL rt).before a0 Z = true)
    (hy : y.cls ≠ "java/lang/invoke/MethodHandle" ∧ y.cls ≠ "java/lang/invoke/VarHandle") (hds : parseMethodDescriptor y.desc = some ⟨ps, rr⟩) (hl : as.length = ps.length) (hst : st = as.reverse ++ .ref a :: rest) (hsz : Ls.size = maxL)
    (hf : rm.frames + 1 ≤ R.frames) (hlo : (rest.map fun v => v.category).sum + (mL + 11) + rm.locals ≤ R.locals) (hk : k + rm.cells ≤ k') (hk' : k' ≤ R.cells) (hn : n + rm.slots ≤ n') (hn' : n' ≤ R.slots) (hp : pc + 3 = pc')
    (nxt : ∀ v h' vm', Qy v h' → CHr Z EL vm h vm' h' → RunW l Z EL n0 own code maxL ret nm R Q pc' Ls (v.toList ++ rest) h' vm' k' n') : RunW l Z EL n0 own code maxL ret nm R Q pc Ls st h vm k n := by
  subst hp hst
  intro p e s m args below meth c T locs cells slots k0 hX X hS hk0 hR hE eT hF hc hss
  obtain ⟨hx, hZ, hown, hby, hml, hrtt, hlk, hnm⟩ := id hX
  subst hrt
  obtain ⟨v, vm₁, ⟨B, L', cc, ss⟩, -, X', hS2, hgr, ⟨Lc, hQ, l1, y1, z1, c1⟩, stp⟩ := X.specialBackS hx (y := y) hy1 hown (mvT hZ w1) (mvT hZ w2) (mvT hZ w4) hy (backW (W := (rest.map fun v => v.category).sum) (Q := fun v h L => Qy v h ∧ Fr n0 L) (hC []) hZ w4 w3 hf hlo hEL hR.1 hsf) (g := mkF m pc Ls (as.reverse ++ .ref a :: rest)) rfl (hsz.trans hml.symm) (Steps.refl _) (a := a) (argsL := as) (rest := rest) (lenOf hds hl) rfl (by show 2 * 0 + _ ≤ _; omega) (hb hby hd) (fun _ _ => ⟨rfl, eT, (by show cells + rm.cells ≤ R.cells; omega), (by show slots + rm.slots ≤ R.slots; omega)⟩)
  dsimp only [Pt.U, Pt.locs, Pt.cells, Pt.slots] at X' hS2 hgr l1 y1 z1 stp hQ c1
  subst l1 y1 z1
  have hZ2 : Z.Warmed39 B.vm := State.Warmed39.trans (t := s.setVm vm) hZ hS2.1
  obtain ⟨s₂, v', L, g1, g2⟩ := nxt v _ B.vm hQ.1 c1 p e s m args below meth c B _ _ _ B.heap.size ⟨hx, hZ2, (by rw [show (s.setVm B.vm).vm = B.vm from rfl, hS2.1.alike.findClass]; exact hown), hby, hml, hrtt, hlk, hnm⟩ X' (hS.trans hS2 (by rw [← eT] at hk0; omega)) (Nat.le_refl _) (hR.trans c1) hE rfl (Fr.app hF hQ.2) (by omega) (by omega)
  exact ⟨s₂, v', L, stp.trans g1, g2⟩
theorem safeA {Z : State} {EL : List (String × Nat)} {vm : Vm} {h : Heap} {a : Addr} {ty : FieldType} {vs : List Value} (hal : Z.vm.Alike vm) (A : Ary Z h a ty vs) (ht : ty ≠ .byte) : Safe Z EL vm h a := by obtain ⟨cl, A1, -⟩ := A; exact Safe.arr hal A1 ht
/-- ldc of a String constant whose text is known -/
theorem RunW.ldcT {a0 : Array Value} {i len : Nat} {text : String} {bs : List Value} {z : Int32} (hd : decode code pc = .ok (.ldc i, 2)) (w : (Cond.stringLink own i text).before a0 Z = true) (wS : ∀ a ∈ Bundle.stringAtoms, a.before a0 Z = true) (hEL : EW Z a0 EL) (hmem : (own, i) ∈ EL)
    (ht : (∀ c ∈ text.toList, c.toNat < 256) ∧ text.toList.map (fun c => Value.int (Jvm.Lit.byteI c.toNat.toUInt16)) = bs) (hz : z.toInt = (bs.length : Int)) (hln : 4 * text.toList.length ≤ len) (hbig : len ≤ 536870912) (hk : k + 2 ≤ k') (hk' : k' ≤ R.cells) (hn : n + (len + 4) ≤ n') (hn' : n' ≤ R.slots) (hp : pc + 2 = pc')
    (nxt : ∀ h' vm' a b, Ext h h' → CHr Z EL vm h vm' h' → Exa Z h' a "java/lang/String" → Fld Z h' a "java/lang/String" "coder" "B" (.int 0) → Fld Z h' a "java/lang/String" "value" "[B" (.ref b) → Ary Z h' b .byte bs → (∀ x, Safe Z EL vm' h' x → x ≠ a ∧ x ≠ b) → RunW l Z EL n0 own code maxL ret nm R Q pc' Ls (.ref a :: st) h' vm' k' n') : RunW l Z EL n0 own code maxL ret nm R Q pc Ls st h vm k n := by
  subst hp
  intro p e s m args below meth c T locs cells slots k0 hX X hS hk0 hR hE eT hF hc hss
  obtain ⟨hx, hZ, hown, hby, hml, hrt, hlk, hnm⟩ := id hX
  have e1 : z.toNatClampNeg = bs.length := by have : z.toNatClampNeg = z.toInt.toNat := rfl; rw [this, hz]; rfl
  have e2 : ¬ z < 0 := by rw [Int32.lt_iff_toInt_lt, hz]; have : (0 : Int32).toInt = 0 := rfl; omega
  obtain ⟨a, T', h', k1, b, kc, X', e', E, hS2, hk1, hZ2, hown2, E1, F1, F2, A, -, -, c1, -, hsf, stp⟩ := ldcCH X hx hZ hown w wS eT hS hk0 hEL hmem hR.1 ht e2 e1 (g := mkF m pc Ls st) rfl (hb hby hd) hln hbig (by omega) (by omega)
  obtain ⟨s₂, v', L, g1, g2⟩ := nxt h' T'.vm a b E c1 E1 F1 F2 (Ary.ofArv A hz) hsf p e s m args below meth c T' _ _ _ k1 ⟨hx, hZ2, hown2, hby, hml, hrt, hlk, hnm⟩ X' hS2 hk1 (hR.trans c1) hE e' hF (by omega) (by omega)
  exact ⟨s₂, v', L, stp _ g1, g2⟩

/-- ldc of a String constant of whose text nothing is asked -/
theorem RunW.ldcU {a0 : Array Value} {i len : Nat} {text : String} (hd : decode code pc = .ok (.ldc i, 2)) (w : (Cond.stringLink own i text).before a0 Z = true) (wS : ∀ a ∈ Bundle.stringAtoms, a.before a0 Z = true) (hEL : EW Z a0 EL)
    (hln : 4 * text.toList.length ≤ len) (hbig : len ≤ 536870912) (hk : k + 2 ≤ k') (hk' : k' ≤ R.cells) (hn : n + (len + 4) ≤ n') (hn' : n' ≤ R.slots) (hp : pc + 2 = pc')
    (nxt : ∀ h' vm' a, Ext h h' → CHr Z EL vm h vm' h' → RunW l Z EL n0 own code maxL ret nm R Q pc' Ls (.ref a :: st) h' vm' k' n') : RunW l Z EL n0 own code maxL ret nm R Q pc Ls st h vm k n := by
  subst hp
  intro p e s m args below meth c T locs cells slots k0 hX X hS hk0 hR hE eT hF hc hss
  obtain ⟨hx, hZ, hown, hby, hml, hrt, hlk, hnm⟩ := id hX
  obtain ⟨a, T', h', k1, X', e', E, hS2, hk1, hZ2, hown2, c1, -, stp⟩ := ldcOH X hx hZ hown w wS eT hS hk0 hEL hR.1 (g := mkF m pc Ls st) rfl (hb hby hd) hln hbig (by omega) (by omega)
  obtain ⟨s₂, v', L, g1, g2⟩ := nxt h' T'.vm a E c1 p e s m args below meth c T' _ _ _ k1 ⟨hx, hZ2, hown2, hby, hml, hrt, hlk, hnm⟩ X' hS2 hk1 (hR.trans c1) hE e' hF (by omega) (by omega)
  exact ⟨s₂, v', L, stp _ g1, g2⟩

end WalkW
end Jvm.GoKit
namespace Jvm.Pilot.@@N@@
open Jvm Jvm.ClassFile Sem Op Lib Jvm.Free Jvm.Stand Jvm.LawKit Jvm.RoadKit Jvm.GoKit Bundle Jvm.Pilot.@@N@@.Jvm.D
theorem own_1024 : FP.Core.val32 1149239296 = .fin false 8388608 (-13) := by decide +kernel
theorem own_qmin32 : FP.Core.b32.qmin = -149 := by decide +kernel
theorem own_qmax32 : FP.Core.b32.qmax = 104 := by decide +kernel
theorem own_qmin64 : FP.Core.b64.qmin = -1074 := by decide +kernel
theorem own_qmax64 : FP.Core.b64.qmax = 971 := by decide +kernel
theorem own_p24 : (2 : Nat) ^ 24 = 16777216 := by decide +kernel
/-- a quotient by 2^10 of a datum c 2^q that is n, with n below 2^24 -/
theorem own_quo {s : Bool} {c n : Nat} {q : Int} (h : FP.Core.inUnits c q (-149) = FP.Core.inUnits n 0 (-149)) (hq : -149 ≤ q) :
    FP.Core.roundRatio FP.Core.b32 s c 8388608 (q - (-13)) = FP.Core.roundRatio FP.Core.b32 s n 1 (-10) := by
  refine FP.Core.roundRatio_congr (by decide) (by decide) ?_
  obtain ⟨t, rfl⟩ : ∃ t : Nat, q = (t : Int) - 149 := ⟨(q + 149).toNat, by omega⟩
  unfold FP.Core.inUnits at h
  rw [show ((t : Int) - 149 - -149).toNat = t by omega, show ((0 : Int) - -149).toNat = 149 by omega] at h
  rw [Nat.mul_one]
  by_cases ht : 126 ≤ t
  · obtain ⟨u, rfl⟩ : ∃ u, t = u + 126 := ⟨t - 126, by omega⟩
    rw [show ((u + 126 : Nat) : Int) - 149 - -13 - -10 = (u : Int) by omega, show (-10 : Int) - (((u + 126 : Nat) : Int) - 149 - -13) = -(u : Int) by omega, show (-(u : Int)).toNat = 0 by omega, show ((u : Int)).toNat = u by omega]
    rw [Nat.pow_add, ← Nat.mul_assoc, show (149 : Nat) = 23 + 126 by rfl, Nat.pow_add, ← Nat.mul_assoc] at h
    have := Nat.eq_of_mul_eq_mul_right (Nat.two_pow_pos 126) h
    rw [this, Nat.pow_zero, Nat.mul_one]
  · obtain ⟨u, hu⟩ : ∃ u, t + u = 126 := ⟨126 - t, by omega⟩
    rw [show ((t : Int) - 149 - -13 - -10).toNat = 0 by omega, show ((-10 : Int) - ((t : Int) - 149 - -13)).toNat = u by omega]
    rw [show (149 : Nat) = 23 + (u + t) by omega, Nat.pow_add, Nat.pow_add, ← Nat.mul_assoc, ← Nat.mul_assoc] at h
    have := Nat.eq_of_mul_eq_mul_right (Nat.two_pow_pos t) h
    rw [this, Nat.pow_zero, Nat.mul_one]
def own_q (r : Int32) : UInt32 := FP.fdiv (FP.i2f r) 1149239296
/-- the float of value r / 1024 -/
def own_is (x : UInt32) (r : Int) : Prop := ∃ s c q, FP.Core.val32 x = .fin s c q ∧ FP.Core.signed s (FP.Core.inUnits c q (-149)) = r * 2 ^ 139
theorem own_q_is {r : Int32} (h1 : -16777216 < r.toInt) (h2 : r.toInt < 16777216) : own_is (own_q r) r.toInt := by
  have hn : r.toInt.natAbs < 2 ^ FP.Core.b32.p := by show r.toInt.natAbs < 2 ^ 24; rw [own_p24]; omega
  obtain ⟨c, q, e1, e2⟩ := FP.Core.round_exact FP.Core.good_b32 (decide (r.toInt < 0)) (c := r.toInt.natAbs) (q := 0) hn (by rw [own_qmin32]; decide) (by rw [own_qmax32]; decide)
  obtain ⟨c', q', f1, f2⟩ := FP.Core.round_exact FP.Core.good_b32 (decide (r.toInt < 0)) (c := r.toInt.natAbs) (q := -10) hn (by rw [own_qmin32]; decide) (by rw [own_qmax32]; decide)
  have hf := FP.Core.val32_fits (FP.i2f r)
  have e0 : FP.Core.val32 (FP.i2f r) = .fin (decide (r.toInt < 0)) c q := (FP.Core.val32_i2f r).trans e1
  rw [e0] at hf
  have hq : -149 ≤ q := by have := hf.2.1; rw [own_qmin32] at this; exact this
  rw [own_qmin32] at e2 f2
  have hv : FP.Core.val32 (own_q r) = .fin (decide (r.toInt < 0)) c' q' := by
    have := FP.Core.val32_fdiv (FP.i2f r) 1149239296
    rw [e0, own_1024] at this
    rw [show own_q r = FP.Core.fdiv (FP.i2f r) 1149239296 from rfl, this]
    show (if 8388608 = 0 then (if c = 0 then FP.Core.Datum.nan else .inf (decide (r.toInt < 0) != false)) else FP.Core.roundRatio FP.Core.b32 (decide (r.toInt < 0) != false) c 8388608 (q - (-13))) = _
    rw [if_neg (by decide), Bool.bne_false, own_quo e2 hq]
    exact f1
  refine ⟨_, _, _, hv, ?_⟩
  rw [f2]
  have : FP.Core.inUnits r.toInt.natAbs (-10) (-149) = r.toInt.natAbs * 2 ^ 139 := rfl
  rw [this]
  unfold FP.Core.signed
  by_cases hr : r.toInt < 0
  · simp only [hr, decide_true, if_true]
    rw [Int.natCast_mul, ← Int.neg_mul, show -((r.toInt.natAbs : Nat) : Int) = r.toInt by omega]; rfl
  · simp only [hr, decide_false, Bool.false_eq_true, if_false]
    rw [Int.natCast_mul, show ((r.toInt.natAbs : Nat) : Int) = r.toInt by omega]; rfl
theorem own_nz_is : own_is 2147483648 0 := ⟨true, 0, -149, by decide +kernel, by decide +kernel⟩
theorem own_is_fin {x : UInt32} {r : Int} (h : own_is x r) : FP.Core.FFin x := by obtain ⟨s, c, q, h, -⟩ := h; exact ⟨s, c, q, h⟩
theorem own_is_z {x : UInt32} {r : Int} (h : own_is x r) : FP.Core.zval FP.Core.b32 (FP.Core.val32 x) = r * 2 ^ 139 := by
  obtain ⟨s, c, q, h, e⟩ := h
  rw [h]; show FP.Core.signed s (FP.Core.inUnits c q FP.Core.b32.qmin) = _
  rw [own_qmin32, e]
theorem own_is_nn {x : UInt32} {r : Int} (h : own_is x r) : Jvm.Free.Fl.NoNaN32 x := Jvm.Free.Fl.noNaN32_no.mpr (own_is_fin h).notNaN
/-- and 0 added -/
theorem own_is_add {x : UInt32} {r : Int} (h : own_is x r) : own_is (FP.fadd x 0) r := by
  by_cases hz : x = 2147483648
  · subst hz
    have e := own_is_z h
    have e1 : FP.Core.zval FP.Core.b32 (FP.Core.val32 2147483648) = 0 := by decide +kernel
    rw [e1] at e
    have : r = 0 := by
      rcases Int.mul_eq_zero.mp e.symm with z | z
      · exact z
      · exact absurd z (by decide +kernel)
    subst this
    exact ⟨false, 0, -149, by decide +kernel, by decide +kernel⟩
  · have : FP.fadd x 0 = x := FP.Core.fadd_zero (own_is_fin h).ne_nan hz
    rw [this]; exact h
theorem own_pos139 : (0 : Int) < 2 ^ 139 := by decide +kernel
theorem own_is_cmp {x y : UInt32} {r t : Int} (hx : own_is x r) (hy : own_is y t) : cmpValue (FP.fcmp x y) .l = 0 ↔ r = t := by
  have e : FP.fcmp x y = some .eq ↔ r = t := by
    refine FP.Core.fcmp_eq.trans ?_
    rw [own_is_z hx, own_is_z hy]
    constructor
    · intro h; exact Int.eq_of_mul_eq_mul_right (Int.ne_of_gt own_pos139) h.2.2
    · intro h; exact ⟨(own_is_fin hx).ne_nan, (own_is_fin hy).ne_nan, by rw [h]⟩
  rw [← e]
  rcases FP.fcmp x y with _ | (_ | _ | _) <;> simp [cmpValue]
theorem own_c925 : ((2 ^ 925 : Nat) : Int) = 2 ^ 925 := (Int.natCast_pow 2 925).trans (congrArg (· ^ 925) (show ((2 : Nat) : Int) = 2 from rfl))
theorem own_c1064 : (2 : Int) ^ 139 * 2 ^ 925 = 2 ^ 1064 := (Int.pow_add 2 139 925).symm
theorem own_sg (s : Bool) (a b : Nat) : FP.Core.signed s (a * b) = FP.Core.signed s a * (b : Int) := by
  cases s
  · show ((a * b : Nat) : Int) = a * b; rw [Int.natCast_mul]
  · show -((a * b : Nat) : Int) = -a * b; rw [Int.natCast_mul, Int.neg_mul]
/-- as a double -/
theorem own_is_d {x : UInt32} {r : Int} (h : own_is x r) : Jvm.Free.Fl.NoNaN64 (FP.f2d x) ∧ FP.Core.val64 (FP.f2d x) ≠ .nan ∧ FP.Core.zval FP.Core.b64 (FP.Core.val64 (FP.f2d x)) = r * 2 ^ 1064 := by
  have hnn := (own_is_fin h).notNaN
  have e0 : FP.f2d x = FP.Core.f2d x := FP.f2d_core hnn
  obtain ⟨s, c, q, hv, e⟩ := h
  have hf := FP.Core.val32_fits x
  rw [hv] at hf
  obtain ⟨b1, b2, b3, -⟩ := hf
  rw [own_qmin32] at b2; rw [own_qmax32] at b3
  have b1' : c < 2 ^ 24 := b1
  obtain ⟨c', q', f1, f2⟩ := FP.Core.round_exact FP.Core.good_b64 s (c := c) (q := q) (Nat.lt_trans b1' (by decide +kernel)) (by rw [own_qmin64]; omega) (by rw [own_qmax64]; omega)
  have hd : FP.Core.val64 (FP.f2d x) = .fin s c' q' := by rw [e0, FP.Core.val64_f2d, hv, f1]
  have hne : FP.Core.val64 (FP.f2d x) ≠ .nan := by rw [hd]; exact fun z => by cases z
  refine ⟨Jvm.Free.Fl.noNaN64_no.mpr ?_, hne, ?_⟩
  · cases hb : FP.Core.dIsNaN (FP.f2d x)
    · rfl
    · exact absurd ((FP.Core.dIsNaN_iff _).mp hb) hne
  · rw [hd]; show FP.Core.signed s (FP.Core.inUnits c' q' FP.Core.b64.qmin) = _
    rw [f2, own_qmin64]
    have e3 : FP.Core.inUnits c q (-1074) = FP.Core.inUnits c q (-149) * 2 ^ 925 := by
      have := FP.Core.inUnits_move c (q := q) (r := -149) (e := -1074) (by decide) b2
      rw [this, show ((-149 : Int) - -1074).toNat = 925 from rfl]
    rw [e3]
    rw [own_sg, own_c925, e, Int.mul_assoc, own_c1064]
theorem own_pos1064 : (0 : Int) < 2 ^ 1064 := by decide +kernel
theorem own_ge {x : UInt32} {r : Int} {y : UInt64} {b : Int} (h : own_is x r) (hy : FP.Core.val64 y ≠ .nan) (hz : FP.Core.zval FP.Core.b64 (FP.Core.val64 y) = b * 2 ^ 1064) (hb : b ≤ r) : ¬ cmpValue (FP.dcmp (FP.f2d x) y) .l < 0 := by
  obtain ⟨-, h1, h2⟩ := own_is_d h
  have : FP.Core.dcmp (FP.f2d x) y = some .gt ∨ FP.Core.dcmp (FP.f2d x) y = some .eq := FP.Core.dcmp_ge.mpr ⟨h1, hy, by rw [h2, hz]; exact Int.mul_le_mul_of_nonneg_right hb (Int.le_of_lt own_pos1064)⟩
  rcases this with e | e <;> rw [show FP.dcmp (FP.f2d x) y = _ from e] <;> decide
theorem own_le {x : UInt32} {r : Int} {y : UInt64} {b : Int} (h : own_is x r) (hy : FP.Core.val64 y ≠ .nan) (hz : FP.Core.zval FP.Core.b64 (FP.Core.val64 y) = b * 2 ^ 1064) (hb : r ≤ b) : ¬ 0 < cmpValue (FP.dcmp (FP.f2d x) y) .g := by
  obtain ⟨-, h1, h2⟩ := own_is_d h
  have : FP.Core.dcmp (FP.f2d x) y = some .lt ∨ FP.Core.dcmp (FP.f2d x) y = some .eq := FP.Core.dcmp_le.mpr ⟨h1, hy, by rw [h2, hz]; exact Int.mul_le_mul_of_nonneg_right hb (Int.le_of_lt own_pos1064)⟩
  rcases this with e | e <;> rw [show FP.dcmp (FP.f2d x) y = _ from e] <;> decide
/-- within the bounds of checkRange: L is 90 or 180 -/
theorem own_rng {x : UInt32} {r : Int} (h : own_is x r) : (-92160 ≤ r → r ≤ 92160 → ¬ cmpValue (FP.dcmp (FP.f2d x) (FP.i2d (-(90 : Int32)))) .l < 0 ∧ ¬ 0 < cmpValue (FP.dcmp (FP.f2d x) (FP.i2d (90 : Int32))) .g) ∧ (-184320 ≤ r → r ≤ 184320 → ¬ cmpValue (FP.dcmp (FP.f2d x) (FP.i2d (-(180 : Int32)))) .l < 0 ∧ ¬ 0 < cmpValue (FP.dcmp (FP.f2d x) (FP.i2d (180 : Int32))) .g) :=
  ⟨fun h1 h2 => ⟨own_ge h (by decide +kernel) (b := -92160) (by decide +kernel) h1, own_le h (by decide +kernel) (b := 92160) (by decide +kernel) h2⟩, fun h1 h2 => ⟨own_ge h (by decide +kernel) (b := -184320) (by decide +kernel) h1, own_le h (by decide +kernel) (b := 184320) (by decide +kernel) h2⟩⟩
def own_EL : List (String × Nat) := []
theorem own_EW {Z : State} {a0 : Array Value} (hw : ∀ d ∈ tables_1, d.before a0 Z = true) : EW Z a0 own_EL := EW.nil
theorem own_wS {Z : State} {a0 : Array Value} (hw : ∀ d ∈ tables_1, d.before a0 Z = true) : ∀ a ∈ Bundle.stringAtoms, a.before a0 Z = true := by
  intro d hd
  simp only [Bundle.stringAtoms, List.mem_cons, List.not_mem_nil, or_false] at hd
  rcases hd with rfl | rfl | rfl | rfl | rfl | rfl | rfl
  · exact (hw _ (List.mem_of_getElem? (i := 39) rfl))
  · exact (hw _ (List.mem_of_getElem? (i := 40) rfl))
  · exact (hw _ (List.mem_of_getElem? (i := 41) rfl))
  · exact (hw _ (List.mem_of_getElem? (i := 42) rfl))
  · exact (hw _ (List.mem_of_getElem? (i := 43) rfl))
  · exact (hw _ (List.mem_of_getElem? (i := 44) rfl))
  · exact (hw _ (List.mem_of_getElem? (i := 45) rfl))
theorem own_bx {a : Int32} (h1 : ¬ a < (-128 : Int32)) (h2 : ¬ (127 : Int32) < a) : -128 ≤ a.toInt ∧ a.toInt ≤ 127 := by
  rw [Int32.lt_iff_toInt_lt] at h1 h2; have h5 : (-128 : Int32).toInt = -128 := rfl; have h6 : (127 : Int32).toInt = 127 := rfl; omega
theorem own_bix {a : Int32} (ha : -128 ≤ a.toInt ∧ a.toInt ≤ 127) : (a + (128 : Int32)).toInt = (((a.toInt + 128).toNat : Nat) : Int) := by
  have h3 := c_iadd a 128; have h4 := rng32 (a + 128); have h5 : (128 : Int32).toInt = 128 := rfl
  omega
theorem own_blen {args : Array Value} {s : State} {t : Term} {a : Addr} {cl : Cell} (ht : t.eval args s none [] s = some (.ref a)) (hc : s.arrayAt? a = some cl) (h : (Term.length t).eval args s none [] s = some (.int 256)) : cl.slots.size = 256 := by
  simp only [Term.eval, ht, hc, Option.bind_eq_bind, Option.bind_some] at h
  by_cases q : cl.slots.size < 2 ^ 31
  · simp only [q, if_true] at h
    have e : cl.slots.size.toInt32 = 256 := by simpa using h
    have := len_toInt q
    rw [e] at this
    have h5 : (256 : Int32).toInt = 256 := rfl
    omega
  · simp [q] at h
theorem own_sub {args : Array Value} {s : State} {j : Int32} (hj : ¬ j < 0) : (Term.sub (.index 0) (.int 128)).eval args s none [j.toNatClampNeg] s = some (.int (j - 128)) := by
  have h := (back32 hj).1
  simp [Term.eval, h]
theorem own_cache {s : State} {ac : Addr} {cl : Cell} {val : Int32 → Value} (B : Bxs s ac cl "java/lang/Integer" "I" 256 val) : ∀ a : Int32, (-128 ≤ a.toInt ∧ a.toInt ≤ 127) → ∃ bx, cl.slots.toList[(a.toInt + 128).toNat]? = some (.ref bx) ∧ Exa s s.heap bx "java/lang/Integer" := by
  intro a ha
  have h1 := own_bix ha
  have h2 : cl.slots.size = 256 := B.2.1
  obtain ⟨hin, e0⟩ := idxIn (c := cl) h1 (by omega)
  obtain ⟨b, hb, he, -⟩ := B.2.2.2 _ hin
  rw [e0] at hb
  exact ⟨b, by simpa using hb, he⟩
theorem d6_0 : decode jdk_18_method_1_code 0 = .ok (.aload_n 0, 1) := by decide +kernel
theorem d6_1 : decode jdk_18_method_1_code 1 = .ok (.invokespecial 1, 3) := by decide +kernel
theorem d6_4 : decode jdk_18_method_1_code 4 = .ok (.return_, 1) := by decide +kernel
theorem pn_6 : plainFor (⟨"java/lang/Number", "<init>", "()V"⟩ : MethodName) = true := plainFor_of_name (by first | (simp [plainName, overriddenIn]; done) | decide +kernel)
theorem ef_con_num (m : MethodId) (a1 : Addr)  : entryFrame m #[(.ref a1)] 1 = mkF m 0 #[.val (.ref a1)] [] := by first | (simp [entryFrame, mkF, argsToLocals, Value.category]; done) | rfl
set_option maxRecDepth 65536 in
set_option maxHeartbeats 40000000 in
theorem con_num (l : Launch) (Z : State) (a0 : Array Value) (hw : ∀ d ∈ tables_1, d.before a0 Z = true) (n0 : Nat) (h0 : Heap) (Z0 : n0 ≤ h0.size) (a1 : Addr)  :
    Con l Z n0 (⟨"java/lang/Number", "<init>", "()V"⟩ : MethodName) jdk_18_method_1_code 1 none ({ frames := 1, cells := 0, slots := 0, locals := 12 } : Room) #[(.ref a1)] h0 (Vd fun h' => h0 = h') := by
  refine Con.of_run pn_6 (fun m => ef_con_num m a1 ) ?_
  refine Run.aloadN d6_0 rfl rfl (pc' := 1) rfl ?_
  refine Run.initO d6_1 (hw _ (List.mem_of_getElem? (i := 32) rfl)) (hw _ (List.mem_of_getElem? (i := 14) rfl)) (hw _ (List.mem_of_getElem? (i := 15) rfl)) rfl (by decide) (by show (0 : Nat) + 12 ≤ _; decide) (pc' := 4) rfl ?_
  exact Run.vreturn d6_4 rfl (by decide) (by decide) ⟨rfl, rfl⟩
theorem d12_0 : decode jdk_33_method_23_code 0 = .ok (.aload_n 0, 1) := by decide +kernel
theorem d12_1 : decode jdk_33_method_23_code 1 = .ok (.invokespecial 202, 3) := by decide +kernel
theorem d12_4 : decode jdk_33_method_23_code 4 = .ok (.aload_n 0, 1) := by decide +kernel
theorem d12_5 : decode jdk_33_method_23_code 5 = .ok (.iload_n 1, 1) := by decide +kernel
theorem d12_6 : decode jdk_33_method_23_code 6 = .ok (.putfield 205, 3) := by decide +kernel
theorem d12_9 : decode jdk_33_method_23_code 9 = .ok (.return_, 1) := by decide +kernel
theorem pn_12 : plainFor (⟨"java/lang/Integer", "<init>", "(I)V"⟩ : MethodName) = true := plainFor_of_name (by first | (simp [plainName, overriddenIn]; done) | decide +kernel)
theorem pd___V : parseMethodDescriptor "()V" = some ⟨[], none⟩ := by decide +kernel
theorem ef_con_int (m : MethodId) (a1 : Addr) (p2 : Int32)  : entryFrame m #[(.ref a1), (.int p2)] 2 = mkF m 0 #[.val (.ref a1), .val (.int p2)] [] := by first | (simp [entryFrame, mkF, argsToLocals, Value.category]; done) | rfl
set_option maxRecDepth 65536 in
set_option maxHeartbeats 40000000 in
theorem con_int (l : Launch) (Z : State) (a0 : Array Value) (hw : ∀ d ∈ tables_1, d.before a0 Z = true) (n0 : Nat) (h0 : Heap) (Z0 : n0 ≤ h0.size) (a1 : Addr) (p2 : Int32) (E1 : Exa Z h0 a1 "java/lang/Integer") (F1 : Fld Z h0 a1 "java/lang/Integer" "value" "I" (.int (0 : Int32))) (g1 : n0 ≤ a1) :
    Con l Z n0 (⟨"java/lang/Integer", "<init>", "(I)V"⟩ : MethodName) jdk_33_method_23_code 2 none ({ frames := 2, cells := 0, slots := 0, locals := 24 } : Room) #[(.ref a1), (.int p2)] h0 (Vd fun h' => Keep h0 h' [a1]) := by
  refine Con.of_run pn_12 (fun m => ef_con_int m a1 p2 ) ?_
  refine Run.aloadN d12_0 rfl rfl (pc' := 1) rfl ?_
  refine Run.callN (k' := 0) (n' := 0) (a := a1) (as := []) (rest := []) (con_num l Z a0 hw n0 h0 Z0 a1) rfl d12_1 (hw _ (List.mem_of_getElem? (i := 77) rfl)) (hw _ (List.mem_of_getElem? (i := 27) rfl)) (hw _ (List.mem_of_getElem? (i := 30) rfl)) (hw _ (List.mem_of_getElem? (i := 31) rfl)) (by decide) pd___V rfl rfl rfl (by decide) (by show (0 : Nat) + (1 + 11) + 12 ≤ _; decide) (by decide) (by decide) (by decide) (by decide) (pc' := 4) rfl ?_
  rintro _ rfl
  show Run l Z n0 "java/lang/Integer" jdk_33_method_23_code 2 none "<init>" ({ frames := 2, cells := 0, slots := 0, locals := 24 } : Room) _ 4 #[.val (.ref a1), .val (.int p2)] [] h0 0 0
  refine Run.aloadN d12_4 rfl rfl (pc' := 5) rfl ?_
  refine Run.iloadN d12_5 rfl (pc' := 6) rfl ?_
  refine Run.putF d12_6 (host := "") (Or.inl (hw _ (List.mem_of_getElem? (i := 79) rfl))) Via.refl F1 E1 (Or.inr ⟨(hw _ (List.mem_of_getElem? (i := 80) rfl)), rfl, rfl⟩) (hw _ (List.mem_of_getElem? (i := 72) rfl)) (ty := .int) (by decide) rfl rfl g1 (pc' := 9) rfl ?_
  intro h12 W12
  have Fw12 := F1.same W12
  have E_a1_12 := E1.wr W12
  have sz12 : n0 ≤ h12.size := by rw [W12.size]; exact Z0
  have kp12 := Keep.wr (Keep.refl h0 [a1]) W12 (Or.inl (List.mem_of_getElem? (i := 0) rfl))
  exact Run.vreturn d12_9 rfl (by decide) (by decide) ⟨rfl, kp12⟩
theorem d11_0 : decode jdk_33_method_22_code 0 = .ok (.iload_n 0, 1) := by decide +kernel
theorem d11_1 : decode jdk_33_method_22_code 1 = .ok (.bipush (-128), 2) := by decide +kernel
theorem d11_3 : decode jdk_33_method_22_code 3 = .ok (.if_icmp .lt 20, 3) := by decide +kernel
theorem d11_6 : decode jdk_33_method_22_code 6 = .ok (.iload_n 0, 1) := by decide +kernel
theorem d11_7 : decode jdk_33_method_22_code 7 = .ok (.getstatic 191, 3) := by decide +kernel
theorem d11_10 : decode jdk_33_method_22_code 10 = .ok (.if_icmp .gt 13, 3) := by decide +kernel
theorem d11_13 : decode jdk_33_method_22_code 13 = .ok (.getstatic 195, 3) := by decide +kernel
theorem d11_16 : decode jdk_33_method_22_code 16 = .ok (.iload_n 0, 1) := by decide +kernel
theorem d11_17 : decode jdk_33_method_22_code 17 = .ok (.sipush 128, 3) := by decide +kernel
theorem d11_20 : decode jdk_33_method_22_code 20 = .ok (.iadd, 1) := by decide +kernel
theorem d11_21 : decode jdk_33_method_22_code 21 = .ok (.aaload, 1) := by decide +kernel
theorem d11_22 : decode jdk_33_method_22_code 22 = .ok (.areturn, 1) := by decide +kernel
theorem d11_23 : decode jdk_33_method_22_code 23 = .ok (.new 1, 3) := by decide +kernel
theorem d11_26 : decode jdk_33_method_22_code 26 = .ok (.dup, 1) := by decide +kernel
theorem d11_27 : decode jdk_33_method_22_code 27 = .ok (.iload_n 0, 1) := by decide +kernel
theorem d11_28 : decode jdk_33_method_22_code 28 = .ok (.invokespecial 199, 3) := by decide +kernel
theorem d11_31 : decode jdk_33_method_22_code 31 = .ok (.areturn, 1) := by decide +kernel
theorem pn_11 : plainFor (⟨"java/lang/Integer", "valueOf", "(I)Ljava/lang/Integer;"⟩ : MethodName) = true := plainFor_of_name (by first | (simp [plainName, overriddenIn]; done) | decide +kernel)
theorem pd__I_V : parseMethodDescriptor "(I)V" = some ⟨[.int], none⟩ := by decide +kernel
theorem ef_con_vof (m : MethodId) (p1 : Int32) (ac : Addr) (vs : List Value)  : entryFrame m #[(.int p1)] 1 = mkF m 0 #[.val (.int p1)] [] := by first | (simp [entryFrame, mkF, argsToLocals, Value.category]; done) | rfl
set_option maxRecDepth 65536 in
set_option maxHeartbeats 40000000 in
theorem con_vof (l : Launch) (Z : State) (a0 : Array Value) (hw : ∀ d ∈ tables_1, d.before a0 Z = true) (n0 : Nat) (h0 : Heap) (Z0 : n0 ≤ h0.size) (p1 : Int32) (ac : Addr) (vs : List Value) (od0 : Old Z n0 h0) (SH : Sta Z Z.heap "java/lang/Integer$IntegerCache" "high" "I" (.int (127 : Int32))) (SC : Sta Z Z.heap "java/lang/Integer$IntegerCache" "cache" "[Ljava/lang/Integer;" (.ref ac)) (AC : Ary Z Z.heap ac (.object "java/lang/Integer") vs) (hcache : ∀ a : Int32, (-128 ≤ a.toInt ∧ a.toInt ≤ 127) → ∃ bx, vs[(a.toInt + 128).toNat]? = some (.ref bx) ∧ Exa Z Z.heap bx "java/lang/Integer") :
    Con l Z n0 (⟨"java/lang/Integer", "valueOf", "(I)Ljava/lang/Integer;"⟩ : MethodName) jdk_33_method_22_code 1 (some (.object "java/lang/Integer")) ({ frames := 3, cells := 1, slots := 1, locals := 38 } : Room) #[(.int p1)] h0 (Val fun w h' => ∃ b, w = .ref b ∧ Ext h0 h' ∧ Exa Z h' b "java/lang/Integer") := by
  refine Con.of_run pn_11 (fun m => ef_con_vof m p1 ac vs ) ?_
  refine Run.iloadN d11_0 rfl (pc' := 1) rfl ?_
  refine Run.bipush (-128 : Int32) d11_1 (by decide) (pc' := 3) rfl ?_
  refine Run.icmp_lt d11_3 (by decide) (pc' := 23) (by decide) (pa := 6) rfl (fun hc3 => ?_) (fun hc3 => ?_)
  · -- pc 3 taken: p1 < (-128 : Int32)
    refine Run.newO (k' := 1) (n' := 1) d11_23 (hw _ (List.mem_of_getElem? (i := 71) rfl)) (hw _ (List.mem_of_getElem? (i := 72) rfl)) (hw _ (List.mem_of_getElem? (i := 69) rfl)) (by decide) (by decide) (by decide) (by decide) (pc' := 26) rfl ?_
    intro h11 b11 g11 E11 X11 D11
    have ge_b11 : n0 ≤ b11 := by rw [g11]; exact Z0
    have bo_b11 : h0.size ≤ b11 := by rw [g11]; exact (Keep.refl h0 []).1
    have ne_ac_b11 : ac ≠ b11 := Nat.ne_of_lt (Nat.lt_of_lt_of_le (od0.1 ▸ AC.lt) ge_b11)
    have sz11 : n0 ≤ h11.size := Nat.le_trans Z0 E11.1
    have kp11 := Keep.ext (Keep.refl h0 []) E11
    have od11 := od0.ext E11
    have F_b11_value : Fld Z h11 b11 "java/lang/Integer" "value" "I" (.int (0 : Int32)) := D11 (Or.inr (hw _ (List.mem_of_getElem? (i := 80) rfl))) (ty := .int) (by decide)
    refine Run.dup d11_26 rfl (pc' := 27) rfl ?_
    refine Run.iloadN d11_27 rfl (pc' := 28) rfl ?_
    refine Run.callN (k' := 1) (n' := 1) (a := b11) (as := [(.int p1)]) (rest := [(.ref b11)]) (con_int l Z a0 hw n0 h11 sz11 b11 p1 X11 F_b11_value ge_b11) rfl d11_28 (hw _ (List.mem_of_getElem? (i := 73) rfl)) (hw _ (List.mem_of_getElem? (i := 74) rfl)) (hw _ (List.mem_of_getElem? (i := 69) rfl)) (hw _ (List.mem_of_getElem? (i := 76) rfl)) (by decide) pd__I_V rfl rfl rfl (by decide) (by show (1 : Nat) + (2 + 11) + 24 ≤ _; decide) (by decide) (by decide) (by decide) (by decide) (pc' := 31) rfl ?_
    rintro h12 K12
    show Run l Z n0 "java/lang/Integer" jdk_33_method_22_code 1 (some (.object "java/lang/Integer")) "valueOf" ({ frames := 3, cells := 1, slots := 1, locals := 38 } : Room) _ 31 #[.val (.int p1)] [(.ref b11)] h12 1 1
    have E_b11_12 := X11.keep K12
    have sz12 : n0 ≤ h12.size := Nat.le_trans sz11 K12.1
    have kp12 := Keep.trans kp11 K12 (allS (Or.inr bo_b11) all0)
    have od12 := od11.keep K12 (allS ge_b11 all0)
    exact Run.areturn d11_31 (ty := (.object "java/lang/Integer")) rfl rfl rfl (by decide) (by decide) ⟨_, rfl, b11, rfl, Keep.toExt kp12, E_b11_12⟩
  · -- pc 3 not taken: ¬ p1 < (-128 : Int32)
    refine Run.iloadN d11_6 rfl (pc' := 7) rfl ?_
    refine Run.getS d11_7 (host := "") (Or.inl (hw _ (List.mem_of_getElem? (i := 84) rfl))) Via.refl (SH.ext od0.2) (pc' := 10) rfl ?_
    refine Run.icmp_gt d11_10 (by decide) (pc' := 23) (by decide) (pa := 13) rfl (fun hc10 => ?_) (fun hc10 => ?_)
    · -- pc 10 taken: (127 : Int32) < p1
      refine Run.newO (k' := 1) (n' := 1) d11_23 (hw _ (List.mem_of_getElem? (i := 71) rfl)) (hw _ (List.mem_of_getElem? (i := 72) rfl)) (hw _ (List.mem_of_getElem? (i := 69) rfl)) (by decide) (by decide) (by decide) (by decide) (pc' := 26) rfl ?_
      intro h13 b13 g13 E13 X13 D13
      have ge_b13 : n0 ≤ b13 := by rw [g13]; exact Z0
      have bo_b13 : h0.size ≤ b13 := by rw [g13]; exact (Keep.refl h0 []).1
      have ne_ac_b13 : ac ≠ b13 := Nat.ne_of_lt (Nat.lt_of_lt_of_le (od0.1 ▸ AC.lt) ge_b13)
      have sz13 : n0 ≤ h13.size := Nat.le_trans Z0 E13.1
      have kp13 := Keep.ext (Keep.refl h0 []) E13
      have od13 := od0.ext E13
      have F_b13_value : Fld Z h13 b13 "java/lang/Integer" "value" "I" (.int (0 : Int32)) := D13 (Or.inr (hw _ (List.mem_of_getElem? (i := 80) rfl))) (ty := .int) (by decide)
      refine Run.dup d11_26 rfl (pc' := 27) rfl ?_
      refine Run.iloadN d11_27 rfl (pc' := 28) rfl ?_
      refine Run.callN (k' := 1) (n' := 1) (a := b13) (as := [(.int p1)]) (rest := [(.ref b13)]) (con_int l Z a0 hw n0 h13 sz13 b13 p1 X13 F_b13_value ge_b13) rfl d11_28 (hw _ (List.mem_of_getElem? (i := 73) rfl)) (hw _ (List.mem_of_getElem? (i := 74) rfl)) (hw _ (List.mem_of_getElem? (i := 69) rfl)) (hw _ (List.mem_of_getElem? (i := 76) rfl)) (by decide) pd__I_V rfl rfl rfl (by decide) (by show (1 : Nat) + (2 + 11) + 24 ≤ _; decide) (by decide) (by decide) (by decide) (by decide) (pc' := 31) rfl ?_
      rintro h14 K14
      show Run l Z n0 "java/lang/Integer" jdk_33_method_22_code 1 (some (.object "java/lang/Integer")) "valueOf" ({ frames := 3, cells := 1, slots := 1, locals := 38 } : Room) _ 31 #[.val (.int p1)] [(.ref b13)] h14 1 1
      have E_b13_14 := X13.keep K14
      have sz14 : n0 ≤ h14.size := Nat.le_trans sz13 K14.1
      have kp14 := Keep.trans kp13 K14 (allS (Or.inr bo_b13) all0)
      have od14 := od13.keep K14 (allS ge_b13 all0)
      exact Run.areturn d11_31 (ty := (.object "java/lang/Integer")) rfl rfl rfl (by decide) (by decide) ⟨_, rfl, b13, rfl, Keep.toExt kp14, E_b13_14⟩
    · -- pc 10 not taken: ¬ (127 : Int32) < p1
      obtain ⟨bx, hbx, EX⟩ := hcache p1 (own_bx hc3 hc10)
      refine Run.getS d11_13 (host := "") (Or.inl (hw _ (List.mem_of_getElem? (i := 86) rfl))) Via.refl (SC.ext od0.2) (pc' := 16) rfl ?_
      refine Run.iloadN d11_16 rfl (pc' := 17) rfl ?_
      refine Run.sipush (128 : Int32) d11_17 (by decide) (pc' := 20) rfl ?_
      refine Run.iadd d11_20 (pc' := 21) rfl ?_
      refine Run.aaload (i := (p1.toInt + 128).toNat) (v := (.ref bx)) d11_21 (AC.ext od0.2) rfl (own_bix (own_bx hc3 hc10)) hbx (pc' := 22) rfl ?_
      exact Run.areturn d11_22 (ty := (.object "java/lang/Integer")) rfl rfl rfl (by decide) (by decide) ⟨_, rfl, bx, rfl, Keep.toExt (Keep.refl h0 []), (EX.ext od0.2)⟩
theorem d5_0 : decode jdk_118_method_9_code 0 = .ok (.aload_n 0, 1) := by decide +kernel
theorem d5_1 : decode jdk_118_method_9_code 1 = .ok (.invokespecial 50, 3) := by decide +kernel
theorem d5_4 : decode jdk_118_method_9_code 4 = .ok (.aload_n 0, 1) := by decide +kernel
theorem d5_5 : decode jdk_118_method_9_code 5 = .ok (.fload_n 1, 1) := by decide +kernel
theorem d5_6 : decode jdk_118_method_9_code 6 = .ok (.putfield 55, 3) := by decide +kernel
theorem d5_9 : decode jdk_118_method_9_code 9 = .ok (.return_, 1) := by decide +kernel
theorem pn_5 : plainFor (⟨"java/lang/Float", "<init>", "(F)V"⟩ : MethodName) = true := by decide +kernel
theorem ef_con_fin (m : MethodId) (a1 : Addr) (f2 : UInt32)  : entryFrame m #[(.ref a1), (.float f2)] 2 = mkF m 0 #[.val (.ref a1), .val (.float f2)] [] := by first | (simp [entryFrame, mkF, argsToLocals, Value.category]; done) | rfl
set_option maxRecDepth 65536 in
set_option maxHeartbeats 40000000 in
theorem con_fin (l : Launch) (Z : State) (a0 : Array Value) (hw : ∀ d ∈ tables_1, d.before a0 Z = true) (n0 : Nat) (h0 : Heap) (Z0 : n0 ≤ h0.size) (a1 : Addr) (f2 : UInt32) (E1 : Exa Z h0 a1 "java/lang/Float") (F1 : Fld Z h0 a1 "java/lang/Float" "value" "F" (.float 0)) (g1 : n0 ≤ a1) :
    Con l Z n0 (⟨"java/lang/Float", "<init>", "(F)V"⟩ : MethodName) jdk_118_method_9_code 2 none ({ frames := 2, cells := 0, slots := 0, locals := 24 } : Room) #[(.ref a1), (.float f2)] h0 (Vd fun h' => Keep h0 h' [a1] ∧ Fld Z h' a1 "java/lang/Float" "value" "F" (.float f2)) := by
  refine Con.of_run pn_5 (fun m => ef_con_fin m a1 f2 ) ?_
  refine Run.aloadN d5_0 rfl rfl (pc' := 1) rfl ?_
  refine Run.callN (k' := 0) (n' := 0) (a := a1) (as := []) (rest := []) (con_num l Z a0 hw n0 h0 Z0 a1) rfl d5_1 (hw _ (List.mem_of_getElem? (i := 26) rfl)) (hw _ (List.mem_of_getElem? (i := 27) rfl)) (hw _ (List.mem_of_getElem? (i := 30) rfl)) (hw _ (List.mem_of_getElem? (i := 31) rfl)) (by decide) pd___V rfl rfl rfl (by decide) (by show (0 : Nat) + (1 + 11) + 12 ≤ _; decide) (by decide) (by decide) (by decide) (by decide) (pc' := 4) rfl ?_
  rintro _ rfl
  show Run l Z n0 "java/lang/Float" jdk_118_method_9_code 2 none "<init>" ({ frames := 2, cells := 0, slots := 0, locals := 24 } : Room) _ 4 #[.val (.ref a1), .val (.float f2)] [] h0 0 0
  refine Run.aloadN d5_4 rfl rfl (pc' := 5) rfl ?_
  refine Run.floadN d5_5 rfl (pc' := 6) rfl ?_
  refine Run.putF d5_6 (host := "") (Or.inl (hw _ (List.mem_of_getElem? (i := 33) rfl))) Via.refl F1 E1 (Or.inr ⟨(hw _ (List.mem_of_getElem? (i := 34) rfl)), rfl, rfl⟩) (hw _ (List.mem_of_getElem? (i := 21) rfl)) (ty := .float) (by decide) rfl rfl g1 (pc' := 9) rfl ?_
  intro h12 W12
  have Fw12 := F1.same W12
  have E_a1_12 := E1.wr W12
  have sz12 : n0 ≤ h12.size := by rw [W12.size]; exact Z0
  have kp12 := Keep.wr (Keep.refl h0 [a1]) W12 (Or.inl (List.mem_of_getElem? (i := 0) rfl))
  exact Run.vreturn d5_9 rfl (by decide) (by decide) ⟨rfl, kp12, Fw12⟩
theorem d4_0 : decode jdk_118_method_4_code 0 = .ok (.new 1, 3) := by decide +kernel
theorem d4_3 : decode jdk_118_method_4_code 3 = .ok (.dup, 1) := by decide +kernel
theorem d4_4 : decode jdk_118_method_4_code 4 = .ok (.fload_n 0, 1) := by decide +kernel
theorem d4_5 : decode jdk_118_method_4_code 5 = .ok (.invokespecial 42, 3) := by decide +kernel
theorem d4_8 : decode jdk_118_method_4_code 8 = .ok (.areturn, 1) := by decide +kernel
theorem pn_4 : plainFor (⟨"java/lang/Float", "valueOf", "(F)Ljava/lang/Float;"⟩ : MethodName) = true := by decide +kernel
theorem pd__F_V : parseMethodDescriptor "(F)V" = some ⟨[.float], none⟩ := by decide +kernel
theorem ef_con_fvo (m : MethodId) (f1 : UInt32)  : entryFrame m #[(.float f1)] 1 = mkF m 0 #[.val (.float f1)] [] := by first | (simp [entryFrame, mkF, argsToLocals, Value.category]; done) | rfl
set_option maxRecDepth 65536 in
set_option maxHeartbeats 40000000 in
theorem con_fvo (l : Launch) (Z : State) (a0 : Array Value) (hw : ∀ d ∈ tables_1, d.before a0 Z = true) (n0 : Nat) (h0 : Heap) (Z0 : n0 ≤ h0.size) (f1 : UInt32)  :
    Con l Z n0 (⟨"java/lang/Float", "valueOf", "(F)Ljava/lang/Float;"⟩ : MethodName) jdk_118_method_4_code 1 (some (.object "java/lang/Float")) ({ frames := 3, cells := 1, slots := 1, locals := 38 } : Room) #[(.float f1)] h0 (Val fun w h' => ∃ t, w = .ref t ∧ Ext h0 h' ∧ h0.size ≤ t ∧ Exa Z h' t "java/lang/Float" ∧ Fld Z h' t "java/lang/Float" "value" "F" (.float f1)) := by
  refine Con.of_run pn_4 (fun m => ef_con_fvo m f1 ) ?_
  refine Run.newO (k' := 1) (n' := 1) d4_0 (hw _ (List.mem_of_getElem? (i := 20) rfl)) (hw _ (List.mem_of_getElem? (i := 21) rfl)) (hw _ (List.mem_of_getElem? (i := 18) rfl)) (by decide) (by decide) (by decide) (by decide) (pc' := 3) rfl ?_
  intro h11 b11 g11 E11 X11 D11
  have ge_b11 : n0 ≤ b11 := by rw [g11]; exact Z0
  have bo_b11 : h0.size ≤ b11 := by rw [g11]; exact (Keep.refl h0 []).1
  have sz11 : n0 ≤ h11.size := Nat.le_trans Z0 E11.1
  have kp11 := Keep.ext (Keep.refl h0 []) E11
  have F_b11_value : Fld Z h11 b11 "java/lang/Float" "value" "F" (.float 0) := D11 (Or.inr (hw _ (List.mem_of_getElem? (i := 34) rfl))) (ty := .float) (by decide)
  refine Run.dup d4_3 rfl (pc' := 4) rfl ?_
  refine Run.floadN d4_4 rfl (pc' := 5) rfl ?_
  refine Run.callN (k' := 1) (n' := 1) (a := b11) (as := [(.float f1)]) (rest := [(.ref b11)]) (con_fin l Z a0 hw n0 h11 sz11 b11 f1 X11 F_b11_value ge_b11) rfl d4_5 (hw _ (List.mem_of_getElem? (i := 22) rfl)) (hw _ (List.mem_of_getElem? (i := 23) rfl)) (hw _ (List.mem_of_getElem? (i := 18) rfl)) (hw _ (List.mem_of_getElem? (i := 25) rfl)) (by decide) pd__F_V rfl rfl rfl (by decide) (by show (1 : Nat) + (2 + 11) + 24 ≤ _; decide) (by decide) (by decide) (by decide) (by decide) (pc' := 8) rfl ?_
  rintro h12 ⟨K12, P12⟩
  show Run l Z n0 "java/lang/Float" jdk_118_method_4_code 1 (some (.object "java/lang/Float")) "valueOf" ({ frames := 3, cells := 1, slots := 1, locals := 38 } : Room) _ 8 #[.val (.float f1)] [(.ref b11)] h12 1 1
  have E_b11_12 := X11.keep K12
  have sz12 : n0 ≤ h12.size := Nat.le_trans sz11 K12.1
  have kp12 := Keep.trans kp11 K12 (allS (Or.inr bo_b11) all0)
  exact Run.areturn d4_8 (ty := (.object "java/lang/Float")) rfl rfl rfl (by decide) (by decide) ⟨_, rfl, b11, rfl, Keep.toExt kp12, bo_b11, E_b11_12, P12⟩
theorem d9_0 : decode jdk_118_method_20_code 0 = .ok (.aload_n 0, 1) := by decide +kernel
theorem d9_1 : decode jdk_118_method_20_code 1 = .ok (.getfield 55, 3) := by decide +kernel
theorem d9_4 : decode jdk_118_method_20_code 4 = .ok (.f2d, 1) := by decide +kernel
theorem d9_5 : decode jdk_118_method_20_code 5 = .ok (.dreturn, 1) := by decide +kernel
theorem pn_9 : plainFor (⟨"java/lang/Float", "doubleValue", "()D"⟩ : MethodName) = true := by decide +kernel
theorem ef_con_fdv (m : MethodId) (a1 : Addr) (f : UInt32)  : entryFrame m #[(.ref a1)] 1 = mkF m 0 #[.val (.ref a1)] [] := by first | (simp [entryFrame, mkF, argsToLocals, Value.category]; done) | rfl
set_option maxRecDepth 65536 in
set_option maxHeartbeats 40000000 in
theorem con_fdv (l : Launch) (Z : State) (a0 : Array Value) (hw : ∀ d ∈ tables_1, d.before a0 Z = true) (n0 : Nat) (h0 : Heap) (Z0 : n0 ≤ h0.size) (a1 : Addr) (f : UInt32) (F1 : Fld Z h0 a1 "java/lang/Float" "value" "F" (.float f)) (hnn : Jvm.Free.Fl.NoNaN64 (FP.f2d f)) :
    Con l Z n0 (⟨"java/lang/Float", "doubleValue", "()D"⟩ : MethodName) jdk_118_method_20_code 1 (some .double) ({ frames := 0, cells := 0, slots := 0, locals := 0 } : Room) #[(.ref a1)] h0 (Val (PV (.double (FP.f2d f)) h0)) := by
  refine Con.of_run pn_9 (fun m => ef_con_fdv m a1 f ) ?_
  refine Run.aloadN d9_0 rfl rfl (pc' := 1) rfl ?_
  refine Run.getF d9_1 (host := "") (Or.inl (hw _ (List.mem_of_getElem? (i := 33) rfl))) Via.refl F1 (pc' := 4) rfl ?_
  refine Run.f2d d9_4 hnn (pc' := 5) rfl ?_
  exact Run.dreturn d9_5 rfl (by decide) (by decide) ⟨_, rfl, rfl, rfl⟩
theorem d8_0 : decode prog_19_method_3_code 0 = .ok (.aload_n 1, 1) := by decide +kernel
theorem d8_1 : decode prog_19_method_3_code 1 = .ok (.invokevirtual 32, 3) := by decide +kernel
theorem d8_4 : decode prog_19_method_3_code 4 = .ok (.dstore_n 3, 1) := by decide +kernel
theorem d8_5 : decode prog_19_method_3_code 5 = .ok (.dload_n 3, 1) := by decide +kernel
theorem d8_6 : decode prog_19_method_3_code 6 = .ok (.iload_n 2, 1) := by decide +kernel
theorem d8_7 : decode prog_19_method_3_code 7 = .ok (.ineg, 1) := by decide +kernel
theorem d8_8 : decode prog_19_method_3_code 8 = .ok (.i2d, 1) := by decide +kernel
theorem d8_9 : decode prog_19_method_3_code 9 = .ok (.dcmp .l, 1) := by decide +kernel
theorem d8_10 : decode prog_19_method_3_code 10 = .ok (.ifCond .lt 10, 3) := by decide +kernel
theorem d8_13 : decode prog_19_method_3_code 13 = .ok (.dload_n 3, 1) := by decide +kernel
theorem d8_14 : decode prog_19_method_3_code 14 = .ok (.iload_n 2, 1) := by decide +kernel
theorem d8_15 : decode prog_19_method_3_code 15 = .ok (.i2d, 1) := by decide +kernel
theorem d8_16 : decode prog_19_method_3_code 16 = .ok (.dcmp .g, 1) := by decide +kernel
theorem d8_17 : decode prog_19_method_3_code 17 = .ok (.ifCond .le 23, 3) := by decide +kernel
theorem d8_40 : decode prog_19_method_3_code 40 = .ok (.return_, 1) := by decide +kernel
theorem pn_8 : plainFor (⟨"com/example/mayes/mayes/GeoPt", "checkRange", "(Ljava/lang/String;Ljava/lang/Number;I)V"⟩ : MethodName) = true := plainFor_of_name (by first | (simp [plainName, overriddenIn]; done) | decide +kernel)
theorem pd___D : parseMethodDescriptor "()D" = some ⟨[], some .double⟩ := by decide +kernel
theorem ef_con_ckr (m : MethodId) (a1 a2 : Addr) (p3 : Int32) (f : UInt32)  : entryFrame m #[(.ref a1), (.ref a2), (.int p3)] 5 = mkF m 0 #[.val (.ref a1), .val (.ref a2), .val (.int p3), .unset, .unset] [] := by first | (simp [entryFrame, mkF, argsToLocals, Value.category]; done) | rfl
set_option maxRecDepth 65536 in
set_option maxHeartbeats 40000000 in
theorem con_ckr (l : Launch) (Z : State) (a0 : Array Value) (hw : ∀ d ∈ tables_1, d.before a0 Z = true) (n0 : Nat) (h0 : Heap) (Z0 : n0 ≤ h0.size) (a1 a2 : Addr) (p3 : Int32) (f : UInt32) (E2 : Exa Z h0 a2 "java/lang/Float") (F2 : Fld Z h0 a2 "java/lang/Float" "value" "F" (.float f)) (hnn : Jvm.Free.Fl.NoNaN64 (FP.f2d f)) (hlo : ¬ cmpValue (FP.dcmp (FP.f2d f) (FP.i2d (-p3))) .l < (0 : Int32)) (hhi : ¬ (0 : Int32) < cmpValue (FP.dcmp (FP.f2d f) (FP.i2d p3)) .g) :
    Con l Z n0 (⟨"com/example/mayes/mayes/GeoPt", "checkRange", "(Ljava/lang/String;Ljava/lang/Number;I)V"⟩ : MethodName) prog_19_method_3_code 5 none ({ frames := 1, cells := 0, slots := 0, locals := 12 } : Room) #[(.ref a1), (.ref a2), (.int p3)] h0 (Vd fun h' => h0 = h') := by
  refine Con.of_run pn_8 (fun m => ef_con_ckr m a1 a2 p3 f ) ?_
  refine Run.aloadN d8_0 rfl rfl (pc' := 1) rfl ?_
  refine Run.callV (k' := 0) (n' := 0) (a := a2) (as := []) (rest := []) (con_fdv l Z a0 hw n0 h0 Z0 a2 f F2 hnn ) E2 d8_1 (hw _ (List.mem_of_getElem? (i := 49) rfl)) (hw _ (List.mem_of_getElem? (i := 50) rfl)) (fun s hZ => nf_super (args := #[]) (mvT hZ (hw _ (List.mem_of_getElem? (i := 82) rfl)))) (hw _ (List.mem_of_getElem? (i := 51) rfl)) (hw _ (List.mem_of_getElem? (i := 52) rfl)) (hw _ (List.mem_of_getElem? (i := 18) rfl)) (hw _ (List.mem_of_getElem? (i := 53) rfl)) (by decide) pd___D rfl rfl rfl (by decide) (by show (0 : Nat) + (1 + 11) + 0 ≤ _; decide) (by decide) (by decide) (by decide) (by decide) (pc' := 4) rfl ?_
  rintro _ _ ⟨_, rfl, rfl, rfl⟩
  show Run l Z n0 "com/example/mayes/mayes/GeoPt" prog_19_method_3_code 5 none "checkRange" ({ frames := 1, cells := 0, slots := 0, locals := 12 } : Room) _ 4 #[.val (.ref a1), .val (.ref a2), .val (.int p3), .unset, .unset] [(.double (FP.f2d f))] h0 0 0
  refine Run.dstoreN (l' := #[.val (.ref a1), .val (.ref a2), .val (.int p3), .val (.double (FP.f2d f)), .second]) d8_4 rfl (pc' := 5) rfl ?_
  refine Run.dloadN d8_5 rfl (pc' := 6) rfl ?_
  refine Run.iloadN d8_6 rfl (pc' := 7) rfl ?_
  refine Run.ineg d8_7 (pc' := 8) rfl ?_
  refine Run.i2d d8_8 (pc' := 9) rfl ?_
  refine Run.dcmp d8_9 (pc' := 10) rfl ?_
  refine Run.if_lt d8_10 (by decide) (pc' := 20) (by decide) (pa := 13) rfl (fun hc10 => ?_) (fun hc10 => ?_)
  · -- pc 10 taken: (cmpValue (FP.dcmp (FP.f2d f) (FP.i2d (-p3))) .l) < (0 : Int32)
    exact absurd hc10 hlo
  · -- pc 10 not taken: ¬ (cmpValue (FP.dcmp (FP.f2d f) (FP.i2d (-p3))) .l) < (0 : Int32)
    refine Run.dloadN d8_13 rfl (pc' := 14) rfl ?_
    refine Run.iloadN d8_14 rfl (pc' := 15) rfl ?_
    refine Run.i2d d8_15 (pc' := 16) rfl ?_
    refine Run.dcmp d8_16 (pc' := 17) rfl ?_
    refine Run.if_le d8_17 (by decide) (pc' := 40) (by decide) (pa := 20) rfl (fun hc17 => ?_) (fun hc17 => ?_)
    · -- pc 17 taken: ¬ (0 : Int32) < (cmpValue (FP.dcmp (FP.f2d f) (FP.i2d p3)) .g)
      exact Run.vreturn d8_40 rfl (by decide) (by decide) ⟨rfl, rfl⟩
    · -- pc 17 not taken: (0 : Int32) < (cmpValue (FP.dcmp (FP.f2d f) (FP.i2d p3)) .g)
      exact absurd hc17 hhi
theorem d7_0 : decode prog_19_method_2_code 0 = .ok (.ldc 26, 2) := by decide +kernel
theorem d7_2 : decode prog_19_method_2_code 2 = .ok (.aload_n 0, 1) := by decide +kernel
theorem d7_3 : decode prog_19_method_2_code 3 = .ok (.bipush 90, 2) := by decide +kernel
theorem d7_5 : decode prog_19_method_2_code 5 = .ok (.invokestatic 27, 3) := by decide +kernel
theorem d7_8 : decode prog_19_method_2_code 8 = .ok (.ldc 31, 2) := by decide +kernel
theorem d7_10 : decode prog_19_method_2_code 10 = .ok (.aload_n 1, 1) := by decide +kernel
theorem d7_11 : decode prog_19_method_2_code 11 = .ok (.sipush 180, 3) := by decide +kernel
theorem d7_14 : decode prog_19_method_2_code 14 = .ok (.invokestatic 27, 3) := by decide +kernel
theorem d7_17 : decode prog_19_method_2_code 17 = .ok (.return_, 1) := by decide +kernel
theorem pn_7 : plainFor (⟨"com/example/mayes/mayes/GeoPt", "checkCoordinates", "(Ljava/lang/Number;Ljava/lang/Number;)V"⟩ : MethodName) = true := plainFor_of_name (by first | (simp [plainName, overriddenIn]; done) | decide +kernel)
theorem pd__Ljava_lang_String_Ljava_lang_Number_I_V : parseMethodDescriptor "(Ljava/lang/String;Ljava/lang/Number;I)V" = some ⟨[(.object "java/lang/String"), (.object "java/lang/Number"), .int], none⟩ := by decide +kernel
theorem ef_con_ckc (m : MethodId) (a1 a2 : Addr) (f1 f2 : UInt32) (r1 r2 : Int)  : entryFrame m #[(.ref a1), (.ref a2)] 2 = mkF m 0 #[.val (.ref a1), .val (.ref a2)] [] := by first | (simp [entryFrame, mkF, argsToLocals, Value.category]; done) | rfl
set_option maxRecDepth 65536 in
set_option maxHeartbeats 40000000 in
theorem con_ckc (l : Launch) (Z : State) (a0 : Array Value) (hw : ∀ d ∈ tables_1, d.before a0 Z = true) (n0 : Nat) (h0 : Heap) (Z0 : n0 ≤ h0.size) (a1 a2 : Addr) (f1 f2 : UInt32) (r1 r2 : Int) (E1 : Exa Z h0 a1 "java/lang/Float") (F1 : Fld Z h0 a1 "java/lang/Float" "value" "F" (.float f1)) (E2 : Exa Z h0 a2 "java/lang/Float") (F2 : Fld Z h0 a2 "java/lang/Float" "value" "F" (.float f2)) (i1 : own_is f1 r1) (i2 : own_is f2 r2) (hr1 : -92160 ≤ r1 ∧ r1 ≤ 92160) (hr2 : -184320 ≤ r2 ∧ r2 ≤ 184320) :
    ConW l Z own_EL n0 (⟨"com/example/mayes/mayes/GeoPt", "checkCoordinates", "(Ljava/lang/Number;Ljava/lang/Number;)V"⟩ : MethodName) prog_19_method_2_code 2 none ({ frames := 2, cells := 4, slots := 76, locals := 28 } : Room) #[(.ref a1), (.ref a2)] h0 [] (Vd fun h' => Ext h0 h') := by
  refine ConW.of_run (own_EW hw) pn_7 (fun m => ef_con_ckc m a1 a2 f1 f2 r1 r2 ) ?_
  intro vm hal hsf
  refine RunW.ldcU (len := 32) (k' := 2) (n' := 36) d7_0 (hw _ (List.mem_of_getElem? (i := 38) rfl)) (own_wS hw) (own_EW hw) (by decide) (by decide) (by decide) (by decide) (by decide) (by decide) (pc' := 2) rfl ?_
  intro h11 vm11 a11 E11 c11
  have E_a1_11 := E1.ext E11
  have F_a1_value_11 := F1.ext E11
  have E_a2_11 := E2.ext E11
  have F_a2_value_11 := F2.ext E11
  have sz11 : n0 ≤ h11.size := Nat.le_trans Z0 E11.1
  have kp11 := Keep.ext (Keep.refl h0 []) E11
  refine RunW.aloadN d7_2 rfl rfl (pc' := 3) rfl ?_
  refine RunW.bipush (90 : Int32) d7_3 (by decide) (pc' := 5) rfl ?_
  refine RunW.callS (k' := 2) (n' := 36) (as := [(.ref a11), (.ref a1), (.int (90 : Int32))]) (rest := []) (con_ckr l Z a0 hw n0 h11 sz11 a11 a1 (90 : Int32) f1 E_a1_11 F_a1_value_11 (own_is_d i1).1 ((own_rng i1).1 hr1.1 hr1.2).1 ((own_rng i1).1 hr1.1 hr1.2).2) (by rintro _ _ ⟨rfl, rfl⟩; exact ⟨[], Keep.refl _ _, all0⟩) d7_5 (hw _ (List.mem_of_getElem? (i := 46) rfl)) (hw _ (List.mem_of_getElem? (i := 47) rfl)) (hw _ (List.mem_of_getElem? (i := 4) rfl)) (hw _ (List.mem_of_getElem? (i := 48) rfl)) (by decide) pd__Ljava_lang_String_Ljava_lang_Number_I_V rfl rfl rfl (by decide) (by show (0 : Nat) + (5 + 11) + 12 ≤ _; decide) (by decide) (by decide) (by decide) (by decide) (pc' := 8) rfl ?_
  rintro _ _ ⟨rfl, rfl⟩ c12
  show RunW l Z own_EL n0 "com/example/mayes/mayes/GeoPt" prog_19_method_2_code 2 none "checkCoordinates" ({ frames := 2, cells := 4, slots := 76, locals := 28 } : Room) _ 8 #[.val (.ref a1), .val (.ref a2)] [] h11 vm11 2 36
  refine RunW.ldcU (len := 36) (k' := 4) (n' := 76) d7_8 (hw _ (List.mem_of_getElem? (i := 54) rfl)) (own_wS hw) (own_EW hw) (by decide) (by decide) (by decide) (by decide) (by decide) (by decide) (pc' := 10) rfl ?_
  intro h13 vm13 a13 E13 c13
  have E_a1_13 := E_a1_11.ext E13
  have F_a1_value_13 := F_a1_value_11.ext E13
  have E_a2_13 := E_a2_11.ext E13
  have F_a2_value_13 := F_a2_value_11.ext E13
  have sz13 : n0 ≤ h13.size := Nat.le_trans sz11 E13.1
  have kp13 := Keep.ext kp11 E13
  refine RunW.aloadN d7_10 rfl rfl (pc' := 11) rfl ?_
  refine RunW.sipush (180 : Int32) d7_11 (by decide) (pc' := 14) rfl ?_
  refine RunW.callS (k' := 4) (n' := 76) (as := [(.ref a13), (.ref a2), (.int (180 : Int32))]) (rest := []) (con_ckr l Z a0 hw n0 h13 sz13 a13 a2 (180 : Int32) f2 E_a2_13 F_a2_value_13 (own_is_d i2).1 ((own_rng i2).2 hr2.1 hr2.2).1 ((own_rng i2).2 hr2.1 hr2.2).2) (by rintro _ _ ⟨rfl, rfl⟩; exact ⟨[], Keep.refl _ _, all0⟩) d7_14 (hw _ (List.mem_of_getElem? (i := 46) rfl)) (hw _ (List.mem_of_getElem? (i := 47) rfl)) (hw _ (List.mem_of_getElem? (i := 4) rfl)) (hw _ (List.mem_of_getElem? (i := 48) rfl)) (by decide) pd__Ljava_lang_String_Ljava_lang_Number_I_V rfl rfl rfl (by decide) (by show (0 : Nat) + (5 + 11) + 12 ≤ _; decide) (by decide) (by decide) (by decide) (by decide) (pc' := 17) rfl ?_
  rintro _ _ ⟨rfl, rfl⟩ c14
  show RunW l Z own_EL n0 "com/example/mayes/mayes/GeoPt" prog_19_method_2_code 2 none "checkCoordinates" ({ frames := 2, cells := 4, slots := 76, locals := 28 } : Room) _ 17 #[.val (.ref a1), .val (.ref a2)] [] h13 vm13 4 76
  exact RunW.vreturn d7_17 rfl (by decide) (by decide) ⟨rfl, Keep.toExt kp13⟩
theorem d2_0 : decode prog_19_method_1_code 0 = .ok (.aload_n 0, 1) := by decide +kernel
theorem d2_1 : decode prog_19_method_1_code 1 = .ok (.invokespecial 1, 3) := by decide +kernel
theorem d2_4 : decode prog_19_method_1_code 4 = .ok (.fload_n 1, 1) := by decide +kernel
theorem d2_5 : decode prog_19_method_1_code 5 = .ok (.invokestatic 7, 3) := by decide +kernel
theorem d2_8 : decode prog_19_method_1_code 8 = .ok (.fload_n 2, 1) := by decide +kernel
theorem d2_9 : decode prog_19_method_1_code 9 = .ok (.invokestatic 7, 3) := by decide +kernel
theorem d2_12 : decode prog_19_method_1_code 12 = .ok (.invokestatic 13, 3) := by decide +kernel
theorem d2_15 : decode prog_19_method_1_code 15 = .ok (.aload_n 0, 1) := by decide +kernel
theorem d2_16 : decode prog_19_method_1_code 16 = .ok (.fload_n 1, 1) := by decide +kernel
theorem d2_17 : decode prog_19_method_1_code 17 = .ok (.fconst 0, 1) := by decide +kernel
theorem d2_18 : decode prog_19_method_1_code 18 = .ok (.fadd, 1) := by decide +kernel
theorem d2_19 : decode prog_19_method_1_code 19 = .ok (.putfield 19, 3) := by decide +kernel
theorem d2_22 : decode prog_19_method_1_code 22 = .ok (.aload_n 0, 1) := by decide +kernel
theorem d2_23 : decode prog_19_method_1_code 23 = .ok (.fload_n 2, 1) := by decide +kernel
theorem d2_24 : decode prog_19_method_1_code 24 = .ok (.fconst 0, 1) := by decide +kernel
theorem d2_25 : decode prog_19_method_1_code 25 = .ok (.fadd, 1) := by decide +kernel
theorem d2_26 : decode prog_19_method_1_code 26 = .ok (.putfield 23, 3) := by decide +kernel
theorem d2_29 : decode prog_19_method_1_code 29 = .ok (.return_, 1) := by decide +kernel
theorem pn_2 : plainFor (⟨"com/example/mayes/mayes/GeoPt", "<init>", "(FF)V"⟩ : MethodName) = true := plainFor_of_name (by first | (simp [plainName, overriddenIn]; done) | decide +kernel)
theorem pd__F_Ljava_lang_Float_ : parseMethodDescriptor "(F)Ljava/lang/Float;" = some ⟨[.float], some (.object "java/lang/Float")⟩ := by decide +kernel
theorem pd__Ljava_lang_Number_Ljava_lang_Number__V : parseMethodDescriptor "(Ljava/lang/Number;Ljava/lang/Number;)V" = some ⟨[(.object "java/lang/Number"), (.object "java/lang/Number")], none⟩ := by decide +kernel
theorem ef_con_gpt (m : MethodId) (a1 : Addr) (f1 f2 : UInt32) (r1 r2 : Int)  : entryFrame m #[(.ref a1), (.float f1), (.float f2)] 3 = mkF m 0 #[.val (.ref a1), .val (.float f1), .val (.float f2)] [] := by first | (simp [entryFrame, mkF, argsToLocals, Value.category]; done) | rfl
set_option maxRecDepth 65536 in
set_option maxHeartbeats 40000000 in
theorem con_gpt (l : Launch) (Z : State) (a0 : Array Value) (hw : ∀ d ∈ tables_1, d.before a0 Z = true) (n0 : Nat) (h0 : Heap) (Z0 : n0 ≤ h0.size) (a1 : Addr) (f1 f2 : UInt32) (r1 r2 : Int) (E1 : Exa Z h0 a1 "com/example/mayes/mayes/GeoPt") (F1 : Fld Z h0 a1 "com/example/mayes/mayes/GeoPt" "latitude" "F" (.float 0)) (F2 : Fld Z h0 a1 "com/example/mayes/mayes/GeoPt" "longitude" "F" (.float 0)) (g1 : n0 ≤ a1) (i1 : own_is f1 r1) (i2 : own_is f2 r2) (hr1 : -92160 ≤ r1 ∧ r1 ≤ 92160) (hr2 : -184320 ≤ r2 ∧ r2 ≤ 184320) :
    ConW l Z own_EL n0 (⟨"com/example/mayes/mayes/GeoPt", "<init>", "(FF)V"⟩ : MethodName) prog_19_method_1_code 3 none ({ frames := 4, cells := 6, slots := 78, locals := 51 } : Room) #[(.ref a1), (.float f1), (.float f2)] h0 [a1] (Vd fun h' => Keep h0 h' [a1] ∧ Fld Z h' a1 "com/example/mayes/mayes/GeoPt" "latitude" "F" (.float (FP.fadd f1 0)) ∧ Fld Z h' a1 "com/example/mayes/mayes/GeoPt" "longitude" "F" (.float (FP.fadd f2 0))) := by
  refine ConW.of_run (own_EW hw) pn_2 (fun m => ef_con_gpt m a1 f1 f2 r1 r2 ) ?_
  intro vm hal hsf
  have sf_a1 := hsf a1 (List.mem_of_getElem? (i := 0) rfl)
  refine RunW.aloadN d2_0 rfl rfl (pc' := 1) rfl ?_
  refine RunW.initO d2_1 (hw _ (List.mem_of_getElem? (i := 13) rfl)) (hw _ (List.mem_of_getElem? (i := 14) rfl)) (hw _ (List.mem_of_getElem? (i := 15) rfl)) rfl (by decide) (by show (0 : Nat) + 12 ≤ _; decide) (pc' := 4) rfl ?_
  refine RunW.floadN d2_4 rfl (pc' := 5) rfl ?_
  refine RunW.callS (k' := 1) (n' := 1) (as := [(.float f1)]) (rest := []) (con_fvo l Z a0 hw n0 h0 Z0 f1) (by rintro _ _ ⟨_, rfl, ⟨t_, rfl, E_, bw_, X_, P_⟩⟩; exact ⟨[], Keep.ofExt E_, all0⟩) d2_5 (hw _ (List.mem_of_getElem? (i := 16) rfl)) (hw _ (List.mem_of_getElem? (i := 17) rfl)) (hw _ (List.mem_of_getElem? (i := 18) rfl)) (hw _ (List.mem_of_getElem? (i := 19) rfl)) (by decide) pd__F_Ljava_lang_Float_ rfl rfl rfl (by decide) (by show (0 : Nat) + (1 + 11) + 38 ≤ _; decide) (by decide) (by decide) (by decide) (by decide) (pc' := 8) rfl ?_
  rintro _ h11 ⟨_, rfl, ⟨t11, rfl, E11, bw11, X11, P11⟩⟩ c11
  show RunW l Z own_EL n0 "com/example/mayes/mayes/GeoPt" prog_19_method_1_code 3 none "<init>" ({ frames := 4, cells := 6, slots := 78, locals := 51 } : Room) _ 8 #[.val (.ref a1), .val (.float f1), .val (.float f2)] [(.ref t11)] h11 vm 1 1
  have ge_t11 : n0 ≤ t11 := Nat.le_trans Z0 bw11
  have bo_t11 : h0.size ≤ t11 := Nat.le_trans (Keep.refl h0 [a1]).1 bw11
  have ne_a1_t11 : a1 ≠ t11 := Nat.ne_of_lt (Nat.lt_of_lt_of_le E1.lt bw11)
  have E_a1_11 := E1.ext E11
  have F_a1_latitude_11 := F1.ext E11
  have F_a1_longitude_11 := F2.ext E11
  have Z_a1_11 := CHr.safe c11 E1.lt sf_a1
  have sz11 : n0 ≤ h11.size := Nat.le_trans Z0 E11.1
  have kp11 := Keep.ext (Keep.refl h0 [a1]) E11
  refine RunW.floadN d2_8 rfl (pc' := 9) rfl ?_
  refine RunW.callS (k' := 2) (n' := 2) (as := [(.float f2)]) (rest := [(.ref t11)]) (con_fvo l Z a0 hw n0 h11 sz11 f2) (by rintro _ _ ⟨_, rfl, ⟨t_, rfl, E_, bw_, X_, P_⟩⟩; exact ⟨[], Keep.ofExt E_, all0⟩) d2_9 (hw _ (List.mem_of_getElem? (i := 16) rfl)) (hw _ (List.mem_of_getElem? (i := 17) rfl)) (hw _ (List.mem_of_getElem? (i := 18) rfl)) (hw _ (List.mem_of_getElem? (i := 19) rfl)) (by decide) pd__F_Ljava_lang_Float_ rfl rfl rfl (by decide) (by show (1 : Nat) + (1 + 11) + 38 ≤ _; decide) (by decide) (by decide) (by decide) (by decide) (pc' := 12) rfl ?_
  rintro _ h12 ⟨_, rfl, ⟨t12, rfl, E12, bw12, X12, P12⟩⟩ c12
  show RunW l Z own_EL n0 "com/example/mayes/mayes/GeoPt" prog_19_method_1_code 3 none "<init>" ({ frames := 4, cells := 6, slots := 78, locals := 51 } : Room) _ 12 #[.val (.ref a1), .val (.float f1), .val (.float f2)] [(.ref t12), (.ref t11)] h12 vm 2 2
  have ge_t12 : n0 ≤ t12 := Nat.le_trans sz11 bw12
  have bo_t12 : h0.size ≤ t12 := Nat.le_trans kp11.1 bw12
  have ne_a1_t12 : a1 ≠ t12 := Nat.ne_of_lt (Nat.lt_of_lt_of_le E_a1_11.lt bw12)
  have ne_t11_t12 : t11 ≠ t12 := Nat.ne_of_lt (Nat.lt_of_lt_of_le X11.lt bw12)
  have E_a1_12 := E_a1_11.ext E12
  have F_a1_latitude_12 := F_a1_latitude_11.ext E12
  have F_a1_longitude_12 := F_a1_longitude_11.ext E12
  have Z_a1_12 := CHr.safe c12 E_a1_11.lt Z_a1_11
  have E_t11_12 := X11.ext E12
  have F_t11_value_12 := P11.ext E12
  have sz12 : n0 ≤ h12.size := Nat.le_trans sz11 E12.1
  have kp12 := Keep.ext kp11 E12
  refine RunW.callSW (k' := 6) (n' := 78) (as := [(.ref t11), (.ref t12)]) (rest := []) (con_ckc l Z a0 hw n0 h12 sz12 t11 t12 f1 f2 r1 r2 E_t11_12 F_t11_value_12 X12 P12 i1 i2 hr1 hr2) all0 (own_EW hw) d2_12 (hw _ (List.mem_of_getElem? (i := 35) rfl)) (hw _ (List.mem_of_getElem? (i := 36) rfl)) (hw _ (List.mem_of_getElem? (i := 4) rfl)) (hw _ (List.mem_of_getElem? (i := 37) rfl)) (by decide) pd__Ljava_lang_Number_Ljava_lang_Number__V rfl rfl rfl (by decide) (by show (0 : Nat) + (2 + 11) + 28 ≤ _; decide) (by decide) (by decide) (by decide) (by decide) (pc' := 15) rfl ?_
  rintro _ h13 vm13 ⟨rfl, E13⟩ c13
  show RunW l Z own_EL n0 "com/example/mayes/mayes/GeoPt" prog_19_method_1_code 3 none "<init>" ({ frames := 4, cells := 6, slots := 78, locals := 51 } : Room) _ 15 #[.val (.ref a1), .val (.float f1), .val (.float f2)] [] h13 vm13 6 78
  have E_a1_13 := E_a1_12.ext E13
  have F_a1_latitude_13 := F_a1_latitude_12.ext E13
  have F_a1_longitude_13 := F_a1_longitude_12.ext E13
  have Z_a1_13 := CHr.safe c13 E_a1_12.lt Z_a1_12
  have E_t11_13 := E_t11_12.ext E13
  have F_t11_value_13 := F_t11_value_12.ext E13
  have E_t12_13 := X12.ext E13
  have F_t12_value_13 := P12.ext E13
  have sz13 : n0 ≤ h13.size := Nat.le_trans sz12 E13.1
  have kp13 := Keep.ext kp12 E13
  refine RunW.aloadN d2_15 rfl rfl (pc' := 16) rfl ?_
  refine RunW.floadN d2_16 rfl (pc' := 17) rfl ?_
  refine RunW.fconst0 d2_17 (pc' := 18) rfl ?_
  refine RunW.fadd d2_18 (own_is_nn (own_is_add i1)) (pc' := 19) rfl ?_
  refine RunW.putF d2_19 (host := "") (Or.inl (hw _ (List.mem_of_getElem? (i := 55) rfl))) Via.refl F_a1_latitude_13 E_a1_13 (Or.inr ⟨(hw _ (List.mem_of_getElem? (i := 56) rfl)), rfl, rfl⟩) (hw _ (List.mem_of_getElem? (i := 3) rfl)) (ty := .float) (by decide) rfl rfl g1 Z_a1_13 (pc' := 22) rfl ?_
  intro h14 W14 c14
  have Fw14 := F_a1_latitude_13.same W14
  have E_a1_14 := E_a1_13.wr W14
  have F_a1_longitude_14 := F_a1_longitude_13.other W14 (Or.inr (slot_ne (Or.inr (hw _ (List.mem_of_getElem? (i := 58) rfl))) (Or.inr (hw _ (List.mem_of_getElem? (i := 56) rfl))) (by decide) (t := .float) (t' := .float) (by decide) (by decide)))
  have Z_a1_14 := CHr.safe c14 E_a1_13.lt Z_a1_13
  have E_t11_14 := E_t11_13.wr W14
  have F_t11_value_14 := F_t11_value_13.other W14 (Or.inl (Ne.symm ne_a1_t11))
  have E_t12_14 := E_t12_13.wr W14
  have F_t12_value_14 := F_t12_value_13.other W14 (Or.inl (Ne.symm ne_a1_t12))
  have sz14 : n0 ≤ h14.size := by rw [W14.size]; exact sz13
  have kp14 := Keep.wr kp13 W14 (Or.inl (List.mem_of_getElem? (i := 0) rfl))
  refine RunW.aloadN d2_22 rfl rfl (pc' := 23) rfl ?_
  refine RunW.floadN d2_23 rfl (pc' := 24) rfl ?_
  refine RunW.fconst0 d2_24 (pc' := 25) rfl ?_
  refine RunW.fadd d2_25 (own_is_nn (own_is_add i2)) (pc' := 26) rfl ?_
  refine RunW.putF d2_26 (host := "") (Or.inl (hw _ (List.mem_of_getElem? (i := 57) rfl))) Via.refl F_a1_longitude_14 E_a1_14 (Or.inr ⟨(hw _ (List.mem_of_getElem? (i := 58) rfl)), rfl, rfl⟩) (hw _ (List.mem_of_getElem? (i := 3) rfl)) (ty := .float) (by decide) rfl rfl g1 Z_a1_14 (pc' := 29) rfl ?_
  intro h15 W15 c15
  have Fw15 := F_a1_longitude_14.same W15
  have E_a1_15 := E_a1_14.wr W15
  have Z_a1_15 := CHr.safe c15 E_a1_14.lt Z_a1_14
  have E_t11_15 := E_t11_14.wr W15
  have F_t11_value_15 := F_t11_value_14.other W15 (Or.inl (Ne.symm ne_a1_t11))
  have E_t12_15 := E_t12_14.wr W15
  have F_t12_value_15 := F_t12_value_14.other W15 (Or.inl (Ne.symm ne_a1_t12))
  have F_a1_latitude_15 := Fw14.other W15 (Or.inr (slot_ne (Or.inr (hw _ (List.mem_of_getElem? (i := 56) rfl))) (Or.inr (hw _ (List.mem_of_getElem? (i := 58) rfl))) (by decide) (t := .float) (t' := .float) (by decide) (by decide)))
  have sz15 : n0 ≤ h15.size := by rw [W15.size]; exact sz14
  have kp15 := Keep.wr kp14 W15 (Or.inl (List.mem_of_getElem? (i := 0) rfl))
  exact RunW.vreturn d2_29 rfl (by decide) (by decide) ⟨rfl, kp15, F_a1_latitude_15, Fw15⟩
theorem d10_0 : decode prog_19_method_8_code 0 = .ok (.aload_n 1, 1) := by decide +kernel
theorem d10_1 : decode prog_19_method_8_code 1 = .ok (.instanceof 14, 3) := by decide +kernel
theorem d10_4 : decode prog_19_method_8_code 4 = .ok (.ifCond .eq 36, 3) := by decide +kernel
theorem d10_7 : decode prog_19_method_8_code 7 = .ok (.aload_n 1, 1) := by decide +kernel
theorem d10_8 : decode prog_19_method_8_code 8 = .ok (.checkcast 14, 3) := by decide +kernel
theorem d10_11 : decode prog_19_method_8_code 11 = .ok (.astore_n 2, 1) := by decide +kernel
theorem d10_12 : decode prog_19_method_8_code 12 = .ok (.aload_n 0, 1) := by decide +kernel
theorem d10_13 : decode prog_19_method_8_code 13 = .ok (.getfield 19, 3) := by decide +kernel
theorem d10_16 : decode prog_19_method_8_code 16 = .ok (.aload_n 2, 1) := by decide +kernel
theorem d10_17 : decode prog_19_method_8_code 17 = .ok (.getfield 19, 3) := by decide +kernel
theorem d10_20 : decode prog_19_method_8_code 20 = .ok (.fcmp .l, 1) := by decide +kernel
theorem d10_21 : decode prog_19_method_8_code 21 = .ok (.ifCond .ne 19, 3) := by decide +kernel
theorem d10_24 : decode prog_19_method_8_code 24 = .ok (.aload_n 0, 1) := by decide +kernel
theorem d10_25 : decode prog_19_method_8_code 25 = .ok (.getfield 23, 3) := by decide +kernel
theorem d10_28 : decode prog_19_method_8_code 28 = .ok (.aload_n 2, 1) := by decide +kernel
theorem d10_29 : decode prog_19_method_8_code 29 = .ok (.getfield 23, 3) := by decide +kernel
theorem d10_32 : decode prog_19_method_8_code 32 = .ok (.fcmp .l, 1) := by decide +kernel
theorem d10_33 : decode prog_19_method_8_code 33 = .ok (.ifCond .ne 7, 3) := by decide +kernel
theorem d10_36 : decode prog_19_method_8_code 36 = .ok (.iconst 1, 1) := by decide +kernel
theorem d10_37 : decode prog_19_method_8_code 37 = .ok (.goto 4, 3) := by decide +kernel
theorem d10_40 : decode prog_19_method_8_code 40 = .ok (.iconst 0, 1) := by decide +kernel
theorem d10_41 : decode prog_19_method_8_code 41 = .ok (.ireturn, 1) := by decide +kernel
theorem pn_10 : plainFor (⟨"com/example/mayes/mayes/GeoPt", "equals", "(Ljava/lang/Object;)Z"⟩ : MethodName) = true := plainFor_of_name (by first | (simp [plainName, overriddenIn]; done) | decide +kernel)
def own_eq (r s t u : Int) : Int32 := if r = t ∧ s = u then 1 else 0
theorem own_e1 {r s t u : Int} (h1 : r = t) (h2 : s = u) : own_eq r s t u = nar .boolean (1 : Int32) := by unfold own_eq; rw [if_pos ⟨h1, h2⟩]; rfl
theorem own_e2 {r s t u : Int} (h : ¬ r = t) : own_eq r s t u = nar .boolean (0 : Int32) := by unfold own_eq; rw [if_neg (fun z => h z.1)]; rfl
theorem own_e3 {r s t u : Int} (h : ¬ s = u) : own_eq r s t u = nar .boolean (0 : Int32) := by unfold own_eq; rw [if_neg (fun z => h z.2)]; rfl
theorem own_eY {r s t u : Int32} (h1 : r = t) (h2 : s = u) : own_eq r.toInt s.toInt t.toInt u.toInt = 1 := own_e1 (congrArg _ h1) (congrArg _ h2)
theorem own_eN {r s t u : Int32} (h : ¬ r = t) : own_eq r.toInt s.toInt t.toInt u.toInt = 0 := own_e2 (fun z => h (Int32.toInt_inj.mp z))
theorem own_eM {r s t u : Int32} (h : ¬ s = u) : own_eq r.toInt s.toInt t.toInt u.toInt = 0 := own_e3 (fun z => h (Int32.toInt_inj.mp z))
theorem own_eR (r s : Int) : Value.int (nar .boolean (own_eq r s r s)) = .int 1 := by rw [own_e1 rfl rfl]; rfl
def own_deg (p1 p2 : Int32) : UInt32 := if p1 = (0 : Int32) then (if p2 = (0 : Int32) then own_q p1 else 2147483648) else own_q p1
theorem own_deg_is {r z : Int32} (h1 : -184320 ≤ r.toInt) (h2 : r.toInt ≤ 184320) : own_is (own_deg r z) r.toInt := by
  have q := own_q_is (r := r) (by omega) (by omega)
  unfold own_deg
  split
  · split
    · exact q
    · rename_i h _; subst h; exact own_nz_is
  · exact q
theorem own_rem1 (x : Int32) : -92160 ≤ (x % (92161 : Int32)).toInt ∧ (x % (92161 : Int32)).toInt ≤ 92160 := by
  have h := c_irem x 92161 92161 rfl
  by_cases g : 0 ≤ x.toInt
  · have := h.1 g; omega
  · have := h.2 (by omega); omega
theorem own_rem2 (x : Int32) : -184320 ≤ (x % (184321 : Int32)).toInt ∧ (x % (184321 : Int32)).toInt ≤ 184320 := by
  have h := c_irem x 184321 184321 rfl
  by_cases g : 0 ≤ x.toInt
  · have := h.1 g; omega
  · have := h.2 (by omega); omega
theorem ef_conA (m : MethodId) (a1 : Addr) (a2 : Addr) (x1 y1 x2 y2 : UInt32) (r1 r2 r3 r4 : Int)  : entryFrame m #[(.ref a1), (.ref a2)] 3 = mkF m 0 #[.val (.ref a1), .val (.ref a2), .unset] [] := by first | (simp [entryFrame, mkF, argsToLocals, Value.category]; done) | rfl
set_option maxRecDepth 65536 in
set_option maxHeartbeats 40000000 in
theorem conA (l : Launch) (Z : State) (a0 : Array Value) (hw : ∀ d ∈ tables_1, d.before a0 Z = true) (n0 : Nat) (h0 : Heap) (Z0 : n0 ≤ h0.size) (a1 : Addr) (a2 : Addr) (x1 y1 x2 y2 : UInt32) (r1 r2 r3 r4 : Int) (E2 : Exa Z h0 a2 "com/example/mayes/mayes/GeoPt") (Fx1 : Fld Z h0 a1 "com/example/mayes/mayes/GeoPt" "latitude" "F" (.float x1)) (Fy1 : Fld Z h0 a1 "com/example/mayes/mayes/GeoPt" "longitude" "F" (.float y1)) (Fx2 : Fld Z h0 a2 "com/example/mayes/mayes/GeoPt" "latitude" "F" (.float x2)) (Fy2 : Fld Z h0 a2 "com/example/mayes/mayes/GeoPt" "longitude" "F" (.float y2)) (ix1 : own_is x1 r1) (iy1 : own_is y1 r2) (ix2 : own_is x2 r3) (iy2 : own_is y2 r4) :
    Con l Z n0 (⟨"com/example/mayes/mayes/GeoPt", "equals", "(Ljava/lang/Object;)Z"⟩ : MethodName) prog_19_method_8_code 3 (some .boolean) ({ frames := 0, cells := 0, slots := 0, locals := 0 } : Room) #[(.ref a1), (.ref a2)] h0 (Val (PV (.int (own_eq r1 r2 r3 r4)) h0)) := by
  refine Con.of_run pn_10 (fun m => ef_conA m a1 a2 x1 y1 x2 y2 r1 r2 r3 r4 ) ?_
  refine Run.aloadN d10_0 rfl rfl (pc' := 1) rfl ?_
  refine Run.instY d10_1 (hw _ (List.mem_of_getElem? (i := 64) rfl)) (Ins.self E2) (pc' := 4) rfl ?_
  refine Run.if_eq d10_4 (by decide) (pc' := 40) (by decide) (pa := 7) rfl (fun hc4 => ?_) (fun hc4 => ?_)
  · -- pc 4 taken: (1 : Int32) = (0 : Int32)
    exact absurd hc4 (by decide)
  · -- pc 4 not taken: ¬ (1 : Int32) = (0 : Int32)
    refine Run.aloadN d10_7 rfl rfl (pc' := 8) rfl ?_
    refine Run.castY d10_8 (hw _ (List.mem_of_getElem? (i := 64) rfl)) (Ins.self E2) (pc' := 11) rfl ?_
    refine Run.astoreN (l' := #[.val (.ref a1), .val (.ref a2), .val (.ref a2)]) d10_11 rfl rfl (pc' := 12) rfl ?_
    refine Run.aloadN d10_12 rfl rfl (pc' := 13) rfl ?_
    refine Run.getF d10_13 (host := "") (Or.inl (hw _ (List.mem_of_getElem? (i := 55) rfl))) Via.refl Fx1 (pc' := 16) rfl ?_
    refine Run.aloadN d10_16 rfl rfl (pc' := 17) rfl ?_
    refine Run.getF d10_17 (host := "") (Or.inl (hw _ (List.mem_of_getElem? (i := 55) rfl))) Via.refl Fx2 (pc' := 20) rfl ?_
    refine Run.fcmp d10_20 (pc' := 21) rfl ?_
    refine Run.if_ne d10_21 (by decide) (pc' := 40) (by decide) (pa := 24) rfl (fun hc21 => ?_) (fun hc21 => ?_)
    · -- pc 21 taken: ¬ (cmpValue (FP.fcmp x1 x2) .l) = (0 : Int32)
      refine Run.iconst (0 : Int32) d10_40 (by decide) (pc' := 41) rfl ?_
      exact Run.nreturn d10_41 (ty := .boolean) rfl (by simp) (by decide) (by decide) ⟨_, rfl, congrArg Value.int (own_e2 (fun z => hc21 ((own_is_cmp ix1 ix2).mpr z))), rfl⟩
    · -- pc 21 not taken: (cmpValue (FP.fcmp x1 x2) .l) = (0 : Int32)
      refine Run.aloadN d10_24 rfl rfl (pc' := 25) rfl ?_
      refine Run.getF d10_25 (host := "") (Or.inl (hw _ (List.mem_of_getElem? (i := 57) rfl))) Via.refl Fy1 (pc' := 28) rfl ?_
      refine Run.aloadN d10_28 rfl rfl (pc' := 29) rfl ?_
      refine Run.getF d10_29 (host := "") (Or.inl (hw _ (List.mem_of_getElem? (i := 57) rfl))) Via.refl Fy2 (pc' := 32) rfl ?_
      refine Run.fcmp d10_32 (pc' := 33) rfl ?_
      refine Run.if_ne d10_33 (by decide) (pc' := 40) (by decide) (pa := 36) rfl (fun hc33 => ?_) (fun hc33 => ?_)
      · -- pc 33 taken: ¬ (cmpValue (FP.fcmp y1 y2) .l) = (0 : Int32)
        refine Run.iconst (0 : Int32) d10_40 (by decide) (pc' := 41) rfl ?_
        exact Run.nreturn d10_41 (ty := .boolean) rfl (by simp) (by decide) (by decide) ⟨_, rfl, congrArg Value.int (own_e3 (fun z => hc33 ((own_is_cmp iy1 iy2).mpr z))), rfl⟩
      · -- pc 33 not taken: (cmpValue (FP.fcmp y1 y2) .l) = (0 : Int32)
        refine Run.iconst (1 : Int32) d10_36 (by decide) (pc' := 37) rfl ?_
        refine Run.goto d10_37 (by decide) (pc' := 41) (by decide) ?_
        exact Run.nreturn d10_41 (ty := .boolean) rfl (by simp) (by decide) (by decide) ⟨_, rfl, congrArg Value.int (own_e1 ((own_is_cmp ix1 ix2).mp hc21) ((own_is_cmp iy1 iy2).mp hc33)), rfl⟩
theorem ef_conN (m : MethodId) (a1 : Addr)  : entryFrame m #[(.ref a1), .null] 3 = mkF m 0 #[.val (.ref a1), .val .null, .unset] [] := by first | (simp [entryFrame, mkF, argsToLocals, Value.category]; done) | rfl
set_option maxRecDepth 65536 in
set_option maxHeartbeats 40000000 in
theorem conN (l : Launch) (Z : State) (a0 : Array Value) (hw : ∀ d ∈ tables_1, d.before a0 Z = true) (n0 : Nat) (h0 : Heap) (Z0 : n0 ≤ h0.size) (a1 : Addr)  :
    Con l Z n0 (⟨"com/example/mayes/mayes/GeoPt", "equals", "(Ljava/lang/Object;)Z"⟩ : MethodName) prog_19_method_8_code 3 (some .boolean) ({ frames := 0, cells := 0, slots := 0, locals := 0 } : Room) #[(.ref a1), .null] h0 (Val (PV (.int 0) h0)) := by
  refine Con.of_run pn_10 (fun m => ef_conN m a1 ) ?_
  refine Run.aloadN d10_0 rfl rfl (pc' := 1) rfl ?_
  refine Run.instNull d10_1 (pc' := 4) rfl ?_
  refine Run.if_eq d10_4 (by decide) (pc' := 40) (by decide) (pa := 7) rfl (fun hc4 => ?_) (fun hc4 => ?_)
  · -- pc 4 taken: (0 : Int32) = (0 : Int32)
    refine Run.iconst (0 : Int32) d10_40 (by decide) (pc' := 41) rfl ?_
    exact Run.nreturn d10_41 (ty := .boolean) rfl (by simp) (by decide) (by decide) ⟨_, rfl, rfl, rfl⟩
  · -- pc 4 not taken: ¬ (0 : Int32) = (0 : Int32)
    exact absurd hc4 (by decide)
theorem ef_conI (m : MethodId) (a1 : Addr) (a2 : Addr)  : entryFrame m #[(.ref a1), (.ref a2)] 3 = mkF m 0 #[.val (.ref a1), .val (.ref a2), .unset] [] := by first | (simp [entryFrame, mkF, argsToLocals, Value.category]; done) | rfl
set_option maxRecDepth 65536 in
set_option maxHeartbeats 40000000 in
theorem conI (l : Launch) (Z : State) (a0 : Array Value) (hw : ∀ d ∈ tables_1, d.before a0 Z = true) (n0 : Nat) (h0 : Heap) (Z0 : n0 ≤ h0.size) (a1 : Addr) (a2 : Addr) (E2 : Exa Z h0 a2 "java/lang/Integer") :
    Con l Z n0 (⟨"com/example/mayes/mayes/GeoPt", "equals", "(Ljava/lang/Object;)Z"⟩ : MethodName) prog_19_method_8_code 3 (some .boolean) ({ frames := 0, cells := 0, slots := 0, locals := 0 } : Room) #[(.ref a1), (.ref a2)] h0 (Val (PV (.int 0) h0)) := by
  refine Con.of_run pn_10 (fun m => ef_conI m a1 a2 ) ?_
  refine Run.aloadN d10_0 rfl rfl (pc' := 1) rfl ?_
  refine Run.instNo d10_1 (hw _ (List.mem_of_getElem? (i := 64) rfl)) E2 (ns_no (hw _ (List.mem_of_getElem? (i := 81) rfl)) (hw _ (List.mem_of_getElem? (i := 3) rfl)) (NS.step (hw _ (List.mem_of_getElem? (i := 81) rfl)) (NS.step (hw _ (List.mem_of_getElem? (i := 82) rfl)) (ns_root (hw _ (List.mem_of_getElem? (i := 83) rfl)) (hw _ (List.mem_of_getElem? (i := 3) rfl)) (by decide)) (by decide)) (by decide)) (by decide)) (pc' := 4) rfl ?_
  refine Run.if_eq d10_4 (by decide) (pc' := 40) (by decide) (pa := 7) rfl (fun hc4 => ?_) (fun hc4 => ?_)
  · -- pc 4 taken: (0 : Int32) = (0 : Int32)
    refine Run.iconst (0 : Int32) d10_40 (by decide) (pc' := 41) rfl ?_
    exact Run.nreturn d10_41 (ty := .boolean) rfl (by simp) (by decide) (by decide) ⟨_, rfl, rfl, rfl⟩
  · -- pc 4 not taken: ¬ (0 : Int32) = (0 : Int32)
    exact absurd hc4 (by decide)
theorem d1_0 : decode method_2_code 0 = .ok (.iload_n 0, 1) := by decide +kernel
theorem d1_1 : decode method_2_code 1 = .ok (.ifCond .ne 10, 3) := by decide +kernel
theorem d1_4 : decode method_2_code 4 = .ok (.iload_n 1, 1) := by decide +kernel
theorem d1_5 : decode method_2_code 5 = .ok (.ifCond .eq 6, 3) := by decide +kernel
theorem d1_8 : decode method_2_code 8 = .ok (.ldc 7, 2) := by decide +kernel
theorem d1_10 : decode method_2_code 10 = .ok (.freturn, 1) := by decide +kernel
theorem d1_11 : decode method_2_code 11 = .ok (.iload_n 0, 1) := by decide +kernel
theorem d1_12 : decode method_2_code 12 = .ok (.i2f, 1) := by decide +kernel
theorem d1_13 : decode method_2_code 13 = .ok (.ldc 8, 2) := by decide +kernel
theorem d1_15 : decode method_2_code 15 = .ok (.fdiv, 1) := by decide +kernel
theorem d1_16 : decode method_2_code 16 = .ok (.freturn, 1) := by decide +kernel
theorem pn_1 : plainFor (⟨"com/example/mayes/mayes/GeoPtEqualsPinLaw", "deg", "(IZ)F"⟩ : MethodName) = true := plainFor_of_name (by first | (simp [plainName, overriddenIn]; done) | decide +kernel)
theorem ef_con_deg (m : MethodId) (p1 : Int32) (p2 : Int32)  : entryFrame m #[(.int p1), (.int p2)] 2 = mkF m 0 #[.val (.int p1), .val (.int p2)] [] := by first | (simp [entryFrame, mkF, argsToLocals, Value.category]; done) | rfl
set_option maxRecDepth 65536 in
set_option maxHeartbeats 40000000 in
theorem con_deg (l : Launch) (Z : State) (a0 : Array Value) (hw : ∀ d ∈ tables_1, d.before a0 Z = true) (n0 : Nat) (h0 : Heap) (Z0 : n0 ≤ h0.size) (p1 : Int32) (p2 : Int32) (h1 : -184320 ≤ p1.toInt) (h2 : p1.toInt ≤ 184320) :
    Con l Z n0 (⟨"com/example/mayes/mayes/GeoPtEqualsPinLaw", "deg", "(IZ)F"⟩ : MethodName) method_2_code 2 (some .float) ({ frames := 0, cells := 0, slots := 0, locals := 0 } : Room) #[(.int p1), (.int p2)] h0 (Val (PV (.float (own_deg p1 p2)) h0)) := by
  refine Con.of_run pn_1 (fun m => ef_con_deg m p1 p2 ) ?_
  refine Run.iloadN d1_0 rfl (pc' := 1) rfl ?_
  refine Run.if_ne d1_1 (by decide) (pc' := 11) (by decide) (pa := 4) rfl (fun hc1 => ?_) (fun hc1 => ?_)
  · -- pc 1 taken: ¬ p1 = (0 : Int32)
    refine Run.iloadN d1_11 rfl (pc' := 12) rfl ?_
    refine Run.i2f d1_12 (pc' := 13) rfl ?_
    refine Run.ldcF (v := (1149239296 : UInt32)) d1_13 (hw _ (List.mem_of_getElem? (i := 9) rfl)) (pc' := 15) rfl ?_
    refine Run.fdiv d1_15 (own_is_nn (own_q_is (by omega) (by omega))) (pc' := 16) rfl ?_
    exact Run.freturn d1_16 rfl (by decide) (by decide) ⟨_, rfl, congrArg Value.float (by unfold own_deg; rw [if_neg hc1]; rfl), rfl⟩
  · -- pc 1 not taken: p1 = (0 : Int32)
    refine Run.iloadN d1_4 rfl (pc' := 5) rfl ?_
    refine Run.if_eq d1_5 (by decide) (pc' := 11) (by decide) (pa := 8) rfl (fun hc5 => ?_) (fun hc5 => ?_)
    · -- pc 5 taken: p2 = (0 : Int32)
      refine Run.iloadN d1_11 rfl (pc' := 12) rfl ?_
      refine Run.i2f d1_12 (pc' := 13) rfl ?_
      refine Run.ldcF (v := (1149239296 : UInt32)) d1_13 (hw _ (List.mem_of_getElem? (i := 9) rfl)) (pc' := 15) rfl ?_
      refine Run.fdiv d1_15 (own_is_nn (own_q_is (by omega) (by omega))) (pc' := 16) rfl ?_
      exact Run.freturn d1_16 rfl (by decide) (by decide) ⟨_, rfl, congrArg Value.float (by unfold own_deg; rw [if_pos hc1, if_pos hc5]; rfl), rfl⟩
    · -- pc 5 not taken: ¬ p2 = (0 : Int32)
      refine Run.ldcF (v := (2147483648 : UInt32)) d1_8 (hw _ (List.mem_of_getElem? (i := 66) rfl)) (pc' := 10) rfl ?_
      exact Run.freturn d1_10 rfl (by decide) (by decide) ⟨_, rfl, congrArg Value.float (by unfold own_deg; rw [if_pos hc1, if_neg hc5]), rfl⟩
theorem pn_0 : plainFor x = true := plainFor_of_name (by first | (simp [plainName, overriddenIn]; done) | decide +kernel)
theorem pd__FF_V : parseMethodDescriptor "(FF)V" = some ⟨[.float, .float], none⟩ := by decide +kernel
theorem pd__I_Ljava_lang_Integer_ : parseMethodDescriptor "(I)Ljava/lang/Integer;" = some ⟨[.int], some (.object "java/lang/Integer")⟩ := by decide +kernel
theorem pd__IZ_F : parseMethodDescriptor "(IZ)F" = some ⟨[.int, .boolean], some .float⟩ := by decide +kernel
theorem pd__Ljava_lang_Object__Z : parseMethodDescriptor "(Ljava/lang/Object;)Z" = some ⟨[(.object "java/lang/Object")], some .boolean⟩ := by decide +kernel
theorem ef_con0 (m : MethodId) (p1 : Int32) (p2 : Int32) (p3 : Int32) (p4 : Int32) (p5 : Int32) (ac : Addr) (vs : List Value)  : entryFrame m #[(.int p1), (.int p2), (.int p3), (.int p4), (.int p5)] maxLocals = mkF m 0 #[.val (.int p1), .val (.int p2), .val (.int p3), .val (.int p4), .val (.int p5), .unset, .unset, .unset, .unset, .unset, .unset, .unset, .unset] [] := by first | (simp [entryFrame, mkF, argsToLocals, Value.category, maxLocals]; done) | rfl
set_option maxRecDepth 65536 in
set_option maxHeartbeats 40000000 in
theorem con0 (l : Launch) (Z : State) (a0 : Array Value) (hw : ∀ d ∈ tables_1, d.before a0 Z = true) (n0 : Nat) (h0 : Heap) (Z0 : n0 ≤ h0.size) (p1 : Int32) (p2 : Int32) (p3 : Int32) (p4 : Int32) (p5 : Int32) (ac : Addr) (vs : List Value) (od0 : Old Z n0 h0) (SH : Sta Z Z.heap "java/lang/Integer$IntegerCache" "high" "I" (.int (127 : Int32))) (SC : Sta Z Z.heap "java/lang/Integer$IntegerCache" "cache" "[Ljava/lang/Integer;" (.ref ac)) (AC : Ary Z Z.heap ac (.object "java/lang/Integer") vs) (hcache : ∀ a : Int32, (-128 ≤ a.toInt ∧ a.toInt ≤ 127) → ∃ bx, vs[(a.toInt + 128).toNat]? = some (.ref bx) ∧ Exa Z Z.heap bx "java/lang/Integer") :
    ConW l Z own_EL n0 x code maxLocals ret room_1 #[(.int p1), (.int p2), (.int p3), (.int p4), (.int p5)] h0 [] (Val fun w _ => w = .int 1) := by
  refine ConW.of_run (own_EW hw) pn_0 (fun m => ef_con0 m p1 p2 p3 p4 p5 ac vs ) ?_
  intro vm hal hsf
  refine RunW.iloadN at_0 rfl (pc' := 1) rfl ?_
  refine RunW.ldcI (v := (92161 : Int32)) at_1 (hw _ (List.mem_of_getElem? (i := 0) rfl)) (pc' := 3) rfl ?_
  refine RunW.irem at_3 (by decide) (pc' := 4) rfl ?_
  refine RunW.istore (l' := #[.val (.int p1), .val (.int p2), .val (.int p3), .val (.int p4), .val (.int p5), .val (.int (p1 % (92161 : Int32))), .unset, .unset, .unset, .unset, .unset, .unset, .unset]) at_4 rfl (pc' := 6) rfl ?_
  have h_r1 := own_rem1 p1
  generalize (p1 % (92161 : Int32)) = r1 at h_r1 ⊢
  refine RunW.iloadN at_6 rfl (pc' := 7) rfl ?_
  refine RunW.ldcI (v := (184321 : Int32)) at_7 (hw _ (List.mem_of_getElem? (i := 1) rfl)) (pc' := 9) rfl ?_
  refine RunW.irem at_9 (by decide) (pc' := 10) rfl ?_
  refine RunW.istore (l' := #[.val (.int p1), .val (.int p2), .val (.int p3), .val (.int p4), .val (.int p5), .val (.int r1), .val (.int (p3 % (184321 : Int32))), .unset, .unset, .unset, .unset, .unset, .unset]) at_10 rfl (pc' := 12) rfl ?_
  have h_s1 := own_rem2 p3
  generalize (p3 % (184321 : Int32)) = s1 at h_s1 ⊢
  refine RunW.iload at_12 rfl (pc' := 14) rfl ?_
  refine RunW.iconst (1 : Int32) at_14 (by decide) (pc' := 15) rfl ?_
  refine RunW.iand at_15 (pc' := 16) rfl ?_
  have J28 : ∀ r2 : Int32, (-92160 ≤ r2.toInt ∧ r2.toInt ≤ 92160) → RunW l Z own_EL n0 x.cls code maxLocals ret x.name room_1 (Val fun w _ => w = .int 1) 28 #[.val (.int p1), .val (.int p2), .val (.int p3), .val (.int p4), .val (.int p5), .val (.int r1), .val (.int s1), .unset, .unset, .unset, .unset, .unset, .unset] [(.int r2)] h0 vm 0 0 := by
    intro r2 h_r2
    refine RunW.istore (l' := #[.val (.int p1), .val (.int p2), .val (.int p3), .val (.int p4), .val (.int p5), .val (.int r1), .val (.int s1), .val (.int r2), .unset, .unset, .unset, .unset, .unset]) at_28 rfl (pc' := 30) rfl ?_
    refine RunW.iload at_30 rfl (pc' := 32) rfl ?_
    refine RunW.iconst (2 : Int32) at_32 (by decide) (pc' := 33) rfl ?_
    refine RunW.iand at_33 (pc' := 34) rfl ?_
    have J46 : ∀ s2 : Int32, (-184320 ≤ s2.toInt ∧ s2.toInt ≤ 184320) → RunW l Z own_EL n0 x.cls code maxLocals ret x.name room_1 (Val fun w _ => w = .int 1) 46 #[.val (.int p1), .val (.int p2), .val (.int p3), .val (.int p4), .val (.int p5), .val (.int r1), .val (.int s1), .val (.int r2), .unset, .unset, .unset, .unset, .unset] [(.int s2)] h0 vm 0 0 := by
      intro s2 h_s2
      refine RunW.istore (l' := #[.val (.int p1), .val (.int p2), .val (.int p3), .val (.int p4), .val (.int p5), .val (.int r1), .val (.int s1), .val (.int r2), .val (.int s2), .unset, .unset, .unset, .unset]) at_46 rfl (pc' := 48) rfl ?_
      refine RunW.newO (k' := 1) (n' := 2) at_48 (hw _ (List.mem_of_getElem? (i := 2) rfl)) (hw _ (List.mem_of_getElem? (i := 3) rfl)) (hw _ (List.mem_of_getElem? (i := 4) rfl)) (by decide) (by decide) (by decide) (by decide) (pc' := 51) rfl ?_
      intro h11 b11 g11 E11 X11 D11 c11 sf11
      have ge_b11 : n0 ≤ b11 := by rw [g11]; exact Z0
      have bo_b11 : h0.size ≤ b11 := by rw [g11]; exact (Keep.refl h0 []).1
      have ne_ac_b11 : ac ≠ b11 := Nat.ne_of_lt (Nat.lt_of_lt_of_le (od0.1 ▸ AC.lt) ge_b11)
      have sz11 : n0 ≤ h11.size := Nat.le_trans Z0 E11.1
      have kp11 := Keep.ext (Keep.refl h0 []) E11
      have od11 := od0.ext E11
      have F_b11_latitude : Fld Z h11 b11 "com/example/mayes/mayes/GeoPt" "latitude" "F" (.float 0) := D11 (Or.inr (hw _ (List.mem_of_getElem? (i := 56) rfl))) (ty := .float) (by decide)
      have F_b11_longitude : Fld Z h11 b11 "com/example/mayes/mayes/GeoPt" "longitude" "F" (.float 0) := D11 (Or.inr (hw _ (List.mem_of_getElem? (i := 58) rfl))) (ty := .float) (by decide)
      refine RunW.dup at_51 rfl (pc' := 52) rfl ?_
      refine RunW.iload at_52 rfl (pc' := 54) rfl ?_
      refine RunW.iload at_54 rfl (pc' := 56) rfl ?_
      refine RunW.iconst (4 : Int32) at_56 (by decide) (pc' := 57) rfl ?_
      refine RunW.iand at_57 (pc' := 58) rfl ?_
      have J66 : ∀ z1 : Int32, RunW l Z own_EL n0 x.cls code maxLocals ret x.name room_1 (Val fun w _ => w = .int 1) 66 #[.val (.int p1), .val (.int p2), .val (.int p3), .val (.int p4), .val (.int p5), .val (.int r1), .val (.int s1), .val (.int r2), .val (.int s2), .unset, .unset, .unset, .unset] [(.int z1), (.int r1), (.ref b11), (.ref b11)] h11 vm 1 2 := by
        intro z1
        refine RunW.callS (k' := 1) (n' := 2) (as := [(.int r1), (.int z1)]) (rest := [(.ref b11), (.ref b11)]) (con_deg l Z a0 hw n0 h11 sz11 r1 z1 (by have := h_r1; omega) (by have := h_r1; omega)) (by rintro _ _ ⟨_, -, -, rfl⟩; exact ⟨[], Keep.refl _ _, all0⟩) at_66 (hw _ (List.mem_of_getElem? (i := 5) rfl)) (hw _ (List.mem_of_getElem? (i := 6) rfl)) (hw _ (List.mem_of_getElem? (i := 7) rfl)) (hw _ (List.mem_of_getElem? (i := 8) rfl)) (by decide) pd__IZ_F rfl rfl rfl (by decide) (by show (2 : Nat) + (2 + 11) + 0 ≤ _; decide) (by decide) (by decide) (by decide) (by decide) (pc' := 69) rfl ?_
        rintro _ _ ⟨_, rfl, rfl, rfl⟩ -
        show RunW l Z own_EL n0 x.cls code maxLocals ret x.name room_1 _ 69 #[.val (.int p1), .val (.int p2), .val (.int p3), .val (.int p4), .val (.int p5), .val (.int r1), .val (.int s1), .val (.int r2), .val (.int s2), .unset, .unset, .unset, .unset] [(.float (own_deg r1 z1)), (.ref b11), (.ref b11)] h11 vm 1 2
        refine RunW.iload at_69 rfl (pc' := 71) rfl ?_
        refine RunW.iload at_71 rfl (pc' := 73) rfl ?_
        refine RunW.bipush (8 : Int32) at_73 (by decide) (pc' := 75) rfl ?_
        refine RunW.iand at_75 (pc' := 76) rfl ?_
        have J84 : ∀ z2 : Int32, RunW l Z own_EL n0 x.cls code maxLocals ret x.name room_1 (Val fun w _ => w = .int 1) 84 #[.val (.int p1), .val (.int p2), .val (.int p3), .val (.int p4), .val (.int p5), .val (.int r1), .val (.int s1), .val (.int r2), .val (.int s2), .unset, .unset, .unset, .unset] [(.int z2), (.int s1), (.float (own_deg r1 z1)), (.ref b11), (.ref b11)] h11 vm 1 2 := by
          intro z2
          refine RunW.callS (k' := 1) (n' := 2) (as := [(.int s1), (.int z2)]) (rest := [(.float (own_deg r1 z1)), (.ref b11), (.ref b11)]) (con_deg l Z a0 hw n0 h11 sz11 s1 z2 (by have := h_s1; omega) (by have := h_s1; omega)) (by rintro _ _ ⟨_, -, -, rfl⟩; exact ⟨[], Keep.refl _ _, all0⟩) at_84 (hw _ (List.mem_of_getElem? (i := 5) rfl)) (hw _ (List.mem_of_getElem? (i := 6) rfl)) (hw _ (List.mem_of_getElem? (i := 7) rfl)) (hw _ (List.mem_of_getElem? (i := 8) rfl)) (by decide) pd__IZ_F rfl rfl rfl (by decide) (by show (3 : Nat) + (2 + 11) + 0 ≤ _; decide) (by decide) (by decide) (by decide) (by decide) (pc' := 87) rfl ?_
          rintro _ _ ⟨_, rfl, rfl, rfl⟩ -
          show RunW l Z own_EL n0 x.cls code maxLocals ret x.name room_1 _ 87 #[.val (.int p1), .val (.int p2), .val (.int p3), .val (.int p4), .val (.int p5), .val (.int r1), .val (.int s1), .val (.int r2), .val (.int s2), .unset, .unset, .unset, .unset] [(.float (own_deg s1 z2)), (.float (own_deg r1 z1)), (.ref b11), (.ref b11)] h11 vm 1 2
          refine RunW.callNW (k' := 7) (n' := 80) (a := b11) (as := [(.float (own_deg r1 z1)), (.float (own_deg s1 z2))]) (rest := [(.ref b11)]) (con_gpt l Z a0 hw n0 h11 sz11 b11 (own_deg r1 z1) (own_deg s1 z2) r1.toInt s1.toInt X11 F_b11_latitude F_b11_longitude ge_b11 (own_deg_is (by have := h_r1; omega) (by have := h_r1; omega)) (own_deg_is (by have := h_s1; omega) (by have := h_s1; omega)) h_r1 h_s1) (allS sf11 all0) (own_EW hw) rfl rfl at_87 (hw _ (List.mem_of_getElem? (i := 10) rfl)) (hw _ (List.mem_of_getElem? (i := 11) rfl)) (hw _ (List.mem_of_getElem? (i := 4) rfl)) (hw _ (List.mem_of_getElem? (i := 12) rfl)) (by decide) pd__FF_V rfl rfl rfl (by decide) (by show (1 : Nat) + (3 + 11) + 51 ≤ _; decide) (by decide) (by decide) (by decide) (by decide) (pc' := 90) rfl ?_
          rintro _ h12 vm12 ⟨rfl, ⟨K12, P12, O12⟩⟩ c12
          show RunW l Z own_EL n0 x.cls code maxLocals ret x.name room_1 _ 90 #[.val (.int p1), .val (.int p2), .val (.int p3), .val (.int p4), .val (.int p5), .val (.int r1), .val (.int s1), .val (.int r2), .val (.int s2), .unset, .unset, .unset, .unset] [(.ref b11)] h12 vm12 7 80
          have E_b11_12 := X11.keep K12
          have Z_b11_12 := CHr.safe c12 X11.lt sf11
          have sz12 : n0 ≤ h12.size := Nat.le_trans sz11 K12.1
          have kp12 := Keep.trans kp11 K12 (allS (Or.inr bo_b11) all0)
          have od12 := od11.keep K12 (allS ge_b11 all0)
          refine RunW.astore (l' := #[.val (.int p1), .val (.int p2), .val (.int p3), .val (.int p4), .val (.int p5), .val (.int r1), .val (.int s1), .val (.int r2), .val (.int s2), .val (.ref b11), .unset, .unset, .unset]) at_90 rfl rfl (pc' := 92) rfl ?_
          refine RunW.newO (k' := 8) (n' := 82) at_92 (hw _ (List.mem_of_getElem? (i := 2) rfl)) (hw _ (List.mem_of_getElem? (i := 3) rfl)) (hw _ (List.mem_of_getElem? (i := 4) rfl)) (by decide) (by decide) (by decide) (by decide) (pc' := 95) rfl ?_
          intro h13 b13 g13 E13 X13 D13 c13 sf13
          have ge_b13 : n0 ≤ b13 := by rw [g13]; exact sz12
          have bo_b13 : h0.size ≤ b13 := by rw [g13]; exact kp12.1
          have ne_b11_b13 : b11 ≠ b13 := by rw [g13]; exact Nat.ne_of_lt E_b11_12.lt
          have ne_ac_b13 : ac ≠ b13 := Nat.ne_of_lt (Nat.lt_of_lt_of_le (od12.1 ▸ AC.lt) ge_b13)
          have E_b11_13 := E_b11_12.ext E13
          have Z_b11_13 := CHr.safe c13 E_b11_12.lt Z_b11_12
          have F_b11_latitude_13 := P12.ext E13
          have F_b11_longitude_13 := O12.ext E13
          have sz13 : n0 ≤ h13.size := Nat.le_trans sz12 E13.1
          have kp13 := Keep.ext kp12 E13
          have od13 := od12.ext E13
          have F_b13_latitude : Fld Z h13 b13 "com/example/mayes/mayes/GeoPt" "latitude" "F" (.float 0) := D13 (Or.inr (hw _ (List.mem_of_getElem? (i := 56) rfl))) (ty := .float) (by decide)
          have F_b13_longitude : Fld Z h13 b13 "com/example/mayes/mayes/GeoPt" "longitude" "F" (.float 0) := D13 (Or.inr (hw _ (List.mem_of_getElem? (i := 58) rfl))) (ty := .float) (by decide)
          refine RunW.dup at_95 rfl (pc' := 96) rfl ?_
          refine RunW.iload at_96 rfl (pc' := 98) rfl ?_
          refine RunW.iload at_98 rfl (pc' := 100) rfl ?_
          refine RunW.bipush (16 : Int32) at_100 (by decide) (pc' := 102) rfl ?_
          refine RunW.iand at_102 (pc' := 103) rfl ?_
          have J111 : ∀ z3 : Int32, RunW l Z own_EL n0 x.cls code maxLocals ret x.name room_1 (Val fun w _ => w = .int 1) 111 #[.val (.int p1), .val (.int p2), .val (.int p3), .val (.int p4), .val (.int p5), .val (.int r1), .val (.int s1), .val (.int r2), .val (.int s2), .val (.ref b11), .unset, .unset, .unset] [(.int z3), (.int r2), (.ref b13), (.ref b13)] h13 vm12 8 82 := by
            intro z3
            refine RunW.callS (k' := 8) (n' := 82) (as := [(.int r2), (.int z3)]) (rest := [(.ref b13), (.ref b13)]) (con_deg l Z a0 hw n0 h13 sz13 r2 z3 (by have := h_r2; omega) (by have := h_r2; omega)) (by rintro _ _ ⟨_, -, -, rfl⟩; exact ⟨[], Keep.refl _ _, all0⟩) at_111 (hw _ (List.mem_of_getElem? (i := 5) rfl)) (hw _ (List.mem_of_getElem? (i := 6) rfl)) (hw _ (List.mem_of_getElem? (i := 7) rfl)) (hw _ (List.mem_of_getElem? (i := 8) rfl)) (by decide) pd__IZ_F rfl rfl rfl (by decide) (by show (2 : Nat) + (2 + 11) + 0 ≤ _; decide) (by decide) (by decide) (by decide) (by decide) (pc' := 114) rfl ?_
            rintro _ _ ⟨_, rfl, rfl, rfl⟩ -
            show RunW l Z own_EL n0 x.cls code maxLocals ret x.name room_1 _ 114 #[.val (.int p1), .val (.int p2), .val (.int p3), .val (.int p4), .val (.int p5), .val (.int r1), .val (.int s1), .val (.int r2), .val (.int s2), .val (.ref b11), .unset, .unset, .unset] [(.float (own_deg r2 z3)), (.ref b13), (.ref b13)] h13 vm12 8 82
            refine RunW.iload at_114 rfl (pc' := 116) rfl ?_
            refine RunW.iload at_116 rfl (pc' := 118) rfl ?_
            refine RunW.bipush (32 : Int32) at_118 (by decide) (pc' := 120) rfl ?_
            refine RunW.iand at_120 (pc' := 121) rfl ?_
            have J129 : ∀ z4 : Int32, RunW l Z own_EL n0 x.cls code maxLocals ret x.name room_1 (Val fun w _ => w = .int 1) 129 #[.val (.int p1), .val (.int p2), .val (.int p3), .val (.int p4), .val (.int p5), .val (.int r1), .val (.int s1), .val (.int r2), .val (.int s2), .val (.ref b11), .unset, .unset, .unset] [(.int z4), (.int s2), (.float (own_deg r2 z3)), (.ref b13), (.ref b13)] h13 vm12 8 82 := by
              intro z4
              refine RunW.callS (k' := 8) (n' := 82) (as := [(.int s2), (.int z4)]) (rest := [(.float (own_deg r2 z3)), (.ref b13), (.ref b13)]) (con_deg l Z a0 hw n0 h13 sz13 s2 z4 (by have := h_s2; omega) (by have := h_s2; omega)) (by rintro _ _ ⟨_, -, -, rfl⟩; exact ⟨[], Keep.refl _ _, all0⟩) at_129 (hw _ (List.mem_of_getElem? (i := 5) rfl)) (hw _ (List.mem_of_getElem? (i := 6) rfl)) (hw _ (List.mem_of_getElem? (i := 7) rfl)) (hw _ (List.mem_of_getElem? (i := 8) rfl)) (by decide) pd__IZ_F rfl rfl rfl (by decide) (by show (3 : Nat) + (2 + 11) + 0 ≤ _; decide) (by decide) (by decide) (by decide) (by decide) (pc' := 132) rfl ?_
              rintro _ _ ⟨_, rfl, rfl, rfl⟩ -
              show RunW l Z own_EL n0 x.cls code maxLocals ret x.name room_1 _ 132 #[.val (.int p1), .val (.int p2), .val (.int p3), .val (.int p4), .val (.int p5), .val (.int r1), .val (.int s1), .val (.int r2), .val (.int s2), .val (.ref b11), .unset, .unset, .unset] [(.float (own_deg s2 z4)), (.float (own_deg r2 z3)), (.ref b13), (.ref b13)] h13 vm12 8 82
              refine RunW.callNW (k' := 14) (n' := 160) (a := b13) (as := [(.float (own_deg r2 z3)), (.float (own_deg s2 z4))]) (rest := [(.ref b13)]) (con_gpt l Z a0 hw n0 h13 sz13 b13 (own_deg r2 z3) (own_deg s2 z4) r2.toInt s2.toInt X13 F_b13_latitude F_b13_longitude ge_b13 (own_deg_is (by have := h_r2; omega) (by have := h_r2; omega)) (own_deg_is (by have := h_s2; omega) (by have := h_s2; omega)) h_r2 h_s2) (allS sf13 all0) (own_EW hw) rfl rfl at_132 (hw _ (List.mem_of_getElem? (i := 10) rfl)) (hw _ (List.mem_of_getElem? (i := 11) rfl)) (hw _ (List.mem_of_getElem? (i := 4) rfl)) (hw _ (List.mem_of_getElem? (i := 12) rfl)) (by decide) pd__FF_V rfl rfl rfl (by decide) (by show (1 : Nat) + (3 + 11) + 51 ≤ _; decide) (by decide) (by decide) (by decide) (by decide) (pc' := 135) rfl ?_
              rintro _ h14 vm14 ⟨rfl, ⟨K14, P14, O14⟩⟩ c14
              show RunW l Z own_EL n0 x.cls code maxLocals ret x.name room_1 _ 135 #[.val (.int p1), .val (.int p2), .val (.int p3), .val (.int p4), .val (.int p5), .val (.int r1), .val (.int s1), .val (.int r2), .val (.int s2), .val (.ref b11), .unset, .unset, .unset] [(.ref b13)] h14 vm14 14 160
              have E_b11_14 := E_b11_13.keep K14
              have Z_b11_14 := CHr.safe c14 E_b11_13.lt Z_b11_13
              have F_b11_latitude_14 := F_b11_latitude_13.keep K14 (ninS ne_b11_b13 nin0)
              have F_b11_longitude_14 := F_b11_longitude_13.keep K14 (ninS ne_b11_b13 nin0)
              have E_b13_14 := X13.keep K14
              have Z_b13_14 := CHr.safe c14 X13.lt sf13
              have sz14 : n0 ≤ h14.size := Nat.le_trans sz13 K14.1
              have kp14 := Keep.trans kp13 K14 (allS (Or.inr bo_b13) all0)
              have od14 := od13.keep K14 (allS ge_b13 all0)
              refine RunW.astore (l' := #[.val (.int p1), .val (.int p2), .val (.int p3), .val (.int p4), .val (.int p5), .val (.int r1), .val (.int s1), .val (.int r2), .val (.int s2), .val (.ref b11), .val (.ref b13), .unset, .unset]) at_135 rfl rfl (pc' := 137) rfl ?_
              refine RunW.iload at_137 rfl (pc' := 139) rfl ?_
              refine RunW.bipush (6 : Int32) at_139 (by decide) (pc' := 141) rfl ?_
              refine RunW.iushr at_141 (pc' := 142) rfl ?_
              refine RunW.iconst (3 : Int32) at_142 (by decide) (pc' := 143) rfl ?_
              refine RunW.iand at_143 (pc' := 144) rfl ?_
              refine RunW.istore (l' := #[.val (.int p1), .val (.int p2), .val (.int p3), .val (.int p4), .val (.int p5), .val (.int r1), .val (.int s1), .val (.int r2), .val (.int s2), .val (.ref b11), .val (.ref b13), .val (.int ((XT.ushr p5 (6 : Int32)) &&& (3 : Int32))), .unset]) at_144 rfl (pc' := 146) rfl ?_
              generalize ((XT.ushr p5 (6 : Int32)) &&& (3 : Int32)) = kd
              refine RunW.iload at_146 rfl (pc' := 148) rfl ?_
              refine RunW.iconst (1 : Int32) at_148 (by decide) (pc' := 149) rfl ?_
              refine RunW.icmp_ne at_149 (by decide) (pc' := 167) (by decide) (pa := 152) rfl (fun hc149 => ?_) (fun hc149 => ?_)
              · -- pc 149 taken: ¬ kd = (1 : Int32)
                refine RunW.iload at_167 rfl (pc' := 169) rfl ?_
                refine RunW.iconst (2 : Int32) at_169 (by decide) (pc' := 170) rfl ?_
                refine RunW.icmp_ne at_170 (by decide) (pc' := 191) (by decide) (pa := 173) rfl (fun hc170 => ?_) (fun hc170 => ?_)
                · -- pc 170 taken: ¬ kd = (2 : Int32)
                  refine RunW.iload at_191 rfl (pc' := 193) rfl ?_
                  refine RunW.iconst (3 : Int32) at_193 (by decide) (pc' := 194) rfl ?_
                  refine RunW.icmp_ne at_194 (by decide) (pc' := 205) (by decide) (pa := 197) rfl (fun hc194 => ?_) (fun hc194 => ?_)
                  · -- pc 194 taken: ¬ kd = (3 : Int32)
                    refine RunW.iload at_205 rfl (pc' := 207) rfl ?_
                    refine RunW.iload at_207 rfl (pc' := 209) rfl ?_
                    refine RunW.icmp_ne at_209 (by decide) (pc' := 223) (by decide) (pa := 212) rfl (fun hc209 => ?_) (fun hc209 => ?_)
                    · -- pc 209 taken: ¬ r1 = r2
                      refine RunW.iconst (0 : Int32) at_223 (by decide) (pc' := 224) rfl ?_
                      refine RunW.istore (l' := #[.val (.int p1), .val (.int p2), .val (.int p3), .val (.int p4), .val (.int p5), .val (.int r1), .val (.int s1), .val (.int r2), .val (.int s2), .val (.ref b11), .val (.ref b13), .val (.int kd), .val (.int (0 : Int32))]) at_224 rfl (pc' := 226) rfl ?_
                      refine RunW.aload at_226 rfl rfl (pc' := 228) rfl ?_
                      refine RunW.aload at_228 rfl rfl (pc' := 230) rfl ?_
                      refine RunW.callV (k' := 14) (n' := 160) (a := b11) (as := [(.ref b13)]) (rest := []) (conA l Z a0 hw n0 h14 sz14 b11 b13 (FP.fadd (own_deg r1 z1) 0) (FP.fadd (own_deg s1 z2) 0) (FP.fadd (own_deg r2 z3) 0) (FP.fadd (own_deg s2 z4) 0) r1.toInt s1.toInt r2.toInt s2.toInt E_b13_14 F_b11_latitude_14 F_b11_longitude_14 P14 O14 (own_is_add (own_deg_is (by have := h_r1; omega) (by have := h_r1; omega))) (own_is_add (own_deg_is (by have := h_s1; omega) (by have := h_s1; omega))) (own_is_add (own_deg_is (by have := h_r2; omega) (by have := h_r2; omega))) (own_is_add (own_deg_is (by have := h_s2; omega) (by have := h_s2; omega))) ) (by rintro _ _ ⟨_, -, -, rfl⟩; exact ⟨[], Keep.refl _ _, all0⟩) E_b11_14 at_230 (hw _ (List.mem_of_getElem? (i := 59) rfl)) (hw _ (List.mem_of_getElem? (i := 60) rfl)) (fun s hZ => notFace_of_selects (args := #[]) (mvT hZ (hw _ (List.mem_of_getElem? (i := 62) rfl)))) (hw _ (List.mem_of_getElem? (i := 62) rfl)) (hw _ (List.mem_of_getElem? (i := 61) rfl)) (hw _ (List.mem_of_getElem? (i := 4) rfl)) (hw _ (List.mem_of_getElem? (i := 63) rfl)) (by decide) pd__Ljava_lang_Object__Z rfl rfl rfl (by decide) (by show (0 : Nat) + (3 + 11) + 0 ≤ _; decide) (by decide) (by decide) (by decide) (by decide) (pc' := 233) rfl ?_
                      rintro _ _ ⟨_, rfl, rfl, rfl⟩ -
                      show RunW l Z own_EL n0 x.cls code maxLocals ret x.name room_1 _ 233 #[.val (.int p1), .val (.int p2), .val (.int p3), .val (.int p4), .val (.int p5), .val (.int r1), .val (.int s1), .val (.int r2), .val (.int s2), .val (.ref b11), .val (.ref b13), .val (.int kd), .val (.int (0 : Int32))] [(.int (own_eq r1.toInt s1.toInt r2.toInt s2.toInt))] h14 vm14 14 160
                      refine RunW.iload at_233 rfl (pc' := 235) rfl ?_
                      refine RunW.icmp_ne at_235 (by decide) (pc' := 254) (by decide) (pa := 238) rfl (fun hc235 => ?_) (fun hc235 => ?_)
                      · -- pc 235 taken: ¬ (own_eq r1.toInt s1.toInt r2.toInt s2.toInt) = (0 : Int32)
                        exact absurd (own_eN hc209) hc235
                      · -- pc 235 not taken: (own_eq r1.toInt s1.toInt r2.toInt s2.toInt) = (0 : Int32)
                        refine RunW.aload at_238 rfl rfl (pc' := 240) rfl ?_
                        refine RunW.aload at_240 rfl rfl (pc' := 242) rfl ?_
                        refine RunW.callV (k' := 14) (n' := 160) (a := b13) (as := [(.ref b11)]) (rest := []) (conA l Z a0 hw n0 h14 sz14 b13 b11 (FP.fadd (own_deg r2 z3) 0) (FP.fadd (own_deg s2 z4) 0) (FP.fadd (own_deg r1 z1) 0) (FP.fadd (own_deg s1 z2) 0) r2.toInt s2.toInt r1.toInt s1.toInt E_b11_14 P14 O14 F_b11_latitude_14 F_b11_longitude_14 (own_is_add (own_deg_is (by have := h_r2; omega) (by have := h_r2; omega))) (own_is_add (own_deg_is (by have := h_s2; omega) (by have := h_s2; omega))) (own_is_add (own_deg_is (by have := h_r1; omega) (by have := h_r1; omega))) (own_is_add (own_deg_is (by have := h_s1; omega) (by have := h_s1; omega))) ) (by rintro _ _ ⟨_, -, -, rfl⟩; exact ⟨[], Keep.refl _ _, all0⟩) E_b13_14 at_242 (hw _ (List.mem_of_getElem? (i := 59) rfl)) (hw _ (List.mem_of_getElem? (i := 60) rfl)) (fun s hZ => notFace_of_selects (args := #[]) (mvT hZ (hw _ (List.mem_of_getElem? (i := 62) rfl)))) (hw _ (List.mem_of_getElem? (i := 62) rfl)) (hw _ (List.mem_of_getElem? (i := 61) rfl)) (hw _ (List.mem_of_getElem? (i := 4) rfl)) (hw _ (List.mem_of_getElem? (i := 63) rfl)) (by decide) pd__Ljava_lang_Object__Z rfl rfl rfl (by decide) (by show (0 : Nat) + (3 + 11) + 0 ≤ _; decide) (by decide) (by decide) (by decide) (by decide) (pc' := 245) rfl ?_
                        rintro _ _ ⟨_, rfl, rfl, rfl⟩ -
                        show RunW l Z own_EL n0 x.cls code maxLocals ret x.name room_1 _ 245 #[.val (.int p1), .val (.int p2), .val (.int p3), .val (.int p4), .val (.int p5), .val (.int r1), .val (.int s1), .val (.int r2), .val (.int s2), .val (.ref b11), .val (.ref b13), .val (.int kd), .val (.int (0 : Int32))] [(.int (own_eq r2.toInt s2.toInt r1.toInt s1.toInt))] h14 vm14 14 160
                        refine RunW.iload at_245 rfl (pc' := 247) rfl ?_
                        refine RunW.icmp_ne at_247 (by decide) (pc' := 254) (by decide) (pa := 250) rfl (fun hc247 => ?_) (fun hc247 => ?_)
                        · -- pc 247 taken: ¬ (own_eq r2.toInt s2.toInt r1.toInt s1.toInt) = (0 : Int32)
                          exact absurd (own_eN (fun z => hc209 z.symm)) hc247
                        · -- pc 247 not taken: (own_eq r2.toInt s2.toInt r1.toInt s1.toInt) = (0 : Int32)
                          refine RunW.iconst (1 : Int32) at_250 (by decide) (pc' := 251) rfl ?_
                          refine RunW.goto at_251 (by decide) (pc' := 255) (by decide) ?_
                          exact RunW.nreturn at_255 (ty := .boolean) rfl (by simp) (by decide) (by decide) ⟨_, rfl, rfl⟩
                    · -- pc 209 not taken: r1 = r2
                      refine RunW.iload at_212 rfl (pc' := 214) rfl ?_
                      refine RunW.iload at_214 rfl (pc' := 216) rfl ?_
                      refine RunW.icmp_ne at_216 (by decide) (pc' := 223) (by decide) (pa := 219) rfl (fun hc216 => ?_) (fun hc216 => ?_)
                      · -- pc 216 taken: ¬ s1 = s2
                        refine RunW.iconst (0 : Int32) at_223 (by decide) (pc' := 224) rfl ?_
                        refine RunW.istore (l' := #[.val (.int p1), .val (.int p2), .val (.int p3), .val (.int p4), .val (.int p5), .val (.int r1), .val (.int s1), .val (.int r2), .val (.int s2), .val (.ref b11), .val (.ref b13), .val (.int kd), .val (.int (0 : Int32))]) at_224 rfl (pc' := 226) rfl ?_
                        refine RunW.aload at_226 rfl rfl (pc' := 228) rfl ?_
                        refine RunW.aload at_228 rfl rfl (pc' := 230) rfl ?_
                        refine RunW.callV (k' := 14) (n' := 160) (a := b11) (as := [(.ref b13)]) (rest := []) (conA l Z a0 hw n0 h14 sz14 b11 b13 (FP.fadd (own_deg r1 z1) 0) (FP.fadd (own_deg s1 z2) 0) (FP.fadd (own_deg r2 z3) 0) (FP.fadd (own_deg s2 z4) 0) r1.toInt s1.toInt r2.toInt s2.toInt E_b13_14 F_b11_latitude_14 F_b11_longitude_14 P14 O14 (own_is_add (own_deg_is (by have := h_r1; omega) (by have := h_r1; omega))) (own_is_add (own_deg_is (by have := h_s1; omega) (by have := h_s1; omega))) (own_is_add (own_deg_is (by have := h_r2; omega) (by have := h_r2; omega))) (own_is_add (own_deg_is (by have := h_s2; omega) (by have := h_s2; omega))) ) (by rintro _ _ ⟨_, -, -, rfl⟩; exact ⟨[], Keep.refl _ _, all0⟩) E_b11_14 at_230 (hw _ (List.mem_of_getElem? (i := 59) rfl)) (hw _ (List.mem_of_getElem? (i := 60) rfl)) (fun s hZ => notFace_of_selects (args := #[]) (mvT hZ (hw _ (List.mem_of_getElem? (i := 62) rfl)))) (hw _ (List.mem_of_getElem? (i := 62) rfl)) (hw _ (List.mem_of_getElem? (i := 61) rfl)) (hw _ (List.mem_of_getElem? (i := 4) rfl)) (hw _ (List.mem_of_getElem? (i := 63) rfl)) (by decide) pd__Ljava_lang_Object__Z rfl rfl rfl (by decide) (by show (0 : Nat) + (3 + 11) + 0 ≤ _; decide) (by decide) (by decide) (by decide) (by decide) (pc' := 233) rfl ?_
                        rintro _ _ ⟨_, rfl, rfl, rfl⟩ -
                        show RunW l Z own_EL n0 x.cls code maxLocals ret x.name room_1 _ 233 #[.val (.int p1), .val (.int p2), .val (.int p3), .val (.int p4), .val (.int p5), .val (.int r1), .val (.int s1), .val (.int r2), .val (.int s2), .val (.ref b11), .val (.ref b13), .val (.int kd), .val (.int (0 : Int32))] [(.int (own_eq r1.toInt s1.toInt r2.toInt s2.toInt))] h14 vm14 14 160
                        refine RunW.iload at_233 rfl (pc' := 235) rfl ?_
                        refine RunW.icmp_ne at_235 (by decide) (pc' := 254) (by decide) (pa := 238) rfl (fun hc235 => ?_) (fun hc235 => ?_)
                        · -- pc 235 taken: ¬ (own_eq r1.toInt s1.toInt r2.toInt s2.toInt) = (0 : Int32)
                          exact absurd (own_eM hc216) hc235
                        · -- pc 235 not taken: (own_eq r1.toInt s1.toInt r2.toInt s2.toInt) = (0 : Int32)
                          refine RunW.aload at_238 rfl rfl (pc' := 240) rfl ?_
                          refine RunW.aload at_240 rfl rfl (pc' := 242) rfl ?_
                          refine RunW.callV (k' := 14) (n' := 160) (a := b13) (as := [(.ref b11)]) (rest := []) (conA l Z a0 hw n0 h14 sz14 b13 b11 (FP.fadd (own_deg r2 z3) 0) (FP.fadd (own_deg s2 z4) 0) (FP.fadd (own_deg r1 z1) 0) (FP.fadd (own_deg s1 z2) 0) r2.toInt s2.toInt r1.toInt s1.toInt E_b11_14 P14 O14 F_b11_latitude_14 F_b11_longitude_14 (own_is_add (own_deg_is (by have := h_r2; omega) (by have := h_r2; omega))) (own_is_add (own_deg_is (by have := h_s2; omega) (by have := h_s2; omega))) (own_is_add (own_deg_is (by have := h_r1; omega) (by have := h_r1; omega))) (own_is_add (own_deg_is (by have := h_s1; omega) (by have := h_s1; omega))) ) (by rintro _ _ ⟨_, -, -, rfl⟩; exact ⟨[], Keep.refl _ _, all0⟩) E_b13_14 at_242 (hw _ (List.mem_of_getElem? (i := 59) rfl)) (hw _ (List.mem_of_getElem? (i := 60) rfl)) (fun s hZ => notFace_of_selects (args := #[]) (mvT hZ (hw _ (List.mem_of_getElem? (i := 62) rfl)))) (hw _ (List.mem_of_getElem? (i := 62) rfl)) (hw _ (List.mem_of_getElem? (i := 61) rfl)) (hw _ (List.mem_of_getElem? (i := 4) rfl)) (hw _ (List.mem_of_getElem? (i := 63) rfl)) (by decide) pd__Ljava_lang_Object__Z rfl rfl rfl (by decide) (by show (0 : Nat) + (3 + 11) + 0 ≤ _; decide) (by decide) (by decide) (by decide) (by decide) (pc' := 245) rfl ?_
                          rintro _ _ ⟨_, rfl, rfl, rfl⟩ -
                          show RunW l Z own_EL n0 x.cls code maxLocals ret x.name room_1 _ 245 #[.val (.int p1), .val (.int p2), .val (.int p3), .val (.int p4), .val (.int p5), .val (.int r1), .val (.int s1), .val (.int r2), .val (.int s2), .val (.ref b11), .val (.ref b13), .val (.int kd), .val (.int (0 : Int32))] [(.int (own_eq r2.toInt s2.toInt r1.toInt s1.toInt))] h14 vm14 14 160
                          refine RunW.iload at_245 rfl (pc' := 247) rfl ?_
                          refine RunW.icmp_ne at_247 (by decide) (pc' := 254) (by decide) (pa := 250) rfl (fun hc247 => ?_) (fun hc247 => ?_)
                          · -- pc 247 taken: ¬ (own_eq r2.toInt s2.toInt r1.toInt s1.toInt) = (0 : Int32)
                            exact absurd (own_eM (fun z => hc216 z.symm)) hc247
                          · -- pc 247 not taken: (own_eq r2.toInt s2.toInt r1.toInt s1.toInt) = (0 : Int32)
                            refine RunW.iconst (1 : Int32) at_250 (by decide) (pc' := 251) rfl ?_
                            refine RunW.goto at_251 (by decide) (pc' := 255) (by decide) ?_
                            exact RunW.nreturn at_255 (ty := .boolean) rfl (by simp) (by decide) (by decide) ⟨_, rfl, rfl⟩
                      · -- pc 216 not taken: s1 = s2
                        refine RunW.iconst (1 : Int32) at_219 (by decide) (pc' := 220) rfl ?_
                        refine RunW.goto at_220 (by decide) (pc' := 224) (by decide) ?_
                        refine RunW.istore (l' := #[.val (.int p1), .val (.int p2), .val (.int p3), .val (.int p4), .val (.int p5), .val (.int r1), .val (.int s1), .val (.int r2), .val (.int s2), .val (.ref b11), .val (.ref b13), .val (.int kd), .val (.int (1 : Int32))]) at_224 rfl (pc' := 226) rfl ?_
                        refine RunW.aload at_226 rfl rfl (pc' := 228) rfl ?_
                        refine RunW.aload at_228 rfl rfl (pc' := 230) rfl ?_
                        refine RunW.callV (k' := 14) (n' := 160) (a := b11) (as := [(.ref b13)]) (rest := []) (conA l Z a0 hw n0 h14 sz14 b11 b13 (FP.fadd (own_deg r1 z1) 0) (FP.fadd (own_deg s1 z2) 0) (FP.fadd (own_deg r2 z3) 0) (FP.fadd (own_deg s2 z4) 0) r1.toInt s1.toInt r2.toInt s2.toInt E_b13_14 F_b11_latitude_14 F_b11_longitude_14 P14 O14 (own_is_add (own_deg_is (by have := h_r1; omega) (by have := h_r1; omega))) (own_is_add (own_deg_is (by have := h_s1; omega) (by have := h_s1; omega))) (own_is_add (own_deg_is (by have := h_r2; omega) (by have := h_r2; omega))) (own_is_add (own_deg_is (by have := h_s2; omega) (by have := h_s2; omega))) ) (by rintro _ _ ⟨_, -, -, rfl⟩; exact ⟨[], Keep.refl _ _, all0⟩) E_b11_14 at_230 (hw _ (List.mem_of_getElem? (i := 59) rfl)) (hw _ (List.mem_of_getElem? (i := 60) rfl)) (fun s hZ => notFace_of_selects (args := #[]) (mvT hZ (hw _ (List.mem_of_getElem? (i := 62) rfl)))) (hw _ (List.mem_of_getElem? (i := 62) rfl)) (hw _ (List.mem_of_getElem? (i := 61) rfl)) (hw _ (List.mem_of_getElem? (i := 4) rfl)) (hw _ (List.mem_of_getElem? (i := 63) rfl)) (by decide) pd__Ljava_lang_Object__Z rfl rfl rfl (by decide) (by show (0 : Nat) + (3 + 11) + 0 ≤ _; decide) (by decide) (by decide) (by decide) (by decide) (pc' := 233) rfl ?_
                        rintro _ _ ⟨_, rfl, rfl, rfl⟩ -
                        show RunW l Z own_EL n0 x.cls code maxLocals ret x.name room_1 _ 233 #[.val (.int p1), .val (.int p2), .val (.int p3), .val (.int p4), .val (.int p5), .val (.int r1), .val (.int s1), .val (.int r2), .val (.int s2), .val (.ref b11), .val (.ref b13), .val (.int kd), .val (.int (1 : Int32))] [(.int (own_eq r1.toInt s1.toInt r2.toInt s2.toInt))] h14 vm14 14 160
                        refine RunW.iload at_233 rfl (pc' := 235) rfl ?_
                        refine RunW.icmp_ne at_235 (by decide) (pc' := 254) (by decide) (pa := 238) rfl (fun hc235 => ?_) (fun hc235 => ?_)
                        · -- pc 235 taken: ¬ (own_eq r1.toInt s1.toInt r2.toInt s2.toInt) = (1 : Int32)
                          exact absurd (own_eY hc209 hc216) hc235
                        · -- pc 235 not taken: (own_eq r1.toInt s1.toInt r2.toInt s2.toInt) = (1 : Int32)
                          refine RunW.aload at_238 rfl rfl (pc' := 240) rfl ?_
                          refine RunW.aload at_240 rfl rfl (pc' := 242) rfl ?_
                          refine RunW.callV (k' := 14) (n' := 160) (a := b13) (as := [(.ref b11)]) (rest := []) (conA l Z a0 hw n0 h14 sz14 b13 b11 (FP.fadd (own_deg r2 z3) 0) (FP.fadd (own_deg s2 z4) 0) (FP.fadd (own_deg r1 z1) 0) (FP.fadd (own_deg s1 z2) 0) r2.toInt s2.toInt r1.toInt s1.toInt E_b11_14 P14 O14 F_b11_latitude_14 F_b11_longitude_14 (own_is_add (own_deg_is (by have := h_r2; omega) (by have := h_r2; omega))) (own_is_add (own_deg_is (by have := h_s2; omega) (by have := h_s2; omega))) (own_is_add (own_deg_is (by have := h_r1; omega) (by have := h_r1; omega))) (own_is_add (own_deg_is (by have := h_s1; omega) (by have := h_s1; omega))) ) (by rintro _ _ ⟨_, -, -, rfl⟩; exact ⟨[], Keep.refl _ _, all0⟩) E_b13_14 at_242 (hw _ (List.mem_of_getElem? (i := 59) rfl)) (hw _ (List.mem_of_getElem? (i := 60) rfl)) (fun s hZ => notFace_of_selects (args := #[]) (mvT hZ (hw _ (List.mem_of_getElem? (i := 62) rfl)))) (hw _ (List.mem_of_getElem? (i := 62) rfl)) (hw _ (List.mem_of_getElem? (i := 61) rfl)) (hw _ (List.mem_of_getElem? (i := 4) rfl)) (hw _ (List.mem_of_getElem? (i := 63) rfl)) (by decide) pd__Ljava_lang_Object__Z rfl rfl rfl (by decide) (by show (0 : Nat) + (3 + 11) + 0 ≤ _; decide) (by decide) (by decide) (by decide) (by decide) (pc' := 245) rfl ?_
                          rintro _ _ ⟨_, rfl, rfl, rfl⟩ -
                          show RunW l Z own_EL n0 x.cls code maxLocals ret x.name room_1 _ 245 #[.val (.int p1), .val (.int p2), .val (.int p3), .val (.int p4), .val (.int p5), .val (.int r1), .val (.int s1), .val (.int r2), .val (.int s2), .val (.ref b11), .val (.ref b13), .val (.int kd), .val (.int (1 : Int32))] [(.int (own_eq r2.toInt s2.toInt r1.toInt s1.toInt))] h14 vm14 14 160
                          refine RunW.iload at_245 rfl (pc' := 247) rfl ?_
                          refine RunW.icmp_ne at_247 (by decide) (pc' := 254) (by decide) (pa := 250) rfl (fun hc247 => ?_) (fun hc247 => ?_)
                          · -- pc 247 taken: ¬ (own_eq r2.toInt s2.toInt r1.toInt s1.toInt) = (1 : Int32)
                            exact absurd (own_eY hc209.symm hc216.symm) hc247
                          · -- pc 247 not taken: (own_eq r2.toInt s2.toInt r1.toInt s1.toInt) = (1 : Int32)
                            refine RunW.iconst (1 : Int32) at_250 (by decide) (pc' := 251) rfl ?_
                            refine RunW.goto at_251 (by decide) (pc' := 255) (by decide) ?_
                            exact RunW.nreturn at_255 (ty := .boolean) rfl (by simp) (by decide) (by decide) ⟨_, rfl, rfl⟩
                  · -- pc 194 not taken: kd = (3 : Int32)
                    refine RunW.aload at_197 rfl rfl (pc' := 199) rfl ?_
                    refine RunW.aload at_199 rfl rfl (pc' := 201) rfl ?_
                    refine RunW.callV (k' := 14) (n' := 160) (a := b11) (as := [(.ref b11)]) (rest := []) (conA l Z a0 hw n0 h14 sz14 b11 b11 (FP.fadd (own_deg r1 z1) 0) (FP.fadd (own_deg s1 z2) 0) (FP.fadd (own_deg r1 z1) 0) (FP.fadd (own_deg s1 z2) 0) r1.toInt s1.toInt r1.toInt s1.toInt E_b11_14 F_b11_latitude_14 F_b11_longitude_14 F_b11_latitude_14 F_b11_longitude_14 (own_is_add (own_deg_is (by have := h_r1; omega) (by have := h_r1; omega))) (own_is_add (own_deg_is (by have := h_s1; omega) (by have := h_s1; omega))) (own_is_add (own_deg_is (by have := h_r1; omega) (by have := h_r1; omega))) (own_is_add (own_deg_is (by have := h_s1; omega) (by have := h_s1; omega))) ) (by rintro _ _ ⟨_, -, -, rfl⟩; exact ⟨[], Keep.refl _ _, all0⟩) E_b11_14 at_201 (hw _ (List.mem_of_getElem? (i := 59) rfl)) (hw _ (List.mem_of_getElem? (i := 60) rfl)) (fun s hZ => notFace_of_selects (args := #[]) (mvT hZ (hw _ (List.mem_of_getElem? (i := 62) rfl)))) (hw _ (List.mem_of_getElem? (i := 62) rfl)) (hw _ (List.mem_of_getElem? (i := 61) rfl)) (hw _ (List.mem_of_getElem? (i := 4) rfl)) (hw _ (List.mem_of_getElem? (i := 63) rfl)) (by decide) pd__Ljava_lang_Object__Z rfl rfl rfl (by decide) (by show (0 : Nat) + (3 + 11) + 0 ≤ _; decide) (by decide) (by decide) (by decide) (by decide) (pc' := 204) rfl ?_
                    rintro _ _ ⟨_, rfl, rfl, rfl⟩ -
                    show RunW l Z own_EL n0 x.cls code maxLocals ret x.name room_1 _ 204 #[.val (.int p1), .val (.int p2), .val (.int p3), .val (.int p4), .val (.int p5), .val (.int r1), .val (.int s1), .val (.int r2), .val (.int s2), .val (.ref b11), .val (.ref b13), .val (.int kd), .unset] [(.int (own_eq r1.toInt s1.toInt r1.toInt s1.toInt))] h14 vm14 14 160
                    exact RunW.nreturn at_204 (ty := .boolean) rfl (by simp) (by decide) (by decide) ⟨_, rfl, own_eR _ _⟩
                · -- pc 170 not taken: kd = (2 : Int32)
                  refine RunW.aload at_173 rfl rfl (pc' := 175) rfl ?_
                  refine RunW.iloadN at_175 rfl (pc' := 176) rfl ?_
                  refine RunW.callS (k' := 15) (n' := 161) (as := [(.int p1)]) (rest := [(.ref b11)]) (con_vof l Z a0 hw n0 h14 sz14 p1 ac vs od14 SH SC AC hcache) (by rintro _ _ ⟨_, rfl, ⟨b_, rfl, E_, P_⟩⟩; exact ⟨[], Keep.ofExt E_, all0⟩) at_176 (hw _ (List.mem_of_getElem? (i := 67) rfl)) (hw _ (List.mem_of_getElem? (i := 68) rfl)) (hw _ (List.mem_of_getElem? (i := 69) rfl)) (hw _ (List.mem_of_getElem? (i := 70) rfl)) (by decide) pd__I_Ljava_lang_Integer_ rfl rfl rfl (by decide) (by show (1 : Nat) + (1 + 11) + 38 ≤ _; decide) (by decide) (by decide) (by decide) (by decide) (pc' := 179) rfl ?_
                  rintro _ h15 ⟨_, rfl, ⟨b15, rfl, E15, P15⟩⟩ c15
                  show RunW l Z own_EL n0 x.cls code maxLocals ret x.name room_1 _ 179 #[.val (.int p1), .val (.int p2), .val (.int p3), .val (.int p4), .val (.int p5), .val (.int r1), .val (.int s1), .val (.int r2), .val (.int s2), .val (.ref b11), .val (.ref b13), .val (.int kd), .unset] [(.ref b15), (.ref b11)] h15 vm14 15 161
                  have E_b11_15 := E_b11_14.ext E15
                  have Z_b11_15 := CHr.safe c15 E_b11_14.lt Z_b11_14
                  have F_b11_latitude_15 := F_b11_latitude_14.ext E15
                  have F_b11_longitude_15 := F_b11_longitude_14.ext E15
                  have E_b13_15 := E_b13_14.ext E15
                  have Z_b13_15 := CHr.safe c15 E_b13_14.lt Z_b13_14
                  have F_b13_latitude_15 := P14.ext E15
                  have F_b13_longitude_15 := O14.ext E15
                  have sz15 : n0 ≤ h15.size := Nat.le_trans sz14 E15.1
                  have kp15 := Keep.ext kp14 E15
                  have od15 := od14.ext E15
                  refine RunW.callV (k' := 15) (n' := 161) (a := b11) (as := [(.ref b15)]) (rest := []) (conI l Z a0 hw n0 h15 sz15 b11 b15 P15 ) (by rintro _ _ ⟨_, -, -, rfl⟩; exact ⟨[], Keep.refl _ _, all0⟩) E_b11_15 at_179 (hw _ (List.mem_of_getElem? (i := 59) rfl)) (hw _ (List.mem_of_getElem? (i := 60) rfl)) (fun s hZ => notFace_of_selects (args := #[]) (mvT hZ (hw _ (List.mem_of_getElem? (i := 62) rfl)))) (hw _ (List.mem_of_getElem? (i := 62) rfl)) (hw _ (List.mem_of_getElem? (i := 61) rfl)) (hw _ (List.mem_of_getElem? (i := 4) rfl)) (hw _ (List.mem_of_getElem? (i := 63) rfl)) (by decide) pd__Ljava_lang_Object__Z rfl rfl rfl (by decide) (by show (0 : Nat) + (3 + 11) + 0 ≤ _; decide) (by decide) (by decide) (by decide) (by decide) (pc' := 182) rfl ?_
                  rintro _ _ ⟨_, rfl, rfl, rfl⟩ -
                  show RunW l Z own_EL n0 x.cls code maxLocals ret x.name room_1 _ 182 #[.val (.int p1), .val (.int p2), .val (.int p3), .val (.int p4), .val (.int p5), .val (.int r1), .val (.int s1), .val (.int r2), .val (.int s2), .val (.ref b11), .val (.ref b13), .val (.int kd), .unset] [(.int (0 : Int32))] h15 vm14 15 161
                  refine RunW.if_ne at_182 (by decide) (pc' := 189) (by decide) (pa := 185) rfl (fun hc182 => ?_) (fun hc182 => ?_)
                  · -- pc 182 taken: ¬ (0 : Int32) = (0 : Int32)
                    exact absurd hc182 (by decide)
                  · -- pc 182 not taken: (0 : Int32) = (0 : Int32)
                    refine RunW.iconst (1 : Int32) at_185 (by decide) (pc' := 186) rfl ?_
                    refine RunW.goto at_186 (by decide) (pc' := 190) (by decide) ?_
                    exact RunW.nreturn at_190 (ty := .boolean) rfl (by simp) (by decide) (by decide) ⟨_, rfl, rfl⟩
              · -- pc 149 not taken: kd = (1 : Int32)
                refine RunW.aload at_152 rfl rfl (pc' := 154) rfl ?_
                refine RunW.aconst at_154 (pc' := 155) rfl ?_
                refine RunW.callV (k' := 14) (n' := 160) (a := b11) (as := [.null]) (rest := []) (conN l Z a0 hw n0 h14 sz14 b11 ) (by rintro _ _ ⟨_, -, -, rfl⟩; exact ⟨[], Keep.refl _ _, all0⟩) E_b11_14 at_155 (hw _ (List.mem_of_getElem? (i := 59) rfl)) (hw _ (List.mem_of_getElem? (i := 60) rfl)) (fun s hZ => notFace_of_selects (args := #[]) (mvT hZ (hw _ (List.mem_of_getElem? (i := 62) rfl)))) (hw _ (List.mem_of_getElem? (i := 62) rfl)) (hw _ (List.mem_of_getElem? (i := 61) rfl)) (hw _ (List.mem_of_getElem? (i := 4) rfl)) (hw _ (List.mem_of_getElem? (i := 63) rfl)) (by decide) pd__Ljava_lang_Object__Z rfl rfl rfl (by decide) (by show (0 : Nat) + (3 + 11) + 0 ≤ _; decide) (by decide) (by decide) (by decide) (by decide) (pc' := 158) rfl ?_
                rintro _ _ ⟨_, rfl, rfl, rfl⟩ -
                show RunW l Z own_EL n0 x.cls code maxLocals ret x.name room_1 _ 158 #[.val (.int p1), .val (.int p2), .val (.int p3), .val (.int p4), .val (.int p5), .val (.int r1), .val (.int s1), .val (.int r2), .val (.int s2), .val (.ref b11), .val (.ref b13), .val (.int kd), .unset] [(.int (0 : Int32))] h14 vm14 14 160
                refine RunW.if_ne at_158 (by decide) (pc' := 165) (by decide) (pa := 161) rfl (fun hc158 => ?_) (fun hc158 => ?_)
                · -- pc 158 taken: ¬ (0 : Int32) = (0 : Int32)
                  exact absurd hc158 (by decide)
                · -- pc 158 not taken: (0 : Int32) = (0 : Int32)
                  refine RunW.iconst (1 : Int32) at_161 (by decide) (pc' := 162) rfl ?_
                  refine RunW.goto at_162 (by decide) (pc' := 166) (by decide) ?_
                  exact RunW.nreturn at_166 (ty := .boolean) rfl (by simp) (by decide) (by decide) ⟨_, rfl, rfl⟩
            refine RunW.if_eq at_121 (by decide) (pc' := 128) (by decide) (pa := 124) rfl (fun hc121 => ?_) (fun hc121 => ?_)
            · -- pc 121 taken: (p5 &&& (32 : Int32)) = (0 : Int32)
              refine RunW.iconst (0 : Int32) at_128 (by decide) (pc' := 129) rfl ?_
              exact J129 _
            · -- pc 121 not taken: ¬ (p5 &&& (32 : Int32)) = (0 : Int32)
              refine RunW.iconst (1 : Int32) at_124 (by decide) (pc' := 125) rfl ?_
              refine RunW.goto at_125 (by decide) (pc' := 129) (by decide) ?_
              exact J129 _
          refine RunW.if_eq at_103 (by decide) (pc' := 110) (by decide) (pa := 106) rfl (fun hc103 => ?_) (fun hc103 => ?_)
          · -- pc 103 taken: (p5 &&& (16 : Int32)) = (0 : Int32)
            refine RunW.iconst (0 : Int32) at_110 (by decide) (pc' := 111) rfl ?_
            exact J111 _
          · -- pc 103 not taken: ¬ (p5 &&& (16 : Int32)) = (0 : Int32)
            refine RunW.iconst (1 : Int32) at_106 (by decide) (pc' := 107) rfl ?_
            refine RunW.goto at_107 (by decide) (pc' := 111) (by decide) ?_
            exact J111 _
        refine RunW.if_eq at_76 (by decide) (pc' := 83) (by decide) (pa := 79) rfl (fun hc76 => ?_) (fun hc76 => ?_)
        · -- pc 76 taken: (p5 &&& (8 : Int32)) = (0 : Int32)
          refine RunW.iconst (0 : Int32) at_83 (by decide) (pc' := 84) rfl ?_
          exact J84 _
        · -- pc 76 not taken: ¬ (p5 &&& (8 : Int32)) = (0 : Int32)
          refine RunW.iconst (1 : Int32) at_79 (by decide) (pc' := 80) rfl ?_
          refine RunW.goto at_80 (by decide) (pc' := 84) (by decide) ?_
          exact J84 _
      refine RunW.if_eq at_58 (by decide) (pc' := 65) (by decide) (pa := 61) rfl (fun hc58 => ?_) (fun hc58 => ?_)
      · -- pc 58 taken: (p5 &&& (4 : Int32)) = (0 : Int32)
        refine RunW.iconst (0 : Int32) at_65 (by decide) (pc' := 66) rfl ?_
        exact J66 _
      · -- pc 58 not taken: ¬ (p5 &&& (4 : Int32)) = (0 : Int32)
        refine RunW.iconst (1 : Int32) at_61 (by decide) (pc' := 62) rfl ?_
        refine RunW.goto at_62 (by decide) (pc' := 66) (by decide) ?_
        exact J66 _
    refine RunW.if_eq at_34 (by decide) (pc' := 42) (by decide) (pa := 37) rfl (fun hc34 => ?_) (fun hc34 => ?_)
    · -- pc 34 taken: (p5 &&& (2 : Int32)) = (0 : Int32)
      refine RunW.iloadN at_42 rfl (pc' := 43) rfl ?_
      refine RunW.ldcI (v := (184321 : Int32)) at_43 (hw _ (List.mem_of_getElem? (i := 1) rfl)) (pc' := 45) rfl ?_
      refine RunW.irem at_45 (by decide) (pc' := 46) rfl ?_
      exact J46 _ (own_rem2 _)
    · -- pc 34 not taken: ¬ (p5 &&& (2 : Int32)) = (0 : Int32)
      refine RunW.iload at_37 rfl (pc' := 39) rfl ?_
      refine RunW.goto at_39 (by decide) (pc' := 46) (by decide) ?_
      exact J46 _ h_s1
  refine RunW.if_eq at_16 (by decide) (pc' := 24) (by decide) (pa := 19) rfl (fun hc16 => ?_) (fun hc16 => ?_)
  · -- pc 16 taken: (p5 &&& (1 : Int32)) = (0 : Int32)
    refine RunW.iloadN at_24 rfl (pc' := 25) rfl ?_
    refine RunW.ldcI (v := (92161 : Int32)) at_25 (hw _ (List.mem_of_getElem? (i := 0) rfl)) (pc' := 27) rfl ?_
    refine RunW.irem at_27 (by decide) (pc' := 28) rfl ?_
    exact J28 _ (own_rem1 _)
  · -- pc 16 not taken: ¬ (p5 &&& (1 : Int32)) = (0 : Int32)
    refine RunW.iload at_19 rfl (pc' := 21) rfl ?_
    refine RunW.goto at_21 (by decide) (pc' := 28) (by decide) ?_
    exact J28 _ h_r1
set_option maxRecDepth 65536 in
set_option maxHeartbeats 40000000 in
theorem comes_1 {Post : Tables → Env → Array Value → State → Outcome → State → Prop} (hpost : ∀ tb e args s v u, (limb_1_1.after args s (.returned v) u = true ∧ limb_1_2.after args s (.returned v) u = true ∧ True) → Jvm.D.FramedW s (.returned v) u (Jvm.fieldLocs frame_1_writes args s ++ Jvm.arrayLocs frame_1_arrays args s ++ Jvm.staticLocs frame_1_statics s) 32 2176 → Post tb e args s (.returned v) u) :
    ArmFor flags0 classFile x code maxLocals ret World_1 tables_1 room_1 Calls_1 rest_1 Pre_1 Post := by
  intro l hfl _ _ p e ha hc hk s m args below hf hA hF happ hP
  obtain ⟨hcalls, hrest, hpre⟩ := hP
  obtain ⟨-, -, -, hnamed, -, -, -, hat⟩ := (Spec.applies_iff hf).mp happ
  obtain ⟨hg, hn⟩ := and_e (Cond.before_iff.mp (show (Jvm.Cond.and given_1 narrow_1).before args s = true from hpre))
  obtain ⟨hcnt, g0⟩ := and_e hg
  obtain ⟨ga0, g1⟩ := and_e g0
  obtain ⟨ga1, g2⟩ := and_e g1
  obtain ⟨ga2, g3⟩ := and_e g2
  obtain ⟨ga3, g4⟩ := and_e g3
  obtain ⟨w0, w1, w2, w3, w4, rfl⟩ : ∃ w0 w1 w2 w3 w4 : Value, args = #[w0, w1, w2, w3, w4] := by
    have hs : args.size = 5 := by simpa [Cond.value, given_1] using hcnt
    obtain ⟨L⟩ := args
    match L, hs with
    | [w0, w1, w2, w3, w4], _ => exact ⟨w0, w1, w2, w3, w4, rfl⟩
  have hw := fun d (hd : d ∈ tables_1) => atoms_spec (ws := Jvm.Cond.code x code maxLocals ret :: tables_1) hat d (List.mem_cons_of_mem _ hd)
  obtain ⟨hsets, hown0⟩ := atoms_of _ (rest_1_c_eq ▸ (show rest_1_c.before _ s = true from hrest))
  have hr0 := Cond.before_iff.mp hown0
  have hfit : Fit s := fun {y c} hc i hi => by
    obtain ⟨ha, rfl⟩ := Array.getElem?_eq_some_iff.mp hc
    have q := List.all_eq_true.mp ((Array.all_eq_true_iff_forall_mem.mp hF) _ (Array.getElem_mem ha)) i (List.mem_range.mpr hi)
    simpa [Array.getElem?_eq_getElem hi] using q
  obtain ⟨i0, e0⟩ := is_v ga0
  obtain rfl : w0 = (.int i0) := Option.some.inj e0
  obtain ⟨i1, e1⟩ := is_v ga1
  obtain rfl : w1 = (.int i1) := Option.some.inj e1
  obtain ⟨i2, e2⟩ := is_v ga2
  obtain rfl : w2 = (.int i2) := Option.some.inj e2
  obtain ⟨i3, e3⟩ := is_v ga3
  obtain rfl : w3 = (.int i3) := Option.some.inj e3
  obtain ⟨i4, e4⟩ := is_v g4
  obtain rfl : w4 = (.int i4) := Option.some.inj e4
  have evH := eqv_i (Term.int_eval (127)) (Cond.before_iff.mp (hsets _ (List.mem_of_getElem? (i := 3) rfl)))
  have SH := Sta.start evH (Or.inl (hsets _ (List.mem_of_getElem? (i := 1) rfl)))
  obtain ⟨ac, evC⟩ := arr_v (Cond.before_iff.mp (hsets _ (List.mem_of_getElem? (i := 4) rfl)))
  have SC := Sta.start evC (Or.inr ⟨(hw _ (List.mem_of_getElem? (i := 85) rfl)), (hsets _ (List.mem_of_getElem? (i := 2) rfl))⟩)
  obtain ⟨cl, AC⟩ := Arr.start evC (Cond.before_iff.mp (hsets _ (List.mem_of_getElem? (i := 4) rfl)))
  have evL := eqv_i (Term.int_eval (256)) (Cond.before_iff.mp (hsets _ (List.mem_of_getElem? (i := 6) rfl)))
  have hsz := own_blen evC (AC.fin (Vm.Alike.refl _)) evL
  have BX := Bxs.start (z := 256) (val := fun j => .int (j - 128)) (fun _ => evC) AC (by omega) (by rw [hsz]; decide) (by decide) (Cond.before_iff.mp (hsets _ (List.mem_of_getElem? (i := 7) rfl))) (fun X j hj hX => eqv_i (own_sub hj) hX)
  have hcache := own_cache BX
  have hCH : CHv s own_EL s.vm s.heap := fun p hp => absurd hp (by simp [own_EL])
  obtain ⟨n, o, h1, h2, h3, _, L, rfl, ⟨⟨_, rfl, rfl⟩, N⟩, -, hq⟩ := con0 l s _ hw s.heap.size s.heap (Nat.le_refl _) i0 i1 i2 i3 i4 ac cl.slots.toList (Old.start s) SH SC ⟨cl, AC, rfl⟩ hcache tables_1 p e ha hc hk s m _ below hf ((Spec.applies_iff_loose hf).mp happ).1 ⟨rfl, State.Warmed39.refl s, rfl, hCH, all0⟩ trivial
  refine ⟨n, _, h1, h2, h3, hpost _ _ _ _ _ _ ⟨Cond.after_iff.mpr rfl, Cond.after_iff.mpr (eq_i res_at (Term.int_eval (1)) rfl), trivial⟩ ⟨hq.1, hq.2.1, hq.2.2.1, (hq.2.2.2.sift fun y hy => Or.inr (N y hy)).mono (by decide) (by decide)⟩⟩
theorem main_1_1 : Claimed_1_1 := comes_1 fun _ _ _ _ _ _ h hF => ⟨h.1, hF⟩
theorem main_1_2 : Claimed_1_2 := comes_1 fun _ _ _ _ _ _ h hF => ⟨h.2.1, hF⟩
end Jvm.Pilot.@@N@@
namespace Jvm.Pilot.@@N@@
open Jvm Jvm.ClassFile Sem Op Lib Jvm.Free Jvm.Stand Jvm.Pilot.@@N@@.Jvm.D
/-! MADE BY PROGRAM (witnessworld.py) out of the Statement's table words and the real class files: 19 classes; the members and pool entries that the words name. The judged class is class 1, her method 2. -/
namespace start1
open Jvm.ClassFile
def u (s : String) : CpInfo := .utf8 (stringToUtf16 s)
/-- a pool by its gaps: so many unusable entries, then the entry; so many at the end -/
def gap : Nat → List CpInfo → List CpInfo
  | 0, r => r
  | n + 1, r => .unusable :: gap n r
def poolList (es : List (Nat × CpInfo)) (last : Nat) : List CpInfo := es.foldr (fun e r => gap e.1 (e.2 :: r)) (gap last [])
def pool (es : List (Nat × CpInfo)) (last : Nat) : Array CpInfo := ⟨poolList es last⟩
def fileOf (pool : Array CpInfo) (this : Nat) (attrs : Array Attribute := #[]) (ms : Array MethodInfo := #[]) (fl : Nat := 33) (sup : Nat := 0) (ifs : Array Nat := #[]) (fds : Array FieldInfo := #[]) : ClassFile where
  minorVersion := 0
  majorVersion := 65
  constantPool := pool
  accessFlags := fl
  thisClass := this
  superClass := sup
  interfaces := ifs
  fields := fds
  methods := ms
  attributes := attrs
def plain (name : String) (sup : Option ClassId) : Class where
  name := name
  kind := .ordinary
  loader := none
  accessFlags := 33
  super := sup
  interfaces := #[]
  cf := none
  fields := #[]
  methods := #[]
  instanceTypes := #[]
  staticTypes := #[]
  resolved := #[]
  callSites := []
  init := .initialized
  statics := none
  mirror := none

def pool0 : Array CpInfo := pool [(5, u "<init>"), (0, u "()V"), (1, .class_ 10), (1, u "java/lang/Object")] 113

def k0c0 : Code := { maxStack := 0, maxLocals := 1, code := object_method_1_code, exceptionTable := #[], attributes := #[] }
def k0m0 : Method := { name := "<init>", desc := "()V", sig := { parameters := [], returnType := none }, accessFlags := 1, code := some k0c0 }
/-- java/lang/Object -/
def k0 : Class := { plain "java/lang/Object" none with
  accessFlags := 33
  interfaces := #[]
  cf := some (fileOf pool0 8 #[] #[{ accessFlags := 1, nameIndex := 5, descriptorIndex := 6, attributes := #[] }] 33 0 #[] #[])
  fields := #[]
  methods := #[k0m0]
  instanceTypes := #[]
  staticTypes := #[]
  resolved := Array.replicate 124 none
  statics := none }

def pool1 : Array CpInfo := pool [(2, .class_ 4), (1, u "java/lang/Object"), (0, u "<init>"), (0, u "()V"), (0, .float 2147483648), (0, .float 1149239296), (0, .integer 92161), (0, .integer 184321), (0, .class_ 12), (0, u "com/example/mayes/mayes/GeoPt"), (0, .methodref 14 15), (0, .class_ 16), (0, .nameAndType 17 18), (0, u "com/example/mayes/mayes/GeoPtEqualsPinLaw"), (0, u "deg"), (0, u "(IZ)F"), (0, .methodref 11 20), (0, .nameAndType 5 21), (0, u "(FF)V"), (0, .methodref 11 23), (0, .nameAndType 24 25), (0, u "equals"), (0, u "(Ljava/lang/Object;)Z"), (0, .methodref 27 28), (0, .class_ 29), (0, .nameAndType 30 31), (0, u "java/lang/Integer"), (0, u "valueOf"), (0, u "(I)Ljava/lang/Integer;"), (3, u "law"), (0, u "(IIIII)Z")] 2

def k1m0 : Method := { name := "<init>", desc := "()V", sig := { parameters := [], returnType := none }, accessFlags := 2, code := none }
def k1c1 : Code := { maxStack := 2, maxLocals := 2, code := method_2_code, exceptionTable := #[], attributes := #[] }
def k1m1 : Method := { name := "deg", desc := "(IZ)F", sig := { parameters := [.int, .boolean], returnType := some .float }, accessFlags := 10, code := some k1c1 }
def k1c2 : Code := { maxStack := 6, maxLocals := 13, code := code, exceptionTable := #[], attributes := #[] }
def k1m2 : Method := { name := "law", desc := "(IIIII)Z", sig := { parameters := [.int, .int, .int, .int, .int], returnType := some .boolean }, accessFlags := 9, code := some k1c2 }
/-- com/example/mayes/mayes/GeoPtEqualsPinLaw -/
def k1 : Class := { plain "com/example/mayes/mayes/GeoPtEqualsPinLaw" (some 0) with
  accessFlags := 49
  interfaces := #[]
  cf := some (fileOf pool1 14 #[] #[{ accessFlags := 2, nameIndex := 5, descriptorIndex := 6, attributes := #[] }, { accessFlags := 10, nameIndex := 17, descriptorIndex := 18, attributes := #[] }, { accessFlags := 9, nameIndex := 35, descriptorIndex := 36, attributes := #[] }] 49 2 #[] #[])
  fields := #[]
  methods := #[k1m0, k1m1, k1m2]
  instanceTypes := #[]
  staticTypes := #[]
  resolved := Array.replicate 39 none
  statics := none }

def pool2 : Array CpInfo := pool [(1, .class_ 2), (0, u "java/lang/Comparable"), (0, .class_ 4), (0, u "java/lang/Object")] 7

/-- java/lang/Comparable -/
def k2 : Class := { plain "java/lang/Comparable" (some 0) with
  accessFlags := 1537
  interfaces := #[]
  cf := some (fileOf pool2 1 #[] #[] 1537 3 #[] #[])
  fields := #[]
  methods := #[]
  instanceTypes := #[]
  staticTypes := #[]
  resolved := Array.replicate 12 none
  statics := none }

def pool3 : Array CpInfo := pool [(1, .class_ 2), (0, u "java/io/Serializable"), (0, .class_ 4), (0, u "java/lang/Object")] 2

/-- java/io/Serializable -/
def k3 : Class := { plain "java/io/Serializable" (some 0) with
  accessFlags := 1537
  interfaces := #[]
  cf := some (fileOf pool3 1 #[] #[] 1537 3 #[] #[])
  fields := #[]
  methods := #[]
  instanceTypes := #[]
  staticTypes := #[]
  resolved := Array.replicate 7 none
  statics := none }

def pool4 : Array CpInfo := pool [(1, .methodref 2 3), (0, .class_ 4), (0, .nameAndType 5 6), (0, u "java/lang/Object"), (0, u "<init>"), (0, u "()V"), (0, .methodref 8 9), (0, .class_ 10), (0, .nameAndType 11 12), (0, u "java/lang/Float"), (0, u "valueOf"), (0, u "(F)Ljava/lang/Float;"), (0, .methodref 14 15), (0, .class_ 16), (0, .nameAndType 17 18), (0, u "com/example/mayes/mayes/GeoPt"), (0, u "checkCoordinates"), (0, u "(Ljava/lang/Number;Ljava/lang/Number;)V"), (0, .fieldref 14 20), (0, .nameAndType 21 22), (0, u "latitude"), (0, u "F"), (0, .fieldref 14 24), (0, .nameAndType 25 22), (0, u "longitude"), (0, .string 21), (0, .methodref 14 28), (0, .nameAndType 29 30), (0, u "checkRange"), (0, u "(Ljava/lang/String;Ljava/lang/Number;I)V"), (0, .string 25), (0, .methodref 33 34), (0, .class_ 35), (0, .nameAndType 36 37), (0, u "java/lang/Number"), (0, u "doubleValue"), (0, u "()D"), (26, u "ORDER"), (0, u "Ljava/util/Comparator;"), (19, u "(FF)V"), (12, .class_ 99), (0, u "java/lang/Comparable"), (0, .class_ 101), (0, u "java/io/Serializable"), (0, u "serialVersionUID"), (0, u "J"), (3, u "MAX_LATITUDE"), (0, u "I"), (1, u "MAX_LONGITUDE"), (14, u "equals"), (0, u "(Ljava/lang/Object;)Z")] 50

def k4c0 : Code := { maxStack := 3, maxLocals := 3, code := prog_19_method_1_code, exceptionTable := #[], attributes := #[] }
def k4m0 : Method := { name := "<init>", desc := "(FF)V", sig := { parameters := [.float, .float], returnType := none }, accessFlags := 1, code := some k4c0 }
def k4c1 : Code := { maxStack := 3, maxLocals := 2, code := prog_19_method_2_code, exceptionTable := #[], attributes := #[] }
def k4m1 : Method := { name := "checkCoordinates", desc := "(Ljava/lang/Number;Ljava/lang/Number;)V", sig := { parameters := [(.object "java/lang/Number"), (.object "java/lang/Number")], returnType := none }, accessFlags := 8, code := some k4c1 }
def k4c2 : Code := { maxStack := 6, maxLocals := 5, code := prog_19_method_3_code, exceptionTable := #[], attributes := #[] }
def k4m2 : Method := { name := "checkRange", desc := "(Ljava/lang/String;Ljava/lang/Number;I)V", sig := { parameters := [(.object "java/lang/String"), (.object "java/lang/Number"), .int], returnType := none }, accessFlags := 10, code := some k4c2 }
def k4c3 : Code := { maxStack := 2, maxLocals := 3, code := prog_19_method_8_code, exceptionTable := #[], attributes := #[] }
def k4m3 : Method := { name := "equals", desc := "(Ljava/lang/Object;)Z", sig := { parameters := [(.object "java/lang/Object")], returnType := some .boolean }, accessFlags := 1, code := some k4c3 }
/-- com/example/mayes/mayes/GeoPt -/
def k4 : Class := { plain "com/example/mayes/mayes/GeoPt" (some 0) with
  accessFlags := 49
  interfaces := #[2, 3]
  cf := some (fileOf pool4 14 #[] #[{ accessFlags := 1, nameIndex := 5, descriptorIndex := 85, attributes := #[] }, { accessFlags := 8, nameIndex := 17, descriptorIndex := 18, attributes := #[] }, { accessFlags := 10, nameIndex := 29, descriptorIndex := 30, attributes := #[] }, { accessFlags := 1, nameIndex := 125, descriptorIndex := 126, attributes := #[] }] 49 2 #[98, 100] #[{ accessFlags := 26, nameIndex := 102, descriptorIndex := 103, attributes := #[] }, { accessFlags := 26, nameIndex := 107, descriptorIndex := 108, attributes := #[] }, { accessFlags := 26, nameIndex := 110, descriptorIndex := 108, attributes := #[] }, { accessFlags := 26, nameIndex := 64, descriptorIndex := 65, attributes := #[] }, { accessFlags := 18, nameIndex := 21, descriptorIndex := 22, attributes := #[] }, { accessFlags := 18, nameIndex := 25, descriptorIndex := 22, attributes := #[] }])
  fields := #[{ name := "serialVersionUID", type := .long, accessFlags := 26, slot := 0, constantValue := 0 }, { name := "MAX_LATITUDE", type := .int, accessFlags := 26, slot := 1, constantValue := 0 }, { name := "MAX_LONGITUDE", type := .int, accessFlags := 26, slot := 2, constantValue := 0 }, { name := "ORDER", type := (.object "java/util/Comparator"), accessFlags := 26, slot := 3, constantValue := 0 }, { name := "latitude", type := .float, accessFlags := 18, slot := 0, constantValue := 0 }, { name := "longitude", type := .float, accessFlags := 18, slot := 1, constantValue := 0 }]
  methods := #[k4m0, k4m1, k4m2, k4m3]
  instanceTypes := #[.float, .float]
  staticTypes := #[.long, .int, .int, (.object "java/util/Comparator")]
  resolved := Array.replicate 177 none
  statics := none }

def pool5 : Array CpInfo := pool [(1, .methodref 2 3), (0, .class_ 4), (0, .nameAndType 5 6), (0, u "java/lang/Object"), (0, u "<init>"), (0, u "()V"), (1, .class_ 10), (1, u "java/lang/Number"), (2, .class_ 14), (0, u "java/io/Serializable"), (0, u "serialVersionUID"), (0, u "J"), (12, u "doubleValue"), (0, u "()D")] 6

def k5c0 : Code := { maxStack := 1, maxLocals := 1, code := jdk_18_method_1_code, exceptionTable := #[], attributes := #[] }
def k5m0 : Method := { name := "<init>", desc := "()V", sig := { parameters := [], returnType := none }, accessFlags := 1, code := some k5c0 }
def k5m1 : Method := { name := "doubleValue", desc := "()D", sig := { parameters := [], returnType := some .double }, accessFlags := 1025, code := none }
/-- java/lang/Number -/
def k5 : Class := { plain "java/lang/Number" (some 0) with
  accessFlags := 1057
  interfaces := #[3]
  cf := some (fileOf pool5 8 #[] #[{ accessFlags := 1, nameIndex := 5, descriptorIndex := 6, attributes := #[] }, { accessFlags := 1025, nameIndex := 29, descriptorIndex := 30, attributes := #[] }] 1057 2 #[13] #[{ accessFlags := 26, nameIndex := 15, descriptorIndex := 16, attributes := #[] }])
  fields := #[{ name := "serialVersionUID", type := .long, accessFlags := 26, slot := 0, constantValue := 0 }]
  methods := #[k5m0, k5m1]
  instanceTypes := #[]
  staticTypes := #[.long]
  resolved := Array.replicate 37 none
  statics := none }

def pool6 : Array CpInfo := pool [(1, .class_ 2), (0, u "java/lang/constant/Constable"), (0, .class_ 4), (0, u "java/lang/Object")] 6

/-- java/lang/constant/Constable -/
def k6 : Class := { plain "java/lang/constant/Constable" (some 0) with
  accessFlags := 1537
  interfaces := #[]
  cf := some (fileOf pool6 1 #[] #[] 1537 3 #[] #[])
  fields := #[]
  methods := #[]
  instanceTypes := #[]
  staticTypes := #[]
  resolved := Array.replicate 11 none
  statics := none }

def pool7 : Array CpInfo := pool [(1, .class_ 2), (0, u "java/lang/constant/ConstantDesc"), (0, .class_ 4), (0, u "java/lang/Object")] 32

/-- java/lang/constant/ConstantDesc -/
def k7 : Class := { plain "java/lang/constant/ConstantDesc" (some 0) with
  accessFlags := 1537
  interfaces := #[]
  cf := some (fileOf pool7 1 #[] #[] 1537 3 #[] #[])
  fields := #[]
  methods := #[]
  instanceTypes := #[]
  staticTypes := #[]
  resolved := Array.replicate 37 none
  statics := none }

def pool8 : Array CpInfo := pool [(1, .class_ 2), (0, u "java/lang/Float"), (39, .methodref 1 43), (0, .nameAndType 44 45), (0, u "<init>"), (0, u "(F)V"), (4, .methodref 51 52), (0, .class_ 53), (0, .nameAndType 44 54), (0, u "java/lang/Number"), (0, u "()V"), (0, .fieldref 1 56), (0, .nameAndType 57 58), (0, u "value"), (0, u "F"), (32, u "$assertionsDisabled"), (0, u "Z"), (52, u "TYPE"), (0, u "Ljava/lang/Class;"), (0, .class_ 148), (0, u "java/lang/Comparable"), (0, .class_ 150), (0, u "java/lang/constant/Constable"), (0, .class_ 152), (0, u "java/lang/constant/ConstantDesc"), (0, u "POSITIVE_INFINITY"), (1, u "NEGATIVE_INFINITY"), (1, u "NaN"), (1, u "MAX_VALUE"), (0, u "MIN_NORMAL"), (0, u "MIN_VALUE"), (1, u "SIZE"), (0, u "I"), (1, u "PRECISION"), (1, u "MAX_EXPONENT"), (1, u "MIN_EXPONENT"), (1, u "BYTES"), (3, u "serialVersionUID"), (0, u "J"), (9, u "valueOf"), (4, u "(F)Ljava/lang/Float;"), (26, u "doubleValue"), (0, u "()D")] 58

def k8c0 : Code := { maxStack := 3, maxLocals := 1, code := jdk_118_method_4_code, exceptionTable := #[], attributes := #[] }
def k8m0 : Method := { name := "valueOf", desc := "(F)Ljava/lang/Float;", sig := { parameters := [.float], returnType := some (.object "java/lang/Float") }, accessFlags := 9, code := some k8c0 }
def k8c1 : Code := { maxStack := 2, maxLocals := 2, code := jdk_118_method_9_code, exceptionTable := #[], attributes := #[] }
def k8m1 : Method := { name := "<init>", desc := "(F)V", sig := { parameters := [.float], returnType := none }, accessFlags := 1, code := some k8c1 }
def k8c2 : Code := { maxStack := 2, maxLocals := 1, code := jdk_118_method_20_code, exceptionTable := #[], attributes := #[] }
def k8m2 : Method := { name := "doubleValue", desc := "()D", sig := { parameters := [], returnType := some .double }, accessFlags := 1, code := some k8c2 }
/-- java/lang/Float -/
def k8 : Class := { plain "java/lang/Float" (some 5) with
  accessFlags := 49
  interfaces := #[2, 6, 7]
  cf := some (fileOf pool8 1 #[] #[{ accessFlags := 9, nameIndex := 187, descriptorIndex := 192, attributes := #[] }, { accessFlags := 1, nameIndex := 44, descriptorIndex := 45, attributes := #[] }, { accessFlags := 1, nameIndex := 219, descriptorIndex := 220, attributes := #[] }] 49 51 #[147, 149, 151] #[{ accessFlags := 25, nameIndex := 153, descriptorIndex := 58, attributes := #[] }, { accessFlags := 25, nameIndex := 155, descriptorIndex := 58, attributes := #[] }, { accessFlags := 25, nameIndex := 157, descriptorIndex := 58, attributes := #[] }, { accessFlags := 25, nameIndex := 159, descriptorIndex := 58, attributes := #[] }, { accessFlags := 25, nameIndex := 160, descriptorIndex := 58, attributes := #[] }, { accessFlags := 25, nameIndex := 161, descriptorIndex := 58, attributes := #[] }, { accessFlags := 25, nameIndex := 163, descriptorIndex := 164, attributes := #[] }, { accessFlags := 25, nameIndex := 166, descriptorIndex := 164, attributes := #[] }, { accessFlags := 25, nameIndex := 168, descriptorIndex := 164, attributes := #[] }, { accessFlags := 25, nameIndex := 170, descriptorIndex := 164, attributes := #[] }, { accessFlags := 25, nameIndex := 172, descriptorIndex := 164, attributes := #[] }, { accessFlags := 25, nameIndex := 145, descriptorIndex := 146, attributes := #[] }, { accessFlags := 18, nameIndex := 57, descriptorIndex := 58, attributes := #[] }, { accessFlags := 26, nameIndex := 176, descriptorIndex := 177, attributes := #[] }, { accessFlags := 4120, nameIndex := 91, descriptorIndex := 92, attributes := #[] }])
  fields := #[{ name := "POSITIVE_INFINITY", type := .float, accessFlags := 25, slot := 0, constantValue := 0 }, { name := "NEGATIVE_INFINITY", type := .float, accessFlags := 25, slot := 1, constantValue := 0 }, { name := "NaN", type := .float, accessFlags := 25, slot := 2, constantValue := 0 }, { name := "MAX_VALUE", type := .float, accessFlags := 25, slot := 3, constantValue := 0 }, { name := "MIN_NORMAL", type := .float, accessFlags := 25, slot := 4, constantValue := 0 }, { name := "MIN_VALUE", type := .float, accessFlags := 25, slot := 5, constantValue := 0 }, { name := "SIZE", type := .int, accessFlags := 25, slot := 6, constantValue := 0 }, { name := "PRECISION", type := .int, accessFlags := 25, slot := 7, constantValue := 0 }, { name := "MAX_EXPONENT", type := .int, accessFlags := 25, slot := 8, constantValue := 0 }, { name := "MIN_EXPONENT", type := .int, accessFlags := 25, slot := 9, constantValue := 0 }, { name := "BYTES", type := .int, accessFlags := 25, slot := 10, constantValue := 0 }, { name := "TYPE", type := (.object "java/lang/Class"), accessFlags := 25, slot := 11, constantValue := 0 }, { name := "value", type := .float, accessFlags := 18, slot := 0, constantValue := 0 }, { name := "serialVersionUID", type := .long, accessFlags := 26, slot := 12, constantValue := 0 }, { name := "$assertionsDisabled", type := .boolean, accessFlags := 4120, slot := 13, constantValue := 0 }]
  methods := #[k8m0, k8m1, k8m2]
  instanceTypes := #[.float]
  staticTypes := #[.float, .float, .float, .float, .float, .float, .int, .int, .int, .int, .int, (.object "java/lang/Class"), .long, .boolean]
  resolved := Array.replicate 279 none
  statics := none }

def pool9 : Array CpInfo := pool [(2, .class_ 4), (1, u "java/lang/CharSequence"), (42, .class_ 48), (0, u "java/lang/CharSequence$1CodePointIterator"), (10, .class_ 60), (0, u "java/lang/CharSequence$1CharIterator"), (5, .class_ 67), (0, u "java/lang/Object")] 63

/-- java/lang/CharSequence -/
def k9 : Class := { plain "java/lang/CharSequence" (some 0) with
  accessFlags := 1537
  interfaces := #[]
  cf := some (fileOf pool9 2 #[.nestMembers #[47, 59]] #[] 1537 66 #[] #[])
  fields := #[]
  methods := #[]
  instanceTypes := #[]
  staticTypes := #[]
  resolved := Array.replicate 131 none
  statics := none }

def pool10 : Array CpInfo := pool [(2, .class_ 4), (1, u "java/lang/Object"), (0, u "<init>"), (0, u "()V"), (3, .class_ 12), (1, u "java/lang/String"), (0, u "value"), (0, u "[B"), (2, u "coder"), (0, u "B"), (2, u "hash"), (0, u "I"), (2, u "hashIsZero"), (0, u "Z"), (13, u "COMPACT_STRINGS"), (534, .class_ 576), (0, u "java/lang/CharSequence"), (22, u "CASE_INSENSITIVE_ORDER"), (0, u "Ljava/util/Comparator;"), (500, u "serialPersistentFields"), (0, u "[Ljava/io/ObjectStreamField;"), (0, .class_ 1104), (0, u "java/lang/String$CaseInsensitiveComparator"), (1, .class_ 1107), (0, u "java/io/Serializable"), (0, .class_ 1109), (0, u "java/lang/Comparable"), (0, .class_ 1111), (0, u "java/lang/constant/Constable"), (0, .class_ 1113), (0, u "java/lang/constant/ConstantDesc"), (2, u "serialVersionUID"), (0, u "J"), (3, u "REPL"), (0, u "C"), (2, u "LATIN1"), (1, u "UTF16")] 323

def k10m0 : Method := { name := "<init>", desc := "()V", sig := { parameters := [], returnType := none }, accessFlags := 1, code := none }
/-- java/lang/String -/
def k10 : Class := { plain "java/lang/String" (some 0) with
  accessFlags := 49
  interfaces := #[3, 2, 9, 6, 7]
  cf := some (fileOf pool10 10 #[.nestMembers #[1103]] #[{ accessFlags := 1, nameIndex := 5, descriptorIndex := 6, attributes := #[] }] 49 2 #[1106, 1108, 575, 1110, 1112] #[{ accessFlags := 18, nameIndex := 13, descriptorIndex := 14, attributes := #[] }, { accessFlags := 18, nameIndex := 17, descriptorIndex := 18, attributes := #[] }, { accessFlags := 2, nameIndex := 21, descriptorIndex := 22, attributes := #[] }, { accessFlags := 2, nameIndex := 25, descriptorIndex := 26, attributes := #[] }, { accessFlags := 26, nameIndex := 1116, descriptorIndex := 1117, attributes := #[] }, { accessFlags := 24, nameIndex := 40, descriptorIndex := 26, attributes := #[] }, { accessFlags := 26, nameIndex := 1101, descriptorIndex := 1102, attributes := #[] }, { accessFlags := 26, nameIndex := 1121, descriptorIndex := 1122, attributes := #[] }, { accessFlags := 25, nameIndex := 599, descriptorIndex := 600, attributes := #[] }, { accessFlags := 24, nameIndex := 1125, descriptorIndex := 18, attributes := #[] }, { accessFlags := 24, nameIndex := 1127, descriptorIndex := 18, attributes := #[] }])
  fields := #[{ name := "value", type := (.array .byte), accessFlags := 18, slot := 0, constantValue := 0 }, { name := "coder", type := .byte, accessFlags := 18, slot := 1, constantValue := 0 }, { name := "hash", type := .int, accessFlags := 2, slot := 2, constantValue := 0 }, { name := "hashIsZero", type := .boolean, accessFlags := 2, slot := 3, constantValue := 0 }, { name := "serialVersionUID", type := .long, accessFlags := 26, slot := 0, constantValue := 0 }, { name := "COMPACT_STRINGS", type := .boolean, accessFlags := 24, slot := 1, constantValue := 0 }, { name := "serialPersistentFields", type := (.array (.object "java/io/ObjectStreamField")), accessFlags := 26, slot := 2, constantValue := 0 }, { name := "REPL", type := .char, accessFlags := 26, slot := 3, constantValue := 0 }, { name := "CASE_INSENSITIVE_ORDER", type := (.object "java/util/Comparator"), accessFlags := 25, slot := 4, constantValue := 0 }, { name := "LATIN1", type := .byte, accessFlags := 24, slot := 5, constantValue := 0 }, { name := "UTF16", type := .byte, accessFlags := 24, slot := 6, constantValue := 0 }]
  methods := #[k10m0]
  instanceTypes := #[(.array .byte), .byte, .int, .boolean]
  staticTypes := #[.long, .boolean, (.array (.object "java/io/ObjectStreamField")), .char, (.object "java/util/Comparator"), .byte, .byte]
  resolved := Array.replicate 1451 none
  statics := none }

def pool11 : Array CpInfo := pool [(1, .class_ 2), (0, u "java/lang/Integer"), (16, u "digits"), (0, u "[C"), (46, u "<init>"), (17, u "DigitOnes"), (0, u "[B"), (2, u "DigitTens"), (10, .nameAndType 67 101), (0, u "()V"), (85, u "valueOf"), (0, u "(I)Ljava/lang/Integer;"), (0, .class_ 190), (0, u "java/lang/Integer$IntegerCache"), (0, .fieldref 189 192), (0, .nameAndType 193 194), (0, u "high"), (0, u "I"), (0, .fieldref 189 196), (0, .nameAndType 197 198), (0, u "cache"), (0, u "[Ljava/lang/Integer;"), (0, .methodref 1 200), (0, .nameAndType 67 201), (0, u "(I)V"), (0, .methodref 203 100), (0, .class_ 204), (0, u "java/lang/Number"), (0, .fieldref 1 206), (0, .nameAndType 207 194), (0, u "value"), (94, u "TYPE"), (0, u "Ljava/lang/Class;"), (0, .class_ 305), (0, u "java/lang/Comparable"), (0, .class_ 307), (0, u "java/lang/constant/Constable"), (0, .class_ 309), (0, u "java/lang/constant/ConstantDesc"), (0, u "MIN_VALUE"), (1, u "MAX_VALUE"), (3, u "SIZE"), (1, u "BYTES"), (1, u "serialVersionUID"), (0, u "J")] 131

def k11c0 : Code := { maxStack := 3, maxLocals := 1, code := jdk_33_method_22_code, exceptionTable := #[], attributes := #[] }
def k11m0 : Method := { name := "valueOf", desc := "(I)Ljava/lang/Integer;", sig := { parameters := [.int], returnType := some (.object "java/lang/Integer") }, accessFlags := 9, code := some k11c0 }
def k11c1 : Code := { maxStack := 2, maxLocals := 2, code := jdk_33_method_23_code, exceptionTable := #[], attributes := #[] }
def k11m1 : Method := { name := "<init>", desc := "(I)V", sig := { parameters := [.int], returnType := none }, accessFlags := 1, code := some k11c1 }
/-- java/lang/Integer -/
def k11 : Class := { plain "java/lang/Integer" (some 5) with
  accessFlags := 49
  interfaces := #[2, 6, 7]
  cf := some (fileOf pool11 1 #[.nestMembers #[189]] #[{ accessFlags := 9, nameIndex := 187, descriptorIndex := 188, attributes := #[] }, { accessFlags := 1, nameIndex := 67, descriptorIndex := 201, attributes := #[] }] 49 203 #[304, 306, 308] #[{ accessFlags := 25, nameIndex := 310, descriptorIndex := 194, attributes := #[] }, { accessFlags := 25, nameIndex := 312, descriptorIndex := 194, attributes := #[] }, { accessFlags := 25, nameIndex := 302, descriptorIndex := 303, attributes := #[] }, { accessFlags := 24, nameIndex := 19, descriptorIndex := 20, attributes := #[] }, { accessFlags := 24, nameIndex := 89, descriptorIndex := 86, attributes := #[] }, { accessFlags := 24, nameIndex := 85, descriptorIndex := 86, attributes := #[] }, { accessFlags := 18, nameIndex := 207, descriptorIndex := 194, attributes := #[] }, { accessFlags := 25, nameIndex := 316, descriptorIndex := 194, attributes := #[] }, { accessFlags := 25, nameIndex := 318, descriptorIndex := 194, attributes := #[] }, { accessFlags := 26, nameIndex := 320, descriptorIndex := 321, attributes := #[] }])
  fields := #[{ name := "MIN_VALUE", type := .int, accessFlags := 25, slot := 0, constantValue := 0 }, { name := "MAX_VALUE", type := .int, accessFlags := 25, slot := 1, constantValue := 0 }, { name := "TYPE", type := (.object "java/lang/Class"), accessFlags := 25, slot := 2, constantValue := 0 }, { name := "digits", type := (.array .char), accessFlags := 24, slot := 3, constantValue := 0 }, { name := "DigitTens", type := (.array .byte), accessFlags := 24, slot := 4, constantValue := 0 }, { name := "DigitOnes", type := (.array .byte), accessFlags := 24, slot := 5, constantValue := 0 }, { name := "value", type := .int, accessFlags := 18, slot := 0, constantValue := 0 }, { name := "SIZE", type := .int, accessFlags := 25, slot := 6, constantValue := 0 }, { name := "BYTES", type := .int, accessFlags := 25, slot := 7, constantValue := 0 }, { name := "serialVersionUID", type := .long, accessFlags := 26, slot := 8, constantValue := 0 }]
  methods := #[k11m0, k11m1]
  instanceTypes := #[.int]
  staticTypes := #[.int, .int, (.object "java/lang/Class"), (.array .char), (.array .byte), (.array .byte), .int, .int, .long]
  resolved := Array.replicate 453 none
  statics := none }

def pool12 : Array CpInfo := pool [(2, .class_ 4), (1, u "java/lang/Object"), (0, u "<init>"), (0, u "()V"), (0, .class_ 8), (0, u "java/lang/Integer"), (7, .class_ 18), (1, u "java/lang/Integer$IntegerCache"), (0, u "$assertionsDisabled"), (0, u "Z"), (26, u "high"), (0, u "I"), (8, u "archivedCache"), (0, u "[Ljava/lang/Integer;"), (12, u "cache"), (0, u "low")] 27

def k12m0 : Method := { name := "<init>", desc := "()V", sig := { parameters := [], returnType := none }, accessFlags := 2, code := none }
/-- java/lang/Integer$IntegerCache -/
def k12 : Class := { plain "java/lang/Integer$IntegerCache" (some 0) with
  accessFlags := 48
  interfaces := #[]
  cf := some (fileOf pool12 16 #[.nestHost 7] #[{ accessFlags := 2, nameIndex := 5, descriptorIndex := 6, attributes := #[] }] 48 2 #[] #[{ accessFlags := 24, nameIndex := 72, descriptorIndex := 48, attributes := #[] }, { accessFlags := 24, nameIndex := 47, descriptorIndex := 48, attributes := #[] }, { accessFlags := 24, nameIndex := 71, descriptorIndex := 58, attributes := #[] }, { accessFlags := 8, nameIndex := 57, descriptorIndex := 58, attributes := #[] }, { accessFlags := 4120, nameIndex := 19, descriptorIndex := 20, attributes := #[] }])
  fields := #[{ name := "low", type := .int, accessFlags := 24, slot := 0, constantValue := 0 }, { name := "high", type := .int, accessFlags := 24, slot := 1, constantValue := 0 }, { name := "cache", type := (.array (.object "java/lang/Integer")), accessFlags := 24, slot := 2, constantValue := 0 }, { name := "archivedCache", type := (.array (.object "java/lang/Integer")), accessFlags := 8, slot := 3, constantValue := 0 }, { name := "$assertionsDisabled", type := .boolean, accessFlags := 4120, slot := 4, constantValue := 0 }]
  methods := #[k12m0]
  instanceTypes := #[]
  staticTypes := #[.int, .int, (.array (.object "java/lang/Integer")), (.array (.object "java/lang/Integer")), .boolean]
  resolved := Array.replicate 100 none
  statics := some 0 }

def pool13 : Array CpInfo := pool [(1, u "java/lang/Cloneable"), (0, .class_ 1), (0, u "java/lang/Object"), (0, .class_ 3)] 3

/-- java/lang/Cloneable -/
def k13 : Class := { plain "java/lang/Cloneable" (some 0) with
  accessFlags := 1537
  interfaces := #[]
  cf := some (fileOf pool13 2 #[] #[] 1537 4 #[] #[])
  fields := #[]
  methods := #[]
  instanceTypes := #[]
  staticTypes := #[]
  resolved := Array.replicate 8 none
  statics := none }

/-- the primitive byte -/
def k14 : Class := { plain "byte" none with kind := .primitive 'B', accessFlags := 0x411 }
/-- [B -/
def k15 : Class := { plain "[B" (some 0) with kind := .array 14 .byte, interfaces := #[13, 3], accessFlags := 1041 }

/-- the primitive int -/
def k16 : Class := { plain "int" none with kind := .primitive 'I', accessFlags := 0x411 }
/-- [I -/
def k17 : Class := { plain "[I" (some 0) with kind := .array 16 .int, interfaces := #[13, 3], accessFlags := 1041 }

/-- [Ljava/lang/Integer; -/
def k18 : Class := { plain "[Ljava/lang/Integer;" (some 0) with kind := .array 11 (.object "java/lang/Integer"), interfaces := #[13, 3], accessFlags := 1041 }

def heap : Heap := #[{ cls := 12, slots := #[.int 0, .int 127, .ref 1, .null, .int 0], vm := .statics 12 },
  { cls := 18, slots := #[.ref 2, .ref 3, .ref 4, .ref 5, .ref 6, .ref 7, .ref 8, .ref 9, .ref 10, .ref 11, .ref 12, .ref 13, .ref 14, .ref 15, .ref 16, .ref 17, .ref 18, .ref 19, .ref 20, .ref 21, .ref 22, .ref 23, .ref 24, .ref 25, .ref 26, .ref 27, .ref 28, .ref 29, .ref 30, .ref 31, .ref 32, .ref 33, .ref 34, .ref 35, .ref 36, .ref 37, .ref 38, .ref 39, .ref 40, .ref 41, .ref 42, .ref 43, .ref 44, .ref 45, .ref 46, .ref 47, .ref 48, .ref 49, .ref 50, .ref 51, .ref 52, .ref 53, .ref 54, .ref 55, .ref 56, .ref 57, .ref 58, .ref 59, .ref 60, .ref 61, .ref 62, .ref 63, .ref 64, .ref 65, .ref 66, .ref 67, .ref 68, .ref 69, .ref 70, .ref 71, .ref 72, .ref 73, .ref 74, .ref 75, .ref 76, .ref 77, .ref 78, .ref 79, .ref 80, .ref 81, .ref 82, .ref 83, .ref 84, .ref 85, .ref 86, .ref 87, .ref 88, .ref 89, .ref 90, .ref 91, .ref 92, .ref 93, .ref 94, .ref 95, .ref 96, .ref 97, .ref 98, .ref 99, .ref 100, .ref 101, .ref 102, .ref 103, .ref 104, .ref 105, .ref 106, .ref 107, .ref 108, .ref 109, .ref 110, .ref 111, .ref 112, .ref 113, .ref 114, .ref 115, .ref 116, .ref 117, .ref 118, .ref 119, .ref 120, .ref 121, .ref 122, .ref 123, .ref 124, .ref 125, .ref 126, .ref 127, .ref 128, .ref 129, .ref 130, .ref 131, .ref 132, .ref 133, .ref 134, .ref 135, .ref 136, .ref 137, .ref 138, .ref 139, .ref 140, .ref 141, .ref 142, .ref 143, .ref 144, .ref 145, .ref 146, .ref 147, .ref 148, .ref 149, .ref 150, .ref 151, .ref 152, .ref 153, .ref 154, .ref 155, .ref 156, .ref 157, .ref 158, .ref 159, .ref 160, .ref 161, .ref 162, .ref 163, .ref 164, .ref 165, .ref 166, .ref 167, .ref 168, .ref 169, .ref 170, .ref 171, .ref 172, .ref 173, .ref 174, .ref 175, .ref 176, .ref 177, .ref 178, .ref 179, .ref 180, .ref 181, .ref 182, .ref 183, .ref 184, .ref 185, .ref 186, .ref 187, .ref 188, .ref 189, .ref 190, .ref 191, .ref 192, .ref 193, .ref 194, .ref 195, .ref 196, .ref 197, .ref 198, .ref 199, .ref 200, .ref 201, .ref 202, .ref 203, .ref 204, .ref 205, .ref 206, .ref 207, .ref 208, .ref 209, .ref 210, .ref 211, .ref 212, .ref 213, .ref 214, .ref 215, .ref 216, .ref 217, .ref 218, .ref 219, .ref 220, .ref 221, .ref 222, .ref 223, .ref 224, .ref 225, .ref 226, .ref 227, .ref 228, .ref 229, .ref 230, .ref 231, .ref 232, .ref 233, .ref 234, .ref 235, .ref 236, .ref 237, .ref 238, .ref 239, .ref 240, .ref 241, .ref 242, .ref 243, .ref 244, .ref 245, .ref 246, .ref 247, .ref 248, .ref 249, .ref 250, .ref 251, .ref 252, .ref 253, .ref 254, .ref 255, .ref 256, .ref 257], vm := .none },
  { cls := 11, slots := #[.int (-128)], vm := .none },
  { cls := 11, slots := #[.int (-127)], vm := .none },
  { cls := 11, slots := #[.int (-126)], vm := .none },
  { cls := 11, slots := #[.int (-125)], vm := .none },
  { cls := 11, slots := #[.int (-124)], vm := .none },
  { cls := 11, slots := #[.int (-123)], vm := .none },
  { cls := 11, slots := #[.int (-122)], vm := .none },
  { cls := 11, slots := #[.int (-121)], vm := .none },
  { cls := 11, slots := #[.int (-120)], vm := .none },
  { cls := 11, slots := #[.int (-119)], vm := .none },
  { cls := 11, slots := #[.int (-118)], vm := .none },
  { cls := 11, slots := #[.int (-117)], vm := .none },
  { cls := 11, slots := #[.int (-116)], vm := .none },
  { cls := 11, slots := #[.int (-115)], vm := .none },
  { cls := 11, slots := #[.int (-114)], vm := .none },
  { cls := 11, slots := #[.int (-113)], vm := .none },
  { cls := 11, slots := #[.int (-112)], vm := .none },
  { cls := 11, slots := #[.int (-111)], vm := .none },
  { cls := 11, slots := #[.int (-110)], vm := .none },
  { cls := 11, slots := #[.int (-109)], vm := .none },
  { cls := 11, slots := #[.int (-108)], vm := .none },
  { cls := 11, slots := #[.int (-107)], vm := .none },
  { cls := 11, slots := #[.int (-106)], vm := .none },
  { cls := 11, slots := #[.int (-105)], vm := .none },
  { cls := 11, slots := #[.int (-104)], vm := .none },
  { cls := 11, slots := #[.int (-103)], vm := .none },
  { cls := 11, slots := #[.int (-102)], vm := .none },
  { cls := 11, slots := #[.int (-101)], vm := .none },
  { cls := 11, slots := #[.int (-100)], vm := .none },
  { cls := 11, slots := #[.int (-99)], vm := .none },
  { cls := 11, slots := #[.int (-98)], vm := .none },
  { cls := 11, slots := #[.int (-97)], vm := .none },
  { cls := 11, slots := #[.int (-96)], vm := .none },
  { cls := 11, slots := #[.int (-95)], vm := .none },
  { cls := 11, slots := #[.int (-94)], vm := .none },
  { cls := 11, slots := #[.int (-93)], vm := .none },
  { cls := 11, slots := #[.int (-92)], vm := .none },
  { cls := 11, slots := #[.int (-91)], vm := .none },
  { cls := 11, slots := #[.int (-90)], vm := .none },
  { cls := 11, slots := #[.int (-89)], vm := .none },
  { cls := 11, slots := #[.int (-88)], vm := .none },
  { cls := 11, slots := #[.int (-87)], vm := .none },
  { cls := 11, slots := #[.int (-86)], vm := .none },
  { cls := 11, slots := #[.int (-85)], vm := .none },
  { cls := 11, slots := #[.int (-84)], vm := .none },
  { cls := 11, slots := #[.int (-83)], vm := .none },
  { cls := 11, slots := #[.int (-82)], vm := .none },
  { cls := 11, slots := #[.int (-81)], vm := .none },
  { cls := 11, slots := #[.int (-80)], vm := .none },
  { cls := 11, slots := #[.int (-79)], vm := .none },
  { cls := 11, slots := #[.int (-78)], vm := .none },
  { cls := 11, slots := #[.int (-77)], vm := .none },
  { cls := 11, slots := #[.int (-76)], vm := .none },
  { cls := 11, slots := #[.int (-75)], vm := .none },
  { cls := 11, slots := #[.int (-74)], vm := .none },
  { cls := 11, slots := #[.int (-73)], vm := .none },
  { cls := 11, slots := #[.int (-72)], vm := .none },
  { cls := 11, slots := #[.int (-71)], vm := .none },
  { cls := 11, slots := #[.int (-70)], vm := .none },
  { cls := 11, slots := #[.int (-69)], vm := .none },
  { cls := 11, slots := #[.int (-68)], vm := .none },
  { cls := 11, slots := #[.int (-67)], vm := .none },
  { cls := 11, slots := #[.int (-66)], vm := .none },
  { cls := 11, slots := #[.int (-65)], vm := .none },
  { cls := 11, slots := #[.int (-64)], vm := .none },
  { cls := 11, slots := #[.int (-63)], vm := .none },
  { cls := 11, slots := #[.int (-62)], vm := .none },
  { cls := 11, slots := #[.int (-61)], vm := .none },
  { cls := 11, slots := #[.int (-60)], vm := .none },
  { cls := 11, slots := #[.int (-59)], vm := .none },
  { cls := 11, slots := #[.int (-58)], vm := .none },
  { cls := 11, slots := #[.int (-57)], vm := .none },
  { cls := 11, slots := #[.int (-56)], vm := .none },
  { cls := 11, slots := #[.int (-55)], vm := .none },
  { cls := 11, slots := #[.int (-54)], vm := .none },
  { cls := 11, slots := #[.int (-53)], vm := .none },
  { cls := 11, slots := #[.int (-52)], vm := .none },
  { cls := 11, slots := #[.int (-51)], vm := .none },
  { cls := 11, slots := #[.int (-50)], vm := .none },
  { cls := 11, slots := #[.int (-49)], vm := .none },
  { cls := 11, slots := #[.int (-48)], vm := .none },
  { cls := 11, slots := #[.int (-47)], vm := .none },
  { cls := 11, slots := #[.int (-46)], vm := .none },
  { cls := 11, slots := #[.int (-45)], vm := .none },
  { cls := 11, slots := #[.int (-44)], vm := .none },
  { cls := 11, slots := #[.int (-43)], vm := .none },
  { cls := 11, slots := #[.int (-42)], vm := .none },
  { cls := 11, slots := #[.int (-41)], vm := .none },
  { cls := 11, slots := #[.int (-40)], vm := .none },
  { cls := 11, slots := #[.int (-39)], vm := .none },
  { cls := 11, slots := #[.int (-38)], vm := .none },
  { cls := 11, slots := #[.int (-37)], vm := .none },
  { cls := 11, slots := #[.int (-36)], vm := .none },
  { cls := 11, slots := #[.int (-35)], vm := .none },
  { cls := 11, slots := #[.int (-34)], vm := .none },
  { cls := 11, slots := #[.int (-33)], vm := .none },
  { cls := 11, slots := #[.int (-32)], vm := .none },
  { cls := 11, slots := #[.int (-31)], vm := .none },
  { cls := 11, slots := #[.int (-30)], vm := .none },
  { cls := 11, slots := #[.int (-29)], vm := .none },
  { cls := 11, slots := #[.int (-28)], vm := .none },
  { cls := 11, slots := #[.int (-27)], vm := .none },
  { cls := 11, slots := #[.int (-26)], vm := .none },
  { cls := 11, slots := #[.int (-25)], vm := .none },
  { cls := 11, slots := #[.int (-24)], vm := .none },
  { cls := 11, slots := #[.int (-23)], vm := .none },
  { cls := 11, slots := #[.int (-22)], vm := .none },
  { cls := 11, slots := #[.int (-21)], vm := .none },
  { cls := 11, slots := #[.int (-20)], vm := .none },
  { cls := 11, slots := #[.int (-19)], vm := .none },
  { cls := 11, slots := #[.int (-18)], vm := .none },
  { cls := 11, slots := #[.int (-17)], vm := .none },
  { cls := 11, slots := #[.int (-16)], vm := .none },
  { cls := 11, slots := #[.int (-15)], vm := .none },
  { cls := 11, slots := #[.int (-14)], vm := .none },
  { cls := 11, slots := #[.int (-13)], vm := .none },
  { cls := 11, slots := #[.int (-12)], vm := .none },
  { cls := 11, slots := #[.int (-11)], vm := .none },
  { cls := 11, slots := #[.int (-10)], vm := .none },
  { cls := 11, slots := #[.int (-9)], vm := .none },
  { cls := 11, slots := #[.int (-8)], vm := .none },
  { cls := 11, slots := #[.int (-7)], vm := .none },
  { cls := 11, slots := #[.int (-6)], vm := .none },
  { cls := 11, slots := #[.int (-5)], vm := .none },
  { cls := 11, slots := #[.int (-4)], vm := .none },
  { cls := 11, slots := #[.int (-3)], vm := .none },
  { cls := 11, slots := #[.int (-2)], vm := .none },
  { cls := 11, slots := #[.int (-1)], vm := .none },
  { cls := 11, slots := #[.int (0)], vm := .none },
  { cls := 11, slots := #[.int (1)], vm := .none },
  { cls := 11, slots := #[.int (2)], vm := .none },
  { cls := 11, slots := #[.int (3)], vm := .none },
  { cls := 11, slots := #[.int (4)], vm := .none },
  { cls := 11, slots := #[.int (5)], vm := .none },
  { cls := 11, slots := #[.int (6)], vm := .none },
  { cls := 11, slots := #[.int (7)], vm := .none },
  { cls := 11, slots := #[.int (8)], vm := .none },
  { cls := 11, slots := #[.int (9)], vm := .none },
  { cls := 11, slots := #[.int (10)], vm := .none },
  { cls := 11, slots := #[.int (11)], vm := .none },
  { cls := 11, slots := #[.int (12)], vm := .none },
  { cls := 11, slots := #[.int (13)], vm := .none },
  { cls := 11, slots := #[.int (14)], vm := .none },
  { cls := 11, slots := #[.int (15)], vm := .none },
  { cls := 11, slots := #[.int (16)], vm := .none },
  { cls := 11, slots := #[.int (17)], vm := .none },
  { cls := 11, slots := #[.int (18)], vm := .none },
  { cls := 11, slots := #[.int (19)], vm := .none },
  { cls := 11, slots := #[.int (20)], vm := .none },
  { cls := 11, slots := #[.int (21)], vm := .none },
  { cls := 11, slots := #[.int (22)], vm := .none },
  { cls := 11, slots := #[.int (23)], vm := .none },
  { cls := 11, slots := #[.int (24)], vm := .none },
  { cls := 11, slots := #[.int (25)], vm := .none },
  { cls := 11, slots := #[.int (26)], vm := .none },
  { cls := 11, slots := #[.int (27)], vm := .none },
  { cls := 11, slots := #[.int (28)], vm := .none },
  { cls := 11, slots := #[.int (29)], vm := .none },
  { cls := 11, slots := #[.int (30)], vm := .none },
  { cls := 11, slots := #[.int (31)], vm := .none },
  { cls := 11, slots := #[.int (32)], vm := .none },
  { cls := 11, slots := #[.int (33)], vm := .none },
  { cls := 11, slots := #[.int (34)], vm := .none },
  { cls := 11, slots := #[.int (35)], vm := .none },
  { cls := 11, slots := #[.int (36)], vm := .none },
  { cls := 11, slots := #[.int (37)], vm := .none },
  { cls := 11, slots := #[.int (38)], vm := .none },
  { cls := 11, slots := #[.int (39)], vm := .none },
  { cls := 11, slots := #[.int (40)], vm := .none },
  { cls := 11, slots := #[.int (41)], vm := .none },
  { cls := 11, slots := #[.int (42)], vm := .none },
  { cls := 11, slots := #[.int (43)], vm := .none },
  { cls := 11, slots := #[.int (44)], vm := .none },
  { cls := 11, slots := #[.int (45)], vm := .none },
  { cls := 11, slots := #[.int (46)], vm := .none },
  { cls := 11, slots := #[.int (47)], vm := .none },
  { cls := 11, slots := #[.int (48)], vm := .none },
  { cls := 11, slots := #[.int (49)], vm := .none },
  { cls := 11, slots := #[.int (50)], vm := .none },
  { cls := 11, slots := #[.int (51)], vm := .none },
  { cls := 11, slots := #[.int (52)], vm := .none },
  { cls := 11, slots := #[.int (53)], vm := .none },
  { cls := 11, slots := #[.int (54)], vm := .none },
  { cls := 11, slots := #[.int (55)], vm := .none },
  { cls := 11, slots := #[.int (56)], vm := .none },
  { cls := 11, slots := #[.int (57)], vm := .none },
  { cls := 11, slots := #[.int (58)], vm := .none },
  { cls := 11, slots := #[.int (59)], vm := .none },
  { cls := 11, slots := #[.int (60)], vm := .none },
  { cls := 11, slots := #[.int (61)], vm := .none },
  { cls := 11, slots := #[.int (62)], vm := .none },
  { cls := 11, slots := #[.int (63)], vm := .none },
  { cls := 11, slots := #[.int (64)], vm := .none },
  { cls := 11, slots := #[.int (65)], vm := .none },
  { cls := 11, slots := #[.int (66)], vm := .none },
  { cls := 11, slots := #[.int (67)], vm := .none },
  { cls := 11, slots := #[.int (68)], vm := .none },
  { cls := 11, slots := #[.int (69)], vm := .none },
  { cls := 11, slots := #[.int (70)], vm := .none },
  { cls := 11, slots := #[.int (71)], vm := .none },
  { cls := 11, slots := #[.int (72)], vm := .none },
  { cls := 11, slots := #[.int (73)], vm := .none },
  { cls := 11, slots := #[.int (74)], vm := .none },
  { cls := 11, slots := #[.int (75)], vm := .none },
  { cls := 11, slots := #[.int (76)], vm := .none },
  { cls := 11, slots := #[.int (77)], vm := .none },
  { cls := 11, slots := #[.int (78)], vm := .none },
  { cls := 11, slots := #[.int (79)], vm := .none },
  { cls := 11, slots := #[.int (80)], vm := .none },
  { cls := 11, slots := #[.int (81)], vm := .none },
  { cls := 11, slots := #[.int (82)], vm := .none },
  { cls := 11, slots := #[.int (83)], vm := .none },
  { cls := 11, slots := #[.int (84)], vm := .none },
  { cls := 11, slots := #[.int (85)], vm := .none },
  { cls := 11, slots := #[.int (86)], vm := .none },
  { cls := 11, slots := #[.int (87)], vm := .none },
  { cls := 11, slots := #[.int (88)], vm := .none },
  { cls := 11, slots := #[.int (89)], vm := .none },
  { cls := 11, slots := #[.int (90)], vm := .none },
  { cls := 11, slots := #[.int (91)], vm := .none },
  { cls := 11, slots := #[.int (92)], vm := .none },
  { cls := 11, slots := #[.int (93)], vm := .none },
  { cls := 11, slots := #[.int (94)], vm := .none },
  { cls := 11, slots := #[.int (95)], vm := .none },
  { cls := 11, slots := #[.int (96)], vm := .none },
  { cls := 11, slots := #[.int (97)], vm := .none },
  { cls := 11, slots := #[.int (98)], vm := .none },
  { cls := 11, slots := #[.int (99)], vm := .none },
  { cls := 11, slots := #[.int (100)], vm := .none },
  { cls := 11, slots := #[.int (101)], vm := .none },
  { cls := 11, slots := #[.int (102)], vm := .none },
  { cls := 11, slots := #[.int (103)], vm := .none },
  { cls := 11, slots := #[.int (104)], vm := .none },
  { cls := 11, slots := #[.int (105)], vm := .none },
  { cls := 11, slots := #[.int (106)], vm := .none },
  { cls := 11, slots := #[.int (107)], vm := .none },
  { cls := 11, slots := #[.int (108)], vm := .none },
  { cls := 11, slots := #[.int (109)], vm := .none },
  { cls := 11, slots := #[.int (110)], vm := .none },
  { cls := 11, slots := #[.int (111)], vm := .none },
  { cls := 11, slots := #[.int (112)], vm := .none },
  { cls := 11, slots := #[.int (113)], vm := .none },
  { cls := 11, slots := #[.int (114)], vm := .none },
  { cls := 11, slots := #[.int (115)], vm := .none },
  { cls := 11, slots := #[.int (116)], vm := .none },
  { cls := 11, slots := #[.int (117)], vm := .none },
  { cls := 11, slots := #[.int (118)], vm := .none },
  { cls := 11, slots := #[.int (119)], vm := .none },
  { cls := 11, slots := #[.int (120)], vm := .none },
  { cls := 11, slots := #[.int (121)], vm := .none },
  { cls := 11, slots := #[.int (122)], vm := .none },
  { cls := 11, slots := #[.int (123)], vm := .none },
  { cls := 11, slots := #[.int (124)], vm := .none },
  { cls := 11, slots := #[.int (125)], vm := .none },
  { cls := 11, slots := #[.int (126)], vm := .none },
  { cls := 11, slots := #[.int (127)], vm := .none }]
def classes : Array Class := #[k0, k1, k2, k3, k4, k5, k6, k7, k8, k9, k10, k11, k12, k13, k14, k15, k16, k17, k18]
def interned : List (Array UInt16 × Addr) := []
def slotsUsed : Nat := 517
def theMethod : MethodId := ⟨1, 2⟩
def args0 : Array Value := #[.int 5, .int 6, .int 700, .int 900, .int 0]
def aboutOver (below : List Frame) : State where
  vm := { classes := classes, interned := interned.toArray }
  heap := heap
  slotsUsed := slotsUsed
  threads := #[{ frames := .invoking theMethod args0 :: below }]
def below0 : List Frame := [.native { method := ⟨0, 0⟩, args := #[] }]
def about1 : State := aboutOver below0
def p0 : Program := .bare "" "" ""
def e0 : Env := launch0.env 0 0 0
theorem w_frames : about1.frames = Frame.invoking theMethod args0 :: below0 := rfl
set_option maxRecDepth 65536 in
theorem w_args : argsFit about1.vm theMethod args0 = true := by decide +kernel
set_option maxRecDepth 65536 in
theorem w_heap : heapFits about1 = true := by decide +kernel
set_option maxRecDepth 65536 in
theorem w_runnable : about1.curStatus? = some .runnable := by decide +kernel
set_option maxRecDepth 65536 in
theorem w_alone : about1.alone = true := by decide +kernel
set_option maxRecDepth 65536 in
theorem w_named : about1.methodNamed? x = some theMethod := by decide +kernel
set_option maxRecDepth 65536 in
theorem w_hears : about1.hears theMethod below0 = true := by decide +kernel
set_option maxRecDepth 65536 in
theorem w_ripe : about1.ripe theMethod args0 below0 = true := by decide +kernel
theorem w_running : about1.status = .running := rfl
set_option maxRecDepth 65536 in
theorem w_room : about1.hasRoom e0.platform room_1 = true :=
  launch0.hasRoom_least _ room_1 (by decide +kernel) (by decide +kernel) (by decide +kernel) (by decide +kernel) (by decide +kernel) (by decide +kernel)
theorem allAtoms_all (ts : List Jvm.Cond) (a : Array Jvm.Value) (st : Jvm.State) : (allAtoms ts).before a st = ts.all (fun c => c.before a st) := by
  induction ts with
  | nil => rfl
  | cons c t ih =>
    show (Jvm.Cond.and c (allAtoms t)).before a st = _
    rw [Jvm.Cond.before_and, ih, List.all_cons]
def words1 : List Jvm.Cond := Jvm.Cond.code x code maxLocals ret :: tables_1
/-- a 'code' word, met by the world's own term for the bytes: nothing is compared byte by byte -/
theorem code_word {y : MethodName} {bytes : ByteArray} {mx : Nat} {rt : Option FieldType} {a : Array Value} {s : State} {m : MethodId} {meth : Method} {c : Code} (h1 : s.methodNamed? y = some m) (h2 : s.vm.method? m = some meth) (h3 : meth.code = some c) (h4 : c.code = bytes)
    (h5 : (c.maxLocals == mx && c.exceptionTable.isEmpty && decide (c.maxStack ≤ mostOperands) && decide (meth.sig.returnType = rt) && !meth.locks && decide (parseMethodDescriptor y.desc = some meth.sig)) = true) : (Jvm.Cond.code y bytes mx rt).before a s = true := by
  simp only [Bool.and_eq_true, beq_iff_eq, Bool.not_eq_true', decide_eq_true_eq] at h5
  obtain ⟨⟨⟨⟨⟨g1, g2⟩, g3⟩, g4⟩, g5⟩, g6⟩ := h5
  simp [Cond.before, Cond.holds, Cond.value, h1, h2, h3, h4, g1, g2, g3, g4, g5, g6]
def isCode : Jvm.Cond → Bool
  | .code _ _ _ _ => true
  | _ => false
theorem all_split {L : List Jvm.Cond} {P : Jvm.Cond → Bool} (h1 : L.all (fun c => isCode c || P c) = true) (h2 : ∀ c ∈ L.filter isCode, P c = true) : L.all P = true := by
  refine List.all_eq_true.mpr fun c hc => ?_
  have h := List.all_eq_true.mp h1 c hc
  rcases Bool.eq_false_or_eq_true (isCode c) with hi | hi
  · exact h2 c (List.mem_filter.mpr ⟨hc, hi⟩)
  · simpa [hi] using h
set_option maxRecDepth 65536 in
theorem w_c0 : (Jvm.Cond.code x code maxLocals ret).before args0 about1 = true := code_word (m := ⟨1, 2⟩) (meth := k1m2) (c := k1c2) (by decide +kernel) rfl rfl rfl (by decide +kernel)
set_option maxRecDepth 65536 in
theorem w_c1 : (Jvm.Cond.code ({ cls := "com/example/mayes/mayes/GeoPtEqualsPinLaw", name := "deg", desc := "(IZ)F" } : Jvm.MethodName) method_2_code (2 : Nat) (Option.some Jvm.ClassFile.FieldType.float)).before args0 about1 = true := code_word (m := ⟨1, 1⟩) (meth := k1m1) (c := k1c1) (by decide +kernel) rfl rfl rfl (by decide +kernel)
set_option maxRecDepth 65536 in
theorem w_c2 : (Jvm.Cond.code ({ cls := "com/example/mayes/mayes/GeoPt", name := "<init>", desc := "(FF)V" } : Jvm.MethodName) prog_19_method_1_code (3 : Nat) (Option.none : Option Jvm.ClassFile.FieldType)).before args0 about1 = true := code_word (m := ⟨4, 0⟩) (meth := k4m0) (c := k4c0) (by decide +kernel) rfl rfl rfl (by decide +kernel)
set_option maxRecDepth 65536 in
theorem w_c3 : (Jvm.Cond.code ({ cls := "java/lang/Object", name := "<init>", desc := "()V" } : Jvm.MethodName) object_method_1_code (1 : Nat) (Option.none : Option Jvm.ClassFile.FieldType)).before args0 about1 = true := code_word (m := ⟨0, 0⟩) (meth := k0m0) (c := k0c0) (by decide +kernel) rfl rfl rfl (by decide +kernel)
set_option maxRecDepth 65536 in
theorem w_c4 : (Jvm.Cond.code ({ cls := "java/lang/Float", name := "valueOf", desc := "(F)Ljava/lang/Float;" } : Jvm.MethodName) jdk_118_method_4_code (1 : Nat) (Option.some (Jvm.ClassFile.FieldType.object "java/lang/Float"))).before args0 about1 = true := code_word (m := ⟨8, 0⟩) (meth := k8m0) (c := k8c0) (by decide +kernel) rfl rfl rfl (by decide +kernel)
set_option maxRecDepth 65536 in
theorem w_c5 : (Jvm.Cond.code ({ cls := "java/lang/Float", name := "<init>", desc := "(F)V" } : Jvm.MethodName) jdk_118_method_9_code (2 : Nat) (Option.none : Option Jvm.ClassFile.FieldType)).before args0 about1 = true := code_word (m := ⟨8, 1⟩) (meth := k8m1) (c := k8c1) (by decide +kernel) rfl rfl rfl (by decide +kernel)
set_option maxRecDepth 65536 in
theorem w_c6 : (Jvm.Cond.code ({ cls := "java/lang/Number", name := "<init>", desc := "()V" } : Jvm.MethodName) jdk_18_method_1_code (1 : Nat) (Option.none : Option Jvm.ClassFile.FieldType)).before args0 about1 = true := code_word (m := ⟨5, 0⟩) (meth := k5m0) (c := k5c0) (by decide +kernel) rfl rfl rfl (by decide +kernel)
set_option maxRecDepth 65536 in
theorem w_c7 : (Jvm.Cond.code ({ cls := "com/example/mayes/mayes/GeoPt", name := "checkCoordinates", desc := "(Ljava/lang/Number;Ljava/lang/Number;)V" } : Jvm.MethodName) prog_19_method_2_code (2 : Nat) (Option.none : Option Jvm.ClassFile.FieldType)).before args0 about1 = true := code_word (m := ⟨4, 1⟩) (meth := k4m1) (c := k4c1) (by decide +kernel) rfl rfl rfl (by decide +kernel)
set_option maxRecDepth 65536 in
theorem w_c8 : (Jvm.Cond.code ({ cls := "com/example/mayes/mayes/GeoPt", name := "checkRange", desc := "(Ljava/lang/String;Ljava/lang/Number;I)V" } : Jvm.MethodName) prog_19_method_3_code (5 : Nat) (Option.none : Option Jvm.ClassFile.FieldType)).before args0 about1 = true := code_word (m := ⟨4, 2⟩) (meth := k4m2) (c := k4c2) (by decide +kernel) rfl rfl rfl (by decide +kernel)
set_option maxRecDepth 65536 in
theorem w_c9 : (Jvm.Cond.code ({ cls := "java/lang/Float", name := "doubleValue", desc := "()D" } : Jvm.MethodName) jdk_118_method_20_code (1 : Nat) (Option.some Jvm.ClassFile.FieldType.double)).before args0 about1 = true := code_word (m := ⟨8, 2⟩) (meth := k8m2) (c := k8c2) (by decide +kernel) rfl rfl rfl (by decide +kernel)
set_option maxRecDepth 65536 in
theorem w_c10 : (Jvm.Cond.code ({ cls := "com/example/mayes/mayes/GeoPt", name := "equals", desc := "(Ljava/lang/Object;)Z" } : Jvm.MethodName) prog_19_method_8_code (3 : Nat) (Option.some Jvm.ClassFile.FieldType.boolean)).before args0 about1 = true := code_word (m := ⟨4, 3⟩) (meth := k4m3) (c := k4c3) (by decide +kernel) rfl rfl rfl (by decide +kernel)
set_option maxRecDepth 65536 in
theorem w_c11 : (Jvm.Cond.code ({ cls := "java/lang/Integer", name := "valueOf", desc := "(I)Ljava/lang/Integer;" } : Jvm.MethodName) jdk_33_method_22_code (1 : Nat) (Option.some (Jvm.ClassFile.FieldType.object "java/lang/Integer"))).before args0 about1 = true := code_word (m := ⟨11, 0⟩) (meth := k11m0) (c := k11c0) (by decide +kernel) rfl rfl rfl (by decide +kernel)
set_option maxRecDepth 65536 in
theorem w_c12 : (Jvm.Cond.code ({ cls := "java/lang/Integer", name := "<init>", desc := "(I)V" } : Jvm.MethodName) jdk_33_method_23_code (2 : Nat) (Option.none : Option Jvm.ClassFile.FieldType)).before args0 about1 = true := code_word (m := ⟨11, 1⟩) (meth := k11m1) (c := k11c1) (by decide +kernel) rfl rfl rfl (by decide +kernel)
def codes1 : List Jvm.Cond := [Jvm.Cond.code x code maxLocals ret, Jvm.Cond.code ({ cls := "com/example/mayes/mayes/GeoPtEqualsPinLaw", name := "deg", desc := "(IZ)F" } : Jvm.MethodName) method_2_code (2 : Nat) (Option.some Jvm.ClassFile.FieldType.float), Jvm.Cond.code ({ cls := "com/example/mayes/mayes/GeoPt", name := "<init>", desc := "(FF)V" } : Jvm.MethodName) prog_19_method_1_code (3 : Nat) (Option.none : Option Jvm.ClassFile.FieldType), Jvm.Cond.code ({ cls := "java/lang/Object", name := "<init>", desc := "()V" } : Jvm.MethodName) object_method_1_code (1 : Nat) (Option.none : Option Jvm.ClassFile.FieldType), Jvm.Cond.code ({ cls := "java/lang/Float", name := "valueOf", desc := "(F)Ljava/lang/Float;" } : Jvm.MethodName) jdk_118_method_4_code (1 : Nat) (Option.some (Jvm.ClassFile.FieldType.object "java/lang/Float")), Jvm.Cond.code ({ cls := "java/lang/Float", name := "<init>", desc := "(F)V" } : Jvm.MethodName) jdk_118_method_9_code (2 : Nat) (Option.none : Option Jvm.ClassFile.FieldType), Jvm.Cond.code ({ cls := "java/lang/Number", name := "<init>", desc := "()V" } : Jvm.MethodName) jdk_18_method_1_code (1 : Nat) (Option.none : Option Jvm.ClassFile.FieldType), Jvm.Cond.code ({ cls := "com/example/mayes/mayes/GeoPt", name := "checkCoordinates", desc := "(Ljava/lang/Number;Ljava/lang/Number;)V" } : Jvm.MethodName) prog_19_method_2_code (2 : Nat) (Option.none : Option Jvm.ClassFile.FieldType), Jvm.Cond.code ({ cls := "com/example/mayes/mayes/GeoPt", name := "checkRange", desc := "(Ljava/lang/String;Ljava/lang/Number;I)V" } : Jvm.MethodName) prog_19_method_3_code (5 : Nat) (Option.none : Option Jvm.ClassFile.FieldType), Jvm.Cond.code ({ cls := "java/lang/Float", name := "doubleValue", desc := "()D" } : Jvm.MethodName) jdk_118_method_20_code (1 : Nat) (Option.some Jvm.ClassFile.FieldType.double), Jvm.Cond.code ({ cls := "com/example/mayes/mayes/GeoPt", name := "equals", desc := "(Ljava/lang/Object;)Z" } : Jvm.MethodName) prog_19_method_8_code (3 : Nat) (Option.some Jvm.ClassFile.FieldType.boolean), Jvm.Cond.code ({ cls := "java/lang/Integer", name := "valueOf", desc := "(I)Ljava/lang/Integer;" } : Jvm.MethodName) jdk_33_method_22_code (1 : Nat) (Option.some (Jvm.ClassFile.FieldType.object "java/lang/Integer")), Jvm.Cond.code ({ cls := "java/lang/Integer", name := "<init>", desc := "(I)V" } : Jvm.MethodName) jdk_33_method_23_code (2 : Nat) (Option.none : Option Jvm.ClassFile.FieldType)]
set_option maxRecDepth 65536 in
theorem codes_eq : words1.filter isCode = codes1 := rfl
theorem w_codes : ∀ c ∈ words1.filter isCode, c.before args0 about1 = true := by
  rw [codes_eq]
  intro c hc
  simp only [codes1, List.mem_cons, List.not_mem_nil, or_false] at hc
  rcases hc with rfl | rfl | rfl | rfl | rfl | rfl | rfl | rfl | rfl | rfl | rfl | rfl | rfl
  · exact w_c0
  · exact w_c1
  · exact w_c2
  · exact w_c3
  · exact w_c4
  · exact w_c5
  · exact w_c6
  · exact w_c7
  · exact w_c8
  · exact w_c9
  · exact w_c10
  · exact w_c11
  · exact w_c12
set_option maxRecDepth 65536 in
theorem w_t1 : (words1.take 24).all (fun c => isCode c || c.before args0 about1) = true := by decide +kernel
set_option maxRecDepth 65536 in
theorem w_t2 : ((words1.drop 24).take 24).all (fun c => isCode c || c.before args0 about1) = true := by decide +kernel
set_option maxRecDepth 65536 in
theorem w_t3 : (((words1.drop 24).drop 24).take 24).all (fun c => isCode c || c.before args0 about1) = true := by decide +kernel
set_option maxRecDepth 65536 in
theorem w_t4 : (((words1.drop 24).drop 24).drop 24).all (fun c => isCode c || c.before args0 about1) = true := by decide +kernel
theorem w_tables : (allAtoms (Jvm.Cond.code x code maxLocals ret :: tables_1)).before args0 about1 = true := by
  rw [allAtoms_all]
  show words1.all (fun c => c.before args0 about1) = true
  refine all_split ?_ w_codes
  rw [← List.take_append_drop 24 words1, List.all_append, w_t1, ← List.take_append_drop 24 (words1.drop 24), List.all_append, w_t2, ← List.take_append_drop 24 ((words1.drop 24).drop 24), List.all_append, w_t3, w_t4]
  rfl
set_option maxRecDepth 65536 in
theorem w_rest : rest_1_c.before args0 about1 = true := by decide +kernel
set_option maxRecDepth 65536 in
theorem w_case : (Jvm.Cond.and given_1 narrow_1).before args0 about1 = true := by decide +kernel
theorem w_applies : (headSpec (Jvm.Cond.code x code maxLocals ret :: tables_1) room_1).applies x e0.platform about1 = true :=
  (Spec.applies_iff w_frames).mpr ⟨w_running, w_runnable, w_alone, w_named, w_hears, w_ripe, w_room, w_tables⟩
theorem atStart : AtStart classFile x code maxLocals ret World_1 tables_1 room_1 Calls_1 rest_1 Pre_1 launch0 p0 e0 about1 theMethod args0 below0 :=
  ⟨lists_1, trivial, launch0.admits_env _ _ _, launch0.least_env, fairChoices_fair.cas, fairChoices_fair.clock, w_frames, w_args, w_heap, w_applies, trivial, w_rest, w_case⟩
end start1
theorem witness_1 : WitnessClaimed_1 := ⟨start1.p0, start1.e0, start1.about1, start1.theMethod, start1.args0, start1.below0, start1.atStart⟩
end Jvm.Pilot.@@N@@
