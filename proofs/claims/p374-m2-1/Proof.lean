import JvmDerived
import JvmDerived.Pilot.@@N@@Statement
import JvmDerived.Pilot.@@N@@Code
set_option linter.unusedVariables false
set_option linter.unusedSimpArgs false
namespace Jvm.GoKit
open Sem ClassFile Op Lib Jvm.Stand Jvm.Free Jvm.LawKit Jvm.RoadKit
/-! my own layer: a body's run in continuation style, over the library's Stand laws -/
def Val (P : Value → Heap → Prop) (v : Option Value) (h : Heap) : Prop := ∃ w, v = some w ∧ P w h
def Vd (P : Heap → Prop) (v : Option Value) (h : Heap) : Prop := v = none ∧ P h
def PV (w : Value) (h0 : Heap) (w' : Value) (h : Heap) : Prop := w = w' ∧ h0 = h
def Ctx (Z : State) (own : String) (code : ByteArray) (maxL : Nat) (ret : Option FieldType) (nm : String) (p : Program) (s : State) (m : MethodId) (meth : Method) (c : Code) : Prop :=
  p.tables.exec = Jvm.exec ∧ Z.Warmed39 s.vm ∧ s.vm.findClass own = some m.cls ∧ c.code = code ∧ c.maxLocals = maxL ∧ meth.sig.returnType = ret ∧ meth.locks = false ∧ meth.name = nm
def Go (p : Program) (e : Env) (below : List Frame) (s : State) (n0 K N : Nat) (Q : Option Value → Heap → Prop) (S : State) : Prop :=
  ∃ s₂ v L, Steps p.tables e below S s₂ ∧ s₂.status = .running ∧ Ended s₂ below (.returned v) ∧ (Q v s₂.heap ∧ Fr n0 L) ∧ FrameEnd s (.returned v) s₂ L K N
def Run (l : Launch) (Z : State) (n0 : Nat) (own : String) (code : ByteArray) (maxL : Nat) (ret : Option FieldType) (nm : String) (R : Room) (Q : Option Value → Heap → Prop) (pc : Nat) (Ls : Array Slot) (st : List Value) (h : Heap) (k n : Nat) : Prop :=
  ∀ (p : Program) (e : Env) (s : State) (m : MethodId) (args : Array Value) (below : List Frame) (meth : Method) (c : Code) (T : State) (locs : List Loc) (cells slots : Nat),
    Ctx Z own code maxL ret nm p s m meth c → Stand p l e R s m args below meth c T locs cells slots → T.heap = h → Fr n0 locs → cells ≤ k → slots ≤ n →
    Go p e below s n0 R.cells R.slots Q (T.setTop (mkF m pc Ls st))
def Con (l : Launch) (Z : State) (n0 : Nat) (y : MethodName) (bytes : ByteArray) (maxL : Nat) (ret : Option FieldType) (rm : Room) (as : Array Value) (h : Heap) (Q : Option Value → Heap → Prop) : Prop :=
  ∀ ws, MetFree l y (head1 (Cond.code y bytes maxL ret :: ws) rm) (fun a U => a = as ∧ Z.Warmed39 U.vm ∧ U.heap = h) (fun _ _ _ _ _ => True) (fun _ U o U' => ∃ v L, o = .returned v ∧ (Q v U'.heap ∧ Fr n0 L) ∧ FrameEnd U o U' L rm.cells rm.slots)
theorem Con.of_run {l : Launch} {Z : State} {n0 : Nat} {y : MethodName} {bytes : ByteArray} {maxL : Nat} {ret : Option FieldType} {rm : Room} {as : Array Value} {h : Heap} {Q : Option Value → Heap → Prop} {Ls : Array Slot}
    (hp : plainFor y = true) (he : ∀ m, entryFrame m as maxL = mkF m 0 Ls []) (run : Run l Z n0 y.cls bytes maxL ret y.name rm Q 0 Ls [] h 0 0) : Con l Z n0 y bytes maxL ret rm as h Q := by
  intro ws
  refine MetFree.of_bodySF hp hisR ?_
  intro p e s m args below meth c s₁ Bd hml0 hP hK
  obtain ⟨rfl, hZ, hh⟩ := hP
  obtain ⟨s₂, v, L, h1, h2, h3, h4, h5⟩ := run p e s m _ below meth c s₁ [] 0 0 ⟨Bd.exec, hZ, findClass_of_methodNamed Bd.named, Bd.bytes, hml0, Bd.returns, Bd.notSynchronized, (name_of_methodNamed Bd.named Bd.method).1⟩ (Stand.of_body Bd) (by rw [← hh, Bd.state]; rfl) (Fr.nil _) (Nat.zero_le _) (Nat.zero_le _)
  exact ⟨s₂, _, castTop (he m) h1, h2, h3, v, L, rfl, h4, h5⟩
theorem Con.mono {l : Launch} {Z : State} {n0 : Nat} {y : MethodName} {bytes : ByteArray} {maxL : Nat} {ret : Option FieldType} {rm : Room} {as : Array Value} {h : Heap} {Q Q' : Option Value → Heap → Prop}
    (H : Con l Z n0 y bytes maxL ret rm as h Q) (q : ∀ v h', Q v h' → Q' v h') : Con l Z n0 y bytes maxL ret rm as h Q' := by
  intro ws p e ha hc hk s m args below hf happ hP hK
  obtain ⟨n, o, h1, h2, h3, v, L, h4, h5, h6⟩ := H ws p e ha hc hk s m args below hf happ hP hK
  exact ⟨n, o, h1, h2, h3, v, L, h4, ⟨q _ _ h5.1, h5.2⟩, h6⟩
section Walk
variable {l : Launch} {Z : State} {n0 : Nat} {own : String} {code : ByteArray} {maxL : Nat} {ret : Option FieldType} {nm : String} {R : Room} {Q : Option Value → Heap → Prop} {pc pc' : Nat} {Ls : Array Slot} {st : List Value} {h : Heap} {k n k' n' : Nat}
theorem Run.via {Ls' : Array Slot} {st' : List Value} (f : ∀ (p : Program) (e : Env) (s : State) (m : MethodId) (args : Array Value) (below : List Frame) (meth : Method) (c : Code) (T : State) (locs : List Loc) (cells slots : Nat),
      Ctx Z own code maxL ret nm p s m meth c → Stand p l e R s m args below meth c T locs cells slots → T.heap = h → ∃ T', Stand p l e R s m args below meth c T' locs cells slots ∧ T'.heap = h ∧ ∀ t, Steps p.tables e below (T'.setTop (mkF m pc' Ls' st')) t → Steps p.tables e below (T.setTop (mkF m pc Ls st)) t)
    (nxt : Run l Z n0 own code maxL ret nm R Q pc' Ls' st' h k n) : Run l Z n0 own code maxL ret nm R Q pc Ls st h k n := by
  intro p e s m args below meth c T locs cells slots hC X eT hF hk hn
  obtain ⟨T', X', e', stp⟩ := f p e s m args below meth c T locs cells slots hC X eT
  obtain ⟨s₂, v, L, g1, g2⟩ := nxt p e s m args below meth c T' locs cells slots hC X' e' hF hk hn
  exact ⟨s₂, v, L, stp _ g1, g2⟩
theorem Run.stp {Ls' : Array Slot} {st' : List Value} (f : ∀ (p : Program) (e : Env) (below : List Frame) (T : State) (m : MethodId) (c : Code) (t : State), At T m c below → p.tables.exec = Jvm.exec → c.code = code → Steps p.tables e below (T.setTop (mkF m pc' Ls' st')) t → Steps p.tables e below (T.setTop (mkF m pc Ls st)) t)
    (nxt : Run l Z n0 own code maxL ret nm R Q pc' Ls' st' h k n) : Run l Z n0 own code maxL ret nm R Q pc Ls st h k n :=
  Run.via (fun p e s m args below meth c T locs cells slots hC X eT => ⟨T, X, eT, fun t q => f p e below T m c t X.here hC.1 hC.2.2.2.1 q⟩) nxt
theorem Run.more {ka na : Nat} (nxt : Run l Z n0 own code maxL ret nm R Q pc Ls st h k n) (h1 : ka ≤ k) (h2 : na ≤ n) : Run l Z n0 own code maxL ret nm R Q pc Ls st h ka na :=
  fun p e s m args below meth c T locs cells slots hC X eT hF hk hn => nxt p e s m args below meth c T locs cells slots hC X eT hF (Nat.le_trans hk h1) (Nat.le_trans hn h2)

theorem Run.iloadN {x : Fin 4} {v : Int32} (hd : decode code pc = .ok (.iload_n x, 1)) (hl : Ls[x.val]? = some (.val (.int v))) (hp : pc + 1 = pc') (nxt : Run l Z n0 own code maxL ret nm R Q pc' Ls (.int v :: st) h k n) : Run l Z n0 own code maxL ret nm R Q pc Ls st h k n := by
  subst hp
  exact Run.stp (fun p e below T m c t hA hx hc q => XS.iloadN hA hx rfl (hb hc hd) hl q) nxt
theorem Run.iload {x : Nat} {v : Int32} (hd : decode code pc = .ok (.iload x, 2)) (hl : Ls[x]? = some (.val (.int v))) (hp : pc + 2 = pc') (nxt : Run l Z n0 own code maxL ret nm R Q pc' Ls (.int v :: st) h k n) : Run l Z n0 own code maxL ret nm R Q pc Ls st h k n := by
  subst hp
  exact Run.stp (fun p e below T m c t hA hx hc q => XS.iload hA hx rfl (hb hc hd) hl q) nxt
theorem Run.lloadN {x : Fin 4} {v : Int64} (hd : decode code pc = .ok (.lload_n x, 1)) (hl : Ls[x.val]? = some (.val (.long v))) (hp : pc + 1 = pc') (nxt : Run l Z n0 own code maxL ret nm R Q pc' Ls (.long v :: st) h k n) : Run l Z n0 own code maxL ret nm R Q pc Ls st h k n := by
  subst hp
  exact Run.stp (fun p e below T m c t hA hx hc q => XT.lloadN hA hx rfl (hb hc hd) hl q) nxt
theorem Run.lload {x : Nat} {v : Int64} (hd : decode code pc = .ok (.lload x, 2)) (hl : Ls[x]? = some (.val (.long v))) (hp : pc + 2 = pc') (nxt : Run l Z n0 own code maxL ret nm R Q pc' Ls (.long v :: st) h k n) : Run l Z n0 own code maxL ret nm R Q pc Ls st h k n := by
  subst hp
  exact Run.stp (fun p e below T m c t hA hx hc q => XT.lload hA hx rfl (hb hc hd) hl q) nxt
theorem Run.aloadN {x : Fin 4} {v : Value} (hd : decode code pc = .ok (.aload_n x, 1)) (hl : Ls[x.val]? = some (.val v)) (hv : v.isRef = true) (hp : pc + 1 = pc') (nxt : Run l Z n0 own code maxL ret nm R Q pc' Ls (v :: st) h k n) : Run l Z n0 own code maxL ret nm R Q pc Ls st h k n := by
  subst hp
  exact Run.stp (fun p e below T m c t hA hx hc q => XS.aloadN hA hx rfl (hb hc hd) hl hv q) nxt
theorem Run.aload {x : Nat} {v : Value} (hd : decode code pc = .ok (.aload x, 2)) (hl : Ls[x]? = some (.val v)) (hv : v.isRef = true) (hp : pc + 2 = pc') (nxt : Run l Z n0 own code maxL ret nm R Q pc' Ls (v :: st) h k n) : Run l Z n0 own code maxL ret nm R Q pc Ls st h k n := by
  subst hp
  exact Run.stp (fun p e below T m c t hA hx hc q => XS.aload hA hx rfl (hb hc hd) hl hv q) nxt
theorem Run.iconst {i : Int} (v : Int32) (hd : decode code pc = .ok (.iconst i, 1)) (hv : Int32.ofInt i = v) (hp : pc + 1 = pc') (nxt : Run l Z n0 own code maxL ret nm R Q pc' Ls (.int v :: st) h k n) : Run l Z n0 own code maxL ret nm R Q pc Ls st h k n := by
  subst hp
  exact Run.stp (fun p e below T m c t hA hx hc q => XT.iconstV hA hx rfl v (hb hc hd) hv q) nxt
theorem Run.bipush {i : Int} (v : Int32) (hd : decode code pc = .ok (.bipush i, 2)) (hv : (Int8.ofInt i).toInt32 = v) (hp : pc + 2 = pc') (nxt : Run l Z n0 own code maxL ret nm R Q pc' Ls (.int v :: st) h k n) : Run l Z n0 own code maxL ret nm R Q pc Ls st h k n := by
  subst hp
  exact Run.stp (fun p e below T m c t hA hx hc q => XT.bipushV hA hx rfl v (hb hc hd) hv q) nxt
theorem Run.sipush {i : Int} (v : Int32) (hd : decode code pc = .ok (.sipush i, 3)) (hv : (Int16.ofInt i).toInt32 = v) (hp : pc + 3 = pc') (nxt : Run l Z n0 own code maxL ret nm R Q pc' Ls (.int v :: st) h k n) : Run l Z n0 own code maxL ret nm R Q pc Ls st h k n := by
  subst hp
  exact Run.stp (fun p e below T m c t hA hx hc q => XT.sipushV hA hx rfl v (hb hc hd) hv q) nxt
theorem Run.lconst {i : Fin 2} (v : Int64) (hd : decode code pc = .ok (.lconst i, 1)) (hv : Int64.ofNat i = v) (hp : pc + 1 = pc') (nxt : Run l Z n0 own code maxL ret nm R Q pc' Ls (.long v :: st) h k n) : Run l Z n0 own code maxL ret nm R Q pc Ls st h k n := by
  subst hp
  exact Run.stp (fun p e below T m c t hA hx hc q => XT.lconstV hA hx rfl v (hb hc hd) hv q) nxt
theorem Run.aconst  (hd : decode code pc = .ok (.aconst_null, 1))  (hp : pc + 1 = pc') (nxt : Run l Z n0 own code maxL ret nm R Q pc' Ls (.null :: st) h k n) : Run l Z n0 own code maxL ret nm R Q pc Ls st h k n := by
  subst hp
  exact Run.stp (fun p e below T m c t hA hx hc q => XS.aconstNull hA hx rfl (hb hc hd) q) nxt
theorem Run.istoreN {x : Fin 4} {v : Int32} (l' : Array Slot) (hd : decode code pc = .ok (.istore_n x, 1)) (hl : storeLocals Ls x.val (.int v) = some l') (hp : pc + 1 = pc') (nxt : Run l Z n0 own code maxL ret nm R Q pc' l' st h k n) : Run l Z n0 own code maxL ret nm R Q pc Ls (.int v :: st) h k n := by
  subst hp
  exact Run.stp (fun p e below T m c t hA hx hc q => XS.istoreN hA hx rfl (hb hc hd) rfl hl q) nxt
theorem Run.istore {x : Nat} {v : Int32} (l' : Array Slot) (hd : decode code pc = .ok (.istore x, 2)) (hl : storeLocals Ls x (.int v) = some l') (hp : pc + 2 = pc') (nxt : Run l Z n0 own code maxL ret nm R Q pc' l' st h k n) : Run l Z n0 own code maxL ret nm R Q pc Ls (.int v :: st) h k n := by
  subst hp
  exact Run.stp (fun p e below T m c t hA hx hc q => XS.istore hA hx rfl (hb hc hd) rfl hl q) nxt
theorem Run.lstoreN {x : Fin 4} {v : Int64} (l' : Array Slot) (hd : decode code pc = .ok (.lstore_n x, 1)) (hl : storeLocals Ls x.val (.long v) = some l') (hp : pc + 1 = pc') (nxt : Run l Z n0 own code maxL ret nm R Q pc' l' st h k n) : Run l Z n0 own code maxL ret nm R Q pc Ls (.long v :: st) h k n := by
  subst hp
  exact Run.stp (fun p e below T m c t hA hx hc q => XT.lstoreN hA hx rfl (hb hc hd) rfl hl q) nxt
theorem Run.lstore {x : Nat} {v : Int64} (l' : Array Slot) (hd : decode code pc = .ok (.lstore x, 2)) (hl : storeLocals Ls x (.long v) = some l') (hp : pc + 2 = pc') (nxt : Run l Z n0 own code maxL ret nm R Q pc' l' st h k n) : Run l Z n0 own code maxL ret nm R Q pc Ls (.long v :: st) h k n := by
  subst hp
  exact Run.stp (fun p e below T m c t hA hx hc q => XT.lstore hA hx rfl (hb hc hd) rfl hl q) nxt
theorem Run.astoreN {x : Fin 4} {v : Value} (l' : Array Slot) (hd : decode code pc = .ok (.astore_n x, 1)) (hv : v.isRef = true) (hl : storeLocals Ls x.val v = some l') (hp : pc + 1 = pc') (nxt : Run l Z n0 own code maxL ret nm R Q pc' l' st h k n) : Run l Z n0 own code maxL ret nm R Q pc Ls (v :: st) h k n := by
  subst hp
  exact Run.stp (fun p e below T m c t hA hx hc q => XS.astoreN hA hx rfl (hb hc hd) rfl hv hl q) nxt
theorem Run.astore {x : Nat} {v : Value} (l' : Array Slot) (hd : decode code pc = .ok (.astore x, 2)) (hv : v.isRef = true) (hl : storeLocals Ls x v = some l') (hp : pc + 2 = pc') (nxt : Run l Z n0 own code maxL ret nm R Q pc' l' st h k n) : Run l Z n0 own code maxL ret nm R Q pc Ls (v :: st) h k n := by
  subst hp
  exact Run.stp (fun p e below T m c t hA hx hc q => XS.astore hA hx rfl (hb hc hd) rfl hv hl q) nxt
theorem Run.iinc {x : Nat} {i : Int} {u : Int32} (v : Int32) (l' : Array Slot) (hd : decode code pc = .ok (.iinc x i, 3)) (hv : Int32.ofInt i = v) (hg : Ls[x]? = some (.val (.int u))) (hl : storeLocals Ls x (.int (u + v)) = some l') (hp : pc + 3 = pc') (nxt : Run l Z n0 own code maxL ret nm R Q pc' l' st h k n) : Run l Z n0 own code maxL ret nm R Q pc Ls st h k n := by
  subst hp
  exact Run.stp (fun p e below T m c t hA hx hc q => XT.iincV hA hx rfl v (hb hc hd) hv hg hl q) nxt
theorem Run.iadd {x y : Int32} (hd : decode code pc = .ok (.iadd, 1))  (hp : pc + 1 = pc') (nxt : Run l Z n0 own code maxL ret nm R Q pc' Ls (.int (x + y) :: st) h k n) : Run l Z n0 own code maxL ret nm R Q pc Ls (.int y :: .int x :: st) h k n := by
  subst hp
  exact Run.stp (fun p e below T m c t hA hx hc q => XS.iadd hA hx rfl (hb hc hd) rfl q) nxt
theorem Run.isub {x y : Int32} (hd : decode code pc = .ok (.isub, 1))  (hp : pc + 1 = pc') (nxt : Run l Z n0 own code maxL ret nm R Q pc' Ls (.int (x - y) :: st) h k n) : Run l Z n0 own code maxL ret nm R Q pc Ls (.int y :: .int x :: st) h k n := by
  subst hp
  exact Run.stp (fun p e below T m c t hA hx hc q => XS.isub hA hx rfl (hb hc hd) rfl q) nxt
theorem Run.imul {x y : Int32} (hd : decode code pc = .ok (.imul, 1))  (hp : pc + 1 = pc') (nxt : Run l Z n0 own code maxL ret nm R Q pc' Ls (.int (x * y) :: st) h k n) : Run l Z n0 own code maxL ret nm R Q pc Ls (.int y :: .int x :: st) h k n := by
  subst hp
  exact Run.stp (fun p e below T m c t hA hx hc q => XS.imul hA hx rfl (hb hc hd) rfl q) nxt
theorem Run.iand {x y : Int32} (hd : decode code pc = .ok (.iand, 1))  (hp : pc + 1 = pc') (nxt : Run l Z n0 own code maxL ret nm R Q pc' Ls (.int (x &&& y) :: st) h k n) : Run l Z n0 own code maxL ret nm R Q pc Ls (.int y :: .int x :: st) h k n := by
  subst hp
  exact Run.stp (fun p e below T m c t hA hx hc q => XS.iand hA hx rfl (hb hc hd) rfl q) nxt
theorem Run.ior {x y : Int32} (hd : decode code pc = .ok (.ior, 1))  (hp : pc + 1 = pc') (nxt : Run l Z n0 own code maxL ret nm R Q pc' Ls (.int (x ||| y) :: st) h k n) : Run l Z n0 own code maxL ret nm R Q pc Ls (.int y :: .int x :: st) h k n := by
  subst hp
  exact Run.stp (fun p e below T m c t hA hx hc q => XT.ior hA hx rfl (hb hc hd) rfl q) nxt
theorem Run.ixor {x y : Int32} (hd : decode code pc = .ok (.ixor, 1))  (hp : pc + 1 = pc') (nxt : Run l Z n0 own code maxL ret nm R Q pc' Ls (.int (x ^^^ y) :: st) h k n) : Run l Z n0 own code maxL ret nm R Q pc Ls (.int y :: .int x :: st) h k n := by
  subst hp
  exact Run.stp (fun p e below T m c t hA hx hc q => XT.ixor hA hx rfl (hb hc hd) rfl q) nxt
theorem Run.ishl {x y : Int32} (hd : decode code pc = .ok (.ishl, 1))  (hp : pc + 1 = pc') (nxt : Run l Z n0 own code maxL ret nm R Q pc' Ls (.int (x <<< (y &&& 31)) :: st) h k n) : Run l Z n0 own code maxL ret nm R Q pc Ls (.int y :: .int x :: st) h k n := by
  subst hp
  exact Run.stp (fun p e below T m c t hA hx hc q => XT.ishl hA hx rfl (hb hc hd) rfl q) nxt
theorem Run.ishr {x y : Int32} (hd : decode code pc = .ok (.ishr, 1))  (hp : pc + 1 = pc') (nxt : Run l Z n0 own code maxL ret nm R Q pc' Ls (.int (x >>> (y &&& 31)) :: st) h k n) : Run l Z n0 own code maxL ret nm R Q pc Ls (.int y :: .int x :: st) h k n := by
  subst hp
  exact Run.stp (fun p e below T m c t hA hx hc q => XT.ishr hA hx rfl (hb hc hd) rfl q) nxt
theorem Run.iushr {x y : Int32} (hd : decode code pc = .ok (.iushr, 1))  (hp : pc + 1 = pc') (nxt : Run l Z n0 own code maxL ret nm R Q pc' Ls (.int (XT.ushr x y) :: st) h k n) : Run l Z n0 own code maxL ret nm R Q pc Ls (.int y :: .int x :: st) h k n := by
  subst hp
  exact Run.stp (fun p e below T m c t hA hx hc q => XT.iushr hA hx rfl (hb hc hd) rfl q) nxt
theorem Run.ladd {x y : Int64} (hd : decode code pc = .ok (.ladd, 1))  (hp : pc + 1 = pc') (nxt : Run l Z n0 own code maxL ret nm R Q pc' Ls (.long (x + y) :: st) h k n) : Run l Z n0 own code maxL ret nm R Q pc Ls (.long y :: .long x :: st) h k n := by
  subst hp
  exact Run.stp (fun p e below T m c t hA hx hc q => XT.ladd hA hx rfl (hb hc hd) rfl q) nxt
theorem Run.lsub {x y : Int64} (hd : decode code pc = .ok (.lsub, 1))  (hp : pc + 1 = pc') (nxt : Run l Z n0 own code maxL ret nm R Q pc' Ls (.long (x - y) :: st) h k n) : Run l Z n0 own code maxL ret nm R Q pc Ls (.long y :: .long x :: st) h k n := by
  subst hp
  exact Run.stp (fun p e below T m c t hA hx hc q => XT.lsub hA hx rfl (hb hc hd) rfl q) nxt
theorem Run.lmul {x y : Int64} (hd : decode code pc = .ok (.lmul, 1))  (hp : pc + 1 = pc') (nxt : Run l Z n0 own code maxL ret nm R Q pc' Ls (.long (x * y) :: st) h k n) : Run l Z n0 own code maxL ret nm R Q pc Ls (.long y :: .long x :: st) h k n := by
  subst hp
  exact Run.stp (fun p e below T m c t hA hx hc q => XT.lmul hA hx rfl (hb hc hd) rfl q) nxt
theorem Run.land {x y : Int64} (hd : decode code pc = .ok (.land, 1))  (hp : pc + 1 = pc') (nxt : Run l Z n0 own code maxL ret nm R Q pc' Ls (.long (x &&& y) :: st) h k n) : Run l Z n0 own code maxL ret nm R Q pc Ls (.long y :: .long x :: st) h k n := by
  subst hp
  exact Run.stp (fun p e below T m c t hA hx hc q => XT.land hA hx rfl (hb hc hd) rfl q) nxt
theorem Run.lor {x y : Int64} (hd : decode code pc = .ok (.lor, 1))  (hp : pc + 1 = pc') (nxt : Run l Z n0 own code maxL ret nm R Q pc' Ls (.long (x ||| y) :: st) h k n) : Run l Z n0 own code maxL ret nm R Q pc Ls (.long y :: .long x :: st) h k n := by
  subst hp
  exact Run.stp (fun p e below T m c t hA hx hc q => XT.lor hA hx rfl (hb hc hd) rfl q) nxt
theorem Run.lxor {x y : Int64} (hd : decode code pc = .ok (.lxor, 1))  (hp : pc + 1 = pc') (nxt : Run l Z n0 own code maxL ret nm R Q pc' Ls (.long (x ^^^ y) :: st) h k n) : Run l Z n0 own code maxL ret nm R Q pc Ls (.long y :: .long x :: st) h k n := by
  subst hp
  exact Run.stp (fun p e below T m c t hA hx hc q => XT.lxor hA hx rfl (hb hc hd) rfl q) nxt
theorem Run.idiv {x y : Int32} (hd : decode code pc = .ok (.idiv, 1)) (hy : y ≠ 0) (hp : pc + 1 = pc') (nxt : Run l Z n0 own code maxL ret nm R Q pc' Ls (.int (x / y) :: st) h k n) : Run l Z n0 own code maxL ret nm R Q pc Ls (.int y :: .int x :: st) h k n := by
  subst hp
  exact Run.stp (fun p e below T m c t hA hx hc q => XS.idiv hA hx rfl (hb hc hd) rfl hy q) nxt
theorem Run.irem {x y : Int32} (hd : decode code pc = .ok (.irem, 1)) (hy : y ≠ 0) (hp : pc + 1 = pc') (nxt : Run l Z n0 own code maxL ret nm R Q pc' Ls (.int (x % y) :: st) h k n) : Run l Z n0 own code maxL ret nm R Q pc Ls (.int y :: .int x :: st) h k n := by
  subst hp
  exact Run.stp (fun p e below T m c t hA hx hc q => XS.irem hA hx rfl (hb hc hd) rfl hy (by rw [irem_eq_mod]; exact q)) nxt
theorem Run.ldiv {x y : Int64} (hd : decode code pc = .ok (.ldiv, 1)) (hy : y ≠ 0) (hp : pc + 1 = pc') (nxt : Run l Z n0 own code maxL ret nm R Q pc' Ls (.long (x / y) :: st) h k n) : Run l Z n0 own code maxL ret nm R Q pc Ls (.long y :: .long x :: st) h k n := by
  subst hp
  exact Run.stp (fun p e below T m c t hA hx hc q => XT.ldiv hA hx rfl (hb hc hd) rfl hy q) nxt
theorem Run.lrem {x y : Int64} (hd : decode code pc = .ok (.lrem, 1)) (hy : y ≠ 0) (hp : pc + 1 = pc') (nxt : Run l Z n0 own code maxL ret nm R Q pc' Ls (.long (x % y) :: st) h k n) : Run l Z n0 own code maxL ret nm R Q pc Ls (.long y :: .long x :: st) h k n := by
  subst hp
  exact Run.stp (fun p e below T m c t hA hx hc q => XT.lrem hA hx rfl (hb hc hd) rfl hy (by rw [lrem_mod]; exact q)) nxt
theorem Run.ineg {x : Int32} (hd : decode code pc = .ok (.ineg, 1))  (hp : pc + 1 = pc') (nxt : Run l Z n0 own code maxL ret nm R Q pc' Ls (.int (-x) :: st) h k n) : Run l Z n0 own code maxL ret nm R Q pc Ls (.int x :: st) h k n := by
  subst hp
  exact Run.stp (fun p e below T m c t hA hx hc q => XS.ineg hA hx rfl (hb hc hd) rfl q) nxt
theorem Run.lneg {x : Int64} (hd : decode code pc = .ok (.lneg, 1))  (hp : pc + 1 = pc') (nxt : Run l Z n0 own code maxL ret nm R Q pc' Ls (.long (-x) :: st) h k n) : Run l Z n0 own code maxL ret nm R Q pc Ls (.long x :: st) h k n := by
  subst hp
  exact Run.stp (fun p e below T m c t hA hx hc q => XT.lneg hA hx rfl (hb hc hd) rfl q) nxt
theorem Run.i2l {x : Int32} (hd : decode code pc = .ok (.i2l, 1))  (hp : pc + 1 = pc') (nxt : Run l Z n0 own code maxL ret nm R Q pc' Ls (.long x.toInt64 :: st) h k n) : Run l Z n0 own code maxL ret nm R Q pc Ls (.int x :: st) h k n := by
  subst hp
  exact Run.stp (fun p e below T m c t hA hx hc q => XT.i2l hA hx rfl (hb hc hd) rfl q) nxt
theorem Run.l2i {x : Int64} (hd : decode code pc = .ok (.l2i, 1))  (hp : pc + 1 = pc') (nxt : Run l Z n0 own code maxL ret nm R Q pc' Ls (.int x.toInt32 :: st) h k n) : Run l Z n0 own code maxL ret nm R Q pc Ls (.long x :: st) h k n := by
  subst hp
  exact Run.stp (fun p e below T m c t hA hx hc q => XT.l2i hA hx rfl (hb hc hd) rfl q) nxt
theorem Run.i2b {x : Int32} (hd : decode code pc = .ok (.i2b, 1))  (hp : pc + 1 = pc') (nxt : Run l Z n0 own code maxL ret nm R Q pc' Ls (.int (nar .byte x) :: st) h k n) : Run l Z n0 own code maxL ret nm R Q pc Ls (.int x :: st) h k n := by
  subst hp
  exact Run.stp (fun p e below T m c t hA hx hc q => XT.i2b hA hx rfl (hb hc hd) rfl q) nxt
theorem Run.i2c {x : Int32} (hd : decode code pc = .ok (.i2c, 1))  (hp : pc + 1 = pc') (nxt : Run l Z n0 own code maxL ret nm R Q pc' Ls (.int (nar .char x) :: st) h k n) : Run l Z n0 own code maxL ret nm R Q pc Ls (.int x :: st) h k n := by
  subst hp
  exact Run.stp (fun p e below T m c t hA hx hc q => XT.i2c hA hx rfl (hb hc hd) rfl q) nxt
theorem Run.i2s {x : Int32} (hd : decode code pc = .ok (.i2s, 1))  (hp : pc + 1 = pc') (nxt : Run l Z n0 own code maxL ret nm R Q pc' Ls (.int (nar .short x) :: st) h k n) : Run l Z n0 own code maxL ret nm R Q pc Ls (.int x :: st) h k n := by
  subst hp
  exact Run.stp (fun p e below T m c t hA hx hc q => XT.i2s hA hx rfl (hb hc hd) rfl q) nxt
theorem Run.lshl {x : Int64} {y : Int32} (hd : decode code pc = .ok (.lshl, 1))  (hp : pc + 1 = pc') (nxt : Run l Z n0 own code maxL ret nm R Q pc' Ls (.long (x <<< (y.toInt64 &&& 63)) :: st) h k n) : Run l Z n0 own code maxL ret nm R Q pc Ls (.int y :: .long x :: st) h k n := by
  subst hp
  exact Run.stp (fun p e below T m c t hA hx hc q => XT.lshl hA hx rfl (hb hc hd) rfl q) nxt
theorem Run.lshr {x : Int64} {y : Int32} (hd : decode code pc = .ok (.lshr, 1))  (hp : pc + 1 = pc') (nxt : Run l Z n0 own code maxL ret nm R Q pc' Ls (.long (x >>> (y.toInt64 &&& 63)) :: st) h k n) : Run l Z n0 own code maxL ret nm R Q pc Ls (.int y :: .long x :: st) h k n := by
  subst hp
  exact Run.stp (fun p e below T m c t hA hx hc q => XT.lshr hA hx rfl (hb hc hd) rfl q) nxt
theorem Run.lushr {x : Int64} {y : Int32} (hd : decode code pc = .ok (.lushr, 1))  (hp : pc + 1 = pc') (nxt : Run l Z n0 own code maxL ret nm R Q pc' Ls (.long (XT.ushrL x y) :: st) h k n) : Run l Z n0 own code maxL ret nm R Q pc Ls (.int y :: .long x :: st) h k n := by
  subst hp
  exact Run.stp (fun p e below T m c t hA hx hc q => XT.lushr hA hx rfl (hb hc hd) rfl q) nxt
theorem Run.lcmp {x y : Int64} (hd : decode code pc = .ok (.lcmp, 1))  (hp : pc + 1 = pc') (nxt : Run l Z n0 own code maxL ret nm R Q pc' Ls (.int (XT.cmpL x y) :: st) h k n) : Run l Z n0 own code maxL ret nm R Q pc Ls (.long y :: .long x :: st) h k n := by
  subst hp
  exact Run.stp (fun p e below T m c t hA hx hc q => XT.lcmp hA hx rfl (hb hc hd) rfl q) nxt
theorem Run.dup {x : Value} (hd : decode code pc = .ok (.dup, 1)) (hv : x.category = 1) (hp : pc + 1 = pc') (nxt : Run l Z n0 own code maxL ret nm R Q pc' Ls (x :: x :: st) h k n) : Run l Z n0 own code maxL ret nm R Q pc Ls (x :: st) h k n := by
  subst hp
  exact Run.stp (fun p e below T m c t hA hx hc q => XS.dup hA hx rfl (hb hc hd) rfl hv q) nxt
theorem Run.pop {x : Value} (hd : decode code pc = .ok (.pop, 1)) (hv : x.category = 1) (hp : pc + 1 = pc') (nxt : Run l Z n0 own code maxL ret nm R Q pc' Ls st h k n) : Run l Z n0 own code maxL ret nm R Q pc Ls (x :: st) h k n := by
  subst hp
  exact Run.stp (fun p e below T m c t hA hx hc q => XT.pop hA hx rfl (hb hc hd) rfl hv q) nxt
theorem Run.dupX1 {x y : Value} (hd : decode code pc = .ok (.dup_x1, 1)) (hv : x.category = 1) (hv' : y.category = 1) (hp : pc + 1 = pc') (nxt : Run l Z n0 own code maxL ret nm R Q pc' Ls (x :: y :: x :: st) h k n) : Run l Z n0 own code maxL ret nm R Q pc Ls (x :: y :: st) h k n := by
  subst hp
  exact Run.stp (fun p e below T m c t hA hx hc q => XT.dupX1 hA hx rfl (hb hc hd) rfl hv hv' q) nxt
theorem Run.dup2 {x y : Value} (hd : decode code pc = .ok (.dup2, 1)) (hv : x.category = 1) (hv' : y.category = 1) (hp : pc + 1 = pc') (nxt : Run l Z n0 own code maxL ret nm R Q pc' Ls (x :: y :: x :: y :: st) h k n) : Run l Z n0 own code maxL ret nm R Q pc Ls (x :: y :: st) h k n := by
  subst hp
  exact Run.stp (fun p e below T m c t hA hx hc q => XT.dup2 hA hx rfl (hb hc hd) rfl hv hv' q) nxt
theorem Run.dup2L {x : Int64} (hd : decode code pc = .ok (.dup2, 1))  (hp : pc + 1 = pc') (nxt : Run l Z n0 own code maxL ret nm R Q pc' Ls (.long x :: .long x :: st) h k n) : Run l Z n0 own code maxL ret nm R Q pc Ls (.long x :: st) h k n := by
  subst hp
  exact Run.stp (fun p e below T m c t hA hx hc q => XT.dup2L hA hx rfl (hb hc hd) rfl q) nxt
theorem Run.goto {o : Int} (hd : decode code pc = .ok (.goto o, 3)) (ho : 0 ≤ (pc : Int) + o) (hp : ((pc : Int) + o).toNat = pc') (nxt : Run l Z n0 own code maxL ret nm R Q pc' Ls st h k n) : Run l Z n0 own code maxL ret nm R Q pc Ls st h k n :=
  Run.stp (fun p e below T m c t hA hx hc q => XS.goto hA hx rfl rfl (hb hc hd) ho hp q) nxt
theorem Run.if_eq {x : Int32} {o : Int} {pa : Nat} (hd : decode code pc = .ok (.ifCond .eq o, 3)) (ho : 0 ≤ (pc : Int) + o) (hp : ((pc : Int) + o).toNat = pc') (hq : pc + 3 = pa)
    (yes : x = 0 → Run l Z n0 own code maxL ret nm R Q pc' Ls st h k n) (no : ¬ x = 0 → Run l Z n0 own code maxL ret nm R Q pa Ls st h k n) : Run l Z n0 own code maxL ret nm R Q pc Ls (.int x :: st) h k n := by
  subst hq
  by_cases hc : x = 0
  · exact Run.stp (fun p e below T m c t hA hx hb' q => XS.ifYes hA hx rfl rfl (hb hb' hd) rfl (XT.i0_eq_t hc) ho hp q) (yes hc)
  · exact Run.stp (fun p e below T m c t hA hx hb' q => XS.ifNo hA hx rfl (hb hb' hd) rfl (XT.i0_eq_f hc) q) (no hc)
theorem Run.icmp_eq {x y : Int32} {o : Int} {pa : Nat} (hd : decode code pc = .ok (.if_icmp .eq o, 3)) (ho : 0 ≤ (pc : Int) + o) (hp : ((pc : Int) + o).toNat = pc') (hq : pc + 3 = pa)
    (yes : x = y → Run l Z n0 own code maxL ret nm R Q pc' Ls st h k n) (no : ¬ x = y → Run l Z n0 own code maxL ret nm R Q pa Ls st h k n) : Run l Z n0 own code maxL ret nm R Q pc Ls (.int y :: .int x :: st) h k n := by
  subst hq
  by_cases hc : x = y
  · exact Run.stp (fun p e below T m c t hA hx hb' q => XS.icmpYes hA hx rfl rfl (hb hb' hd) rfl (XT.ii_eq_t hc) ho hp q) (yes hc)
  · exact Run.stp (fun p e below T m c t hA hx hb' q => XS.icmpNo hA hx rfl (hb hb' hd) rfl (XT.ii_eq_f hc) q) (no hc)
theorem Run.if_ne {x : Int32} {o : Int} {pa : Nat} (hd : decode code pc = .ok (.ifCond .ne o, 3)) (ho : 0 ≤ (pc : Int) + o) (hp : ((pc : Int) + o).toNat = pc') (hq : pc + 3 = pa)
    (yes : ¬ x = 0 → Run l Z n0 own code maxL ret nm R Q pc' Ls st h k n) (no : x = 0 → Run l Z n0 own code maxL ret nm R Q pa Ls st h k n) : Run l Z n0 own code maxL ret nm R Q pc Ls (.int x :: st) h k n := by
  subst hq
  by_cases hc : x = 0
  · exact Run.stp (fun p e below T m c t hA hx hb' q => XS.ifNo hA hx rfl (hb hb' hd) rfl (XT.i0_ne_f hc) q) (no (by simpa using hc))
  · exact Run.stp (fun p e below T m c t hA hx hb' q => XS.ifYes hA hx rfl rfl (hb hb' hd) rfl (XT.i0_ne_t hc) ho hp q) (yes hc)
theorem Run.icmp_ne {x y : Int32} {o : Int} {pa : Nat} (hd : decode code pc = .ok (.if_icmp .ne o, 3)) (ho : 0 ≤ (pc : Int) + o) (hp : ((pc : Int) + o).toNat = pc') (hq : pc + 3 = pa)
    (yes : ¬ x = y → Run l Z n0 own code maxL ret nm R Q pc' Ls st h k n) (no : x = y → Run l Z n0 own code maxL ret nm R Q pa Ls st h k n) : Run l Z n0 own code maxL ret nm R Q pc Ls (.int y :: .int x :: st) h k n := by
  subst hq
  by_cases hc : x = y
  · exact Run.stp (fun p e below T m c t hA hx hb' q => XS.icmpNo hA hx rfl (hb hb' hd) rfl (XT.ii_ne_f hc) q) (no (by simpa using hc))
  · exact Run.stp (fun p e below T m c t hA hx hb' q => XS.icmpYes hA hx rfl rfl (hb hb' hd) rfl (XT.ii_ne_t hc) ho hp q) (yes hc)
theorem Run.if_lt {x : Int32} {o : Int} {pa : Nat} (hd : decode code pc = .ok (.ifCond .lt o, 3)) (ho : 0 ≤ (pc : Int) + o) (hp : ((pc : Int) + o).toNat = pc') (hq : pc + 3 = pa)
    (yes : x < 0 → Run l Z n0 own code maxL ret nm R Q pc' Ls st h k n) (no : ¬ x < 0 → Run l Z n0 own code maxL ret nm R Q pa Ls st h k n) : Run l Z n0 own code maxL ret nm R Q pc Ls (.int x :: st) h k n := by
  subst hq
  by_cases hc : x < 0
  · exact Run.stp (fun p e below T m c t hA hx hb' q => XS.ifYes hA hx rfl rfl (hb hb' hd) rfl (XT.i0_lt_t hc) ho hp q) (yes hc)
  · exact Run.stp (fun p e below T m c t hA hx hb' q => XS.ifNo hA hx rfl (hb hb' hd) rfl (XT.i0_lt_f hc) q) (no hc)
theorem Run.icmp_lt {x y : Int32} {o : Int} {pa : Nat} (hd : decode code pc = .ok (.if_icmp .lt o, 3)) (ho : 0 ≤ (pc : Int) + o) (hp : ((pc : Int) + o).toNat = pc') (hq : pc + 3 = pa)
    (yes : x < y → Run l Z n0 own code maxL ret nm R Q pc' Ls st h k n) (no : ¬ x < y → Run l Z n0 own code maxL ret nm R Q pa Ls st h k n) : Run l Z n0 own code maxL ret nm R Q pc Ls (.int y :: .int x :: st) h k n := by
  subst hq
  by_cases hc : x < y
  · exact Run.stp (fun p e below T m c t hA hx hb' q => XS.icmpYes hA hx rfl rfl (hb hb' hd) rfl (XT.ii_lt_t hc) ho hp q) (yes hc)
  · exact Run.stp (fun p e below T m c t hA hx hb' q => XS.icmpNo hA hx rfl (hb hb' hd) rfl (XT.ii_lt_f hc) q) (no hc)
theorem Run.if_ge {x : Int32} {o : Int} {pa : Nat} (hd : decode code pc = .ok (.ifCond .ge o, 3)) (ho : 0 ≤ (pc : Int) + o) (hp : ((pc : Int) + o).toNat = pc') (hq : pc + 3 = pa)
    (yes : ¬ x < 0 → Run l Z n0 own code maxL ret nm R Q pc' Ls st h k n) (no : x < 0 → Run l Z n0 own code maxL ret nm R Q pa Ls st h k n) : Run l Z n0 own code maxL ret nm R Q pc Ls (.int x :: st) h k n := by
  subst hq
  by_cases hc : x < 0
  · exact Run.stp (fun p e below T m c t hA hx hb' q => XS.ifNo hA hx rfl (hb hb' hd) rfl (XT.i0_ge_f hc) q) (no (by simpa using hc))
  · exact Run.stp (fun p e below T m c t hA hx hb' q => XS.ifYes hA hx rfl rfl (hb hb' hd) rfl (XT.i0_ge_t hc) ho hp q) (yes hc)
theorem Run.icmp_ge {x y : Int32} {o : Int} {pa : Nat} (hd : decode code pc = .ok (.if_icmp .ge o, 3)) (ho : 0 ≤ (pc : Int) + o) (hp : ((pc : Int) + o).toNat = pc') (hq : pc + 3 = pa)
    (yes : ¬ x < y → Run l Z n0 own code maxL ret nm R Q pc' Ls st h k n) (no : x < y → Run l Z n0 own code maxL ret nm R Q pa Ls st h k n) : Run l Z n0 own code maxL ret nm R Q pc Ls (.int y :: .int x :: st) h k n := by
  subst hq
  by_cases hc : x < y
  · exact Run.stp (fun p e below T m c t hA hx hb' q => XS.icmpNo hA hx rfl (hb hb' hd) rfl (XT.ii_ge_f hc) q) (no (by simpa using hc))
  · exact Run.stp (fun p e below T m c t hA hx hb' q => XS.icmpYes hA hx rfl rfl (hb hb' hd) rfl (XT.ii_ge_t hc) ho hp q) (yes hc)
theorem Run.if_gt {x : Int32} {o : Int} {pa : Nat} (hd : decode code pc = .ok (.ifCond .gt o, 3)) (ho : 0 ≤ (pc : Int) + o) (hp : ((pc : Int) + o).toNat = pc') (hq : pc + 3 = pa)
    (yes : 0 < x → Run l Z n0 own code maxL ret nm R Q pc' Ls st h k n) (no : ¬ 0 < x → Run l Z n0 own code maxL ret nm R Q pa Ls st h k n) : Run l Z n0 own code maxL ret nm R Q pc Ls (.int x :: st) h k n := by
  subst hq
  by_cases hc : 0 < x
  · exact Run.stp (fun p e below T m c t hA hx hb' q => XS.ifYes hA hx rfl rfl (hb hb' hd) rfl (XT.i0_gt_t hc) ho hp q) (yes hc)
  · exact Run.stp (fun p e below T m c t hA hx hb' q => XS.ifNo hA hx rfl (hb hb' hd) rfl (XT.i0_gt_f hc) q) (no hc)
theorem Run.icmp_gt {x y : Int32} {o : Int} {pa : Nat} (hd : decode code pc = .ok (.if_icmp .gt o, 3)) (ho : 0 ≤ (pc : Int) + o) (hp : ((pc : Int) + o).toNat = pc') (hq : pc + 3 = pa)
    (yes : y < x → Run l Z n0 own code maxL ret nm R Q pc' Ls st h k n) (no : ¬ y < x → Run l Z n0 own code maxL ret nm R Q pa Ls st h k n) : Run l Z n0 own code maxL ret nm R Q pc Ls (.int y :: .int x :: st) h k n := by
  subst hq
  by_cases hc : y < x
  · exact Run.stp (fun p e below T m c t hA hx hb' q => XS.icmpYes hA hx rfl rfl (hb hb' hd) rfl (XT.ii_gt_t hc) ho hp q) (yes hc)
  · exact Run.stp (fun p e below T m c t hA hx hb' q => XS.icmpNo hA hx rfl (hb hb' hd) rfl (XT.ii_gt_f hc) q) (no hc)
theorem Run.if_le {x : Int32} {o : Int} {pa : Nat} (hd : decode code pc = .ok (.ifCond .le o, 3)) (ho : 0 ≤ (pc : Int) + o) (hp : ((pc : Int) + o).toNat = pc') (hq : pc + 3 = pa)
    (yes : ¬ 0 < x → Run l Z n0 own code maxL ret nm R Q pc' Ls st h k n) (no : 0 < x → Run l Z n0 own code maxL ret nm R Q pa Ls st h k n) : Run l Z n0 own code maxL ret nm R Q pc Ls (.int x :: st) h k n := by
  subst hq
  by_cases hc : 0 < x
  · exact Run.stp (fun p e below T m c t hA hx hb' q => XS.ifNo hA hx rfl (hb hb' hd) rfl (XT.i0_le_f hc) q) (no (by simpa using hc))
  · exact Run.stp (fun p e below T m c t hA hx hb' q => XS.ifYes hA hx rfl rfl (hb hb' hd) rfl (XT.i0_le_t hc) ho hp q) (yes hc)
theorem Run.icmp_le {x y : Int32} {o : Int} {pa : Nat} (hd : decode code pc = .ok (.if_icmp .le o, 3)) (ho : 0 ≤ (pc : Int) + o) (hp : ((pc : Int) + o).toNat = pc') (hq : pc + 3 = pa)
    (yes : ¬ y < x → Run l Z n0 own code maxL ret nm R Q pc' Ls st h k n) (no : y < x → Run l Z n0 own code maxL ret nm R Q pa Ls st h k n) : Run l Z n0 own code maxL ret nm R Q pc Ls (.int y :: .int x :: st) h k n := by
  subst hq
  by_cases hc : y < x
  · exact Run.stp (fun p e below T m c t hA hx hb' q => XS.icmpNo hA hx rfl (hb hb' hd) rfl (XT.ii_le_f hc) q) (no (by simpa using hc))
  · exact Run.stp (fun p e below T m c t hA hx hb' q => XS.icmpYes hA hx rfl rfl (hb hb' hd) rfl (XT.ii_le_t hc) ho hp q) (yes hc)
theorem Run.lif_eq {x y : Int64} {o : Int} {pa : Nat} (hd : decode code pc = .ok (.ifCond .eq o, 3)) (ho : 0 ≤ (pc : Int) + o) (hp : ((pc : Int) + o).toNat = pc') (hq : pc + 3 = pa)
    (yes : x = y → Run l Z n0 own code maxL ret nm R Q pc' Ls st h k n) (no : ¬ x = y → Run l Z n0 own code maxL ret nm R Q pa Ls st h k n) : Run l Z n0 own code maxL ret nm R Q pc Ls (.int (XT.cmpL x y) :: st) h k n := by
  subst hq
  by_cases hc : x = y
  · exact Run.stp (fun p e below T m c t hA hx hb' q => XS.ifYes hA hx rfl rfl (hb hb' hd) rfl (XT.ll_eq_t hc) ho hp q) (yes hc)
  · exact Run.stp (fun p e below T m c t hA hx hb' q => XS.ifNo hA hx rfl (hb hb' hd) rfl (XT.ll_eq_f hc) q) (no hc)
theorem Run.lif_ne {x y : Int64} {o : Int} {pa : Nat} (hd : decode code pc = .ok (.ifCond .ne o, 3)) (ho : 0 ≤ (pc : Int) + o) (hp : ((pc : Int) + o).toNat = pc') (hq : pc + 3 = pa)
    (yes : ¬ x = y → Run l Z n0 own code maxL ret nm R Q pc' Ls st h k n) (no : x = y → Run l Z n0 own code maxL ret nm R Q pa Ls st h k n) : Run l Z n0 own code maxL ret nm R Q pc Ls (.int (XT.cmpL x y) :: st) h k n := by
  subst hq
  by_cases hc : x = y
  · exact Run.stp (fun p e below T m c t hA hx hb' q => XS.ifNo hA hx rfl (hb hb' hd) rfl (XT.ll_ne_f hc) q) (no (by simpa using hc))
  · exact Run.stp (fun p e below T m c t hA hx hb' q => XS.ifYes hA hx rfl rfl (hb hb' hd) rfl (XT.ll_ne_t hc) ho hp q) (yes hc)
theorem Run.lif_lt {x y : Int64} {o : Int} {pa : Nat} (hd : decode code pc = .ok (.ifCond .lt o, 3)) (ho : 0 ≤ (pc : Int) + o) (hp : ((pc : Int) + o).toNat = pc') (hq : pc + 3 = pa)
    (yes : x < y → Run l Z n0 own code maxL ret nm R Q pc' Ls st h k n) (no : ¬ x < y → Run l Z n0 own code maxL ret nm R Q pa Ls st h k n) : Run l Z n0 own code maxL ret nm R Q pc Ls (.int (XT.cmpL x y) :: st) h k n := by
  subst hq
  by_cases hc : x < y
  · exact Run.stp (fun p e below T m c t hA hx hb' q => XS.ifYes hA hx rfl rfl (hb hb' hd) rfl (XT.ll_lt_t hc) ho hp q) (yes hc)
  · exact Run.stp (fun p e below T m c t hA hx hb' q => XS.ifNo hA hx rfl (hb hb' hd) rfl (XT.ll_lt_f hc) q) (no hc)
theorem Run.lif_ge {x y : Int64} {o : Int} {pa : Nat} (hd : decode code pc = .ok (.ifCond .ge o, 3)) (ho : 0 ≤ (pc : Int) + o) (hp : ((pc : Int) + o).toNat = pc') (hq : pc + 3 = pa)
    (yes : ¬ x < y → Run l Z n0 own code maxL ret nm R Q pc' Ls st h k n) (no : x < y → Run l Z n0 own code maxL ret nm R Q pa Ls st h k n) : Run l Z n0 own code maxL ret nm R Q pc Ls (.int (XT.cmpL x y) :: st) h k n := by
  subst hq
  by_cases hc : x < y
  · exact Run.stp (fun p e below T m c t hA hx hb' q => XS.ifNo hA hx rfl (hb hb' hd) rfl (XT.ll_ge_f hc) q) (no (by simpa using hc))
  · exact Run.stp (fun p e below T m c t hA hx hb' q => XS.ifYes hA hx rfl rfl (hb hb' hd) rfl (XT.ll_ge_t hc) ho hp q) (yes hc)
theorem Run.lif_gt {x y : Int64} {o : Int} {pa : Nat} (hd : decode code pc = .ok (.ifCond .gt o, 3)) (ho : 0 ≤ (pc : Int) + o) (hp : ((pc : Int) + o).toNat = pc') (hq : pc + 3 = pa)
    (yes : y < x → Run l Z n0 own code maxL ret nm R Q pc' Ls st h k n) (no : ¬ y < x → Run l Z n0 own code maxL ret nm R Q pa Ls st h k n) : Run l Z n0 own code maxL ret nm R Q pc Ls (.int (XT.cmpL x y) :: st) h k n := by
  subst hq
  by_cases hc : y < x
  · exact Run.stp (fun p e below T m c t hA hx hb' q => XS.ifYes hA hx rfl rfl (hb hb' hd) rfl (XT.ll_gt_t hc) ho hp q) (yes hc)
  · exact Run.stp (fun p e below T m c t hA hx hb' q => XS.ifNo hA hx rfl (hb hb' hd) rfl (XT.ll_gt_f hc) q) (no hc)
theorem Run.lif_le {x y : Int64} {o : Int} {pa : Nat} (hd : decode code pc = .ok (.ifCond .le o, 3)) (ho : 0 ≤ (pc : Int) + o) (hp : ((pc : Int) + o).toNat = pc') (hq : pc + 3 = pa)
    (yes : ¬ y < x → Run l Z n0 own code maxL ret nm R Q pc' Ls st h k n) (no : y < x → Run l Z n0 own code maxL ret nm R Q pa Ls st h k n) : Run l Z n0 own code maxL ret nm R Q pc Ls (.int (XT.cmpL x y) :: st) h k n := by
  subst hq
  by_cases hc : y < x
  · exact Run.stp (fun p e below T m c t hA hx hb' q => XS.ifNo hA hx rfl (hb hb' hd) rfl (XT.ll_le_f hc) q) (no (by simpa using hc))
  · exact Run.stp (fun p e below T m c t hA hx hb' q => XS.ifYes hA hx rfl rfl (hb hb' hd) rfl (XT.ll_le_t hc) ho hp q) (yes hc)
theorem Run.acmp_eq {x y : Value} {o : Int} {pa : Nat} (hd : decode code pc = .ok (.if_acmp .eq o, 3)) (hv : x.isRef = true) (hv' : y.isRef = true) (ho : 0 ≤ (pc : Int) + o) (hp : ((pc : Int) + o).toNat = pc') (hq : pc + 3 = pa)
    (yes : x = y → Run l Z n0 own code maxL ret nm R Q pc' Ls st h k n) (no : ¬ x = y → Run l Z n0 own code maxL ret nm R Q pa Ls st h k n) : Run l Z n0 own code maxL ret nm R Q pc Ls (y :: x :: st) h k n := by
  subst hq
  by_cases hc : x = y
  · exact Run.stp (fun p e below T m c t hA hx hb' q => XT.acmpYes hA hx rfl rfl (hb hb' hd) rfl hv hv' (XT.aa_eq_t hc) ho hp q) (yes hc)
  · exact Run.stp (fun p e below T m c t hA hx hb' q => XT.acmpNo hA hx rfl (hb hb' hd) rfl hv hv' (XT.aa_eq_f hc) q) (no hc)
theorem Run.acmp_ne {x y : Value} {o : Int} {pa : Nat} (hd : decode code pc = .ok (.if_acmp .ne o, 3)) (hv : x.isRef = true) (hv' : y.isRef = true) (ho : 0 ≤ (pc : Int) + o) (hp : ((pc : Int) + o).toNat = pc') (hq : pc + 3 = pa)
    (yes : ¬ x = y → Run l Z n0 own code maxL ret nm R Q pc' Ls st h k n) (no : x = y → Run l Z n0 own code maxL ret nm R Q pa Ls st h k n) : Run l Z n0 own code maxL ret nm R Q pc Ls (y :: x :: st) h k n := by
  subst hq
  by_cases hc : x = y
  · exact Run.stp (fun p e below T m c t hA hx hb' q => XT.acmpNo hA hx rfl (hb hb' hd) rfl hv hv' (XT.aa_ne_f hc) q) (no (by simpa using hc))
  · exact Run.stp (fun p e below T m c t hA hx hb' q => XT.acmpYes hA hx rfl rfl (hb hb' hd) rfl hv hv' (XT.aa_ne_t hc) ho hp q) (yes hc)
theorem Run.ifnull {v : Value} {o : Int} {pa : Nat} (hd : decode code pc = .ok (.ifnull o, 3)) (hv : v.isRef = true) (ho : 0 ≤ (pc : Int) + o) (hp : ((pc : Int) + o).toNat = pc') (hq : pc + 3 = pa)
    (yes : v = .null → Run l Z n0 own code maxL ret nm R Q pc' Ls st h k n) (no : ¬ v = .null → Run l Z n0 own code maxL ret nm R Q pa Ls st h k n) : Run l Z n0 own code maxL ret nm R Q pc Ls (v :: st) h k n := by
  subst hq
  by_cases hc : v = .null
  · exact Run.stp (fun p e below T m c t hA hx hb' q => XT.nullYes hA hx rfl rfl (hb hb' hd) rfl hc ho hp q) (yes hc)
  · exact Run.stp (fun p e below T m c t hA hx hb' q => XT.nullNo hA hx rfl (hb hb' hd) rfl hv hc q) (no hc)
theorem Run.ifnonnull {v : Value} {o : Int} {pa : Nat} (hd : decode code pc = .ok (.ifnonnull o, 3)) (hv : v.isRef = true) (ho : 0 ≤ (pc : Int) + o) (hp : ((pc : Int) + o).toNat = pc') (hq : pc + 3 = pa)
    (yes : ¬ v = .null → Run l Z n0 own code maxL ret nm R Q pc' Ls st h k n) (no : v = .null → Run l Z n0 own code maxL ret nm R Q pa Ls st h k n) : Run l Z n0 own code maxL ret nm R Q pc Ls (v :: st) h k n := by
  subst hq
  by_cases hc : v = .null
  · exact Run.stp (fun p e below T m c t hA hx hb' q => XT.nonnullNo hA hx rfl (hb hb' hd) rfl hc q) (no hc)
  · exact Run.stp (fun p e below T m c t hA hx hb' q => XT.nonnullYes hA hx rfl rfl (hb hb' hd) rfl hv hc ho hp q) (yes hc)
/-! the pool's constants, fields, statics -/
theorem Run.ldcI {a0 : Array Value} {i : Nat} {v : Int32} (hd : decode code pc = .ok (.ldc i, 2)) (w : (Cond.constant own i v).before a0 Z = true) (hp : pc + 2 = pc') (nxt : Run l Z n0 own code maxL ret nm R Q pc' Ls (.int v :: st) h k n) : Run l Z n0 own code maxL ret nm R Q pc Ls st h k n := by
  subst hp
  exact Run.via (fun p e s m args below meth c T locs cells slots hC X eT => ⟨T, X, eT, fun t q => X.ldcI hC.1 hC.2.2.1 (mvT hC.2.1 w) rfl (hb hC.2.2.2.1 hd) q⟩) nxt
theorem Run.ldcWI {a0 : Array Value} {i : Nat} {v : Int32} (hd : decode code pc = .ok (.ldc_w i, 3)) (w : (Cond.constant own i v).before a0 Z = true) (hp : pc + 3 = pc') (nxt : Run l Z n0 own code maxL ret nm R Q pc' Ls (.int v :: st) h k n) : Run l Z n0 own code maxL ret nm R Q pc Ls st h k n := by
  subst hp
  exact Run.via (fun p e s m args below meth c T locs cells slots hC X eT => ⟨T, X, eT, fun t q => X.ldcWI hC.1 hC.2.2.1 (mvT hC.2.1 w) rfl (hb hC.2.2.2.1 hd) q⟩) nxt
theorem Run.ldc2J {a0 : Array Value} {i : Nat} {v : Int64} (hd : decode code pc = .ok (.ldc2_w i, 3)) (w : (Cond.constantLong own i v).before a0 Z = true) (hp : pc + 3 = pc') (nxt : Run l Z n0 own code maxL ret nm R Q pc' Ls (.long v :: st) h k n) : Run l Z n0 own code maxL ret nm R Q pc Ls st h k n := by
  subst hp
  exact Run.via (fun p e s m args below meth c T locs cells slots hC X eT => ⟨T, X, eT, fun t q => X.ldc2J hC.1 hC.2.2.1 (mvT hC.2.1 w) rfl (hb hC.2.2.2.1 hd) q⟩) nxt
theorem Run.getS {a0 : Array Value} {R0 O f d host : String} {i : Nat} {v : Value} (hd : decode code pc = .ok (.getstatic i, 3)) (w : (Cond.fieldLink own i R0 f d).before a0 Z = true ∨ (Cond.fieldLinkNest own i R0 f d host).before a0 Z = true) (via : Via Z R0 O f d) (F : Sta Z h O f d v) (hp : pc + 3 = pc') (nxt : Run l Z n0 own code maxL ret nm R Q pc' Ls (v :: st) h k n) : Run l Z n0 own code maxL ret nm R Q pc Ls st h k n := by
  subst hp
  exact Run.via (fun p e s m args below meth c T locs cells slots hC X eT => getS2 X hC.1 hC.2.1 hC.2.2.1 w via eT F (g := mkF m pc Ls st) rfl (hb hC.2.2.2.1 hd)) nxt
theorem Run.getF {a0 : Array Value} {R0 O f d host : String} {i : Nat} {a : Addr} {v : Value} (hd : decode code pc = .ok (.getfield i, 3)) (w : (Cond.fieldLink own i R0 f d).before a0 Z = true ∨ (Cond.fieldLinkNest own i R0 f d host).before a0 Z = true) (via : Via Z R0 O f d) (F : Fld Z h a O f d v) (hp : pc + 3 = pc') (nxt : Run l Z n0 own code maxL ret nm R Q pc' Ls (v :: st) h k n) : Run l Z n0 own code maxL ret nm R Q pc Ls (.ref a :: st) h k n := by
  subst hp
  exact Run.via (fun p e s m args below meth c T locs cells slots hC X eT => getF X hC.1 hC.2.1 hC.2.2.1 w via eT F (g := mkF m pc Ls (.ref a :: st)) rfl rfl (hb hC.2.2.2.1 hd)) nxt
/-! the returns -/
theorem Go.fin {p : Program} {e : Env} {s : State} {m : MethodId} {args : Array Value} {below : List Frame} {meth : Method} {c : Code} {T S : State} {locs : List Loc} {cells slots : Nat} {v : Option Value} (X : Stand p l e R s m args below meth c T locs cells slots) (hv : meth.sig.returnType = none → v = none) (hlk : meth.locks = false) (hF : Fr n0 locs) (hk : cells ≤ R.cells) (hn : slots ≤ R.slots) (hQ : Q v T.heap)
    (f : ∀ fs, (∀ (f : JFrame) (acts : List Action), f.method = m → f.locked = none → f.entered = [] → (doReturn e (T.setTop f) acts v).1 = T.setFrames fs) → Steps p.tables e below S (T.setFrames fs)) : Go p e below s n0 R.cells R.slots Q S := by
  obtain ⟨fs, hr, hrun, hended, hW, hsame⟩ := X.leave (v := v) hv hlk
  exact ⟨_, v, locs, f fs hr, hrun, hended, ⟨hQ, hF⟩, ⟨_, rfl⟩, hW, hsame.mono hk hn⟩
theorem Run.ireturn {z : Int32} (hd : decode code pc = .ok (.ireturn, 1)) (hret : ret = some .int) (hk : k ≤ R.cells) (hn : n ≤ R.slots) (hQ : Q (some (.int z)) h) : Run l Z n0 own code maxL ret nm R Q pc Ls (.int z :: st) h k n := by
  intro p e s m args below meth c T locs cells slots hC X eT hF hk' hn'
  subst eT
  have hr := hC.2.2.2.2.2.1
  exact Go.fin X (fun q => by rw [hr, hret] at q; cases q) hC.2.2.2.2.2.2.1 hF (Nat.le_trans hk' hk) (Nat.le_trans hn' hn) hQ (fun fs hl => retOut X hC.1 (hr.trans hret) rfl (Or.inl ⟨rfl, Or.inl rfl, z, rfl⟩) (hb hC.2.2.2.1 hd) hl)
theorem Run.nreturn {z : Int32} {ty : FieldType} (hd : decode code pc = .ok (.ireturn, 1)) (hret : ret = some ty) (ht : ty = .boolean ∨ ty = .byte ∨ ty = .char ∨ ty = .short) (hk : k ≤ R.cells) (hn : n ≤ R.slots) (hQ : Q (some (.int (nar ty z))) h) : Run l Z n0 own code maxL ret nm R Q pc Ls (.int z :: st) h k n := by
  intro p e s m args below meth c T locs cells slots hC X eT hF hk' hn'
  subst eT
  have hr := hC.2.2.2.2.2.1
  exact Go.fin X (fun q => by rw [hr, hret] at q; cases q) hC.2.2.2.2.2.2.1 hF (Nat.le_trans hk' hk) (Nat.le_trans hn' hn) hQ (fun fs hl => retN X hC.1 (hr.trans hret) ht (hb hC.2.2.2.1 hd) hl)
theorem Run.lreturn {z : Int64} (hd : decode code pc = .ok (.lreturn, 1)) (hret : ret = some .long) (hk : k ≤ R.cells) (hn : n ≤ R.slots) (hQ : Q (some (.long z)) h) : Run l Z n0 own code maxL ret nm R Q pc Ls (.long z :: st) h k n := by
  intro p e s m args below meth c T locs cells slots hC X eT hF hk' hn'
  subst eT
  have hr := hC.2.2.2.2.2.1
  exact Go.fin X (fun q => by rw [hr, hret] at q; cases q) hC.2.2.2.2.2.2.1 hF (Nat.le_trans hk' hk) (Nat.le_trans hn' hn) hQ (fun fs hl => retOut X hC.1 (hr.trans hret) rfl (Or.inr (Or.inl ⟨rfl, rfl, z, rfl⟩)) (hb hC.2.2.2.1 hd) hl)
theorem narrow_ref {t : FieldType} {w : Value} (ht : t.isReference = true) (hw : w.isRef = true) : narrow t w = w := by
  cases t <;> first | rfl | (cases ht; done) | (cases w <;> first | rfl | cases hw)
theorem Run.areturn {w : Value} {ty : FieldType} (hd : decode code pc = .ok (.areturn, 1)) (hret : ret = some ty) (ht : ty.isReference = true) (hw : w.isRef = true) (hk : k ≤ R.cells) (hn : n ≤ R.slots) (hQ : Q (some w) h) : Run l Z n0 own code maxL ret nm R Q pc Ls (w :: st) h k n := by
  intro p e s m args below meth c T locs cells slots hC X eT hF hk' hn'
  subst eT
  have hr := hC.2.2.2.2.2.1
  exact Go.fin X (fun q => by rw [hr, hret] at q; cases q) hC.2.2.2.2.2.2.1 hF (Nat.le_trans hk' hk) (Nat.le_trans hn' hn) hQ (fun fs hl => retOut X hC.1 (hr.trans hret) (narrow_ref ht hw) (Or.inr (Or.inr (Or.inr (Or.inr ⟨rfl, ht, hw⟩)))) (hb hC.2.2.2.1 hd) hl)
theorem Run.vreturn (hd : decode code pc = .ok (.return_, 1)) (hret : ret = none) (hk : k ≤ R.cells) (hn : n ≤ R.slots) (hQ : Q none h) : Run l Z n0 own code maxL ret nm R Q pc Ls [] h k n := by
  intro p e s m args below meth c T locs cells slots hC X eT hF hk' hn'
  subst eT
  have hr := hC.2.2.2.2.2.1
  exact Go.fin X (fun _ => rfl) hC.2.2.2.2.2.2.1 hF (Nat.le_trans hk' hk) (Nat.le_trans hn' hn) hQ (fun fs hl => X.returnOut hC.1 (hr.trans hret) (hb hC.2.2.2.1 hd) hl)
/-! calls by a contract -/
theorem Run.callS {a0 : Array Value} {y : MethodName} {bytes : ByteArray} {mL : Nat} {rt : Option FieldType} {rm : Room} {as rest : List Value} {Qy : Option Value → Heap → Prop} {i : Nat} {ps : List FieldType} {rr : Option FieldType}
    (hC : Con l Z n0 y bytes mL rt rm as.toArray h Qy) (hd : decode code pc = .ok (.invokestatic i, 3)) (w1 : (Cond.methodLink own i y).before a0 Z = true) (w2 : (Cond.static y).before a0 Z = true) (w3 : (Cond.initialized y.cls).before a0 Z = true) (w4 : (Cond.code y bytes mL rt).before a0 Z = true)
    (hy : y.cls ≠ "java/lang/invoke/MethodHandle" ∧ y.cls ≠ "java/lang/invoke/VarHandle") (hds : parseMethodDescriptor y.desc = some ⟨ps, rr⟩) (hl : as.length = ps.length) (hst : st = as.reverse ++ rest) (hsz : Ls.size = maxL)
    (hf : rm.frames + 1 ≤ R.frames) (hlo : (rest.map fun v => v.category).sum + (mL + 11) + rm.locals ≤ R.locals) (hk : k + rm.cells ≤ k') (hk' : k' ≤ R.cells) (hn : n + rm.slots ≤ n') (hn' : n' ≤ R.slots) (hp : pc + 3 = pc')
    (nxt : ∀ v h', Qy v h' → Run l Z n0 own code maxL ret nm R Q pc' Ls (v.toList ++ rest) h' k' n') : Run l Z n0 own code maxL ret nm R Q pc Ls st h k n := by
  subst hp hst
  intro p e s m args below meth c T locs cells slots hX X eT hF hc hs
  obtain ⟨hx, hZ, hown, hby, hml, -⟩ := id hX
  obtain ⟨v, vm₁, ⟨B, L', cc, ss⟩, -, X', ⟨Lc, hQ, l1, y1, z1⟩, stp⟩ := Jvm.LawKit.callS X hx (y := y) hown (mvT hZ w1) (mvT hZ w2) (mvT hZ w3) (mvT hZ w4) hy (backOf (W := (rest.map fun v => v.category).sum) (Q := fun v h L => Qy v h ∧ Fr n0 L) (hC []) hZ w4 w3 hf hlo) (g := mkF m pc Ls (as.reverse ++ rest)) rfl (hsz.trans hml.symm) (argsL := as) (rest := rest) (lenOf hds hl) rfl (by show 2 * 0 + _ ≤ _; omega) (hb hby hd) (fun _ _ => ⟨rfl, eT, (by show cells + rm.cells ≤ R.cells; omega), (by show slots + rm.slots ≤ R.slots; omega)⟩)
  dsimp only [Pt.U, Pt.locs, Pt.cells, Pt.slots] at X' l1 y1 z1 stp hQ
  subst l1 y1 z1
  obtain ⟨s₂, v', L, g1, g2⟩ := nxt v _ hQ.1 p e s m args below meth c B _ _ _ hX X' rfl (Fr.app hF hQ.2) (by omega) (by omega)
  exact ⟨s₂, v', L, stp _ g1, g2⟩
theorem Run.callV {a0 : Array Value} {C : String} {y z : MethodName} {bytes : ByteArray} {mL : Nat} {rt : Option FieldType} {rm : Room} {a : Addr} {as rest : List Value} {Qy : Option Value → Heap → Prop} {i : Nat} {ps : List FieldType} {rr : Option FieldType}
    (hC : Con l Z n0 z bytes mL rt rm (.ref a :: as).toArray h Qy) (hE : Exa Z h a C) (hd : decode code pc = .ok (.invokevirtual i, 3)) (w1 : (Cond.methodLink own i y).before a0 Z = true) (w2 : (Cond.declares y).before a0 Z = true) (nf : ∀ (s : State), Z.Warmed39 s.vm → NotFace s y) (w3 : (Cond.selects C y z).before a0 Z = true) (w4 : (Cond.instanceMethod z).before a0 Z = true) (w5 : (Cond.initialized z.cls).before a0 Z = true) (w6 : (Cond.code z bytes mL rt).before a0 Z = true)
    (hy : y.cls ≠ "java/lang/invoke/MethodHandle" ∧ y.cls ≠ "java/lang/invoke/VarHandle") (hds : parseMethodDescriptor y.desc = some ⟨ps, rr⟩) (hl : as.length = ps.length) (hst : st = as.reverse ++ .ref a :: rest) (hsz : Ls.size = maxL)
    (hf : rm.frames + 1 ≤ R.frames) (hlo : (rest.map fun v => v.category).sum + (mL + 11) + rm.locals ≤ R.locals) (hk : k + rm.cells ≤ k') (hk' : k' ≤ R.cells) (hn : n + rm.slots ≤ n') (hn' : n' ≤ R.slots) (hp : pc + 3 = pc')
    (nxt : ∀ v h', Qy v h' → Run l Z n0 own code maxL ret nm R Q pc' Ls (v.toList ++ rest) h' k' n') : Run l Z n0 own code maxL ret nm R Q pc Ls st h k n := by
  subst hp hst
  intro p e s m args below meth c T locs cells slots hX X eT hF hc hs
  obtain ⟨hx, hZ, hown, hby, hml, -⟩ := id hX
  obtain ⟨cq, kq, qa, qb, qc⟩ := isOf hZ eT hE
  obtain ⟨v, vm₁, ⟨B, L', cc, ss⟩, -, X', ⟨Lc, hQ, l1, y1, z1⟩, stp⟩ := X.virtualBack hx (y := y) (z := z) hown (mvT hZ w1) (mvT hZ w2) (nf s hZ) (mvT hZ w3) (mvT hZ w4) hy (backOf (W := (rest.map fun v => v.category).sum) (Q := fun v h L => Qy v h ∧ Fr n0 L) (hC []) hZ w6 w5 hf hlo) qa qc (g := mkF m pc Ls (as.reverse ++ .ref a :: rest)) rfl (hsz.trans hml.symm) (Steps.refl _) (argsL := as) (rest := rest) (lenOf hds hl) rfl (by show 2 * 0 + _ ≤ _; omega) (hb hby hd) (fun _ _ => ⟨rfl, eT, (by show cells + rm.cells ≤ R.cells; omega), (by show slots + rm.slots ≤ R.slots; omega)⟩)
  dsimp only [Pt.U, Pt.locs, Pt.cells, Pt.slots] at X' l1 y1 z1 stp hQ
  subst l1 y1 z1
  obtain ⟨s₂, v', L, g1, g2⟩ := nxt v _ hQ.1 p e s m args below meth c B _ _ _ hX X' rfl (Fr.app hF hQ.2) (by omega) (by omega)
  exact ⟨s₂, v', L, stp.trans g1, g2⟩
theorem Run.callN {a0 : Array Value} {y : MethodName} {bytes : ByteArray} {mL : Nat} {rm : Room} {a : Addr} {as rest : List Value} {P : Heap → Prop} {i : Nat} {ps : List FieldType} {rr : Option FieldType}
    (hC : Con l Z n0 y bytes mL none rm (.ref a :: as).toArray h (Vd P)) (hy1 : y.name = "<init>") (hd : decode code pc = .ok (.invokespecial i, 3)) (w1 : (Cond.methodLink own i y).before a0 Z = true) (w2 : (Cond.instanceMethod y).before a0 Z = true) (w3 : (Cond.initialized y.cls).before a0 Z = true) (w4 : (Cond.code y bytes mL none).before a0 Z = true)
    (hy : y.cls ≠ "java/lang/invoke/MethodHandle" ∧ y.cls ≠ "java/lang/invoke/VarHandle") (hds : parseMethodDescriptor y.desc = some ⟨ps, rr⟩) (hl : as.length = ps.length) (hst : st = as.reverse ++ .ref a :: rest) (hsz : Ls.size = maxL)
    (hf : rm.frames + 1 ≤ R.frames) (hlo : (rest.map fun v => v.category).sum + (mL + 11) + rm.locals ≤ R.locals) (hk : k + rm.cells ≤ k') (hk' : k' ≤ R.cells) (hn : n + rm.slots ≤ n') (hn' : n' ≤ R.slots) (hp : pc + 3 = pc')
    (nxt : ∀ h', P h' → Run l Z n0 own code maxL ret nm R Q pc' Ls rest h' k' n') : Run l Z n0 own code maxL ret nm R Q pc Ls st h k n := by
  subst hp hst
  intro p e s m args below meth c T locs cells slots hX X eT hF hc hs
  obtain ⟨hx, hZ, hown, hby, hml, -⟩ := id hX
  obtain ⟨v, vm₁, ⟨B, L', cc, ss⟩, -, X', ⟨Lc, hQ, l1, y1, z1⟩, stp⟩ := X.specialBack hx (y := y) hy1 hown (mvT hZ w1) (mvT hZ w2) (mvT hZ w4) hy (backOf (W := (rest.map fun v => v.category).sum) (Q := fun v h L => Vd P v h ∧ Fr n0 L) (hC []) hZ w4 w3 hf hlo) (g := mkF m pc Ls (as.reverse ++ .ref a :: rest)) rfl (hsz.trans hml.symm) (Steps.refl _) (a := a) (argsL := as) (rest := rest) (lenOf hds hl) rfl (by show 2 * 0 + _ ≤ _; omega) (hb hby hd) (fun _ _ => ⟨rfl, eT, (by show cells + rm.cells ≤ R.cells; omega), (by show slots + rm.slots ≤ R.slots; omega)⟩)
  dsimp only [Pt.U, Pt.locs, Pt.cells, Pt.slots] at X' l1 y1 z1 stp hQ
  subst l1 y1 z1
  obtain ⟨⟨rfl, hP⟩, hL⟩ := hQ
  obtain ⟨s₂, v', L, g1, g2⟩ := nxt _ hP p e s m args below meth c B _ _ _ hX X' rfl (Fr.app hF hL) (by omega) (by omega)
  exact ⟨s₂, v', L, stp.trans g1, g2⟩
/-! the heap: new objects, fields written, arrays -/
theorem Run.wr {a : Addr} {sl : Nat} {v : Value} {Ls' : Array Slot} {st' : List Value} (f : ∀ (p : Program) (e : Env) (s : State) (m : MethodId) (args : Array Value) (below : List Frame) (meth : Method) (c : Code) (T : State) (locs : List Loc) (cells slots : Nat),
      Ctx Z own code maxL ret nm p s m meth c → Stand p l e R s m args below meth c T locs cells slots → T.heap = h → ∃ T' h', Stand p l e R s m args below meth c T' (locs ++ [⟨a, sl⟩]) cells slots ∧ T'.heap = h' ∧ Wr h h' a sl v ∧ ∀ t, Steps p.tables e below (T'.setTop (mkF m pc' Ls' st')) t → Steps p.tables e below (T.setTop (mkF m pc Ls st)) t)
    (ha : n0 ≤ a) (nxt : ∀ h', Wr h h' a sl v → Run l Z n0 own code maxL ret nm R Q pc' Ls' st' h' k n) : Run l Z n0 own code maxL ret nm R Q pc Ls st h k n := by
  intro p e s m args below meth c T locs cells slots hC X eT hF hk hn
  obtain ⟨T', h', X', e', W, stp⟩ := f p e s m args below meth c T locs cells slots hC X eT
  obtain ⟨s₂, v', L, g1, g2⟩ := nxt h' W p e s m args below meth c T' _ cells slots hC X' e' (Fr.snoc X' hF ha) hk hn
  exact ⟨s₂, v', L, stp _ g1, g2⟩
theorem Run.newO {a0 : Array Value} {C : String} {i sl : Nat} (hd : decode code pc = .ok (.new i, 3)) (w : (Cond.classLink own i C).before a0 Z = true) (wi : (Cond.instantiable C sl).before a0 Z = true) (wz : (Cond.initialized C).before a0 Z = true)
    (hk : k + 1 ≤ k') (hk' : k' ≤ R.cells) (hn : n + sl ≤ n') (hn' : n' ≤ R.slots) (hp : pc + 3 = pc')
    (nxt : ∀ h' a, a = h.size → Ext h h' → Exa Z h' a C → (∀ {O f d : String} {ty : FieldType}, Laid Z a0 C O f d → parseFieldDescriptor d = some ty → Fld Z h' a O f d (defaultValue ty)) → Run l Z n0 own code maxL ret nm R Q pc' Ls (.ref a :: st) h' k' n') : Run l Z n0 own code maxL ret nm R Q pc Ls st h k n := by
  subst hp
  intro p e s m args below meth c T locs cells slots hC X eT hF hkk hnn
  obtain ⟨T', h', X', e', E, A, D, -, stp⟩ := newO X hC.1 hC.2.1 hC.2.2.1 w wi wz eT (g := mkF m pc Ls st) rfl (hb hC.2.2.2.1 hd) (by omega) (by omega)
  obtain ⟨s₂, v, L, g1, g2⟩ := nxt h' h.size rfl E A D p e s m args below meth c T' locs _ _ hC X' e' hF (by omega) (by omega)
  exact ⟨s₂, v, L, stp _ g1, g2⟩
theorem Run.initO {a0 : Array Value} {i : Nat} {a : Addr} (hd : decode code pc = .ok (.invokespecial i, 3)) (w1 : (Cond.methodLink own i Lib.objectInit).before a0 Z = true) (w2 : (Cond.instanceMethod Lib.objectInit).before a0 Z = true) (w3 : (Cond.code Lib.objectInit ⟨#[0xb1]⟩ 1 none).before a0 Z = true)
    (hsz : Ls.size = maxL) (hf : 1 ≤ R.frames) (hl : (st.map fun v => v.category).sum + 12 ≤ R.locals) (hp : pc + 3 = pc') (nxt : Run l Z n0 own code maxL ret nm R Q pc' Ls st h k n) : Run l Z n0 own code maxL ret nm R Q pc Ls (.ref a :: st) h k n := by
  subst hp
  exact Run.via (fun p e s m args below meth c T locs cells slots hC X eT => initO X hC.1 hC.2.1 hC.2.2.1 w1 w2 w3 eT (g := mkF m pc Ls (.ref a :: st)) rfl (hsz.trans hC.2.2.2.2.1.symm) rfl (hb hC.2.2.2.1 hd) hf (W := (st.map fun v => v.category).sum) (by show 2 * 0 + _ ≤ _; omega) hl) nxt
theorem Run.putF {a0 : Array Value} {R0 O f d host C : String} {i sl : Nat} {ty : FieldType} {a : Addr} {v old : Value} (hd : decode code pc = .ok (.putfield i, 3)) (w : (Cond.fieldLink own i R0 f d).before a0 Z = true ∨ (Cond.fieldLinkNest own i R0 f d host).before a0 Z = true) (via : Via Z R0 O f d) (F : Fld Z h a O f d old) (E : Exa Z h a C)
    (L : (Cond.lays C O f d).before a0 Z = true ∨ ((Cond.laysFinal C O f d).before a0 Z = true ∧ own = O ∧ nm = "<init>")) (wi : (Cond.instantiable C sl).before a0 Z = true) (hty : parseFieldDescriptor d = some ty) (hnv : narrow ty v = v) (hfv : fits ty v = true) (ha : n0 ≤ a) (hp : pc + 3 = pc')
    (nxt : ∀ h', Wr h h' a (Jvm.RoadKit.slotOf Z O f d) v → Run l Z n0 own code maxL ret nm R Q pc' Ls st h' k n) : Run l Z n0 own code maxL ret nm R Q pc Ls (v :: .ref a :: st) h k n := by
  subst hp
  exact Run.wr (fun p e s m args below meth c T locs cells slots hC X eT => putF X hC.1 hC.2.1 hC.2.2.1 w via eT F E (L.imp id fun q => ⟨q.1, q.2.1, hC.2.2.2.2.2.2.2.trans q.2.2⟩) wi hty hnv hfv (g := mkF m pc Ls (v :: .ref a :: st)) rfl rfl (hb hC.2.2.2.1 hd)) ha nxt
theorem Run.putFN {a0 : Array Value} {R0 O f d C : String} {i sl : Nat} {ty : FieldType} {a : Addr} {v v' old : Value} (hd : decode code pc = .ok (.putfield i, 3)) (w : (Cond.fieldLink own i R0 f d).before a0 Z = true) (via : Via Z R0 O f d) (F : Fld Z h a O f d old) (E : Exa Z h a C)
    (L : (Cond.lays C O f d).before a0 Z = true ∨ ((Cond.laysFinal C O f d).before a0 Z = true ∧ own = O ∧ nm = "<init>")) (wi : (Cond.instantiable C sl).before a0 Z = true) (hty : parseFieldDescriptor d = some ty) (hnv : narrow ty v = v') (hfv : fits ty v' = true) (ha : n0 ≤ a) (hp : pc + 3 = pc')
    (nxt : ∀ h', Wr h h' a (Jvm.RoadKit.slotOf Z O f d) v' → Run l Z n0 own code maxL ret nm R Q pc' Ls st h' k n) : Run l Z n0 own code maxL ret nm R Q pc Ls (v :: .ref a :: st) h k n := by
  subst hp
  exact Run.wr (fun p e s m args below meth c T locs cells slots hC X eT => putFN X hC.1 hC.2.1 hC.2.2.1 w via eT F E (L.imp id fun q => ⟨q.1, q.2.1, hC.2.2.2.2.2.2.2.trans q.2.2⟩) wi hty hnv hfv (g := mkF m pc Ls (v :: .ref a :: st)) rfl rfl (hb hC.2.2.2.1 hd)) ha nxt
theorem Run.castY {a0 : Array Value} {K : String} {i : Nat} {a : Addr} (hd : decode code pc = .ok (.checkcast i, 3)) (w : (Cond.classLink own i K).before a0 Z = true) (F : Ins Z h a K true) (hp : pc + 3 = pc') (nxt : Run l Z n0 own code maxL ret nm R Q pc' Ls (.ref a :: st) h k n) : Run l Z n0 own code maxL ret nm R Q pc Ls (.ref a :: st) h k n := by
  subst hp
  exact Run.via (fun p e s m args below meth c T locs cells slots hC X eT => castY X hC.1 hC.2.1 hC.2.2.1 w eT F (g := mkF m pc Ls (.ref a :: st)) rfl rfl (hb hC.2.2.2.1 hd)) nxt
theorem Run.castNull {i : Nat} (hd : decode code pc = .ok (.checkcast i, 3)) (hp : pc + 3 = pc') (nxt : Run l Z n0 own code maxL ret nm R Q pc' Ls (.null :: st) h k n) : Run l Z n0 own code maxL ret nm R Q pc Ls (.null :: st) h k n := by
  subst hp
  exact Run.via (fun p e s m args below meth c T locs cells slots hC X eT => ⟨T, X, eT, fun t q => X.checkcastNull hC.1 (g := mkF m pc Ls (.null :: st)) rfl rfl (hb hC.2.2.2.1 hd) t q⟩) nxt
theorem Run.instY {a0 : Array Value} {K : String} {i : Nat} {a : Addr} (hd : decode code pc = .ok (.instanceof i, 3)) (w : (Cond.classLink own i K).before a0 Z = true) (F : Ins Z h a K true) (hp : pc + 3 = pc') (nxt : Run l Z n0 own code maxL ret nm R Q pc' Ls (.int 1 :: st) h k n) : Run l Z n0 own code maxL ret nm R Q pc Ls (.ref a :: st) h k n := by
  subst hp
  exact Run.via (fun p e s m args below meth c T locs cells slots hC X eT => instY X hC.1 hC.2.1 hC.2.2.1 w eT F (g := mkF m pc Ls (.ref a :: st)) rfl rfl (hb hC.2.2.2.1 hd)) nxt
theorem Run.instNo {a0 : Array Value} {K C : String} {i : Nat} {a : Addr} (hd : decode code pc = .ok (.instanceof i, 3)) (w : (Cond.classLink own i K).before a0 Z = true) (E : Exa Z h a C) (F : ∃ c t, Z.vm.findClass C = some c ∧ Z.vm.findClass K = some t ∧ Z.vm.assignable c t = false) (hp : pc + 3 = pc') (nxt : Run l Z n0 own code maxL ret nm R Q pc' Ls (.int 0 :: st) h k n) : Run l Z n0 own code maxL ret nm R Q pc Ls (.ref a :: st) h k n := by
  subst hp
  exact Run.via (fun p e s m args below meth c T locs cells slots hC X eT => instNo X hC.1 hC.2.1 hC.2.2.1 w eT E F (g := mkF m pc Ls (.ref a :: st)) rfl rfl (hb hC.2.2.2.1 hd)) nxt
theorem Run.instNull {i : Nat} (hd : decode code pc = .ok (.instanceof i, 3)) (hp : pc + 3 = pc') (nxt : Run l Z n0 own code maxL ret nm R Q pc' Ls (.int 0 :: st) h k n) : Run l Z n0 own code maxL ret nm R Q pc Ls (.null :: st) h k n := by
  subst hp
  exact Run.via (fun p e s m args below meth c T locs cells slots hC X eT => ⟨T, X, eT, fun t q => X.instanceofNull hC.1 (g := mkF m pc Ls (.null :: st)) rfl rfl (hb hC.2.2.2.1 hd) t q⟩) nxt
/-- the array at a holds just the list vs -/
def Ary (Z : State) (h : Heap) (a : Addr) (ty : FieldType) (vs : List Value) : Prop := ∃ c : Cell, Arr Z h a c ty ∧ c.slots.toList = vs
section Ar
variable {h' : Heap} {a b : Addr} {ty : FieldType} {vs : List Value} {sl : Nat} {v : Value} {ws : List Addr}
theorem Ary.lt (F : Ary Z h a ty vs) : a < h.size := by obtain ⟨c, A, -⟩ := F; exact A.lt
theorem Ary.ext (F : Ary Z h a ty vs) (E : Ext h h') : Ary Z h' a ty vs := by obtain ⟨c, A, r⟩ := F; exact ⟨c, A.ext E, r⟩
theorem Ary.other (F : Ary Z h b ty vs) (W : Wr h h' a sl v) (q : b ≠ a) : Ary Z h' b ty vs := by obtain ⟨c, A, r⟩ := F; exact ⟨c, A.other W q, r⟩
theorem Ary.keep (F : Ary Z h a ty vs) (K : Keep h h' ws) (q : a ∉ ws) : Ary Z h' a ty vs := by obtain ⟨c, A, r⟩ := F; exact ⟨c, ⟨K.2.1 a c A.1 q, A.2⟩, r⟩
theorem Ary.set (F : Ary Z h a ty vs) (W : Wr h h' a sl v) : Ary Z h' a ty (vs.set sl v) := by
  obtain ⟨c, A, r⟩ := F
  exact ⟨_, A.same W, by rw [← r]; simp [Cell.setSlot]⟩
theorem Ext.refl (h : Heap) : Ext h h := ⟨Nat.le_refl _, fun _ _ q => q⟩
theorem Ext.trans {h0 : Heap} (E : Ext h0 h) (E' : Ext h h') : Ext h0 h' := ⟨Nat.le_trans E.1 E'.1, fun a c q => E'.2 a c (E.2 a c q)⟩
theorem Ext.wr {h0 : Heap} (E : Ext h0 h) (W : Wr h h' a sl v) (q : h0.size ≤ a) : Ext h0 h' := by
  refine ⟨Nat.le_trans E.1 (Nat.le_of_eq W.size.symm), fun b c hb => ?_⟩
  obtain ⟨c', e1, -, -, -, e5, -⟩ := wr_at W (E.2 b c hb)
  have : b ≠ a := fun z => by subst z; exact absurd (Array.getElem?_eq_some_iff.mp hb).1 (Nat.not_lt.mpr q)
  rw [← e5 this]; exact e1
theorem Ext.keep {h0 : Heap} (E : Ext h0 h) (K : Keep h h' ws) (q : ∀ x ∈ ws, h0.size ≤ x) : Ext h0 h' :=
  ⟨Nat.le_trans E.1 K.1, fun b c hb => K.2.1 b c (E.2 b c hb) fun z => absurd (Array.getElem?_eq_some_iff.mp hb).1 (Nat.not_lt.mpr (q b z))⟩
theorem Keep.toExt (K : Keep h h' []) : Ext h h' := ⟨K.1, fun b c hb => K.2.1 b c hb nin0⟩
theorem own_fitsR {t : FieldType} (ht : refKind t = true) (hv : v.isRef = true) : fits t v = true := by cases t <;> first | (cases ht; done) | (cases v <;> first | rfl | cases hv)
theorem Keep.ofExt (E : Ext h h') : Keep h h' [] := (Keep.refl h []).ext E
theorem idxIn {c : Cell} {j : Int32} {i : Nat} (hj : j.toInt = (i : Int)) (hi : i < c.slots.size) : ¬ (j < 0 ∨ c.slots.size ≤ j.toNatClampNeg) ∧ j.toNatClampNeg = i := by
  have e : j.toNatClampNeg = i := by have : j.toNatClampNeg = j.toInt.toNat := rfl; rw [this, hj]; rfl
  refine ⟨fun q => ?_, e⟩
  rcases q with q | q
  · rw [Int32.lt_iff_toInt_lt, hj] at q; have : (0 : Int32).toInt = 0 := rfl; omega
  · omega
theorem sizeOf {c : Cell} (r : c.slots.toList = vs) : c.slots.size = vs.length := by rw [← r]; simp
theorem getOf {c : Cell} {i : Nat} (r : c.slots.toList = vs) (hv : vs[i]? = some v) : c.slots[i]? = some v := by rw [← r] at hv; simpa using hv
end Ar
theorem ns_root {a0 : Array Value} {O K : String} {m : Nat} (w : (Cond.noSuperclass O).before a0 Z = true) (wk : (Cond.instantiable K m).before a0 Z = true) (hn : O ≠ K) : NS Z O K := by
  obtain ⟨c, k, h1, h2, h3, -, -⟩ := Cond.noSuperclass_spec w
  obtain ⟨t, k2, g1, -⟩ := Cond.instantiable_spec wk
  have ne := ids_ne h1 g1 hn
  refine ⟨c, t, h1, g1, fun fuel => ?_⟩
  cases fuel with
  | zero => rfl
  | succ f => simp [Vm.isSubclassAux, ne, h2, h3]
theorem ns_no {a0 : Array Value} {C S K : String} {m : Nat} (w : (Cond.superclass C S).before a0 Z = true) (wk : (Cond.instantiable K m).before a0 Z = true) (n : NS Z C K) (hn : C ≠ K) : ∃ c t, Z.vm.findClass C = some c ∧ Z.vm.findClass K = some t ∧ Z.vm.assignable c t = false := by
  obtain ⟨c, t, h0, g0, n3⟩ := n
  obtain ⟨p, k, kp, h1, h2, h3, h4, h5, -, h7⟩ := Cond.superclass_spec h0 w
  obtain ⟨t', k', g1, g2, g5, g7, -⟩ := Cond.instantiable_spec wk
  cases g0.symm.trans g1
  have ne := ids_ne h0 g0 hn
  have g8 : k'.isInterface = false := by cases hq : k'.isInterface <;> simp [hq] at g7 ⊢
  refine ⟨c, t, h0, g0, ?_⟩
  show Z.vm.assignableAux (255 + 1) c t = false
  simp [Vm.assignableAux, ne, h2, g2, h5, g5, g8, Vm.isSubclass, n3]
theorem Run.alen {a : Addr} {ty : FieldType} {vs : List Value} {z : Int32} (hd : decode code pc = .ok (.arraylength, 1)) (A : Ary Z h a ty vs) (hz : vs.length.toInt32 = z) (hp : pc + 1 = pc') (nxt : Run l Z n0 own code maxL ret nm R Q pc' Ls (.int z :: st) h k n) : Run l Z n0 own code maxL ret nm R Q pc Ls (.ref a :: st) h k n := by
  subst hp hz
  obtain ⟨c0, A, r⟩ := A
  exact Run.via (fun p e s m args below meth c T locs cells slots hC X eT => ⟨T, X, eT, fun t q => X.arraylength hC.1 (by rw [eT]; exact A.1) (State.isArrayOf_alike hC.2.1.alike A.2.1) (g := mkF m pc Ls (.ref a :: st)) rfl rfl (hb hC.2.2.2.1 hd) t (by rw [sizeOf r]; exact q)⟩) nxt
theorem Run.iaload {a : Addr} {vs : List Value} {j : Int32} {i : Nat} {v : Value} (hd : decode code pc = .ok (.iaload, 1)) (A : Ary Z h a .int vs) (hj : j.toInt = (i : Int)) (hv : vs[i]? = some v) (hp : pc + 1 = pc') (nxt : Run l Z n0 own code maxL ret nm R Q pc' Ls (v :: st) h k n) : Run l Z n0 own code maxL ret nm R Q pc Ls (.int j :: .ref a :: st) h k n := by
  subst hp
  obtain ⟨c0, A, r⟩ := A
  obtain ⟨hin, e0⟩ := idxIn (c := c0) hj (by rw [sizeOf r]; exact (List.getElem?_eq_some_iff.mp hv).1)
  exact Run.via (fun p e s m args below meth c T locs cells slots hC X eT => ⟨T, X, eT, fun t q => X.iaload hC.1 (by rw [eT]; exact A.1) (State.isArrayOf_alike hC.2.1.alike A.2.1) A.2.2 hin (by rw [e0]; exact getOf r hv) (g := mkF m pc Ls (.int j :: .ref a :: st)) rfl rfl (hb hC.2.2.2.1 hd) t q⟩) nxt
theorem Run.laload {a : Addr} {vs : List Value} {j : Int32} {i : Nat} {v : Value} (hd : decode code pc = .ok (.laload, 1)) (A : Ary Z h a .long vs) (hj : j.toInt = (i : Int)) (hv : vs[i]? = some v) (hp : pc + 1 = pc') (nxt : Run l Z n0 own code maxL ret nm R Q pc' Ls (v :: st) h k n) : Run l Z n0 own code maxL ret nm R Q pc Ls (.int j :: .ref a :: st) h k n := by
  subst hp
  obtain ⟨c0, A, r⟩ := A
  obtain ⟨hin, e0⟩ := idxIn (c := c0) hj (by rw [sizeOf r]; exact (List.getElem?_eq_some_iff.mp hv).1)
  exact Run.via (fun p e s m args below meth c T locs cells slots hC X eT => ⟨T, X, eT, fun t q => X.laload hC.1 (by rw [eT]; exact A.1) (State.isArrayOf_alike hC.2.1.alike A.2.1) A.2.2 hin (by rw [e0]; exact getOf r hv) (g := mkF m pc Ls (.int j :: .ref a :: st)) rfl rfl (hb hC.2.2.2.1 hd) t q⟩) nxt
theorem Run.caload {a : Addr} {vs : List Value} {j : Int32} {i : Nat} {v : Value} (hd : decode code pc = .ok (.caload, 1)) (A : Ary Z h a .char vs) (hj : j.toInt = (i : Int)) (hv : vs[i]? = some v) (hp : pc + 1 = pc') (nxt : Run l Z n0 own code maxL ret nm R Q pc' Ls (v :: st) h k n) : Run l Z n0 own code maxL ret nm R Q pc Ls (.int j :: .ref a :: st) h k n := by
  subst hp
  obtain ⟨c0, A, r⟩ := A
  obtain ⟨hin, e0⟩ := idxIn (c := c0) hj (by rw [sizeOf r]; exact (List.getElem?_eq_some_iff.mp hv).1)
  exact Run.via (fun p e s m args below meth c T locs cells slots hC X eT => ⟨T, X, eT, fun t q => X.caload hC.1 (by rw [eT]; exact A.1) (State.isArrayOf_alike hC.2.1.alike A.2.1) A.2.2 hin (by rw [e0]; exact getOf r hv) (g := mkF m pc Ls (.int j :: .ref a :: st)) rfl rfl (hb hC.2.2.2.1 hd) t q⟩) nxt
theorem Run.saload {a : Addr} {vs : List Value} {j : Int32} {i : Nat} {v : Value} (hd : decode code pc = .ok (.saload, 1)) (A : Ary Z h a .short vs) (hj : j.toInt = (i : Int)) (hv : vs[i]? = some v) (hp : pc + 1 = pc') (nxt : Run l Z n0 own code maxL ret nm R Q pc' Ls (v :: st) h k n) : Run l Z n0 own code maxL ret nm R Q pc Ls (.int j :: .ref a :: st) h k n := by
  subst hp
  obtain ⟨c0, A, r⟩ := A
  obtain ⟨hin, e0⟩ := idxIn (c := c0) hj (by rw [sizeOf r]; exact (List.getElem?_eq_some_iff.mp hv).1)
  exact Run.via (fun p e s m args below meth c T locs cells slots hC X eT => ⟨T, X, eT, fun t q => X.saload hC.1 (by rw [eT]; exact A.1) (State.isArrayOf_alike hC.2.1.alike A.2.1) A.2.2 hin (by rw [e0]; exact getOf r hv) (g := mkF m pc Ls (.int j :: .ref a :: st)) rfl rfl (hb hC.2.2.2.1 hd) t q⟩) nxt
theorem Run.baload {a : Addr} {vs : List Value} {j : Int32} {i : Nat} {v : Value} (hd : decode code pc = .ok (.baload, 1)) (A : Ary Z h a .byte vs) (hj : j.toInt = (i : Int)) (hv : vs[i]? = some v) (hp : pc + 1 = pc') (nxt : Run l Z n0 own code maxL ret nm R Q pc' Ls (v :: st) h k n) : Run l Z n0 own code maxL ret nm R Q pc Ls (.int j :: .ref a :: st) h k n := by
  subst hp
  obtain ⟨c0, A, r⟩ := A
  obtain ⟨hin, e0⟩ := idxIn (c := c0) hj (by rw [sizeOf r]; exact (List.getElem?_eq_some_iff.mp hv).1)
  exact Run.via (fun p e s m args below meth c T locs cells slots hC X eT => ⟨T, X, eT, fun t q => X.baloadBytes hC.1 (by rw [eT]; exact A.1) (State.isArrayOf_alike hC.2.1.alike A.2.1) A.2.2 hin (by rw [e0]; exact getOf r hv) (g := mkF m pc Ls (.int j :: .ref a :: st)) rfl rfl (hb hC.2.2.2.1 hd) t q⟩) nxt
theorem Run.aaload {a : Addr} {vs : List Value} {j : Int32} {i : Nat} {v : Value} {ty : FieldType} (hd : decode code pc = .ok (.aaload, 1)) (A : Ary Z h a ty vs) (hty : ty.isReference = true) (hj : j.toInt = (i : Int)) (hv : vs[i]? = some v) (hp : pc + 1 = pc') (nxt : Run l Z n0 own code maxL ret nm R Q pc' Ls (v :: st) h k n) : Run l Z n0 own code maxL ret nm R Q pc Ls (.int j :: .ref a :: st) h k n := by
  subst hp
  obtain ⟨c0, A, r⟩ := A
  obtain ⟨hin, e0⟩ := idxIn (c := c0) hj (by rw [sizeOf r]; exact (List.getElem?_eq_some_iff.mp hv).1)
  exact Run.via (fun p e s m args below meth c T locs cells slots hC X eT => ⟨T, X, eT, fun t q => X.aaload hC.1 (by rw [eT]; exact A.1) (State.isArrayOf_alike hC.2.1.alike A.2.1) hty A.2.2 hin (by rw [e0]; exact getOf r hv) (g := mkF m pc Ls (.int j :: .ref a :: st)) rfl rfl (hb hC.2.2.2.1 hd) t q⟩) nxt
theorem Run.iastore {a : Addr} {vs : List Value} {j : Int32} {i : Nat} {x : Int32} (hd : decode code pc = .ok (.iastore, 1)) (A : Ary Z h a .int vs) (hj : j.toInt = (i : Int)) (hi : i < vs.length) (ha : n0 ≤ a) (hp : pc + 1 = pc') (nxt : ∀ h', Wr h h' a i (.int x) → Ary Z h' a .int (vs.set i (.int x)) → Run l Z n0 own code maxL ret nm R Q pc' Ls st h' k n) : Run l Z n0 own code maxL ret nm R Q pc Ls (.int x :: .int j :: .ref a :: st) h k n := by
  subst hp
  have A' := A
  obtain ⟨c0, A, r⟩ := A
  obtain ⟨hin, e0⟩ := idxIn (c := c0) hj (by rw [sizeOf r]; exact hi)
  refine Run.wr (fun p e s m args below meth c T locs cells slots hC X eT => ?_) ha (fun h' W => nxt h' W (A'.set W))
  have q := stI X hC.1 hC.2.1 eT A hin (g := mkF m pc Ls (.int x :: .int j :: .ref a :: st)) rfl rfl (hb hC.2.2.2.1 hd)
  rw [e0] at q
  exact q
theorem Run.lastore {a : Addr} {vs : List Value} {j : Int32} {i : Nat} {x : Int64} (hd : decode code pc = .ok (.lastore, 1)) (A : Ary Z h a .long vs) (hj : j.toInt = (i : Int)) (hi : i < vs.length) (ha : n0 ≤ a) (hp : pc + 1 = pc') (nxt : ∀ h', Wr h h' a i (.long x) → Ary Z h' a .long (vs.set i (.long x)) → Run l Z n0 own code maxL ret nm R Q pc' Ls st h' k n) : Run l Z n0 own code maxL ret nm R Q pc Ls (.long x :: .int j :: .ref a :: st) h k n := by
  subst hp
  have A' := A
  obtain ⟨c0, A, r⟩ := A
  obtain ⟨hin, e0⟩ := idxIn (c := c0) hj (by rw [sizeOf r]; exact hi)
  refine Run.wr (fun p e s m args below meth c T locs cells slots hC X eT => ?_) ha (fun h' W => nxt h' W (A'.set W))
  have q := stJ X hC.1 hC.2.1 eT A hin (g := mkF m pc Ls (.long x :: .int j :: .ref a :: st)) rfl rfl (hb hC.2.2.2.1 hd)
  rw [e0] at q
  exact q
theorem Run.castore {a : Addr} {vs : List Value} {j : Int32} {i : Nat} {x : Int32} (hd : decode code pc = .ok (.castore, 1)) (A : Ary Z h a .char vs) (hj : j.toInt = (i : Int)) (hi : i < vs.length) (ha : n0 ≤ a) (hp : pc + 1 = pc') (nxt : ∀ h', Wr h h' a i (.int (nar .char x)) → Ary Z h' a .char (vs.set i (.int (nar .char x))) → Run l Z n0 own code maxL ret nm R Q pc' Ls st h' k n) : Run l Z n0 own code maxL ret nm R Q pc Ls (.int x :: .int j :: .ref a :: st) h k n := by
  subst hp
  have A' := A
  obtain ⟨c0, A, r⟩ := A
  obtain ⟨hin, e0⟩ := idxIn (c := c0) hj (by rw [sizeOf r]; exact hi)
  refine Run.wr (fun p e s m args below meth c T locs cells slots hC X eT => ?_) ha (fun h' W => nxt h' W (A'.set W))
  have q := stC X hC.1 hC.2.1 eT A hin (g := mkF m pc Ls (.int x :: .int j :: .ref a :: st)) rfl rfl (hb hC.2.2.2.1 hd)
  rw [e0] at q
  exact q
theorem Run.sastore {a : Addr} {vs : List Value} {j : Int32} {i : Nat} {x : Int32} (hd : decode code pc = .ok (.sastore, 1)) (A : Ary Z h a .short vs) (hj : j.toInt = (i : Int)) (hi : i < vs.length) (ha : n0 ≤ a) (hp : pc + 1 = pc') (nxt : ∀ h', Wr h h' a i (.int (nar .short x)) → Ary Z h' a .short (vs.set i (.int (nar .short x))) → Run l Z n0 own code maxL ret nm R Q pc' Ls st h' k n) : Run l Z n0 own code maxL ret nm R Q pc Ls (.int x :: .int j :: .ref a :: st) h k n := by
  subst hp
  have A' := A
  obtain ⟨c0, A, r⟩ := A
  obtain ⟨hin, e0⟩ := idxIn (c := c0) hj (by rw [sizeOf r]; exact hi)
  refine Run.wr (fun p e s m args below meth c T locs cells slots hC X eT => ?_) ha (fun h' W => nxt h' W (A'.set W))
  have q := stS X hC.1 hC.2.1 eT A hin (g := mkF m pc Ls (.int x :: .int j :: .ref a :: st)) rfl rfl (hb hC.2.2.2.1 hd)
  rw [e0] at q
  exact q
theorem Run.bastore {a : Addr} {vs : List Value} {j : Int32} {i : Nat} {x : Int32} (hd : decode code pc = .ok (.bastore, 1)) (A : Ary Z h a .byte vs) (hj : j.toInt = (i : Int)) (hi : i < vs.length) (ha : n0 ≤ a) (hp : pc + 1 = pc') (nxt : ∀ h', Wr h h' a i (.int (nar .byte x)) → Ary Z h' a .byte (vs.set i (.int (nar .byte x))) → Run l Z n0 own code maxL ret nm R Q pc' Ls st h' k n) : Run l Z n0 own code maxL ret nm R Q pc Ls (.int x :: .int j :: .ref a :: st) h k n := by
  subst hp
  have A' := A
  obtain ⟨c0, A, r⟩ := A
  obtain ⟨hin, e0⟩ := idxIn (c := c0) hj (by rw [sizeOf r]; exact hi)
  refine Run.wr (fun p e s m args below meth c T locs cells slots hC X eT => ?_) ha (fun h' W => nxt h' W (A'.set W))
  have q := stB X hC.1 hC.2.1 eT A hin (g := mkF m pc Ls (.int x :: .int j :: .ref a :: st)) rfl rfl (hb hC.2.2.2.1 hd)
  rw [e0] at q
  exact q
theorem Run.newP {a0 : Array Value} {aty : ArrayType} {ty : FieldType} {z : Int32} {cap : Nat} {dv : Value} (hd : decode code pc = .ok (.newarray aty, 2)) (hty : newarray.typeOf aty = ty) (w : (Cond.arrayClass ty).before a0 Z = true) (hz : ¬ z < 0) (hcap : z.toNatClampNeg = cap) (hdv : defaultValue ty = dv) (hcb : cap * 8 ≤ 536870912)
    (hk : k + 1 ≤ k') (hk' : k' ≤ R.cells) (hn : n + cap ≤ n') (hn' : n' ≤ R.slots) (hp : pc + 2 = pc')
    (nxt : ∀ h' a, a = h.size → Ext h h' → Ary Z h' a ty (List.replicate cap dv) → Run l Z n0 own code maxL ret nm R Q pc' Ls (.ref a :: st) h' k' n') : Run l Z n0 own code maxL ret nm R Q pc Ls (.int z :: st) h k n := by
  subst hp hty hdv
  intro p e s m args below meth c T locs cells slots hC X eT hF hkk hnn
  obtain ⟨T', h', cA, X', e', E, A, stp⟩ := newP X hC.1 hC.2.1 w eT (g := mkF m pc Ls (.int z :: st)) rfl (hb hC.2.2.2.1 hd) rfl hz (Nat.le_of_eq hcap) hcb (by omega) (by omega)
  obtain ⟨s₂, v, L, g1, g2⟩ := nxt h' h.size rfl E ⟨_, A, by simp [newA, hcap]⟩ p e s m args below meth c T' locs _ _ hC X' e' hF (by omega) (by omega)
  exact ⟨s₂, v, L, stp _ g1, g2⟩
end Walk
end Jvm.GoKit
namespace Jvm.Pilot.@@N@@
open Jvm Jvm.ClassFile Sem Op Lib Jvm.Free Jvm.Stand Jvm.LawKit Jvm.RoadKit Jvm.GoKit Bundle Jvm.Pilot.@@N@@.Jvm.D
theorem d1_0 : decode jdk_33_method_22_code 0 = .ok (.iload_n 0, 1) := by decide +kernel
theorem d1_1 : decode jdk_33_method_22_code 1 = .ok (.bipush (-128), 2) := by decide +kernel
theorem d1_3 : decode jdk_33_method_22_code 3 = .ok (.if_icmp .lt 20, 3) := by decide +kernel
theorem d1_6 : decode jdk_33_method_22_code 6 = .ok (.iload_n 0, 1) := by decide +kernel
theorem d1_7 : decode jdk_33_method_22_code 7 = .ok (.getstatic 191, 3) := by decide +kernel
theorem d1_10 : decode jdk_33_method_22_code 10 = .ok (.if_icmp .gt 13, 3) := by decide +kernel
theorem d1_13 : decode jdk_33_method_22_code 13 = .ok (.getstatic 195, 3) := by decide +kernel
theorem d1_16 : decode jdk_33_method_22_code 16 = .ok (.iload_n 0, 1) := by decide +kernel
theorem d1_17 : decode jdk_33_method_22_code 17 = .ok (.sipush 128, 3) := by decide +kernel
theorem d1_20 : decode jdk_33_method_22_code 20 = .ok (.iadd, 1) := by decide +kernel
theorem d1_21 : decode jdk_33_method_22_code 21 = .ok (.aaload, 1) := by decide +kernel
theorem d1_22 : decode jdk_33_method_22_code 22 = .ok (.areturn, 1) := by decide +kernel
theorem pn_1 : plainFor (⟨"java/lang/Integer", "valueOf", "(I)Ljava/lang/Integer;"⟩ : MethodName) = true := plainFor_of_name (by first | (simp [plainName, overriddenIn]; done) | decide +kernel)
theorem d2_0 : decode prog_72_method_1_code 0 = .ok (.aload_n 0, 1) := by decide +kernel
theorem d2_1 : decode prog_72_method_1_code 1 = .ok (.invokespecial 1, 3) := by decide +kernel
theorem d2_4 : decode prog_72_method_1_code 4 = .ok (.iload_n 1, 1) := by decide +kernel
theorem d2_5 : decode prog_72_method_1_code 5 = .ok (.ifCond .lt 9, 3) := by decide +kernel
theorem d2_8 : decode prog_72_method_1_code 8 = .ok (.iload_n 1, 1) := by decide +kernel
theorem d2_9 : decode prog_72_method_1_code 9 = .ok (.bipush 100, 2) := by decide +kernel
theorem d2_11 : decode prog_72_method_1_code 11 = .ok (.if_icmp .le 17, 3) := by decide +kernel
theorem d2_28 : decode prog_72_method_1_code 28 = .ok (.aload_n 0, 1) := by decide +kernel
theorem d2_29 : decode prog_72_method_1_code 29 = .ok (.iload_n 1, 1) := by decide +kernel
theorem d2_30 : decode prog_72_method_1_code 30 = .ok (.putfield 18, 3) := by decide +kernel
theorem d2_33 : decode prog_72_method_1_code 33 = .ok (.return_, 1) := by decide +kernel
theorem pn_2 : plainFor (⟨"com/example/mayes/mayes/Rating", "<init>", "(I)V"⟩ : MethodName) = true := plainFor_of_name (by first | (simp [plainName, overriddenIn]; done) | decide +kernel)
theorem d4_0 : decode prog_72_method_4_code 0 = .ok (.aload_n 1, 1) := by decide +kernel
theorem d4_1 : decode prog_72_method_4_code 1 = .ok (.instanceof 7, 3) := by decide +kernel
theorem d4_4 : decode prog_72_method_4_code 4 = .ok (.ifCond .eq 23, 3) := by decide +kernel
theorem d4_7 : decode prog_72_method_4_code 7 = .ok (.aload_n 1, 1) := by decide +kernel
theorem d4_8 : decode prog_72_method_4_code 8 = .ok (.checkcast 7, 3) := by decide +kernel
theorem d4_11 : decode prog_72_method_4_code 11 = .ok (.astore_n 2, 1) := by decide +kernel
theorem d4_12 : decode prog_72_method_4_code 12 = .ok (.aload_n 0, 1) := by decide +kernel
theorem d4_13 : decode prog_72_method_4_code 13 = .ok (.getfield 18, 3) := by decide +kernel
theorem d4_16 : decode prog_72_method_4_code 16 = .ok (.aload_n 2, 1) := by decide +kernel
theorem d4_17 : decode prog_72_method_4_code 17 = .ok (.getfield 18, 3) := by decide +kernel
theorem d4_20 : decode prog_72_method_4_code 20 = .ok (.if_icmp .ne 7, 3) := by decide +kernel
theorem d4_23 : decode prog_72_method_4_code 23 = .ok (.iconst 1, 1) := by decide +kernel
theorem d4_24 : decode prog_72_method_4_code 24 = .ok (.goto 4, 3) := by decide +kernel
theorem d4_27 : decode prog_72_method_4_code 27 = .ok (.iconst 0, 1) := by decide +kernel
theorem d4_28 : decode prog_72_method_4_code 28 = .ok (.ireturn, 1) := by decide +kernel
theorem pn_4 : plainFor (⟨"com/example/mayes/mayes/Rating", "equals", "(Ljava/lang/Object;)Z"⟩ : MethodName) = true := plainFor_of_name (by first | (simp [plainName, overriddenIn]; done) | decide +kernel)
theorem pd__I_Ljava_lang_Integer_ : parseMethodDescriptor "(I)Ljava/lang/Integer;" = some ⟨[.int], some (.object "java/lang/Integer")⟩ := by decide +kernel
theorem pd__I_V : parseMethodDescriptor "(I)V" = some ⟨[.int], none⟩ := by decide +kernel
theorem pd__Ljava_lang_Object__Z : parseMethodDescriptor "(Ljava/lang/Object;)Z" = some ⟨[(.object "java/lang/Object")], some .boolean⟩ := by decide +kernel
theorem own_rng (x : Int32) : 0 ≤ ((x &&& (2147483647 : Int32)) % (101 : Int32)).toInt ∧ ((x &&& (2147483647 : Int32)) % (101 : Int32)).toInt ≤ 100 := by
  have h1 := c_mask x 2147483647 31 (by decide) (by decide)
  have h2 := (c_irem (x &&& 2147483647) 101 101 rfl).1 (by rw [h1]; omega)
  omega
theorem own_up {a : Int32} (ha : 0 ≤ a.toInt ∧ a.toInt ≤ 100) (h : a < (100 : Int32)) : 0 ≤ (a + (1 : Int32)).toInt ∧ (a + (1 : Int32)).toInt ≤ 100 := by
  rw [Int32.lt_iff_toInt_lt] at h
  have h3 := c_iadd a 1; have h4 := rng32 (a + 1); have h5 : (1 : Int32).toInt = 1 := rfl; have h6 : (100 : Int32).toInt = 100 := rfl
  omega
theorem own_dn {a : Int32} (ha : 0 ≤ a.toInt ∧ a.toInt ≤ 100) (h : ¬ a < (100 : Int32)) : 0 ≤ (a - (1 : Int32)).toInt ∧ (a - (1 : Int32)).toInt ≤ 100 := by
  rw [Int32.lt_iff_toInt_lt] at h
  have h3 := c_isub a 1; have h4 := rng32 (a - 1); have h5 : (1 : Int32).toInt = 1 := rfl; have h6 : (100 : Int32).toInt = 100 := rfl
  omega
theorem own_0 {a : Int32} (ha : 0 ≤ a.toInt ∧ a.toInt ≤ 100) : ¬ a < (0 : Int32) := by rw [Int32.lt_iff_toInt_lt]; have h5 : (0 : Int32).toInt = 0 := rfl; omega
theorem own_100 {a : Int32} (ha : 0 ≤ a.toInt ∧ a.toInt ≤ 100) : ¬ (100 : Int32) < a := by rw [Int32.lt_iff_toInt_lt]; have h5 : (100 : Int32).toInt = 100 := rfl; omega
theorem own_lo {a : Int32} (ha : 0 ≤ a.toInt ∧ a.toInt ≤ 100) : ¬ a < (-128 : Int32) := by rw [Int32.lt_iff_toInt_lt]; have h5 : (-128 : Int32).toInt = -128 := rfl; omega
theorem own_hi {a : Int32} (ha : 0 ≤ a.toInt ∧ a.toInt ≤ 100) : ¬ (127 : Int32) < a := by rw [Int32.lt_iff_toInt_lt]; have h5 : (127 : Int32).toInt = 127 := rfl; omega
theorem own_ix {a : Int32} (ha : 0 ≤ a.toInt ∧ a.toInt ≤ 100) : (a + (128 : Int32)).toInt = (((a.toInt + 128).toNat : Nat) : Int) := by
  have h3 := c_iadd a 128; have h4 := rng32 (a + 128); have h5 : (128 : Int32).toInt = 128 := rfl
  omega
theorem ef_con1 (m : MethodId) (p1 : Int32) (ac : Addr) (bx : Addr) (vs : List Value) (ix : Nat) : entryFrame m #[(.int p1)] 1 = mkF m 0 #[.val (.int p1)] [] := by first | (simp [entryFrame, mkF, argsToLocals, Value.category]; done) | rfl
set_option maxRecDepth 65536 in
set_option maxHeartbeats 40000000 in
theorem con1 (l : Launch) (Z : State) (a0 : Array Value) (hw : ∀ d ∈ tables_1, d.before a0 Z = true) (n0 : Nat) (h0 : Heap) (Z0 : n0 ≤ h0.size) (p1 : Int32) (ac : Addr) (bx : Addr) (vs : List Value) (ix : Nat) (SH : Sta Z h0 "java/lang/Integer$IntegerCache" "high" "I" (.int (127 : Int32))) (SC : Sta Z h0 "java/lang/Integer$IntegerCache" "cache" "[Ljava/lang/Integer;" (.ref ac)) (AC : Ary Z h0 ac (.object "java/lang/Integer") vs) (hlo : ¬ p1 < (-128 : Int32)) (hhi : ¬ (127 : Int32) < p1) (hix : (p1 + (128 : Int32)).toInt = (ix : Int)) (hat : vs[ix]? = some (.ref bx)) :
    Con l Z n0 (⟨"java/lang/Integer", "valueOf", "(I)Ljava/lang/Integer;"⟩ : MethodName) jdk_33_method_22_code 1 (some (.object "java/lang/Integer")) ({ frames := 0, cells := 0, slots := 0, locals := 0 } : Room) #[(.int p1)] h0 (Val (PV (.ref bx) h0)) := by
  refine Con.of_run pn_1 (fun m => ef_con1 m p1 ac bx vs ix) ?_
  refine Run.iloadN d1_0 rfl (pc' := 1) rfl ?_
  refine Run.bipush (-128 : Int32) d1_1 (by decide) (pc' := 3) rfl ?_
  refine Run.icmp_lt d1_3 (by decide) (pc' := 23) (by decide) (pa := 6) rfl (fun hc3 => ?_) (fun hc3 => ?_)
  · -- pc 3 taken: p1 < (-128 : Int32)
    exact absurd hc3 hlo
  · -- pc 3 not taken: ¬ p1 < (-128 : Int32)
    refine Run.iloadN d1_6 rfl (pc' := 7) rfl ?_
    refine Run.getS d1_7 (host := "") (Or.inl (hw _ (List.mem_of_getElem? (i := 5) rfl))) Via.refl SH (pc' := 10) rfl ?_
    refine Run.icmp_gt d1_10 (by decide) (pc' := 23) (by decide) (pa := 13) rfl (fun hc10 => ?_) (fun hc10 => ?_)
    · -- pc 10 taken: (127 : Int32) < p1
      exact absurd hc10 hhi
    · -- pc 10 not taken: ¬ (127 : Int32) < p1
      refine Run.getS d1_13 (host := "") (Or.inl (hw _ (List.mem_of_getElem? (i := 7) rfl))) Via.refl SC (pc' := 16) rfl ?_
      refine Run.iloadN d1_16 rfl (pc' := 17) rfl ?_
      refine Run.sipush (128 : Int32) d1_17 (by decide) (pc' := 20) rfl ?_
      refine Run.iadd d1_20 (pc' := 21) rfl ?_
      refine Run.aaload (i := ix) (v := (.ref bx)) d1_21 AC rfl hix hat (pc' := 22) rfl ?_
      exact Run.areturn d1_22 (ty := (.object "java/lang/Integer")) rfl rfl rfl (by decide) (by decide) ⟨_, rfl, rfl, rfl⟩
theorem ef_con2 (m : MethodId) (a1 : Addr) (p2 : Int32) : entryFrame m #[(.ref a1), (.int p2)] 2 = mkF m 0 #[.val (.ref a1), .val (.int p2)] [] := by first | (simp [entryFrame, mkF, argsToLocals, Value.category]; done) | rfl
set_option maxRecDepth 65536 in
set_option maxHeartbeats 40000000 in
theorem con2 (l : Launch) (Z : State) (a0 : Array Value) (hw : ∀ d ∈ tables_1, d.before a0 Z = true) (n0 : Nat) (h0 : Heap) (Z0 : n0 ≤ h0.size) (a1 : Addr) (p2 : Int32) (E1 : Exa Z h0 a1 "com/example/mayes/mayes/Rating") (F1 : Fld Z h0 a1 "com/example/mayes/mayes/Rating" "rating" "I" (.int (0 : Int32))) (g1 : n0 ≤ a1) (hlo : ¬ p2 < (0 : Int32)) (hhi : ¬ (100 : Int32) < p2) :
    Con l Z n0 (⟨"com/example/mayes/mayes/Rating", "<init>", "(I)V"⟩ : MethodName) prog_72_method_1_code 2 none ({ frames := 1, cells := 0, slots := 0, locals := 12 } : Room) #[(.ref a1), (.int p2)] h0 (Vd fun h' => Keep h0 h' [a1] ∧ Fld Z h' a1 "com/example/mayes/mayes/Rating" "rating" "I" (.int p2)) := by
  refine Con.of_run pn_2 (fun m => ef_con2 m a1 p2) ?_
  refine Run.aloadN d2_0 rfl rfl (pc' := 1) rfl ?_
  refine Run.initO d2_1 (hw _ (List.mem_of_getElem? (i := 14) rfl)) (hw _ (List.mem_of_getElem? (i := 15) rfl)) (hw _ (List.mem_of_getElem? (i := 16) rfl)) rfl (by decide) (by show (0 : Nat) + 12 ≤ _; decide) (pc' := 4) rfl ?_
  refine Run.iloadN d2_4 rfl (pc' := 5) rfl ?_
  refine Run.if_lt d2_5 (by decide) (pc' := 14) (by decide) (pa := 8) rfl (fun hc5 => ?_) (fun hc5 => ?_)
  · -- pc 5 taken: p2 < (0 : Int32)
    exact absurd hc5 hlo
  · -- pc 5 not taken: ¬ p2 < (0 : Int32)
    refine Run.iloadN d2_8 rfl (pc' := 9) rfl ?_
    refine Run.bipush (100 : Int32) d2_9 (by decide) (pc' := 11) rfl ?_
    refine Run.icmp_le d2_11 (by decide) (pc' := 28) (by decide) (pa := 14) rfl (fun hc11 => ?_) (fun hc11 => ?_)
    · -- pc 11 taken: ¬ (100 : Int32) < p2
      refine Run.aloadN d2_28 rfl rfl (pc' := 29) rfl ?_
      refine Run.iloadN d2_29 rfl (pc' := 30) rfl ?_
      refine Run.putF d2_30 (host := "") (Or.inl (hw _ (List.mem_of_getElem? (i := 17) rfl))) Via.refl F1 E1 (Or.inr ⟨(hw _ (List.mem_of_getElem? (i := 18) rfl)), rfl, rfl⟩) (hw _ (List.mem_of_getElem? (i := 9) rfl)) (ty := .int) (by decide) rfl rfl g1 (pc' := 33) rfl ?_
      intro h11 W11
      have Fw11 := F1.same W11
      have E_a1_11 := E1.wr W11
      have sz11 : n0 ≤ h11.size := by rw [W11.size]; exact Z0
      have kp11 := Keep.wr (Keep.refl h0 [a1]) W11 (Or.inl (List.mem_of_getElem? (i := 0) rfl))
      exact Run.vreturn d2_33 rfl (by decide) (by decide) ⟨rfl, kp11, Fw11⟩
    · -- pc 11 not taken: (100 : Int32) < p2
      exact absurd hc11 hhi
theorem ef_conA (m : MethodId) (a1 : Addr) (a2 : Addr) (u : Int32) (v : Int32) : entryFrame m #[(.ref a1), (.ref a2)] 3 = mkF m 0 #[.val (.ref a1), .val (.ref a2), .unset] [] := by first | (simp [entryFrame, mkF, argsToLocals, Value.category]; done) | rfl
set_option maxRecDepth 65536 in
set_option maxHeartbeats 40000000 in
theorem conA (l : Launch) (Z : State) (a0 : Array Value) (hw : ∀ d ∈ tables_1, d.before a0 Z = true) (n0 : Nat) (h0 : Heap) (Z0 : n0 ≤ h0.size) (a1 : Addr) (a2 : Addr) (u : Int32) (v : Int32) (E2 : Exa Z h0 a2 "com/example/mayes/mayes/Rating") (F1 : Fld Z h0 a1 "com/example/mayes/mayes/Rating" "rating" "I" (.int u)) (F2 : Fld Z h0 a2 "com/example/mayes/mayes/Rating" "rating" "I" (.int v)) :
    Con l Z n0 (⟨"com/example/mayes/mayes/Rating", "equals", "(Ljava/lang/Object;)Z"⟩ : MethodName) prog_72_method_4_code 3 (some .boolean) ({ frames := 0, cells := 0, slots := 0, locals := 0 } : Room) #[(.ref a1), (.ref a2)] h0 (Val (PV (.int (if u = v then 1 else 0)) h0)) := by
  refine Con.of_run pn_4 (fun m => ef_conA m a1 a2 u v) ?_
  refine Run.aloadN d4_0 rfl rfl (pc' := 1) rfl ?_
  refine Run.instY d4_1 (hw _ (List.mem_of_getElem? (i := 24) rfl)) (Ins.self E2) (pc' := 4) rfl ?_
  refine Run.if_eq d4_4 (by decide) (pc' := 27) (by decide) (pa := 7) rfl (fun hc4 => ?_) (fun hc4 => ?_)
  · -- pc 4 taken: (1 : Int32) = (0 : Int32)
    exact absurd hc4 (by decide)
  · -- pc 4 not taken: ¬ (1 : Int32) = (0 : Int32)
    refine Run.aloadN d4_7 rfl rfl (pc' := 8) rfl ?_
    refine Run.castY d4_8 (hw _ (List.mem_of_getElem? (i := 24) rfl)) (Ins.self E2) (pc' := 11) rfl ?_
    refine Run.astoreN (l' := #[.val (.ref a1), .val (.ref a2), .val (.ref a2)]) d4_11 rfl rfl (pc' := 12) rfl ?_
    refine Run.aloadN d4_12 rfl rfl (pc' := 13) rfl ?_
    refine Run.getF d4_13 (host := "") (Or.inl (hw _ (List.mem_of_getElem? (i := 17) rfl))) Via.refl F1 (pc' := 16) rfl ?_
    refine Run.aloadN d4_16 rfl rfl (pc' := 17) rfl ?_
    refine Run.getF d4_17 (host := "") (Or.inl (hw _ (List.mem_of_getElem? (i := 17) rfl))) Via.refl F2 (pc' := 20) rfl ?_
    refine Run.icmp_ne d4_20 (by decide) (pc' := 27) (by decide) (pa := 23) rfl (fun hc20 => ?_) (fun hc20 => ?_)
    · -- pc 20 taken: ¬ u = v
      refine Run.iconst (0 : Int32) d4_27 (by decide) (pc' := 28) rfl ?_
      exact Run.nreturn d4_28 (ty := .boolean) rfl (by simp) (by decide) (by decide) ⟨_, rfl, congrArg Value.int (by simp [nar, hc20]), rfl⟩
    · -- pc 20 not taken: u = v
      refine Run.iconst (1 : Int32) d4_23 (by decide) (pc' := 24) rfl ?_
      refine Run.goto d4_24 (by decide) (pc' := 28) (by decide) ?_
      exact Run.nreturn d4_28 (ty := .boolean) rfl (by simp) (by decide) (by decide) ⟨_, rfl, congrArg Value.int (by simp [nar, hc20]), rfl⟩
theorem ef_conN (m : MethodId) (a1 : Addr) : entryFrame m #[(.ref a1), .null] 3 = mkF m 0 #[.val (.ref a1), .val .null, .unset] [] := by first | (simp [entryFrame, mkF, argsToLocals, Value.category]; done) | rfl
set_option maxRecDepth 65536 in
set_option maxHeartbeats 40000000 in
theorem conN (l : Launch) (Z : State) (a0 : Array Value) (hw : ∀ d ∈ tables_1, d.before a0 Z = true) (n0 : Nat) (h0 : Heap) (Z0 : n0 ≤ h0.size) (a1 : Addr)  :
    Con l Z n0 (⟨"com/example/mayes/mayes/Rating", "equals", "(Ljava/lang/Object;)Z"⟩ : MethodName) prog_72_method_4_code 3 (some .boolean) ({ frames := 0, cells := 0, slots := 0, locals := 0 } : Room) #[(.ref a1), .null] h0 (Val (PV (.int 0) h0)) := by
  refine Con.of_run pn_4 (fun m => ef_conN m a1) ?_
  refine Run.aloadN d4_0 rfl rfl (pc' := 1) rfl ?_
  refine Run.instNull d4_1 (pc' := 4) rfl ?_
  refine Run.if_eq d4_4 (by decide) (pc' := 27) (by decide) (pa := 7) rfl (fun hc4 => ?_) (fun hc4 => ?_)
  · -- pc 4 taken: (0 : Int32) = (0 : Int32)
    refine Run.iconst (0 : Int32) d4_27 (by decide) (pc' := 28) rfl ?_
    exact Run.nreturn d4_28 (ty := .boolean) rfl (by simp) (by decide) (by decide) ⟨_, rfl, rfl, rfl⟩
  · -- pc 4 not taken: ¬ (0 : Int32) = (0 : Int32)
    exact absurd hc4 (by decide)
theorem ef_conI (m : MethodId) (a1 : Addr) (a2 : Addr) : entryFrame m #[(.ref a1), (.ref a2)] 3 = mkF m 0 #[.val (.ref a1), .val (.ref a2), .unset] [] := by first | (simp [entryFrame, mkF, argsToLocals, Value.category]; done) | rfl
set_option maxRecDepth 65536 in
set_option maxHeartbeats 40000000 in
theorem conI (l : Launch) (Z : State) (a0 : Array Value) (hw : ∀ d ∈ tables_1, d.before a0 Z = true) (n0 : Nat) (h0 : Heap) (Z0 : n0 ≤ h0.size) (a1 : Addr) (a2 : Addr) (E2 : Exa Z h0 a2 "java/lang/Integer") :
    Con l Z n0 (⟨"com/example/mayes/mayes/Rating", "equals", "(Ljava/lang/Object;)Z"⟩ : MethodName) prog_72_method_4_code 3 (some .boolean) ({ frames := 0, cells := 0, slots := 0, locals := 0 } : Room) #[(.ref a1), (.ref a2)] h0 (Val (PV (.int 0) h0)) := by
  refine Con.of_run pn_4 (fun m => ef_conI m a1 a2) ?_
  refine Run.aloadN d4_0 rfl rfl (pc' := 1) rfl ?_
  refine Run.instNo d4_1 (hw _ (List.mem_of_getElem? (i := 24) rfl)) E2 (ns_no (hw _ (List.mem_of_getElem? (i := 26) rfl)) (hw _ (List.mem_of_getElem? (i := 9) rfl)) (NS.step (hw _ (List.mem_of_getElem? (i := 26) rfl)) (NS.step (hw _ (List.mem_of_getElem? (i := 27) rfl)) (ns_root (hw _ (List.mem_of_getElem? (i := 28) rfl)) (hw _ (List.mem_of_getElem? (i := 9) rfl)) (by decide)) (by decide)) (by decide)) (by decide)) (pc' := 4) rfl ?_
  refine Run.if_eq d4_4 (by decide) (pc' := 27) (by decide) (pa := 7) rfl (fun hc4 => ?_) (fun hc4 => ?_)
  · -- pc 4 taken: (0 : Int32) = (0 : Int32)
    refine Run.iconst (0 : Int32) d4_27 (by decide) (pc' := 28) rfl ?_
    exact Run.nreturn d4_28 (ty := .boolean) rfl (by simp) (by decide) (by decide) ⟨_, rfl, rfl, rfl⟩
  · -- pc 4 not taken: ¬ (0 : Int32) = (0 : Int32)
    exact absurd hc4 (by decide)
theorem pn_0 : plainFor x = true := plainFor_of_name (by first | (simp [plainName, overriddenIn]; done) | decide +kernel)
theorem ef_con0 (m : MethodId) (p1 : Int32) (p2 : Int32) (p3 : Int32) (ac : Addr) (vs : List Value) : entryFrame m #[(.int p1), (.int p2), (.int p3)] maxLocals = mkF m 0 #[.val (.int p1), .val (.int p2), .val (.int p3), .unset, .unset, .unset, .unset, .unset, .unset, .unset, .unset, .unset] [] := by first | (simp [entryFrame, mkF, argsToLocals, Value.category, maxLocals]; done) | rfl
set_option maxRecDepth 65536 in
set_option maxHeartbeats 40000000 in
theorem con0 (l : Launch) (Z : State) (a0 : Array Value) (hw : ∀ d ∈ tables_1, d.before a0 Z = true) (n0 : Nat) (h0 : Heap) (Z0 : n0 ≤ h0.size) (p1 : Int32) (p2 : Int32) (p3 : Int32) (ac : Addr) (vs : List Value) (od0 : Old Z n0 h0) (SH : Sta Z Z.heap "java/lang/Integer$IntegerCache" "high" "I" (.int (127 : Int32))) (SC : Sta Z Z.heap "java/lang/Integer$IntegerCache" "cache" "[Ljava/lang/Integer;" (.ref ac)) (AC : Ary Z Z.heap ac (.object "java/lang/Integer") vs) (hcache : ∀ a : Int32, (0 ≤ a.toInt ∧ a.toInt ≤ 100) → ∃ bx, vs[(a.toInt + 128).toNat]? = some (.ref bx) ∧ Exa Z Z.heap bx "java/lang/Integer") :
    Con l Z n0 x code maxLocals ret room_1 #[(.int p1), (.int p2), (.int p3)] h0 (Val fun w _ => w = .int 1) := by
  refine Con.of_run pn_0 (fun m => ef_con0 m p1 p2 p3 ac vs) ?_
  refine Run.iloadN at_0 rfl (pc' := 1) rfl ?_
  refine Run.ldcI (v := (2147483647 : Int32)) at_1 (hw _ (List.mem_of_getElem? (i := 0) rfl)) (pc' := 3) rfl ?_
  refine Run.iand at_3 (pc' := 4) rfl ?_
  refine Run.bipush (101 : Int32) at_4 (by decide) (pc' := 6) rfl ?_
  refine Run.irem at_6 (by decide) (pc' := 7) rfl ?_
  refine Run.istoreN (l' := #[.val (.int p1), .val (.int p2), .val (.int p3), .val (.int ((p1 &&& (2147483647 : Int32)) % (101 : Int32))), .unset, .unset, .unset, .unset, .unset, .unset, .unset, .unset]) at_7 rfl (pc' := 8) rfl ?_
  refine Run.iloadN at_8 rfl (pc' := 9) rfl ?_
  refine Run.ldcI (v := (2147483647 : Int32)) at_9 (hw _ (List.mem_of_getElem? (i := 0) rfl)) (pc' := 11) rfl ?_
  refine Run.iand at_11 (pc' := 12) rfl ?_
  refine Run.bipush (101 : Int32) at_12 (by decide) (pc' := 14) rfl ?_
  refine Run.irem at_14 (by decide) (pc' := 15) rfl ?_
  refine Run.istore (l' := #[.val (.int p1), .val (.int p2), .val (.int p3), .val (.int ((p1 &&& (2147483647 : Int32)) % (101 : Int32))), .val (.int ((p2 &&& (2147483647 : Int32)) % (101 : Int32))), .unset, .unset, .unset, .unset, .unset, .unset, .unset]) at_15 rfl (pc' := 17) rfl ?_
  refine Run.iloadN at_17 rfl (pc' := 18) rfl ?_
  refine Run.iconst (3 : Int32) at_18 (by decide) (pc' := 19) rfl ?_
  refine Run.iand at_19 (pc' := 20) rfl ?_
  refine Run.istore (l' := #[.val (.int p1), .val (.int p2), .val (.int p3), .val (.int ((p1 &&& (2147483647 : Int32)) % (101 : Int32))), .val (.int ((p2 &&& (2147483647 : Int32)) % (101 : Int32))), .val (.int (p3 &&& (3 : Int32))), .unset, .unset, .unset, .unset, .unset, .unset]) at_20 rfl (pc' := 22) rfl ?_
  have ha := own_rng p1
  have hb := own_rng p2
  generalize ((p1 &&& (2147483647 : Int32)) % (101 : Int32)) = a at ha ⊢
  generalize ((p2 &&& (2147483647 : Int32)) % (101 : Int32)) = b at hb ⊢
  generalize (p3 &&& (3 : Int32)) = md
  have J : ∀ b' : Int32, (0 ≤ b'.toInt ∧ b'.toInt ≤ 100) → Run l Z n0 x.cls code maxLocals ret x.name room_1 (Val fun w _ => w = .int 1) 59 #[.val (.int p1), .val (.int p2), .val (.int p3), .val (.int a), .val (.int b'), .val (.int md), .unset, .unset, .unset, .unset, .unset, .unset] [] h0 0 0 := by
    intro b' hb'
    obtain ⟨bx, hbx, EX⟩ := hcache a ha
    refine Run.iloadN at_59 rfl (pc' := 60) rfl ?_
    refine Run.callS (k' := 0) (n' := 0) (as := [(.int a)]) (rest := []) (con1 l Z a0 hw n0 h0 Z0  a ac bx vs (a.toInt + 128).toNat ((SH.ext od0.2)) ((SC.ext od0.2)) ((AC.ext od0.2)) (own_lo ha) (own_hi ha) (own_ix ha) hbx) at_60 (hw _ (List.mem_of_getElem? (i := 1) rfl)) (hw _ (List.mem_of_getElem? (i := 2) rfl)) (hw _ (List.mem_of_getElem? (i := 3) rfl)) (hw _ (List.mem_of_getElem? (i := 4) rfl)) (by decide) pd__I_Ljava_lang_Integer_ rfl rfl rfl (by decide) (by show (0 : Nat) + (1 + 11) + 0 ≤ _; decide) (by decide) (by decide) (by decide) (by decide) (pc' := 63) rfl ?_
    rintro _ _ ⟨_, rfl, rfl, rfl⟩
    show Run l Z n0 x.cls code maxLocals ret x.name room_1 _ 63 #[.val (.int p1), .val (.int p2), .val (.int p3), .val (.int a), .val (.int b'), .val (.int md), .unset, .unset, .unset, .unset, .unset, .unset] [(.ref bx)] h0 0 0
    refine Run.astore (l' := #[.val (.int p1), .val (.int p2), .val (.int p3), .val (.int a), .val (.int b'), .val (.int md), .val (.ref bx), .unset, .unset, .unset, .unset, .unset]) at_63 rfl rfl (pc' := 65) rfl ?_
    refine Run.newO (k' := 1) (n' := 1) at_65 (hw _ (List.mem_of_getElem? (i := 8) rfl)) (hw _ (List.mem_of_getElem? (i := 9) rfl)) (hw _ (List.mem_of_getElem? (i := 10) rfl)) (by decide) (by decide) (by decide) (by decide) (pc' := 68) rfl ?_
    intro h11 b11 g11 E11 X11 D11
    have ge_b11 : n0 ≤ b11 := by rw [g11]; exact Z0
    have bo_b11 : h0.size ≤ b11 := by rw [g11]; exact (Keep.refl h0 []).1
    have ne_ac_b11 : ac ≠ b11 := Nat.ne_of_lt (Nat.lt_of_lt_of_le (od0.1 ▸ AC.lt) ge_b11)
    have ne_bx_b11 : bx ≠ b11 := Nat.ne_of_lt (Nat.lt_of_lt_of_le (od0.1 ▸ EX.lt) ge_b11)
    have sz11 : n0 ≤ h11.size := Nat.le_trans Z0 E11.1
    have kp11 := Keep.ext (Keep.refl h0 []) E11
    have od11 := od0.ext E11
    have F_b11_rating : Fld Z h11 b11 "com/example/mayes/mayes/Rating" "rating" "I" (.int (0 : Int32)) := D11 (Or.inr (hw _ (List.mem_of_getElem? (i := 18) rfl))) (ty := .int) (by decide)
    refine Run.dup at_68 rfl (pc' := 69) rfl ?_
    refine Run.iloadN at_69 rfl (pc' := 70) rfl ?_
    refine Run.callN (k' := 1) (n' := 1) (a := b11) (as := [(.int a)]) (rest := [(.ref b11)]) (con2 l Z a0 hw n0 h11 sz11 b11 a X11 F_b11_rating ge_b11 (own_0 ha) (own_100 ha)) rfl at_70 (hw _ (List.mem_of_getElem? (i := 11) rfl)) (hw _ (List.mem_of_getElem? (i := 12) rfl)) (hw _ (List.mem_of_getElem? (i := 10) rfl)) (hw _ (List.mem_of_getElem? (i := 13) rfl)) (by decide) pd__I_V rfl rfl rfl (by decide) (by show (1 : Nat) + (2 + 11) + 12 ≤ _; decide) (by decide) (by decide) (by decide) (by decide) (pc' := 73) rfl ?_
    rintro h12 ⟨K12, P12⟩
    show Run l Z n0 x.cls code maxLocals ret x.name room_1 _ 73 #[.val (.int p1), .val (.int p2), .val (.int p3), .val (.int a), .val (.int b'), .val (.int md), .val (.ref bx), .unset, .unset, .unset, .unset, .unset] [(.ref b11)] h12 1 1
    have E_b11_12 := X11.keep K12
    have sz12 : n0 ≤ h12.size := Nat.le_trans sz11 K12.1
    have kp12 := Keep.trans kp11 K12 (allS (Or.inr bo_b11) all0)
    have od12 := od11.keep K12 (allS ge_b11 all0)
    refine Run.astore (l' := #[.val (.int p1), .val (.int p2), .val (.int p3), .val (.int a), .val (.int b'), .val (.int md), .val (.ref bx), .val (.ref b11), .unset, .unset, .unset, .unset]) at_73 rfl rfl (pc' := 75) rfl ?_
    refine Run.newO (k' := 2) (n' := 2) at_75 (hw _ (List.mem_of_getElem? (i := 8) rfl)) (hw _ (List.mem_of_getElem? (i := 9) rfl)) (hw _ (List.mem_of_getElem? (i := 10) rfl)) (by decide) (by decide) (by decide) (by decide) (pc' := 78) rfl ?_
    intro h13 b13 g13 E13 X13 D13
    have ge_b13 : n0 ≤ b13 := by rw [g13]; exact sz12
    have bo_b13 : h0.size ≤ b13 := by rw [g13]; exact kp12.1
    have ne_b11_b13 : b11 ≠ b13 := by rw [g13]; exact Nat.ne_of_lt E_b11_12.lt
    have ne_ac_b13 : ac ≠ b13 := Nat.ne_of_lt (Nat.lt_of_lt_of_le (od12.1 ▸ AC.lt) ge_b13)
    have ne_bx_b13 : bx ≠ b13 := Nat.ne_of_lt (Nat.lt_of_lt_of_le (od12.1 ▸ EX.lt) ge_b13)
    have E_b11_13 := E_b11_12.ext E13
    have F_b11_rating_13 := P12.ext E13
    have sz13 : n0 ≤ h13.size := Nat.le_trans sz12 E13.1
    have kp13 := Keep.ext kp12 E13
    have od13 := od12.ext E13
    have F_b13_rating : Fld Z h13 b13 "com/example/mayes/mayes/Rating" "rating" "I" (.int (0 : Int32)) := D13 (Or.inr (hw _ (List.mem_of_getElem? (i := 18) rfl))) (ty := .int) (by decide)
    refine Run.dup at_78 rfl (pc' := 79) rfl ?_
    refine Run.iload at_79 rfl (pc' := 81) rfl ?_
    refine Run.callN (k' := 2) (n' := 2) (a := b13) (as := [(.int b')]) (rest := [(.ref b13)]) (con2 l Z a0 hw n0 h13 sz13 b13 b' X13 F_b13_rating ge_b13 (own_0 hb') (own_100 hb')) rfl at_81 (hw _ (List.mem_of_getElem? (i := 11) rfl)) (hw _ (List.mem_of_getElem? (i := 12) rfl)) (hw _ (List.mem_of_getElem? (i := 10) rfl)) (hw _ (List.mem_of_getElem? (i := 13) rfl)) (by decide) pd__I_V rfl rfl rfl (by decide) (by show (1 : Nat) + (2 + 11) + 12 ≤ _; decide) (by decide) (by decide) (by decide) (by decide) (pc' := 84) rfl ?_
    rintro h14 ⟨K14, P14⟩
    show Run l Z n0 x.cls code maxLocals ret x.name room_1 _ 84 #[.val (.int p1), .val (.int p2), .val (.int p3), .val (.int a), .val (.int b'), .val (.int md), .val (.ref bx), .val (.ref b11), .unset, .unset, .unset, .unset] [(.ref b13)] h14 2 2
    have E_b11_14 := E_b11_13.keep K14
    have F_b11_rating_14 := F_b11_rating_13.keep K14 (ninS ne_b11_b13 nin0)
    have E_b13_14 := X13.keep K14
    have sz14 : n0 ≤ h14.size := Nat.le_trans sz13 K14.1
    have kp14 := Keep.trans kp13 K14 (allS (Or.inr bo_b13) all0)
    have od14 := od13.keep K14 (allS ge_b13 all0)
    refine Run.astore (l' := #[.val (.int p1), .val (.int p2), .val (.int p3), .val (.int a), .val (.int b'), .val (.int md), .val (.ref bx), .val (.ref b11), .val (.ref b13), .unset, .unset, .unset]) at_84 rfl rfl (pc' := 86) rfl ?_
    refine Run.newO (k' := 3) (n' := 3) at_86 (hw _ (List.mem_of_getElem? (i := 8) rfl)) (hw _ (List.mem_of_getElem? (i := 9) rfl)) (hw _ (List.mem_of_getElem? (i := 10) rfl)) (by decide) (by decide) (by decide) (by decide) (pc' := 89) rfl ?_
    intro h15 b15 g15 E15 X15 D15
    have ge_b15 : n0 ≤ b15 := by rw [g15]; exact sz14
    have bo_b15 : h0.size ≤ b15 := by rw [g15]; exact kp14.1
    have ne_b11_b15 : b11 ≠ b15 := by rw [g15]; exact Nat.ne_of_lt E_b11_14.lt
    have ne_b13_b15 : b13 ≠ b15 := by rw [g15]; exact Nat.ne_of_lt E_b13_14.lt
    have ne_ac_b15 : ac ≠ b15 := Nat.ne_of_lt (Nat.lt_of_lt_of_le (od14.1 ▸ AC.lt) ge_b15)
    have ne_bx_b15 : bx ≠ b15 := Nat.ne_of_lt (Nat.lt_of_lt_of_le (od14.1 ▸ EX.lt) ge_b15)
    have E_b11_15 := E_b11_14.ext E15
    have F_b11_rating_15 := F_b11_rating_14.ext E15
    have E_b13_15 := E_b13_14.ext E15
    have F_b13_rating_15 := P14.ext E15
    have sz15 : n0 ≤ h15.size := Nat.le_trans sz14 E15.1
    have kp15 := Keep.ext kp14 E15
    have od15 := od14.ext E15
    have F_b15_rating : Fld Z h15 b15 "com/example/mayes/mayes/Rating" "rating" "I" (.int (0 : Int32)) := D15 (Or.inr (hw _ (List.mem_of_getElem? (i := 18) rfl))) (ty := .int) (by decide)
    refine Run.dup at_89 rfl (pc' := 90) rfl ?_
    refine Run.iloadN at_90 rfl (pc' := 91) rfl ?_
    refine Run.callN (k' := 3) (n' := 3) (a := b15) (as := [(.int a)]) (rest := [(.ref b15)]) (con2 l Z a0 hw n0 h15 sz15 b15 a X15 F_b15_rating ge_b15 (own_0 ha) (own_100 ha)) rfl at_91 (hw _ (List.mem_of_getElem? (i := 11) rfl)) (hw _ (List.mem_of_getElem? (i := 12) rfl)) (hw _ (List.mem_of_getElem? (i := 10) rfl)) (hw _ (List.mem_of_getElem? (i := 13) rfl)) (by decide) pd__I_V rfl rfl rfl (by decide) (by show (1 : Nat) + (2 + 11) + 12 ≤ _; decide) (by decide) (by decide) (by decide) (by decide) (pc' := 94) rfl ?_
    rintro h16 ⟨K16, P16⟩
    show Run l Z n0 x.cls code maxLocals ret x.name room_1 _ 94 #[.val (.int p1), .val (.int p2), .val (.int p3), .val (.int a), .val (.int b'), .val (.int md), .val (.ref bx), .val (.ref b11), .val (.ref b13), .unset, .unset, .unset] [(.ref b15)] h16 3 3
    have E_b11_16 := E_b11_15.keep K16
    have F_b11_rating_16 := F_b11_rating_15.keep K16 (ninS ne_b11_b15 nin0)
    have E_b13_16 := E_b13_15.keep K16
    have F_b13_rating_16 := F_b13_rating_15.keep K16 (ninS ne_b13_b15 nin0)
    have E_b15_16 := X15.keep K16
    have sz16 : n0 ≤ h16.size := Nat.le_trans sz15 K16.1
    have kp16 := Keep.trans kp15 K16 (allS (Or.inr bo_b15) all0)
    have od16 := od15.keep K16 (allS ge_b15 all0)
    refine Run.astore (l' := #[.val (.int p1), .val (.int p2), .val (.int p3), .val (.int a), .val (.int b'), .val (.int md), .val (.ref bx), .val (.ref b11), .val (.ref b13), .val (.ref b15), .unset, .unset]) at_94 rfl rfl (pc' := 96) rfl ?_
    refine Run.iloadN at_96 rfl (pc' := 97) rfl ?_
    refine Run.iload at_97 rfl (pc' := 99) rfl ?_
    refine Run.icmp_ne at_99 (by decide) (pc' := 106) (by decide) (pa := 102) rfl (fun hc99 => ?_) (fun hc99 => ?_)
    · -- pc 99 taken: ¬ a = b'
      refine Run.iconst (0 : Int32) at_106 (by decide) (pc' := 107) rfl ?_
      refine Run.istore (l' := #[.val (.int p1), .val (.int p2), .val (.int p3), .val (.int a), .val (.int b'), .val (.int md), .val (.ref bx), .val (.ref b11), .val (.ref b13), .val (.ref b15), .val (.int (0 : Int32)), .unset]) at_107 rfl (pc' := 109) rfl ?_
      refine Run.aload at_109 rfl rfl (pc' := 111) rfl ?_
      refine Run.aload at_111 rfl rfl (pc' := 113) rfl ?_
      refine Run.callV (k' := 3) (n' := 3) (a := b11) (as := [(.ref b13)]) (rest := []) (conA l Z a0 hw n0 h16 sz16 b11 b13 a b' E_b13_16 F_b11_rating_16 F_b13_rating_16 ) E_b11_16 at_113 (hw _ (List.mem_of_getElem? (i := 19) rfl)) (hw _ (List.mem_of_getElem? (i := 20) rfl)) (fun s hZ => notFace_of_selects (args := #[]) (mvT hZ (hw _ (List.mem_of_getElem? (i := 22) rfl)))) (hw _ (List.mem_of_getElem? (i := 22) rfl)) (hw _ (List.mem_of_getElem? (i := 21) rfl)) (hw _ (List.mem_of_getElem? (i := 10) rfl)) (hw _ (List.mem_of_getElem? (i := 23) rfl)) (by decide) pd__Ljava_lang_Object__Z rfl rfl rfl (by decide) (by show (0 : Nat) + (3 + 11) + 0 ≤ _; decide) (by decide) (by decide) (by decide) (by decide) (pc' := 116) rfl ?_
      rintro _ _ ⟨_, rfl, rfl, rfl⟩
      show Run l Z n0 x.cls code maxLocals ret x.name room_1 _ 116 #[.val (.int p1), .val (.int p2), .val (.int p3), .val (.int a), .val (.int b'), .val (.int md), .val (.ref bx), .val (.ref b11), .val (.ref b13), .val (.ref b15), .val (.int (0 : Int32)), .unset] [(.int (if a = b' then (1 : Int32) else (0 : Int32)))] h16 3 3
      refine Run.iload at_116 rfl (pc' := 118) rfl ?_
      refine Run.icmp_ne at_118 (by decide) (pc' := 125) (by decide) (pa := 121) rfl (fun hc118 => ?_) (fun hc118 => ?_)
      · -- pc 118 taken: ¬ (if a = b' then (1 : Int32) else (0 : Int32)) = (0 : Int32)
        exact absurd hc118 (by simp [hc99])
      · -- pc 118 not taken: (if a = b' then (1 : Int32) else (0 : Int32)) = (0 : Int32)
        refine Run.iconst (1 : Int32) at_121 (by decide) (pc' := 122) rfl ?_
        refine Run.goto at_122 (by decide) (pc' := 126) (by decide) ?_
        refine Run.istore (l' := #[.val (.int p1), .val (.int p2), .val (.int p3), .val (.int a), .val (.int b'), .val (.int md), .val (.ref bx), .val (.ref b11), .val (.ref b13), .val (.ref b15), .val (.int (0 : Int32)), .val (.int (1 : Int32))]) at_126 rfl (pc' := 128) rfl ?_
        refine Run.iload at_128 rfl (pc' := 130) rfl ?_
        refine Run.if_eq at_130 (by decide) (pc' := 149) (by decide) (pa := 133) rfl (fun hc130 => ?_) (fun hc130 => ?_)
        · -- pc 130 taken: (1 : Int32) = (0 : Int32)
          exact absurd hc130 (by decide)
        · -- pc 130 not taken: ¬ (1 : Int32) = (0 : Int32)
          refine Run.aload at_133 rfl rfl (pc' := 135) rfl ?_
          refine Run.aload at_135 rfl rfl (pc' := 137) rfl ?_
          refine Run.callV (k' := 3) (n' := 3) (a := b13) (as := [(.ref b11)]) (rest := []) (conA l Z a0 hw n0 h16 sz16 b13 b11 b' a E_b11_16 F_b13_rating_16 F_b11_rating_16 ) E_b13_16 at_137 (hw _ (List.mem_of_getElem? (i := 19) rfl)) (hw _ (List.mem_of_getElem? (i := 20) rfl)) (fun s hZ => notFace_of_selects (args := #[]) (mvT hZ (hw _ (List.mem_of_getElem? (i := 22) rfl)))) (hw _ (List.mem_of_getElem? (i := 22) rfl)) (hw _ (List.mem_of_getElem? (i := 21) rfl)) (hw _ (List.mem_of_getElem? (i := 10) rfl)) (hw _ (List.mem_of_getElem? (i := 23) rfl)) (by decide) pd__Ljava_lang_Object__Z rfl rfl rfl (by decide) (by show (0 : Nat) + (3 + 11) + 0 ≤ _; decide) (by decide) (by decide) (by decide) (by decide) (pc' := 140) rfl ?_
          rintro _ _ ⟨_, rfl, rfl, rfl⟩
          show Run l Z n0 x.cls code maxLocals ret x.name room_1 _ 140 #[.val (.int p1), .val (.int p2), .val (.int p3), .val (.int a), .val (.int b'), .val (.int md), .val (.ref bx), .val (.ref b11), .val (.ref b13), .val (.ref b15), .val (.int (0 : Int32)), .val (.int (1 : Int32))] [(.int (if b' = a then (1 : Int32) else (0 : Int32)))] h16 3 3
          refine Run.iload at_140 rfl (pc' := 142) rfl ?_
          refine Run.icmp_ne at_142 (by decide) (pc' := 149) (by decide) (pa := 145) rfl (fun hc142 => ?_) (fun hc142 => ?_)
          · -- pc 142 taken: ¬ (if b' = a then (1 : Int32) else (0 : Int32)) = (0 : Int32)
            exact absurd hc142 (by simp [Ne.symm hc99])
          · -- pc 142 not taken: (if b' = a then (1 : Int32) else (0 : Int32)) = (0 : Int32)
            refine Run.iconst (1 : Int32) at_145 (by decide) (pc' := 146) rfl ?_
            refine Run.goto at_146 (by decide) (pc' := 150) (by decide) ?_
            refine Run.istore (l' := #[.val (.int p1), .val (.int p2), .val (.int p3), .val (.int a), .val (.int b'), .val (.int md), .val (.ref bx), .val (.ref b11), .val (.ref b13), .val (.ref b15), .val (.int (0 : Int32)), .val (.int (1 : Int32))]) at_150 rfl (pc' := 152) rfl ?_
            refine Run.iload at_152 rfl (pc' := 154) rfl ?_
            refine Run.if_eq at_154 (by decide) (pc' := 171) (by decide) (pa := 157) rfl (fun hc154 => ?_) (fun hc154 => ?_)
            · -- pc 154 taken: (1 : Int32) = (0 : Int32)
              exact absurd hc154 (by decide)
            · -- pc 154 not taken: ¬ (1 : Int32) = (0 : Int32)
              refine Run.aload at_157 rfl rfl (pc' := 159) rfl ?_
              refine Run.aload at_159 rfl rfl (pc' := 161) rfl ?_
              refine Run.callV (k' := 3) (n' := 3) (a := b11) (as := [(.ref b11)]) (rest := []) (conA l Z a0 hw n0 h16 sz16 b11 b11 a a E_b11_16 F_b11_rating_16 F_b11_rating_16 ) E_b11_16 at_161 (hw _ (List.mem_of_getElem? (i := 19) rfl)) (hw _ (List.mem_of_getElem? (i := 20) rfl)) (fun s hZ => notFace_of_selects (args := #[]) (mvT hZ (hw _ (List.mem_of_getElem? (i := 22) rfl)))) (hw _ (List.mem_of_getElem? (i := 22) rfl)) (hw _ (List.mem_of_getElem? (i := 21) rfl)) (hw _ (List.mem_of_getElem? (i := 10) rfl)) (hw _ (List.mem_of_getElem? (i := 23) rfl)) (by decide) pd__Ljava_lang_Object__Z rfl rfl rfl (by decide) (by show (0 : Nat) + (3 + 11) + 0 ≤ _; decide) (by decide) (by decide) (by decide) (by decide) (pc' := 164) rfl ?_
              rintro _ _ ⟨_, rfl, rfl, rfl⟩
              show Run l Z n0 x.cls code maxLocals ret x.name room_1 _ 164 #[.val (.int p1), .val (.int p2), .val (.int p3), .val (.int a), .val (.int b'), .val (.int md), .val (.ref bx), .val (.ref b11), .val (.ref b13), .val (.ref b15), .val (.int (0 : Int32)), .val (.int (1 : Int32))] [(.int (if a = a then (1 : Int32) else (0 : Int32)))] h16 3 3
              refine Run.if_eq at_164 (by decide) (pc' := 171) (by decide) (pa := 167) rfl (fun hc164 => ?_) (fun hc164 => ?_)
              · -- pc 164 taken: (if a = a then (1 : Int32) else (0 : Int32)) = (0 : Int32)
                exact absurd hc164 (by simp)
              · -- pc 164 not taken: ¬ (if a = a then (1 : Int32) else (0 : Int32)) = (0 : Int32)
                refine Run.iconst (1 : Int32) at_167 (by decide) (pc' := 168) rfl ?_
                refine Run.goto at_168 (by decide) (pc' := 172) (by decide) ?_
                refine Run.istore (l' := #[.val (.int p1), .val (.int p2), .val (.int p3), .val (.int a), .val (.int b'), .val (.int md), .val (.ref bx), .val (.ref b11), .val (.ref b13), .val (.ref b15), .val (.int (0 : Int32)), .val (.int (1 : Int32))]) at_172 rfl (pc' := 174) rfl ?_
                refine Run.iload at_174 rfl (pc' := 176) rfl ?_
                refine Run.if_eq at_176 (by decide) (pc' := 193) (by decide) (pa := 179) rfl (fun hc176 => ?_) (fun hc176 => ?_)
                · -- pc 176 taken: (1 : Int32) = (0 : Int32)
                  exact absurd hc176 (by decide)
                · -- pc 176 not taken: ¬ (1 : Int32) = (0 : Int32)
                  refine Run.aload at_179 rfl rfl (pc' := 181) rfl ?_
                  refine Run.aload at_181 rfl rfl (pc' := 183) rfl ?_
                  refine Run.callV (k' := 3) (n' := 3) (a := b11) (as := [(.ref b15)]) (rest := []) (conA l Z a0 hw n0 h16 sz16 b11 b15 a a E_b15_16 F_b11_rating_16 P16 ) E_b11_16 at_183 (hw _ (List.mem_of_getElem? (i := 19) rfl)) (hw _ (List.mem_of_getElem? (i := 20) rfl)) (fun s hZ => notFace_of_selects (args := #[]) (mvT hZ (hw _ (List.mem_of_getElem? (i := 22) rfl)))) (hw _ (List.mem_of_getElem? (i := 22) rfl)) (hw _ (List.mem_of_getElem? (i := 21) rfl)) (hw _ (List.mem_of_getElem? (i := 10) rfl)) (hw _ (List.mem_of_getElem? (i := 23) rfl)) (by decide) pd__Ljava_lang_Object__Z rfl rfl rfl (by decide) (by show (0 : Nat) + (3 + 11) + 0 ≤ _; decide) (by decide) (by decide) (by decide) (by decide) (pc' := 186) rfl ?_
                  rintro _ _ ⟨_, rfl, rfl, rfl⟩
                  show Run l Z n0 x.cls code maxLocals ret x.name room_1 _ 186 #[.val (.int p1), .val (.int p2), .val (.int p3), .val (.int a), .val (.int b'), .val (.int md), .val (.ref bx), .val (.ref b11), .val (.ref b13), .val (.ref b15), .val (.int (0 : Int32)), .val (.int (1 : Int32))] [(.int (if a = a then (1 : Int32) else (0 : Int32)))] h16 3 3
                  refine Run.if_eq at_186 (by decide) (pc' := 193) (by decide) (pa := 189) rfl (fun hc186 => ?_) (fun hc186 => ?_)
                  · -- pc 186 taken: (if a = a then (1 : Int32) else (0 : Int32)) = (0 : Int32)
                    exact absurd hc186 (by simp)
                  · -- pc 186 not taken: ¬ (if a = a then (1 : Int32) else (0 : Int32)) = (0 : Int32)
                    refine Run.iconst (1 : Int32) at_189 (by decide) (pc' := 190) rfl ?_
                    refine Run.goto at_190 (by decide) (pc' := 194) (by decide) ?_
                    refine Run.istore (l' := #[.val (.int p1), .val (.int p2), .val (.int p3), .val (.int a), .val (.int b'), .val (.int md), .val (.ref bx), .val (.ref b11), .val (.ref b13), .val (.ref b15), .val (.int (0 : Int32)), .val (.int (1 : Int32))]) at_194 rfl (pc' := 196) rfl ?_
                    refine Run.iload at_196 rfl (pc' := 198) rfl ?_
                    refine Run.if_eq at_198 (by decide) (pc' := 214) (by decide) (pa := 201) rfl (fun hc198 => ?_) (fun hc198 => ?_)
                    · -- pc 198 taken: (1 : Int32) = (0 : Int32)
                      exact absurd hc198 (by decide)
                    · -- pc 198 not taken: ¬ (1 : Int32) = (0 : Int32)
                      refine Run.aload at_201 rfl rfl (pc' := 203) rfl ?_
                      refine Run.aconst at_203 (pc' := 204) rfl ?_
                      refine Run.callV (k' := 3) (n' := 3) (a := b11) (as := [.null]) (rest := []) (conN l Z a0 hw n0 h16 sz16 b11 ) E_b11_16 at_204 (hw _ (List.mem_of_getElem? (i := 19) rfl)) (hw _ (List.mem_of_getElem? (i := 20) rfl)) (fun s hZ => notFace_of_selects (args := #[]) (mvT hZ (hw _ (List.mem_of_getElem? (i := 22) rfl)))) (hw _ (List.mem_of_getElem? (i := 22) rfl)) (hw _ (List.mem_of_getElem? (i := 21) rfl)) (hw _ (List.mem_of_getElem? (i := 10) rfl)) (hw _ (List.mem_of_getElem? (i := 23) rfl)) (by decide) pd__Ljava_lang_Object__Z rfl rfl rfl (by decide) (by show (0 : Nat) + (3 + 11) + 0 ≤ _; decide) (by decide) (by decide) (by decide) (by decide) (pc' := 207) rfl ?_
                      rintro _ _ ⟨_, rfl, rfl, rfl⟩
                      show Run l Z n0 x.cls code maxLocals ret x.name room_1 _ 207 #[.val (.int p1), .val (.int p2), .val (.int p3), .val (.int a), .val (.int b'), .val (.int md), .val (.ref bx), .val (.ref b11), .val (.ref b13), .val (.ref b15), .val (.int (0 : Int32)), .val (.int (1 : Int32))] [(.int (0 : Int32))] h16 3 3
                      refine Run.if_ne at_207 (by decide) (pc' := 214) (by decide) (pa := 210) rfl (fun hc207 => ?_) (fun hc207 => ?_)
                      · -- pc 207 taken: ¬ (0 : Int32) = (0 : Int32)
                        exact absurd hc207 (by decide)
                      · -- pc 207 not taken: (0 : Int32) = (0 : Int32)
                        refine Run.iconst (1 : Int32) at_210 (by decide) (pc' := 211) rfl ?_
                        refine Run.goto at_211 (by decide) (pc' := 215) (by decide) ?_
                        refine Run.istore (l' := #[.val (.int p1), .val (.int p2), .val (.int p3), .val (.int a), .val (.int b'), .val (.int md), .val (.ref bx), .val (.ref b11), .val (.ref b13), .val (.ref b15), .val (.int (0 : Int32)), .val (.int (1 : Int32))]) at_215 rfl (pc' := 217) rfl ?_
                        refine Run.iload at_217 rfl (pc' := 219) rfl ?_
                        refine Run.if_eq at_219 (by decide) (pc' := 236) (by decide) (pa := 222) rfl (fun hc219 => ?_) (fun hc219 => ?_)
                        · -- pc 219 taken: (1 : Int32) = (0 : Int32)
                          exact absurd hc219 (by decide)
                        · -- pc 219 not taken: ¬ (1 : Int32) = (0 : Int32)
                          refine Run.aload at_222 rfl rfl (pc' := 224) rfl ?_
                          refine Run.aload at_224 rfl rfl (pc' := 226) rfl ?_
                          refine Run.callV (k' := 3) (n' := 3) (a := b11) (as := [(.ref bx)]) (rest := []) (conI l Z a0 hw n0 h16 sz16 b11 bx (EX.ext od16.2) ) E_b11_16 at_226 (hw _ (List.mem_of_getElem? (i := 19) rfl)) (hw _ (List.mem_of_getElem? (i := 20) rfl)) (fun s hZ => notFace_of_selects (args := #[]) (mvT hZ (hw _ (List.mem_of_getElem? (i := 22) rfl)))) (hw _ (List.mem_of_getElem? (i := 22) rfl)) (hw _ (List.mem_of_getElem? (i := 21) rfl)) (hw _ (List.mem_of_getElem? (i := 10) rfl)) (hw _ (List.mem_of_getElem? (i := 23) rfl)) (by decide) pd__Ljava_lang_Object__Z rfl rfl rfl (by decide) (by show (0 : Nat) + (3 + 11) + 0 ≤ _; decide) (by decide) (by decide) (by decide) (by decide) (pc' := 229) rfl ?_
                          rintro _ _ ⟨_, rfl, rfl, rfl⟩
                          show Run l Z n0 x.cls code maxLocals ret x.name room_1 _ 229 #[.val (.int p1), .val (.int p2), .val (.int p3), .val (.int a), .val (.int b'), .val (.int md), .val (.ref bx), .val (.ref b11), .val (.ref b13), .val (.ref b15), .val (.int (0 : Int32)), .val (.int (1 : Int32))] [(.int (0 : Int32))] h16 3 3
                          refine Run.if_ne at_229 (by decide) (pc' := 236) (by decide) (pa := 232) rfl (fun hc229 => ?_) (fun hc229 => ?_)
                          · -- pc 229 taken: ¬ (0 : Int32) = (0 : Int32)
                            exact absurd hc229 (by decide)
                          · -- pc 229 not taken: (0 : Int32) = (0 : Int32)
                            refine Run.iconst (1 : Int32) at_232 (by decide) (pc' := 233) rfl ?_
                            refine Run.goto at_233 (by decide) (pc' := 237) (by decide) ?_
                            refine Run.istore (l' := #[.val (.int p1), .val (.int p2), .val (.int p3), .val (.int a), .val (.int b'), .val (.int md), .val (.ref bx), .val (.ref b11), .val (.ref b13), .val (.ref b15), .val (.int (0 : Int32)), .val (.int (1 : Int32))]) at_237 rfl (pc' := 239) rfl ?_
                            refine Run.iload at_239 rfl (pc' := 241) rfl ?_
                            exact Run.nreturn at_241 (ty := .boolean) rfl (by simp) (by decide) (by decide) ⟨_, rfl, rfl⟩
    · -- pc 99 not taken: a = b'
      refine Run.iconst (1 : Int32) at_102 (by decide) (pc' := 103) rfl ?_
      refine Run.goto at_103 (by decide) (pc' := 107) (by decide) ?_
      refine Run.istore (l' := #[.val (.int p1), .val (.int p2), .val (.int p3), .val (.int a), .val (.int b'), .val (.int md), .val (.ref bx), .val (.ref b11), .val (.ref b13), .val (.ref b15), .val (.int (1 : Int32)), .unset]) at_107 rfl (pc' := 109) rfl ?_
      refine Run.aload at_109 rfl rfl (pc' := 111) rfl ?_
      refine Run.aload at_111 rfl rfl (pc' := 113) rfl ?_
      refine Run.callV (k' := 3) (n' := 3) (a := b11) (as := [(.ref b13)]) (rest := []) (conA l Z a0 hw n0 h16 sz16 b11 b13 a b' E_b13_16 F_b11_rating_16 F_b13_rating_16 ) E_b11_16 at_113 (hw _ (List.mem_of_getElem? (i := 19) rfl)) (hw _ (List.mem_of_getElem? (i := 20) rfl)) (fun s hZ => notFace_of_selects (args := #[]) (mvT hZ (hw _ (List.mem_of_getElem? (i := 22) rfl)))) (hw _ (List.mem_of_getElem? (i := 22) rfl)) (hw _ (List.mem_of_getElem? (i := 21) rfl)) (hw _ (List.mem_of_getElem? (i := 10) rfl)) (hw _ (List.mem_of_getElem? (i := 23) rfl)) (by decide) pd__Ljava_lang_Object__Z rfl rfl rfl (by decide) (by show (0 : Nat) + (3 + 11) + 0 ≤ _; decide) (by decide) (by decide) (by decide) (by decide) (pc' := 116) rfl ?_
      rintro _ _ ⟨_, rfl, rfl, rfl⟩
      show Run l Z n0 x.cls code maxLocals ret x.name room_1 _ 116 #[.val (.int p1), .val (.int p2), .val (.int p3), .val (.int a), .val (.int b'), .val (.int md), .val (.ref bx), .val (.ref b11), .val (.ref b13), .val (.ref b15), .val (.int (1 : Int32)), .unset] [(.int (if a = b' then (1 : Int32) else (0 : Int32)))] h16 3 3
      refine Run.iload at_116 rfl (pc' := 118) rfl ?_
      refine Run.icmp_ne at_118 (by decide) (pc' := 125) (by decide) (pa := 121) rfl (fun hc118 => ?_) (fun hc118 => ?_)
      · -- pc 118 taken: ¬ (if a = b' then (1 : Int32) else (0 : Int32)) = (1 : Int32)
        exact absurd hc118 (by simp [hc99])
      · -- pc 118 not taken: (if a = b' then (1 : Int32) else (0 : Int32)) = (1 : Int32)
        refine Run.iconst (1 : Int32) at_121 (by decide) (pc' := 122) rfl ?_
        refine Run.goto at_122 (by decide) (pc' := 126) (by decide) ?_
        refine Run.istore (l' := #[.val (.int p1), .val (.int p2), .val (.int p3), .val (.int a), .val (.int b'), .val (.int md), .val (.ref bx), .val (.ref b11), .val (.ref b13), .val (.ref b15), .val (.int (1 : Int32)), .val (.int (1 : Int32))]) at_126 rfl (pc' := 128) rfl ?_
        refine Run.iload at_128 rfl (pc' := 130) rfl ?_
        refine Run.if_eq at_130 (by decide) (pc' := 149) (by decide) (pa := 133) rfl (fun hc130 => ?_) (fun hc130 => ?_)
        · -- pc 130 taken: (1 : Int32) = (0 : Int32)
          exact absurd hc130 (by decide)
        · -- pc 130 not taken: ¬ (1 : Int32) = (0 : Int32)
          refine Run.aload at_133 rfl rfl (pc' := 135) rfl ?_
          refine Run.aload at_135 rfl rfl (pc' := 137) rfl ?_
          refine Run.callV (k' := 3) (n' := 3) (a := b13) (as := [(.ref b11)]) (rest := []) (conA l Z a0 hw n0 h16 sz16 b13 b11 b' a E_b11_16 F_b13_rating_16 F_b11_rating_16 ) E_b13_16 at_137 (hw _ (List.mem_of_getElem? (i := 19) rfl)) (hw _ (List.mem_of_getElem? (i := 20) rfl)) (fun s hZ => notFace_of_selects (args := #[]) (mvT hZ (hw _ (List.mem_of_getElem? (i := 22) rfl)))) (hw _ (List.mem_of_getElem? (i := 22) rfl)) (hw _ (List.mem_of_getElem? (i := 21) rfl)) (hw _ (List.mem_of_getElem? (i := 10) rfl)) (hw _ (List.mem_of_getElem? (i := 23) rfl)) (by decide) pd__Ljava_lang_Object__Z rfl rfl rfl (by decide) (by show (0 : Nat) + (3 + 11) + 0 ≤ _; decide) (by decide) (by decide) (by decide) (by decide) (pc' := 140) rfl ?_
          rintro _ _ ⟨_, rfl, rfl, rfl⟩
          show Run l Z n0 x.cls code maxLocals ret x.name room_1 _ 140 #[.val (.int p1), .val (.int p2), .val (.int p3), .val (.int a), .val (.int b'), .val (.int md), .val (.ref bx), .val (.ref b11), .val (.ref b13), .val (.ref b15), .val (.int (1 : Int32)), .val (.int (1 : Int32))] [(.int (if b' = a then (1 : Int32) else (0 : Int32)))] h16 3 3
          refine Run.iload at_140 rfl (pc' := 142) rfl ?_
          refine Run.icmp_ne at_142 (by decide) (pc' := 149) (by decide) (pa := 145) rfl (fun hc142 => ?_) (fun hc142 => ?_)
          · -- pc 142 taken: ¬ (if b' = a then (1 : Int32) else (0 : Int32)) = (1 : Int32)
            exact absurd hc142 (by simp [hc99])
          · -- pc 142 not taken: (if b' = a then (1 : Int32) else (0 : Int32)) = (1 : Int32)
            refine Run.iconst (1 : Int32) at_145 (by decide) (pc' := 146) rfl ?_
            refine Run.goto at_146 (by decide) (pc' := 150) (by decide) ?_
            refine Run.istore (l' := #[.val (.int p1), .val (.int p2), .val (.int p3), .val (.int a), .val (.int b'), .val (.int md), .val (.ref bx), .val (.ref b11), .val (.ref b13), .val (.ref b15), .val (.int (1 : Int32)), .val (.int (1 : Int32))]) at_150 rfl (pc' := 152) rfl ?_
            refine Run.iload at_152 rfl (pc' := 154) rfl ?_
            refine Run.if_eq at_154 (by decide) (pc' := 171) (by decide) (pa := 157) rfl (fun hc154 => ?_) (fun hc154 => ?_)
            · -- pc 154 taken: (1 : Int32) = (0 : Int32)
              exact absurd hc154 (by decide)
            · -- pc 154 not taken: ¬ (1 : Int32) = (0 : Int32)
              refine Run.aload at_157 rfl rfl (pc' := 159) rfl ?_
              refine Run.aload at_159 rfl rfl (pc' := 161) rfl ?_
              refine Run.callV (k' := 3) (n' := 3) (a := b11) (as := [(.ref b11)]) (rest := []) (conA l Z a0 hw n0 h16 sz16 b11 b11 a a E_b11_16 F_b11_rating_16 F_b11_rating_16 ) E_b11_16 at_161 (hw _ (List.mem_of_getElem? (i := 19) rfl)) (hw _ (List.mem_of_getElem? (i := 20) rfl)) (fun s hZ => notFace_of_selects (args := #[]) (mvT hZ (hw _ (List.mem_of_getElem? (i := 22) rfl)))) (hw _ (List.mem_of_getElem? (i := 22) rfl)) (hw _ (List.mem_of_getElem? (i := 21) rfl)) (hw _ (List.mem_of_getElem? (i := 10) rfl)) (hw _ (List.mem_of_getElem? (i := 23) rfl)) (by decide) pd__Ljava_lang_Object__Z rfl rfl rfl (by decide) (by show (0 : Nat) + (3 + 11) + 0 ≤ _; decide) (by decide) (by decide) (by decide) (by decide) (pc' := 164) rfl ?_
              rintro _ _ ⟨_, rfl, rfl, rfl⟩
              show Run l Z n0 x.cls code maxLocals ret x.name room_1 _ 164 #[.val (.int p1), .val (.int p2), .val (.int p3), .val (.int a), .val (.int b'), .val (.int md), .val (.ref bx), .val (.ref b11), .val (.ref b13), .val (.ref b15), .val (.int (1 : Int32)), .val (.int (1 : Int32))] [(.int (if a = a then (1 : Int32) else (0 : Int32)))] h16 3 3
              refine Run.if_eq at_164 (by decide) (pc' := 171) (by decide) (pa := 167) rfl (fun hc164 => ?_) (fun hc164 => ?_)
              · -- pc 164 taken: (if a = a then (1 : Int32) else (0 : Int32)) = (0 : Int32)
                exact absurd hc164 (by simp)
              · -- pc 164 not taken: ¬ (if a = a then (1 : Int32) else (0 : Int32)) = (0 : Int32)
                refine Run.iconst (1 : Int32) at_167 (by decide) (pc' := 168) rfl ?_
                refine Run.goto at_168 (by decide) (pc' := 172) (by decide) ?_
                refine Run.istore (l' := #[.val (.int p1), .val (.int p2), .val (.int p3), .val (.int a), .val (.int b'), .val (.int md), .val (.ref bx), .val (.ref b11), .val (.ref b13), .val (.ref b15), .val (.int (1 : Int32)), .val (.int (1 : Int32))]) at_172 rfl (pc' := 174) rfl ?_
                refine Run.iload at_174 rfl (pc' := 176) rfl ?_
                refine Run.if_eq at_176 (by decide) (pc' := 193) (by decide) (pa := 179) rfl (fun hc176 => ?_) (fun hc176 => ?_)
                · -- pc 176 taken: (1 : Int32) = (0 : Int32)
                  exact absurd hc176 (by decide)
                · -- pc 176 not taken: ¬ (1 : Int32) = (0 : Int32)
                  refine Run.aload at_179 rfl rfl (pc' := 181) rfl ?_
                  refine Run.aload at_181 rfl rfl (pc' := 183) rfl ?_
                  refine Run.callV (k' := 3) (n' := 3) (a := b11) (as := [(.ref b15)]) (rest := []) (conA l Z a0 hw n0 h16 sz16 b11 b15 a a E_b15_16 F_b11_rating_16 P16 ) E_b11_16 at_183 (hw _ (List.mem_of_getElem? (i := 19) rfl)) (hw _ (List.mem_of_getElem? (i := 20) rfl)) (fun s hZ => notFace_of_selects (args := #[]) (mvT hZ (hw _ (List.mem_of_getElem? (i := 22) rfl)))) (hw _ (List.mem_of_getElem? (i := 22) rfl)) (hw _ (List.mem_of_getElem? (i := 21) rfl)) (hw _ (List.mem_of_getElem? (i := 10) rfl)) (hw _ (List.mem_of_getElem? (i := 23) rfl)) (by decide) pd__Ljava_lang_Object__Z rfl rfl rfl (by decide) (by show (0 : Nat) + (3 + 11) + 0 ≤ _; decide) (by decide) (by decide) (by decide) (by decide) (pc' := 186) rfl ?_
                  rintro _ _ ⟨_, rfl, rfl, rfl⟩
                  show Run l Z n0 x.cls code maxLocals ret x.name room_1 _ 186 #[.val (.int p1), .val (.int p2), .val (.int p3), .val (.int a), .val (.int b'), .val (.int md), .val (.ref bx), .val (.ref b11), .val (.ref b13), .val (.ref b15), .val (.int (1 : Int32)), .val (.int (1 : Int32))] [(.int (if a = a then (1 : Int32) else (0 : Int32)))] h16 3 3
                  refine Run.if_eq at_186 (by decide) (pc' := 193) (by decide) (pa := 189) rfl (fun hc186 => ?_) (fun hc186 => ?_)
                  · -- pc 186 taken: (if a = a then (1 : Int32) else (0 : Int32)) = (0 : Int32)
                    exact absurd hc186 (by simp)
                  · -- pc 186 not taken: ¬ (if a = a then (1 : Int32) else (0 : Int32)) = (0 : Int32)
                    refine Run.iconst (1 : Int32) at_189 (by decide) (pc' := 190) rfl ?_
                    refine Run.goto at_190 (by decide) (pc' := 194) (by decide) ?_
                    refine Run.istore (l' := #[.val (.int p1), .val (.int p2), .val (.int p3), .val (.int a), .val (.int b'), .val (.int md), .val (.ref bx), .val (.ref b11), .val (.ref b13), .val (.ref b15), .val (.int (1 : Int32)), .val (.int (1 : Int32))]) at_194 rfl (pc' := 196) rfl ?_
                    refine Run.iload at_196 rfl (pc' := 198) rfl ?_
                    refine Run.if_eq at_198 (by decide) (pc' := 214) (by decide) (pa := 201) rfl (fun hc198 => ?_) (fun hc198 => ?_)
                    · -- pc 198 taken: (1 : Int32) = (0 : Int32)
                      exact absurd hc198 (by decide)
                    · -- pc 198 not taken: ¬ (1 : Int32) = (0 : Int32)
                      refine Run.aload at_201 rfl rfl (pc' := 203) rfl ?_
                      refine Run.aconst at_203 (pc' := 204) rfl ?_
                      refine Run.callV (k' := 3) (n' := 3) (a := b11) (as := [.null]) (rest := []) (conN l Z a0 hw n0 h16 sz16 b11 ) E_b11_16 at_204 (hw _ (List.mem_of_getElem? (i := 19) rfl)) (hw _ (List.mem_of_getElem? (i := 20) rfl)) (fun s hZ => notFace_of_selects (args := #[]) (mvT hZ (hw _ (List.mem_of_getElem? (i := 22) rfl)))) (hw _ (List.mem_of_getElem? (i := 22) rfl)) (hw _ (List.mem_of_getElem? (i := 21) rfl)) (hw _ (List.mem_of_getElem? (i := 10) rfl)) (hw _ (List.mem_of_getElem? (i := 23) rfl)) (by decide) pd__Ljava_lang_Object__Z rfl rfl rfl (by decide) (by show (0 : Nat) + (3 + 11) + 0 ≤ _; decide) (by decide) (by decide) (by decide) (by decide) (pc' := 207) rfl ?_
                      rintro _ _ ⟨_, rfl, rfl, rfl⟩
                      show Run l Z n0 x.cls code maxLocals ret x.name room_1 _ 207 #[.val (.int p1), .val (.int p2), .val (.int p3), .val (.int a), .val (.int b'), .val (.int md), .val (.ref bx), .val (.ref b11), .val (.ref b13), .val (.ref b15), .val (.int (1 : Int32)), .val (.int (1 : Int32))] [(.int (0 : Int32))] h16 3 3
                      refine Run.if_ne at_207 (by decide) (pc' := 214) (by decide) (pa := 210) rfl (fun hc207 => ?_) (fun hc207 => ?_)
                      · -- pc 207 taken: ¬ (0 : Int32) = (0 : Int32)
                        exact absurd hc207 (by decide)
                      · -- pc 207 not taken: (0 : Int32) = (0 : Int32)
                        refine Run.iconst (1 : Int32) at_210 (by decide) (pc' := 211) rfl ?_
                        refine Run.goto at_211 (by decide) (pc' := 215) (by decide) ?_
                        refine Run.istore (l' := #[.val (.int p1), .val (.int p2), .val (.int p3), .val (.int a), .val (.int b'), .val (.int md), .val (.ref bx), .val (.ref b11), .val (.ref b13), .val (.ref b15), .val (.int (1 : Int32)), .val (.int (1 : Int32))]) at_215 rfl (pc' := 217) rfl ?_
                        refine Run.iload at_217 rfl (pc' := 219) rfl ?_
                        refine Run.if_eq at_219 (by decide) (pc' := 236) (by decide) (pa := 222) rfl (fun hc219 => ?_) (fun hc219 => ?_)
                        · -- pc 219 taken: (1 : Int32) = (0 : Int32)
                          exact absurd hc219 (by decide)
                        · -- pc 219 not taken: ¬ (1 : Int32) = (0 : Int32)
                          refine Run.aload at_222 rfl rfl (pc' := 224) rfl ?_
                          refine Run.aload at_224 rfl rfl (pc' := 226) rfl ?_
                          refine Run.callV (k' := 3) (n' := 3) (a := b11) (as := [(.ref bx)]) (rest := []) (conI l Z a0 hw n0 h16 sz16 b11 bx (EX.ext od16.2) ) E_b11_16 at_226 (hw _ (List.mem_of_getElem? (i := 19) rfl)) (hw _ (List.mem_of_getElem? (i := 20) rfl)) (fun s hZ => notFace_of_selects (args := #[]) (mvT hZ (hw _ (List.mem_of_getElem? (i := 22) rfl)))) (hw _ (List.mem_of_getElem? (i := 22) rfl)) (hw _ (List.mem_of_getElem? (i := 21) rfl)) (hw _ (List.mem_of_getElem? (i := 10) rfl)) (hw _ (List.mem_of_getElem? (i := 23) rfl)) (by decide) pd__Ljava_lang_Object__Z rfl rfl rfl (by decide) (by show (0 : Nat) + (3 + 11) + 0 ≤ _; decide) (by decide) (by decide) (by decide) (by decide) (pc' := 229) rfl ?_
                          rintro _ _ ⟨_, rfl, rfl, rfl⟩
                          show Run l Z n0 x.cls code maxLocals ret x.name room_1 _ 229 #[.val (.int p1), .val (.int p2), .val (.int p3), .val (.int a), .val (.int b'), .val (.int md), .val (.ref bx), .val (.ref b11), .val (.ref b13), .val (.ref b15), .val (.int (1 : Int32)), .val (.int (1 : Int32))] [(.int (0 : Int32))] h16 3 3
                          refine Run.if_ne at_229 (by decide) (pc' := 236) (by decide) (pa := 232) rfl (fun hc229 => ?_) (fun hc229 => ?_)
                          · -- pc 229 taken: ¬ (0 : Int32) = (0 : Int32)
                            exact absurd hc229 (by decide)
                          · -- pc 229 not taken: (0 : Int32) = (0 : Int32)
                            refine Run.iconst (1 : Int32) at_232 (by decide) (pc' := 233) rfl ?_
                            refine Run.goto at_233 (by decide) (pc' := 237) (by decide) ?_
                            refine Run.istore (l' := #[.val (.int p1), .val (.int p2), .val (.int p3), .val (.int a), .val (.int b'), .val (.int md), .val (.ref bx), .val (.ref b11), .val (.ref b13), .val (.ref b15), .val (.int (1 : Int32)), .val (.int (1 : Int32))]) at_237 rfl (pc' := 239) rfl ?_
                            refine Run.iload at_239 rfl (pc' := 241) rfl ?_
                            exact Run.nreturn at_241 (ty := .boolean) rfl (by simp) (by decide) (by decide) ⟨_, rfl, rfl⟩
  refine Run.iload at_22 rfl (pc' := 24) rfl ?_
  refine Run.iconst (1 : Int32) at_24 (by decide) (pc' := 25) rfl ?_
  refine Run.icmp_ne at_25 (by decide) (pc' := 34) (by decide) (pa := 28) rfl (fun hc25 => ?_) (fun hc25 => ?_)
  · -- pc 25 taken: ¬ md = (1 : Int32)
    refine Run.iload at_34 rfl (pc' := 36) rfl ?_
    refine Run.iconst (2 : Int32) at_36 (by decide) (pc' := 37) rfl ?_
    refine Run.icmp_ne at_37 (by decide) (pc' := 59) (by decide) (pa := 40) rfl (fun hc37 => ?_) (fun hc37 => ?_)
    · -- pc 37 taken: ¬ md = (2 : Int32)
      exact J _ (hb)
    · -- pc 37 not taken: md = (2 : Int32)
      refine Run.iloadN at_40 rfl (pc' := 41) rfl ?_
      refine Run.bipush (100 : Int32) at_41 (by decide) (pc' := 43) rfl ?_
      refine Run.icmp_ge at_43 (by decide) (pc' := 54) (by decide) (pa := 46) rfl (fun hc43 => ?_) (fun hc43 => ?_)
      · -- pc 43 taken: ¬ a < (100 : Int32)
        refine Run.iloadN at_54 rfl (pc' := 55) rfl ?_
        refine Run.iconst (1 : Int32) at_55 (by decide) (pc' := 56) rfl ?_
        refine Run.isub at_56 (pc' := 57) rfl ?_
        refine Run.istore (l' := #[.val (.int p1), .val (.int p2), .val (.int p3), .val (.int a), .val (.int (a - (1 : Int32))), .val (.int md), .unset, .unset, .unset, .unset, .unset, .unset]) at_57 rfl (pc' := 59) rfl ?_
        exact J _ (own_dn ha (by assumption))
      · -- pc 43 not taken: a < (100 : Int32)
        refine Run.iloadN at_46 rfl (pc' := 47) rfl ?_
        refine Run.iconst (1 : Int32) at_47 (by decide) (pc' := 48) rfl ?_
        refine Run.iadd at_48 (pc' := 49) rfl ?_
        refine Run.istore (l' := #[.val (.int p1), .val (.int p2), .val (.int p3), .val (.int a), .val (.int (a + (1 : Int32))), .val (.int md), .unset, .unset, .unset, .unset, .unset, .unset]) at_49 rfl (pc' := 51) rfl ?_
        refine Run.goto at_51 (by decide) (pc' := 59) (by decide) ?_
        exact J _ (own_up ha (by assumption))
  · -- pc 25 not taken: md = (1 : Int32)
    refine Run.iloadN at_28 rfl (pc' := 29) rfl ?_
    refine Run.istore (l' := #[.val (.int p1), .val (.int p2), .val (.int p3), .val (.int a), .val (.int a), .val (.int md), .unset, .unset, .unset, .unset, .unset, .unset]) at_29 rfl (pc' := 31) rfl ?_
    refine Run.goto at_31 (by decide) (pc' := 59) (by decide) ?_
    exact J _ (ha)
theorem own_len {args : Array Value} {s : State} {t : Term} {a : Addr} {cl : Cell} (ht : t.eval args s none [] s = some (.ref a)) (hc : s.arrayAt? a = some cl) (h : (Term.length t).eval args s none [] s = some (.int 256)) : cl.slots.size = 256 := by
  simp only [Term.eval, ht, hc, Option.bind_eq_bind, Option.bind_some] at h
  by_cases q : cl.slots.size < 2 ^ 31
  · simp only [q, if_true] at h
    have e : cl.slots.size.toInt32 = 256 := by simpa using h
    have := len_toInt q
    rw [e] at this
    have h5 : (256 : Int32).toInt = 256 := rfl
    omega
  · simp [q] at h
theorem own_sub {args : Array Value} {s : State} {j : Int32} (hj : ¬ j < 0) : (Term.sub (.index 0) (.int 128)).eval args s none [j.toNatClampNeg] s = some (.int (j - 128)) := by
  have h := (back32 hj).1
  simp [Term.eval, h]
theorem own_cache {s : State} {ac : Addr} {cl : Cell} {val : Int32 → Value} (B : Bxs s ac cl "java/lang/Integer" "I" 256 val) : ∀ a : Int32, (0 ≤ a.toInt ∧ a.toInt ≤ 100) → ∃ bx, cl.slots.toList[(a.toInt + 128).toNat]? = some (.ref bx) ∧ Exa s s.heap bx "java/lang/Integer" := by
  intro a ha
  have h1 := own_ix ha
  have h2 : cl.slots.size = 256 := B.2.1
  obtain ⟨hin, e0⟩ := idxIn (c := cl) h1 (by omega)
  obtain ⟨b, hb, he, -⟩ := B.2.2.2 _ hin
  rw [e0] at hb
  exact ⟨b, by simpa using hb, he⟩
set_option maxRecDepth 65536 in
set_option maxHeartbeats 40000000 in
theorem comes_1 {Post : Tables → Env → Array Value → State → Outcome → State → Prop} (hpost : ∀ tb e args s v u, (limb_1_1.after args s (.returned v) u = true ∧ limb_1_2.after args s (.returned v) u = true ∧ True) → FrameEnd s (.returned v) u (Jvm.fieldLocs frame_1_writes args s ++ Jvm.arrayLocs frame_1_arrays args s ++ Jvm.staticLocs frame_1_statics s) 16 128 → Post tb e args s (.returned v) u) :
    ArmFor flags0 classFile x code maxLocals ret World_1 tables_1 room_1 Calls_1 rest_1 Pre_1 Post := by
  intro l hfl _ _ p e ha hc hk s m args below hf hA hF happ hP
  obtain ⟨hcalls, hrest, hpre⟩ := hP
  obtain ⟨-, -, -, hnamed, -, -, -, hat⟩ := (Spec.applies_iff hf).mp happ
  obtain ⟨hg, hn⟩ := and_e (Cond.before_iff.mp (show (Jvm.Cond.and given_1 narrow_1).before args s = true from hpre))
  obtain ⟨hcnt, g0⟩ := and_e hg
  obtain ⟨ga0, g1⟩ := and_e g0
  obtain ⟨ga1, g2⟩ := and_e g1
  obtain ⟨w0, w1, w2, rfl⟩ : ∃ w0 w1 w2 : Value, args = #[w0, w1, w2] := by
    have hs : args.size = 3 := by simpa [Cond.value, given_1] using hcnt
    obtain ⟨L⟩ := args
    match L, hs with
    | [w0, w1, w2], _ => exact ⟨w0, w1, w2, rfl⟩
  have hw := fun d (hd : d ∈ tables_1) => atoms_spec (ws := Jvm.Cond.code x code maxLocals ret :: tables_1) hat d (List.mem_cons_of_mem _ hd)
  obtain ⟨hsets, hown0⟩ := atoms_of _ (rest_1_c_eq ▸ (show rest_1_c.before _ s = true from hrest))
  have hr0 := Cond.before_iff.mp hown0
  have hfit : Fit s := fun {y c} hc i hi => by
    obtain ⟨ha, rfl⟩ := Array.getElem?_eq_some_iff.mp hc
    have q := List.all_eq_true.mp ((Array.all_eq_true_iff_forall_mem.mp hF) _ (Array.getElem_mem ha)) i (List.mem_range.mpr hi)
    simpa [Array.getElem?_eq_getElem hi] using q
  obtain ⟨i0, e0⟩ := is_v ga0
  obtain rfl : w0 = (.int i0) := Option.some.inj e0
  obtain ⟨i1, e1⟩ := is_v ga1
  obtain rfl : w1 = (.int i1) := Option.some.inj e1
  obtain ⟨i2, e2⟩ := is_v g2
  obtain rfl : w2 = (.int i2) := Option.some.inj e2
  have evH := eqv_i (Term.int_eval (127)) (Cond.before_iff.mp (hsets _ (List.mem_of_getElem? (i := 3) rfl)))
  have SH := Sta.start evH (Or.inl (hsets _ (List.mem_of_getElem? (i := 1) rfl)))
  obtain ⟨ac, evC⟩ := arr_v (Cond.before_iff.mp (hsets _ (List.mem_of_getElem? (i := 4) rfl)))
  have SC := Sta.start evC (Or.inr ⟨(hw _ (List.mem_of_getElem? (i := 6) rfl)), (hsets _ (List.mem_of_getElem? (i := 2) rfl))⟩)
  obtain ⟨cl, AC⟩ := Arr.start evC (Cond.before_iff.mp (hsets _ (List.mem_of_getElem? (i := 4) rfl)))
  have evL := eqv_i (Term.int_eval (256)) (Cond.before_iff.mp (hsets _ (List.mem_of_getElem? (i := 6) rfl)))
  have hsz := own_len evC (AC.fin (Vm.Alike.refl _)) evL
  have BX := Bxs.start (z := 256) (val := fun j => .int (j - 128)) (fun _ => evC) AC (by omega) (by rw [hsz]; decide) (by decide) (Cond.before_iff.mp (hsets _ (List.mem_of_getElem? (i := 7) rfl))) (fun X j hj hX => eqv_i (own_sub hj) hX)
  have hcache := own_cache BX
  obtain ⟨n, o, h1, h2, h3, _, L, rfl, ⟨⟨_, rfl, rfl⟩, N⟩, hq⟩ := con0 l s _ hw s.heap.size s.heap (Nat.le_refl _) i0 i1 i2 ac cl.slots.toList (Old.start s) SH SC ⟨cl, AC, rfl⟩ hcache tables_1 p e ha hc hk s m _ below hf ((Spec.applies_iff_loose hf).mp happ).1 ⟨rfl, State.Warmed39.refl s, rfl⟩ trivial
  refine ⟨n, _, h1, h2, h3, hpost _ _ _ _ _ _ ⟨Cond.after_iff.mpr rfl, Cond.after_iff.mpr (eq_i res_at (Term.int_eval (1)) rfl), trivial⟩ ⟨hq.1, hq.2.1, (hq.2.2.sift fun y hy => Or.inr (N y hy)).mono (by decide) (by decide)⟩⟩
theorem main_1_1 : Claimed_1_1 := comes_1 fun _ _ _ _ _ _ h hF => ⟨h.1, hF⟩
theorem main_1_2 : Claimed_1_2 := comes_1 fun _ _ _ _ _ _ h hF => ⟨h.2.1, hF⟩
end Jvm.Pilot.@@N@@
namespace Jvm.Pilot.@@N@@
open Jvm Jvm.ClassFile Sem Op Lib Jvm.Free Jvm.Stand Jvm.Pilot.@@N@@.Jvm.D
/-! MADE BY PROGRAM (witnessworld.py) out of the Statement's table words and the real class files: 16 classes; the members and pool entries that the words name. The judged class is class 1, her method 1. -/
namespace start1
open Jvm.ClassFile
def u (s : String) : CpInfo := .utf8 (stringToUtf16 s)
/-- a pool by its gaps: so many unusable entries, then the entry; so many at the end -/
def gap : Nat → List CpInfo → List CpInfo
  | 0, r => r
  | n + 1, r => .unusable :: gap n r
def poolList (es : List (Nat × CpInfo)) (last : Nat) : List CpInfo := es.foldr (fun e r => gap e.1 (e.2 :: r)) (gap last [])
def pool (es : List (Nat × CpInfo)) (last : Nat) : Array CpInfo := ⟨poolList es last⟩
def fileOf (pool : Array CpInfo) (this : Nat) (attrs : Array Attribute := #[]) (ms : Array MethodInfo := #[]) (fl : Nat := 33) (sup : Nat := 0) (ifs : Array Nat := #[]) (fds : Array FieldInfo := #[]) : ClassFile where
  minorVersion := 0
  majorVersion := 65
  constantPool := pool
  accessFlags := fl
  thisClass := this
  superClass := sup
  interfaces := ifs
  fields := fds
  methods := ms
  attributes := attrs
def plain (name : String) (sup : Option ClassId) : Class where
  name := name
  kind := .ordinary
  loader := none
  accessFlags := 33
  super := sup
  interfaces := #[]
  cf := none
  fields := #[]
  methods := #[]
  instanceTypes := #[]
  staticTypes := #[]
  resolved := #[]
  callSites := []
  init := .initialized
  statics := none
  mirror := none

def pool0 : Array CpInfo := pool [(5, u "<init>"), (0, u "()V"), (1, .class_ 10), (1, u "java/lang/Object")] 113

def k0c0 : Code := { maxStack := 0, maxLocals := 1, code := object_method_1_code, exceptionTable := #[], attributes := #[] }
def k0m0 : Method := { name := "<init>", desc := "()V", sig := { parameters := [], returnType := none }, accessFlags := 1, code := some k0c0 }
/-- java/lang/Object -/
def k0 : Class := { plain "java/lang/Object" none with
  accessFlags := 33
  interfaces := #[]
  cf := some (fileOf pool0 8 #[] #[{ accessFlags := 1, nameIndex := 5, descriptorIndex := 6, attributes := #[] }] 33 0 #[] #[])
  fields := #[]
  methods := #[k0m0]
  instanceTypes := #[]
  staticTypes := #[]
  resolved := Array.replicate 124 none
  statics := none }

def pool1 : Array CpInfo := pool [(2, .class_ 4), (1, u "java/lang/Object"), (0, u "<init>"), (0, u "()V"), (0, .integer 2147483647), (0, .methodref 9 10), (0, .class_ 11), (0, .nameAndType 12 13), (0, u "java/lang/Integer"), (0, u "valueOf"), (0, u "(I)Ljava/lang/Integer;"), (0, .class_ 15), (0, u "com/example/mayes/mayes/Rating"), (0, .methodref 14 17), (0, .nameAndType 5 18), (0, u "(I)V"), (0, .methodref 14 20), (0, .nameAndType 21 22), (0, u "equals"), (0, u "(Ljava/lang/Object;)Z"), (0, .class_ 24), (0, u "com/example/mayes/mayes/RatingEqualsPinLaw"), (2, u "law"), (0, u "(III)Z")] 3

def k1m0 : Method := { name := "<init>", desc := "()V", sig := { parameters := [], returnType := none }, accessFlags := 2, code := none }
def k1c1 : Code := { maxStack := 3, maxLocals := 12, code := code, exceptionTable := #[], attributes := #[] }
def k1m1 : Method := { name := "law", desc := "(III)Z", sig := { parameters := [.int, .int, .int], returnType := some .boolean }, accessFlags := 9, code := some k1c1 }
/-- com/example/mayes/mayes/RatingEqualsPinLaw -/
def k1 : Class := { plain "com/example/mayes/mayes/RatingEqualsPinLaw" (some 0) with
  accessFlags := 49
  interfaces := #[]
  cf := some (fileOf pool1 23 #[] #[{ accessFlags := 2, nameIndex := 5, descriptorIndex := 6, attributes := #[] }, { accessFlags := 9, nameIndex := 27, descriptorIndex := 28, attributes := #[] }] 49 2 #[] #[])
  fields := #[]
  methods := #[k1m0, k1m1]
  instanceTypes := #[]
  staticTypes := #[]
  resolved := Array.replicate 32 none
  statics := none }

def pool2 : Array CpInfo := pool [(1, .class_ 2), (0, u "java/io/Serializable"), (0, .class_ 4), (0, u "java/lang/Object")] 2

/-- java/io/Serializable -/
def k2 : Class := { plain "java/io/Serializable" (some 0) with
  accessFlags := 1537
  interfaces := #[]
  cf := some (fileOf pool2 1 #[] #[] 1537 3 #[] #[])
  fields := #[]
  methods := #[]
  instanceTypes := #[]
  staticTypes := #[]
  resolved := Array.replicate 7 none
  statics := none }

def pool3 : Array CpInfo := pool [(2, .class_ 4), (1, u "java/lang/Object"), (0, u "<init>"), (0, u "()V"), (1, .class_ 10), (1, u "java/lang/Number"), (2, .class_ 14), (0, u "java/io/Serializable"), (0, u "serialVersionUID"), (0, u "J")] 20

def k3m0 : Method := { name := "<init>", desc := "()V", sig := { parameters := [], returnType := none }, accessFlags := 1, code := none }
/-- java/lang/Number -/
def k3 : Class := { plain "java/lang/Number" (some 0) with
  accessFlags := 1057
  interfaces := #[2]
  cf := some (fileOf pool3 8 #[] #[{ accessFlags := 1, nameIndex := 5, descriptorIndex := 6, attributes := #[] }] 1057 2 #[13] #[{ accessFlags := 26, nameIndex := 15, descriptorIndex := 16, attributes := #[] }])
  fields := #[{ name := "serialVersionUID", type := .long, accessFlags := 26, slot := 0, constantValue := 0 }]
  methods := #[k3m0]
  instanceTypes := #[]
  staticTypes := #[.long]
  resolved := Array.replicate 37 none
  statics := none }

def pool4 : Array CpInfo := pool [(1, .class_ 2), (0, u "java/lang/Comparable"), (0, .class_ 4), (0, u "java/lang/Object")] 7

/-- java/lang/Comparable -/
def k4 : Class := { plain "java/lang/Comparable" (some 0) with
  accessFlags := 1537
  interfaces := #[]
  cf := some (fileOf pool4 1 #[] #[] 1537 3 #[] #[])
  fields := #[]
  methods := #[]
  instanceTypes := #[]
  staticTypes := #[]
  resolved := Array.replicate 12 none
  statics := none }

def pool5 : Array CpInfo := pool [(1, .class_ 2), (0, u "java/lang/constant/Constable"), (0, .class_ 4), (0, u "java/lang/Object")] 6

/-- java/lang/constant/Constable -/
def k5 : Class := { plain "java/lang/constant/Constable" (some 0) with
  accessFlags := 1537
  interfaces := #[]
  cf := some (fileOf pool5 1 #[] #[] 1537 3 #[] #[])
  fields := #[]
  methods := #[]
  instanceTypes := #[]
  staticTypes := #[]
  resolved := Array.replicate 11 none
  statics := none }

def pool6 : Array CpInfo := pool [(1, .class_ 2), (0, u "java/lang/constant/ConstantDesc"), (0, .class_ 4), (0, u "java/lang/Object")] 32

/-- java/lang/constant/ConstantDesc -/
def k6 : Class := { plain "java/lang/constant/ConstantDesc" (some 0) with
  accessFlags := 1537
  interfaces := #[]
  cf := some (fileOf pool6 1 #[] #[] 1537 3 #[] #[])
  fields := #[]
  methods := #[]
  instanceTypes := #[]
  staticTypes := #[]
  resolved := Array.replicate 37 none
  statics := none }

def pool7 : Array CpInfo := pool [(1, .class_ 2), (0, u "java/lang/Integer"), (16, u "digits"), (0, u "[C"), (64, u "DigitOnes"), (0, u "[B"), (2, u "DigitTens"), (97, u "valueOf"), (0, u "(I)Ljava/lang/Integer;"), (0, .class_ 190), (0, u "java/lang/Integer$IntegerCache"), (0, .fieldref 189 192), (0, .nameAndType 193 194), (0, u "high"), (0, u "I"), (0, .fieldref 189 196), (0, .nameAndType 197 198), (0, u "cache"), (0, u "[Ljava/lang/Integer;"), (4, .class_ 204), (0, u "java/lang/Number"), (2, u "value"), (94, u "TYPE"), (0, u "Ljava/lang/Class;"), (0, .class_ 305), (0, u "java/lang/Comparable"), (0, .class_ 307), (0, u "java/lang/constant/Constable"), (0, .class_ 309), (0, u "java/lang/constant/ConstantDesc"), (0, u "MIN_VALUE"), (1, u "MAX_VALUE"), (3, u "SIZE"), (1, u "BYTES"), (1, u "serialVersionUID"), (0, u "J")] 131

def k7c0 : Code := { maxStack := 3, maxLocals := 1, code := jdk_33_method_22_code, exceptionTable := #[], attributes := #[] }
def k7m0 : Method := { name := "valueOf", desc := "(I)Ljava/lang/Integer;", sig := { parameters := [.int], returnType := some (.object "java/lang/Integer") }, accessFlags := 9, code := some k7c0 }
/-- java/lang/Integer -/
def k7 : Class := { plain "java/lang/Integer" (some 3) with
  accessFlags := 49
  interfaces := #[4, 5, 6]
  cf := some (fileOf pool7 1 #[.nestMembers #[189]] #[{ accessFlags := 9, nameIndex := 187, descriptorIndex := 188, attributes := #[] }] 49 203 #[304, 306, 308] #[{ accessFlags := 25, nameIndex := 310, descriptorIndex := 194, attributes := #[] }, { accessFlags := 25, nameIndex := 312, descriptorIndex := 194, attributes := #[] }, { accessFlags := 25, nameIndex := 302, descriptorIndex := 303, attributes := #[] }, { accessFlags := 24, nameIndex := 19, descriptorIndex := 20, attributes := #[] }, { accessFlags := 24, nameIndex := 89, descriptorIndex := 86, attributes := #[] }, { accessFlags := 24, nameIndex := 85, descriptorIndex := 86, attributes := #[] }, { accessFlags := 18, nameIndex := 207, descriptorIndex := 194, attributes := #[] }, { accessFlags := 25, nameIndex := 316, descriptorIndex := 194, attributes := #[] }, { accessFlags := 25, nameIndex := 318, descriptorIndex := 194, attributes := #[] }, { accessFlags := 26, nameIndex := 320, descriptorIndex := 321, attributes := #[] }])
  fields := #[{ name := "MIN_VALUE", type := .int, accessFlags := 25, slot := 0, constantValue := 0 }, { name := "MAX_VALUE", type := .int, accessFlags := 25, slot := 1, constantValue := 0 }, { name := "TYPE", type := (.object "java/lang/Class"), accessFlags := 25, slot := 2, constantValue := 0 }, { name := "digits", type := (.array .char), accessFlags := 24, slot := 3, constantValue := 0 }, { name := "DigitTens", type := (.array .byte), accessFlags := 24, slot := 4, constantValue := 0 }, { name := "DigitOnes", type := (.array .byte), accessFlags := 24, slot := 5, constantValue := 0 }, { name := "value", type := .int, accessFlags := 18, slot := 0, constantValue := 0 }, { name := "SIZE", type := .int, accessFlags := 25, slot := 6, constantValue := 0 }, { name := "BYTES", type := .int, accessFlags := 25, slot := 7, constantValue := 0 }, { name := "serialVersionUID", type := .long, accessFlags := 26, slot := 8, constantValue := 0 }]
  methods := #[k7m0]
  instanceTypes := #[.int]
  staticTypes := #[.int, .int, (.object "java/lang/Class"), (.array .char), (.array .byte), (.array .byte), .int, .int, .long]
  resolved := Array.replicate 453 none
  statics := none }

def pool8 : Array CpInfo := pool [(2, .class_ 4), (1, u "java/lang/Object"), (0, u "<init>"), (0, u "()V"), (0, .class_ 8), (0, u "java/lang/Integer"), (7, .class_ 18), (1, u "java/lang/Integer$IntegerCache"), (0, u "$assertionsDisabled"), (0, u "Z"), (26, u "high"), (0, u "I"), (8, u "archivedCache"), (0, u "[Ljava/lang/Integer;"), (12, u "cache"), (0, u "low")] 27

def k8m0 : Method := { name := "<init>", desc := "()V", sig := { parameters := [], returnType := none }, accessFlags := 2, code := none }
/-- java/lang/Integer$IntegerCache -/
def k8 : Class := { plain "java/lang/Integer$IntegerCache" (some 0) with
  accessFlags := 48
  interfaces := #[]
  cf := some (fileOf pool8 16 #[.nestHost 7] #[{ accessFlags := 2, nameIndex := 5, descriptorIndex := 6, attributes := #[] }] 48 2 #[] #[{ accessFlags := 24, nameIndex := 72, descriptorIndex := 48, attributes := #[] }, { accessFlags := 24, nameIndex := 47, descriptorIndex := 48, attributes := #[] }, { accessFlags := 24, nameIndex := 71, descriptorIndex := 58, attributes := #[] }, { accessFlags := 8, nameIndex := 57, descriptorIndex := 58, attributes := #[] }, { accessFlags := 4120, nameIndex := 19, descriptorIndex := 20, attributes := #[] }])
  fields := #[{ name := "low", type := .int, accessFlags := 24, slot := 0, constantValue := 0 }, { name := "high", type := .int, accessFlags := 24, slot := 1, constantValue := 0 }, { name := "cache", type := (.array (.object "java/lang/Integer")), accessFlags := 24, slot := 2, constantValue := 0 }, { name := "archivedCache", type := (.array (.object "java/lang/Integer")), accessFlags := 8, slot := 3, constantValue := 0 }, { name := "$assertionsDisabled", type := .boolean, accessFlags := 4120, slot := 4, constantValue := 0 }]
  methods := #[k8m0]
  instanceTypes := #[]
  staticTypes := #[.int, .int, (.array (.object "java/lang/Integer")), (.array (.object "java/lang/Integer")), .boolean]
  resolved := Array.replicate 100 none
  statics := some 0 }

def pool9 : Array CpInfo := pool [(1, .methodref 2 3), (0, .class_ 4), (0, .nameAndType 5 6), (0, u "java/lang/Object"), (0, u "<init>"), (0, u "()V"), (0, .class_ 8), (0, u "com/example/mayes/mayes/Rating"), (9, .fieldref 7 19), (0, .nameAndType 20 21), (0, u "rating"), (0, u "I"), (21, u "(I)V"), (0, .class_ 45), (0, u "java/io/Serializable"), (0, u "serialVersionUID"), (0, u "J"), (3, u "MIN_VALUE"), (1, u "MAX_VALUE"), (11, u "equals"), (0, u "(Ljava/lang/Object;)Z")] 32

def k9c0 : Code := { maxStack := 3, maxLocals := 2, code := prog_72_method_1_code, exceptionTable := #[], attributes := #[] }
def k9m0 : Method := { name := "<init>", desc := "(I)V", sig := { parameters := [.int], returnType := none }, accessFlags := 1, code := some k9c0 }
def k9c1 : Code := { maxStack := 2, maxLocals := 3, code := prog_72_method_4_code, exceptionTable := #[], attributes := #[] }
def k9m1 : Method := { name := "equals", desc := "(Ljava/lang/Object;)Z", sig := { parameters := [(.object "java/lang/Object")], returnType := some .boolean }, accessFlags := 1, code := some k9c1 }
/-- com/example/mayes/mayes/Rating -/
def k9 : Class := { plain "com/example/mayes/mayes/Rating" (some 0) with
  accessFlags := 49
  interfaces := #[2]
  cf := some (fileOf pool9 7 #[] #[{ accessFlags := 1, nameIndex := 5, descriptorIndex := 43, attributes := #[] }, { accessFlags := 1, nameIndex := 65, descriptorIndex := 66, attributes := #[] }] 49 2 #[44] #[{ accessFlags := 26, nameIndex := 46, descriptorIndex := 47, attributes := #[] }, { accessFlags := 25, nameIndex := 51, descriptorIndex := 21, attributes := #[] }, { accessFlags := 25, nameIndex := 53, descriptorIndex := 21, attributes := #[] }, { accessFlags := 18, nameIndex := 20, descriptorIndex := 21, attributes := #[] }])
  fields := #[{ name := "serialVersionUID", type := .long, accessFlags := 26, slot := 0, constantValue := 0 }, { name := "MIN_VALUE", type := .int, accessFlags := 25, slot := 1, constantValue := 0 }, { name := "MAX_VALUE", type := .int, accessFlags := 25, slot := 2, constantValue := 0 }, { name := "rating", type := .int, accessFlags := 18, slot := 0, constantValue := 0 }]
  methods := #[k9m0, k9m1]
  instanceTypes := #[.int]
  staticTypes := #[.long, .int, .int]
  resolved := Array.replicate 99 none
  statics := none }

def pool10 : Array CpInfo := pool [(1, u "java/lang/Cloneable"), (0, .class_ 1), (0, u "java/lang/Object"), (0, .class_ 3)] 3

/-- java/lang/Cloneable -/
def k10 : Class := { plain "java/lang/Cloneable" (some 0) with
  accessFlags := 1537
  interfaces := #[]
  cf := some (fileOf pool10 2 #[] #[] 1537 4 #[] #[])
  fields := #[]
  methods := #[]
  instanceTypes := #[]
  staticTypes := #[]
  resolved := Array.replicate 8 none
  statics := none }

/-- the primitive byte -/
def k11 : Class := { plain "byte" none with kind := .primitive 'B', accessFlags := 0x411 }
/-- [B -/
def k12 : Class := { plain "[B" (some 0) with kind := .array 11 .byte, interfaces := #[10, 2], accessFlags := 1041 }

/-- the primitive int -/
def k13 : Class := { plain "int" none with kind := .primitive 'I', accessFlags := 0x411 }
/-- [I -/
def k14 : Class := { plain "[I" (some 0) with kind := .array 13 .int, interfaces := #[10, 2], accessFlags := 1041 }

/-- [Ljava/lang/Integer; -/
def k15 : Class := { plain "[Ljava/lang/Integer;" (some 0) with kind := .array 7 (.object "java/lang/Integer"), interfaces := #[10, 2], accessFlags := 1041 }

def heap : Heap := #[{ cls := 8, slots := #[.int 0, .int 127, .ref 1, .null, .int 0], vm := .statics 8 },
  { cls := 15, slots := #[.ref 2, .ref 3, .ref 4, .ref 5, .ref 6, .ref 7, .ref 8, .ref 9, .ref 10, .ref 11, .ref 12, .ref 13, .ref 14, .ref 15, .ref 16, .ref 17, .ref 18, .ref 19, .ref 20, .ref 21, .ref 22, .ref 23, .ref 24, .ref 25, .ref 26, .ref 27, .ref 28, .ref 29, .ref 30, .ref 31, .ref 32, .ref 33, .ref 34, .ref 35, .ref 36, .ref 37, .ref 38, .ref 39, .ref 40, .ref 41, .ref 42, .ref 43, .ref 44, .ref 45, .ref 46, .ref 47, .ref 48, .ref 49, .ref 50, .ref 51, .ref 52, .ref 53, .ref 54, .ref 55, .ref 56, .ref 57, .ref 58, .ref 59, .ref 60, .ref 61, .ref 62, .ref 63, .ref 64, .ref 65, .ref 66, .ref 67, .ref 68, .ref 69, .ref 70, .ref 71, .ref 72, .ref 73, .ref 74, .ref 75, .ref 76, .ref 77, .ref 78, .ref 79, .ref 80, .ref 81, .ref 82, .ref 83, .ref 84, .ref 85, .ref 86, .ref 87, .ref 88, .ref 89, .ref 90, .ref 91, .ref 92, .ref 93, .ref 94, .ref 95, .ref 96, .ref 97, .ref 98, .ref 99, .ref 100, .ref 101, .ref 102, .ref 103, .ref 104, .ref 105, .ref 106, .ref 107, .ref 108, .ref 109, .ref 110, .ref 111, .ref 112, .ref 113, .ref 114, .ref 115, .ref 116, .ref 117, .ref 118, .ref 119, .ref 120, .ref 121, .ref 122, .ref 123, .ref 124, .ref 125, .ref 126, .ref 127, .ref 128, .ref 129, .ref 130, .ref 131, .ref 132, .ref 133, .ref 134, .ref 135, .ref 136, .ref 137, .ref 138, .ref 139, .ref 140, .ref 141, .ref 142, .ref 143, .ref 144, .ref 145, .ref 146, .ref 147, .ref 148, .ref 149, .ref 150, .ref 151, .ref 152, .ref 153, .ref 154, .ref 155, .ref 156, .ref 157, .ref 158, .ref 159, .ref 160, .ref 161, .ref 162, .ref 163, .ref 164, .ref 165, .ref 166, .ref 167, .ref 168, .ref 169, .ref 170, .ref 171, .ref 172, .ref 173, .ref 174, .ref 175, .ref 176, .ref 177, .ref 178, .ref 179, .ref 180, .ref 181, .ref 182, .ref 183, .ref 184, .ref 185, .ref 186, .ref 187, .ref 188, .ref 189, .ref 190, .ref 191, .ref 192, .ref 193, .ref 194, .ref 195, .ref 196, .ref 197, .ref 198, .ref 199, .ref 200, .ref 201, .ref 202, .ref 203, .ref 204, .ref 205, .ref 206, .ref 207, .ref 208, .ref 209, .ref 210, .ref 211, .ref 212, .ref 213, .ref 214, .ref 215, .ref 216, .ref 217, .ref 218, .ref 219, .ref 220, .ref 221, .ref 222, .ref 223, .ref 224, .ref 225, .ref 226, .ref 227, .ref 228, .ref 229, .ref 230, .ref 231, .ref 232, .ref 233, .ref 234, .ref 235, .ref 236, .ref 237, .ref 238, .ref 239, .ref 240, .ref 241, .ref 242, .ref 243, .ref 244, .ref 245, .ref 246, .ref 247, .ref 248, .ref 249, .ref 250, .ref 251, .ref 252, .ref 253, .ref 254, .ref 255, .ref 256, .ref 257], vm := .none },
  { cls := 7, slots := #[.int (-128)], vm := .none },
  { cls := 7, slots := #[.int (-127)], vm := .none },
  { cls := 7, slots := #[.int (-126)], vm := .none },
  { cls := 7, slots := #[.int (-125)], vm := .none },
  { cls := 7, slots := #[.int (-124)], vm := .none },
  { cls := 7, slots := #[.int (-123)], vm := .none },
  { cls := 7, slots := #[.int (-122)], vm := .none },
  { cls := 7, slots := #[.int (-121)], vm := .none },
  { cls := 7, slots := #[.int (-120)], vm := .none },
  { cls := 7, slots := #[.int (-119)], vm := .none },
  { cls := 7, slots := #[.int (-118)], vm := .none },
  { cls := 7, slots := #[.int (-117)], vm := .none },
  { cls := 7, slots := #[.int (-116)], vm := .none },
  { cls := 7, slots := #[.int (-115)], vm := .none },
  { cls := 7, slots := #[.int (-114)], vm := .none },
  { cls := 7, slots := #[.int (-113)], vm := .none },
  { cls := 7, slots := #[.int (-112)], vm := .none },
  { cls := 7, slots := #[.int (-111)], vm := .none },
  { cls := 7, slots := #[.int (-110)], vm := .none },
  { cls := 7, slots := #[.int (-109)], vm := .none },
  { cls := 7, slots := #[.int (-108)], vm := .none },
  { cls := 7, slots := #[.int (-107)], vm := .none },
  { cls := 7, slots := #[.int (-106)], vm := .none },
  { cls := 7, slots := #[.int (-105)], vm := .none },
  { cls := 7, slots := #[.int (-104)], vm := .none },
  { cls := 7, slots := #[.int (-103)], vm := .none },
  { cls := 7, slots := #[.int (-102)], vm := .none },
  { cls := 7, slots := #[.int (-101)], vm := .none },
  { cls := 7, slots := #[.int (-100)], vm := .none },
  { cls := 7, slots := #[.int (-99)], vm := .none },
  { cls := 7, slots := #[.int (-98)], vm := .none },
  { cls := 7, slots := #[.int (-97)], vm := .none },
  { cls := 7, slots := #[.int (-96)], vm := .none },
  { cls := 7, slots := #[.int (-95)], vm := .none },
  { cls := 7, slots := #[.int (-94)], vm := .none },
  { cls := 7, slots := #[.int (-93)], vm := .none },
  { cls := 7, slots := #[.int (-92)], vm := .none },
  { cls := 7, slots := #[.int (-91)], vm := .none },
  { cls := 7, slots := #[.int (-90)], vm := .none },
  { cls := 7, slots := #[.int (-89)], vm := .none },
  { cls := 7, slots := #[.int (-88)], vm := .none },
  { cls := 7, slots := #[.int (-87)], vm := .none },
  { cls := 7, slots := #[.int (-86)], vm := .none },
  { cls := 7, slots := #[.int (-85)], vm := .none },
  { cls := 7, slots := #[.int (-84)], vm := .none },
  { cls := 7, slots := #[.int (-83)], vm := .none },
  { cls := 7, slots := #[.int (-82)], vm := .none },
  { cls := 7, slots := #[.int (-81)], vm := .none },
  { cls := 7, slots := #[.int (-80)], vm := .none },
  { cls := 7, slots := #[.int (-79)], vm := .none },
  { cls := 7, slots := #[.int (-78)], vm := .none },
  { cls := 7, slots := #[.int (-77)], vm := .none },
  { cls := 7, slots := #[.int (-76)], vm := .none },
  { cls := 7, slots := #[.int (-75)], vm := .none },
  { cls := 7, slots := #[.int (-74)], vm := .none },
  { cls := 7, slots := #[.int (-73)], vm := .none },
  { cls := 7, slots := #[.int (-72)], vm := .none },
  { cls := 7, slots := #[.int (-71)], vm := .none },
  { cls := 7, slots := #[.int (-70)], vm := .none },
  { cls := 7, slots := #[.int (-69)], vm := .none },
  { cls := 7, slots := #[.int (-68)], vm := .none },
  { cls := 7, slots := #[.int (-67)], vm := .none },
  { cls := 7, slots := #[.int (-66)], vm := .none },
  { cls := 7, slots := #[.int (-65)], vm := .none },
  { cls := 7, slots := #[.int (-64)], vm := .none },
  { cls := 7, slots := #[.int (-63)], vm := .none },
  { cls := 7, slots := #[.int (-62)], vm := .none },
  { cls := 7, slots := #[.int (-61)], vm := .none },
  { cls := 7, slots := #[.int (-60)], vm := .none },
  { cls := 7, slots := #[.int (-59)], vm := .none },
  { cls := 7, slots := #[.int (-58)], vm := .none },
  { cls := 7, slots := #[.int (-57)], vm := .none },
  { cls := 7, slots := #[.int (-56)], vm := .none },
  { cls := 7, slots := #[.int (-55)], vm := .none },
  { cls := 7, slots := #[.int (-54)], vm := .none },
  { cls := 7, slots := #[.int (-53)], vm := .none },
  { cls := 7, slots := #[.int (-52)], vm := .none },
  { cls := 7, slots := #[.int (-51)], vm := .none },
  { cls := 7, slots := #[.int (-50)], vm := .none },
  { cls := 7, slots := #[.int (-49)], vm := .none },
  { cls := 7, slots := #[.int (-48)], vm := .none },
  { cls := 7, slots := #[.int (-47)], vm := .none },
  { cls := 7, slots := #[.int (-46)], vm := .none },
  { cls := 7, slots := #[.int (-45)], vm := .none },
  { cls := 7, slots := #[.int (-44)], vm := .none },
  { cls := 7, slots := #[.int (-43)], vm := .none },
  { cls := 7, slots := #[.int (-42)], vm := .none },
  { cls := 7, slots := #[.int (-41)], vm := .none },
  { cls := 7, slots := #[.int (-40)], vm := .none },
  { cls := 7, slots := #[.int (-39)], vm := .none },
  { cls := 7, slots := #[.int (-38)], vm := .none },
  { cls := 7, slots := #[.int (-37)], vm := .none },
  { cls := 7, slots := #[.int (-36)], vm := .none },
  { cls := 7, slots := #[.int (-35)], vm := .none },
  { cls := 7, slots := #[.int (-34)], vm := .none },
  { cls := 7, slots := #[.int (-33)], vm := .none },
  { cls := 7, slots := #[.int (-32)], vm := .none },
  { cls := 7, slots := #[.int (-31)], vm := .none },
  { cls := 7, slots := #[.int (-30)], vm := .none },
  { cls := 7, slots := #[.int (-29)], vm := .none },
  { cls := 7, slots := #[.int (-28)], vm := .none },
  { cls := 7, slots := #[.int (-27)], vm := .none },
  { cls := 7, slots := #[.int (-26)], vm := .none },
  { cls := 7, slots := #[.int (-25)], vm := .none },
  { cls := 7, slots := #[.int (-24)], vm := .none },
  { cls := 7, slots := #[.int (-23)], vm := .none },
  { cls := 7, slots := #[.int (-22)], vm := .none },
  { cls := 7, slots := #[.int (-21)], vm := .none },
  { cls := 7, slots := #[.int (-20)], vm := .none },
  { cls := 7, slots := #[.int (-19)], vm := .none },
  { cls := 7, slots := #[.int (-18)], vm := .none },
  { cls := 7, slots := #[.int (-17)], vm := .none },
  { cls := 7, slots := #[.int (-16)], vm := .none },
  { cls := 7, slots := #[.int (-15)], vm := .none },
  { cls := 7, slots := #[.int (-14)], vm := .none },
  { cls := 7, slots := #[.int (-13)], vm := .none },
  { cls := 7, slots := #[.int (-12)], vm := .none },
  { cls := 7, slots := #[.int (-11)], vm := .none },
  { cls := 7, slots := #[.int (-10)], vm := .none },
  { cls := 7, slots := #[.int (-9)], vm := .none },
  { cls := 7, slots := #[.int (-8)], vm := .none },
  { cls := 7, slots := #[.int (-7)], vm := .none },
  { cls := 7, slots := #[.int (-6)], vm := .none },
  { cls := 7, slots := #[.int (-5)], vm := .none },
  { cls := 7, slots := #[.int (-4)], vm := .none },
  { cls := 7, slots := #[.int (-3)], vm := .none },
  { cls := 7, slots := #[.int (-2)], vm := .none },
  { cls := 7, slots := #[.int (-1)], vm := .none },
  { cls := 7, slots := #[.int (0)], vm := .none },
  { cls := 7, slots := #[.int (1)], vm := .none },
  { cls := 7, slots := #[.int (2)], vm := .none },
  { cls := 7, slots := #[.int (3)], vm := .none },
  { cls := 7, slots := #[.int (4)], vm := .none },
  { cls := 7, slots := #[.int (5)], vm := .none },
  { cls := 7, slots := #[.int (6)], vm := .none },
  { cls := 7, slots := #[.int (7)], vm := .none },
  { cls := 7, slots := #[.int (8)], vm := .none },
  { cls := 7, slots := #[.int (9)], vm := .none },
  { cls := 7, slots := #[.int (10)], vm := .none },
  { cls := 7, slots := #[.int (11)], vm := .none },
  { cls := 7, slots := #[.int (12)], vm := .none },
  { cls := 7, slots := #[.int (13)], vm := .none },
  { cls := 7, slots := #[.int (14)], vm := .none },
  { cls := 7, slots := #[.int (15)], vm := .none },
  { cls := 7, slots := #[.int (16)], vm := .none },
  { cls := 7, slots := #[.int (17)], vm := .none },
  { cls := 7, slots := #[.int (18)], vm := .none },
  { cls := 7, slots := #[.int (19)], vm := .none },
  { cls := 7, slots := #[.int (20)], vm := .none },
  { cls := 7, slots := #[.int (21)], vm := .none },
  { cls := 7, slots := #[.int (22)], vm := .none },
  { cls := 7, slots := #[.int (23)], vm := .none },
  { cls := 7, slots := #[.int (24)], vm := .none },
  { cls := 7, slots := #[.int (25)], vm := .none },
  { cls := 7, slots := #[.int (26)], vm := .none },
  { cls := 7, slots := #[.int (27)], vm := .none },
  { cls := 7, slots := #[.int (28)], vm := .none },
  { cls := 7, slots := #[.int (29)], vm := .none },
  { cls := 7, slots := #[.int (30)], vm := .none },
  { cls := 7, slots := #[.int (31)], vm := .none },
  { cls := 7, slots := #[.int (32)], vm := .none },
  { cls := 7, slots := #[.int (33)], vm := .none },
  { cls := 7, slots := #[.int (34)], vm := .none },
  { cls := 7, slots := #[.int (35)], vm := .none },
  { cls := 7, slots := #[.int (36)], vm := .none },
  { cls := 7, slots := #[.int (37)], vm := .none },
  { cls := 7, slots := #[.int (38)], vm := .none },
  { cls := 7, slots := #[.int (39)], vm := .none },
  { cls := 7, slots := #[.int (40)], vm := .none },
  { cls := 7, slots := #[.int (41)], vm := .none },
  { cls := 7, slots := #[.int (42)], vm := .none },
  { cls := 7, slots := #[.int (43)], vm := .none },
  { cls := 7, slots := #[.int (44)], vm := .none },
  { cls := 7, slots := #[.int (45)], vm := .none },
  { cls := 7, slots := #[.int (46)], vm := .none },
  { cls := 7, slots := #[.int (47)], vm := .none },
  { cls := 7, slots := #[.int (48)], vm := .none },
  { cls := 7, slots := #[.int (49)], vm := .none },
  { cls := 7, slots := #[.int (50)], vm := .none },
  { cls := 7, slots := #[.int (51)], vm := .none },
  { cls := 7, slots := #[.int (52)], vm := .none },
  { cls := 7, slots := #[.int (53)], vm := .none },
  { cls := 7, slots := #[.int (54)], vm := .none },
  { cls := 7, slots := #[.int (55)], vm := .none },
  { cls := 7, slots := #[.int (56)], vm := .none },
  { cls := 7, slots := #[.int (57)], vm := .none },
  { cls := 7, slots := #[.int (58)], vm := .none },
  { cls := 7, slots := #[.int (59)], vm := .none },
  { cls := 7, slots := #[.int (60)], vm := .none },
  { cls := 7, slots := #[.int (61)], vm := .none },
  { cls := 7, slots := #[.int (62)], vm := .none },
  { cls := 7, slots := #[.int (63)], vm := .none },
  { cls := 7, slots := #[.int (64)], vm := .none },
  { cls := 7, slots := #[.int (65)], vm := .none },
  { cls := 7, slots := #[.int (66)], vm := .none },
  { cls := 7, slots := #[.int (67)], vm := .none },
  { cls := 7, slots := #[.int (68)], vm := .none },
  { cls := 7, slots := #[.int (69)], vm := .none },
  { cls := 7, slots := #[.int (70)], vm := .none },
  { cls := 7, slots := #[.int (71)], vm := .none },
  { cls := 7, slots := #[.int (72)], vm := .none },
  { cls := 7, slots := #[.int (73)], vm := .none },
  { cls := 7, slots := #[.int (74)], vm := .none },
  { cls := 7, slots := #[.int (75)], vm := .none },
  { cls := 7, slots := #[.int (76)], vm := .none },
  { cls := 7, slots := #[.int (77)], vm := .none },
  { cls := 7, slots := #[.int (78)], vm := .none },
  { cls := 7, slots := #[.int (79)], vm := .none },
  { cls := 7, slots := #[.int (80)], vm := .none },
  { cls := 7, slots := #[.int (81)], vm := .none },
  { cls := 7, slots := #[.int (82)], vm := .none },
  { cls := 7, slots := #[.int (83)], vm := .none },
  { cls := 7, slots := #[.int (84)], vm := .none },
  { cls := 7, slots := #[.int (85)], vm := .none },
  { cls := 7, slots := #[.int (86)], vm := .none },
  { cls := 7, slots := #[.int (87)], vm := .none },
  { cls := 7, slots := #[.int (88)], vm := .none },
  { cls := 7, slots := #[.int (89)], vm := .none },
  { cls := 7, slots := #[.int (90)], vm := .none },
  { cls := 7, slots := #[.int (91)], vm := .none },
  { cls := 7, slots := #[.int (92)], vm := .none },
  { cls := 7, slots := #[.int (93)], vm := .none },
  { cls := 7, slots := #[.int (94)], vm := .none },
  { cls := 7, slots := #[.int (95)], vm := .none },
  { cls := 7, slots := #[.int (96)], vm := .none },
  { cls := 7, slots := #[.int (97)], vm := .none },
  { cls := 7, slots := #[.int (98)], vm := .none },
  { cls := 7, slots := #[.int (99)], vm := .none },
  { cls := 7, slots := #[.int (100)], vm := .none },
  { cls := 7, slots := #[.int (101)], vm := .none },
  { cls := 7, slots := #[.int (102)], vm := .none },
  { cls := 7, slots := #[.int (103)], vm := .none },
  { cls := 7, slots := #[.int (104)], vm := .none },
  { cls := 7, slots := #[.int (105)], vm := .none },
  { cls := 7, slots := #[.int (106)], vm := .none },
  { cls := 7, slots := #[.int (107)], vm := .none },
  { cls := 7, slots := #[.int (108)], vm := .none },
  { cls := 7, slots := #[.int (109)], vm := .none },
  { cls := 7, slots := #[.int (110)], vm := .none },
  { cls := 7, slots := #[.int (111)], vm := .none },
  { cls := 7, slots := #[.int (112)], vm := .none },
  { cls := 7, slots := #[.int (113)], vm := .none },
  { cls := 7, slots := #[.int (114)], vm := .none },
  { cls := 7, slots := #[.int (115)], vm := .none },
  { cls := 7, slots := #[.int (116)], vm := .none },
  { cls := 7, slots := #[.int (117)], vm := .none },
  { cls := 7, slots := #[.int (118)], vm := .none },
  { cls := 7, slots := #[.int (119)], vm := .none },
  { cls := 7, slots := #[.int (120)], vm := .none },
  { cls := 7, slots := #[.int (121)], vm := .none },
  { cls := 7, slots := #[.int (122)], vm := .none },
  { cls := 7, slots := #[.int (123)], vm := .none },
  { cls := 7, slots := #[.int (124)], vm := .none },
  { cls := 7, slots := #[.int (125)], vm := .none },
  { cls := 7, slots := #[.int (126)], vm := .none },
  { cls := 7, slots := #[.int (127)], vm := .none }]
def classes : Array Class := #[k0, k1, k2, k3, k4, k5, k6, k7, k8, k9, k10, k11, k12, k13, k14, k15]
def interned : List (Array UInt16 × Addr) := []
def slotsUsed : Nat := 517
def theMethod : MethodId := ⟨1, 1⟩
def args0 : Array Value := #[.int 5, .int 3, .int 2]
def aboutOver (below : List Frame) : State where
  vm := { classes := classes, interned := interned.toArray }
  heap := heap
  slotsUsed := slotsUsed
  threads := #[{ frames := .invoking theMethod args0 :: below }]
def below0 : List Frame := [.native { method := ⟨0, 0⟩, args := #[] }]
def about1 : State := aboutOver below0
def p0 : Program := .bare "" "" ""
def e0 : Env := launch0.env 0 0 0
theorem w_frames : about1.frames = Frame.invoking theMethod args0 :: below0 := rfl
set_option maxRecDepth 65536 in
theorem w_args : argsFit about1.vm theMethod args0 = true := by decide +kernel
set_option maxRecDepth 65536 in
theorem w_heap : heapFits about1 = true := by decide +kernel
set_option maxRecDepth 65536 in
theorem w_runnable : about1.curStatus? = some .runnable := by decide +kernel
set_option maxRecDepth 65536 in
theorem w_alone : about1.alone = true := by decide +kernel
set_option maxRecDepth 65536 in
theorem w_named : about1.methodNamed? x = some theMethod := by decide +kernel
set_option maxRecDepth 65536 in
theorem w_hears : about1.hears theMethod below0 = true := by decide +kernel
set_option maxRecDepth 65536 in
theorem w_ripe : about1.ripe theMethod args0 below0 = true := by decide +kernel
theorem w_running : about1.status = .running := rfl
set_option maxRecDepth 65536 in
theorem w_room : about1.hasRoom e0.platform room_1 = true :=
  launch0.hasRoom_least _ room_1 (by decide +kernel) (by decide +kernel) (by decide +kernel) (by decide +kernel) (by decide +kernel) (by decide +kernel)
theorem allAtoms_all (ts : List Jvm.Cond) (a : Array Jvm.Value) (st : Jvm.State) : (allAtoms ts).before a st = ts.all (fun c => c.before a st) := by
  induction ts with
  | nil => rfl
  | cons c t ih =>
    show (Jvm.Cond.and c (allAtoms t)).before a st = _
    rw [Jvm.Cond.before_and, ih, List.all_cons]
def words1 : List Jvm.Cond := Jvm.Cond.code x code maxLocals ret :: tables_1
/-- a 'code' word, met by the world's own term for the bytes: nothing is compared byte by byte -/
theorem code_word {y : MethodName} {bytes : ByteArray} {mx : Nat} {rt : Option FieldType} {a : Array Value} {s : State} {m : MethodId} {meth : Method} {c : Code} (h1 : s.methodNamed? y = some m) (h2 : s.vm.method? m = some meth) (h3 : meth.code = some c) (h4 : c.code = bytes)
    (h5 : (c.maxLocals == mx && c.exceptionTable.isEmpty && decide (c.maxStack ≤ mostOperands) && decide (meth.sig.returnType = rt) && !meth.locks && decide (parseMethodDescriptor y.desc = some meth.sig)) = true) : (Jvm.Cond.code y bytes mx rt).before a s = true := by
  simp only [Bool.and_eq_true, beq_iff_eq, Bool.not_eq_true', decide_eq_true_eq] at h5
  obtain ⟨⟨⟨⟨⟨g1, g2⟩, g3⟩, g4⟩, g5⟩, g6⟩ := h5
  simp [Cond.before, Cond.holds, Cond.value, h1, h2, h3, h4, g1, g2, g3, g4, g5, g6]
def isCode : Jvm.Cond → Bool
  | .code _ _ _ _ => true
  | _ => false
theorem all_split {L : List Jvm.Cond} {P : Jvm.Cond → Bool} (h1 : L.all (fun c => isCode c || P c) = true) (h2 : ∀ c ∈ L.filter isCode, P c = true) : L.all P = true := by
  refine List.all_eq_true.mpr fun c hc => ?_
  have h := List.all_eq_true.mp h1 c hc
  rcases Bool.eq_false_or_eq_true (isCode c) with hi | hi
  · exact h2 c (List.mem_filter.mpr ⟨hc, hi⟩)
  · simpa [hi] using h
set_option maxRecDepth 65536 in
theorem w_c0 : (Jvm.Cond.code x code maxLocals ret).before args0 about1 = true := code_word (m := ⟨1, 1⟩) (meth := k1m1) (c := k1c1) (by decide +kernel) rfl rfl rfl (by decide +kernel)
set_option maxRecDepth 65536 in
theorem w_c1 : (Jvm.Cond.code ({ cls := "java/lang/Integer", name := "valueOf", desc := "(I)Ljava/lang/Integer;" } : Jvm.MethodName) jdk_33_method_22_code (1 : Nat) (Option.some (Jvm.ClassFile.FieldType.object "java/lang/Integer"))).before args0 about1 = true := code_word (m := ⟨7, 0⟩) (meth := k7m0) (c := k7c0) (by decide +kernel) rfl rfl rfl (by decide +kernel)
set_option maxRecDepth 65536 in
theorem w_c2 : (Jvm.Cond.code ({ cls := "com/example/mayes/mayes/Rating", name := "<init>", desc := "(I)V" } : Jvm.MethodName) prog_72_method_1_code (2 : Nat) (Option.none : Option Jvm.ClassFile.FieldType)).before args0 about1 = true := code_word (m := ⟨9, 0⟩) (meth := k9m0) (c := k9c0) (by decide +kernel) rfl rfl rfl (by decide +kernel)
set_option maxRecDepth 65536 in
theorem w_c3 : (Jvm.Cond.code ({ cls := "java/lang/Object", name := "<init>", desc := "()V" } : Jvm.MethodName) object_method_1_code (1 : Nat) (Option.none : Option Jvm.ClassFile.FieldType)).before args0 about1 = true := code_word (m := ⟨0, 0⟩) (meth := k0m0) (c := k0c0) (by decide +kernel) rfl rfl rfl (by decide +kernel)
set_option maxRecDepth 65536 in
theorem w_c4 : (Jvm.Cond.code ({ cls := "com/example/mayes/mayes/Rating", name := "equals", desc := "(Ljava/lang/Object;)Z" } : Jvm.MethodName) prog_72_method_4_code (3 : Nat) (Option.some Jvm.ClassFile.FieldType.boolean)).before args0 about1 = true := code_word (m := ⟨9, 1⟩) (meth := k9m1) (c := k9c1) (by decide +kernel) rfl rfl rfl (by decide +kernel)
def codes1 : List Jvm.Cond := [Jvm.Cond.code x code maxLocals ret, Jvm.Cond.code ({ cls := "java/lang/Integer", name := "valueOf", desc := "(I)Ljava/lang/Integer;" } : Jvm.MethodName) jdk_33_method_22_code (1 : Nat) (Option.some (Jvm.ClassFile.FieldType.object "java/lang/Integer")), Jvm.Cond.code ({ cls := "com/example/mayes/mayes/Rating", name := "<init>", desc := "(I)V" } : Jvm.MethodName) prog_72_method_1_code (2 : Nat) (Option.none : Option Jvm.ClassFile.FieldType), Jvm.Cond.code ({ cls := "java/lang/Object", name := "<init>", desc := "()V" } : Jvm.MethodName) object_method_1_code (1 : Nat) (Option.none : Option Jvm.ClassFile.FieldType), Jvm.Cond.code ({ cls := "com/example/mayes/mayes/Rating", name := "equals", desc := "(Ljava/lang/Object;)Z" } : Jvm.MethodName) prog_72_method_4_code (3 : Nat) (Option.some Jvm.ClassFile.FieldType.boolean)]
set_option maxRecDepth 65536 in
theorem codes_eq : words1.filter isCode = codes1 := rfl
theorem w_codes : ∀ c ∈ words1.filter isCode, c.before args0 about1 = true := by
  rw [codes_eq]
  intro c hc
  simp only [codes1, List.mem_cons, List.not_mem_nil, or_false] at hc
  rcases hc with rfl | rfl | rfl | rfl | rfl
  · exact w_c0
  · exact w_c1
  · exact w_c2
  · exact w_c3
  · exact w_c4
set_option maxRecDepth 65536 in
theorem w_t1 : (words1.take 24).all (fun c => isCode c || c.before args0 about1) = true := by decide +kernel
set_option maxRecDepth 65536 in
theorem w_t2 : (words1.drop 24).all (fun c => isCode c || c.before args0 about1) = true := by decide +kernel
theorem w_tables : (allAtoms (Jvm.Cond.code x code maxLocals ret :: tables_1)).before args0 about1 = true := by
  rw [allAtoms_all]
  show words1.all (fun c => c.before args0 about1) = true
  refine all_split ?_ w_codes
  rw [← List.take_append_drop 24 words1, List.all_append, w_t1, w_t2]
  rfl
set_option maxRecDepth 65536 in
theorem w_rest : rest_1_c.before args0 about1 = true := by decide +kernel
set_option maxRecDepth 65536 in
theorem w_case : (Jvm.Cond.and given_1 narrow_1).before args0 about1 = true := by decide +kernel
theorem w_applies : (headSpec (Jvm.Cond.code x code maxLocals ret :: tables_1) room_1).applies x e0.platform about1 = true :=
  (Spec.applies_iff w_frames).mpr ⟨w_running, w_runnable, w_alone, w_named, w_hears, w_ripe, w_room, w_tables⟩
theorem atStart : AtStart classFile x code maxLocals ret World_1 tables_1 room_1 Calls_1 rest_1 Pre_1 launch0 p0 e0 about1 theMethod args0 below0 :=
  ⟨lists_1, trivial, launch0.admits_env _ _ _, launch0.least_env, fairChoices_fair.cas, fairChoices_fair.clock, w_frames, w_args, w_heap, w_applies, trivial, w_rest, w_case⟩
end start1
theorem witness_1 : WitnessClaimed_1 := ⟨start1.p0, start1.e0, start1.about1, start1.theMethod, start1.args0, start1.below0, start1.atStart⟩
end Jvm.Pilot.@@N@@
