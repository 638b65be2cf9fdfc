import JvmDerived
import JvmDerived.Pilot.@@N@@Statement
import JvmDerived.Pilot.@@N@@Code
set_option linter.unusedVariables false
set_option linter.unusedSimpArgs false
namespace Jvm.GoKit
open Sem ClassFile Op Lib Jvm.Stand Jvm.Free Jvm.LawKit Jvm.RoadKit
/-! my own layer: a body's run in continuation style, over the library's Stand laws -/
def Val (P : Value → Heap → Prop) (v : Option Value) (h : Heap) : Prop := ∃ w, v = some w ∧ P w h
def Vd (P : Heap → Prop) (v : Option Value) (h : Heap) : Prop := v = none ∧ P h
def PV (w : Value) (h0 : Heap) (w' : Value) (h : Heap) : Prop := w = w' ∧ h0 = h
def Ctx (Z : State) (own : String) (code : ByteArray) (maxL : Nat) (ret : Option FieldType) (nm : String) (p : Program) (s : State) (m : MethodId) (meth : Method) (c : Code) : Prop :=
  p.tables.exec = Jvm.exec ∧ Z.Warmed39 s.vm ∧ s.vm.findClass own = some m.cls ∧ c.code = code ∧ c.maxLocals = maxL ∧ meth.sig.returnType = ret ∧ meth.locks = false ∧ meth.name = nm
def Go (p : Program) (e : Env) (below : List Frame) (s : State) (n0 K N : Nat) (Q : Option Value → Heap → Prop) (S : State) : Prop :=
  ∃ s₂ v L, Steps p.tables e below S s₂ ∧ s₂.status = .running ∧ Ended s₂ below (.returned v) ∧ (Q v s₂.heap ∧ Fr n0 L) ∧ FrameEnd s (.returned v) s₂ L K N
def Run (l : Launch) (Z : State) (n0 : Nat) (own : String) (code : ByteArray) (maxL : Nat) (ret : Option FieldType) (nm : String) (R : Room) (Q : Option Value → Heap → Prop) (pc : Nat) (Ls : Array Slot) (st : List Value) (h : Heap) (k n : Nat) : Prop :=
  ∀ (p : Program) (e : Env) (s : State) (m : MethodId) (args : Array Value) (below : List Frame) (meth : Method) (c : Code) (T : State) (locs : List Loc) (cells slots : Nat),
    Ctx Z own code maxL ret nm p s m meth c → Stand p l e R s m args below meth c T locs cells slots → T.heap = h → Fr n0 locs → cells ≤ k → slots ≤ n →
    Go p e below s n0 R.cells R.slots Q (T.setTop (mkF m pc Ls st))
def Con (l : Launch) (Z : State) (n0 : Nat) (y : MethodName) (bytes : ByteArray) (maxL : Nat) (ret : Option FieldType) (rm : Room) (as : Array Value) (h : Heap) (Q : Option Value → Heap → Prop) : Prop :=
  ∀ ws, MetFree l y (head1 (Cond.code y bytes maxL ret :: ws) rm) (fun a U => a = as ∧ Z.Warmed39 U.vm ∧ U.heap = h) (fun _ _ _ _ _ => True) (fun _ U o U' => ∃ v L, o = .returned v ∧ (Q v U'.heap ∧ Fr n0 L) ∧ FrameEnd U o U' L rm.cells rm.slots)
theorem Con.of_run {l : Launch} {Z : State} {n0 : Nat} {y : MethodName} {bytes : ByteArray} {maxL : Nat} {ret : Option FieldType} {rm : Room} {as : Array Value} {h : Heap} {Q : Option Value → Heap → Prop} {Ls : Array Slot}
    (hp : plainFor y = true) (he : ∀ m, entryFrame m as maxL = mkF m 0 Ls []) (run : Run l Z n0 y.cls bytes maxL ret y.name rm Q 0 Ls [] h 0 0) : Con l Z n0 y bytes maxL ret rm as h Q := by
  intro ws
  refine MetFree.of_bodySF hp hisR ?_
  intro p e s m args below meth c s₁ Bd hml0 hP hK
  obtain ⟨rfl, hZ, hh⟩ := hP
  obtain ⟨s₂, v, L, h1, h2, h3, h4, h5⟩ := run p e s m _ below meth c s₁ [] 0 0 ⟨Bd.exec, hZ, findClass_of_methodNamed Bd.named, Bd.bytes, hml0, Bd.returns, Bd.notSynchronized, (name_of_methodNamed Bd.named Bd.method).1⟩ (Stand.of_body Bd) (by rw [← hh, Bd.state]; rfl) (Fr.nil _) (Nat.zero_le _) (Nat.zero_le _)
  exact ⟨s₂, _, castTop (he m) h1, h2, h3, v, L, rfl, h4, h5⟩
theorem Con.mono {l : Launch} {Z : State} {n0 : Nat} {y : MethodName} {bytes : ByteArray} {maxL : Nat} {ret : Option FieldType} {rm : Room} {as : Array Value} {h : Heap} {Q Q' : Option Value → Heap → Prop}
    (H : Con l Z n0 y bytes maxL ret rm as h Q) (q : ∀ v h', Q v h' → Q' v h') : Con l Z n0 y bytes maxL ret rm as h Q' := by
  intro ws p e ha hc hk s m args below hf happ hP hK
  obtain ⟨n, o, h1, h2, h3, v, L, h4, h5, h6⟩ := H ws p e ha hc hk s m args below hf happ hP hK
  exact ⟨n, o, h1, h2, h3, v, L, h4, ⟨q _ _ h5.1, h5.2⟩, h6⟩
section Walk
variable {l : Launch} {Z : State} {n0 : Nat} {own : String} {code : ByteArray} {maxL : Nat} {ret : Option FieldType} {nm : String} {R : Room} {Q : Option Value → Heap → Prop} {pc pc' : Nat} {Ls : Array Slot} {st : List Value} {h : Heap} {k n k' n' : Nat}
theorem Run.via {Ls' : Array Slot} {st' : List Value} (f : ∀ (p : Program) (e : Env) (s : State) (m : MethodId) (args : Array Value) (below : List Frame) (meth : Method) (c : Code) (T : State) (locs : List Loc) (cells slots : Nat),
      Ctx Z own code maxL ret nm p s m meth c → Stand p l e R s m args below meth c T locs cells slots → T.heap = h → ∃ T', Stand p l e R s m args below meth c T' locs cells slots ∧ T'.heap = h ∧ ∀ t, Steps p.tables e below (T'.setTop (mkF m pc' Ls' st')) t → Steps p.tables e below (T.setTop (mkF m pc Ls st)) t)
    (nxt : Run l Z n0 own code maxL ret nm R Q pc' Ls' st' h k n) : Run l Z n0 own code maxL ret nm R Q pc Ls st h k n := by
  intro p e s m args below meth c T locs cells slots hC X eT hF hk hn
  obtain ⟨T', X', e', stp⟩ := f p e s m args below meth c T locs cells slots hC X eT
  obtain ⟨s₂, v, L, g1, g2⟩ := nxt p e s m args below meth c T' locs cells slots hC X' e' hF hk hn
  exact ⟨s₂, v, L, stp _ g1, g2⟩
theorem Run.stp {Ls' : Array Slot} {st' : List Value} (f : ∀ (p : Program) (e : Env) (below : List Frame) (T : State) (m : MethodId) (c : Code) (t : State), At T m c below → p.tables.exec = Jvm.exec → c.code = code → Steps p.tables e below (T.setTop (mkF m pc' Ls' st')) t → Steps p.tables e below (T.setTop (mkF m pc Ls st)) t)
    (nxt : Run l Z n0 own code maxL ret nm R Q pc' Ls' st' h k n) : Run l Z n0 own code maxL ret nm R Q pc Ls st h k n :=
  Run.via (fun p e s m args below meth c T locs cells slots hC X eT => ⟨T, X, eT, fun t q => f p e below T m c t X.here hC.1 hC.2.2.2.1 q⟩) nxt
theorem Run.more {ka na : Nat} (nxt : Run l Z n0 own code maxL ret nm R Q pc Ls st h k n) (h1 : ka ≤ k) (h2 : na ≤ n) : Run l Z n0 own code maxL ret nm R Q pc Ls st h ka na :=
  fun p e s m args below meth c T locs cells slots hC X eT hF hk hn => nxt p e s m args below meth c T locs cells slots hC X eT hF (Nat.le_trans hk h1) (Nat.le_trans hn h2)

theorem Run.iloadN {x : Fin 4} {v : Int32} (hd : decode code pc = .ok (.iload_n x, 1)) (hl : Ls[x.val]? = some (.val (.int v))) (hp : pc + 1 = pc') (nxt : Run l Z n0 own code maxL ret nm R Q pc' Ls (.int v :: st) h k n) : Run l Z n0 own code maxL ret nm R Q pc Ls st h k n := by
  subst hp
  exact Run.stp (fun p e below T m c t hA hx hc q => XS.iloadN hA hx rfl (hb hc hd) hl q) nxt
theorem Run.iload {x : Nat} {v : Int32} (hd : decode code pc = .ok (.iload x, 2)) (hl : Ls[x]? = some (.val (.int v))) (hp : pc + 2 = pc') (nxt : Run l Z n0 own code maxL ret nm R Q pc' Ls (.int v :: st) h k n) : Run l Z n0 own code maxL ret nm R Q pc Ls st h k n := by
  subst hp
  exact Run.stp (fun p e below T m c t hA hx hc q => XS.iload hA hx rfl (hb hc hd) hl q) nxt
theorem Run.lloadN {x : Fin 4} {v : Int64} (hd : decode code pc = .ok (.lload_n x, 1)) (hl : Ls[x.val]? = some (.val (.long v))) (hp : pc + 1 = pc') (nxt : Run l Z n0 own code maxL ret nm R Q pc' Ls (.long v :: st) h k n) : Run l Z n0 own code maxL ret nm R Q pc Ls st h k n := by
  subst hp
  exact Run.stp (fun p e below T m c t hA hx hc q => XT.lloadN hA hx rfl (hb hc hd) hl q) nxt
theorem Run.lload {x : Nat} {v : Int64} (hd : decode code pc = .ok (.lload x, 2)) (hl : Ls[x]? = some (.val (.long v))) (hp : pc + 2 = pc') (nxt : Run l Z n0 own code maxL ret nm R Q pc' Ls (.long v :: st) h k n) : Run l Z n0 own code maxL ret nm R Q pc Ls st h k n := by
  subst hp
  exact Run.stp (fun p e below T m c t hA hx hc q => XT.lload hA hx rfl (hb hc hd) hl q) nxt
theorem Run.aloadN {x : Fin 4} {v : Value} (hd : decode code pc = .ok (.aload_n x, 1)) (hl : Ls[x.val]? = some (.val v)) (hv : v.isRef = true) (hp : pc + 1 = pc') (nxt : Run l Z n0 own code maxL ret nm R Q pc' Ls (v :: st) h k n) : Run l Z n0 own code maxL ret nm R Q pc Ls st h k n := by
  subst hp
  exact Run.stp (fun p e below T m c t hA hx hc q => XS.aloadN hA hx rfl (hb hc hd) hl hv q) nxt
theorem Run.aload {x : Nat} {v : Value} (hd : decode code pc = .ok (.aload x, 2)) (hl : Ls[x]? = some (.val v)) (hv : v.isRef = true) (hp : pc + 2 = pc') (nxt : Run l Z n0 own code maxL ret nm R Q pc' Ls (v :: st) h k n) : Run l Z n0 own code maxL ret nm R Q pc Ls st h k n := by
  subst hp
  exact Run.stp (fun p e below T m c t hA hx hc q => XS.aload hA hx rfl (hb hc hd) hl hv q) nxt
theorem Run.iconst {i : Int} (v : Int32) (hd : decode code pc = .ok (.iconst i, 1)) (hv : Int32.ofInt i = v) (hp : pc + 1 = pc') (nxt : Run l Z n0 own code maxL ret nm R Q pc' Ls (.int v :: st) h k n) : Run l Z n0 own code maxL ret nm R Q pc Ls st h k n := by
  subst hp
  exact Run.stp (fun p e below T m c t hA hx hc q => XT.iconstV hA hx rfl v (hb hc hd) hv q) nxt
theorem Run.bipush {i : Int} (v : Int32) (hd : decode code pc = .ok (.bipush i, 2)) (hv : (Int8.ofInt i).toInt32 = v) (hp : pc + 2 = pc') (nxt : Run l Z n0 own code maxL ret nm R Q pc' Ls (.int v :: st) h k n) : Run l Z n0 own code maxL ret nm R Q pc Ls st h k n := by
  subst hp
  exact Run.stp (fun p e below T m c t hA hx hc q => XT.bipushV hA hx rfl v (hb hc hd) hv q) nxt
theorem Run.sipush {i : Int} (v : Int32) (hd : decode code pc = .ok (.sipush i, 3)) (hv : (Int16.ofInt i).toInt32 = v) (hp : pc + 3 = pc') (nxt : Run l Z n0 own code maxL ret nm R Q pc' Ls (.int v :: st) h k n) : Run l Z n0 own code maxL ret nm R Q pc Ls st h k n := by
  subst hp
  exact Run.stp (fun p e below T m c t hA hx hc q => XT.sipushV hA hx rfl v (hb hc hd) hv q) nxt
theorem Run.lconst {i : Fin 2} (v : Int64) (hd : decode code pc = .ok (.lconst i, 1)) (hv : Int64.ofNat i = v) (hp : pc + 1 = pc') (nxt : Run l Z n0 own code maxL ret nm R Q pc' Ls (.long v :: st) h k n) : Run l Z n0 own code maxL ret nm R Q pc Ls st h k n := by
  subst hp
  exact Run.stp (fun p e below T m c t hA hx hc q => XT.lconstV hA hx rfl v (hb hc hd) hv q) nxt
theorem Run.aconst  (hd : decode code pc = .ok (.aconst_null, 1))  (hp : pc + 1 = pc') (nxt : Run l Z n0 own code maxL ret nm R Q pc' Ls (.null :: st) h k n) : Run l Z n0 own code maxL ret nm R Q pc Ls st h k n := by
  subst hp
  exact Run.stp (fun p e below T m c t hA hx hc q => XS.aconstNull hA hx rfl (hb hc hd) q) nxt
theorem Run.istoreN {x : Fin 4} {v : Int32} (l' : Array Slot) (hd : decode code pc = .ok (.istore_n x, 1)) (hl : storeLocals Ls x.val (.int v) = some l') (hp : pc + 1 = pc') (nxt : Run l Z n0 own code maxL ret nm R Q pc' l' st h k n) : Run l Z n0 own code maxL ret nm R Q pc Ls (.int v :: st) h k n := by
  subst hp
  exact Run.stp (fun p e below T m c t hA hx hc q => XS.istoreN hA hx rfl (hb hc hd) rfl hl q) nxt
theorem Run.istore {x : Nat} {v : Int32} (l' : Array Slot) (hd : decode code pc = .ok (.istore x, 2)) (hl : storeLocals Ls x (.int v) = some l') (hp : pc + 2 = pc') (nxt : Run l Z n0 own code maxL ret nm R Q pc' l' st h k n) : Run l Z n0 own code maxL ret nm R Q pc Ls (.int v :: st) h k n := by
  subst hp
  exact Run.stp (fun p e below T m c t hA hx hc q => XS.istore hA hx rfl (hb hc hd) rfl hl q) nxt
theorem Run.lstoreN {x : Fin 4} {v : Int64} (l' : Array Slot) (hd : decode code pc = .ok (.lstore_n x, 1)) (hl : storeLocals Ls x.val (.long v) = some l') (hp : pc + 1 = pc') (nxt : Run l Z n0 own code maxL ret nm R Q pc' l' st h k n) : Run l Z n0 own code maxL ret nm R Q pc Ls (.long v :: st) h k n := by
  subst hp
  exact Run.stp (fun p e below T m c t hA hx hc q => XT.lstoreN hA hx rfl (hb hc hd) rfl hl q) nxt
theorem Run.lstore {x : Nat} {v : Int64} (l' : Array Slot) (hd : decode code pc = .ok (.lstore x, 2)) (hl : storeLocals Ls x (.long v) = some l') (hp : pc + 2 = pc') (nxt : Run l Z n0 own code maxL ret nm R Q pc' l' st h k n) : Run l Z n0 own code maxL ret nm R Q pc Ls (.long v :: st) h k n := by
  subst hp
  exact Run.stp (fun p e below T m c t hA hx hc q => XT.lstore hA hx rfl (hb hc hd) rfl hl q) nxt
theorem Run.astoreN {x : Fin 4} {v : Value} (l' : Array Slot) (hd : decode code pc = .ok (.astore_n x, 1)) (hv : v.isRef = true) (hl : storeLocals Ls x.val v = some l') (hp : pc + 1 = pc') (nxt : Run l Z n0 own code maxL ret nm R Q pc' l' st h k n) : Run l Z n0 own code maxL ret nm R Q pc Ls (v :: st) h k n := by
  subst hp
  exact Run.stp (fun p e below T m c t hA hx hc q => XS.astoreN hA hx rfl (hb hc hd) rfl hv hl q) nxt
theorem Run.astore {x : Nat} {v : Value} (l' : Array Slot) (hd : decode code pc = .ok (.astore x, 2)) (hv : v.isRef = true) (hl : storeLocals Ls x v = some l') (hp : pc + 2 = pc') (nxt : Run l Z n0 own code maxL ret nm R Q pc' l' st h k n) : Run l Z n0 own code maxL ret nm R Q pc Ls (v :: st) h k n := by
  subst hp
  exact Run.stp (fun p e below T m c t hA hx hc q => XS.astore hA hx rfl (hb hc hd) rfl hv hl q) nxt
theorem Run.iinc {x : Nat} {i : Int} {u : Int32} (v : Int32) (l' : Array Slot) (hd : decode code pc = .ok (.iinc x i, 3)) (hv : Int32.ofInt i = v) (hg : Ls[x]? = some (.val (.int u))) (hl : storeLocals Ls x (.int (u + v)) = some l') (hp : pc + 3 = pc') (nxt : Run l Z n0 own code maxL ret nm R Q pc' l' st h k n) : Run l Z n0 own code maxL ret nm R Q pc Ls st h k n := by
  subst hp
  exact Run.stp (fun p e below T m c t hA hx hc q => XT.iincV hA hx rfl v (hb hc hd) hv hg hl q) nxt
theorem Run.iadd {x y : Int32} (hd : decode code pc = .ok (.iadd, 1))  (hp : pc + 1 = pc') (nxt : Run l Z n0 own code maxL ret nm R Q pc' Ls (.int (x + y) :: st) h k n) : Run l Z n0 own code maxL ret nm R Q pc Ls (.int y :: .int x :: st) h k n := by
  subst hp
  exact Run.stp (fun p e below T m c t hA hx hc q => XS.iadd hA hx rfl (hb hc hd) rfl q) nxt
theorem Run.isub {x y : Int32} (hd : decode code pc = .ok (.isub, 1))  (hp : pc + 1 = pc') (nxt : Run l Z n0 own code maxL ret nm R Q pc' Ls (.int (x - y) :: st) h k n) : Run l Z n0 own code maxL ret nm R Q pc Ls (.int y :: .int x :: st) h k n := by
  subst hp
  exact Run.stp (fun p e below T m c t hA hx hc q => XS.isub hA hx rfl (hb hc hd) rfl q) nxt
theorem Run.imul {x y : Int32} (hd : decode code pc = .ok (.imul, 1))  (hp : pc + 1 = pc') (nxt : Run l Z n0 own code maxL ret nm R Q pc' Ls (.int (x * y) :: st) h k n) : Run l Z n0 own code maxL ret nm R Q pc Ls (.int y :: .int x :: st) h k n := by
  subst hp
  exact Run.stp (fun p e below T m c t hA hx hc q => XS.imul hA hx rfl (hb hc hd) rfl q) nxt
theorem Run.iand {x y : Int32} (hd : decode code pc = .ok (.iand, 1))  (hp : pc + 1 = pc') (nxt : Run l Z n0 own code maxL ret nm R Q pc' Ls (.int (x &&& y) :: st) h k n) : Run l Z n0 own code maxL ret nm R Q pc Ls (.int y :: .int x :: st) h k n := by
  subst hp
  exact Run.stp (fun p e below T m c t hA hx hc q => XS.iand hA hx rfl (hb hc hd) rfl q) nxt
theorem Run.ior {x y : Int32} (hd : decode code pc = .ok (.ior, 1))  (hp : pc + 1 = pc') (nxt : Run l Z n0 own code maxL ret nm R Q pc' Ls (.int (x ||| y) :: st) h k n) : Run l Z n0 own code maxL ret nm R Q pc Ls (.int y :: .int x :: st) h k n := by
  subst hp
  exact Run.stp (fun p e below T m c t hA hx hc q => XT.ior hA hx rfl (hb hc hd) rfl q) nxt
theorem Run.ixor {x y : Int32} (hd : decode code pc = .ok (.ixor, 1))  (hp : pc + 1 = pc') (nxt : Run l Z n0 own code maxL ret nm R Q pc' Ls (.int (x ^^^ y) :: st) h k n) : Run l Z n0 own code maxL ret nm R Q pc Ls (.int y :: .int x :: st) h k n := by
  subst hp
  exact Run.stp (fun p e below T m c t hA hx hc q => XT.ixor hA hx rfl (hb hc hd) rfl q) nxt
theorem Run.ishl {x y : Int32} (hd : decode code pc = .ok (.ishl, 1))  (hp : pc + 1 = pc') (nxt : Run l Z n0 own code maxL ret nm R Q pc' Ls (.int (x <<< (y &&& 31)) :: st) h k n) : Run l Z n0 own code maxL ret nm R Q pc Ls (.int y :: .int x :: st) h k n := by
  subst hp
  exact Run.stp (fun p e below T m c t hA hx hc q => XT.ishl hA hx rfl (hb hc hd) rfl q) nxt
theorem Run.ishr {x y : Int32} (hd : decode code pc = .ok (.ishr, 1))  (hp : pc + 1 = pc') (nxt : Run l Z n0 own code maxL ret nm R Q pc' Ls (.int (x >>> (y &&& 31)) :: st) h k n) : Run l Z n0 own code maxL ret nm R Q pc Ls (.int y :: .int x :: st) h k n := by
  subst hp
  exact Run.stp (fun p e below T m c t hA hx hc q => XT.ishr hA hx rfl (hb hc hd) rfl q) nxt
theorem Run.iushr {x y : Int32} (hd : decode code pc = .ok (.iushr, 1))  (hp : pc + 1 = pc') (nxt : Run l Z n0 own code maxL ret nm R Q pc' Ls (.int (XT.ushr x y) :: st) h k n) : Run l Z n0 own code maxL ret nm R Q pc Ls (.int y :: .int x :: st) h k n := by
  subst hp
  exact Run.stp (fun p e below T m c t hA hx hc q => XT.iushr hA hx rfl (hb hc hd) rfl q) nxt
theorem Run.ladd {x y : Int64} (hd : decode code pc = .ok (.ladd, 1))  (hp : pc + 1 = pc') (nxt : Run l Z n0 own code maxL ret nm R Q pc' Ls (.long (x + y) :: st) h k n) : Run l Z n0 own code maxL ret nm R Q pc Ls (.long y :: .long x :: st) h k n := by
  subst hp
  exact Run.stp (fun p e below T m c t hA hx hc q => XT.ladd hA hx rfl (hb hc hd) rfl q) nxt
theorem Run.lsub {x y : Int64} (hd : decode code pc = .ok (.lsub, 1))  (hp : pc + 1 = pc') (nxt : Run l Z n0 own code maxL ret nm R Q pc' Ls (.long (x - y) :: st) h k n) : Run l Z n0 own code maxL ret nm R Q pc Ls (.long y :: .long x :: st) h k n := by
  subst hp
  exact Run.stp (fun p e below T m c t hA hx hc q => XT.lsub hA hx rfl (hb hc hd) rfl q) nxt
theorem Run.lmul {x y : Int64} (hd : decode code pc = .ok (.lmul, 1))  (hp : pc + 1 = pc') (nxt : Run l Z n0 own code maxL ret nm R Q pc' Ls (.long (x * y) :: st) h k n) : Run l Z n0 own code maxL ret nm R Q pc Ls (.long y :: .long x :: st) h k n := by
  subst hp
  exact Run.stp (fun p e below T m c t hA hx hc q => XT.lmul hA hx rfl (hb hc hd) rfl q) nxt
theorem Run.land {x y : Int64} (hd : decode code pc = .ok (.land, 1))  (hp : pc + 1 = pc') (nxt : Run l Z n0 own code maxL ret nm R Q pc' Ls (.long (x &&& y) :: st) h k n) : Run l Z n0 own code maxL ret nm R Q pc Ls (.long y :: .long x :: st) h k n := by
  subst hp
  exact Run.stp (fun p e below T m c t hA hx hc q => XT.land hA hx rfl (hb hc hd) rfl q) nxt
theorem Run.lor {x y : Int64} (hd : decode code pc = .ok (.lor, 1))  (hp : pc + 1 = pc') (nxt : Run l Z n0 own code maxL ret nm R Q pc' Ls (.long (x ||| y) :: st) h k n) : Run l Z n0 own code maxL ret nm R Q pc Ls (.long y :: .long x :: st) h k n := by
  subst hp
  exact Run.stp (fun p e below T m c t hA hx hc q => XT.lor hA hx rfl (hb hc hd) rfl q) nxt
theorem Run.lxor {x y : Int64} (hd : decode code pc = .ok (.lxor, 1))  (hp : pc + 1 = pc') (nxt : Run l Z n0 own code maxL ret nm R Q pc' Ls (.long (x ^^^ y) :: st) h k n) : Run l Z n0 own code maxL ret nm R Q pc Ls (.long y :: .long x :: st) h k n := by
  subst hp
  exact Run.stp (fun p e below T m c t hA hx hc q => XT.lxor hA hx rfl (hb hc hd) rfl q) nxt
theorem Run.idiv {x y : Int32} (hd : decode code pc = .ok (.idiv, 1)) (hy : y ≠ 0) (hp : pc + 1 = pc') (nxt : Run l Z n0 own code maxL ret nm R Q pc' Ls (.int (x / y) :: st) h k n) : Run l Z n0 own code maxL ret nm R Q pc Ls (.int y :: .int x :: st) h k n := by
  subst hp
  exact Run.stp (fun p e below T m c t hA hx hc q => XS.idiv hA hx rfl (hb hc hd) rfl hy q) nxt
theorem Run.irem {x y : Int32} (hd : decode code pc = .ok (.irem, 1)) (hy : y ≠ 0) (hp : pc + 1 = pc') (nxt : Run l Z n0 own code maxL ret nm R Q pc' Ls (.int (x % y) :: st) h k n) : Run l Z n0 own code maxL ret nm R Q pc Ls (.int y :: .int x :: st) h k n := by
  subst hp
  exact Run.stp (fun p e below T m c t hA hx hc q => XS.irem hA hx rfl (hb hc hd) rfl hy (by rw [irem_eq_mod]; exact q)) nxt
theorem Run.ldiv {x y : Int64} (hd : decode code pc = .ok (.ldiv, 1)) (hy : y ≠ 0) (hp : pc + 1 = pc') (nxt : Run l Z n0 own code maxL ret nm R Q pc' Ls (.long (x / y) :: st) h k n) : Run l Z n0 own code maxL ret nm R Q pc Ls (.long y :: .long x :: st) h k n := by
  subst hp
  exact Run.stp (fun p e below T m c t hA hx hc q => XT.ldiv hA hx rfl (hb hc hd) rfl hy q) nxt
theorem Run.lrem {x y : Int64} (hd : decode code pc = .ok (.lrem, 1)) (hy : y ≠ 0) (hp : pc + 1 = pc') (nxt : Run l Z n0 own code maxL ret nm R Q pc' Ls (.long (x % y) :: st) h k n) : Run l Z n0 own code maxL ret nm R Q pc Ls (.long y :: .long x :: st) h k n := by
  subst hp
  exact Run.stp (fun p e below T m c t hA hx hc q => XT.lrem hA hx rfl (hb hc hd) rfl hy (by rw [lrem_mod]; exact q)) nxt
theorem Run.ineg {x : Int32} (hd : decode code pc = .ok (.ineg, 1))  (hp : pc + 1 = pc') (nxt : Run l Z n0 own code maxL ret nm R Q pc' Ls (.int (-x) :: st) h k n) : Run l Z n0 own code maxL ret nm R Q pc Ls (.int x :: st) h k n := by
  subst hp
  exact Run.stp (fun p e below T m c t hA hx hc q => XS.ineg hA hx rfl (hb hc hd) rfl q) nxt
theorem Run.lneg {x : Int64} (hd : decode code pc = .ok (.lneg, 1))  (hp : pc + 1 = pc') (nxt : Run l Z n0 own code maxL ret nm R Q pc' Ls (.long (-x) :: st) h k n) : Run l Z n0 own code maxL ret nm R Q pc Ls (.long x :: st) h k n := by
  subst hp
  exact Run.stp (fun p e below T m c t hA hx hc q => XT.lneg hA hx rfl (hb hc hd) rfl q) nxt
theorem Run.i2l {x : Int32} (hd : decode code pc = .ok (.i2l, 1))  (hp : pc + 1 = pc') (nxt : Run l Z n0 own code maxL ret nm R Q pc' Ls (.long x.toInt64 :: st) h k n) : Run l Z n0 own code maxL ret nm R Q pc Ls (.int x :: st) h k n := by
  subst hp
  exact Run.stp (fun p e below T m c t hA hx hc q => XT.i2l hA hx rfl (hb hc hd) rfl q) nxt
theorem Run.l2i {x : Int64} (hd : decode code pc = .ok (.l2i, 1))  (hp : pc + 1 = pc') (nxt : Run l Z n0 own code maxL ret nm R Q pc' Ls (.int x.toInt32 :: st) h k n) : Run l Z n0 own code maxL ret nm R Q pc Ls (.long x :: st) h k n := by
  subst hp
  exact Run.stp (fun p e below T m c t hA hx hc q => XT.l2i hA hx rfl (hb hc hd) rfl q) nxt
theorem Run.i2b {x : Int32} (hd : decode code pc = .ok (.i2b, 1))  (hp : pc + 1 = pc') (nxt : Run l Z n0 own code maxL ret nm R Q pc' Ls (.int (nar .byte x) :: st) h k n) : Run l Z n0 own code maxL ret nm R Q pc Ls (.int x :: st) h k n := by
  subst hp
  exact Run.stp (fun p e below T m c t hA hx hc q => XT.i2b hA hx rfl (hb hc hd) rfl q) nxt
theorem Run.i2c {x : Int32} (hd : decode code pc = .ok (.i2c, 1))  (hp : pc + 1 = pc') (nxt : Run l Z n0 own code maxL ret nm R Q pc' Ls (.int (nar .char x) :: st) h k n) : Run l Z n0 own code maxL ret nm R Q pc Ls (.int x :: st) h k n := by
  subst hp
  exact Run.stp (fun p e below T m c t hA hx hc q => XT.i2c hA hx rfl (hb hc hd) rfl q) nxt
theorem Run.i2s {x : Int32} (hd : decode code pc = .ok (.i2s, 1))  (hp : pc + 1 = pc') (nxt : Run l Z n0 own code maxL ret nm R Q pc' Ls (.int (nar .short x) :: st) h k n) : Run l Z n0 own code maxL ret nm R Q pc Ls (.int x :: st) h k n := by
  subst hp
  exact Run.stp (fun p e below T m c t hA hx hc q => XT.i2s hA hx rfl (hb hc hd) rfl q) nxt
theorem Run.lshl {x : Int64} {y : Int32} (hd : decode code pc = .ok (.lshl, 1))  (hp : pc + 1 = pc') (nxt : Run l Z n0 own code maxL ret nm R Q pc' Ls (.long (x <<< (y.toInt64 &&& 63)) :: st) h k n) : Run l Z n0 own code maxL ret nm R Q pc Ls (.int y :: .long x :: st) h k n := by
  subst hp
  exact Run.stp (fun p e below T m c t hA hx hc q => XT.lshl hA hx rfl (hb hc hd) rfl q) nxt
theorem Run.lshr {x : Int64} {y : Int32} (hd : decode code pc = .ok (.lshr, 1))  (hp : pc + 1 = pc') (nxt : Run l Z n0 own code maxL ret nm R Q pc' Ls (.long (x >>> (y.toInt64 &&& 63)) :: st) h k n) : Run l Z n0 own code maxL ret nm R Q pc Ls (.int y :: .long x :: st) h k n := by
  subst hp
  exact Run.stp (fun p e below T m c t hA hx hc q => XT.lshr hA hx rfl (hb hc hd) rfl q) nxt
theorem Run.lushr {x : Int64} {y : Int32} (hd : decode code pc = .ok (.lushr, 1))  (hp : pc + 1 = pc') (nxt : Run l Z n0 own code maxL ret nm R Q pc' Ls (.long (XT.ushrL x y) :: st) h k n) : Run l Z n0 own code maxL ret nm R Q pc Ls (.int y :: .long x :: st) h k n := by
  subst hp
  exact Run.stp (fun p e below T m c t hA hx hc q => XT.lushr hA hx rfl (hb hc hd) rfl q) nxt
theorem Run.lcmp {x y : Int64} (hd : decode code pc = .ok (.lcmp, 1))  (hp : pc + 1 = pc') (nxt : Run l Z n0 own code maxL ret nm R Q pc' Ls (.int (XT.cmpL x y) :: st) h k n) : Run l Z n0 own code maxL ret nm R Q pc Ls (.long y :: .long x :: st) h k n := by
  subst hp
  exact Run.stp (fun p e below T m c t hA hx hc q => XT.lcmp hA hx rfl (hb hc hd) rfl q) nxt
theorem Run.dup {x : Value} (hd : decode code pc = .ok (.dup, 1)) (hv : x.category = 1) (hp : pc + 1 = pc') (nxt : Run l Z n0 own code maxL ret nm R Q pc' Ls (x :: x :: st) h k n) : Run l Z n0 own code maxL ret nm R Q pc Ls (x :: st) h k n := by
  subst hp
  exact Run.stp (fun p e below T m c t hA hx hc q => XS.dup hA hx rfl (hb hc hd) rfl hv q) nxt
theorem Run.pop {x : Value} (hd : decode code pc = .ok (.pop, 1)) (hv : x.category = 1) (hp : pc + 1 = pc') (nxt : Run l Z n0 own code maxL ret nm R Q pc' Ls st h k n) : Run l Z n0 own code maxL ret nm R Q pc Ls (x :: st) h k n := by
  subst hp
  exact Run.stp (fun p e below T m c t hA hx hc q => XT.pop hA hx rfl (hb hc hd) rfl hv q) nxt
theorem Run.dupX1 {x y : Value} (hd : decode code pc = .ok (.dup_x1, 1)) (hv : x.category = 1) (hv' : y.category = 1) (hp : pc + 1 = pc') (nxt : Run l Z n0 own code maxL ret nm R Q pc' Ls (x :: y :: x :: st) h k n) : Run l Z n0 own code maxL ret nm R Q pc Ls (x :: y :: st) h k n := by
  subst hp
  exact Run.stp (fun p e below T m c t hA hx hc q => XT.dupX1 hA hx rfl (hb hc hd) rfl hv hv' q) nxt
theorem Run.dup2 {x y : Value} (hd : decode code pc = .ok (.dup2, 1)) (hv : x.category = 1) (hv' : y.category = 1) (hp : pc + 1 = pc') (nxt : Run l Z n0 own code maxL ret nm R Q pc' Ls (x :: y :: x :: y :: st) h k n) : Run l Z n0 own code maxL ret nm R Q pc Ls (x :: y :: st) h k n := by
  subst hp
  exact Run.stp (fun p e below T m c t hA hx hc q => XT.dup2 hA hx rfl (hb hc hd) rfl hv hv' q) nxt
theorem Run.dup2L {x : Int64} (hd : decode code pc = .ok (.dup2, 1))  (hp : pc + 1 = pc') (nxt : Run l Z n0 own code maxL ret nm R Q pc' Ls (.long x :: .long x :: st) h k n) : Run l Z n0 own code maxL ret nm R Q pc Ls (.long x :: st) h k n := by
  subst hp
  exact Run.stp (fun p e below T m c t hA hx hc q => XT.dup2L hA hx rfl (hb hc hd) rfl q) nxt
theorem Run.goto {o : Int} (hd : decode code pc = .ok (.goto o, 3)) (ho : 0 ≤ (pc : Int) + o) (hp : ((pc : Int) + o).toNat = pc') (nxt : Run l Z n0 own code maxL ret nm R Q pc' Ls st h k n) : Run l Z n0 own code maxL ret nm R Q pc Ls st h k n :=
  Run.stp (fun p e below T m c t hA hx hc q => XS.goto hA hx rfl rfl (hb hc hd) ho hp q) nxt
theorem Run.if_eq {x : Int32} {o : Int} {pa : Nat} (hd : decode code pc = .ok (.ifCond .eq o, 3)) (ho : 0 ≤ (pc : Int) + o) (hp : ((pc : Int) + o).toNat = pc') (hq : pc + 3 = pa)
    (yes : x = 0 → Run l Z n0 own code maxL ret nm R Q pc' Ls st h k n) (no : ¬ x = 0 → Run l Z n0 own code maxL ret nm R Q pa Ls st h k n) : Run l Z n0 own code maxL ret nm R Q pc Ls (.int x :: st) h k n := by
  subst hq
  by_cases hc : x = 0
  · exact Run.stp (fun p e below T m c t hA hx hb' q => XS.ifYes hA hx rfl rfl (hb hb' hd) rfl (XT.i0_eq_t hc) ho hp q) (yes hc)
  · exact Run.stp (fun p e below T m c t hA hx hb' q => XS.ifNo hA hx rfl (hb hb' hd) rfl (XT.i0_eq_f hc) q) (no hc)
theorem Run.icmp_eq {x y : Int32} {o : Int} {pa : Nat} (hd : decode code pc = .ok (.if_icmp .eq o, 3)) (ho : 0 ≤ (pc : Int) + o) (hp : ((pc : Int) + o).toNat = pc') (hq : pc + 3 = pa)
    (yes : x = y → Run l Z n0 own code maxL ret nm R Q pc' Ls st h k n) (no : ¬ x = y → Run l Z n0 own code maxL ret nm R Q pa Ls st h k n) : Run l Z n0 own code maxL ret nm R Q pc Ls (.int y :: .int x :: st) h k n := by
  subst hq
  by_cases hc : x = y
  · exact Run.stp (fun p e below T m c t hA hx hb' q => XS.icmpYes hA hx rfl rfl (hb hb' hd) rfl (XT.ii_eq_t hc) ho hp q) (yes hc)
  · exact Run.stp (fun p e below T m c t hA hx hb' q => XS.icmpNo hA hx rfl (hb hb' hd) rfl (XT.ii_eq_f hc) q) (no hc)
theorem Run.if_ne {x : Int32} {o : Int} {pa : Nat} (hd : decode code pc = .ok (.ifCond .ne o, 3)) (ho : 0 ≤ (pc : Int) + o) (hp : ((pc : Int) + o).toNat = pc') (hq : pc + 3 = pa)
    (yes : ¬ x = 0 → Run l Z n0 own code maxL ret nm R Q pc' Ls st h k n) (no : x = 0 → Run l Z n0 own code maxL ret nm R Q pa Ls st h k n) : Run l Z n0 own code maxL ret nm R Q pc Ls (.int x :: st) h k n := by
  subst hq
  by_cases hc : x = 0
  · exact Run.stp (fun p e below T m c t hA hx hb' q => XS.ifNo hA hx rfl (hb hb' hd) rfl (XT.i0_ne_f hc) q) (no (by simpa using hc))
  · exact Run.stp (fun p e below T m c t hA hx hb' q => XS.ifYes hA hx rfl rfl (hb hb' hd) rfl (XT.i0_ne_t hc) ho hp q) (yes hc)
theorem Run.icmp_ne {x y : Int32} {o : Int} {pa : Nat} (hd : decode code pc = .ok (.if_icmp .ne o, 3)) (ho : 0 ≤ (pc : Int) + o) (hp : ((pc : Int) + o).toNat = pc') (hq : pc + 3 = pa)
    (yes : ¬ x = y → Run l Z n0 own code maxL ret nm R Q pc' Ls st h k n) (no : x = y → Run l Z n0 own code maxL ret nm R Q pa Ls st h k n) : Run l Z n0 own code maxL ret nm R Q pc Ls (.int y :: .int x :: st) h k n := by
  subst hq
  by_cases hc : x = y
  · exact Run.stp (fun p e below T m c t hA hx hb' q => XS.icmpNo hA hx rfl (hb hb' hd) rfl (XT.ii_ne_f hc) q) (no (by simpa using hc))
  · exact Run.stp (fun p e below T m c t hA hx hb' q => XS.icmpYes hA hx rfl rfl (hb hb' hd) rfl (XT.ii_ne_t hc) ho hp q) (yes hc)
theorem Run.if_lt {x : Int32} {o : Int} {pa : Nat} (hd : decode code pc = .ok (.ifCond .lt o, 3)) (ho : 0 ≤ (pc : Int) + o) (hp : ((pc : Int) + o).toNat = pc') (hq : pc + 3 = pa)
    (yes : x < 0 → Run l Z n0 own code maxL ret nm R Q pc' Ls st h k n) (no : ¬ x < 0 → Run l Z n0 own code maxL ret nm R Q pa Ls st h k n) : Run l Z n0 own code maxL ret nm R Q pc Ls (.int x :: st) h k n := by
  subst hq
  by_cases hc : x < 0
  · exact Run.stp (fun p e below T m c t hA hx hb' q => XS.ifYes hA hx rfl rfl (hb hb' hd) rfl (XT.i0_lt_t hc) ho hp q) (yes hc)
  · exact Run.stp (fun p e below T m c t hA hx hb' q => XS.ifNo hA hx rfl (hb hb' hd) rfl (XT.i0_lt_f hc) q) (no hc)
theorem Run.icmp_lt {x y : Int32} {o : Int} {pa : Nat} (hd : decode code pc = .ok (.if_icmp .lt o, 3)) (ho : 0 ≤ (pc : Int) + o) (hp : ((pc : Int) + o).toNat = pc') (hq : pc + 3 = pa)
    (yes : x < y → Run l Z n0 own code maxL ret nm R Q pc' Ls st h k n) (no : ¬ x < y → Run l Z n0 own code maxL ret nm R Q pa Ls st h k n) : Run l Z n0 own code maxL ret nm R Q pc Ls (.int y :: .int x :: st) h k n := by
  subst hq
  by_cases hc : x < y
  · exact Run.stp (fun p e below T m c t hA hx hb' q => XS.icmpYes hA hx rfl rfl (hb hb' hd) rfl (XT.ii_lt_t hc) ho hp q) (yes hc)
  · exact Run.stp (fun p e below T m c t hA hx hb' q => XS.icmpNo hA hx rfl (hb hb' hd) rfl (XT.ii_lt_f hc) q) (no hc)
theorem Run.if_ge {x : Int32} {o : Int} {pa : Nat} (hd : decode code pc = .ok (.ifCond .ge o, 3)) (ho : 0 ≤ (pc : Int) + o) (hp : ((pc : Int) + o).toNat = pc') (hq : pc + 3 = pa)
    (yes : ¬ x < 0 → Run l Z n0 own code maxL ret nm R Q pc' Ls st h k n) (no : x < 0 → Run l Z n0 own code maxL ret nm R Q pa Ls st h k n) : Run l Z n0 own code maxL ret nm R Q pc Ls (.int x :: st) h k n := by
  subst hq
  by_cases hc : x < 0
  · exact Run.stp (fun p e below T m c t hA hx hb' q => XS.ifNo hA hx rfl (hb hb' hd) rfl (XT.i0_ge_f hc) q) (no (by simpa using hc))
  · exact Run.stp (fun p e below T m c t hA hx hb' q => XS.ifYes hA hx rfl rfl (hb hb' hd) rfl (XT.i0_ge_t hc) ho hp q) (yes hc)
theorem Run.icmp_ge {x y : Int32} {o : Int} {pa : Nat} (hd : decode code pc = .ok (.if_icmp .ge o, 3)) (ho : 0 ≤ (pc : Int) + o) (hp : ((pc : Int) + o).toNat = pc') (hq : pc + 3 = pa)
    (yes : ¬ x < y → Run l Z n0 own code maxL ret nm R Q pc' Ls st h k n) (no : x < y → Run l Z n0 own code maxL ret nm R Q pa Ls st h k n) : Run l Z n0 own code maxL ret nm R Q pc Ls (.int y :: .int x :: st) h k n := by
  subst hq
  by_cases hc : x < y
  · exact Run.stp (fun p e below T m c t hA hx hb' q => XS.icmpNo hA hx rfl (hb hb' hd) rfl (XT.ii_ge_f hc) q) (no (by simpa using hc))
  · exact Run.stp (fun p e below T m c t hA hx hb' q => XS.icmpYes hA hx rfl rfl (hb hb' hd) rfl (XT.ii_ge_t hc) ho hp q) (yes hc)
theorem Run.if_gt {x : Int32} {o : Int} {pa : Nat} (hd : decode code pc = .ok (.ifCond .gt o, 3)) (ho : 0 ≤ (pc : Int) + o) (hp : ((pc : Int) + o).toNat = pc') (hq : pc + 3 = pa)
    (yes : 0 < x → Run l Z n0 own code maxL ret nm R Q pc' Ls st h k n) (no : ¬ 0 < x → Run l Z n0 own code maxL ret nm R Q pa Ls st h k n) : Run l Z n0 own code maxL ret nm R Q pc Ls (.int x :: st) h k n := by
  subst hq
  by_cases hc : 0 < x
  · exact Run.stp (fun p e below T m c t hA hx hb' q => XS.ifYes hA hx rfl rfl (hb hb' hd) rfl (XT.i0_gt_t hc) ho hp q) (yes hc)
  · exact Run.stp (fun p e below T m c t hA hx hb' q => XS.ifNo hA hx rfl (hb hb' hd) rfl (XT.i0_gt_f hc) q) (no hc)
theorem Run.icmp_gt {x y : Int32} {o : Int} {pa : Nat} (hd : decode code pc = .ok (.if_icmp .gt o, 3)) (ho : 0 ≤ (pc : Int) + o) (hp : ((pc : Int) + o).toNat = pc') (hq : pc + 3 = pa)
    (yes : y < x → Run l Z n0 own code maxL ret nm R Q pc' Ls st h k n) (no : ¬ y < x → Run l Z n0 own code maxL ret nm R Q pa Ls st h k n) : Run l Z n0 own code maxL ret nm R Q pc Ls (.int y :: .int x :: st) h k n := by
  subst hq
  by_cases hc : y < x
  · exact Run.stp (fun p e below T m c t hA hx hb' q => XS.icmpYes hA hx rfl rfl (hb hb' hd) rfl (XT.ii_gt_t hc) ho hp q) (yes hc)
  · exact Run.stp (fun p e below T m c t hA hx hb' q => XS.icmpNo hA hx rfl (hb hb' hd) rfl (XT.ii_gt_f hc) q) (no hc)
theorem Run.if_le {x : Int32} {o : Int} {pa : Nat} (hd : decode code pc = .ok (.ifCond .le o, 3)) (ho : 0 ≤ (pc : Int) + o) (hp : ((pc : Int) + o).toNat = pc') (hq : pc + 3 = pa)
    (yes : ¬ 0 < x → Run l Z n0 own code maxL ret nm R Q pc' Ls st h k n) (no : 0 < x → Run l Z n0 own code maxL ret nm R Q pa Ls st h k n) : Run l Z n0 own code maxL ret nm R Q pc Ls (.int x :: st) h k n := by
  subst hq
  by_cases hc : 0 < x
  · exact Run.stp (fun p e below T m c t hA hx hb' q => XS.ifNo hA hx rfl (hb hb' hd) rfl (XT.i0_le_f hc) q) (no (by simpa using hc))
  · exact Run.stp (fun p e below T m c t hA hx hb' q => XS.ifYes hA hx rfl rfl (hb hb' hd) rfl (XT.i0_le_t hc) ho hp q) (yes hc)
theorem Run.icmp_le {x y : Int32} {o : Int} {pa : Nat} (hd : decode code pc = .ok (.if_icmp .le o, 3)) (ho : 0 ≤ (pc : Int) + o) (hp : ((pc : Int) + o).toNat = pc') (hq : pc + 3 = pa)
    (yes : ¬ y < x → Run l Z n0 own code maxL ret nm R Q pc' Ls st h k n) (no : y < x → Run l Z n0 own code maxL ret nm R Q pa Ls st h k n) : Run l Z n0 own code maxL ret nm R Q pc Ls (.int y :: .int x :: st) h k n := by
  subst hq
  by_cases hc : y < x
  · exact Run.stp (fun p e below T m c t hA hx hb' q => XS.icmpNo hA hx rfl (hb hb' hd) rfl (XT.ii_le_f hc) q) (no (by simpa using hc))
  · exact Run.stp (fun p e below T m c t hA hx hb' q => XS.icmpYes hA hx rfl rfl (hb hb' hd) rfl (XT.ii_le_t hc) ho hp q) (yes hc)
theorem Run.lif_eq {x y : Int64} {o : Int} {pa : Nat} (hd : decode code pc = .ok (.ifCond .eq o, 3)) (ho : 0 ≤ (pc : Int) + o) (hp : ((pc : Int) + o).toNat = pc') (hq : pc + 3 = pa)
    (yes : x = y → Run l Z n0 own code maxL ret nm R Q pc' Ls st h k n) (no : ¬ x = y → Run l Z n0 own code maxL ret nm R Q pa Ls st h k n) : Run l Z n0 own code maxL ret nm R Q pc Ls (.int (XT.cmpL x y) :: st) h k n := by
  subst hq
  by_cases hc : x = y
  · exact Run.stp (fun p e below T m c t hA hx hb' q => XS.ifYes hA hx rfl rfl (hb hb' hd) rfl (XT.ll_eq_t hc) ho hp q) (yes hc)
  · exact Run.stp (fun p e below T m c t hA hx hb' q => XS.ifNo hA hx rfl (hb hb' hd) rfl (XT.ll_eq_f hc) q) (no hc)
theorem Run.lif_ne {x y : Int64} {o : Int} {pa : Nat} (hd : decode code pc = .ok (.ifCond .ne o, 3)) (ho : 0 ≤ (pc : Int) + o) (hp : ((pc : Int) + o).toNat = pc') (hq : pc + 3 = pa)
    (yes : ¬ x = y → Run l Z n0 own code maxL ret nm R Q pc' Ls st h k n) (no : x = y → Run l Z n0 own code maxL ret nm R Q pa Ls st h k n) : Run l Z n0 own code maxL ret nm R Q pc Ls (.int (XT.cmpL x y) :: st) h k n := by
  subst hq
  by_cases hc : x = y
  · exact Run.stp (fun p e below T m c t hA hx hb' q => XS.ifNo hA hx rfl (hb hb' hd) rfl (XT.ll_ne_f hc) q) (no (by simpa using hc))
  · exact Run.stp (fun p e below T m c t hA hx hb' q => XS.ifYes hA hx rfl rfl (hb hb' hd) rfl (XT.ll_ne_t hc) ho hp q) (yes hc)
theorem Run.lif_lt {x y : Int64} {o : Int} {pa : Nat} (hd : decode code pc = .ok (.ifCond .lt o, 3)) (ho : 0 ≤ (pc : Int) + o) (hp : ((pc : Int) + o).toNat = pc') (hq : pc + 3 = pa)
    (yes : x < y → Run l Z n0 own code maxL ret nm R Q pc' Ls st h k n) (no : ¬ x < y → Run l Z n0 own code maxL ret nm R Q pa Ls st h k n) : Run l Z n0 own code maxL ret nm R Q pc Ls (.int (XT.cmpL x y) :: st) h k n := by
  subst hq
  by_cases hc : x < y
  · exact Run.stp (fun p e below T m c t hA hx hb' q => XS.ifYes hA hx rfl rfl (hb hb' hd) rfl (XT.ll_lt_t hc) ho hp q) (yes hc)
  · exact Run.stp (fun p e below T m c t hA hx hb' q => XS.ifNo hA hx rfl (hb hb' hd) rfl (XT.ll_lt_f hc) q) (no hc)
theorem Run.lif_ge {x y : Int64} {o : Int} {pa : Nat} (hd : decode code pc = .ok (.ifCond .ge o, 3)) (ho : 0 ≤ (pc : Int) + o) (hp : ((pc : Int) + o).toNat = pc') (hq : pc + 3 = pa)
    (yes : ¬ x < y → Run l Z n0 own code maxL ret nm R Q pc' Ls st h k n) (no : x < y → Run l Z n0 own code maxL ret nm R Q pa Ls st h k n) : Run l Z n0 own code maxL ret nm R Q pc Ls (.int (XT.cmpL x y) :: st) h k n := by
  subst hq
  by_cases hc : x < y
  · exact Run.stp (fun p e below T m c t hA hx hb' q => XS.ifNo hA hx rfl (hb hb' hd) rfl (XT.ll_ge_f hc) q) (no (by simpa using hc))
  · exact Run.stp (fun p e below T m c t hA hx hb' q => XS.ifYes hA hx rfl rfl (hb hb' hd) rfl (XT.ll_ge_t hc) ho hp q) (yes hc)
theorem Run.lif_gt {x y : Int64} {o : Int} {pa : Nat} (hd : decode code pc = .ok (.ifCond .gt o, 3)) (ho : 0 ≤ (pc : Int) + o) (hp : ((pc : Int) + o).toNat = pc') (hq : pc + 3 = pa)
    (yes : y < x → Run l Z n0 own code maxL ret nm R Q pc' Ls st h k n) (no : ¬ y < x → Run l Z n0 own code maxL ret nm R Q pa Ls st h k n) : Run l Z n0 own code maxL ret nm R Q pc Ls (.int (XT.cmpL x y) :: st) h k n := by
  subst hq
  by_cases hc : y < x
  · exact Run.stp (fun p e below T m c t hA hx hb' q => XS.ifYes hA hx rfl rfl (hb hb' hd) rfl (XT.ll_gt_t hc) ho hp q) (yes hc)
  · exact Run.stp (fun p e below T m c t hA hx hb' q => XS.ifNo hA hx rfl (hb hb' hd) rfl (XT.ll_gt_f hc) q) (no hc)
theorem Run.lif_le {x y : Int64} {o : Int} {pa : Nat} (hd : decode code pc = .ok (.ifCond .le o, 3)) (ho : 0 ≤ (pc : Int) + o) (hp : ((pc : Int) + o).toNat = pc') (hq : pc + 3 = pa)
    (yes : ¬ y < x → Run l Z n0 own code maxL ret nm R Q pc' Ls st h k n) (no : y < x → Run l Z n0 own code maxL ret nm R Q pa Ls st h k n) : Run l Z n0 own code maxL ret nm R Q pc Ls (.int (XT.cmpL x y) :: st) h k n := by
  subst hq
  by_cases hc : y < x
  · exact Run.stp (fun p e below T m c t hA hx hb' q => XS.ifNo hA hx rfl (hb hb' hd) rfl (XT.ll_le_f hc) q) (no (by simpa using hc))
  · exact Run.stp (fun p e below T m c t hA hx hb' q => XS.ifYes hA hx rfl rfl (hb hb' hd) rfl (XT.ll_le_t hc) ho hp q) (yes hc)
theorem Run.acmp_eq {x y : Value} {o : Int} {pa : Nat} (hd : decode code pc = .ok (.if_acmp .eq o, 3)) (hv : x.isRef = true) (hv' : y.isRef = true) (ho : 0 ≤ (pc : Int) + o) (hp : ((pc : Int) + o).toNat = pc') (hq : pc + 3 = pa)
    (yes : x = y → Run l Z n0 own code maxL ret nm R Q pc' Ls st h k n) (no : ¬ x = y → Run l Z n0 own code maxL ret nm R Q pa Ls st h k n) : Run l Z n0 own code maxL ret nm R Q pc Ls (y :: x :: st) h k n := by
  subst hq
  by_cases hc : x = y
  · exact Run.stp (fun p e below T m c t hA hx hb' q => XT.acmpYes hA hx rfl rfl (hb hb' hd) rfl hv hv' (XT.aa_eq_t hc) ho hp q) (yes hc)
  · exact Run.stp (fun p e below T m c t hA hx hb' q => XT.acmpNo hA hx rfl (hb hb' hd) rfl hv hv' (XT.aa_eq_f hc) q) (no hc)
theorem Run.acmp_ne {x y : Value} {o : Int} {pa : Nat} (hd : decode code pc = .ok (.if_acmp .ne o, 3)) (hv : x.isRef = true) (hv' : y.isRef = true) (ho : 0 ≤ (pc : Int) + o) (hp : ((pc : Int) + o).toNat = pc') (hq : pc + 3 = pa)
    (yes : ¬ x = y → Run l Z n0 own code maxL ret nm R Q pc' Ls st h k n) (no : x = y → Run l Z n0 own code maxL ret nm R Q pa Ls st h k n) : Run l Z n0 own code maxL ret nm R Q pc Ls (y :: x :: st) h k n := by
  subst hq
  by_cases hc : x = y
  · exact Run.stp (fun p e below T m c t hA hx hb' q => XT.acmpNo hA hx rfl (hb hb' hd) rfl hv hv' (XT.aa_ne_f hc) q) (no (by simpa using hc))
  · exact Run.stp (fun p e below T m c t hA hx hb' q => XT.acmpYes hA hx rfl rfl (hb hb' hd) rfl hv hv' (XT.aa_ne_t hc) ho hp q) (yes hc)
theorem Run.ifnull {v : Value} {o : Int} {pa : Nat} (hd : decode code pc = .ok (.ifnull o, 3)) (hv : v.isRef = true) (ho : 0 ≤ (pc : Int) + o) (hp : ((pc : Int) + o).toNat = pc') (hq : pc + 3 = pa)
    (yes : v = .null → Run l Z n0 own code maxL ret nm R Q pc' Ls st h k n) (no : ¬ v = .null → Run l Z n0 own code maxL ret nm R Q pa Ls st h k n) : Run l Z n0 own code maxL ret nm R Q pc Ls (v :: st) h k n := by
  subst hq
  by_cases hc : v = .null
  · exact Run.stp (fun p e below T m c t hA hx hb' q => XT.nullYes hA hx rfl rfl (hb hb' hd) rfl hc ho hp q) (yes hc)
  · exact Run.stp (fun p e below T m c t hA hx hb' q => XT.nullNo hA hx rfl (hb hb' hd) rfl hv hc q) (no hc)
theorem Run.ifnonnull {v : Value} {o : Int} {pa : Nat} (hd : decode code pc = .ok (.ifnonnull o, 3)) (hv : v.isRef = true) (ho : 0 ≤ (pc : Int) + o) (hp : ((pc : Int) + o).toNat = pc') (hq : pc + 3 = pa)
    (yes : ¬ v = .null → Run l Z n0 own code maxL ret nm R Q pc' Ls st h k n) (no : v = .null → Run l Z n0 own code maxL ret nm R Q pa Ls st h k n) : Run l Z n0 own code maxL ret nm R Q pc Ls (v :: st) h k n := by
  subst hq
  by_cases hc : v = .null
  · exact Run.stp (fun p e below T m c t hA hx hb' q => XT.nonnullNo hA hx rfl (hb hb' hd) rfl hc q) (no hc)
  · exact Run.stp (fun p e below T m c t hA hx hb' q => XT.nonnullYes hA hx rfl rfl (hb hb' hd) rfl hv hc ho hp q) (yes hc)
/-! the pool's constants, fields, statics -/
theorem Run.ldcI {a0 : Array Value} {i : Nat} {v : Int32} (hd : decode code pc = .ok (.ldc i, 2)) (w : (Cond.constant own i v).before a0 Z = true) (hp : pc + 2 = pc') (nxt : Run l Z n0 own code maxL ret nm R Q pc' Ls (.int v :: st) h k n) : Run l Z n0 own code maxL ret nm R Q pc Ls st h k n := by
  subst hp
  exact Run.via (fun p e s m args below meth c T locs cells slots hC X eT => ⟨T, X, eT, fun t q => X.ldcI hC.1 hC.2.2.1 (mvT hC.2.1 w) rfl (hb hC.2.2.2.1 hd) q⟩) nxt
theorem Run.ldcWI {a0 : Array Value} {i : Nat} {v : Int32} (hd : decode code pc = .ok (.ldc_w i, 3)) (w : (Cond.constant own i v).before a0 Z = true) (hp : pc + 3 = pc') (nxt : Run l Z n0 own code maxL ret nm R Q pc' Ls (.int v :: st) h k n) : Run l Z n0 own code maxL ret nm R Q pc Ls st h k n := by
  subst hp
  exact Run.via (fun p e s m args below meth c T locs cells slots hC X eT => ⟨T, X, eT, fun t q => X.ldcWI hC.1 hC.2.2.1 (mvT hC.2.1 w) rfl (hb hC.2.2.2.1 hd) q⟩) nxt
theorem Run.ldc2J {a0 : Array Value} {i : Nat} {v : Int64} (hd : decode code pc = .ok (.ldc2_w i, 3)) (w : (Cond.constantLong own i v).before a0 Z = true) (hp : pc + 3 = pc') (nxt : Run l Z n0 own code maxL ret nm R Q pc' Ls (.long v :: st) h k n) : Run l Z n0 own code maxL ret nm R Q pc Ls st h k n := by
  subst hp
  exact Run.via (fun p e s m args below meth c T locs cells slots hC X eT => ⟨T, X, eT, fun t q => X.ldc2J hC.1 hC.2.2.1 (mvT hC.2.1 w) rfl (hb hC.2.2.2.1 hd) q⟩) nxt
theorem Run.getS {a0 : Array Value} {R0 O f d host : String} {i : Nat} {v : Value} (hd : decode code pc = .ok (.getstatic i, 3)) (w : (Cond.fieldLink own i R0 f d).before a0 Z = true ∨ (Cond.fieldLinkNest own i R0 f d host).before a0 Z = true) (via : Via Z R0 O f d) (F : Sta Z h O f d v) (hp : pc + 3 = pc') (nxt : Run l Z n0 own code maxL ret nm R Q pc' Ls (v :: st) h k n) : Run l Z n0 own code maxL ret nm R Q pc Ls st h k n := by
  subst hp
  exact Run.via (fun p e s m args below meth c T locs cells slots hC X eT => getS2 X hC.1 hC.2.1 hC.2.2.1 w via eT F (g := mkF m pc Ls st) rfl (hb hC.2.2.2.1 hd)) nxt
theorem Run.getF {a0 : Array Value} {R0 O f d host : String} {i : Nat} {a : Addr} {v : Value} (hd : decode code pc = .ok (.getfield i, 3)) (w : (Cond.fieldLink own i R0 f d).before a0 Z = true ∨ (Cond.fieldLinkNest own i R0 f d host).before a0 Z = true) (via : Via Z R0 O f d) (F : Fld Z h a O f d v) (hp : pc + 3 = pc') (nxt : Run l Z n0 own code maxL ret nm R Q pc' Ls (v :: st) h k n) : Run l Z n0 own code maxL ret nm R Q pc Ls (.ref a :: st) h k n := by
  subst hp
  exact Run.via (fun p e s m args below meth c T locs cells slots hC X eT => getF X hC.1 hC.2.1 hC.2.2.1 w via eT F (g := mkF m pc Ls (.ref a :: st)) rfl rfl (hb hC.2.2.2.1 hd)) nxt
/-! the returns -/
theorem Go.fin {p : Program} {e : Env} {s : State} {m : MethodId} {args : Array Value} {below : List Frame} {meth : Method} {c : Code} {T S : State} {locs : List Loc} {cells slots : Nat} {v : Option Value} (X : Stand p l e R s m args below meth c T locs cells slots) (hv : meth.sig.returnType = none → v = none) (hlk : meth.locks = false) (hF : Fr n0 locs) (hk : cells ≤ R.cells) (hn : slots ≤ R.slots) (hQ : Q v T.heap)
    (f : ∀ fs, (∀ (f : JFrame) (acts : List Action), f.method = m → f.locked = none → f.entered = [] → (doReturn e (T.setTop f) acts v).1 = T.setFrames fs) → Steps p.tables e below S (T.setFrames fs)) : Go p e below s n0 R.cells R.slots Q S := by
  obtain ⟨fs, hr, hrun, hended, hW, hsame⟩ := X.leave (v := v) hv hlk
  exact ⟨_, v, locs, f fs hr, hrun, hended, ⟨hQ, hF⟩, ⟨_, rfl⟩, hW, hsame.mono hk hn⟩
theorem Run.ireturn {z : Int32} (hd : decode code pc = .ok (.ireturn, 1)) (hret : ret = some .int) (hk : k ≤ R.cells) (hn : n ≤ R.slots) (hQ : Q (some (.int z)) h) : Run l Z n0 own code maxL ret nm R Q pc Ls (.int z :: st) h k n := by
  intro p e s m args below meth c T locs cells slots hC X eT hF hk' hn'
  subst eT
  have hr := hC.2.2.2.2.2.1
  exact Go.fin X (fun q => by rw [hr, hret] at q; cases q) hC.2.2.2.2.2.2.1 hF (Nat.le_trans hk' hk) (Nat.le_trans hn' hn) hQ (fun fs hl => retOut X hC.1 (hr.trans hret) rfl (Or.inl ⟨rfl, Or.inl rfl, z, rfl⟩) (hb hC.2.2.2.1 hd) hl)
theorem Run.nreturn {z : Int32} {ty : FieldType} (hd : decode code pc = .ok (.ireturn, 1)) (hret : ret = some ty) (ht : ty = .boolean ∨ ty = .byte ∨ ty = .char ∨ ty = .short) (hk : k ≤ R.cells) (hn : n ≤ R.slots) (hQ : Q (some (.int (nar ty z))) h) : Run l Z n0 own code maxL ret nm R Q pc Ls (.int z :: st) h k n := by
  intro p e s m args below meth c T locs cells slots hC X eT hF hk' hn'
  subst eT
  have hr := hC.2.2.2.2.2.1
  exact Go.fin X (fun q => by rw [hr, hret] at q; cases q) hC.2.2.2.2.2.2.1 hF (Nat.le_trans hk' hk) (Nat.le_trans hn' hn) hQ (fun fs hl => retN X hC.1 (hr.trans hret) ht (hb hC.2.2.2.1 hd) hl)
theorem Run.lreturn {z : Int64} (hd : decode code pc = .ok (.lreturn, 1)) (hret : ret = some .long) (hk : k ≤ R.cells) (hn : n ≤ R.slots) (hQ : Q (some (.long z)) h) : Run l Z n0 own code maxL ret nm R Q pc Ls (.long z :: st) h k n := by
  intro p e s m args below meth c T locs cells slots hC X eT hF hk' hn'
  subst eT
  have hr := hC.2.2.2.2.2.1
  exact Go.fin X (fun q => by rw [hr, hret] at q; cases q) hC.2.2.2.2.2.2.1 hF (Nat.le_trans hk' hk) (Nat.le_trans hn' hn) hQ (fun fs hl => retOut X hC.1 (hr.trans hret) rfl (Or.inr (Or.inl ⟨rfl, rfl, z, rfl⟩)) (hb hC.2.2.2.1 hd) hl)
theorem go_narref {t : FieldType} {w : Value} (ht : t.isReference = true) (hw : w.isRef = true) : narrow t w = w := by
  cases t <;> first | rfl | (cases ht; done) | (cases w <;> first | rfl | cases hw)
theorem Run.areturn {w : Value} {ty : FieldType} (hd : decode code pc = .ok (.areturn, 1)) (hret : ret = some ty) (ht : ty.isReference = true) (hw : w.isRef = true) (hk : k ≤ R.cells) (hn : n ≤ R.slots) (hQ : Q (some w) h) : Run l Z n0 own code maxL ret nm R Q pc Ls (w :: st) h k n := by
  intro p e s m args below meth c T locs cells slots hC X eT hF hk' hn'
  subst eT
  have hr := hC.2.2.2.2.2.1
  exact Go.fin X (fun q => by rw [hr, hret] at q; cases q) hC.2.2.2.2.2.2.1 hF (Nat.le_trans hk' hk) (Nat.le_trans hn' hn) hQ (fun fs hl => retOut X hC.1 (hr.trans hret) (go_narref ht hw) (Or.inr (Or.inr (Or.inr (Or.inr ⟨rfl, ht, hw⟩)))) (hb hC.2.2.2.1 hd) hl)
theorem Run.vreturn (hd : decode code pc = .ok (.return_, 1)) (hret : ret = none) (hk : k ≤ R.cells) (hn : n ≤ R.slots) (hQ : Q none h) : Run l Z n0 own code maxL ret nm R Q pc Ls [] h k n := by
  intro p e s m args below meth c T locs cells slots hC X eT hF hk' hn'
  subst eT
  have hr := hC.2.2.2.2.2.1
  exact Go.fin X (fun _ => rfl) hC.2.2.2.2.2.2.1 hF (Nat.le_trans hk' hk) (Nat.le_trans hn' hn) hQ (fun fs hl => X.returnOut hC.1 (hr.trans hret) (hb hC.2.2.2.1 hd) hl)
/-! calls by a contract -/
theorem Run.callS {a0 : Array Value} {y : MethodName} {bytes : ByteArray} {mL : Nat} {rt : Option FieldType} {rm : Room} {as rest : List Value} {Qy : Option Value → Heap → Prop} {i : Nat} {ps : List FieldType} {rr : Option FieldType}
    (hC : Con l Z n0 y bytes mL rt rm as.toArray h Qy) (hd : decode code pc = .ok (.invokestatic i, 3)) (w1 : (Cond.methodLink own i y).before a0 Z = true) (w2 : (Cond.static y).before a0 Z = true) (w3 : (Cond.initialized y.cls).before a0 Z = true) (w4 : (Cond.code y bytes mL rt).before a0 Z = true)
    (hy : y.cls ≠ "java/lang/invoke/MethodHandle" ∧ y.cls ≠ "java/lang/invoke/VarHandle") (hds : parseMethodDescriptor y.desc = some ⟨ps, rr⟩) (hl : as.length = ps.length) (hst : st = as.reverse ++ rest) (hsz : Ls.size = maxL)
    (hf : rm.frames + 1 ≤ R.frames) (hlo : (rest.map fun v => v.category).sum + (mL + 11) + rm.locals ≤ R.locals) (hk : k + rm.cells ≤ k') (hk' : k' ≤ R.cells) (hn : n + rm.slots ≤ n') (hn' : n' ≤ R.slots) (hp : pc + 3 = pc')
    (nxt : ∀ v h', Qy v h' → Run l Z n0 own code maxL ret nm R Q pc' Ls (v.toList ++ rest) h' k' n') : Run l Z n0 own code maxL ret nm R Q pc Ls st h k n := by
  subst hp hst
  intro p e s m args below meth c T locs cells slots hX X eT hF hc hs
  obtain ⟨hx, hZ, hown, hby, hml, -⟩ := id hX
  obtain ⟨v, vm₁, ⟨B, L', cc, ss⟩, -, X', ⟨Lc, hQ, l1, y1, z1⟩, stp⟩ := Jvm.LawKit.callS X hx (y := y) hown (mvT hZ w1) (mvT hZ w2) (mvT hZ w3) (mvT hZ w4) hy (backOf (W := (rest.map fun v => v.category).sum) (Q := fun v h L => Qy v h ∧ Fr n0 L) (hC []) hZ w4 w3 hf hlo) (g := mkF m pc Ls (as.reverse ++ rest)) rfl (hsz.trans hml.symm) (argsL := as) (rest := rest) (lenOf hds hl) rfl (by show 2 * 0 + _ ≤ _; omega) (hb hby hd) (fun _ _ => ⟨rfl, eT, (by show cells + rm.cells ≤ R.cells; omega), (by show slots + rm.slots ≤ R.slots; omega)⟩)
  dsimp only [Pt.U, Pt.locs, Pt.cells, Pt.slots] at X' l1 y1 z1 stp hQ
  subst l1 y1 z1
  obtain ⟨s₂, v', L, g1, g2⟩ := nxt v _ hQ.1 p e s m args below meth c B _ _ _ hX X' rfl (Fr.app hF hQ.2) (by omega) (by omega)
  exact ⟨s₂, v', L, stp _ g1, g2⟩
theorem Run.callV {a0 : Array Value} {C : String} {y z : MethodName} {bytes : ByteArray} {mL : Nat} {rt : Option FieldType} {rm : Room} {a : Addr} {as rest : List Value} {Qy : Option Value → Heap → Prop} {i : Nat} {ps : List FieldType} {rr : Option FieldType}
    (hC : Con l Z n0 z bytes mL rt rm (.ref a :: as).toArray h Qy) (hE : Exa Z h a C) (hd : decode code pc = .ok (.invokevirtual i, 3)) (w1 : (Cond.methodLink own i y).before a0 Z = true) (w2 : (Cond.declares y).before a0 Z = true) (nf : ∀ (s : State), Z.Warmed39 s.vm → NotFace s y) (w3 : (Cond.selects C y z).before a0 Z = true) (w4 : (Cond.instanceMethod z).before a0 Z = true) (w5 : (Cond.initialized z.cls).before a0 Z = true) (w6 : (Cond.code z bytes mL rt).before a0 Z = true)
    (hy : y.cls ≠ "java/lang/invoke/MethodHandle" ∧ y.cls ≠ "java/lang/invoke/VarHandle") (hds : parseMethodDescriptor y.desc = some ⟨ps, rr⟩) (hl : as.length = ps.length) (hst : st = as.reverse ++ .ref a :: rest) (hsz : Ls.size = maxL)
    (hf : rm.frames + 1 ≤ R.frames) (hlo : (rest.map fun v => v.category).sum + (mL + 11) + rm.locals ≤ R.locals) (hk : k + rm.cells ≤ k') (hk' : k' ≤ R.cells) (hn : n + rm.slots ≤ n') (hn' : n' ≤ R.slots) (hp : pc + 3 = pc')
    (nxt : ∀ v h', Qy v h' → Run l Z n0 own code maxL ret nm R Q pc' Ls (v.toList ++ rest) h' k' n') : Run l Z n0 own code maxL ret nm R Q pc Ls st h k n := by
  subst hp hst
  intro p e s m args below meth c T locs cells slots hX X eT hF hc hs
  obtain ⟨hx, hZ, hown, hby, hml, -⟩ := id hX
  obtain ⟨cq, kq, qa, qb, qc⟩ := isOf hZ eT hE
  obtain ⟨v, vm₁, ⟨B, L', cc, ss⟩, -, X', ⟨Lc, hQ, l1, y1, z1⟩, stp⟩ := X.virtualBack hx (y := y) (z := z) hown (mvT hZ w1) (mvT hZ w2) (nf s hZ) (mvT hZ w3) (mvT hZ w4) hy (backOf (W := (rest.map fun v => v.category).sum) (Q := fun v h L => Qy v h ∧ Fr n0 L) (hC []) hZ w6 w5 hf hlo) qa qc (g := mkF m pc Ls (as.reverse ++ .ref a :: rest)) rfl (hsz.trans hml.symm) (Steps.refl _) (argsL := as) (rest := rest) (lenOf hds hl) rfl (by show 2 * 0 + _ ≤ _; omega) (hb hby hd) (fun _ _ => ⟨rfl, eT, (by show cells + rm.cells ≤ R.cells; omega), (by show slots + rm.slots ≤ R.slots; omega)⟩)
  dsimp only [Pt.U, Pt.locs, Pt.cells, Pt.slots] at X' l1 y1 z1 stp hQ
  subst l1 y1 z1
  obtain ⟨s₂, v', L, g1, g2⟩ := nxt v _ hQ.1 p e s m args below meth c B _ _ _ hX X' rfl (Fr.app hF hQ.2) (by omega) (by omega)
  exact ⟨s₂, v', L, stp.trans g1, g2⟩
theorem Run.callN {a0 : Array Value} {y : MethodName} {bytes : ByteArray} {mL : Nat} {rm : Room} {a : Addr} {as rest : List Value} {P : Heap → Prop} {i : Nat} {ps : List FieldType} {rr : Option FieldType}
    (hC : Con l Z n0 y bytes mL none rm (.ref a :: as).toArray h (Vd P)) (hy1 : y.name = "<init>") (hd : decode code pc = .ok (.invokespecial i, 3)) (w1 : (Cond.methodLink own i y).before a0 Z = true) (w2 : (Cond.instanceMethod y).before a0 Z = true) (w3 : (Cond.initialized y.cls).before a0 Z = true) (w4 : (Cond.code y bytes mL none).before a0 Z = true)
    (hy : y.cls ≠ "java/lang/invoke/MethodHandle" ∧ y.cls ≠ "java/lang/invoke/VarHandle") (hds : parseMethodDescriptor y.desc = some ⟨ps, rr⟩) (hl : as.length = ps.length) (hst : st = as.reverse ++ .ref a :: rest) (hsz : Ls.size = maxL)
    (hf : rm.frames + 1 ≤ R.frames) (hlo : (rest.map fun v => v.category).sum + (mL + 11) + rm.locals ≤ R.locals) (hk : k + rm.cells ≤ k') (hk' : k' ≤ R.cells) (hn : n + rm.slots ≤ n') (hn' : n' ≤ R.slots) (hp : pc + 3 = pc')
    (nxt : ∀ h', P h' → Run l Z n0 own code maxL ret nm R Q pc' Ls rest h' k' n') : Run l Z n0 own code maxL ret nm R Q pc Ls st h k n := by
  subst hp hst
  intro p e s m args below meth c T locs cells slots hX X eT hF hc hs
  obtain ⟨hx, hZ, hown, hby, hml, -⟩ := id hX
  obtain ⟨v, vm₁, ⟨B, L', cc, ss⟩, -, X', ⟨Lc, hQ, l1, y1, z1⟩, stp⟩ := X.specialBack hx (y := y) hy1 hown (mvT hZ w1) (mvT hZ w2) (mvT hZ w4) hy (backOf (W := (rest.map fun v => v.category).sum) (Q := fun v h L => Vd P v h ∧ Fr n0 L) (hC []) hZ w4 w3 hf hlo) (g := mkF m pc Ls (as.reverse ++ .ref a :: rest)) rfl (hsz.trans hml.symm) (Steps.refl _) (a := a) (argsL := as) (rest := rest) (lenOf hds hl) rfl (by show 2 * 0 + _ ≤ _; omega) (hb hby hd) (fun _ _ => ⟨rfl, eT, (by show cells + rm.cells ≤ R.cells; omega), (by show slots + rm.slots ≤ R.slots; omega)⟩)
  dsimp only [Pt.U, Pt.locs, Pt.cells, Pt.slots] at X' l1 y1 z1 stp hQ
  subst l1 y1 z1
  obtain ⟨⟨rfl, hP⟩, hL⟩ := hQ
  obtain ⟨s₂, v', L, g1, g2⟩ := nxt _ hP p e s m args below meth c B _ _ _ hX X' rfl (Fr.app hF hL) (by omega) (by omega)
  exact ⟨s₂, v', L, stp.trans g1, g2⟩
/-! the heap: new objects, fields written, arrays -/
theorem Run.wr {a : Addr} {sl : Nat} {v : Value} {Ls' : Array Slot} {st' : List Value} (f : ∀ (p : Program) (e : Env) (s : State) (m : MethodId) (args : Array Value) (below : List Frame) (meth : Method) (c : Code) (T : State) (locs : List Loc) (cells slots : Nat),
      Ctx Z own code maxL ret nm p s m meth c → Stand p l e R s m args below meth c T locs cells slots → T.heap = h → ∃ T' h', Stand p l e R s m args below meth c T' (locs ++ [⟨a, sl⟩]) cells slots ∧ T'.heap = h' ∧ Wr h h' a sl v ∧ ∀ t, Steps p.tables e below (T'.setTop (mkF m pc' Ls' st')) t → Steps p.tables e below (T.setTop (mkF m pc Ls st)) t)
    (ha : n0 ≤ a) (nxt : ∀ h', Wr h h' a sl v → Run l Z n0 own code maxL ret nm R Q pc' Ls' st' h' k n) : Run l Z n0 own code maxL ret nm R Q pc Ls st h k n := by
  intro p e s m args below meth c T locs cells slots hC X eT hF hk hn
  obtain ⟨T', h', X', e', W, stp⟩ := f p e s m args below meth c T locs cells slots hC X eT
  obtain ⟨s₂, v', L, g1, g2⟩ := nxt h' W p e s m args below meth c T' _ cells slots hC X' e' (Fr.snoc X' hF ha) hk hn
  exact ⟨s₂, v', L, stp _ g1, g2⟩
theorem Run.newO {a0 : Array Value} {C : String} {i sl : Nat} (hd : decode code pc = .ok (.new i, 3)) (w : (Cond.classLink own i C).before a0 Z = true) (wi : (Cond.instantiable C sl).before a0 Z = true) (wz : (Cond.initialized C).before a0 Z = true)
    (hk : k + 1 ≤ k') (hk' : k' ≤ R.cells) (hn : n + sl ≤ n') (hn' : n' ≤ R.slots) (hp : pc + 3 = pc')
    (nxt : ∀ h' a, a = h.size → Ext h h' → Exa Z h' a C → (∀ {O f d : String} {ty : FieldType}, Laid Z a0 C O f d → parseFieldDescriptor d = some ty → Fld Z h' a O f d (defaultValue ty)) → Run l Z n0 own code maxL ret nm R Q pc' Ls (.ref a :: st) h' k' n') : Run l Z n0 own code maxL ret nm R Q pc Ls st h k n := by
  subst hp
  intro p e s m args below meth c T locs cells slots hC X eT hF hkk hnn
  obtain ⟨T', h', X', e', E, A, D, -, stp⟩ := newO X hC.1 hC.2.1 hC.2.2.1 w wi wz eT (g := mkF m pc Ls st) rfl (hb hC.2.2.2.1 hd) (by omega) (by omega)
  obtain ⟨s₂, v, L, g1, g2⟩ := nxt h' h.size rfl E A D p e s m args below meth c T' locs _ _ hC X' e' hF (by omega) (by omega)
  exact ⟨s₂, v, L, stp _ g1, g2⟩
theorem Run.initO {a0 : Array Value} {i : Nat} {a : Addr} (hd : decode code pc = .ok (.invokespecial i, 3)) (w1 : (Cond.methodLink own i Lib.objectInit).before a0 Z = true) (w2 : (Cond.instanceMethod Lib.objectInit).before a0 Z = true) (w3 : (Cond.code Lib.objectInit ⟨#[0xb1]⟩ 1 none).before a0 Z = true)
    (hsz : Ls.size = maxL) (hf : 1 ≤ R.frames) (hl : (st.map fun v => v.category).sum + 12 ≤ R.locals) (hp : pc + 3 = pc') (nxt : Run l Z n0 own code maxL ret nm R Q pc' Ls st h k n) : Run l Z n0 own code maxL ret nm R Q pc Ls (.ref a :: st) h k n := by
  subst hp
  exact Run.via (fun p e s m args below meth c T locs cells slots hC X eT => initO X hC.1 hC.2.1 hC.2.2.1 w1 w2 w3 eT (g := mkF m pc Ls (.ref a :: st)) rfl (hsz.trans hC.2.2.2.2.1.symm) rfl (hb hC.2.2.2.1 hd) hf (W := (st.map fun v => v.category).sum) (by show 2 * 0 + _ ≤ _; omega) hl) nxt
theorem Run.putF {a0 : Array Value} {R0 O f d host C : String} {i sl : Nat} {ty : FieldType} {a : Addr} {v old : Value} (hd : decode code pc = .ok (.putfield i, 3)) (w : (Cond.fieldLink own i R0 f d).before a0 Z = true ∨ (Cond.fieldLinkNest own i R0 f d host).before a0 Z = true) (via : Via Z R0 O f d) (F : Fld Z h a O f d old) (E : Exa Z h a C)
    (L : (Cond.lays C O f d).before a0 Z = true ∨ ((Cond.laysFinal C O f d).before a0 Z = true ∧ own = O ∧ nm = "<init>")) (wi : (Cond.instantiable C sl).before a0 Z = true) (hty : parseFieldDescriptor d = some ty) (hnv : narrow ty v = v) (hfv : fits ty v = true) (ha : n0 ≤ a) (hp : pc + 3 = pc')
    (nxt : ∀ h', Wr h h' a (Jvm.RoadKit.slotOf Z O f d) v → Run l Z n0 own code maxL ret nm R Q pc' Ls st h' k n) : Run l Z n0 own code maxL ret nm R Q pc Ls (v :: .ref a :: st) h k n := by
  subst hp
  exact Run.wr (fun p e s m args below meth c T locs cells slots hC X eT => putF X hC.1 hC.2.1 hC.2.2.1 w via eT F E (L.imp id fun q => ⟨q.1, q.2.1, hC.2.2.2.2.2.2.2.trans q.2.2⟩) wi hty hnv hfv (g := mkF m pc Ls (v :: .ref a :: st)) rfl rfl (hb hC.2.2.2.1 hd)) ha nxt
theorem Run.putFN {a0 : Array Value} {R0 O f d C : String} {i sl : Nat} {ty : FieldType} {a : Addr} {v v' old : Value} (hd : decode code pc = .ok (.putfield i, 3)) (w : (Cond.fieldLink own i R0 f d).before a0 Z = true) (via : Via Z R0 O f d) (F : Fld Z h a O f d old) (E : Exa Z h a C)
    (L : (Cond.lays C O f d).before a0 Z = true ∨ ((Cond.laysFinal C O f d).before a0 Z = true ∧ own = O ∧ nm = "<init>")) (wi : (Cond.instantiable C sl).before a0 Z = true) (hty : parseFieldDescriptor d = some ty) (hnv : narrow ty v = v') (hfv : fits ty v' = true) (ha : n0 ≤ a) (hp : pc + 3 = pc')
    (nxt : ∀ h', Wr h h' a (Jvm.RoadKit.slotOf Z O f d) v' → Run l Z n0 own code maxL ret nm R Q pc' Ls st h' k n) : Run l Z n0 own code maxL ret nm R Q pc Ls (v :: .ref a :: st) h k n := by
  subst hp
  exact Run.wr (fun p e s m args below meth c T locs cells slots hC X eT => putFN X hC.1 hC.2.1 hC.2.2.1 w via eT F E (L.imp id fun q => ⟨q.1, q.2.1, hC.2.2.2.2.2.2.2.trans q.2.2⟩) wi hty hnv hfv (g := mkF m pc Ls (v :: .ref a :: st)) rfl rfl (hb hC.2.2.2.1 hd)) ha nxt
theorem Run.castY {a0 : Array Value} {K : String} {i : Nat} {a : Addr} (hd : decode code pc = .ok (.checkcast i, 3)) (w : (Cond.classLink own i K).before a0 Z = true) (F : Ins Z h a K true) (hp : pc + 3 = pc') (nxt : Run l Z n0 own code maxL ret nm R Q pc' Ls (.ref a :: st) h k n) : Run l Z n0 own code maxL ret nm R Q pc Ls (.ref a :: st) h k n := by
  subst hp
  exact Run.via (fun p e s m args below meth c T locs cells slots hC X eT => castY X hC.1 hC.2.1 hC.2.2.1 w eT F (g := mkF m pc Ls (.ref a :: st)) rfl rfl (hb hC.2.2.2.1 hd)) nxt
theorem Run.castNull {i : Nat} (hd : decode code pc = .ok (.checkcast i, 3)) (hp : pc + 3 = pc') (nxt : Run l Z n0 own code maxL ret nm R Q pc' Ls (.null :: st) h k n) : Run l Z n0 own code maxL ret nm R Q pc Ls (.null :: st) h k n := by
  subst hp
  exact Run.via (fun p e s m args below meth c T locs cells slots hC X eT => ⟨T, X, eT, fun t q => X.checkcastNull hC.1 (g := mkF m pc Ls (.null :: st)) rfl rfl (hb hC.2.2.2.1 hd) t q⟩) nxt
theorem Run.instY {a0 : Array Value} {K : String} {i : Nat} {a : Addr} (hd : decode code pc = .ok (.instanceof i, 3)) (w : (Cond.classLink own i K).before a0 Z = true) (F : Ins Z h a K true) (hp : pc + 3 = pc') (nxt : Run l Z n0 own code maxL ret nm R Q pc' Ls (.int 1 :: st) h k n) : Run l Z n0 own code maxL ret nm R Q pc Ls (.ref a :: st) h k n := by
  subst hp
  exact Run.via (fun p e s m args below meth c T locs cells slots hC X eT => instY X hC.1 hC.2.1 hC.2.2.1 w eT F (g := mkF m pc Ls (.ref a :: st)) rfl rfl (hb hC.2.2.2.1 hd)) nxt
theorem Run.instNo {a0 : Array Value} {K C : String} {i : Nat} {a : Addr} (hd : decode code pc = .ok (.instanceof i, 3)) (w : (Cond.classLink own i K).before a0 Z = true) (E : Exa Z h a C) (F : ∃ c t, Z.vm.findClass C = some c ∧ Z.vm.findClass K = some t ∧ Z.vm.assignable c t = false) (hp : pc + 3 = pc') (nxt : Run l Z n0 own code maxL ret nm R Q pc' Ls (.int 0 :: st) h k n) : Run l Z n0 own code maxL ret nm R Q pc Ls (.ref a :: st) h k n := by
  subst hp
  exact Run.via (fun p e s m args below meth c T locs cells slots hC X eT => instNo X hC.1 hC.2.1 hC.2.2.1 w eT E F (g := mkF m pc Ls (.ref a :: st)) rfl rfl (hb hC.2.2.2.1 hd)) nxt
theorem Run.instNull {i : Nat} (hd : decode code pc = .ok (.instanceof i, 3)) (hp : pc + 3 = pc') (nxt : Run l Z n0 own code maxL ret nm R Q pc' Ls (.int 0 :: st) h k n) : Run l Z n0 own code maxL ret nm R Q pc Ls (.null :: st) h k n := by
  subst hp
  exact Run.via (fun p e s m args below meth c T locs cells slots hC X eT => ⟨T, X, eT, fun t q => X.instanceofNull hC.1 (g := mkF m pc Ls (.null :: st)) rfl rfl (hb hC.2.2.2.1 hd) t q⟩) nxt
/-- the array at a holds just the list vs -/
def Ary (Z : State) (h : Heap) (a : Addr) (ty : FieldType) (vs : List Value) : Prop := ∃ c : Cell, Arr Z h a c ty ∧ c.slots.toList = vs
section Ar
variable {h' : Heap} {a b : Addr} {ty : FieldType} {vs : List Value} {sl : Nat} {v : Value} {ws : List Addr}
theorem Ary.lt (F : Ary Z h a ty vs) : a < h.size := by obtain ⟨c, A, -⟩ := F; exact A.lt
theorem Ary.ext (F : Ary Z h a ty vs) (E : Ext h h') : Ary Z h' a ty vs := by obtain ⟨c, A, r⟩ := F; exact ⟨c, A.ext E, r⟩
theorem Ary.other (F : Ary Z h b ty vs) (W : Wr h h' a sl v) (q : b ≠ a) : Ary Z h' b ty vs := by obtain ⟨c, A, r⟩ := F; exact ⟨c, A.other W q, r⟩
theorem Ary.keep (F : Ary Z h a ty vs) (K : Keep h h' ws) (q : a ∉ ws) : Ary Z h' a ty vs := by obtain ⟨c, A, r⟩ := F; exact ⟨c, ⟨K.2.1 a c A.1 q, A.2⟩, r⟩
theorem Ary.set (F : Ary Z h a ty vs) (W : Wr h h' a sl v) : Ary Z h' a ty (vs.set sl v) := by
  obtain ⟨c, A, r⟩ := F
  exact ⟨_, A.same W, by rw [← r]; simp [Cell.setSlot]⟩
theorem Ext.refl (h : Heap) : Ext h h := ⟨Nat.le_refl _, fun _ _ q => q⟩
theorem Ext.trans {h0 : Heap} (E : Ext h0 h) (E' : Ext h h') : Ext h0 h' := ⟨Nat.le_trans E.1 E'.1, fun a c q => E'.2 a c (E.2 a c q)⟩
theorem Ext.wr {h0 : Heap} (E : Ext h0 h) (W : Wr h h' a sl v) (q : h0.size ≤ a) : Ext h0 h' := by
  refine ⟨Nat.le_trans E.1 (Nat.le_of_eq W.size.symm), fun b c hb => ?_⟩
  obtain ⟨c', e1, -, -, -, e5, -⟩ := wr_at W (E.2 b c hb)
  have : b ≠ a := fun z => by subst z; exact absurd (Array.getElem?_eq_some_iff.mp hb).1 (Nat.not_lt.mpr q)
  rw [← e5 this]; exact e1
theorem Ext.keep {h0 : Heap} (E : Ext h0 h) (K : Keep h h' ws) (q : ∀ x ∈ ws, h0.size ≤ x) : Ext h0 h' :=
  ⟨Nat.le_trans E.1 K.1, fun b c hb => K.2.1 b c (E.2 b c hb) fun z => absurd (Array.getElem?_eq_some_iff.mp hb).1 (Nat.not_lt.mpr (q b z))⟩
theorem Keep.toExt (K : Keep h h' []) : Ext h h' := ⟨K.1, fun b c hb => K.2.1 b c hb nin0⟩
theorem own_fitsR {t : FieldType} (ht : refKind t = true) (hv : v.isRef = true) : fits t v = true := by cases t <;> first | (cases ht; done) | (cases v <;> first | rfl | cases hv)
theorem nst_exa {C : String} (E : Exa Z h a C) : ∃ c : Cell, h[a]? = some c ∧ c.vm.isStatics = false := by obtain ⟨c, _, h1, -, -, h4, -⟩ := E; exact ⟨c, h1, h4⟩
theorem nst_ary (A : Ary Z h a ty vs) : ∃ c : Cell, h[a]? = some c ∧ c.vm.isStatics = false := by obtain ⟨c, A, -⟩ := A; exact ⟨c, A.1, A.plain⟩
theorem sta_keep {C f d : String} (F : Sta Z h C f d v) (K : Keep h h' ws) (q : ∀ x ∈ ws, ∃ c : Cell, h[x]? = some c ∧ c.vm.isStatics = false) : Sta Z h' C f d v := by
  obtain ⟨cf, i, k, f, st, cell, h1, h2, h3, h4, h5, h6, h7⟩ := F
  refine ⟨cf, i, k, f, st, cell, h1, h2, h3, h4, K.2.1 st cell h5 fun hx => ?_, h6, h7⟩
  obtain ⟨c, e1, e2⟩ := q st hx
  cases e1.symm.trans h5
  rw [h6] at e2; cases e2
theorem Keep.ofExt (E : Ext h h') : Keep h h' [] := (Keep.refl h []).ext E
theorem idxIn {c : Cell} {j : Int32} {i : Nat} (hj : j.toInt = (i : Int)) (hi : i < c.slots.size) : ¬ (j < 0 ∨ c.slots.size ≤ j.toNatClampNeg) ∧ j.toNatClampNeg = i := by
  have e : j.toNatClampNeg = i := by have : j.toNatClampNeg = j.toInt.toNat := rfl; rw [this, hj]; rfl
  refine ⟨fun q => ?_, e⟩
  rcases q with q | q
  · rw [Int32.lt_iff_toInt_lt, hj] at q; have : (0 : Int32).toInt = 0 := rfl; omega
  · omega
theorem sizeOf {c : Cell} (r : c.slots.toList = vs) : c.slots.size = vs.length := by rw [← r]; simp
theorem getOf {c : Cell} {i : Nat} (r : c.slots.toList = vs) (hv : vs[i]? = some v) : c.slots[i]? = some v := by rw [← r] at hv; simpa using hv
end Ar
theorem ns_root {a0 : Array Value} {O K : String} {m : Nat} (w : (Cond.noSuperclass O).before a0 Z = true) (wk : (Cond.instantiable K m).before a0 Z = true) (hn : O ≠ K) : NS Z O K := by
  obtain ⟨c, k, h1, h2, h3, -, -⟩ := Cond.noSuperclass_spec w
  obtain ⟨t, k2, g1, -⟩ := Cond.instantiable_spec wk
  have ne := ids_ne h1 g1 hn
  refine ⟨c, t, h1, g1, fun fuel => ?_⟩
  cases fuel with
  | zero => rfl
  | succ f => simp [Vm.isSubclassAux, ne, h2, h3]
theorem ns_no {a0 : Array Value} {C S K : String} {m : Nat} (w : (Cond.superclass C S).before a0 Z = true) (wk : (Cond.instantiable K m).before a0 Z = true) (n : NS Z C K) (hn : C ≠ K) : ∃ c t, Z.vm.findClass C = some c ∧ Z.vm.findClass K = some t ∧ Z.vm.assignable c t = false := by
  obtain ⟨c, t, h0, g0, n3⟩ := n
  obtain ⟨p, k, kp, h1, h2, h3, h4, h5, -, h7⟩ := Cond.superclass_spec h0 w
  obtain ⟨t', k', g1, g2, g5, g7, -⟩ := Cond.instantiable_spec wk
  cases g0.symm.trans g1
  have ne := ids_ne h0 g0 hn
  have g8 : k'.isInterface = false := by cases hq : k'.isInterface <;> simp [hq] at g7 ⊢
  refine ⟨c, t, h0, g0, ?_⟩
  show Z.vm.assignableAux (255 + 1) c t = false
  simp [Vm.assignableAux, ne, h2, g2, h5, g5, g8, Vm.isSubclass, n3]
theorem Run.alen {a : Addr} {ty : FieldType} {vs : List Value} {z : Int32} (hd : decode code pc = .ok (.arraylength, 1)) (A : Ary Z h a ty vs) (hz : vs.length.toInt32 = z) (hp : pc + 1 = pc') (nxt : Run l Z n0 own code maxL ret nm R Q pc' Ls (.int z :: st) h k n) : Run l Z n0 own code maxL ret nm R Q pc Ls (.ref a :: st) h k n := by
  subst hp hz
  obtain ⟨c0, A, r⟩ := A
  exact Run.via (fun p e s m args below meth c T locs cells slots hC X eT => ⟨T, X, eT, fun t q => X.arraylength hC.1 (by rw [eT]; exact A.1) (State.isArrayOf_alike hC.2.1.alike A.2.1) (g := mkF m pc Ls (.ref a :: st)) rfl rfl (hb hC.2.2.2.1 hd) t (by rw [sizeOf r]; exact q)⟩) nxt
theorem Run.iaload {a : Addr} {vs : List Value} {j : Int32} {i : Nat} {v : Value} (hd : decode code pc = .ok (.iaload, 1)) (A : Ary Z h a .int vs) (hj : j.toInt = (i : Int)) (hv : vs[i]? = some v) (hp : pc + 1 = pc') (nxt : Run l Z n0 own code maxL ret nm R Q pc' Ls (v :: st) h k n) : Run l Z n0 own code maxL ret nm R Q pc Ls (.int j :: .ref a :: st) h k n := by
  subst hp
  obtain ⟨c0, A, r⟩ := A
  obtain ⟨hin, e0⟩ := idxIn (c := c0) hj (by rw [sizeOf r]; exact (List.getElem?_eq_some_iff.mp hv).1)
  exact Run.via (fun p e s m args below meth c T locs cells slots hC X eT => ⟨T, X, eT, fun t q => X.iaload hC.1 (by rw [eT]; exact A.1) (State.isArrayOf_alike hC.2.1.alike A.2.1) A.2.2 hin (by rw [e0]; exact getOf r hv) (g := mkF m pc Ls (.int j :: .ref a :: st)) rfl rfl (hb hC.2.2.2.1 hd) t q⟩) nxt
theorem Run.laload {a : Addr} {vs : List Value} {j : Int32} {i : Nat} {v : Value} (hd : decode code pc = .ok (.laload, 1)) (A : Ary Z h a .long vs) (hj : j.toInt = (i : Int)) (hv : vs[i]? = some v) (hp : pc + 1 = pc') (nxt : Run l Z n0 own code maxL ret nm R Q pc' Ls (v :: st) h k n) : Run l Z n0 own code maxL ret nm R Q pc Ls (.int j :: .ref a :: st) h k n := by
  subst hp
  obtain ⟨c0, A, r⟩ := A
  obtain ⟨hin, e0⟩ := idxIn (c := c0) hj (by rw [sizeOf r]; exact (List.getElem?_eq_some_iff.mp hv).1)
  exact Run.via (fun p e s m args below meth c T locs cells slots hC X eT => ⟨T, X, eT, fun t q => X.laload hC.1 (by rw [eT]; exact A.1) (State.isArrayOf_alike hC.2.1.alike A.2.1) A.2.2 hin (by rw [e0]; exact getOf r hv) (g := mkF m pc Ls (.int j :: .ref a :: st)) rfl rfl (hb hC.2.2.2.1 hd) t q⟩) nxt
theorem Run.caload {a : Addr} {vs : List Value} {j : Int32} {i : Nat} {v : Value} (hd : decode code pc = .ok (.caload, 1)) (A : Ary Z h a .char vs) (hj : j.toInt = (i : Int)) (hv : vs[i]? = some v) (hp : pc + 1 = pc') (nxt : Run l Z n0 own code maxL ret nm R Q pc' Ls (v :: st) h k n) : Run l Z n0 own code maxL ret nm R Q pc Ls (.int j :: .ref a :: st) h k n := by
  subst hp
  obtain ⟨c0, A, r⟩ := A
  obtain ⟨hin, e0⟩ := idxIn (c := c0) hj (by rw [sizeOf r]; exact (List.getElem?_eq_some_iff.mp hv).1)
  exact Run.via (fun p e s m args below meth c T locs cells slots hC X eT => ⟨T, X, eT, fun t q => X.caload hC.1 (by rw [eT]; exact A.1) (State.isArrayOf_alike hC.2.1.alike A.2.1) A.2.2 hin (by rw [e0]; exact getOf r hv) (g := mkF m pc Ls (.int j :: .ref a :: st)) rfl rfl (hb hC.2.2.2.1 hd) t q⟩) nxt
theorem Run.saload {a : Addr} {vs : List Value} {j : Int32} {i : Nat} {v : Value} (hd : decode code pc = .ok (.saload, 1)) (A : Ary Z h a .short vs) (hj : j.toInt = (i : Int)) (hv : vs[i]? = some v) (hp : pc + 1 = pc') (nxt : Run l Z n0 own code maxL ret nm R Q pc' Ls (v :: st) h k n) : Run l Z n0 own code maxL ret nm R Q pc Ls (.int j :: .ref a :: st) h k n := by
  subst hp
  obtain ⟨c0, A, r⟩ := A
  obtain ⟨hin, e0⟩ := idxIn (c := c0) hj (by rw [sizeOf r]; exact (List.getElem?_eq_some_iff.mp hv).1)
  exact Run.via (fun p e s m args below meth c T locs cells slots hC X eT => ⟨T, X, eT, fun t q => X.saload hC.1 (by rw [eT]; exact A.1) (State.isArrayOf_alike hC.2.1.alike A.2.1) A.2.2 hin (by rw [e0]; exact getOf r hv) (g := mkF m pc Ls (.int j :: .ref a :: st)) rfl rfl (hb hC.2.2.2.1 hd) t q⟩) nxt
theorem Run.baload {a : Addr} {vs : List Value} {j : Int32} {i : Nat} {v : Value} (hd : decode code pc = .ok (.baload, 1)) (A : Ary Z h a .byte vs) (hj : j.toInt = (i : Int)) (hv : vs[i]? = some v) (hp : pc + 1 = pc') (nxt : Run l Z n0 own code maxL ret nm R Q pc' Ls (v :: st) h k n) : Run l Z n0 own code maxL ret nm R Q pc Ls (.int j :: .ref a :: st) h k n := by
  subst hp
  obtain ⟨c0, A, r⟩ := A
  obtain ⟨hin, e0⟩ := idxIn (c := c0) hj (by rw [sizeOf r]; exact (List.getElem?_eq_some_iff.mp hv).1)
  exact Run.via (fun p e s m args below meth c T locs cells slots hC X eT => ⟨T, X, eT, fun t q => X.baloadBytes hC.1 (by rw [eT]; exact A.1) (State.isArrayOf_alike hC.2.1.alike A.2.1) A.2.2 hin (by rw [e0]; exact getOf r hv) (g := mkF m pc Ls (.int j :: .ref a :: st)) rfl rfl (hb hC.2.2.2.1 hd) t q⟩) nxt
theorem Run.aaload {a : Addr} {vs : List Value} {j : Int32} {i : Nat} {v : Value} {ty : FieldType} (hd : decode code pc = .ok (.aaload, 1)) (A : Ary Z h a ty vs) (hty : ty.isReference = true) (hj : j.toInt = (i : Int)) (hv : vs[i]? = some v) (hp : pc + 1 = pc') (nxt : Run l Z n0 own code maxL ret nm R Q pc' Ls (v :: st) h k n) : Run l Z n0 own code maxL ret nm R Q pc Ls (.int j :: .ref a :: st) h k n := by
  subst hp
  obtain ⟨c0, A, r⟩ := A
  obtain ⟨hin, e0⟩ := idxIn (c := c0) hj (by rw [sizeOf r]; exact (List.getElem?_eq_some_iff.mp hv).1)
  exact Run.via (fun p e s m args below meth c T locs cells slots hC X eT => ⟨T, X, eT, fun t q => X.aaload hC.1 (by rw [eT]; exact A.1) (State.isArrayOf_alike hC.2.1.alike A.2.1) hty A.2.2 hin (by rw [e0]; exact getOf r hv) (g := mkF m pc Ls (.int j :: .ref a :: st)) rfl rfl (hb hC.2.2.2.1 hd) t q⟩) nxt
theorem Run.iastore {a : Addr} {vs : List Value} {j : Int32} {i : Nat} {x : Int32} (hd : decode code pc = .ok (.iastore, 1)) (A : Ary Z h a .int vs) (hj : j.toInt = (i : Int)) (hi : i < vs.length) (ha : n0 ≤ a) (hp : pc + 1 = pc') (nxt : ∀ h', Wr h h' a i (.int x) → Ary Z h' a .int (vs.set i (.int x)) → Run l Z n0 own code maxL ret nm R Q pc' Ls st h' k n) : Run l Z n0 own code maxL ret nm R Q pc Ls (.int x :: .int j :: .ref a :: st) h k n := by
  subst hp
  have A' := A
  obtain ⟨c0, A, r⟩ := A
  obtain ⟨hin, e0⟩ := idxIn (c := c0) hj (by rw [sizeOf r]; exact hi)
  refine Run.wr (fun p e s m args below meth c T locs cells slots hC X eT => ?_) ha (fun h' W => nxt h' W (A'.set W))
  have q := stI X hC.1 hC.2.1 eT A hin (g := mkF m pc Ls (.int x :: .int j :: .ref a :: st)) rfl rfl (hb hC.2.2.2.1 hd)
  rw [e0] at q
  exact q
theorem Run.lastore {a : Addr} {vs : List Value} {j : Int32} {i : Nat} {x : Int64} (hd : decode code pc = .ok (.lastore, 1)) (A : Ary Z h a .long vs) (hj : j.toInt = (i : Int)) (hi : i < vs.length) (ha : n0 ≤ a) (hp : pc + 1 = pc') (nxt : ∀ h', Wr h h' a i (.long x) → Ary Z h' a .long (vs.set i (.long x)) → Run l Z n0 own code maxL ret nm R Q pc' Ls st h' k n) : Run l Z n0 own code maxL ret nm R Q pc Ls (.long x :: .int j :: .ref a :: st) h k n := by
  subst hp
  have A' := A
  obtain ⟨c0, A, r⟩ := A
  obtain ⟨hin, e0⟩ := idxIn (c := c0) hj (by rw [sizeOf r]; exact hi)
  refine Run.wr (fun p e s m args below meth c T locs cells slots hC X eT => ?_) ha (fun h' W => nxt h' W (A'.set W))
  have q := stJ X hC.1 hC.2.1 eT A hin (g := mkF m pc Ls (.long x :: .int j :: .ref a :: st)) rfl rfl (hb hC.2.2.2.1 hd)
  rw [e0] at q
  exact q
theorem Run.castore {a : Addr} {vs : List Value} {j : Int32} {i : Nat} {x : Int32} (hd : decode code pc = .ok (.castore, 1)) (A : Ary Z h a .char vs) (hj : j.toInt = (i : Int)) (hi : i < vs.length) (ha : n0 ≤ a) (hp : pc + 1 = pc') (nxt : ∀ h', Wr h h' a i (.int (nar .char x)) → Ary Z h' a .char (vs.set i (.int (nar .char x))) → Run l Z n0 own code maxL ret nm R Q pc' Ls st h' k n) : Run l Z n0 own code maxL ret nm R Q pc Ls (.int x :: .int j :: .ref a :: st) h k n := by
  subst hp
  have A' := A
  obtain ⟨c0, A, r⟩ := A
  obtain ⟨hin, e0⟩ := idxIn (c := c0) hj (by rw [sizeOf r]; exact hi)
  refine Run.wr (fun p e s m args below meth c T locs cells slots hC X eT => ?_) ha (fun h' W => nxt h' W (A'.set W))
  have q := stC X hC.1 hC.2.1 eT A hin (g := mkF m pc Ls (.int x :: .int j :: .ref a :: st)) rfl rfl (hb hC.2.2.2.1 hd)
  rw [e0] at q
  exact q
theorem Run.sastore {a : Addr} {vs : List Value} {j : Int32} {i : Nat} {x : Int32} (hd : decode code pc = .ok (.sastore, 1)) (A : Ary Z h a .short vs) (hj : j.toInt = (i : Int)) (hi : i < vs.length) (ha : n0 ≤ a) (hp : pc + 1 = pc') (nxt : ∀ h', Wr h h' a i (.int (nar .short x)) → Ary Z h' a .short (vs.set i (.int (nar .short x))) → Run l Z n0 own code maxL ret nm R Q pc' Ls st h' k n) : Run l Z n0 own code maxL ret nm R Q pc Ls (.int x :: .int j :: .ref a :: st) h k n := by
  subst hp
  have A' := A
  obtain ⟨c0, A, r⟩ := A
  obtain ⟨hin, e0⟩ := idxIn (c := c0) hj (by rw [sizeOf r]; exact hi)
  refine Run.wr (fun p e s m args below meth c T locs cells slots hC X eT => ?_) ha (fun h' W => nxt h' W (A'.set W))
  have q := stS X hC.1 hC.2.1 eT A hin (g := mkF m pc Ls (.int x :: .int j :: .ref a :: st)) rfl rfl (hb hC.2.2.2.1 hd)
  rw [e0] at q
  exact q
theorem Run.bastore {a : Addr} {vs : List Value} {j : Int32} {i : Nat} {x : Int32} (hd : decode code pc = .ok (.bastore, 1)) (A : Ary Z h a .byte vs) (hj : j.toInt = (i : Int)) (hi : i < vs.length) (ha : n0 ≤ a) (hp : pc + 1 = pc') (nxt : ∀ h', Wr h h' a i (.int (nar .byte x)) → Ary Z h' a .byte (vs.set i (.int (nar .byte x))) → Run l Z n0 own code maxL ret nm R Q pc' Ls st h' k n) : Run l Z n0 own code maxL ret nm R Q pc Ls (.int x :: .int j :: .ref a :: st) h k n := by
  subst hp
  have A' := A
  obtain ⟨c0, A, r⟩ := A
  obtain ⟨hin, e0⟩ := idxIn (c := c0) hj (by rw [sizeOf r]; exact hi)
  refine Run.wr (fun p e s m args below meth c T locs cells slots hC X eT => ?_) ha (fun h' W => nxt h' W (A'.set W))
  have q := stB X hC.1 hC.2.1 eT A hin (g := mkF m pc Ls (.int x :: .int j :: .ref a :: st)) rfl rfl (hb hC.2.2.2.1 hd)
  rw [e0] at q
  exact q
theorem Run.newP {a0 : Array Value} {aty : ArrayType} {ty : FieldType} {z : Int32} {cap m : Nat} {dv : Value} (hd : decode code pc = .ok (.newarray aty, 2)) (hty : newarray.typeOf aty = ty) (w : (Cond.arrayClass ty).before a0 Z = true) (hz : ¬ z < 0) (hcap : z.toNatClampNeg = m) (hm : m ≤ cap) (hdv : defaultValue ty = dv) (hcb : cap * 8 ≤ 536870912)
    (hk : k + 1 ≤ k') (hk' : k' ≤ R.cells) (hn : n + cap ≤ n') (hn' : n' ≤ R.slots) (hp : pc + 2 = pc')
    (nxt : ∀ h' a, a = h.size → Ext h h' → Ary Z h' a ty (List.replicate m dv) → Run l Z n0 own code maxL ret nm R Q pc' Ls (.ref a :: st) h' k' n') : Run l Z n0 own code maxL ret nm R Q pc Ls (.int z :: st) h k n := by
  subst hp hty hdv
  intro p e s m args below meth c T locs cells slots hC X eT hF hkk hnn
  obtain ⟨T', h', cA, X', e', E, A, stp⟩ := newP X hC.1 hC.2.1 w eT (g := mkF m pc Ls (.int z :: st)) rfl (hb hC.2.2.2.1 hd) rfl hz (by omega) hcb (by omega) (by omega)
  obtain ⟨s₂, v, L, g1, g2⟩ := nxt h' h.size rfl E ⟨_, A, by simp [newA, hcap]⟩ p e s m args below meth c T' locs _ _ hC X' e' hF (by omega) (by omega)
  exact ⟨s₂, v, L, stp _ g1, g2⟩
end Walk
end Jvm.GoKit
namespace Jvm.Pilot.@@N@@
open Jvm Jvm.ClassFile Sem Op Lib Jvm.Free Jvm.Stand Jvm.LawKit Jvm.RoadKit Jvm.GoKit Bundle Jvm.Pilot.@@N@@.Jvm.D
def own_lat (cs : List Int32) : Prop := ∀ c ∈ cs, 0 ≤ c.toInt ∧ c.toInt ≤ 255
def own_by (cs : List Int32) : List Value := cs.map fun c => Value.int (nar .byte c)
theorem own_nbb (x : Int32) : nar .byte (nar .byte x) = nar .byte x := by simp [nar]
theorem own_ncc (x : Int32) : nar .char (nar .char x) = nar .char x := by simp only [nar, UInt32.toUInt32_toInt32, UInt16.toUInt16_toUInt32]
theorem own_ofn {i : Nat} (h : i < 2 ^ 31) : (Int32.ofNat i).toInt = (i : Int) := toInt_of rfl h
theorem own_inc (i : Nat) : Int32.ofNat i + (1 : Int32) = Int32.ofNat (i + 1) := (inc_ofNat i).symm
theorem own_lt {i j : Nat} (hi : i < 2 ^ 31) (hj : j < 2 ^ 31) : Int32.ofNat i < Int32.ofNat j ↔ i < j := by rw [Int32.lt_iff_toInt_lt, own_ofn hi, own_ofn hj]; omega
theorem own_pre {cs : List Int32} {i : Nat} {c : Int32} (h : cs[i]? = some c) (hi : i < cs.length) :
    ((own_by (cs.take i)) ++ List.replicate (cs.length - i) (Value.int (0 : Int32))).set i (Value.int (nar .byte c)) = own_by (cs.take (i + 1)) ++ List.replicate (cs.length - (i + 1)) (Value.int (0 : Int32)) := by
  have e1 : cs.length - i = (cs.length - (i + 1)) + 1 := by omega
  have e2 : cs[i] = c := by rw [List.getElem?_eq_getElem hi] at h; exact Option.some.inj h
  rw [e1, List.replicate_succ]
  have l1 : (own_by (cs.take i)).length = i := by simp [own_by]; omega
  rw [List.set_append_right _ _ (by omega), l1, Nat.sub_self, List.set_cons_zero, List.take_succ_eq_append_getElem hi]
  simp [own_by, e2]
theorem d5_0 : decode jdk_52_method_21_code 0 = .ok (.iconst 0, 1) := by decide +kernel
theorem d5_1 : decode jdk_52_method_21_code 1 = .ok (.istore 5, 2) := by decide +kernel
theorem d5_3 : decode jdk_52_method_21_code 3 = .ok (.iload 5, 2) := by decide +kernel
theorem d5_5 : decode jdk_52_method_21_code 5 = .ok (.iload 4, 2) := by decide +kernel
theorem d5_7 : decode jdk_52_method_21_code 7 = .ok (.if_icmp .ge 37, 3) := by decide +kernel
theorem d5_10 : decode jdk_52_method_21_code 10 = .ok (.aload_n 0, 1) := by decide +kernel
theorem d5_11 : decode jdk_52_method_21_code 11 = .ok (.iload_n 1, 1) := by decide +kernel
theorem d5_12 : decode jdk_52_method_21_code 12 = .ok (.caload, 1) := by decide +kernel
theorem d5_13 : decode jdk_52_method_21_code 13 = .ok (.istore 6, 2) := by decide +kernel
theorem d5_15 : decode jdk_52_method_21_code 15 = .ok (.iload 6, 2) := by decide +kernel
theorem d5_17 : decode jdk_52_method_21_code 17 = .ok (.sipush 255, 3) := by decide +kernel
theorem d5_20 : decode jdk_52_method_21_code 20 = .ok (.if_icmp .le 6, 3) := by decide +kernel
theorem d5_23 : decode jdk_52_method_21_code 23 = .ok (.iload 5, 2) := by decide +kernel
theorem d5_25 : decode jdk_52_method_21_code 25 = .ok (.ireturn, 1) := by decide +kernel
theorem d5_26 : decode jdk_52_method_21_code 26 = .ok (.aload_n 2, 1) := by decide +kernel
theorem d5_27 : decode jdk_52_method_21_code 27 = .ok (.iload_n 3, 1) := by decide +kernel
theorem d5_28 : decode jdk_52_method_21_code 28 = .ok (.iload 6, 2) := by decide +kernel
theorem d5_30 : decode jdk_52_method_21_code 30 = .ok (.i2b, 1) := by decide +kernel
theorem d5_31 : decode jdk_52_method_21_code 31 = .ok (.bastore, 1) := by decide +kernel
theorem d5_32 : decode jdk_52_method_21_code 32 = .ok (.iinc 1 1, 3) := by decide +kernel
theorem d5_35 : decode jdk_52_method_21_code 35 = .ok (.iinc 3 1, 3) := by decide +kernel
theorem d5_38 : decode jdk_52_method_21_code 38 = .ok (.iinc 5 1, 3) := by decide +kernel
theorem d5_41 : decode jdk_52_method_21_code 41 = .ok (.goto (-38), 3) := by decide +kernel
theorem d5_44 : decode jdk_52_method_21_code 44 = .ok (.iload 4, 2) := by decide +kernel
theorem d5_46 : decode jdk_52_method_21_code 46 = .ok (.ireturn, 1) := by decide +kernel
theorem pn_5 : plainFor (⟨"java/lang/StringUTF16", "compress", "([CI[BII)I"⟩ : MethodName) = true := plainFor_of_name (by first | (simp [plainName, overriddenIn]; done) | decide +kernel)
theorem ef_con_cmp5 (m : MethodId) (a : Addr) (b : Addr) (cs : List Int32)  : entryFrame m #[(.ref a), (.int (0 : Int32)), (.ref b), (.int (0 : Int32)), (.int (Int32.ofNat cs.length))] 7 = mkF m 0 #[.val (.ref a), .val (.int (0 : Int32)), .val (.ref b), .val (.int (0 : Int32)), .val (.int (Int32.ofNat cs.length)), .unset, .unset] [] := by first | (simp [entryFrame, mkF, argsToLocals, Value.category]; done) | rfl
set_option maxRecDepth 65536 in
set_option maxHeartbeats 40000000 in
theorem con_cmp5 (l : Launch) (Z : State) (a0 : Array Value) (hw : ∀ d ∈ tables_1, d.before a0 Z = true) (n0 : Nat) (h0 : Heap) (Z0 : n0 ≤ h0.size) (a : Addr) (b : Addr) (cs : List Int32) (AC : Ary Z h0 a .char (cs.map Value.int)) (AB : Ary Z h0 b .byte (List.replicate cs.length (.int (0 : Int32)))) (hab : a ≠ b) (gb : n0 ≤ b) (hn : cs.length < 2 ^ 31) (hlat : own_lat cs) :
    Con l Z n0 (⟨"java/lang/StringUTF16", "compress", "([CI[BII)I"⟩ : MethodName) jdk_52_method_21_code 7 (some .int) ({ frames := 0, cells := 0, slots := 0, locals := 0 } : Room) #[(.ref a), (.int (0 : Int32)), (.ref b), (.int (0 : Int32)), (.int (Int32.ofNat cs.length))] h0 (Val fun w h' => .int (Int32.ofNat cs.length) = w ∧ Keep h0 h' [b] ∧ Ary Z h' b .byte (own_by cs)) := by
  refine Con.of_run pn_5 (fun m => ef_con_cmp5 m a b cs ) ?_
  refine Run.iconst (0 : Int32) d5_0 (by decide) (pc' := 1) rfl ?_
  refine Run.istore (l' := #[.val (.ref a), .val (.int (0 : Int32)), .val (.ref b), .val (.int (0 : Int32)), .val (.int (Int32.ofNat cs.length)), .val (.int (0 : Int32)), .unset]) d5_1 rfl (pc' := 3) rfl ?_
  have loop : ∀ (t i : Nat), t + i = cs.length → i ≤ cs.length → ∀ (h : Heap) (s6 : Slot), One s6 → Ary Z h a .char (cs.map Value.int) → Ary Z h b .byte (own_by (cs.take i) ++ List.replicate (cs.length - i) (.int (0 : Int32))) → n0 ≤ h.size → Keep h0 h [b] → Run l Z n0 "java/lang/StringUTF16" jdk_52_method_21_code 7 (some .int) "compress" ({ frames := 0, cells := 0, slots := 0, locals := 0 } : Room) (Val fun w h' => .int (Int32.ofNat cs.length) = w ∧ Keep h0 h' [b] ∧ Ary Z h' b .byte (own_by cs)) 3 #[.val (.ref a), .val (.int (Int32.ofNat i)), .val (.ref b), .val (.int (Int32.ofNat i)), .val (.int (Int32.ofNat cs.length)), .val (.int (Int32.ofNat i)), s6] [] h 0 0 := by
    intro t
    induction t with
    | zero =>
      intro i hti hile h s6 h_s6 ACi ABi szi kpi
      have hi : i = cs.length := by omega
      refine Run.iload d5_3 rfl (pc' := 5) rfl ?_
      refine Run.iload d5_5 rfl (pc' := 7) rfl ?_
      refine Run.icmp_ge d5_7 (by decide) (pc' := 44) (by decide) (pa := 10) rfl (fun hc7 => ?_) (fun hc7 => ?_)
      · -- pc 7 taken: ¬ (Int32.ofNat i) < (Int32.ofNat cs.length)
        refine Run.iload d5_44 rfl (pc' := 46) rfl ?_
        exact Run.ireturn d5_46 rfl (by decide) (by decide) ⟨_, rfl, rfl, kpi, (by subst hi; simpa [own_by] using ABi)⟩
      · -- pc 7 not taken: (Int32.ofNat i) < (Int32.ofNat cs.length)
        exact absurd ((own_lt (by omega) (by omega)).mp hc7) (by omega)
    | succ t ih =>
      intro i hti hile h s6 h_s6 ACi ABi szi kpi
      have hil : i < cs.length := by omega
      obtain ⟨c, hci⟩ : ∃ c, cs[i]? = some c := ⟨_, List.getElem?_eq_getElem hil⟩
      refine Run.iload d5_3 rfl (pc' := 5) rfl ?_
      refine Run.iload d5_5 rfl (pc' := 7) rfl ?_
      refine Run.icmp_ge d5_7 (by decide) (pc' := 44) (by decide) (pa := 10) rfl (fun hc7 => ?_) (fun hc7 => ?_)
      · -- pc 7 taken: ¬ (Int32.ofNat i) < (Int32.ofNat cs.length)
        exact absurd ((own_lt (by omega) (by omega)).mpr hil) hc7
      · -- pc 7 not taken: (Int32.ofNat i) < (Int32.ofNat cs.length)
        refine Run.aloadN d5_10 rfl rfl (pc' := 11) rfl ?_
        refine Run.iloadN d5_11 rfl (pc' := 12) rfl ?_
        refine Run.caload (i := i) (v := (.int c)) d5_12 ACi (own_ofn (by omega)) (by simp [hci]) (pc' := 13) rfl ?_
        refine Run.istore (l' := #[.val (.ref a), .val (.int (Int32.ofNat i)), .val (.ref b), .val (.int (Int32.ofNat i)), .val (.int (Int32.ofNat cs.length)), .val (.int (Int32.ofNat i)), .val (.int c)]) d5_13 (XS.store1 rfl h_s6 rfl) (pc' := 15) rfl ?_
        refine Run.iload d5_15 rfl (pc' := 17) rfl ?_
        refine Run.sipush (255 : Int32) d5_17 (by decide) (pc' := 20) rfl ?_
        refine Run.icmp_le d5_20 (by decide) (pc' := 26) (by decide) (pa := 23) rfl (fun hc20 => ?_) (fun hc20 => ?_)
        · -- pc 20 taken: ¬ (255 : Int32) < c
          refine Run.aloadN d5_26 rfl rfl (pc' := 27) rfl ?_
          refine Run.iloadN d5_27 rfl (pc' := 28) rfl ?_
          refine Run.iload d5_28 rfl (pc' := 30) rfl ?_
          refine Run.i2b d5_30 (pc' := 31) rfl ?_
          refine Run.bastore (i := i) d5_31 ABi (own_ofn (by omega)) (by simp [own_by]; omega) gb (pc' := 32) rfl ?_
          intro h11 W11 A11
          have A_a_11 := ACi.other W11 hab
          have sz11 : n0 ≤ h11.size := by rw [W11.size]; exact szi
          have kp11 := Keep.wr kpi W11 (Or.inl (List.mem_of_getElem? (i := 0) rfl))
          refine Run.iinc (1 : Int32) #[.val (.ref a), .val (.int ((Int32.ofNat i) + (1 : Int32))), .val (.ref b), .val (.int (Int32.ofNat i)), .val (.int (Int32.ofNat cs.length)), .val (.int (Int32.ofNat i)), .val (.int c)] d5_32 (by decide) rfl rfl (pc' := 35) rfl ?_
          refine Run.iinc (1 : Int32) #[.val (.ref a), .val (.int ((Int32.ofNat i) + (1 : Int32))), .val (.ref b), .val (.int ((Int32.ofNat i) + (1 : Int32))), .val (.int (Int32.ofNat cs.length)), .val (.int (Int32.ofNat i)), .val (.int c)] d5_35 (by decide) rfl rfl (pc' := 38) rfl ?_
          refine Run.iinc (1 : Int32) #[.val (.ref a), .val (.int ((Int32.ofNat i) + (1 : Int32))), .val (.ref b), .val (.int ((Int32.ofNat i) + (1 : Int32))), .val (.int (Int32.ofNat cs.length)), .val (.int ((Int32.ofNat i) + (1 : Int32))), .val (.int c)] d5_38 (by decide) rfl rfl (pc' := 41) rfl ?_
          refine Run.goto d5_41 (by decide) (pc' := 3) (by decide) ?_
          simp only [own_inc]
          exact ih (i + 1) (by omega) (by omega) h11 _ (Or.inr ⟨_, rfl, rfl⟩) A_a_11 (by have q := A11; rw [own_nbb] at q; rw [← own_pre hci hil]; exact q) sz11 kp11
        · -- pc 20 not taken: (255 : Int32) < c
          exact absurd hc20 (by have := (hlat c (List.mem_of_getElem? hci)).2; rw [Int32.lt_iff_toInt_lt]; have h5 : (255 : Int32).toInt = 255 := rfl; omega)
  exact loop cs.length 0 (by omega) (by omega) h0 .unset (Or.inl rfl) AC (by simpa [own_by] using AB) Z0 (Keep.refl h0 [b])
theorem d4_0 : decode jdk_52_method_16_code 0 = .ok (.iload_n 2, 1) := by decide +kernel
theorem d4_1 : decode jdk_52_method_16_code 1 = .ok (.newarray .byte, 2) := by decide +kernel
theorem d4_3 : decode jdk_52_method_16_code 3 = .ok (.astore_n 3, 1) := by decide +kernel
theorem d4_4 : decode jdk_52_method_16_code 4 = .ok (.aload_n 0, 1) := by decide +kernel
theorem d4_5 : decode jdk_52_method_16_code 5 = .ok (.iload_n 1, 1) := by decide +kernel
theorem d4_6 : decode jdk_52_method_16_code 6 = .ok (.aload_n 3, 1) := by decide +kernel
theorem d4_7 : decode jdk_52_method_16_code 7 = .ok (.iconst 0, 1) := by decide +kernel
theorem d4_8 : decode jdk_52_method_16_code 8 = .ok (.iload_n 2, 1) := by decide +kernel
theorem d4_9 : decode jdk_52_method_16_code 9 = .ok (.invokestatic 115, 3) := by decide +kernel
theorem d4_12 : decode jdk_52_method_16_code 12 = .ok (.istore 4, 2) := by decide +kernel
theorem d4_14 : decode jdk_52_method_16_code 14 = .ok (.iload 4, 2) := by decide +kernel
theorem d4_16 : decode jdk_52_method_16_code 16 = .ok (.iload_n 2, 1) := by decide +kernel
theorem d4_17 : decode jdk_52_method_16_code 17 = .ok (.if_icmp .eq 40, 3) := by decide +kernel
theorem d4_57 : decode jdk_52_method_16_code 57 = .ok (.aload_n 3, 1) := by decide +kernel
theorem d4_58 : decode jdk_52_method_16_code 58 = .ok (.areturn, 1) := by decide +kernel
theorem pn_4 : plainFor (⟨"java/lang/StringUTF16", "compress", "([CII)[B"⟩ : MethodName) = true := plainFor_of_name (by first | (simp [plainName, overriddenIn]; done) | decide +kernel)
theorem pd___CI_BII_I : parseMethodDescriptor "([CI[BII)I" = some ⟨[(.array .char), .int, (.array .byte), .int, .int], some .int⟩ := by decide +kernel
theorem ef_con_cmp3 (m : MethodId) (a : Addr) (cs : List Int32)  : entryFrame m #[(.ref a), (.int (0 : Int32)), (.int (Int32.ofNat cs.length))] 6 = mkF m 0 #[.val (.ref a), .val (.int (0 : Int32)), .val (.int (Int32.ofNat cs.length)), .unset, .unset, .unset] [] := by first | (simp [entryFrame, mkF, argsToLocals, Value.category]; done) | rfl
set_option maxRecDepth 65536 in
set_option maxHeartbeats 40000000 in
theorem con_cmp3 (l : Launch) (Z : State) (a0 : Array Value) (hw : ∀ d ∈ tables_1, d.before a0 Z = true) (n0 : Nat) (h0 : Heap) (Z0 : n0 ≤ h0.size) (a : Addr) (cs : List Int32) (AC : Ary Z h0 a .char (cs.map Value.int)) (hn : cs.length ≤ 2) (hlat : own_lat cs) :
    Con l Z n0 (⟨"java/lang/StringUTF16", "compress", "([CII)[B"⟩ : MethodName) jdk_52_method_16_code 6 (some (.array .byte)) ({ frames := 1, cells := 1, slots := 2, locals := 18 } : Room) #[(.ref a), (.int (0 : Int32)), (.int (Int32.ofNat cs.length))] h0 (Val fun w h' => ∃ b, w = .ref b ∧ h0.size ≤ b ∧ Ext h0 h' ∧ Ary Z h' b .byte (own_by cs)) := by
  refine Con.of_run pn_4 (fun m => ef_con_cmp3 m a cs ) ?_
  refine Run.iloadN d4_0 rfl (pc' := 1) rfl ?_
  refine Run.newP (ty := .byte) (m := cs.length) (cap := 2) (dv := (.int (0 : Int32))) (k' := 1) (n' := 2) d4_1 rfl (hw _ (List.mem_of_getElem? (i := 19) rfl)) (by rw [Int32.lt_iff_toInt_lt, own_ofn (by omega)]; have h5 : (0 : Int32).toInt = 0 := rfl; omega) (clamp_of rfl (by omega)) hn rfl (by decide) (by decide) (by decide) (by decide) (by decide) (pc' := 3) rfl ?_
  intro h11 b11 g11 E11 A11
  have ge_b11 : n0 ≤ b11 := by rw [g11]; exact Z0
  have bo_b11 : h0.size ≤ b11 := by rw [g11]; exact (Keep.refl h0 []).1
  have ne_a_b11 : a ≠ b11 := by rw [g11]; exact Nat.ne_of_lt AC.lt
  have A_a_11 := AC.ext E11
  have sz11 : n0 ≤ h11.size := Nat.le_trans Z0 E11.1
  have kp11 := Keep.ext (Keep.refl h0 []) E11
  refine Run.astoreN (l' := #[.val (.ref a), .val (.int (0 : Int32)), .val (.int (Int32.ofNat cs.length)), .val (.ref b11), .unset, .unset]) d4_3 rfl rfl (pc' := 4) rfl ?_
  refine Run.aloadN d4_4 rfl rfl (pc' := 5) rfl ?_
  refine Run.iloadN d4_5 rfl (pc' := 6) rfl ?_
  refine Run.aloadN d4_6 rfl rfl (pc' := 7) rfl ?_
  refine Run.iconst (0 : Int32) d4_7 (by decide) (pc' := 8) rfl ?_
  refine Run.iloadN d4_8 rfl (pc' := 9) rfl ?_
  refine Run.callS (k' := 1) (n' := 2) (as := [(.ref a), (.int (0 : Int32)), (.ref b11), (.int (0 : Int32)), (.int (Int32.ofNat cs.length))]) (rest := []) (con_cmp5 l Z a0 hw n0 h11 sz11 a b11 cs A_a_11 A11 ne_a_b11 ge_b11 (by omega) hlat) d4_9 (hw _ (List.mem_of_getElem? (i := 20) rfl)) (hw _ (List.mem_of_getElem? (i := 21) rfl)) (hw _ (List.mem_of_getElem? (i := 17) rfl)) (hw _ (List.mem_of_getElem? (i := 22) rfl)) (by decide) pd___CI_BII_I rfl rfl rfl (by decide) (by show (0 : Nat) + (7 + 11) + 0 ≤ _; decide) (by decide) (by decide) (by decide) (by decide) (pc' := 12) rfl ?_
  rintro _ h12 ⟨_, rfl, ⟨rfl, K12, P12⟩⟩
  show Run l Z n0 "java/lang/StringUTF16" jdk_52_method_16_code 6 (some (.array .byte)) "compress" ({ frames := 1, cells := 1, slots := 2, locals := 18 } : Room) _ 12 #[.val (.ref a), .val (.int (0 : Int32)), .val (.int (Int32.ofNat cs.length)), .val (.ref b11), .unset, .unset] [(.int (Int32.ofNat cs.length))] h12 1 2
  have A_a_12 := A_a_11.keep K12 (ninS ne_a_b11 nin0)
  have sz12 : n0 ≤ h12.size := Nat.le_trans sz11 K12.1
  have kp12 := Keep.trans kp11 K12 (allS (Or.inr bo_b11) all0)
  refine Run.istore (l' := #[.val (.ref a), .val (.int (0 : Int32)), .val (.int (Int32.ofNat cs.length)), .val (.ref b11), .val (.int (Int32.ofNat cs.length)), .unset]) d4_12 rfl (pc' := 14) rfl ?_
  refine Run.iload d4_14 rfl (pc' := 16) rfl ?_
  refine Run.iloadN d4_16 rfl (pc' := 17) rfl ?_
  refine Run.icmp_eq d4_17 (by decide) (pc' := 57) (by decide) (pa := 20) rfl (fun hc17 => ?_) (fun hc17 => ?_)
  · -- pc 17 taken: (Int32.ofNat cs.length) = (Int32.ofNat cs.length)
    refine Run.aloadN d4_57 rfl rfl (pc' := 58) rfl ?_
    exact Run.areturn d4_58 (ty := (.array .byte)) rfl rfl rfl (by decide) (by decide) ⟨_, rfl, b11, rfl, bo_b11, Keep.toExt kp12, P12⟩
  · -- pc 17 not taken: ¬ (Int32.ofNat cs.length) = (Int32.ofNat cs.length)
    exact absurd rfl hc17
theorem d6_0 : decode jdk_52_method_15_code 0 = .ok (.iload_n 1, 1) := by decide +kernel
theorem d6_1 : decode jdk_52_method_15_code 1 = .ok (.aload_n 0, 1) := by decide +kernel
theorem d6_2 : decode jdk_52_method_15_code 2 = .ok (.arraylength, 1) := by decide +kernel
theorem d6_3 : decode jdk_52_method_15_code 3 = .ok (.isub, 1) := by decide +kernel
theorem d6_4 : decode jdk_52_method_15_code 4 = .ok (.bipush 31, 2) := by decide +kernel
theorem d6_6 : decode jdk_52_method_15_code 6 = .ok (.iushr, 1) := by decide +kernel
theorem d6_7 : decode jdk_52_method_15_code 7 = .ok (.i2b, 1) := by decide +kernel
theorem d6_8 : decode jdk_52_method_15_code 8 = .ok (.ireturn, 1) := by decide +kernel
theorem pn_6 : plainFor (⟨"java/lang/StringUTF16", "coderFromArrayLen", "([BI)B"⟩ : MethodName) = true := plainFor_of_name (by first | (simp [plainName, overriddenIn]; done) | decide +kernel)
theorem ef_con_cfal (m : MethodId) (a : Addr) (cs : List Int32)  : entryFrame m #[(.ref a), (.int (Int32.ofNat cs.length))] 2 = mkF m 0 #[.val (.ref a), .val (.int (Int32.ofNat cs.length))] [] := by first | (simp [entryFrame, mkF, argsToLocals, Value.category]; done) | rfl
set_option maxRecDepth 65536 in
set_option maxHeartbeats 40000000 in
theorem con_cfal (l : Launch) (Z : State) (a0 : Array Value) (hw : ∀ d ∈ tables_1, d.before a0 Z = true) (n0 : Nat) (h0 : Heap) (Z0 : n0 ≤ h0.size) (a : Addr) (cs : List Int32) (AB : Ary Z h0 a .byte (own_by cs)) :
    Con l Z n0 (⟨"java/lang/StringUTF16", "coderFromArrayLen", "([BI)B"⟩ : MethodName) jdk_52_method_15_code 2 (some .byte) ({ frames := 0, cells := 0, slots := 0, locals := 0 } : Room) #[(.ref a), (.int (Int32.ofNat cs.length))] h0 (Val (PV (.int (0 : Int32)) h0)) := by
  refine Con.of_run pn_6 (fun m => ef_con_cfal m a cs ) ?_
  refine Run.iloadN d6_0 rfl (pc' := 1) rfl ?_
  refine Run.aloadN d6_1 rfl rfl (pc' := 2) rfl ?_
  refine Run.alen (z := (Int32.ofNat cs.length)) d6_2 AB (by simp [own_by]) (pc' := 3) rfl ?_
  refine Run.isub d6_3 (pc' := 4) rfl ?_
  refine Run.bipush (31 : Int32) d6_4 (by decide) (pc' := 6) rfl ?_
  refine Run.iushr d6_6 (pc' := 7) rfl ?_
  refine Run.i2b d6_7 (pc' := 8) rfl ?_
  exact Run.nreturn d6_8 (ty := .byte) rfl (by simp) (by decide) (by decide) ⟨_, rfl, congrArg Value.int (by rw [Int32.sub_self]; decide), rfl⟩
theorem own_pos {cs : List Int32} (h : cs ≠ []) (h2 : cs.length < 2 ^ 31) : ¬ Int32.ofNat cs.length = (0 : Int32) := fun e => by
  have h1 := own_ofn h2; rw [e] at h1; have h5 : (0 : Int32).toInt = 0 := rfl; have := List.length_pos_iff.mpr h; omega
theorem d2_0 : decode jdk_42_method_149_code 0 = .ok (.aload_n 0, 1) := by decide +kernel
theorem d2_1 : decode jdk_42_method_149_code 1 = .ok (.invokespecial 1, 3) := by decide +kernel
theorem d2_4 : decode jdk_42_method_149_code 4 = .ok (.iload_n 3, 1) := by decide +kernel
theorem d2_5 : decode jdk_42_method_149_code 5 = .ok (.ifCond .ne 22, 3) := by decide +kernel
theorem d2_27 : decode jdk_42_method_149_code 27 = .ok (.getstatic 38, 3) := by decide +kernel
theorem d2_30 : decode jdk_42_method_149_code 30 = .ok (.ifCond .eq 28, 3) := by decide +kernel
theorem d2_33 : decode jdk_42_method_149_code 33 = .ok (.aload_n 1, 1) := by decide +kernel
theorem d2_34 : decode jdk_42_method_149_code 34 = .ok (.iload_n 2, 1) := by decide +kernel
theorem d2_35 : decode jdk_42_method_149_code 35 = .ok (.iload_n 3, 1) := by decide +kernel
theorem d2_36 : decode jdk_42_method_149_code 36 = .ok (.invokestatic 177, 3) := by decide +kernel
theorem d2_39 : decode jdk_42_method_149_code 39 = .ok (.astore 5, 2) := by decide +kernel
theorem d2_41 : decode jdk_42_method_149_code 41 = .ok (.aload_n 0, 1) := by decide +kernel
theorem d2_42 : decode jdk_42_method_149_code 42 = .ok (.aload 5, 2) := by decide +kernel
theorem d2_44 : decode jdk_42_method_149_code 44 = .ok (.iload_n 3, 1) := by decide +kernel
theorem d2_45 : decode jdk_42_method_149_code 45 = .ok (.invokestatic 47, 3) := by decide +kernel
theorem d2_48 : decode jdk_42_method_149_code 48 = .ok (.putfield 15, 3) := by decide +kernel
theorem d2_51 : decode jdk_42_method_149_code 51 = .ok (.aload_n 0, 1) := by decide +kernel
theorem d2_52 : decode jdk_42_method_149_code 52 = .ok (.aload 5, 2) := by decide +kernel
theorem d2_54 : decode jdk_42_method_149_code 54 = .ok (.putfield 9, 3) := by decide +kernel
theorem d2_57 : decode jdk_42_method_149_code 57 = .ok (.return_, 1) := by decide +kernel
theorem pn_2 : plainFor (⟨"java/lang/String", "<init>", "([CIILjava/lang/Void;)V"⟩ : MethodName) = true := plainFor_of_name (by first | (simp [plainName, overriddenIn]; done) | decide +kernel)
theorem pd___BI_B : parseMethodDescriptor "([BI)B" = some ⟨[(.array .byte), .int], some .byte⟩ := by decide +kernel
theorem pd___CII__B : parseMethodDescriptor "([CII)[B" = some ⟨[(.array .char), .int, .int], some (.array .byte)⟩ := by decide +kernel
theorem ef_con_si4 (m : MethodId) (t : Addr) (a : Addr) (cs : List Int32) (cz : Int32) (uv : Value) (uc : Value)  : entryFrame m #[(.ref t), (.ref a), (.int (0 : Int32)), (.int (Int32.ofNat cs.length)), .null] 6 = mkF m 0 #[.val (.ref t), .val (.ref a), .val (.int (0 : Int32)), .val (.int (Int32.ofNat cs.length)), .val .null, .unset] [] := by first | (simp [entryFrame, mkF, argsToLocals, Value.category]; done) | rfl
set_option maxRecDepth 65536 in
set_option maxHeartbeats 40000000 in
theorem con_si4 (l : Launch) (Z : State) (a0 : Array Value) (hw : ∀ d ∈ tables_1, d.before a0 Z = true) (n0 : Nat) (h0 : Heap) (Z0 : n0 ≤ h0.size) (t : Addr) (a : Addr) (cs : List Int32) (cz : Int32) (uv : Value) (uc : Value) (E1 : Exa Z h0 t "java/lang/String") (FV : Fld Z h0 t "java/lang/String" "value" "[B" uv) (FC : Fld Z h0 t "java/lang/String" "coder" "B" uc) (gt : n0 ≤ t) (AC : Ary Z h0 a .char (cs.map Value.int)) (hne : cs ≠ []) (hn : cs.length ≤ 2) (hlat : own_lat cs) (SZ : Sta Z h0 "java/lang/String" "COMPACT_STRINGS" "Z" (.int cz)) (hcz : ¬ cz = 0) (hta : t ≠ a) :
    Con l Z n0 (⟨"java/lang/String", "<init>", "([CIILjava/lang/Void;)V"⟩ : MethodName) jdk_42_method_149_code 6 none ({ frames := 2, cells := 1, slots := 2, locals := 35 } : Room) #[(.ref t), (.ref a), (.int (0 : Int32)), (.int (Int32.ofNat cs.length)), .null] h0 (Vd fun h' => ∃ b, h0.size ≤ b ∧ Keep h0 h' [t] ∧ Exa Z h' t "java/lang/String" ∧ Fld Z h' t "java/lang/String" "value" "[B" (.ref b) ∧ Fld Z h' t "java/lang/String" "coder" "B" (.int (0 : Int32)) ∧ Ary Z h' b .byte (own_by cs)) := by
  refine Con.of_run pn_2 (fun m => ef_con_si4 m t a cs cz uv uc ) ?_
  refine Run.aloadN d2_0 rfl rfl (pc' := 1) rfl ?_
  refine Run.initO d2_1 (hw _ (List.mem_of_getElem? (i := 11) rfl)) (hw _ (List.mem_of_getElem? (i := 12) rfl)) (hw _ (List.mem_of_getElem? (i := 13) rfl)) rfl (by decide) (by show (0 : Nat) + 12 ≤ _; decide) (pc' := 4) rfl ?_
  refine Run.iloadN d2_4 rfl (pc' := 5) rfl ?_
  refine Run.if_ne d2_5 (by decide) (pc' := 27) (by decide) (pa := 8) rfl (fun hc5 => ?_) (fun hc5 => ?_)
  · -- pc 5 taken: ¬ (Int32.ofNat cs.length) = (0 : Int32)
    refine Run.getS d2_27 (host := "") (Or.inl (hw _ (List.mem_of_getElem? (i := 14) rfl))) Via.refl SZ (pc' := 30) rfl ?_
    refine Run.if_eq d2_30 (by decide) (pc' := 58) (by decide) (pa := 33) rfl (fun hc30 => ?_) (fun hc30 => ?_)
    · -- pc 30 taken: cz = (0 : Int32)
      exact absurd hc30 hcz
    · -- pc 30 not taken: ¬ cz = (0 : Int32)
      refine Run.aloadN d2_33 rfl rfl (pc' := 34) rfl ?_
      refine Run.iloadN d2_34 rfl (pc' := 35) rfl ?_
      refine Run.iloadN d2_35 rfl (pc' := 36) rfl ?_
      refine Run.callS (k' := 1) (n' := 2) (as := [(.ref a), (.int (0 : Int32)), (.int (Int32.ofNat cs.length))]) (rest := []) (con_cmp3 l Z a0 hw n0 h0 Z0 a cs AC hn hlat) d2_36 (hw _ (List.mem_of_getElem? (i := 15) rfl)) (hw _ (List.mem_of_getElem? (i := 16) rfl)) (hw _ (List.mem_of_getElem? (i := 17) rfl)) (hw _ (List.mem_of_getElem? (i := 18) rfl)) (by decide) pd___CII__B rfl rfl rfl (by decide) (by show (0 : Nat) + (6 + 11) + 18 ≤ _; decide) (by decide) (by decide) (by decide) (by decide) (pc' := 39) rfl ?_
      rintro _ h11 ⟨_, rfl, b11, rfl, bw11, E11, P11⟩
      show Run l Z n0 "java/lang/String" jdk_42_method_149_code 6 none "<init>" ({ frames := 2, cells := 1, slots := 2, locals := 35 } : Room) _ 39 #[.val (.ref t), .val (.ref a), .val (.int (0 : Int32)), .val (.int (Int32.ofNat cs.length)), .val .null, .unset] [(.ref b11)] h11 1 2
      have ge_b11 : n0 ≤ b11 := Nat.le_trans Z0 bw11
      have bo_b11 : h0.size ≤ b11 := Nat.le_trans (Keep.refl h0 [t]).1 bw11
      have ne_t_b11 : t ≠ b11 := Nat.ne_of_lt (Nat.lt_of_lt_of_le E1.lt bw11)
      have ne_a_b11 : a ≠ b11 := Nat.ne_of_lt (Nat.lt_of_lt_of_le AC.lt bw11)
      have E_t_11 := E1.ext E11
      have F_t_value_11 := FV.ext E11
      have F_t_coder_11 := FC.ext E11
      have A_a_11 := AC.ext E11
      have S_javalangString_COMPACT_STRINGS_11 := SZ.ext E11
      have sz11 : n0 ≤ h11.size := Nat.le_trans Z0 E11.1
      have kp11 := Keep.ext (Keep.refl h0 [t]) E11
      refine Run.astore (l' := #[.val (.ref t), .val (.ref a), .val (.int (0 : Int32)), .val (.int (Int32.ofNat cs.length)), .val .null, .val (.ref b11)]) d2_39 rfl rfl (pc' := 41) rfl ?_
      refine Run.aloadN d2_41 rfl rfl (pc' := 42) rfl ?_
      refine Run.aload d2_42 rfl rfl (pc' := 44) rfl ?_
      refine Run.iloadN d2_44 rfl (pc' := 45) rfl ?_
      refine Run.callS (k' := 1) (n' := 2) (as := [(.ref b11), (.int (Int32.ofNat cs.length))]) (rest := [(.ref t)]) (con_cfal l Z a0 hw n0 h11 sz11  b11 cs P11) d2_45 (hw _ (List.mem_of_getElem? (i := 23) rfl)) (hw _ (List.mem_of_getElem? (i := 24) rfl)) (hw _ (List.mem_of_getElem? (i := 17) rfl)) (hw _ (List.mem_of_getElem? (i := 25) rfl)) (by decide) pd___BI_B rfl rfl rfl (by decide) (by show (1 : Nat) + (2 + 11) + 0 ≤ _; decide) (by decide) (by decide) (by decide) (by decide) (pc' := 48) rfl ?_
      rintro _ _ ⟨_, rfl, rfl, rfl⟩
      show Run l Z n0 "java/lang/String" jdk_42_method_149_code 6 none "<init>" ({ frames := 2, cells := 1, slots := 2, locals := 35 } : Room) _ 48 #[.val (.ref t), .val (.ref a), .val (.int (0 : Int32)), .val (.int (Int32.ofNat cs.length)), .val .null, .val (.ref b11)] [(.int (0 : Int32)), (.ref t)] h11 1 2
      refine Run.putFN d2_48 (hw _ (List.mem_of_getElem? (i := 26) rfl)) Via.refl F_t_coder_11 E_t_11 (Or.inr ⟨(hw _ (List.mem_of_getElem? (i := 27) rfl)), rfl, rfl⟩) (hw _ (List.mem_of_getElem? (i := 2) rfl)) (ty := .byte) (v' := (.int (0 : Int32))) (by decide) rfl rfl gt (pc' := 51) rfl ?_
      intro h12 W12
      have Fw12 := F_t_coder_11.same W12
      have E_t_12 := E_t_11.wr W12
      have F_t_value_12 := F_t_value_11.other W12 (Or.inr (slot_ne (Or.inr (hw _ (List.mem_of_getElem? (i := 29) rfl))) (Or.inr (hw _ (List.mem_of_getElem? (i := 27) rfl))) (by decide) (t := (.array .byte)) (t' := .byte) (by decide) (by decide)))
      have A_a_12 := A_a_11.other W12 hta.symm
      have S_javalangString_COMPACT_STRINGS_12 := S_javalangString_COMPACT_STRINGS_11.wr W12
      have A_b11_12 := P11.other W12 (Ne.symm ne_t_b11)
      have sz12 : n0 ≤ h12.size := by rw [W12.size]; exact sz11
      have kp12 := Keep.wr kp11 W12 (Or.inl (List.mem_of_getElem? (i := 0) rfl))
      refine Run.aloadN d2_51 rfl rfl (pc' := 52) rfl ?_
      refine Run.aload d2_52 rfl rfl (pc' := 54) rfl ?_
      refine Run.putF d2_54 (host := "") (Or.inl (hw _ (List.mem_of_getElem? (i := 28) rfl))) Via.refl F_t_value_12 E_t_12 (Or.inr ⟨(hw _ (List.mem_of_getElem? (i := 29) rfl)), rfl, rfl⟩) (hw _ (List.mem_of_getElem? (i := 2) rfl)) (ty := (.array .byte)) (by decide) (go_narref rfl rfl) rfl gt (pc' := 57) rfl ?_
      intro h13 W13
      have Fw13 := F_t_value_12.same W13
      have E_t_13 := E_t_12.wr W13
      have A_a_13 := A_a_12.other W13 hta.symm
      have S_javalangString_COMPACT_STRINGS_13 := S_javalangString_COMPACT_STRINGS_12.wr W13
      have A_b11_13 := A_b11_12.other W13 (Ne.symm ne_t_b11)
      have F_t_coder_13 := Fw12.other W13 (Or.inr (slot_ne (Or.inr (hw _ (List.mem_of_getElem? (i := 27) rfl))) (Or.inr (hw _ (List.mem_of_getElem? (i := 29) rfl))) (by decide) (t := .byte) (t' := (.array .byte)) (by decide) (by decide)))
      have sz13 : n0 ≤ h13.size := by rw [W13.size]; exact sz12
      have kp13 := Keep.wr kp12 W13 (Or.inl (List.mem_of_getElem? (i := 0) rfl))
      exact Run.vreturn d2_57 rfl (by decide) (by decide) ⟨rfl, b11, bo_b11, kp13, E_t_13, Fw13, F_t_coder_13, A_b11_13⟩
  · -- pc 5 not taken: (Int32.ofNat cs.length) = (0 : Int32)
    exact absurd hc5 (own_pos hne (by omega))
theorem d1_0 : decode jdk_42_method_3_code 0 = .ok (.aload_n 0, 1) := by decide +kernel
theorem d1_1 : decode jdk_42_method_3_code 1 = .ok (.aload_n 1, 1) := by decide +kernel
theorem d1_2 : decode jdk_42_method_3_code 2 = .ok (.iconst 0, 1) := by decide +kernel
theorem d1_3 : decode jdk_42_method_3_code 3 = .ok (.aload_n 1, 1) := by decide +kernel
theorem d1_4 : decode jdk_42_method_3_code 4 = .ok (.arraylength, 1) := by decide +kernel
theorem d1_5 : decode jdk_42_method_3_code 5 = .ok (.aconst_null, 1) := by decide +kernel
theorem d1_6 : decode jdk_42_method_3_code 6 = .ok (.invokespecial 27, 3) := by decide +kernel
theorem d1_9 : decode jdk_42_method_3_code 9 = .ok (.return_, 1) := by decide +kernel
theorem pn_1 : plainFor (⟨"java/lang/String", "<init>", "([C)V"⟩ : MethodName) = true := plainFor_of_name (by first | (simp [plainName, overriddenIn]; done) | decide +kernel)
theorem pd___CIILjava_lang_Void__V : parseMethodDescriptor "([CIILjava/lang/Void;)V" = some ⟨[(.array .char), .int, .int, (.object "java/lang/Void")], none⟩ := by decide +kernel
theorem ef_con_si1 (m : MethodId) (t : Addr) (a : Addr) (cs : List Int32) (cz : Int32) (uv : Value) (uc : Value)  : entryFrame m #[(.ref t), (.ref a)] 2 = mkF m 0 #[.val (.ref t), .val (.ref a)] [] := by first | (simp [entryFrame, mkF, argsToLocals, Value.category]; done) | rfl
set_option maxRecDepth 65536 in
set_option maxHeartbeats 40000000 in
theorem con_si1 (l : Launch) (Z : State) (a0 : Array Value) (hw : ∀ d ∈ tables_1, d.before a0 Z = true) (n0 : Nat) (h0 : Heap) (Z0 : n0 ≤ h0.size) (t : Addr) (a : Addr) (cs : List Int32) (cz : Int32) (uv : Value) (uc : Value) (E1 : Exa Z h0 t "java/lang/String") (FV : Fld Z h0 t "java/lang/String" "value" "[B" uv) (FC : Fld Z h0 t "java/lang/String" "coder" "B" uc) (gt : n0 ≤ t) (AC : Ary Z h0 a .char (cs.map Value.int)) (hne : cs ≠ []) (hn : cs.length ≤ 2) (hlat : own_lat cs) (SZ : Sta Z h0 "java/lang/String" "COMPACT_STRINGS" "Z" (.int cz)) (hcz : ¬ cz = 0) (hta : t ≠ a) :
    Con l Z n0 (⟨"java/lang/String", "<init>", "([C)V"⟩ : MethodName) jdk_42_method_3_code 2 none ({ frames := 3, cells := 1, slots := 2, locals := 52 } : Room) #[(.ref t), (.ref a)] h0 (Vd fun h' => ∃ b, h0.size ≤ b ∧ Keep h0 h' [t] ∧ Exa Z h' t "java/lang/String" ∧ Fld Z h' t "java/lang/String" "value" "[B" (.ref b) ∧ Fld Z h' t "java/lang/String" "coder" "B" (.int (0 : Int32)) ∧ Ary Z h' b .byte (own_by cs)) := by
  refine Con.of_run pn_1 (fun m => ef_con_si1 m t a cs cz uv uc ) ?_
  refine Run.aloadN d1_0 rfl rfl (pc' := 1) rfl ?_
  refine Run.aloadN d1_1 rfl rfl (pc' := 2) rfl ?_
  refine Run.iconst (0 : Int32) d1_2 (by decide) (pc' := 3) rfl ?_
  refine Run.aloadN d1_3 rfl rfl (pc' := 4) rfl ?_
  refine Run.alen (z := (Int32.ofNat cs.length)) d1_4 AC (by simp) (pc' := 5) rfl ?_
  refine Run.aconst d1_5 (pc' := 6) rfl ?_
  refine Run.callN (k' := 1) (n' := 2) (a := t) (as := [(.ref a), (.int (0 : Int32)), (.int (Int32.ofNat cs.length)), .null]) (rest := []) (con_si4 l Z a0 hw n0 h0 Z0 t a cs cz uv uc E1 FV FC gt AC hne hn hlat SZ hcz (Ne.symm hta.symm)) rfl d1_6 (hw _ (List.mem_of_getElem? (i := 7) rfl)) (hw _ (List.mem_of_getElem? (i := 8) rfl)) (hw _ (List.mem_of_getElem? (i := 3) rfl)) (hw _ (List.mem_of_getElem? (i := 10) rfl)) (by decide) pd___CIILjava_lang_Void__V rfl rfl rfl (by decide) (by show (0 : Nat) + (6 + 11) + 35 ≤ _; decide) (by decide) (by decide) (by decide) (by decide) (pc' := 9) rfl ?_
  rintro h11 ⟨b11, bw11, K11, X11, FV11, FC11, P11⟩
  show Run l Z n0 "java/lang/String" jdk_42_method_3_code 2 none "<init>" ({ frames := 3, cells := 1, slots := 2, locals := 52 } : Room) _ 9 #[.val (.ref t), .val (.ref a)] [] h11 1 2
  have ge_b11 : n0 ≤ b11 := Nat.le_trans Z0 bw11
  have bo_b11 : h0.size ≤ b11 := Nat.le_trans (Keep.refl h0 [t]).1 bw11
  have ne_t_b11 : t ≠ b11 := Nat.ne_of_lt (Nat.lt_of_lt_of_le E1.lt bw11)
  have ne_a_b11 : a ≠ b11 := Nat.ne_of_lt (Nat.lt_of_lt_of_le AC.lt bw11)
  have E_t_11 := E1.keep K11
  have A_a_11 := AC.keep K11 (ninS hta.symm nin0)
  have S_javalangString_COMPACT_STRINGS_11 := sta_keep SZ K11 (allS (nst_exa E1) all0)
  have sz11 : n0 ≤ h11.size := Nat.le_trans Z0 K11.1
  have kp11 := Keep.trans (Keep.refl h0 [t]) K11 (allS (Or.inl (List.mem_of_getElem? (i := 0) rfl)) all0)
  exact Run.vreturn d1_9 rfl (by decide) (by decide) ⟨rfl, b11, bo_b11, kp11, X11, FV11, FC11, P11⟩
theorem own_bx {a : Int32} (h1 : ¬ a < (-128 : Int32)) (h2 : ¬ (127 : Int32) < a) : -128 ≤ a.toInt ∧ a.toInt ≤ 127 := by
  rw [Int32.lt_iff_toInt_lt] at h1 h2; have h5 : (-128 : Int32).toInt = -128 := rfl; have h6 : (127 : Int32).toInt = 127 := rfl; omega
theorem own_ix {a : Int32} (ha : -128 ≤ a.toInt ∧ a.toInt ≤ 127) : (a + (128 : Int32)).toInt = (((a.toInt + 128).toNat : Nat) : Int) := by
  have h3 := c_iadd a 128; have h4 := rng32 (a + 128); have h5 : (128 : Int32).toInt = 128 := rfl
  omega
theorem own_len {args : Array Value} {s : State} {t : Term} {a : Addr} {cl : Cell} (ht : t.eval args s none [] s = some (.ref a)) (hc : s.arrayAt? a = some cl) (h : (Term.length t).eval args s none [] s = some (.int 256)) : cl.slots.size = 256 := by
  simp only [Term.eval, ht, hc, Option.bind_eq_bind, Option.bind_some] at h
  by_cases q : cl.slots.size < 2 ^ 31
  · simp only [q, if_true] at h
    have e : cl.slots.size.toInt32 = 256 := by simpa using h
    have := len_toInt q
    rw [e] at this
    have h5 : (256 : Int32).toInt = 256 := rfl
    omega
  · simp [q] at h
theorem own_sub {args : Array Value} {s : State} {j : Int32} (hj : ¬ j < 0) : (Term.sub (.index 0) (.int 128)).eval args s none [j.toNatClampNeg] s = some (.int (j - 128)) := by
  have h := (back32 hj).1
  simp [Term.eval, h]
theorem own_cache {s : State} {ac : Addr} {cl : Cell} {val : Int32 → Value} (B : Bxs s ac cl "java/lang/Integer" "I" 256 val) : ∀ a : Int32, (-128 ≤ a.toInt ∧ a.toInt ≤ 127) → ∃ bx, cl.slots.toList[(a.toInt + 128).toNat]? = some (.ref bx) ∧ Exa s s.heap bx "java/lang/Integer" := by
  intro a ha
  have h1 := own_ix ha
  have h2 : cl.slots.size = 256 := B.2.1
  obtain ⟨hin, e0⟩ := idxIn (c := cl) h1 (by omega)
  obtain ⟨b, hb, he, -⟩ := B.2.2.2 _ hin
  rw [e0] at hb
  exact ⟨b, by simpa using hb, he⟩
theorem d12_0 : decode jdk_18_method_1_code 0 = .ok (.aload_n 0, 1) := by decide +kernel
theorem d12_1 : decode jdk_18_method_1_code 1 = .ok (.invokespecial 1, 3) := by decide +kernel
theorem d12_4 : decode jdk_18_method_1_code 4 = .ok (.return_, 1) := by decide +kernel
theorem pn_12 : plainFor (⟨"java/lang/Number", "<init>", "()V"⟩ : MethodName) = true := plainFor_of_name (by first | (simp [plainName, overriddenIn]; done) | decide +kernel)
theorem ef_con_num (m : MethodId) (a1 : Addr)  : entryFrame m #[(.ref a1)] 1 = mkF m 0 #[.val (.ref a1)] [] := by first | (simp [entryFrame, mkF, argsToLocals, Value.category]; done) | rfl
set_option maxRecDepth 65536 in
set_option maxHeartbeats 40000000 in
theorem con_num (l : Launch) (Z : State) (a0 : Array Value) (hw : ∀ d ∈ tables_1, d.before a0 Z = true) (n0 : Nat) (h0 : Heap) (Z0 : n0 ≤ h0.size) (a1 : Addr)  :
    Con l Z n0 (⟨"java/lang/Number", "<init>", "()V"⟩ : MethodName) jdk_18_method_1_code 1 none ({ frames := 1, cells := 0, slots := 0, locals := 12 } : Room) #[(.ref a1)] h0 (Vd fun h' => h0 = h') := by
  refine Con.of_run pn_12 (fun m => ef_con_num m a1 ) ?_
  refine Run.aloadN d12_0 rfl rfl (pc' := 1) rfl ?_
  refine Run.initO d12_1 (hw _ (List.mem_of_getElem? (i := 68) rfl)) (hw _ (List.mem_of_getElem? (i := 12) rfl)) (hw _ (List.mem_of_getElem? (i := 13) rfl)) rfl (by decide) (by show (0 : Nat) + 12 ≤ _; decide) (pc' := 4) rfl ?_
  exact Run.vreturn d12_4 rfl (by decide) (by decide) ⟨rfl, rfl⟩
theorem d11_0 : decode jdk_33_method_23_code 0 = .ok (.aload_n 0, 1) := by decide +kernel
theorem d11_1 : decode jdk_33_method_23_code 1 = .ok (.invokespecial 202, 3) := by decide +kernel
theorem d11_4 : decode jdk_33_method_23_code 4 = .ok (.aload_n 0, 1) := by decide +kernel
theorem d11_5 : decode jdk_33_method_23_code 5 = .ok (.iload_n 1, 1) := by decide +kernel
theorem d11_6 : decode jdk_33_method_23_code 6 = .ok (.putfield 205, 3) := by decide +kernel
theorem d11_9 : decode jdk_33_method_23_code 9 = .ok (.return_, 1) := by decide +kernel
theorem pn_11 : plainFor (⟨"java/lang/Integer", "<init>", "(I)V"⟩ : MethodName) = true := plainFor_of_name (by first | (simp [plainName, overriddenIn]; done) | decide +kernel)
theorem pd___V : parseMethodDescriptor "()V" = some ⟨[], none⟩ := by decide +kernel
theorem ef_con_int (m : MethodId) (a1 : Addr) (p2 : Int32)  : entryFrame m #[(.ref a1), (.int p2)] 2 = mkF m 0 #[.val (.ref a1), .val (.int p2)] [] := by first | (simp [entryFrame, mkF, argsToLocals, Value.category]; done) | rfl
set_option maxRecDepth 65536 in
set_option maxHeartbeats 40000000 in
theorem con_int (l : Launch) (Z : State) (a0 : Array Value) (hw : ∀ d ∈ tables_1, d.before a0 Z = true) (n0 : Nat) (h0 : Heap) (Z0 : n0 ≤ h0.size) (a1 : Addr) (p2 : Int32) (E1 : Exa Z h0 a1 "java/lang/Integer") (F1 : Fld Z h0 a1 "java/lang/Integer" "value" "I" (.int (0 : Int32))) (g1 : n0 ≤ a1) :
    Con l Z n0 (⟨"java/lang/Integer", "<init>", "(I)V"⟩ : MethodName) jdk_33_method_23_code 2 none ({ frames := 2, cells := 0, slots := 0, locals := 24 } : Room) #[(.ref a1), (.int p2)] h0 (Vd fun h' => Keep h0 h' [a1]) := by
  refine Con.of_run pn_11 (fun m => ef_con_int m a1 p2 ) ?_
  refine Run.aloadN d11_0 rfl rfl (pc' := 1) rfl ?_
  refine Run.callN (k' := 0) (n' := 0) (a := a1) (as := []) (rest := []) (con_num l Z a0 hw n0 h0 Z0 a1) rfl d11_1 (hw _ (List.mem_of_getElem? (i := 62) rfl)) (hw _ (List.mem_of_getElem? (i := 63) rfl)) (hw _ (List.mem_of_getElem? (i := 66) rfl)) (hw _ (List.mem_of_getElem? (i := 67) rfl)) (by decide) pd___V rfl rfl rfl (by decide) (by show (0 : Nat) + (1 + 11) + 12 ≤ _; decide) (by decide) (by decide) (by decide) (by decide) (pc' := 4) rfl ?_
  rintro _ rfl
  refine Run.aloadN d11_4 rfl rfl (pc' := 5) rfl ?_
  refine Run.iloadN d11_5 rfl (pc' := 6) rfl ?_
  refine Run.putF d11_6 (host := "") (Or.inl (hw _ (List.mem_of_getElem? (i := 69) rfl))) Via.refl F1 E1 (Or.inr ⟨(hw _ (List.mem_of_getElem? (i := 70) rfl)), rfl, rfl⟩) (hw _ (List.mem_of_getElem? (i := 57) rfl)) (ty := .int) (by decide) rfl rfl g1 (pc' := 9) rfl ?_
  intro h11 W11
  have Fw11 := F1.same W11
  have E_a1_11 := E1.wr W11
  have sz11 : n0 ≤ h11.size := by rw [W11.size]; exact Z0
  have kp11 := Keep.wr (Keep.refl h0 [a1]) W11 (Or.inl (List.mem_of_getElem? (i := 0) rfl))
  exact Run.vreturn d11_9 rfl (by decide) (by decide) ⟨rfl, kp11⟩
theorem d7_0 : decode jdk_33_method_22_code 0 = .ok (.iload_n 0, 1) := by decide +kernel
theorem d7_1 : decode jdk_33_method_22_code 1 = .ok (.bipush (-128), 2) := by decide +kernel
theorem d7_3 : decode jdk_33_method_22_code 3 = .ok (.if_icmp .lt 20, 3) := by decide +kernel
theorem d7_6 : decode jdk_33_method_22_code 6 = .ok (.iload_n 0, 1) := by decide +kernel
theorem d7_7 : decode jdk_33_method_22_code 7 = .ok (.getstatic 191, 3) := by decide +kernel
theorem d7_10 : decode jdk_33_method_22_code 10 = .ok (.if_icmp .gt 13, 3) := by decide +kernel
theorem d7_13 : decode jdk_33_method_22_code 13 = .ok (.getstatic 195, 3) := by decide +kernel
theorem d7_16 : decode jdk_33_method_22_code 16 = .ok (.iload_n 0, 1) := by decide +kernel
theorem d7_17 : decode jdk_33_method_22_code 17 = .ok (.sipush 128, 3) := by decide +kernel
theorem d7_20 : decode jdk_33_method_22_code 20 = .ok (.iadd, 1) := by decide +kernel
theorem d7_21 : decode jdk_33_method_22_code 21 = .ok (.aaload, 1) := by decide +kernel
theorem d7_22 : decode jdk_33_method_22_code 22 = .ok (.areturn, 1) := by decide +kernel
theorem d7_23 : decode jdk_33_method_22_code 23 = .ok (.new 1, 3) := by decide +kernel
theorem d7_26 : decode jdk_33_method_22_code 26 = .ok (.dup, 1) := by decide +kernel
theorem d7_27 : decode jdk_33_method_22_code 27 = .ok (.iload_n 0, 1) := by decide +kernel
theorem d7_28 : decode jdk_33_method_22_code 28 = .ok (.invokespecial 199, 3) := by decide +kernel
theorem d7_31 : decode jdk_33_method_22_code 31 = .ok (.areturn, 1) := by decide +kernel
theorem pn_7 : plainFor (⟨"java/lang/Integer", "valueOf", "(I)Ljava/lang/Integer;"⟩ : MethodName) = true := plainFor_of_name (by first | (simp [plainName, overriddenIn]; done) | decide +kernel)
theorem pd__I_V : parseMethodDescriptor "(I)V" = some ⟨[.int], none⟩ := by decide +kernel
theorem ef_con_vof (m : MethodId) (p1 : Int32) (ac : Addr) (vs : List Value)  : entryFrame m #[(.int p1)] 1 = mkF m 0 #[.val (.int p1)] [] := by first | (simp [entryFrame, mkF, argsToLocals, Value.category]; done) | rfl
set_option maxRecDepth 65536 in
set_option maxHeartbeats 40000000 in
theorem con_vof (l : Launch) (Z : State) (a0 : Array Value) (hw : ∀ d ∈ tables_1, d.before a0 Z = true) (n0 : Nat) (h0 : Heap) (Z0 : n0 ≤ h0.size) (p1 : Int32) (ac : Addr) (vs : List Value) (od0 : Old Z n0 h0) (SH : Sta Z Z.heap "java/lang/Integer$IntegerCache" "high" "I" (.int (127 : Int32))) (SC : Sta Z Z.heap "java/lang/Integer$IntegerCache" "cache" "[Ljava/lang/Integer;" (.ref ac)) (AC : Ary Z Z.heap ac (.object "java/lang/Integer") vs) (hcache : ∀ a : Int32, (-128 ≤ a.toInt ∧ a.toInt ≤ 127) → ∃ bx, vs[(a.toInt + 128).toNat]? = some (.ref bx) ∧ Exa Z Z.heap bx "java/lang/Integer") :
    Con l Z n0 (⟨"java/lang/Integer", "valueOf", "(I)Ljava/lang/Integer;"⟩ : MethodName) jdk_33_method_22_code 1 (some (.object "java/lang/Integer")) ({ frames := 3, cells := 1, slots := 1, locals := 38 } : Room) #[(.int p1)] h0 (Val fun w h' => ∃ b, w = .ref b ∧ Ext h0 h' ∧ Exa Z h' b "java/lang/Integer") := by
  refine Con.of_run pn_7 (fun m => ef_con_vof m p1 ac vs ) ?_
  refine Run.iloadN d7_0 rfl (pc' := 1) rfl ?_
  refine Run.bipush (-128 : Int32) d7_1 (by decide) (pc' := 3) rfl ?_
  refine Run.icmp_lt d7_3 (by decide) (pc' := 23) (by decide) (pa := 6) rfl (fun hc3 => ?_) (fun hc3 => ?_)
  · -- pc 3 taken: p1 < (-128 : Int32)
    refine Run.newO (k' := 1) (n' := 1) d7_23 (hw _ (List.mem_of_getElem? (i := 56) rfl)) (hw _ (List.mem_of_getElem? (i := 57) rfl)) (hw _ (List.mem_of_getElem? (i := 32) rfl)) (by decide) (by decide) (by decide) (by decide) (pc' := 26) rfl ?_
    intro h11 b11 g11 E11 X11 D11
    have ge_b11 : n0 ≤ b11 := by rw [g11]; exact Z0
    have bo_b11 : h0.size ≤ b11 := by rw [g11]; exact (Keep.refl h0 []).1
    have ne_ac_b11 : ac ≠ b11 := Nat.ne_of_lt (Nat.lt_of_lt_of_le (od0.1 ▸ AC.lt) ge_b11)
    have sz11 : n0 ≤ h11.size := Nat.le_trans Z0 E11.1
    have kp11 := Keep.ext (Keep.refl h0 []) E11
    have od11 := od0.ext E11
    have F_b11_value : Fld Z h11 b11 "java/lang/Integer" "value" "I" (.int (0 : Int32)) := D11 (Or.inr (hw _ (List.mem_of_getElem? (i := 70) rfl))) (ty := .int) (by decide)
    refine Run.dup d7_26 rfl (pc' := 27) rfl ?_
    refine Run.iloadN d7_27 rfl (pc' := 28) rfl ?_
    refine Run.callN (k' := 1) (n' := 1) (a := b11) (as := [(.int p1)]) (rest := [(.ref b11)]) (con_int l Z a0 hw n0 h11 sz11 b11 p1 X11 F_b11_value ge_b11) rfl d7_28 (hw _ (List.mem_of_getElem? (i := 58) rfl)) (hw _ (List.mem_of_getElem? (i := 59) rfl)) (hw _ (List.mem_of_getElem? (i := 32) rfl)) (hw _ (List.mem_of_getElem? (i := 61) rfl)) (by decide) pd__I_V rfl rfl rfl (by decide) (by show (1 : Nat) + (2 + 11) + 24 ≤ _; decide) (by decide) (by decide) (by decide) (by decide) (pc' := 31) rfl ?_
    rintro h12 K12
    show Run l Z n0 "java/lang/Integer" jdk_33_method_22_code 1 (some (.object "java/lang/Integer")) "valueOf" ({ frames := 3, cells := 1, slots := 1, locals := 38 } : Room) _ 31 #[.val (.int p1)] [(.ref b11)] h12 1 1
    have E_b11_12 := X11.keep K12
    have sz12 : n0 ≤ h12.size := Nat.le_trans sz11 K12.1
    have kp12 := Keep.trans kp11 K12 (allS (Or.inr bo_b11) all0)
    have od12 := od11.keep K12 (allS ge_b11 all0)
    exact Run.areturn d7_31 (ty := (.object "java/lang/Integer")) rfl rfl rfl (by decide) (by decide) ⟨_, rfl, b11, rfl, Keep.toExt kp12, E_b11_12⟩
  · -- pc 3 not taken: ¬ p1 < (-128 : Int32)
    refine Run.iloadN d7_6 rfl (pc' := 7) rfl ?_
    refine Run.getS d7_7 (host := "") (Or.inl (hw _ (List.mem_of_getElem? (i := 34) rfl))) Via.refl (SH.ext od0.2) (pc' := 10) rfl ?_
    refine Run.icmp_gt d7_10 (by decide) (pc' := 23) (by decide) (pa := 13) rfl (fun hc10 => ?_) (fun hc10 => ?_)
    · -- pc 10 taken: (127 : Int32) < p1
      refine Run.newO (k' := 1) (n' := 1) d7_23 (hw _ (List.mem_of_getElem? (i := 56) rfl)) (hw _ (List.mem_of_getElem? (i := 57) rfl)) (hw _ (List.mem_of_getElem? (i := 32) rfl)) (by decide) (by decide) (by decide) (by decide) (pc' := 26) rfl ?_
      intro h13 b13 g13 E13 X13 D13
      have ge_b13 : n0 ≤ b13 := by rw [g13]; exact Z0
      have bo_b13 : h0.size ≤ b13 := by rw [g13]; exact (Keep.refl h0 []).1
      have ne_ac_b13 : ac ≠ b13 := Nat.ne_of_lt (Nat.lt_of_lt_of_le (od0.1 ▸ AC.lt) ge_b13)
      have sz13 : n0 ≤ h13.size := Nat.le_trans Z0 E13.1
      have kp13 := Keep.ext (Keep.refl h0 []) E13
      have od13 := od0.ext E13
      have F_b13_value : Fld Z h13 b13 "java/lang/Integer" "value" "I" (.int (0 : Int32)) := D13 (Or.inr (hw _ (List.mem_of_getElem? (i := 70) rfl))) (ty := .int) (by decide)
      refine Run.dup d7_26 rfl (pc' := 27) rfl ?_
      refine Run.iloadN d7_27 rfl (pc' := 28) rfl ?_
      refine Run.callN (k' := 1) (n' := 1) (a := b13) (as := [(.int p1)]) (rest := [(.ref b13)]) (con_int l Z a0 hw n0 h13 sz13 b13 p1 X13 F_b13_value ge_b13) rfl d7_28 (hw _ (List.mem_of_getElem? (i := 58) rfl)) (hw _ (List.mem_of_getElem? (i := 59) rfl)) (hw _ (List.mem_of_getElem? (i := 32) rfl)) (hw _ (List.mem_of_getElem? (i := 61) rfl)) (by decide) pd__I_V rfl rfl rfl (by decide) (by show (1 : Nat) + (2 + 11) + 24 ≤ _; decide) (by decide) (by decide) (by decide) (by decide) (pc' := 31) rfl ?_
      rintro h14 K14
      show Run l Z n0 "java/lang/Integer" jdk_33_method_22_code 1 (some (.object "java/lang/Integer")) "valueOf" ({ frames := 3, cells := 1, slots := 1, locals := 38 } : Room) _ 31 #[.val (.int p1)] [(.ref b13)] h14 1 1
      have E_b13_14 := X13.keep K14
      have sz14 : n0 ≤ h14.size := Nat.le_trans sz13 K14.1
      have kp14 := Keep.trans kp13 K14 (allS (Or.inr bo_b13) all0)
      have od14 := od13.keep K14 (allS ge_b13 all0)
      exact Run.areturn d7_31 (ty := (.object "java/lang/Integer")) rfl rfl rfl (by decide) (by decide) ⟨_, rfl, b13, rfl, Keep.toExt kp14, E_b13_14⟩
    · -- pc 10 not taken: ¬ (127 : Int32) < p1
      obtain ⟨bx, hbx, EX⟩ := hcache p1 (own_bx hc3 hc10)
      refine Run.getS d7_13 (host := "") (Or.inl (hw _ (List.mem_of_getElem? (i := 36) rfl))) Via.refl (SC.ext od0.2) (pc' := 16) rfl ?_
      refine Run.iloadN d7_16 rfl (pc' := 17) rfl ?_
      refine Run.sipush (128 : Int32) d7_17 (by decide) (pc' := 20) rfl ?_
      refine Run.iadd d7_20 (pc' := 21) rfl ?_
      refine Run.aaload (i := (p1.toInt + 128).toNat) (v := (.ref bx)) d7_21 (AC.ext od0.2) rfl (own_ix (own_bx hc3 hc10)) hbx (pc' := 22) rfl ?_
      exact Run.areturn d7_22 (ty := (.object "java/lang/Integer")) rfl rfl rfl (by decide) (by decide) ⟨_, rfl, bx, rfl, Keep.toExt (Keep.refl h0 []), (EX.ext od0.2)⟩
theorem d9_0 : decode jdk_30_method_1_code 0 = .ok (.aload_n 0, 1) := by decide +kernel
theorem d9_1 : decode jdk_30_method_1_code 1 = .ok (.invokespecial 1, 3) := by decide +kernel
theorem d9_4 : decode jdk_30_method_1_code 4 = .ok (.return_, 1) := by decide +kernel
theorem pn_9 : plainFor (⟨"java/lang/Record", "<init>", "()V"⟩ : MethodName) = true := plainFor_of_name (by first | (simp [plainName, overriddenIn]; done) | decide +kernel)
theorem ef_con_rec (m : MethodId) (a1 : Addr)  : entryFrame m #[(.ref a1)] 1 = mkF m 0 #[.val (.ref a1)] [] := by first | (simp [entryFrame, mkF, argsToLocals, Value.category]; done) | rfl
set_option maxRecDepth 65536 in
set_option maxHeartbeats 40000000 in
theorem con_rec (l : Launch) (Z : State) (a0 : Array Value) (hw : ∀ d ∈ tables_1, d.before a0 Z = true) (n0 : Nat) (h0 : Heap) (Z0 : n0 ≤ h0.size) (a1 : Addr)  :
    Con l Z n0 (⟨"java/lang/Record", "<init>", "()V"⟩ : MethodName) jdk_30_method_1_code 1 none ({ frames := 1, cells := 0, slots := 0, locals := 12 } : Room) #[(.ref a1)] h0 (Vd fun h' => h0 = h') := by
  refine Con.of_run pn_9 (fun m => ef_con_rec m a1 ) ?_
  refine Run.aloadN d9_0 rfl rfl (pc' := 1) rfl ?_
  refine Run.initO d9_1 (hw _ (List.mem_of_getElem? (i := 48) rfl)) (hw _ (List.mem_of_getElem? (i := 12) rfl)) (hw _ (List.mem_of_getElem? (i := 13) rfl)) rfl (by decide) (by show (0 : Nat) + 12 ≤ _; decide) (pc' := 4) rfl ?_
  exact Run.vreturn d9_4 rfl (by decide) (by decide) ⟨rfl, rfl⟩
theorem d8_0 : decode prog_95_method_1_code 0 = .ok (.aload_n 0, 1) := by decide +kernel
theorem d8_1 : decode prog_95_method_1_code 1 = .ok (.invokespecial 1, 3) := by decide +kernel
theorem d8_4 : decode prog_95_method_1_code 4 = .ok (.aload_n 0, 1) := by decide +kernel
theorem d8_5 : decode prog_95_method_1_code 5 = .ok (.aload_n 1, 1) := by decide +kernel
theorem d8_6 : decode prog_95_method_1_code 6 = .ok (.putfield 7, 3) := by decide +kernel
theorem d8_9 : decode prog_95_method_1_code 9 = .ok (.return_, 1) := by decide +kernel
theorem pn_8 : plainFor (⟨"com/example/mayes/mayes/UnmarkedValue", "<init>", "(Ljava/lang/Object;)V"⟩ : MethodName) = true := plainFor_of_name (by first | (simp [plainName, overriddenIn]; done) | decide +kernel)
theorem ef_con_uv (m : MethodId) (a1 : Addr) (u : Value) (hr_u : u.isRef = true) : entryFrame m #[(.ref a1), u] 2 = mkF m 0 #[.val (.ref a1), .val u] [] := by rcases XT.refc hr_u with rfl | ⟨r_u, rfl⟩ <;> first | (simp [entryFrame, mkF, argsToLocals, Value.category]; done) | rfl
set_option maxRecDepth 65536 in
set_option maxHeartbeats 40000000 in
theorem con_uv (l : Launch) (Z : State) (a0 : Array Value) (hw : ∀ d ∈ tables_1, d.before a0 Z = true) (n0 : Nat) (h0 : Heap) (Z0 : n0 ≤ h0.size) (a1 : Addr) (u : Value) (hu : u.isRef = true) (E1 : Exa Z h0 a1 "com/example/mayes/mayes/UnmarkedValue") (F1 : Fld Z h0 a1 "com/example/mayes/mayes/UnmarkedValue" "value" "Ljava/lang/Object;" .null) (g1 : n0 ≤ a1) :
    Con l Z n0 (⟨"com/example/mayes/mayes/UnmarkedValue", "<init>", "(Ljava/lang/Object;)V"⟩ : MethodName) prog_95_method_1_code 2 none ({ frames := 2, cells := 0, slots := 0, locals := 24 } : Room) #[(.ref a1), u] h0 (Vd fun h' => Keep h0 h' [a1] ∧ Fld Z h' a1 "com/example/mayes/mayes/UnmarkedValue" "value" "Ljava/lang/Object;" u) := by
  refine Con.of_run pn_8 (fun m => ef_con_uv m a1 u hu) ?_
  refine Run.aloadN d8_0 rfl rfl (pc' := 1) rfl ?_
  refine Run.callN (k' := 0) (n' := 0) (a := a1) (as := []) (rest := []) (con_rec l Z a0 hw n0 h0 Z0 a1) rfl d8_1 (hw _ (List.mem_of_getElem? (i := 43) rfl)) (hw _ (List.mem_of_getElem? (i := 44) rfl)) (hw _ (List.mem_of_getElem? (i := 46) rfl)) (hw _ (List.mem_of_getElem? (i := 47) rfl)) (by decide) pd___V rfl rfl rfl (by decide) (by show (0 : Nat) + (1 + 11) + 12 ≤ _; decide) (by decide) (by decide) (by decide) (by decide) (pc' := 4) rfl ?_
  rintro _ rfl
  refine Run.aloadN d8_4 rfl rfl (pc' := 5) rfl ?_
  refine Run.aloadN d8_5 rfl hu (pc' := 6) rfl ?_
  refine Run.putF d8_6 (host := "") (Or.inl (hw _ (List.mem_of_getElem? (i := 49) rfl))) Via.refl F1 E1 (Or.inr ⟨(hw _ (List.mem_of_getElem? (i := 50) rfl)), rfl, rfl⟩) (hw _ (List.mem_of_getElem? (i := 38) rfl)) (ty := (.object "java/lang/Object")) (by decide) (go_narref rfl hu) (own_fitsR rfl hu) g1 (pc' := 9) rfl ?_
  intro h11 W11
  have Fw11 := F1.same W11
  have E_a1_11 := E1.wr W11
  have sz11 : n0 ≤ h11.size := by rw [W11.size]; exact Z0
  have kp11 := Keep.wr (Keep.refl h0 [a1]) W11 (Or.inl (List.mem_of_getElem? (i := 0) rfl))
  exact Run.vreturn d8_9 rfl (by decide) (by decide) ⟨rfl, kp11, Fw11⟩
theorem d10_0 : decode prog_95_method_2_code 0 = .ok (.aload_n 0, 1) := by decide +kernel
theorem d10_1 : decode prog_95_method_2_code 1 = .ok (.instanceof 8, 3) := by decide +kernel
theorem d10_4 : decode prog_95_method_2_code 4 = .ok (.ifCond .eq 15, 3) := by decide +kernel
theorem d10_7 : decode prog_95_method_2_code 7 = .ok (.aload_n 0, 1) := by decide +kernel
theorem d10_8 : decode prog_95_method_2_code 8 = .ok (.checkcast 8, 3) := by decide +kernel
theorem d10_11 : decode prog_95_method_2_code 11 = .ok (.astore_n 1, 1) := by decide +kernel
theorem d10_12 : decode prog_95_method_2_code 12 = .ok (.aload_n 1, 1) := by decide +kernel
theorem d10_13 : decode prog_95_method_2_code 13 = .ok (.getfield 7, 3) := by decide +kernel
theorem d10_16 : decode prog_95_method_2_code 16 = .ok (.goto 4, 3) := by decide +kernel
theorem d10_19 : decode prog_95_method_2_code 19 = .ok (.aload_n 0, 1) := by decide +kernel
theorem d10_20 : decode prog_95_method_2_code 20 = .ok (.areturn, 1) := by decide +kernel
theorem pn_10 : plainFor (⟨"com/example/mayes/mayes/UnmarkedValue", "heldBy", "(Ljava/lang/Object;)Ljava/lang/Object;"⟩ : MethodName) = true := plainFor_of_name (by first | (simp [plainName, overriddenIn]; done) | decide +kernel)
theorem ef_con_hbS (m : MethodId) (a1 : Addr)  : entryFrame m #[(.ref a1)] 2 = mkF m 0 #[.val (.ref a1), .unset] [] := by first | (simp [entryFrame, mkF, argsToLocals, Value.category]; done) | rfl
set_option maxRecDepth 65536 in
set_option maxHeartbeats 40000000 in
theorem con_hbS (l : Launch) (Z : State) (a0 : Array Value) (hw : ∀ d ∈ tables_1, d.before a0 Z = true) (n0 : Nat) (h0 : Heap) (Z0 : n0 ≤ h0.size) (a1 : Addr) (E1 : Exa Z h0 a1 "java/lang/String") :
    Con l Z n0 (⟨"com/example/mayes/mayes/UnmarkedValue", "heldBy", "(Ljava/lang/Object;)Ljava/lang/Object;"⟩ : MethodName) prog_95_method_2_code 2 (some (.object "java/lang/Object")) ({ frames := 0, cells := 0, slots := 0, locals := 0 } : Room) #[(.ref a1)] h0 (Val (PV (.ref a1) h0)) := by
  refine Con.of_run pn_10 (fun m => ef_con_hbS m a1 ) ?_
  refine Run.aloadN d10_0 rfl rfl (pc' := 1) rfl ?_
  refine Run.instNo d10_1 (hw _ (List.mem_of_getElem? (i := 54) rfl)) E1 (ns_no (hw _ (List.mem_of_getElem? (i := 74) rfl)) (hw _ (List.mem_of_getElem? (i := 38) rfl)) (NS.step (hw _ (List.mem_of_getElem? (i := 74) rfl)) (ns_root (hw _ (List.mem_of_getElem? (i := 73) rfl)) (hw _ (List.mem_of_getElem? (i := 38) rfl)) (by decide)) (by decide)) (by decide)) (pc' := 4) rfl ?_
  refine Run.if_eq d10_4 (by decide) (pc' := 19) (by decide) (pa := 7) rfl (fun hc4 => ?_) (fun hc4 => ?_)
  · -- pc 4 taken: (0 : Int32) = (0 : Int32)
    refine Run.aloadN d10_19 rfl rfl (pc' := 20) rfl ?_
    exact Run.areturn d10_20 (ty := (.object "java/lang/Object")) rfl rfl rfl (by decide) (by decide) ⟨_, rfl, rfl, rfl⟩
  · -- pc 4 not taken: ¬ (0 : Int32) = (0 : Int32)
    exact absurd hc4 (by decide)
theorem ef_con_hbI (m : MethodId) (a1 : Addr)  : entryFrame m #[(.ref a1)] 2 = mkF m 0 #[.val (.ref a1), .unset] [] := by first | (simp [entryFrame, mkF, argsToLocals, Value.category]; done) | rfl
set_option maxRecDepth 65536 in
set_option maxHeartbeats 40000000 in
theorem con_hbI (l : Launch) (Z : State) (a0 : Array Value) (hw : ∀ d ∈ tables_1, d.before a0 Z = true) (n0 : Nat) (h0 : Heap) (Z0 : n0 ≤ h0.size) (a1 : Addr) (E1 : Exa Z h0 a1 "java/lang/Integer") :
    Con l Z n0 (⟨"com/example/mayes/mayes/UnmarkedValue", "heldBy", "(Ljava/lang/Object;)Ljava/lang/Object;"⟩ : MethodName) prog_95_method_2_code 2 (some (.object "java/lang/Object")) ({ frames := 0, cells := 0, slots := 0, locals := 0 } : Room) #[(.ref a1)] h0 (Val (PV (.ref a1) h0)) := by
  refine Con.of_run pn_10 (fun m => ef_con_hbI m a1 ) ?_
  refine Run.aloadN d10_0 rfl rfl (pc' := 1) rfl ?_
  refine Run.instNo d10_1 (hw _ (List.mem_of_getElem? (i := 54) rfl)) E1 (ns_no (hw _ (List.mem_of_getElem? (i := 71) rfl)) (hw _ (List.mem_of_getElem? (i := 38) rfl)) (NS.step (hw _ (List.mem_of_getElem? (i := 71) rfl)) (NS.step (hw _ (List.mem_of_getElem? (i := 72) rfl)) (ns_root (hw _ (List.mem_of_getElem? (i := 73) rfl)) (hw _ (List.mem_of_getElem? (i := 38) rfl)) (by decide)) (by decide)) (by decide)) (by decide)) (pc' := 4) rfl ?_
  refine Run.if_eq d10_4 (by decide) (pc' := 19) (by decide) (pa := 7) rfl (fun hc4 => ?_) (fun hc4 => ?_)
  · -- pc 4 taken: (0 : Int32) = (0 : Int32)
    refine Run.aloadN d10_19 rfl rfl (pc' := 20) rfl ?_
    exact Run.areturn d10_20 (ty := (.object "java/lang/Object")) rfl rfl rfl (by decide) (by decide) ⟨_, rfl, rfl, rfl⟩
  · -- pc 4 not taken: ¬ (0 : Int32) = (0 : Int32)
    exact absurd hc4 (by decide)
theorem ef_con_hbN (m : MethodId)   : entryFrame m #[.null] 2 = mkF m 0 #[.val .null, .unset] [] := by first | (simp [entryFrame, mkF, argsToLocals, Value.category]; done) | rfl
set_option maxRecDepth 65536 in
set_option maxHeartbeats 40000000 in
theorem con_hbN (l : Launch) (Z : State) (a0 : Array Value) (hw : ∀ d ∈ tables_1, d.before a0 Z = true) (n0 : Nat) (h0 : Heap) (Z0 : n0 ≤ h0.size)   :
    Con l Z n0 (⟨"com/example/mayes/mayes/UnmarkedValue", "heldBy", "(Ljava/lang/Object;)Ljava/lang/Object;"⟩ : MethodName) prog_95_method_2_code 2 (some (.object "java/lang/Object")) ({ frames := 0, cells := 0, slots := 0, locals := 0 } : Room) #[.null] h0 (Val (PV .null h0)) := by
  refine Con.of_run pn_10 (fun m => ef_con_hbN m  ) ?_
  refine Run.aloadN d10_0 rfl rfl (pc' := 1) rfl ?_
  refine Run.instNull d10_1 (pc' := 4) rfl ?_
  refine Run.if_eq d10_4 (by decide) (pc' := 19) (by decide) (pa := 7) rfl (fun hc4 => ?_) (fun hc4 => ?_)
  · -- pc 4 taken: (0 : Int32) = (0 : Int32)
    refine Run.aloadN d10_19 rfl rfl (pc' := 20) rfl ?_
    exact Run.areturn d10_20 (ty := (.object "java/lang/Object")) rfl rfl rfl (by decide) (by decide) ⟨_, rfl, rfl, rfl⟩
  · -- pc 4 not taken: ¬ (0 : Int32) = (0 : Int32)
    exact absurd hc4 (by decide)
theorem ef_con_hbY (m : MethodId) (a1 : Addr) (u : Value)  : entryFrame m #[(.ref a1)] 2 = mkF m 0 #[.val (.ref a1), .unset] [] := by first | (simp [entryFrame, mkF, argsToLocals, Value.category]; done) | rfl
set_option maxRecDepth 65536 in
set_option maxHeartbeats 40000000 in
theorem con_hbY (l : Launch) (Z : State) (a0 : Array Value) (hw : ∀ d ∈ tables_1, d.before a0 Z = true) (n0 : Nat) (h0 : Heap) (Z0 : n0 ≤ h0.size) (a1 : Addr) (u : Value) (hu : u.isRef = true) (E1 : Exa Z h0 a1 "com/example/mayes/mayes/UnmarkedValue") (F1 : Fld Z h0 a1 "com/example/mayes/mayes/UnmarkedValue" "value" "Ljava/lang/Object;" u) :
    Con l Z n0 (⟨"com/example/mayes/mayes/UnmarkedValue", "heldBy", "(Ljava/lang/Object;)Ljava/lang/Object;"⟩ : MethodName) prog_95_method_2_code 2 (some (.object "java/lang/Object")) ({ frames := 0, cells := 0, slots := 0, locals := 0 } : Room) #[(.ref a1)] h0 (Val (PV u h0)) := by
  refine Con.of_run pn_10 (fun m => ef_con_hbY m a1 u ) ?_
  refine Run.aloadN d10_0 rfl rfl (pc' := 1) rfl ?_
  refine Run.instY d10_1 (hw _ (List.mem_of_getElem? (i := 54) rfl)) (Ins.self E1) (pc' := 4) rfl ?_
  refine Run.if_eq d10_4 (by decide) (pc' := 19) (by decide) (pa := 7) rfl (fun hc4 => ?_) (fun hc4 => ?_)
  · -- pc 4 taken: (1 : Int32) = (0 : Int32)
    exact absurd hc4 (by decide)
  · -- pc 4 not taken: ¬ (1 : Int32) = (0 : Int32)
    refine Run.aloadN d10_7 rfl rfl (pc' := 8) rfl ?_
    refine Run.castY d10_8 (hw _ (List.mem_of_getElem? (i := 54) rfl)) (Ins.self E1) (pc' := 11) rfl ?_
    refine Run.astoreN (l' := #[.val (.ref a1), .val (.ref a1)]) d10_11 rfl rfl (pc' := 12) rfl ?_
    refine Run.aloadN d10_12 rfl rfl (pc' := 13) rfl ?_
    refine Run.getF d10_13 (host := "") (Or.inl (hw _ (List.mem_of_getElem? (i := 49) rfl))) Via.refl F1 (pc' := 16) rfl ?_
    refine Run.goto d10_16 (by decide) (pc' := 20) (by decide) ?_
    exact Run.areturn d10_20 (ty := (.object "java/lang/Object")) rfl rfl hu (by decide) (by decide) ⟨_, rfl, rfl, rfl⟩
theorem own_ch (x : Int32) : nar .char (nar .char (x &&& (255 : Int32))) = nar .char (x &&& (255 : Int32)) ∧ 0 ≤ (nar .char (x &&& (255 : Int32))).toInt ∧ (nar .char (x &&& (255 : Int32))).toInt ≤ 255 := by
  refine ⟨own_ncc _, ?_⟩
  have h : nar .char (x &&& (255 : Int32)) = x &&& 255 := i2c_mask x
  have h2 := c_mask x 255 8 (by decide) (by decide)
  rw [h, h2]; omega
theorem own_two {c0 c1 : Int32} (h0 : 0 ≤ c0.toInt ∧ c0.toInt ≤ 255) (h1 : 0 ≤ c1.toInt ∧ c1.toInt ≤ 255) : own_lat [c0, c1] := by
  intro c hc; simp only [List.mem_cons, List.not_mem_nil, or_false] at hc; rcases hc with rfl | rfl <;> assumption
theorem own_md (x : Int32) (h0 : ¬ (x &&& (3 : Int32)) = 0) (h1 : ¬ (x &&& (3 : Int32)) = 1) (h2 : ¬ (x &&& (3 : Int32)) = 2) : (x &&& (3 : Int32)) = 3 := by
  have h := c_mask x 3 2 (by decide) (by decide)
  have e0 : (0 : Int32).toInt = 0 := rfl
  have e1 : (1 : Int32).toInt = 1 := rfl
  have e2 : (2 : Int32).toInt = 2 := rfl
  have e3 : (3 : Int32).toInt = 3 := rfl
  rw [← Int32.toInt_inj] at h0 h1 h2 ⊢
  omega
theorem pn_0 : plainFor x = true := plainFor_of_name (by first | (simp [plainName, overriddenIn]; done) | decide +kernel)
theorem pd__I_Ljava_lang_Integer_ : parseMethodDescriptor "(I)Ljava/lang/Integer;" = some ⟨[.int], some (.object "java/lang/Integer")⟩ := by decide +kernel
theorem pd__Ljava_lang_Object__Ljava_lang_Object_ : parseMethodDescriptor "(Ljava/lang/Object;)Ljava/lang/Object;" = some ⟨[(.object "java/lang/Object")], some (.object "java/lang/Object")⟩ := by decide +kernel
theorem pd__Ljava_lang_Object__V : parseMethodDescriptor "(Ljava/lang/Object;)V" = some ⟨[(.object "java/lang/Object")], none⟩ := by decide +kernel
theorem pd___C_V : parseMethodDescriptor "([C)V" = some ⟨[(.array .char)], none⟩ := by decide +kernel
theorem ef_con0 (m : MethodId) (p1 : Int32) (p2 : Int32) (p3 : Int32) (ac : Addr) (vs : List Value) (cz : Int32)  : entryFrame m #[(.int p1), (.int p2), (.int p3)] maxLocals = mkF m 0 #[.val (.int p1), .val (.int p2), .val (.int p3), .unset, .unset, .unset, .unset, .unset, .unset, .unset, .unset] [] := by first | (simp [entryFrame, mkF, argsToLocals, Value.category, maxLocals]; done) | rfl
set_option maxRecDepth 65536 in
set_option maxHeartbeats 40000000 in
theorem con0 (l : Launch) (Z : State) (a0 : Array Value) (hw : ∀ d ∈ tables_1, d.before a0 Z = true) (n0 : Nat) (h0 : Heap) (Z0 : n0 ≤ h0.size) (p1 : Int32) (p2 : Int32) (p3 : Int32) (ac : Addr) (vs : List Value) (cz : Int32) (od0 : Old Z n0 h0) (SH : Sta Z Z.heap "java/lang/Integer$IntegerCache" "high" "I" (.int (127 : Int32))) (SC : Sta Z Z.heap "java/lang/Integer$IntegerCache" "cache" "[Ljava/lang/Integer;" (.ref ac)) (AC : Ary Z Z.heap ac (.object "java/lang/Integer") vs) (hcache : ∀ a : Int32, (-128 ≤ a.toInt ∧ a.toInt ≤ 127) → ∃ bx, vs[(a.toInt + 128).toNat]? = some (.ref bx) ∧ Exa Z Z.heap bx "java/lang/Integer") (SZ : Sta Z Z.heap "java/lang/String" "COMPACT_STRINGS" "Z" (.int cz)) (hcz : ¬ cz = 0) :
    Con l Z n0 x code maxLocals ret room_1 #[(.int p1), (.int p2), (.int p3)] h0 (Val fun w _ => w = .int 1) := by
  refine Con.of_run pn_0 (fun m => ef_con0 m p1 p2 p3 ac vs cz ) ?_
  refine Run.iconst (2 : Int32) at_0 (by decide) (pc' := 1) rfl ?_
  refine Run.newP (ty := .char) (m := 2) (cap := 2) (dv := (.int (0 : Int32))) (k' := 1) (n' := 2) at_1 rfl (hw _ (List.mem_of_getElem? (i := 0) rfl)) (by decide) (by decide) (Nat.le_refl _) rfl (by decide) (by decide) (by decide) (by decide) (by decide) (pc' := 3) rfl ?_
  intro h11 b11 g11 E11 A11
  have ge_b11 : n0 ≤ b11 := by rw [g11]; exact Z0
  have bo_b11 : h0.size ≤ b11 := by rw [g11]; exact (Keep.refl h0 []).1
  have ne_ac_b11 : ac ≠ b11 := Nat.ne_of_lt (Nat.lt_of_lt_of_le (od0.1 ▸ AC.lt) ge_b11)
  have sz11 : n0 ≤ h11.size := Nat.le_trans Z0 E11.1
  have kp11 := Keep.ext (Keep.refl h0 []) E11
  have od11 := od0.ext E11
  replace A11 : Ary Z h11 b11 .char [(.int (0 : Int32)), (.int (0 : Int32))] := A11
  refine Run.astoreN (l' := #[.val (.int p1), .val (.int p2), .val (.int p3), .val (.ref b11), .unset, .unset, .unset, .unset, .unset, .unset, .unset]) at_3 rfl rfl (pc' := 4) rfl ?_
  refine Run.aloadN at_4 rfl rfl (pc' := 5) rfl ?_
  refine Run.iconst (0 : Int32) at_5 (by decide) (pc' := 6) rfl ?_
  refine Run.iloadN at_6 rfl (pc' := 7) rfl ?_
  refine Run.sipush (255 : Int32) at_7 (by decide) (pc' := 10) rfl ?_
  refine Run.iand at_10 (pc' := 11) rfl ?_
  refine Run.i2c at_11 (pc' := 12) rfl ?_
  have h_c0 := own_ch p1
  generalize (nar .char (p1 &&& (255 : Int32))) = c0 at h_c0 ⊢
  refine Run.castore (i := 0) at_12 A11 (by decide) (by show (0 : Nat) < 2; decide) ge_b11 (pc' := 13) rfl ?_
  intro h12 W12 A12
  have sz12 : n0 ≤ h12.size := by rw [W12.size]; exact sz11
  have kp12 := Keep.wr kp11 W12 (Or.inr bo_b11)
  have od12 := od11.wr W12 ge_b11
  rw [h_c0.1] at A12
  replace A12 : Ary Z h12 b11 .char [(.int c0), (.int (0 : Int32))] := A12
  refine Run.aloadN at_13 rfl rfl (pc' := 14) rfl ?_
  refine Run.iconst (1 : Int32) at_14 (by decide) (pc' := 15) rfl ?_
  refine Run.iloadN at_15 rfl (pc' := 16) rfl ?_
  refine Run.sipush (255 : Int32) at_16 (by decide) (pc' := 19) rfl ?_
  refine Run.iand at_19 (pc' := 20) rfl ?_
  refine Run.i2c at_20 (pc' := 21) rfl ?_
  have h_c1 := own_ch p2
  generalize (nar .char (p2 &&& (255 : Int32))) = c1 at h_c1 ⊢
  refine Run.castore (i := 1) at_21 A12 (by decide) (by show (1 : Nat) < 2; decide) ge_b11 (pc' := 22) rfl ?_
  intro h13 W13 A13
  have sz13 : n0 ≤ h13.size := by rw [W13.size]; exact sz12
  have kp13 := Keep.wr kp12 W13 (Or.inr bo_b11)
  have od13 := od12.wr W13 ge_b11
  rw [h_c1.1] at A13
  replace A13 : Ary Z h13 b11 .char [(.int c0), (.int c1)] := A13
  refine Run.newO (k' := 2) (n' := 6) at_22 (hw _ (List.mem_of_getElem? (i := 1) rfl)) (hw _ (List.mem_of_getElem? (i := 2) rfl)) (hw _ (List.mem_of_getElem? (i := 3) rfl)) (by decide) (by decide) (by decide) (by decide) (pc' := 25) rfl ?_
  intro h14 b14 g14 E14 X14 D14
  have ge_b14 : n0 ≤ b14 := by rw [g14]; exact sz13
  have bo_b14 : h0.size ≤ b14 := by rw [g14]; exact kp13.1
  have ne_b11_b14 : b11 ≠ b14 := by rw [g14]; exact Nat.ne_of_lt A13.lt
  have ne_ac_b14 : ac ≠ b14 := Nat.ne_of_lt (Nat.lt_of_lt_of_le (od13.1 ▸ AC.lt) ge_b14)
  have A_b11_14 := A13.ext E14
  have sz14 : n0 ≤ h14.size := Nat.le_trans sz13 E14.1
  have kp14 := Keep.ext kp13 E14
  have od14 := od13.ext E14
  have F_b14_coder : Fld Z h14 b14 "java/lang/String" "coder" "B" (.int (0 : Int32)) := D14 (Or.inr (hw _ (List.mem_of_getElem? (i := 27) rfl))) (ty := .byte) (by decide)
  have F_b14_value : Fld Z h14 b14 "java/lang/String" "value" "[B" .null := D14 (Or.inr (hw _ (List.mem_of_getElem? (i := 29) rfl))) (ty := (.array .byte)) (by decide)
  refine Run.dup at_25 rfl (pc' := 26) rfl ?_
  refine Run.aloadN at_26 rfl rfl (pc' := 27) rfl ?_
  refine Run.callN (k' := 3) (n' := 8) (a := b14) (as := [(.ref b11)]) (rest := [(.ref b14)]) (con_si1 l Z a0 hw n0 h14 sz14 b14 b11 [c0, c1] cz .null (.int (0 : Int32)) X14 F_b14_value F_b14_coder ge_b14 A_b11_14 (by simp) (Nat.le_refl 2) (own_two h_c0.2 h_c1.2) (SZ.ext od14.2) hcz (Ne.symm ne_b11_b14)) rfl at_27 (hw _ (List.mem_of_getElem? (i := 4) rfl)) (hw _ (List.mem_of_getElem? (i := 5) rfl)) (hw _ (List.mem_of_getElem? (i := 3) rfl)) (hw _ (List.mem_of_getElem? (i := 6) rfl)) (by decide) pd___C_V rfl rfl rfl (by decide) (by show (1 : Nat) + (2 + 11) + 52 ≤ _; decide) (by decide) (by decide) (by decide) (by decide) (pc' := 30) rfl ?_
  rintro h15 ⟨b15, bw15, K15, X15, FV15, FC15, P15⟩
  show Run l Z n0 x.cls code maxLocals ret x.name room_1 _ 30 #[.val (.int p1), .val (.int p2), .val (.int p3), .val (.ref b11), .unset, .unset, .unset, .unset, .unset, .unset, .unset] [(.ref b14)] h15 3 8
  have ge_b15 : n0 ≤ b15 := Nat.le_trans sz14 bw15
  have bo_b15 : h0.size ≤ b15 := Nat.le_trans kp14.1 bw15
  have ne_b11_b15 : b11 ≠ b15 := Nat.ne_of_lt (Nat.lt_of_lt_of_le A_b11_14.lt bw15)
  have ne_b14_b15 : b14 ≠ b15 := Nat.ne_of_lt (Nat.lt_of_lt_of_le X14.lt bw15)
  have ne_ac_b15 : ac ≠ b15 := Nat.ne_of_lt (Nat.lt_of_lt_of_le (od14.1 ▸ AC.lt) ge_b15)
  have A_b11_15 := A_b11_14.keep K15 (ninS ne_b11_b14 nin0)
  have E_b14_15 := X14.keep K15
  have sz15 : n0 ≤ h15.size := Nat.le_trans sz14 K15.1
  have kp15 := Keep.trans kp14 K15 (allS (Or.inr bo_b14) all0)
  have od15 := od14.keep K15 (allS ge_b14 all0)
  refine Run.astore (l' := #[.val (.int p1), .val (.int p2), .val (.int p3), .val (.ref b11), .val (.ref b14), .unset, .unset, .unset, .unset, .unset, .unset]) at_30 rfl rfl (pc' := 32) rfl ?_
  refine Run.iloadN at_32 rfl (pc' := 33) rfl ?_
  refine Run.callS (k' := 4) (n' := 9) (as := [(.int p1)]) (rest := []) (con_vof l Z a0 hw n0 h15 sz15 p1 ac vs od15 SH SC AC hcache) at_33 (hw _ (List.mem_of_getElem? (i := 30) rfl)) (hw _ (List.mem_of_getElem? (i := 31) rfl)) (hw _ (List.mem_of_getElem? (i := 32) rfl)) (hw _ (List.mem_of_getElem? (i := 33) rfl)) (by decide) pd__I_Ljava_lang_Integer_ rfl rfl rfl (by decide) (by show (0 : Nat) + (1 + 11) + 38 ≤ _; decide) (by decide) (by decide) (by decide) (by decide) (pc' := 36) rfl ?_
  rintro _ h16 ⟨_, rfl, b16, rfl, E16, P16⟩
  show Run l Z n0 x.cls code maxLocals ret x.name room_1 _ 36 #[.val (.int p1), .val (.int p2), .val (.int p3), .val (.ref b11), .val (.ref b14), .unset, .unset, .unset, .unset, .unset, .unset] [(.ref b16)] h16 4 9
  have A_b11_16 := A_b11_15.ext E16
  have E_b14_16 := X15.ext E16
  have F_b14_value_16 := FV15.ext E16
  have F_b14_coder_16 := FC15.ext E16
  have A_b15_16 := P15.ext E16
  have sz16 : n0 ≤ h16.size := Nat.le_trans sz15 E16.1
  have kp16 := Keep.ext kp15 E16
  have od16 := od15.ext E16
  refine Run.astore (l' := #[.val (.int p1), .val (.int p2), .val (.int p3), .val (.ref b11), .val (.ref b14), .val (.ref b16), .unset, .unset, .unset, .unset, .unset]) at_36 rfl rfl (pc' := 38) rfl ?_
  refine Run.newO (k' := 5) (n' := 10) at_38 (hw _ (List.mem_of_getElem? (i := 37) rfl)) (hw _ (List.mem_of_getElem? (i := 38) rfl)) (hw _ (List.mem_of_getElem? (i := 39) rfl)) (by decide) (by decide) (by decide) (by decide) (pc' := 41) rfl ?_
  intro h17 b17 g17 E17 X17 D17
  have ge_b17 : n0 ≤ b17 := by rw [g17]; exact sz16
  have bo_b17 : h0.size ≤ b17 := by rw [g17]; exact kp16.1
  have ne_b11_b17 : b11 ≠ b17 := by rw [g17]; exact Nat.ne_of_lt A_b11_16.lt
  have ne_b14_b17 : b14 ≠ b17 := by rw [g17]; exact Nat.ne_of_lt E_b14_16.lt
  have ne_b15_b17 : b15 ≠ b17 := by rw [g17]; exact Nat.ne_of_lt A_b15_16.lt
  have ne_b16_b17 : b16 ≠ b17 := by rw [g17]; exact Nat.ne_of_lt P16.lt
  have ne_ac_b17 : ac ≠ b17 := Nat.ne_of_lt (Nat.lt_of_lt_of_le (od16.1 ▸ AC.lt) ge_b17)
  have A_b11_17 := A_b11_16.ext E17
  have E_b14_17 := E_b14_16.ext E17
  have F_b14_value_17 := F_b14_value_16.ext E17
  have F_b14_coder_17 := F_b14_coder_16.ext E17
  have A_b15_17 := A_b15_16.ext E17
  have E_b16_17 := P16.ext E17
  have sz17 : n0 ≤ h17.size := Nat.le_trans sz16 E17.1
  have kp17 := Keep.ext kp16 E17
  have od17 := od16.ext E17
  have F_b17_value : Fld Z h17 b17 "com/example/mayes/mayes/UnmarkedValue" "value" "Ljava/lang/Object;" .null := D17 (Or.inr (hw _ (List.mem_of_getElem? (i := 50) rfl))) (ty := (.object "java/lang/Object")) (by decide)
  refine Run.dup at_41 rfl (pc' := 42) rfl ?_
  refine Run.aload at_42 rfl rfl (pc' := 44) rfl ?_
  refine Run.callN (k' := 5) (n' := 10) (a := b17) (as := [(.ref b14)]) (rest := [(.ref b17)]) (con_uv l Z a0 hw n0 h17 sz17 b17 (.ref b14) rfl X17 F_b17_value ge_b17) rfl at_44 (hw _ (List.mem_of_getElem? (i := 40) rfl)) (hw _ (List.mem_of_getElem? (i := 41) rfl)) (hw _ (List.mem_of_getElem? (i := 39) rfl)) (hw _ (List.mem_of_getElem? (i := 42) rfl)) (by decide) pd__Ljava_lang_Object__V rfl rfl rfl (by decide) (by show (1 : Nat) + (2 + 11) + 24 ≤ _; decide) (by decide) (by decide) (by decide) (by decide) (pc' := 47) rfl ?_
  rintro h18 ⟨K18, P18⟩
  show Run l Z n0 x.cls code maxLocals ret x.name room_1 _ 47 #[.val (.int p1), .val (.int p2), .val (.int p3), .val (.ref b11), .val (.ref b14), .val (.ref b16), .unset, .unset, .unset, .unset, .unset] [(.ref b17)] h18 5 10
  have A_b11_18 := A_b11_17.keep K18 (ninS ne_b11_b17 nin0)
  have E_b14_18 := E_b14_17.keep K18
  have F_b14_value_18 := F_b14_value_17.keep K18 (ninS ne_b14_b17 nin0)
  have F_b14_coder_18 := F_b14_coder_17.keep K18 (ninS ne_b14_b17 nin0)
  have A_b15_18 := A_b15_17.keep K18 (ninS ne_b15_b17 nin0)
  have E_b16_18 := E_b16_17.keep K18
  have E_b17_18 := X17.keep K18
  have sz18 : n0 ≤ h18.size := Nat.le_trans sz17 K18.1
  have kp18 := Keep.trans kp17 K18 (allS (Or.inr bo_b17) all0)
  have od18 := od17.keep K18 (allS ge_b17 all0)
  refine Run.astore (l' := #[.val (.int p1), .val (.int p2), .val (.int p3), .val (.ref b11), .val (.ref b14), .val (.ref b16), .val (.ref b17), .unset, .unset, .unset, .unset]) at_47 rfl rfl (pc' := 49) rfl ?_
  refine Run.iloadN at_49 rfl (pc' := 50) rfl ?_
  refine Run.iconst (3 : Int32) at_50 (by decide) (pc' := 51) rfl ?_
  refine Run.iand at_51 (pc' := 52) rfl ?_
  refine Run.istore (l' := #[.val (.int p1), .val (.int p2), .val (.int p3), .val (.ref b11), .val (.ref b14), .val (.ref b16), .val (.ref b17), .val (.int (p3 &&& (3 : Int32))), .unset, .unset, .unset]) at_52 rfl (pc' := 54) rfl ?_
  refine Run.iload at_54 rfl (pc' := 56) rfl ?_
  refine Run.if_ne at_56 (by decide) (pc' := 66) (by decide) (pa := 59) rfl (fun hc56 => ?_) (fun hc56 => ?_)
  · -- pc 56 taken: ¬ (p3 &&& (3 : Int32)) = (0 : Int32)
    refine Run.iload at_66 rfl (pc' := 68) rfl ?_
    refine Run.iconst (1 : Int32) at_68 (by decide) (pc' := 69) rfl ?_
    refine Run.icmp_ne at_69 (by decide) (pc' := 79) (by decide) (pa := 72) rfl (fun hc69 => ?_) (fun hc69 => ?_)
    · -- pc 69 taken: ¬ (p3 &&& (3 : Int32)) = (1 : Int32)
      refine Run.iload at_79 rfl (pc' := 81) rfl ?_
      refine Run.iconst (2 : Int32) at_81 (by decide) (pc' := 82) rfl ?_
      refine Run.icmp_ne at_82 (by decide) (pc' := 91) (by decide) (pa := 85) rfl (fun hc82 => ?_) (fun hc82 => ?_)
      · -- pc 82 taken: ¬ (p3 &&& (3 : Int32)) = (2 : Int32)
        refine Run.aload at_91 rfl rfl (pc' := 93) rfl ?_
        refine Run.astore (l' := #[.val (.int p1), .val (.int p2), .val (.int p3), .val (.ref b11), .val (.ref b14), .val (.ref b16), .val (.ref b17), .val (.int (p3 &&& (3 : Int32))), .val (.ref b17), .unset, .unset]) at_93 rfl rfl (pc' := 95) rfl ?_
        refine Run.iload at_95 rfl (pc' := 97) rfl ?_
        refine Run.iconst (3 : Int32) at_97 (by decide) (pc' := 98) rfl ?_
        refine Run.icmp_ne at_98 (by decide) (pc' := 106) (by decide) (pa := 101) rfl (fun hc98 => ?_) (fun hc98 => ?_)
        · -- pc 98 taken: ¬ (p3 &&& (3 : Int32)) = (3 : Int32)
          exact absurd (own_md p3 hc56 hc69 hc82) hc98
        · -- pc 98 not taken: (p3 &&& (3 : Int32)) = (3 : Int32)
          refine Run.aload at_101 rfl rfl (pc' := 103) rfl ?_
          refine Run.goto at_103 (by decide) (pc' := 108) (by decide) ?_
          refine Run.astore (l' := #[.val (.int p1), .val (.int p2), .val (.int p3), .val (.ref b11), .val (.ref b14), .val (.ref b16), .val (.ref b17), .val (.int (p3 &&& (3 : Int32))), .val (.ref b17), .val (.ref b14), .unset]) at_108 rfl rfl (pc' := 110) rfl ?_
          refine Run.newO (k' := 6) (n' := 11) at_110 (hw _ (List.mem_of_getElem? (i := 37) rfl)) (hw _ (List.mem_of_getElem? (i := 38) rfl)) (hw _ (List.mem_of_getElem? (i := 39) rfl)) (by decide) (by decide) (by decide) (by decide) (pc' := 113) rfl ?_
          intro h19 b19 g19 E19 X19 D19
          have ge_b19 : n0 ≤ b19 := by rw [g19]; exact sz18
          have bo_b19 : h0.size ≤ b19 := by rw [g19]; exact kp18.1
          have ne_b11_b19 : b11 ≠ b19 := by rw [g19]; exact Nat.ne_of_lt A_b11_18.lt
          have ne_b14_b19 : b14 ≠ b19 := by rw [g19]; exact Nat.ne_of_lt E_b14_18.lt
          have ne_b15_b19 : b15 ≠ b19 := by rw [g19]; exact Nat.ne_of_lt A_b15_18.lt
          have ne_b16_b19 : b16 ≠ b19 := by rw [g19]; exact Nat.ne_of_lt E_b16_18.lt
          have ne_b17_b19 : b17 ≠ b19 := by rw [g19]; exact Nat.ne_of_lt E_b17_18.lt
          have ne_ac_b19 : ac ≠ b19 := Nat.ne_of_lt (Nat.lt_of_lt_of_le (od18.1 ▸ AC.lt) ge_b19)
          have A_b11_19 := A_b11_18.ext E19
          have E_b14_19 := E_b14_18.ext E19
          have F_b14_value_19 := F_b14_value_18.ext E19
          have F_b14_coder_19 := F_b14_coder_18.ext E19
          have A_b15_19 := A_b15_18.ext E19
          have E_b16_19 := E_b16_18.ext E19
          have E_b17_19 := E_b17_18.ext E19
          have F_b17_value_19 := P18.ext E19
          have sz19 : n0 ≤ h19.size := Nat.le_trans sz18 E19.1
          have kp19 := Keep.ext kp18 E19
          have od19 := od18.ext E19
          have F_b19_value : Fld Z h19 b19 "com/example/mayes/mayes/UnmarkedValue" "value" "Ljava/lang/Object;" .null := D19 (Or.inr (hw _ (List.mem_of_getElem? (i := 50) rfl))) (ty := (.object "java/lang/Object")) (by decide)
          refine Run.dup at_113 rfl (pc' := 114) rfl ?_
          refine Run.aload at_114 rfl rfl (pc' := 116) rfl ?_
          refine Run.callN (k' := 6) (n' := 11) (a := b19) (as := [(.ref b17)]) (rest := [(.ref b19)]) (con_uv l Z a0 hw n0 h19 sz19 b19 (.ref b17) rfl X19 F_b19_value ge_b19) rfl at_116 (hw _ (List.mem_of_getElem? (i := 40) rfl)) (hw _ (List.mem_of_getElem? (i := 41) rfl)) (hw _ (List.mem_of_getElem? (i := 39) rfl)) (hw _ (List.mem_of_getElem? (i := 42) rfl)) (by decide) pd__Ljava_lang_Object__V rfl rfl rfl (by decide) (by show (1 : Nat) + (2 + 11) + 24 ≤ _; decide) (by decide) (by decide) (by decide) (by decide) (pc' := 119) rfl ?_
          rintro h20 ⟨K20, P20⟩
          show Run l Z n0 x.cls code maxLocals ret x.name room_1 _ 119 #[.val (.int p1), .val (.int p2), .val (.int p3), .val (.ref b11), .val (.ref b14), .val (.ref b16), .val (.ref b17), .val (.int (p3 &&& (3 : Int32))), .val (.ref b17), .val (.ref b14), .unset] [(.ref b19)] h20 6 11
          have A_b11_20 := A_b11_19.keep K20 (ninS ne_b11_b19 nin0)
          have E_b14_20 := E_b14_19.keep K20
          have F_b14_value_20 := F_b14_value_19.keep K20 (ninS ne_b14_b19 nin0)
          have F_b14_coder_20 := F_b14_coder_19.keep K20 (ninS ne_b14_b19 nin0)
          have A_b15_20 := A_b15_19.keep K20 (ninS ne_b15_b19 nin0)
          have E_b16_20 := E_b16_19.keep K20
          have E_b17_20 := E_b17_19.keep K20
          have F_b17_value_20 := F_b17_value_19.keep K20 (ninS ne_b17_b19 nin0)
          have E_b19_20 := X19.keep K20
          have sz20 : n0 ≤ h20.size := Nat.le_trans sz19 K20.1
          have kp20 := Keep.trans kp19 K20 (allS (Or.inr bo_b19) all0)
          have od20 := od19.keep K20 (allS ge_b19 all0)
          refine Run.astore (l' := #[.val (.int p1), .val (.int p2), .val (.int p3), .val (.ref b11), .val (.ref b14), .val (.ref b16), .val (.ref b17), .val (.int (p3 &&& (3 : Int32))), .val (.ref b17), .val (.ref b14), .val (.ref b19)]) at_119 rfl rfl (pc' := 121) rfl ?_
          refine Run.aload at_121 rfl rfl (pc' := 123) rfl ?_
          refine Run.callS (k' := 6) (n' := 11) (as := [(.ref b17)]) (rest := []) (con_hbY l Z a0 hw n0 h20 sz20 b17 (.ref b14) rfl E_b17_20 F_b17_value_20 ) at_123 (hw _ (List.mem_of_getElem? (i := 51) rfl)) (hw _ (List.mem_of_getElem? (i := 52) rfl)) (hw _ (List.mem_of_getElem? (i := 39) rfl)) (hw _ (List.mem_of_getElem? (i := 53) rfl)) (by decide) pd__Ljava_lang_Object__Ljava_lang_Object_ rfl rfl rfl (by decide) (by show (0 : Nat) + (2 + 11) + 0 ≤ _; decide) (by decide) (by decide) (by decide) (by decide) (pc' := 126) rfl ?_
          rintro _ _ ⟨_, rfl, rfl, rfl⟩
          show Run l Z n0 x.cls code maxLocals ret x.name room_1 _ 126 #[.val (.int p1), .val (.int p2), .val (.int p3), .val (.ref b11), .val (.ref b14), .val (.ref b16), .val (.ref b17), .val (.int (p3 &&& (3 : Int32))), .val (.ref b17), .val (.ref b14), .val (.ref b19)] [(.ref b14)] h20 6 11
          refine Run.aload at_126 rfl rfl (pc' := 128) rfl ?_
          refine Run.acmp_ne at_128 rfl rfl (by decide) (pc' := 145) (by decide) (pa := 131) rfl (fun hc128 => ?_) (fun hc128 => ?_)
          · -- pc 128 taken: ¬ (.ref b14) = (.ref b14)
            exact absurd rfl hc128
          · -- pc 128 not taken: (.ref b14) = (.ref b14)
            refine Run.aload at_131 rfl rfl (pc' := 133) rfl ?_
            refine Run.callS (k' := 6) (n' := 11) (as := [(.ref b19)]) (rest := []) (con_hbY l Z a0 hw n0 h20 sz20 b19 (.ref b17) rfl E_b19_20 P20 ) at_133 (hw _ (List.mem_of_getElem? (i := 51) rfl)) (hw _ (List.mem_of_getElem? (i := 52) rfl)) (hw _ (List.mem_of_getElem? (i := 39) rfl)) (hw _ (List.mem_of_getElem? (i := 53) rfl)) (by decide) pd__Ljava_lang_Object__Ljava_lang_Object_ rfl rfl rfl (by decide) (by show (0 : Nat) + (2 + 11) + 0 ≤ _; decide) (by decide) (by decide) (by decide) (by decide) (pc' := 136) rfl ?_
            rintro _ _ ⟨_, rfl, rfl, rfl⟩
            show Run l Z n0 x.cls code maxLocals ret x.name room_1 _ 136 #[.val (.int p1), .val (.int p2), .val (.int p3), .val (.ref b11), .val (.ref b14), .val (.ref b16), .val (.ref b17), .val (.int (p3 &&& (3 : Int32))), .val (.ref b17), .val (.ref b14), .val (.ref b19)] [(.ref b17)] h20 6 11
            refine Run.aload at_136 rfl rfl (pc' := 138) rfl ?_
            refine Run.acmp_ne at_138 rfl rfl (by decide) (pc' := 145) (by decide) (pa := 141) rfl (fun hc138 => ?_) (fun hc138 => ?_)
            · -- pc 138 taken: ¬ (.ref b17) = (.ref b17)
              exact absurd rfl hc138
            · -- pc 138 not taken: (.ref b17) = (.ref b17)
              refine Run.iconst (1 : Int32) at_141 (by decide) (pc' := 142) rfl ?_
              refine Run.goto at_142 (by decide) (pc' := 146) (by decide) ?_
              exact Run.nreturn at_146 (ty := .boolean) rfl (by simp) (by decide) (by decide) ⟨_, rfl, rfl⟩
      · -- pc 82 not taken: (p3 &&& (3 : Int32)) = (2 : Int32)
        refine Run.aconst at_85 (pc' := 86) rfl ?_
        refine Run.astore (l' := #[.val (.int p1), .val (.int p2), .val (.int p3), .val (.ref b11), .val (.ref b14), .val (.ref b16), .val (.ref b17), .val (.int (p3 &&& (3 : Int32))), .val .null, .unset, .unset]) at_86 rfl rfl (pc' := 88) rfl ?_
        refine Run.goto at_88 (by decide) (pc' := 95) (by decide) ?_
        refine Run.iload at_95 rfl (pc' := 97) rfl ?_
        refine Run.iconst (3 : Int32) at_97 (by decide) (pc' := 98) rfl ?_
        refine Run.icmp_ne at_98 (by decide) (pc' := 106) (by decide) (pa := 101) rfl (fun hc98 => ?_) (fun hc98 => ?_)
        · -- pc 98 taken: ¬ (p3 &&& (3 : Int32)) = (3 : Int32)
          refine Run.aload at_106 rfl rfl (pc' := 108) rfl ?_
          refine Run.astore (l' := #[.val (.int p1), .val (.int p2), .val (.int p3), .val (.ref b11), .val (.ref b14), .val (.ref b16), .val (.ref b17), .val (.int (p3 &&& (3 : Int32))), .val .null, .val .null, .unset]) at_108 rfl rfl (pc' := 110) rfl ?_
          refine Run.newO (k' := 6) (n' := 11) at_110 (hw _ (List.mem_of_getElem? (i := 37) rfl)) (hw _ (List.mem_of_getElem? (i := 38) rfl)) (hw _ (List.mem_of_getElem? (i := 39) rfl)) (by decide) (by decide) (by decide) (by decide) (pc' := 113) rfl ?_
          intro h21 b21 g21 E21 X21 D21
          have ge_b21 : n0 ≤ b21 := by rw [g21]; exact sz18
          have bo_b21 : h0.size ≤ b21 := by rw [g21]; exact kp18.1
          have ne_b11_b21 : b11 ≠ b21 := by rw [g21]; exact Nat.ne_of_lt A_b11_18.lt
          have ne_b14_b21 : b14 ≠ b21 := by rw [g21]; exact Nat.ne_of_lt E_b14_18.lt
          have ne_b15_b21 : b15 ≠ b21 := by rw [g21]; exact Nat.ne_of_lt A_b15_18.lt
          have ne_b16_b21 : b16 ≠ b21 := by rw [g21]; exact Nat.ne_of_lt E_b16_18.lt
          have ne_b17_b21 : b17 ≠ b21 := by rw [g21]; exact Nat.ne_of_lt E_b17_18.lt
          have ne_ac_b21 : ac ≠ b21 := Nat.ne_of_lt (Nat.lt_of_lt_of_le (od18.1 ▸ AC.lt) ge_b21)
          have A_b11_21 := A_b11_18.ext E21
          have E_b14_21 := E_b14_18.ext E21
          have F_b14_value_21 := F_b14_value_18.ext E21
          have F_b14_coder_21 := F_b14_coder_18.ext E21
          have A_b15_21 := A_b15_18.ext E21
          have E_b16_21 := E_b16_18.ext E21
          have E_b17_21 := E_b17_18.ext E21
          have F_b17_value_21 := P18.ext E21
          have sz21 : n0 ≤ h21.size := Nat.le_trans sz18 E21.1
          have kp21 := Keep.ext kp18 E21
          have od21 := od18.ext E21
          have F_b21_value : Fld Z h21 b21 "com/example/mayes/mayes/UnmarkedValue" "value" "Ljava/lang/Object;" .null := D21 (Or.inr (hw _ (List.mem_of_getElem? (i := 50) rfl))) (ty := (.object "java/lang/Object")) (by decide)
          refine Run.dup at_113 rfl (pc' := 114) rfl ?_
          refine Run.aload at_114 rfl rfl (pc' := 116) rfl ?_
          refine Run.callN (k' := 6) (n' := 11) (a := b21) (as := [.null]) (rest := [(.ref b21)]) (con_uv l Z a0 hw n0 h21 sz21 b21 .null rfl X21 F_b21_value ge_b21) rfl at_116 (hw _ (List.mem_of_getElem? (i := 40) rfl)) (hw _ (List.mem_of_getElem? (i := 41) rfl)) (hw _ (List.mem_of_getElem? (i := 39) rfl)) (hw _ (List.mem_of_getElem? (i := 42) rfl)) (by decide) pd__Ljava_lang_Object__V rfl rfl rfl (by decide) (by show (1 : Nat) + (2 + 11) + 24 ≤ _; decide) (by decide) (by decide) (by decide) (by decide) (pc' := 119) rfl ?_
          rintro h22 ⟨K22, P22⟩
          show Run l Z n0 x.cls code maxLocals ret x.name room_1 _ 119 #[.val (.int p1), .val (.int p2), .val (.int p3), .val (.ref b11), .val (.ref b14), .val (.ref b16), .val (.ref b17), .val (.int (p3 &&& (3 : Int32))), .val .null, .val .null, .unset] [(.ref b21)] h22 6 11
          have A_b11_22 := A_b11_21.keep K22 (ninS ne_b11_b21 nin0)
          have E_b14_22 := E_b14_21.keep K22
          have F_b14_value_22 := F_b14_value_21.keep K22 (ninS ne_b14_b21 nin0)
          have F_b14_coder_22 := F_b14_coder_21.keep K22 (ninS ne_b14_b21 nin0)
          have A_b15_22 := A_b15_21.keep K22 (ninS ne_b15_b21 nin0)
          have E_b16_22 := E_b16_21.keep K22
          have E_b17_22 := E_b17_21.keep K22
          have F_b17_value_22 := F_b17_value_21.keep K22 (ninS ne_b17_b21 nin0)
          have E_b21_22 := X21.keep K22
          have sz22 : n0 ≤ h22.size := Nat.le_trans sz21 K22.1
          have kp22 := Keep.trans kp21 K22 (allS (Or.inr bo_b21) all0)
          have od22 := od21.keep K22 (allS ge_b21 all0)
          refine Run.astore (l' := #[.val (.int p1), .val (.int p2), .val (.int p3), .val (.ref b11), .val (.ref b14), .val (.ref b16), .val (.ref b17), .val (.int (p3 &&& (3 : Int32))), .val .null, .val .null, .val (.ref b21)]) at_119 rfl rfl (pc' := 121) rfl ?_
          refine Run.aload at_121 rfl rfl (pc' := 123) rfl ?_
          refine Run.callS (k' := 6) (n' := 11) (as := [.null]) (rest := []) (con_hbN l Z a0 hw n0 h22 sz22  ) at_123 (hw _ (List.mem_of_getElem? (i := 51) rfl)) (hw _ (List.mem_of_getElem? (i := 52) rfl)) (hw _ (List.mem_of_getElem? (i := 39) rfl)) (hw _ (List.mem_of_getElem? (i := 53) rfl)) (by decide) pd__Ljava_lang_Object__Ljava_lang_Object_ rfl rfl rfl (by decide) (by show (0 : Nat) + (2 + 11) + 0 ≤ _; decide) (by decide) (by decide) (by decide) (by decide) (pc' := 126) rfl ?_
          rintro _ _ ⟨_, rfl, rfl, rfl⟩
          show Run l Z n0 x.cls code maxLocals ret x.name room_1 _ 126 #[.val (.int p1), .val (.int p2), .val (.int p3), .val (.ref b11), .val (.ref b14), .val (.ref b16), .val (.ref b17), .val (.int (p3 &&& (3 : Int32))), .val .null, .val .null, .val (.ref b21)] [.null] h22 6 11
          refine Run.aload at_126 rfl rfl (pc' := 128) rfl ?_
          refine Run.acmp_ne at_128 rfl rfl (by decide) (pc' := 145) (by decide) (pa := 131) rfl (fun hc128 => ?_) (fun hc128 => ?_)
          · -- pc 128 taken: ¬ .null = .null
            exact absurd rfl hc128
          · -- pc 128 not taken: .null = .null
            refine Run.aload at_131 rfl rfl (pc' := 133) rfl ?_
            refine Run.callS (k' := 6) (n' := 11) (as := [(.ref b21)]) (rest := []) (con_hbY l Z a0 hw n0 h22 sz22 b21 .null rfl E_b21_22 P22 ) at_133 (hw _ (List.mem_of_getElem? (i := 51) rfl)) (hw _ (List.mem_of_getElem? (i := 52) rfl)) (hw _ (List.mem_of_getElem? (i := 39) rfl)) (hw _ (List.mem_of_getElem? (i := 53) rfl)) (by decide) pd__Ljava_lang_Object__Ljava_lang_Object_ rfl rfl rfl (by decide) (by show (0 : Nat) + (2 + 11) + 0 ≤ _; decide) (by decide) (by decide) (by decide) (by decide) (pc' := 136) rfl ?_
            rintro _ _ ⟨_, rfl, rfl, rfl⟩
            show Run l Z n0 x.cls code maxLocals ret x.name room_1 _ 136 #[.val (.int p1), .val (.int p2), .val (.int p3), .val (.ref b11), .val (.ref b14), .val (.ref b16), .val (.ref b17), .val (.int (p3 &&& (3 : Int32))), .val .null, .val .null, .val (.ref b21)] [.null] h22 6 11
            refine Run.aload at_136 rfl rfl (pc' := 138) rfl ?_
            refine Run.acmp_ne at_138 rfl rfl (by decide) (pc' := 145) (by decide) (pa := 141) rfl (fun hc138 => ?_) (fun hc138 => ?_)
            · -- pc 138 taken: ¬ .null = .null
              exact absurd rfl hc138
            · -- pc 138 not taken: .null = .null
              refine Run.iconst (1 : Int32) at_141 (by decide) (pc' := 142) rfl ?_
              refine Run.goto at_142 (by decide) (pc' := 146) (by decide) ?_
              exact Run.nreturn at_146 (ty := .boolean) rfl (by simp) (by decide) (by decide) ⟨_, rfl, rfl⟩
        · -- pc 98 not taken: (p3 &&& (3 : Int32)) = (3 : Int32)
          exact absurd (hc82.symm.trans hc98) (by decide)
    · -- pc 69 not taken: (p3 &&& (3 : Int32)) = (1 : Int32)
      refine Run.aload at_72 rfl rfl (pc' := 74) rfl ?_
      refine Run.astore (l' := #[.val (.int p1), .val (.int p2), .val (.int p3), .val (.ref b11), .val (.ref b14), .val (.ref b16), .val (.ref b17), .val (.int (p3 &&& (3 : Int32))), .val (.ref b16), .unset, .unset]) at_74 rfl rfl (pc' := 76) rfl ?_
      refine Run.goto at_76 (by decide) (pc' := 95) (by decide) ?_
      refine Run.iload at_95 rfl (pc' := 97) rfl ?_
      refine Run.iconst (3 : Int32) at_97 (by decide) (pc' := 98) rfl ?_
      refine Run.icmp_ne at_98 (by decide) (pc' := 106) (by decide) (pa := 101) rfl (fun hc98 => ?_) (fun hc98 => ?_)
      · -- pc 98 taken: ¬ (p3 &&& (3 : Int32)) = (3 : Int32)
        refine Run.aload at_106 rfl rfl (pc' := 108) rfl ?_
        refine Run.astore (l' := #[.val (.int p1), .val (.int p2), .val (.int p3), .val (.ref b11), .val (.ref b14), .val (.ref b16), .val (.ref b17), .val (.int (p3 &&& (3 : Int32))), .val (.ref b16), .val (.ref b16), .unset]) at_108 rfl rfl (pc' := 110) rfl ?_
        refine Run.newO (k' := 6) (n' := 11) at_110 (hw _ (List.mem_of_getElem? (i := 37) rfl)) (hw _ (List.mem_of_getElem? (i := 38) rfl)) (hw _ (List.mem_of_getElem? (i := 39) rfl)) (by decide) (by decide) (by decide) (by decide) (pc' := 113) rfl ?_
        intro h23 b23 g23 E23 X23 D23
        have ge_b23 : n0 ≤ b23 := by rw [g23]; exact sz18
        have bo_b23 : h0.size ≤ b23 := by rw [g23]; exact kp18.1
        have ne_b11_b23 : b11 ≠ b23 := by rw [g23]; exact Nat.ne_of_lt A_b11_18.lt
        have ne_b14_b23 : b14 ≠ b23 := by rw [g23]; exact Nat.ne_of_lt E_b14_18.lt
        have ne_b15_b23 : b15 ≠ b23 := by rw [g23]; exact Nat.ne_of_lt A_b15_18.lt
        have ne_b16_b23 : b16 ≠ b23 := by rw [g23]; exact Nat.ne_of_lt E_b16_18.lt
        have ne_b17_b23 : b17 ≠ b23 := by rw [g23]; exact Nat.ne_of_lt E_b17_18.lt
        have ne_ac_b23 : ac ≠ b23 := Nat.ne_of_lt (Nat.lt_of_lt_of_le (od18.1 ▸ AC.lt) ge_b23)
        have A_b11_23 := A_b11_18.ext E23
        have E_b14_23 := E_b14_18.ext E23
        have F_b14_value_23 := F_b14_value_18.ext E23
        have F_b14_coder_23 := F_b14_coder_18.ext E23
        have A_b15_23 := A_b15_18.ext E23
        have E_b16_23 := E_b16_18.ext E23
        have E_b17_23 := E_b17_18.ext E23
        have F_b17_value_23 := P18.ext E23
        have sz23 : n0 ≤ h23.size := Nat.le_trans sz18 E23.1
        have kp23 := Keep.ext kp18 E23
        have od23 := od18.ext E23
        have F_b23_value : Fld Z h23 b23 "com/example/mayes/mayes/UnmarkedValue" "value" "Ljava/lang/Object;" .null := D23 (Or.inr (hw _ (List.mem_of_getElem? (i := 50) rfl))) (ty := (.object "java/lang/Object")) (by decide)
        refine Run.dup at_113 rfl (pc' := 114) rfl ?_
        refine Run.aload at_114 rfl rfl (pc' := 116) rfl ?_
        refine Run.callN (k' := 6) (n' := 11) (a := b23) (as := [(.ref b16)]) (rest := [(.ref b23)]) (con_uv l Z a0 hw n0 h23 sz23 b23 (.ref b16) rfl X23 F_b23_value ge_b23) rfl at_116 (hw _ (List.mem_of_getElem? (i := 40) rfl)) (hw _ (List.mem_of_getElem? (i := 41) rfl)) (hw _ (List.mem_of_getElem? (i := 39) rfl)) (hw _ (List.mem_of_getElem? (i := 42) rfl)) (by decide) pd__Ljava_lang_Object__V rfl rfl rfl (by decide) (by show (1 : Nat) + (2 + 11) + 24 ≤ _; decide) (by decide) (by decide) (by decide) (by decide) (pc' := 119) rfl ?_
        rintro h24 ⟨K24, P24⟩
        show Run l Z n0 x.cls code maxLocals ret x.name room_1 _ 119 #[.val (.int p1), .val (.int p2), .val (.int p3), .val (.ref b11), .val (.ref b14), .val (.ref b16), .val (.ref b17), .val (.int (p3 &&& (3 : Int32))), .val (.ref b16), .val (.ref b16), .unset] [(.ref b23)] h24 6 11
        have A_b11_24 := A_b11_23.keep K24 (ninS ne_b11_b23 nin0)
        have E_b14_24 := E_b14_23.keep K24
        have F_b14_value_24 := F_b14_value_23.keep K24 (ninS ne_b14_b23 nin0)
        have F_b14_coder_24 := F_b14_coder_23.keep K24 (ninS ne_b14_b23 nin0)
        have A_b15_24 := A_b15_23.keep K24 (ninS ne_b15_b23 nin0)
        have E_b16_24 := E_b16_23.keep K24
        have E_b17_24 := E_b17_23.keep K24
        have F_b17_value_24 := F_b17_value_23.keep K24 (ninS ne_b17_b23 nin0)
        have E_b23_24 := X23.keep K24
        have sz24 : n0 ≤ h24.size := Nat.le_trans sz23 K24.1
        have kp24 := Keep.trans kp23 K24 (allS (Or.inr bo_b23) all0)
        have od24 := od23.keep K24 (allS ge_b23 all0)
        refine Run.astore (l' := #[.val (.int p1), .val (.int p2), .val (.int p3), .val (.ref b11), .val (.ref b14), .val (.ref b16), .val (.ref b17), .val (.int (p3 &&& (3 : Int32))), .val (.ref b16), .val (.ref b16), .val (.ref b23)]) at_119 rfl rfl (pc' := 121) rfl ?_
        refine Run.aload at_121 rfl rfl (pc' := 123) rfl ?_
        refine Run.callS (k' := 6) (n' := 11) (as := [(.ref b16)]) (rest := []) (con_hbI l Z a0 hw n0 h24 sz24 b16 E_b16_24 ) at_123 (hw _ (List.mem_of_getElem? (i := 51) rfl)) (hw _ (List.mem_of_getElem? (i := 52) rfl)) (hw _ (List.mem_of_getElem? (i := 39) rfl)) (hw _ (List.mem_of_getElem? (i := 53) rfl)) (by decide) pd__Ljava_lang_Object__Ljava_lang_Object_ rfl rfl rfl (by decide) (by show (0 : Nat) + (2 + 11) + 0 ≤ _; decide) (by decide) (by decide) (by decide) (by decide) (pc' := 126) rfl ?_
        rintro _ _ ⟨_, rfl, rfl, rfl⟩
        show Run l Z n0 x.cls code maxLocals ret x.name room_1 _ 126 #[.val (.int p1), .val (.int p2), .val (.int p3), .val (.ref b11), .val (.ref b14), .val (.ref b16), .val (.ref b17), .val (.int (p3 &&& (3 : Int32))), .val (.ref b16), .val (.ref b16), .val (.ref b23)] [(.ref b16)] h24 6 11
        refine Run.aload at_126 rfl rfl (pc' := 128) rfl ?_
        refine Run.acmp_ne at_128 rfl rfl (by decide) (pc' := 145) (by decide) (pa := 131) rfl (fun hc128 => ?_) (fun hc128 => ?_)
        · -- pc 128 taken: ¬ (.ref b16) = (.ref b16)
          exact absurd rfl hc128
        · -- pc 128 not taken: (.ref b16) = (.ref b16)
          refine Run.aload at_131 rfl rfl (pc' := 133) rfl ?_
          refine Run.callS (k' := 6) (n' := 11) (as := [(.ref b23)]) (rest := []) (con_hbY l Z a0 hw n0 h24 sz24 b23 (.ref b16) rfl E_b23_24 P24 ) at_133 (hw _ (List.mem_of_getElem? (i := 51) rfl)) (hw _ (List.mem_of_getElem? (i := 52) rfl)) (hw _ (List.mem_of_getElem? (i := 39) rfl)) (hw _ (List.mem_of_getElem? (i := 53) rfl)) (by decide) pd__Ljava_lang_Object__Ljava_lang_Object_ rfl rfl rfl (by decide) (by show (0 : Nat) + (2 + 11) + 0 ≤ _; decide) (by decide) (by decide) (by decide) (by decide) (pc' := 136) rfl ?_
          rintro _ _ ⟨_, rfl, rfl, rfl⟩
          show Run l Z n0 x.cls code maxLocals ret x.name room_1 _ 136 #[.val (.int p1), .val (.int p2), .val (.int p3), .val (.ref b11), .val (.ref b14), .val (.ref b16), .val (.ref b17), .val (.int (p3 &&& (3 : Int32))), .val (.ref b16), .val (.ref b16), .val (.ref b23)] [(.ref b16)] h24 6 11
          refine Run.aload at_136 rfl rfl (pc' := 138) rfl ?_
          refine Run.acmp_ne at_138 rfl rfl (by decide) (pc' := 145) (by decide) (pa := 141) rfl (fun hc138 => ?_) (fun hc138 => ?_)
          · -- pc 138 taken: ¬ (.ref b16) = (.ref b16)
            exact absurd rfl hc138
          · -- pc 138 not taken: (.ref b16) = (.ref b16)
            refine Run.iconst (1 : Int32) at_141 (by decide) (pc' := 142) rfl ?_
            refine Run.goto at_142 (by decide) (pc' := 146) (by decide) ?_
            exact Run.nreturn at_146 (ty := .boolean) rfl (by simp) (by decide) (by decide) ⟨_, rfl, rfl⟩
      · -- pc 98 not taken: (p3 &&& (3 : Int32)) = (3 : Int32)
        exact absurd (hc69.symm.trans hc98) (by decide)
  · -- pc 56 not taken: (p3 &&& (3 : Int32)) = (0 : Int32)
    refine Run.aload at_59 rfl rfl (pc' := 61) rfl ?_
    refine Run.astore (l' := #[.val (.int p1), .val (.int p2), .val (.int p3), .val (.ref b11), .val (.ref b14), .val (.ref b16), .val (.ref b17), .val (.int (p3 &&& (3 : Int32))), .val (.ref b14), .unset, .unset]) at_61 rfl rfl (pc' := 63) rfl ?_
    refine Run.goto at_63 (by decide) (pc' := 95) (by decide) ?_
    refine Run.iload at_95 rfl (pc' := 97) rfl ?_
    refine Run.iconst (3 : Int32) at_97 (by decide) (pc' := 98) rfl ?_
    refine Run.icmp_ne at_98 (by decide) (pc' := 106) (by decide) (pa := 101) rfl (fun hc98 => ?_) (fun hc98 => ?_)
    · -- pc 98 taken: ¬ (p3 &&& (3 : Int32)) = (3 : Int32)
      refine Run.aload at_106 rfl rfl (pc' := 108) rfl ?_
      refine Run.astore (l' := #[.val (.int p1), .val (.int p2), .val (.int p3), .val (.ref b11), .val (.ref b14), .val (.ref b16), .val (.ref b17), .val (.int (p3 &&& (3 : Int32))), .val (.ref b14), .val (.ref b14), .unset]) at_108 rfl rfl (pc' := 110) rfl ?_
      refine Run.newO (k' := 6) (n' := 11) at_110 (hw _ (List.mem_of_getElem? (i := 37) rfl)) (hw _ (List.mem_of_getElem? (i := 38) rfl)) (hw _ (List.mem_of_getElem? (i := 39) rfl)) (by decide) (by decide) (by decide) (by decide) (pc' := 113) rfl ?_
      intro h25 b25 g25 E25 X25 D25
      have ge_b25 : n0 ≤ b25 := by rw [g25]; exact sz18
      have bo_b25 : h0.size ≤ b25 := by rw [g25]; exact kp18.1
      have ne_b11_b25 : b11 ≠ b25 := by rw [g25]; exact Nat.ne_of_lt A_b11_18.lt
      have ne_b14_b25 : b14 ≠ b25 := by rw [g25]; exact Nat.ne_of_lt E_b14_18.lt
      have ne_b15_b25 : b15 ≠ b25 := by rw [g25]; exact Nat.ne_of_lt A_b15_18.lt
      have ne_b16_b25 : b16 ≠ b25 := by rw [g25]; exact Nat.ne_of_lt E_b16_18.lt
      have ne_b17_b25 : b17 ≠ b25 := by rw [g25]; exact Nat.ne_of_lt E_b17_18.lt
      have ne_ac_b25 : ac ≠ b25 := Nat.ne_of_lt (Nat.lt_of_lt_of_le (od18.1 ▸ AC.lt) ge_b25)
      have A_b11_25 := A_b11_18.ext E25
      have E_b14_25 := E_b14_18.ext E25
      have F_b14_value_25 := F_b14_value_18.ext E25
      have F_b14_coder_25 := F_b14_coder_18.ext E25
      have A_b15_25 := A_b15_18.ext E25
      have E_b16_25 := E_b16_18.ext E25
      have E_b17_25 := E_b17_18.ext E25
      have F_b17_value_25 := P18.ext E25
      have sz25 : n0 ≤ h25.size := Nat.le_trans sz18 E25.1
      have kp25 := Keep.ext kp18 E25
      have od25 := od18.ext E25
      have F_b25_value : Fld Z h25 b25 "com/example/mayes/mayes/UnmarkedValue" "value" "Ljava/lang/Object;" .null := D25 (Or.inr (hw _ (List.mem_of_getElem? (i := 50) rfl))) (ty := (.object "java/lang/Object")) (by decide)
      refine Run.dup at_113 rfl (pc' := 114) rfl ?_
      refine Run.aload at_114 rfl rfl (pc' := 116) rfl ?_
      refine Run.callN (k' := 6) (n' := 11) (a := b25) (as := [(.ref b14)]) (rest := [(.ref b25)]) (con_uv l Z a0 hw n0 h25 sz25 b25 (.ref b14) rfl X25 F_b25_value ge_b25) rfl at_116 (hw _ (List.mem_of_getElem? (i := 40) rfl)) (hw _ (List.mem_of_getElem? (i := 41) rfl)) (hw _ (List.mem_of_getElem? (i := 39) rfl)) (hw _ (List.mem_of_getElem? (i := 42) rfl)) (by decide) pd__Ljava_lang_Object__V rfl rfl rfl (by decide) (by show (1 : Nat) + (2 + 11) + 24 ≤ _; decide) (by decide) (by decide) (by decide) (by decide) (pc' := 119) rfl ?_
      rintro h26 ⟨K26, P26⟩
      show Run l Z n0 x.cls code maxLocals ret x.name room_1 _ 119 #[.val (.int p1), .val (.int p2), .val (.int p3), .val (.ref b11), .val (.ref b14), .val (.ref b16), .val (.ref b17), .val (.int (p3 &&& (3 : Int32))), .val (.ref b14), .val (.ref b14), .unset] [(.ref b25)] h26 6 11
      have A_b11_26 := A_b11_25.keep K26 (ninS ne_b11_b25 nin0)
      have E_b14_26 := E_b14_25.keep K26
      have F_b14_value_26 := F_b14_value_25.keep K26 (ninS ne_b14_b25 nin0)
      have F_b14_coder_26 := F_b14_coder_25.keep K26 (ninS ne_b14_b25 nin0)
      have A_b15_26 := A_b15_25.keep K26 (ninS ne_b15_b25 nin0)
      have E_b16_26 := E_b16_25.keep K26
      have E_b17_26 := E_b17_25.keep K26
      have F_b17_value_26 := F_b17_value_25.keep K26 (ninS ne_b17_b25 nin0)
      have E_b25_26 := X25.keep K26
      have sz26 : n0 ≤ h26.size := Nat.le_trans sz25 K26.1
      have kp26 := Keep.trans kp25 K26 (allS (Or.inr bo_b25) all0)
      have od26 := od25.keep K26 (allS ge_b25 all0)
      refine Run.astore (l' := #[.val (.int p1), .val (.int p2), .val (.int p3), .val (.ref b11), .val (.ref b14), .val (.ref b16), .val (.ref b17), .val (.int (p3 &&& (3 : Int32))), .val (.ref b14), .val (.ref b14), .val (.ref b25)]) at_119 rfl rfl (pc' := 121) rfl ?_
      refine Run.aload at_121 rfl rfl (pc' := 123) rfl ?_
      refine Run.callS (k' := 6) (n' := 11) (as := [(.ref b14)]) (rest := []) (con_hbS l Z a0 hw n0 h26 sz26 b14 E_b14_26 ) at_123 (hw _ (List.mem_of_getElem? (i := 51) rfl)) (hw _ (List.mem_of_getElem? (i := 52) rfl)) (hw _ (List.mem_of_getElem? (i := 39) rfl)) (hw _ (List.mem_of_getElem? (i := 53) rfl)) (by decide) pd__Ljava_lang_Object__Ljava_lang_Object_ rfl rfl rfl (by decide) (by show (0 : Nat) + (2 + 11) + 0 ≤ _; decide) (by decide) (by decide) (by decide) (by decide) (pc' := 126) rfl ?_
      rintro _ _ ⟨_, rfl, rfl, rfl⟩
      show Run l Z n0 x.cls code maxLocals ret x.name room_1 _ 126 #[.val (.int p1), .val (.int p2), .val (.int p3), .val (.ref b11), .val (.ref b14), .val (.ref b16), .val (.ref b17), .val (.int (p3 &&& (3 : Int32))), .val (.ref b14), .val (.ref b14), .val (.ref b25)] [(.ref b14)] h26 6 11
      refine Run.aload at_126 rfl rfl (pc' := 128) rfl ?_
      refine Run.acmp_ne at_128 rfl rfl (by decide) (pc' := 145) (by decide) (pa := 131) rfl (fun hc128 => ?_) (fun hc128 => ?_)
      · -- pc 128 taken: ¬ (.ref b14) = (.ref b14)
        exact absurd rfl hc128
      · -- pc 128 not taken: (.ref b14) = (.ref b14)
        refine Run.aload at_131 rfl rfl (pc' := 133) rfl ?_
        refine Run.callS (k' := 6) (n' := 11) (as := [(.ref b25)]) (rest := []) (con_hbY l Z a0 hw n0 h26 sz26 b25 (.ref b14) rfl E_b25_26 P26 ) at_133 (hw _ (List.mem_of_getElem? (i := 51) rfl)) (hw _ (List.mem_of_getElem? (i := 52) rfl)) (hw _ (List.mem_of_getElem? (i := 39) rfl)) (hw _ (List.mem_of_getElem? (i := 53) rfl)) (by decide) pd__Ljava_lang_Object__Ljava_lang_Object_ rfl rfl rfl (by decide) (by show (0 : Nat) + (2 + 11) + 0 ≤ _; decide) (by decide) (by decide) (by decide) (by decide) (pc' := 136) rfl ?_
        rintro _ _ ⟨_, rfl, rfl, rfl⟩
        show Run l Z n0 x.cls code maxLocals ret x.name room_1 _ 136 #[.val (.int p1), .val (.int p2), .val (.int p3), .val (.ref b11), .val (.ref b14), .val (.ref b16), .val (.ref b17), .val (.int (p3 &&& (3 : Int32))), .val (.ref b14), .val (.ref b14), .val (.ref b25)] [(.ref b14)] h26 6 11
        refine Run.aload at_136 rfl rfl (pc' := 138) rfl ?_
        refine Run.acmp_ne at_138 rfl rfl (by decide) (pc' := 145) (by decide) (pa := 141) rfl (fun hc138 => ?_) (fun hc138 => ?_)
        · -- pc 138 taken: ¬ (.ref b14) = (.ref b14)
          exact absurd rfl hc138
        · -- pc 138 not taken: (.ref b14) = (.ref b14)
          refine Run.iconst (1 : Int32) at_141 (by decide) (pc' := 142) rfl ?_
          refine Run.goto at_142 (by decide) (pc' := 146) (by decide) ?_
          exact Run.nreturn at_146 (ty := .boolean) rfl (by simp) (by decide) (by decide) ⟨_, rfl, rfl⟩
    · -- pc 98 not taken: (p3 &&& (3 : Int32)) = (3 : Int32)
      exact absurd (hc56.symm.trans hc98) (by decide)
set_option maxRecDepth 65536 in
set_option maxHeartbeats 40000000 in
theorem comes_1 {Post : Tables → Env → Array Value → State → Outcome → State → Prop} (hpost : ∀ tb e args s v u, (limb_1_1.after args s (.returned v) u = true ∧ limb_1_2.after args s (.returned v) u = true ∧ True) → FrameEnd s (.returned v) u (Jvm.fieldLocs frame_1_writes args s ++ Jvm.arrayLocs frame_1_arrays args s ++ Jvm.staticLocs frame_1_statics s) 24 128 → Post tb e args s (.returned v) u) :
    ArmFor flags0 classFile x code maxLocals ret World_1 tables_1 room_1 Calls_1 rest_1 Pre_1 Post := by
  intro l hfl _ _ p e ha hc hk s m args below hf hA hF happ hP
  obtain ⟨hcalls, hrest, hpre⟩ := hP
  obtain ⟨-, -, -, hnamed, -, -, -, hat⟩ := (Spec.applies_iff hf).mp happ
  obtain ⟨hg, hn⟩ := and_e (Cond.before_iff.mp (show (Jvm.Cond.and given_1 narrow_1).before args s = true from hpre))
  obtain ⟨hcnt, g0⟩ := and_e hg
  obtain ⟨ga0, g1⟩ := and_e g0
  obtain ⟨ga1, g2⟩ := and_e g1
  obtain ⟨w0, w1, w2, rfl⟩ : ∃ w0 w1 w2 : Value, args = #[w0, w1, w2] := by
    have hs : args.size = 3 := by simpa [Cond.value, given_1] using hcnt
    obtain ⟨L⟩ := args
    match L, hs with
    | [w0, w1, w2], _ => exact ⟨w0, w1, w2, rfl⟩
  have hw := fun d (hd : d ∈ tables_1) => atoms_spec (ws := Jvm.Cond.code x code maxLocals ret :: tables_1) hat d (List.mem_cons_of_mem _ hd)
  obtain ⟨hsets, hown0⟩ := atoms_of _ (rest_1_c_eq ▸ (show rest_1_c.before _ s = true from hrest))
  have hr0 := Cond.before_iff.mp hown0
  have hfit : Fit s := fun {y c} hc i hi => by
    obtain ⟨ha, rfl⟩ := Array.getElem?_eq_some_iff.mp hc
    have q := List.all_eq_true.mp ((Array.all_eq_true_iff_forall_mem.mp hF) _ (Array.getElem_mem ha)) i (List.mem_range.mpr hi)
    simpa [Array.getElem?_eq_getElem hi] using q
  obtain ⟨i0, e0⟩ := is_v ga0
  obtain rfl : w0 = (.int i0) := Option.some.inj e0
  obtain ⟨i1, e1⟩ := is_v ga1
  obtain rfl : w1 = (.int i1) := Option.some.inj e1
  obtain ⟨i2, e2⟩ := is_v g2
  obtain rfl : w2 = (.int i2) := Option.some.inj e2
  have evH := eqv_i (Term.int_eval (127)) (Cond.before_iff.mp (hsets _ (List.mem_of_getElem? (i := 12) rfl)))
  have SH := Sta.start evH (Or.inl (hsets _ (List.mem_of_getElem? (i := 10) rfl)))
  obtain ⟨ac, evC⟩ := arr_v (Cond.before_iff.mp (hsets _ (List.mem_of_getElem? (i := 13) rfl)))
  have SC := Sta.start evC (Or.inr ⟨(hw _ (List.mem_of_getElem? (i := 35) rfl)), (hsets _ (List.mem_of_getElem? (i := 11) rfl))⟩)
  obtain ⟨cl, AC⟩ := Arr.start evC (Cond.before_iff.mp (hsets _ (List.mem_of_getElem? (i := 13) rfl)))
  have evL := eqv_i (Term.int_eval (256)) (Cond.before_iff.mp (hsets _ (List.mem_of_getElem? (i := 15) rfl)))
  have hsz := own_len evC (AC.fin (Vm.Alike.refl _)) evL
  have BX := Bxs.start (z := 256) (val := fun j => .int (j - 128)) (fun _ => evC) AC (by omega) (by rw [hsz]; decide) (by decide) (Cond.before_iff.mp (hsets _ (List.mem_of_getElem? (i := 16) rfl))) (fun X j hj hX => eqv_i (own_sub hj) hX)
  have hcache := own_cache BX
  obtain ⟨cz, evZ⟩ := is_v (Cond.before_iff.mp (hsets _ (List.mem_of_getElem? (i := 1) rfl)))
  have SZ := Sta.start evZ (Or.inl (hsets _ (List.mem_of_getElem? (i := 0) rfl)))
  have hcz : ¬ cz = (0 : Int32) := gotF (Cond.eq_ints evZ (Term.int_eval (0))) (not_v (Cond.before_iff.mp (hsets _ (List.mem_of_getElem? (i := 2) rfl))))
  obtain ⟨n, o, h1, h2, h3, _, L, rfl, ⟨⟨_, rfl, rfl⟩, N⟩, hq⟩ := con0 l s _ hw s.heap.size s.heap (Nat.le_refl _) i0 i1 i2 ac cl.slots.toList cz (Old.start s) SH SC ⟨cl, AC, rfl⟩ hcache SZ hcz tables_1 p e ha hc hk s m _ below hf ((Spec.applies_iff_loose hf).mp happ).1 ⟨rfl, State.Warmed39.refl s, rfl⟩ trivial
  refine ⟨n, _, h1, h2, h3, hpost _ _ _ _ _ _ ⟨Cond.after_iff.mpr rfl, Cond.after_iff.mpr (eq_i res_at (Term.int_eval (1)) rfl), trivial⟩ ⟨hq.1, hq.2.1, (hq.2.2.sift fun y hy => Or.inr (N y hy)).mono (by decide) (by decide)⟩⟩
theorem main_1_1 : Claimed_1_1 := comes_1 fun _ _ _ _ _ _ h hF => ⟨h.1, hF⟩
theorem main_1_2 : Claimed_1_2 := comes_1 fun _ _ _ _ _ _ h hF => ⟨h.2.1, hF⟩
end Jvm.Pilot.@@N@@
namespace Jvm.Pilot.@@N@@
open Jvm Jvm.ClassFile Sem Op Lib Jvm.Free Jvm.Stand Jvm.Pilot.@@N@@.Jvm.D
/-! MADE BY PROGRAM (witnessworld.py) out of the Statement's table words and the real class files: 25 classes; the members and pool entries that the words name. The judged class is class 1, her method 1. -/
namespace start1
open Jvm.ClassFile
def u (s : String) : CpInfo := .utf8 (stringToUtf16 s)
/-- a pool by its gaps: so many unusable entries, then the entry; so many at the end -/
def gap : Nat → List CpInfo → List CpInfo
  | 0, r => r
  | n + 1, r => .unusable :: gap n r
def poolList (es : List (Nat × CpInfo)) (last : Nat) : List CpInfo := es.foldr (fun e r => gap e.1 (e.2 :: r)) (gap last [])
def pool (es : List (Nat × CpInfo)) (last : Nat) : Array CpInfo := ⟨poolList es last⟩
def fileOf (pool : Array CpInfo) (this : Nat) (attrs : Array Attribute := #[]) (ms : Array MethodInfo := #[]) (fl : Nat := 33) (sup : Nat := 0) (ifs : Array Nat := #[]) (fds : Array FieldInfo := #[]) : ClassFile where
  minorVersion := 0
  majorVersion := 65
  constantPool := pool
  accessFlags := fl
  thisClass := this
  superClass := sup
  interfaces := ifs
  fields := fds
  methods := ms
  attributes := attrs
def plain (name : String) (sup : Option ClassId) : Class where
  name := name
  kind := .ordinary
  loader := none
  accessFlags := 33
  super := sup
  interfaces := #[]
  cf := none
  fields := #[]
  methods := #[]
  instanceTypes := #[]
  staticTypes := #[]
  resolved := #[]
  callSites := []
  init := .initialized
  statics := none
  mirror := none

def pool0 : Array CpInfo := pool [(5, u "<init>"), (0, u "()V"), (1, .class_ 10), (1, u "java/lang/Object")] 113

def k0c0 : Code := { maxStack := 0, maxLocals := 1, code := object_method_1_code, exceptionTable := #[], attributes := #[] }
def k0m0 : Method := { name := "<init>", desc := "()V", sig := { parameters := [], returnType := none }, accessFlags := 1, code := some k0c0 }
/-- java/lang/Object -/
def k0 : Class := { plain "java/lang/Object" none with
  accessFlags := 33
  interfaces := #[]
  cf := some (fileOf pool0 8 #[] #[{ accessFlags := 1, nameIndex := 5, descriptorIndex := 6, attributes := #[] }] 33 0 #[] #[])
  fields := #[]
  methods := #[k0m0]
  instanceTypes := #[]
  staticTypes := #[]
  resolved := Array.replicate 124 none
  statics := none }

def pool1 : Array CpInfo := pool [(2, .class_ 4), (1, u "java/lang/Object"), (0, u "<init>"), (0, u "()V"), (0, .class_ 8), (0, u "java/lang/String"), (0, .methodref 7 10), (0, .nameAndType 5 11), (0, u "([C)V"), (0, .methodref 13 14), (0, .class_ 15), (0, .nameAndType 16 17), (0, u "java/lang/Integer"), (0, u "valueOf"), (0, u "(I)Ljava/lang/Integer;"), (0, .class_ 19), (0, u "com/example/mayes/mayes/UnmarkedValue"), (0, .methodref 18 21), (0, .nameAndType 5 22), (0, u "(Ljava/lang/Object;)V"), (0, .methodref 18 24), (0, .nameAndType 25 26), (0, u "heldBy"), (0, u "(Ljava/lang/Object;)Ljava/lang/Object;"), (0, .class_ 28), (0, u "com/example/mayes/mayes/UnmarkedValueHeldByPinLaw"), (2, u "law"), (0, u "(III)Z")] 5

def k1m0 : Method := { name := "<init>", desc := "()V", sig := { parameters := [], returnType := none }, accessFlags := 1, code := none }
def k1c1 : Code := { maxStack := 4, maxLocals := 11, code := code, exceptionTable := #[], attributes := #[] }
def k1m1 : Method := { name := "law", desc := "(III)Z", sig := { parameters := [.int, .int, .int], returnType := some .boolean }, accessFlags := 9, code := some k1c1 }
/-- com/example/mayes/mayes/UnmarkedValueHeldByPinLaw -/
def k1 : Class := { plain "com/example/mayes/mayes/UnmarkedValueHeldByPinLaw" (some 0) with
  accessFlags := 49
  interfaces := #[]
  cf := some (fileOf pool1 27 #[] #[{ accessFlags := 1, nameIndex := 5, descriptorIndex := 6, attributes := #[] }, { accessFlags := 9, nameIndex := 31, descriptorIndex := 32, attributes := #[] }] 49 2 #[] #[])
  fields := #[]
  methods := #[k1m0, k1m1]
  instanceTypes := #[]
  staticTypes := #[]
  resolved := Array.replicate 38 none
  statics := none }

def pool2 : Array CpInfo := pool [(1, .class_ 2), (0, u "java/io/Serializable"), (0, .class_ 4), (0, u "java/lang/Object")] 2

/-- java/io/Serializable -/
def k2 : Class := { plain "java/io/Serializable" (some 0) with
  accessFlags := 1537
  interfaces := #[]
  cf := some (fileOf pool2 1 #[] #[] 1537 3 #[] #[])
  fields := #[]
  methods := #[]
  instanceTypes := #[]
  staticTypes := #[]
  resolved := Array.replicate 7 none
  statics := none }

def pool3 : Array CpInfo := pool [(1, .class_ 2), (0, u "java/lang/Comparable"), (0, .class_ 4), (0, u "java/lang/Object")] 7

/-- java/lang/Comparable -/
def k3 : Class := { plain "java/lang/Comparable" (some 0) with
  accessFlags := 1537
  interfaces := #[]
  cf := some (fileOf pool3 1 #[] #[] 1537 3 #[] #[])
  fields := #[]
  methods := #[]
  instanceTypes := #[]
  staticTypes := #[]
  resolved := Array.replicate 12 none
  statics := none }

def pool4 : Array CpInfo := pool [(2, .class_ 4), (1, u "java/lang/CharSequence"), (42, .class_ 48), (0, u "java/lang/CharSequence$1CodePointIterator"), (10, .class_ 60), (0, u "java/lang/CharSequence$1CharIterator"), (5, .class_ 67), (0, u "java/lang/Object")] 63

/-- java/lang/CharSequence -/
def k4 : Class := { plain "java/lang/CharSequence" (some 0) with
  accessFlags := 1537
  interfaces := #[]
  cf := some (fileOf pool4 2 #[.nestMembers #[47, 59]] #[] 1537 66 #[] #[])
  fields := #[]
  methods := #[]
  instanceTypes := #[]
  staticTypes := #[]
  resolved := Array.replicate 131 none
  statics := none }

def pool5 : Array CpInfo := pool [(1, .class_ 2), (0, u "java/lang/constant/Constable"), (0, .class_ 4), (0, u "java/lang/Object")] 6

/-- java/lang/constant/Constable -/
def k5 : Class := { plain "java/lang/constant/Constable" (some 0) with
  accessFlags := 1537
  interfaces := #[]
  cf := some (fileOf pool5 1 #[] #[] 1537 3 #[] #[])
  fields := #[]
  methods := #[]
  instanceTypes := #[]
  staticTypes := #[]
  resolved := Array.replicate 11 none
  statics := none }

def pool6 : Array CpInfo := pool [(1, .class_ 2), (0, u "java/lang/constant/ConstantDesc"), (0, .class_ 4), (0, u "java/lang/Object")] 32

/-- java/lang/constant/ConstantDesc -/
def k6 : Class := { plain "java/lang/constant/ConstantDesc" (some 0) with
  accessFlags := 1537
  interfaces := #[]
  cf := some (fileOf pool6 1 #[] #[] 1537 3 #[] #[])
  fields := #[]
  methods := #[]
  instanceTypes := #[]
  staticTypes := #[]
  resolved := Array.replicate 37 none
  statics := none }

def pool7 : Array CpInfo := pool [(1, .methodref 2 3), (0, .class_ 4), (0, .nameAndType 5 6), (0, u "java/lang/Object"), (0, u "<init>"), (0, u "()V"), (2, .fieldref 10 11), (0, .class_ 12), (0, .nameAndType 13 14), (0, u "java/lang/String"), (0, u "value"), (0, u "[B"), (0, .fieldref 10 16), (0, .nameAndType 17 18), (0, u "coder"), (0, u "B"), (2, u "hash"), (0, u "I"), (2, u "hashIsZero"), (0, u "Z"), (0, .methodref 10 28), (0, .nameAndType 5 29), (0, u "([CIILjava/lang/Void;)V"), (8, .fieldref 10 39), (0, .nameAndType 40 26), (0, u "COMPACT_STRINGS"), (1, .class_ 44), (1, u "java/lang/StringUTF16"), (0, u "compress"), (1, .methodref 42 48), (0, .nameAndType 49 50), (0, u "coderFromArrayLen"), (0, u "([BI)B"), (126, .methodref 42 178), (0, .nameAndType 45 179), (0, u "([CII)[B"), (395, .class_ 576), (0, u "java/lang/CharSequence"), (22, u "CASE_INSENSITIVE_ORDER"), (0, u "Ljava/util/Comparator;"), (409, u "([C)V"), (90, u "serialPersistentFields"), (0, u "[Ljava/io/ObjectStreamField;"), (0, .class_ 1104), (0, u "java/lang/String$CaseInsensitiveComparator"), (1, .class_ 1107), (0, u "java/io/Serializable"), (0, .class_ 1109), (0, u "java/lang/Comparable"), (0, .class_ 1111), (0, u "java/lang/constant/Constable"), (0, .class_ 1113), (0, u "java/lang/constant/ConstantDesc"), (2, u "serialVersionUID"), (0, u "J"), (3, u "REPL"), (0, u "C"), (2, u "LATIN1"), (1, u "UTF16")] 323

def k7m0 : Method := { name := "<init>", desc := "()V", sig := { parameters := [], returnType := none }, accessFlags := 1, code := none }
def k7c1 : Code := { maxStack := 5, maxLocals := 2, code := jdk_42_method_3_code, exceptionTable := #[], attributes := #[] }
def k7m1 : Method := { name := "<init>", desc := "([C)V", sig := { parameters := [(.array .char)], returnType := none }, accessFlags := 1, code := some k7c1 }
def k7c2 : Code := { maxStack := 4, maxLocals := 6, code := jdk_42_method_149_code, exceptionTable := #[], attributes := #[] }
def k7m2 : Method := { name := "<init>", desc := "([CIILjava/lang/Void;)V", sig := { parameters := [(.array .char), .int, .int, (.object "java/lang/Void")], returnType := none }, accessFlags := 2, code := some k7c2 }
/-- java/lang/String -/
def k7 : Class := { plain "java/lang/String" (some 0) with
  accessFlags := 49
  interfaces := #[2, 3, 4, 5, 6]
  cf := some (fileOf pool7 10 #[.nestMembers #[1103]] #[{ accessFlags := 1, nameIndex := 5, descriptorIndex := 6, attributes := #[] }, { accessFlags := 1, nameIndex := 5, descriptorIndex := 1010, attributes := #[] }, { accessFlags := 2, nameIndex := 5, descriptorIndex := 29, attributes := #[] }] 49 2 #[1106, 1108, 575, 1110, 1112] #[{ accessFlags := 18, nameIndex := 13, descriptorIndex := 14, attributes := #[] }, { accessFlags := 18, nameIndex := 17, descriptorIndex := 18, attributes := #[] }, { accessFlags := 2, nameIndex := 21, descriptorIndex := 22, attributes := #[] }, { accessFlags := 2, nameIndex := 25, descriptorIndex := 26, attributes := #[] }, { accessFlags := 26, nameIndex := 1116, descriptorIndex := 1117, attributes := #[] }, { accessFlags := 24, nameIndex := 40, descriptorIndex := 26, attributes := #[] }, { accessFlags := 26, nameIndex := 1101, descriptorIndex := 1102, attributes := #[] }, { accessFlags := 26, nameIndex := 1121, descriptorIndex := 1122, attributes := #[] }, { accessFlags := 25, nameIndex := 599, descriptorIndex := 600, attributes := #[] }, { accessFlags := 24, nameIndex := 1125, descriptorIndex := 18, attributes := #[] }, { accessFlags := 24, nameIndex := 1127, descriptorIndex := 18, attributes := #[] }])
  fields := #[{ name := "value", type := (.array .byte), accessFlags := 18, slot := 0, constantValue := 0 }, { name := "coder", type := .byte, accessFlags := 18, slot := 1, constantValue := 0 }, { name := "hash", type := .int, accessFlags := 2, slot := 2, constantValue := 0 }, { name := "hashIsZero", type := .boolean, accessFlags := 2, slot := 3, constantValue := 0 }, { name := "serialVersionUID", type := .long, accessFlags := 26, slot := 0, constantValue := 0 }, { name := "COMPACT_STRINGS", type := .boolean, accessFlags := 24, slot := 1, constantValue := 0 }, { name := "serialPersistentFields", type := (.array (.object "java/io/ObjectStreamField")), accessFlags := 26, slot := 2, constantValue := 0 }, { name := "REPL", type := .char, accessFlags := 26, slot := 3, constantValue := 0 }, { name := "CASE_INSENSITIVE_ORDER", type := (.object "java/util/Comparator"), accessFlags := 25, slot := 4, constantValue := 0 }, { name := "LATIN1", type := .byte, accessFlags := 24, slot := 5, constantValue := 0 }, { name := "UTF16", type := .byte, accessFlags := 24, slot := 6, constantValue := 0 }]
  methods := #[k7m0, k7m1, k7m2]
  instanceTypes := #[(.array .byte), .byte, .int, .boolean]
  staticTypes := #[.long, .boolean, (.array (.object "java/io/ObjectStreamField")), .char, (.object "java/util/Comparator"), .byte, .byte]
  resolved := Array.replicate 1451 none
  statics := some 0 }

def pool8 : Array CpInfo := pool [(6, .class_ 8), (1, u "java/lang/Object"), (0, u "<init>"), (0, u "()V"), (1, .class_ 14), (1, u "java/lang/StringUTF16"), (31, u "$assertionsDisabled"), (0, u "Z"), (13, u "HI_BYTE_SHIFT"), (0, u "I"), (2, u "LO_BYTE_SHIFT"), (49, .methodref 12 116), (0, .nameAndType 117 118), (0, u "compress"), (0, u "([CI[BII)I"), (3, u "([CII)[B"), (138, u "coderFromArrayLen"), (0, u "([BI)B"), (106, .class_ 371), (1, u "java/lang/StringUTF16$LinesSpliterator"), (58, u "MAX_LENGTH"), (196, .class_ 628), (0, u "java/lang/StringUTF16$CodePointsSpliterator"), (0, .class_ 630), (0, u "java/lang/StringUTF16$CharsSpliterator")] 4

def k8m0 : Method := { name := "<init>", desc := "()V", sig := { parameters := [], returnType := none }, accessFlags := 0, code := none }
def k8c1 : Code := { maxStack := 2, maxLocals := 2, code := jdk_52_method_15_code, exceptionTable := #[], attributes := #[] }
def k8m1 : Method := { name := "coderFromArrayLen", desc := "([BI)B", sig := { parameters := [(.array .byte), .int], returnType := some .byte }, accessFlags := 8, code := some k8c1 }
def k8c2 : Code := { maxStack := 5, maxLocals := 6, code := jdk_52_method_16_code, exceptionTable := #[], attributes := #[] }
def k8m2 : Method := { name := "compress", desc := "([CII)[B", sig := { parameters := [(.array .char), .int, .int], returnType := some (.array .byte) }, accessFlags := 9, code := some k8c2 }
def k8c3 : Code := { maxStack := 3, maxLocals := 7, code := jdk_52_method_21_code, exceptionTable := #[], attributes := #[] }
def k8m3 : Method := { name := "compress", desc := "([CI[BII)I", sig := { parameters := [(.array .char), .int, (.array .byte), .int, .int], returnType := some .int }, accessFlags := 9, code := some k8c3 }
/-- java/lang/StringUTF16 -/
def k8 : Class := { plain "java/lang/StringUTF16" (some 0) with
  accessFlags := 48
  interfaces := #[]
  cf := some (fileOf pool8 12 #[.nestMembers #[627, 629, 369]] #[{ accessFlags := 0, nameIndex := 9, descriptorIndex := 10, attributes := #[] }, { accessFlags := 8, nameIndex := 261, descriptorIndex := 262, attributes := #[] }, { accessFlags := 9, nameIndex := 117, descriptorIndex := 122, attributes := #[] }, { accessFlags := 9, nameIndex := 117, descriptorIndex := 118, attributes := #[] }] 48 6 #[] #[{ accessFlags := 26, nameIndex := 61, descriptorIndex := 62, attributes := #[] }, { accessFlags := 26, nameIndex := 65, descriptorIndex := 62, attributes := #[] }, { accessFlags := 24, nameIndex := 430, descriptorIndex := 62, attributes := #[] }, { accessFlags := 4120, nameIndex := 46, descriptorIndex := 47, attributes := #[] }])
  fields := #[{ name := "HI_BYTE_SHIFT", type := .int, accessFlags := 26, slot := 0, constantValue := 0 }, { name := "LO_BYTE_SHIFT", type := .int, accessFlags := 26, slot := 1, constantValue := 0 }, { name := "MAX_LENGTH", type := .int, accessFlags := 24, slot := 2, constantValue := 0 }, { name := "$assertionsDisabled", type := .boolean, accessFlags := 4120, slot := 3, constantValue := 0 }]
  methods := #[k8m0, k8m1, k8m2, k8m3]
  instanceTypes := #[]
  staticTypes := #[.int, .int, .int, .boolean]
  resolved := Array.replicate 635 none
  statics := none }

def pool9 : Array CpInfo := pool [(1, .methodref 2 3), (0, .class_ 4), (0, .nameAndType 5 6), (0, u "java/lang/Object"), (0, u "<init>"), (0, u "()V"), (1, .class_ 10), (1, u "java/lang/Number"), (2, .class_ 14), (0, u "java/io/Serializable"), (0, u "serialVersionUID"), (0, u "J")] 20

def k9c0 : Code := { maxStack := 1, maxLocals := 1, code := jdk_18_method_1_code, exceptionTable := #[], attributes := #[] }
def k9m0 : Method := { name := "<init>", desc := "()V", sig := { parameters := [], returnType := none }, accessFlags := 1, code := some k9c0 }
/-- java/lang/Number -/
def k9 : Class := { plain "java/lang/Number" (some 0) with
  accessFlags := 1057
  interfaces := #[2]
  cf := some (fileOf pool9 8 #[] #[{ accessFlags := 1, nameIndex := 5, descriptorIndex := 6, attributes := #[] }] 1057 2 #[13] #[{ accessFlags := 26, nameIndex := 15, descriptorIndex := 16, attributes := #[] }])
  fields := #[{ name := "serialVersionUID", type := .long, accessFlags := 26, slot := 0, constantValue := 0 }]
  methods := #[k9m0]
  instanceTypes := #[]
  staticTypes := #[.long]
  resolved := Array.replicate 37 none
  statics := none }

def pool10 : Array CpInfo := pool [(1, .class_ 2), (0, u "java/lang/Integer"), (16, u "digits"), (0, u "[C"), (46, u "<init>"), (17, u "DigitOnes"), (0, u "[B"), (2, u "DigitTens"), (10, .nameAndType 67 101), (0, u "()V"), (85, u "valueOf"), (0, u "(I)Ljava/lang/Integer;"), (0, .class_ 190), (0, u "java/lang/Integer$IntegerCache"), (0, .fieldref 189 192), (0, .nameAndType 193 194), (0, u "high"), (0, u "I"), (0, .fieldref 189 196), (0, .nameAndType 197 198), (0, u "cache"), (0, u "[Ljava/lang/Integer;"), (0, .methodref 1 200), (0, .nameAndType 67 201), (0, u "(I)V"), (0, .methodref 203 100), (0, .class_ 204), (0, u "java/lang/Number"), (0, .fieldref 1 206), (0, .nameAndType 207 194), (0, u "value"), (94, u "TYPE"), (0, u "Ljava/lang/Class;"), (0, .class_ 305), (0, u "java/lang/Comparable"), (0, .class_ 307), (0, u "java/lang/constant/Constable"), (0, .class_ 309), (0, u "java/lang/constant/ConstantDesc"), (0, u "MIN_VALUE"), (1, u "MAX_VALUE"), (3, u "SIZE"), (1, u "BYTES"), (1, u "serialVersionUID"), (0, u "J")] 131

def k10c0 : Code := { maxStack := 3, maxLocals := 1, code := jdk_33_method_22_code, exceptionTable := #[], attributes := #[] }
def k10m0 : Method := { name := "valueOf", desc := "(I)Ljava/lang/Integer;", sig := { parameters := [.int], returnType := some (.object "java/lang/Integer") }, accessFlags := 9, code := some k10c0 }
def k10c1 : Code := { maxStack := 2, maxLocals := 2, code := jdk_33_method_23_code, exceptionTable := #[], attributes := #[] }
def k10m1 : Method := { name := "<init>", desc := "(I)V", sig := { parameters := [.int], returnType := none }, accessFlags := 1, code := some k10c1 }
/-- java/lang/Integer -/
def k10 : Class := { plain "java/lang/Integer" (some 9) with
  accessFlags := 49
  interfaces := #[3, 5, 6]
  cf := some (fileOf pool10 1 #[.nestMembers #[189]] #[{ accessFlags := 9, nameIndex := 187, descriptorIndex := 188, attributes := #[] }, { accessFlags := 1, nameIndex := 67, descriptorIndex := 201, attributes := #[] }] 49 203 #[304, 306, 308] #[{ accessFlags := 25, nameIndex := 310, descriptorIndex := 194, attributes := #[] }, { accessFlags := 25, nameIndex := 312, descriptorIndex := 194, attributes := #[] }, { accessFlags := 25, nameIndex := 302, descriptorIndex := 303, attributes := #[] }, { accessFlags := 24, nameIndex := 19, descriptorIndex := 20, attributes := #[] }, { accessFlags := 24, nameIndex := 89, descriptorIndex := 86, attributes := #[] }, { accessFlags := 24, nameIndex := 85, descriptorIndex := 86, attributes := #[] }, { accessFlags := 18, nameIndex := 207, descriptorIndex := 194, attributes := #[] }, { accessFlags := 25, nameIndex := 316, descriptorIndex := 194, attributes := #[] }, { accessFlags := 25, nameIndex := 318, descriptorIndex := 194, attributes := #[] }, { accessFlags := 26, nameIndex := 320, descriptorIndex := 321, attributes := #[] }])
  fields := #[{ name := "MIN_VALUE", type := .int, accessFlags := 25, slot := 0, constantValue := 0 }, { name := "MAX_VALUE", type := .int, accessFlags := 25, slot := 1, constantValue := 0 }, { name := "TYPE", type := (.object "java/lang/Class"), accessFlags := 25, slot := 2, constantValue := 0 }, { name := "digits", type := (.array .char), accessFlags := 24, slot := 3, constantValue := 0 }, { name := "DigitTens", type := (.array .byte), accessFlags := 24, slot := 4, constantValue := 0 }, { name := "DigitOnes", type := (.array .byte), accessFlags := 24, slot := 5, constantValue := 0 }, { name := "value", type := .int, accessFlags := 18, slot := 0, constantValue := 0 }, { name := "SIZE", type := .int, accessFlags := 25, slot := 6, constantValue := 0 }, { name := "BYTES", type := .int, accessFlags := 25, slot := 7, constantValue := 0 }, { name := "serialVersionUID", type := .long, accessFlags := 26, slot := 8, constantValue := 0 }]
  methods := #[k10m0, k10m1]
  instanceTypes := #[.int]
  staticTypes := #[.int, .int, (.object "java/lang/Class"), (.array .char), (.array .byte), (.array .byte), .int, .int, .long]
  resolved := Array.replicate 453 none
  statics := none }

def pool11 : Array CpInfo := pool [(2, .class_ 4), (1, u "java/lang/Object"), (0, u "<init>"), (0, u "()V"), (0, .class_ 8), (0, u "java/lang/Integer"), (7, .class_ 18), (1, u "java/lang/Integer$IntegerCache"), (0, u "$assertionsDisabled"), (0, u "Z"), (26, u "high"), (0, u "I"), (8, u "archivedCache"), (0, u "[Ljava/lang/Integer;"), (12, u "cache"), (0, u "low")] 27

def k11m0 : Method := { name := "<init>", desc := "()V", sig := { parameters := [], returnType := none }, accessFlags := 2, code := none }
/-- java/lang/Integer$IntegerCache -/
def k11 : Class := { plain "java/lang/Integer$IntegerCache" (some 0) with
  accessFlags := 48
  interfaces := #[]
  cf := some (fileOf pool11 16 #[.nestHost 7] #[{ accessFlags := 2, nameIndex := 5, descriptorIndex := 6, attributes := #[] }] 48 2 #[] #[{ accessFlags := 24, nameIndex := 72, descriptorIndex := 48, attributes := #[] }, { accessFlags := 24, nameIndex := 47, descriptorIndex := 48, attributes := #[] }, { accessFlags := 24, nameIndex := 71, descriptorIndex := 58, attributes := #[] }, { accessFlags := 8, nameIndex := 57, descriptorIndex := 58, attributes := #[] }, { accessFlags := 4120, nameIndex := 19, descriptorIndex := 20, attributes := #[] }])
  fields := #[{ name := "low", type := .int, accessFlags := 24, slot := 0, constantValue := 0 }, { name := "high", type := .int, accessFlags := 24, slot := 1, constantValue := 0 }, { name := "cache", type := (.array (.object "java/lang/Integer")), accessFlags := 24, slot := 2, constantValue := 0 }, { name := "archivedCache", type := (.array (.object "java/lang/Integer")), accessFlags := 8, slot := 3, constantValue := 0 }, { name := "$assertionsDisabled", type := .boolean, accessFlags := 4120, slot := 4, constantValue := 0 }]
  methods := #[k11m0]
  instanceTypes := #[]
  staticTypes := #[.int, .int, (.array (.object "java/lang/Integer")), (.array (.object "java/lang/Integer")), .boolean]
  resolved := Array.replicate 100 none
  statics := some 1 }

def pool12 : Array CpInfo := pool [(1, .methodref 2 3), (0, .class_ 4), (0, .nameAndType 5 6), (0, u "java/lang/Object"), (0, u "<init>"), (0, u "()V"), (0, .class_ 8), (0, u "java/lang/Record")] 13

def k12c0 : Code := { maxStack := 1, maxLocals := 1, code := jdk_30_method_1_code, exceptionTable := #[], attributes := #[] }
def k12m0 : Method := { name := "<init>", desc := "()V", sig := { parameters := [], returnType := none }, accessFlags := 4, code := some k12c0 }
/-- java/lang/Record -/
def k12 : Class := { plain "java/lang/Record" (some 0) with
  accessFlags := 1057
  interfaces := #[]
  cf := some (fileOf pool12 7 #[] #[{ accessFlags := 4, nameIndex := 5, descriptorIndex := 6, attributes := #[] }] 1057 2 #[] #[])
  fields := #[]
  methods := #[k12m0]
  instanceTypes := #[]
  staticTypes := #[]
  resolved := Array.replicate 22 none
  statics := none }

def pool13 : Array CpInfo := pool [(1, .methodref 2 3), (0, .class_ 4), (0, .nameAndType 5 6), (0, u "java/lang/Record"), (0, u "<init>"), (0, u "()V"), (0, .fieldref 8 9), (0, .class_ 10), (0, .nameAndType 11 12), (0, u "com/example/mayes/mayes/UnmarkedValue"), (0, u "value"), (0, u "Ljava/lang/Object;"), (12, u "(Ljava/lang/Object;)V"), (3, u "heldBy"), (0, u "(Ljava/lang/Object;)Ljava/lang/Object;")] 26

def k13c0 : Code := { maxStack := 2, maxLocals := 2, code := prog_95_method_1_code, exceptionTable := #[], attributes := #[] }
def k13m0 : Method := { name := "<init>", desc := "(Ljava/lang/Object;)V", sig := { parameters := [(.object "java/lang/Object")], returnType := none }, accessFlags := 0, code := some k13c0 }
def k13c1 : Code := { maxStack := 1, maxLocals := 2, code := prog_95_method_2_code, exceptionTable := #[], attributes := #[] }
def k13m1 : Method := { name := "heldBy", desc := "(Ljava/lang/Object;)Ljava/lang/Object;", sig := { parameters := [(.object "java/lang/Object")], returnType := some (.object "java/lang/Object") }, accessFlags := 8, code := some k13c1 }
/-- com/example/mayes/mayes/UnmarkedValue -/
def k13 : Class := { plain "com/example/mayes/mayes/UnmarkedValue" (some 12) with
  accessFlags := 48
  interfaces := #[]
  cf := some (fileOf pool13 8 #[] #[{ accessFlags := 0, nameIndex := 5, descriptorIndex := 25, attributes := #[] }, { accessFlags := 8, nameIndex := 29, descriptorIndex := 30, attributes := #[] }] 48 2 #[] #[{ accessFlags := 18, nameIndex := 11, descriptorIndex := 12, attributes := #[] }])
  fields := #[{ name := "value", type := (.object "java/lang/Object"), accessFlags := 18, slot := 0, constantValue := 0 }]
  methods := #[k13m0, k13m1]
  instanceTypes := #[(.object "java/lang/Object")]
  staticTypes := #[]
  resolved := Array.replicate 57 none
  statics := none }

def pool14 : Array CpInfo := pool [(4, .class_ 6), (1, u "java/lang/Object"), (0, u "<init>"), (0, u "()V"), (5, .class_ 16), (1, u "java/lang/StringLatin1"), (104, u "$assertionsDisabled"), (0, u "Z"), (98, .class_ 223), (1, u "java/lang/StringLatin1$LinesSpliterator"), (166, .class_ 391), (0, u "java/lang/StringLatin1$CharsSpliterator")] 3

def k14m0 : Method := { name := "<init>", desc := "()V", sig := { parameters := [], returnType := none }, accessFlags := 0, code := none }
/-- java/lang/StringLatin1 -/
def k14 : Class := { plain "java/lang/StringLatin1" (some 0) with
  accessFlags := 48
  interfaces := #[]
  cf := some (fileOf pool14 14 #[.nestMembers #[390, 221]] #[{ accessFlags := 0, nameIndex := 7, descriptorIndex := 8, attributes := #[] }] 48 4 #[] #[{ accessFlags := 4120, nameIndex := 121, descriptorIndex := 122, attributes := #[] }])
  fields := #[{ name := "$assertionsDisabled", type := .boolean, accessFlags := 4120, slot := 0, constantValue := 0 }]
  methods := #[k14m0]
  instanceTypes := #[]
  staticTypes := #[.boolean]
  resolved := Array.replicate 395 none
  statics := none }

def pool15 : Array CpInfo := pool [(2, .class_ 4), (1, u "java/lang/Object"), (0, u "<init>"), (0, u "()V"), (17, .class_ 26), (1, u "jdk/internal/util/Preconditions"), (28, .class_ 56), (0, u "jdk/internal/util/Preconditions$4"), (57, .class_ 115), (0, u "jdk/internal/util/Preconditions$1"), (7, u "SIOOBE_FORMATTER"), (0, u "Ljava/util/function/BiFunction;"), (0, .class_ 126), (0, u "jdk/internal/util/Preconditions$2"), (3, u "AIOOBE_FORMATTER"), (0, .class_ 132), (0, u "jdk/internal/util/Preconditions$3"), (3, u "IOOBE_FORMATTER")] 57

def k15m0 : Method := { name := "<init>", desc := "()V", sig := { parameters := [], returnType := none }, accessFlags := 1, code := none }
/-- jdk/internal/util/Preconditions -/
def k15 : Class := { plain "jdk/internal/util/Preconditions" (some 0) with
  accessFlags := 33
  interfaces := #[]
  cf := some (fileOf pool15 24 #[.nestMembers #[55, 131, 125, 114]] #[{ accessFlags := 1, nameIndex := 5, descriptorIndex := 6, attributes := #[] }] 33 2 #[] #[{ accessFlags := 25, nameIndex := 123, descriptorIndex := 124, attributes := #[] }, { accessFlags := 25, nameIndex := 130, descriptorIndex := 124, attributes := #[] }, { accessFlags := 25, nameIndex := 136, descriptorIndex := 124, attributes := #[] }])
  fields := #[{ name := "SIOOBE_FORMATTER", type := (.object "java/util/function/BiFunction"), accessFlags := 25, slot := 0, constantValue := 0 }, { name := "AIOOBE_FORMATTER", type := (.object "java/util/function/BiFunction"), accessFlags := 25, slot := 1, constantValue := 0 }, { name := "IOOBE_FORMATTER", type := (.object "java/util/function/BiFunction"), accessFlags := 25, slot := 2, constantValue := 0 }]
  methods := #[k15m0]
  instanceTypes := #[]
  staticTypes := #[(.object "java/util/function/BiFunction"), (.object "java/util/function/BiFunction"), (.object "java/util/function/BiFunction")]
  resolved := Array.replicate 194 none
  statics := some 2 }

def pool16 : Array CpInfo := pool [(9, u "<init>"), (6, .class_ 18), (1, u "java/lang/Object"), (0, u "()V"), (1, .class_ 23), (1, u "jdk/internal/util/ArraysSupport"), (0, u "LOG2_ARRAY_LONG_INDEX_SCALE"), (0, u "I"), (2, u "U"), (0, u "Ljdk/internal/misc/Unsafe;"), (8, u "BIG_ENDIAN"), (0, u "Z"), (8, u "LOG2_BYTE_BIT_SIZE"), (4, u "LOG2_ARRAY_INT_INDEX_SCALE"), (54, u "JLA"), (0, u "Ljdk/internal/access/JavaLangAccess;"), (11, u "LOG2_ARRAY_BOOLEAN_INDEX_SCALE"), (9, u "LOG2_ARRAY_BYTE_INDEX_SCALE"), (5, u "LOG2_ARRAY_CHAR_INDEX_SCALE"), (5, u "LOG2_ARRAY_SHORT_INDEX_SCALE"), (18, u "LOG2_ARRAY_FLOAT_INDEX_SCALE"), (24, u "LOG2_ARRAY_DOUBLE_INDEX_SCALE"), (89, u "T_BOOLEAN"), (2, u "T_CHAR"), (1, u "T_FLOAT"), (1, u "T_DOUBLE"), (1, u "T_BYTE"), (1, u "T_SHORT"), (1, u "T_INT"), (1, u "T_LONG"), (1, u "SOFT_MAX_ARRAY_LENGTH")] 83

def k16m0 : Method := { name := "<init>", desc := "()V", sig := { parameters := [], returnType := none }, accessFlags := 2, code := none }
/-- jdk/internal/util/ArraysSupport -/
def k16 : Class := { plain "jdk/internal/util/ArraysSupport" (some 0) with
  accessFlags := 33
  interfaces := #[]
  cf := some (fileOf pool16 21 #[] #[{ accessFlags := 2, nameIndex := 9, descriptorIndex := 19, attributes := #[] }] 33 16 #[] #[{ accessFlags := 24, nameIndex := 28, descriptorIndex := 29, attributes := #[] }, { accessFlags := 26, nameIndex := 38, descriptorIndex := 39, attributes := #[] }, { accessFlags := 25, nameIndex := 121, descriptorIndex := 25, attributes := #[] }, { accessFlags := 25, nameIndex := 131, descriptorIndex := 25, attributes := #[] }, { accessFlags := 25, nameIndex := 137, descriptorIndex := 25, attributes := #[] }, { accessFlags := 25, nameIndex := 143, descriptorIndex := 25, attributes := #[] }, { accessFlags := 25, nameIndex := 53, descriptorIndex := 25, attributes := #[] }, { accessFlags := 25, nameIndex := 24, descriptorIndex := 25, attributes := #[] }, { accessFlags := 25, nameIndex := 162, descriptorIndex := 25, attributes := #[] }, { accessFlags := 25, nameIndex := 187, descriptorIndex := 25, attributes := #[] }, { accessFlags := 26, nameIndex := 48, descriptorIndex := 25, attributes := #[] }, { accessFlags := 25, nameIndex := 277, descriptorIndex := 25, attributes := #[] }, { accessFlags := 25, nameIndex := 280, descriptorIndex := 25, attributes := #[] }, { accessFlags := 25, nameIndex := 282, descriptorIndex := 25, attributes := #[] }, { accessFlags := 25, nameIndex := 284, descriptorIndex := 25, attributes := #[] }, { accessFlags := 25, nameIndex := 286, descriptorIndex := 25, attributes := #[] }, { accessFlags := 25, nameIndex := 288, descriptorIndex := 25, attributes := #[] }, { accessFlags := 25, nameIndex := 290, descriptorIndex := 25, attributes := #[] }, { accessFlags := 25, nameIndex := 292, descriptorIndex := 25, attributes := #[] }, { accessFlags := 26, nameIndex := 108, descriptorIndex := 109, attributes := #[] }, { accessFlags := 25, nameIndex := 294, descriptorIndex := 25, attributes := #[] }])
  fields := #[{ name := "U", type := (.object "jdk/internal/misc/Unsafe"), accessFlags := 24, slot := 0, constantValue := 0 }, { name := "BIG_ENDIAN", type := .boolean, accessFlags := 26, slot := 1, constantValue := 0 }, { name := "LOG2_ARRAY_BOOLEAN_INDEX_SCALE", type := .int, accessFlags := 25, slot := 2, constantValue := 0 }, { name := "LOG2_ARRAY_BYTE_INDEX_SCALE", type := .int, accessFlags := 25, slot := 3, constantValue := 0 }, { name := "LOG2_ARRAY_CHAR_INDEX_SCALE", type := .int, accessFlags := 25, slot := 4, constantValue := 0 }, { name := "LOG2_ARRAY_SHORT_INDEX_SCALE", type := .int, accessFlags := 25, slot := 5, constantValue := 0 }, { name := "LOG2_ARRAY_INT_INDEX_SCALE", type := .int, accessFlags := 25, slot := 6, constantValue := 0 }, { name := "LOG2_ARRAY_LONG_INDEX_SCALE", type := .int, accessFlags := 25, slot := 7, constantValue := 0 }, { name := "LOG2_ARRAY_FLOAT_INDEX_SCALE", type := .int, accessFlags := 25, slot := 8, constantValue := 0 }, { name := "LOG2_ARRAY_DOUBLE_INDEX_SCALE", type := .int, accessFlags := 25, slot := 9, constantValue := 0 }, { name := "LOG2_BYTE_BIT_SIZE", type := .int, accessFlags := 26, slot := 10, constantValue := 0 }, { name := "T_BOOLEAN", type := .int, accessFlags := 25, slot := 11, constantValue := 0 }, { name := "T_CHAR", type := .int, accessFlags := 25, slot := 12, constantValue := 0 }, { name := "T_FLOAT", type := .int, accessFlags := 25, slot := 13, constantValue := 0 }, { name := "T_DOUBLE", type := .int, accessFlags := 25, slot := 14, constantValue := 0 }, { name := "T_BYTE", type := .int, accessFlags := 25, slot := 15, constantValue := 0 }, { name := "T_SHORT", type := .int, accessFlags := 25, slot := 16, constantValue := 0 }, { name := "T_INT", type := .int, accessFlags := 25, slot := 17, constantValue := 0 }, { name := "T_LONG", type := .int, accessFlags := 25, slot := 18, constantValue := 0 }, { name := "JLA", type := (.object "jdk/internal/access/JavaLangAccess"), accessFlags := 26, slot := 19, constantValue := 0 }, { name := "SOFT_MAX_ARRAY_LENGTH", type := .int, accessFlags := 25, slot := 20, constantValue := 0 }]
  methods := #[k16m0]
  instanceTypes := #[]
  staticTypes := #[(.object "jdk/internal/misc/Unsafe"), .boolean, .int, .int, .int, .int, .int, .int, .int, .int, .int, .int, .int, .int, .int, .int, .int, .int, .int, (.object "jdk/internal/access/JavaLangAccess"), .int]
  resolved := Array.replicate 378 none
  statics := none }

def pool17 : Array CpInfo := pool [(1, u "java/lang/Cloneable"), (0, .class_ 1), (0, u "java/lang/Object"), (0, .class_ 3)] 3

/-- java/lang/Cloneable -/
def k17 : Class := { plain "java/lang/Cloneable" (some 0) with
  accessFlags := 1537
  interfaces := #[]
  cf := some (fileOf pool17 2 #[] #[] 1537 4 #[] #[])
  fields := #[]
  methods := #[]
  instanceTypes := #[]
  staticTypes := #[]
  resolved := Array.replicate 8 none
  statics := none }

/-- the primitive byte -/
def k18 : Class := { plain "byte" none with kind := .primitive 'B', accessFlags := 0x411 }
/-- [B -/
def k19 : Class := { plain "[B" (some 0) with kind := .array 18 .byte, interfaces := #[17, 2], accessFlags := 1041 }

/-- the primitive char -/
def k20 : Class := { plain "char" none with kind := .primitive 'C', accessFlags := 0x411 }
/-- [C -/
def k21 : Class := { plain "[C" (some 0) with kind := .array 20 .char, interfaces := #[17, 2], accessFlags := 1041 }

/-- the primitive int -/
def k22 : Class := { plain "int" none with kind := .primitive 'I', accessFlags := 0x411 }
/-- [I -/
def k23 : Class := { plain "[I" (some 0) with kind := .array 22 .int, interfaces := #[17, 2], accessFlags := 1041 }

/-- [Ljava/lang/Integer; -/
def k24 : Class := { plain "[Ljava/lang/Integer;" (some 0) with kind := .array 10 (.object "java/lang/Integer"), interfaces := #[17, 2], accessFlags := 1041 }

def heap : Heap := #[{ cls := 7, slots := #[.long 0, .int 1, .null, .int 0, .null, .int 0, .int 0], vm := .statics 7 },
  { cls := 11, slots := #[.int 0, .int 127, .ref 3, .null, .int 0], vm := .statics 11 },
  { cls := 15, slots := #[.null, .null, .null], vm := .statics 15 },
  { cls := 24, slots := #[.ref 4, .ref 5, .ref 6, .ref 7, .ref 8, .ref 9, .ref 10, .ref 11, .ref 12, .ref 13, .ref 14, .ref 15, .ref 16, .ref 17, .ref 18, .ref 19, .ref 20, .ref 21, .ref 22, .ref 23, .ref 24, .ref 25, .ref 26, .ref 27, .ref 28, .ref 29, .ref 30, .ref 31, .ref 32, .ref 33, .ref 34, .ref 35, .ref 36, .ref 37, .ref 38, .ref 39, .ref 40, .ref 41, .ref 42, .ref 43, .ref 44, .ref 45, .ref 46, .ref 47, .ref 48, .ref 49, .ref 50, .ref 51, .ref 52, .ref 53, .ref 54, .ref 55, .ref 56, .ref 57, .ref 58, .ref 59, .ref 60, .ref 61, .ref 62, .ref 63, .ref 64, .ref 65, .ref 66, .ref 67, .ref 68, .ref 69, .ref 70, .ref 71, .ref 72, .ref 73, .ref 74, .ref 75, .ref 76, .ref 77, .ref 78, .ref 79, .ref 80, .ref 81, .ref 82, .ref 83, .ref 84, .ref 85, .ref 86, .ref 87, .ref 88, .ref 89, .ref 90, .ref 91, .ref 92, .ref 93, .ref 94, .ref 95, .ref 96, .ref 97, .ref 98, .ref 99, .ref 100, .ref 101, .ref 102, .ref 103, .ref 104, .ref 105, .ref 106, .ref 107, .ref 108, .ref 109, .ref 110, .ref 111, .ref 112, .ref 113, .ref 114, .ref 115, .ref 116, .ref 117, .ref 118, .ref 119, .ref 120, .ref 121, .ref 122, .ref 123, .ref 124, .ref 125, .ref 126, .ref 127, .ref 128, .ref 129, .ref 130, .ref 131, .ref 132, .ref 133, .ref 134, .ref 135, .ref 136, .ref 137, .ref 138, .ref 139, .ref 140, .ref 141, .ref 142, .ref 143, .ref 144, .ref 145, .ref 146, .ref 147, .ref 148, .ref 149, .ref 150, .ref 151, .ref 152, .ref 153, .ref 154, .ref 155, .ref 156, .ref 157, .ref 158, .ref 159, .ref 160, .ref 161, .ref 162, .ref 163, .ref 164, .ref 165, .ref 166, .ref 167, .ref 168, .ref 169, .ref 170, .ref 171, .ref 172, .ref 173, .ref 174, .ref 175, .ref 176, .ref 177, .ref 178, .ref 179, .ref 180, .ref 181, .ref 182, .ref 183, .ref 184, .ref 185, .ref 186, .ref 187, .ref 188, .ref 189, .ref 190, .ref 191, .ref 192, .ref 193, .ref 194, .ref 195, .ref 196, .ref 197, .ref 198, .ref 199, .ref 200, .ref 201, .ref 202, .ref 203, .ref 204, .ref 205, .ref 206, .ref 207, .ref 208, .ref 209, .ref 210, .ref 211, .ref 212, .ref 213, .ref 214, .ref 215, .ref 216, .ref 217, .ref 218, .ref 219, .ref 220, .ref 221, .ref 222, .ref 223, .ref 224, .ref 225, .ref 226, .ref 227, .ref 228, .ref 229, .ref 230, .ref 231, .ref 232, .ref 233, .ref 234, .ref 235, .ref 236, .ref 237, .ref 238, .ref 239, .ref 240, .ref 241, .ref 242, .ref 243, .ref 244, .ref 245, .ref 246, .ref 247, .ref 248, .ref 249, .ref 250, .ref 251, .ref 252, .ref 253, .ref 254, .ref 255, .ref 256, .ref 257, .ref 258, .ref 259], vm := .none },
  { cls := 10, slots := #[.int (-128)], vm := .none },
  { cls := 10, slots := #[.int (-127)], vm := .none },
  { cls := 10, slots := #[.int (-126)], vm := .none },
  { cls := 10, slots := #[.int (-125)], vm := .none },
  { cls := 10, slots := #[.int (-124)], vm := .none },
  { cls := 10, slots := #[.int (-123)], vm := .none },
  { cls := 10, slots := #[.int (-122)], vm := .none },
  { cls := 10, slots := #[.int (-121)], vm := .none },
  { cls := 10, slots := #[.int (-120)], vm := .none },
  { cls := 10, slots := #[.int (-119)], vm := .none },
  { cls := 10, slots := #[.int (-118)], vm := .none },
  { cls := 10, slots := #[.int (-117)], vm := .none },
  { cls := 10, slots := #[.int (-116)], vm := .none },
  { cls := 10, slots := #[.int (-115)], vm := .none },
  { cls := 10, slots := #[.int (-114)], vm := .none },
  { cls := 10, slots := #[.int (-113)], vm := .none },
  { cls := 10, slots := #[.int (-112)], vm := .none },
  { cls := 10, slots := #[.int (-111)], vm := .none },
  { cls := 10, slots := #[.int (-110)], vm := .none },
  { cls := 10, slots := #[.int (-109)], vm := .none },
  { cls := 10, slots := #[.int (-108)], vm := .none },
  { cls := 10, slots := #[.int (-107)], vm := .none },
  { cls := 10, slots := #[.int (-106)], vm := .none },
  { cls := 10, slots := #[.int (-105)], vm := .none },
  { cls := 10, slots := #[.int (-104)], vm := .none },
  { cls := 10, slots := #[.int (-103)], vm := .none },
  { cls := 10, slots := #[.int (-102)], vm := .none },
  { cls := 10, slots := #[.int (-101)], vm := .none },
  { cls := 10, slots := #[.int (-100)], vm := .none },
  { cls := 10, slots := #[.int (-99)], vm := .none },
  { cls := 10, slots := #[.int (-98)], vm := .none },
  { cls := 10, slots := #[.int (-97)], vm := .none },
  { cls := 10, slots := #[.int (-96)], vm := .none },
  { cls := 10, slots := #[.int (-95)], vm := .none },
  { cls := 10, slots := #[.int (-94)], vm := .none },
  { cls := 10, slots := #[.int (-93)], vm := .none },
  { cls := 10, slots := #[.int (-92)], vm := .none },
  { cls := 10, slots := #[.int (-91)], vm := .none },
  { cls := 10, slots := #[.int (-90)], vm := .none },
  { cls := 10, slots := #[.int (-89)], vm := .none },
  { cls := 10, slots := #[.int (-88)], vm := .none },
  { cls := 10, slots := #[.int (-87)], vm := .none },
  { cls := 10, slots := #[.int (-86)], vm := .none },
  { cls := 10, slots := #[.int (-85)], vm := .none },
  { cls := 10, slots := #[.int (-84)], vm := .none },
  { cls := 10, slots := #[.int (-83)], vm := .none },
  { cls := 10, slots := #[.int (-82)], vm := .none },
  { cls := 10, slots := #[.int (-81)], vm := .none },
  { cls := 10, slots := #[.int (-80)], vm := .none },
  { cls := 10, slots := #[.int (-79)], vm := .none },
  { cls := 10, slots := #[.int (-78)], vm := .none },
  { cls := 10, slots := #[.int (-77)], vm := .none },
  { cls := 10, slots := #[.int (-76)], vm := .none },
  { cls := 10, slots := #[.int (-75)], vm := .none },
  { cls := 10, slots := #[.int (-74)], vm := .none },
  { cls := 10, slots := #[.int (-73)], vm := .none },
  { cls := 10, slots := #[.int (-72)], vm := .none },
  { cls := 10, slots := #[.int (-71)], vm := .none },
  { cls := 10, slots := #[.int (-70)], vm := .none },
  { cls := 10, slots := #[.int (-69)], vm := .none },
  { cls := 10, slots := #[.int (-68)], vm := .none },
  { cls := 10, slots := #[.int (-67)], vm := .none },
  { cls := 10, slots := #[.int (-66)], vm := .none },
  { cls := 10, slots := #[.int (-65)], vm := .none },
  { cls := 10, slots := #[.int (-64)], vm := .none },
  { cls := 10, slots := #[.int (-63)], vm := .none },
  { cls := 10, slots := #[.int (-62)], vm := .none },
  { cls := 10, slots := #[.int (-61)], vm := .none },
  { cls := 10, slots := #[.int (-60)], vm := .none },
  { cls := 10, slots := #[.int (-59)], vm := .none },
  { cls := 10, slots := #[.int (-58)], vm := .none },
  { cls := 10, slots := #[.int (-57)], vm := .none },
  { cls := 10, slots := #[.int (-56)], vm := .none },
  { cls := 10, slots := #[.int (-55)], vm := .none },
  { cls := 10, slots := #[.int (-54)], vm := .none },
  { cls := 10, slots := #[.int (-53)], vm := .none },
  { cls := 10, slots := #[.int (-52)], vm := .none },
  { cls := 10, slots := #[.int (-51)], vm := .none },
  { cls := 10, slots := #[.int (-50)], vm := .none },
  { cls := 10, slots := #[.int (-49)], vm := .none },
  { cls := 10, slots := #[.int (-48)], vm := .none },
  { cls := 10, slots := #[.int (-47)], vm := .none },
  { cls := 10, slots := #[.int (-46)], vm := .none },
  { cls := 10, slots := #[.int (-45)], vm := .none },
  { cls := 10, slots := #[.int (-44)], vm := .none },
  { cls := 10, slots := #[.int (-43)], vm := .none },
  { cls := 10, slots := #[.int (-42)], vm := .none },
  { cls := 10, slots := #[.int (-41)], vm := .none },
  { cls := 10, slots := #[.int (-40)], vm := .none },
  { cls := 10, slots := #[.int (-39)], vm := .none },
  { cls := 10, slots := #[.int (-38)], vm := .none },
  { cls := 10, slots := #[.int (-37)], vm := .none },
  { cls := 10, slots := #[.int (-36)], vm := .none },
  { cls := 10, slots := #[.int (-35)], vm := .none },
  { cls := 10, slots := #[.int (-34)], vm := .none },
  { cls := 10, slots := #[.int (-33)], vm := .none },
  { cls := 10, slots := #[.int (-32)], vm := .none },
  { cls := 10, slots := #[.int (-31)], vm := .none },
  { cls := 10, slots := #[.int (-30)], vm := .none },
  { cls := 10, slots := #[.int (-29)], vm := .none },
  { cls := 10, slots := #[.int (-28)], vm := .none },
  { cls := 10, slots := #[.int (-27)], vm := .none },
  { cls := 10, slots := #[.int (-26)], vm := .none },
  { cls := 10, slots := #[.int (-25)], vm := .none },
  { cls := 10, slots := #[.int (-24)], vm := .none },
  { cls := 10, slots := #[.int (-23)], vm := .none },
  { cls := 10, slots := #[.int (-22)], vm := .none },
  { cls := 10, slots := #[.int (-21)], vm := .none },
  { cls := 10, slots := #[.int (-20)], vm := .none },
  { cls := 10, slots := #[.int (-19)], vm := .none },
  { cls := 10, slots := #[.int (-18)], vm := .none },
  { cls := 10, slots := #[.int (-17)], vm := .none },
  { cls := 10, slots := #[.int (-16)], vm := .none },
  { cls := 10, slots := #[.int (-15)], vm := .none },
  { cls := 10, slots := #[.int (-14)], vm := .none },
  { cls := 10, slots := #[.int (-13)], vm := .none },
  { cls := 10, slots := #[.int (-12)], vm := .none },
  { cls := 10, slots := #[.int (-11)], vm := .none },
  { cls := 10, slots := #[.int (-10)], vm := .none },
  { cls := 10, slots := #[.int (-9)], vm := .none },
  { cls := 10, slots := #[.int (-8)], vm := .none },
  { cls := 10, slots := #[.int (-7)], vm := .none },
  { cls := 10, slots := #[.int (-6)], vm := .none },
  { cls := 10, slots := #[.int (-5)], vm := .none },
  { cls := 10, slots := #[.int (-4)], vm := .none },
  { cls := 10, slots := #[.int (-3)], vm := .none },
  { cls := 10, slots := #[.int (-2)], vm := .none },
  { cls := 10, slots := #[.int (-1)], vm := .none },
  { cls := 10, slots := #[.int (0)], vm := .none },
  { cls := 10, slots := #[.int (1)], vm := .none },
  { cls := 10, slots := #[.int (2)], vm := .none },
  { cls := 10, slots := #[.int (3)], vm := .none },
  { cls := 10, slots := #[.int (4)], vm := .none },
  { cls := 10, slots := #[.int (5)], vm := .none },
  { cls := 10, slots := #[.int (6)], vm := .none },
  { cls := 10, slots := #[.int (7)], vm := .none },
  { cls := 10, slots := #[.int (8)], vm := .none },
  { cls := 10, slots := #[.int (9)], vm := .none },
  { cls := 10, slots := #[.int (10)], vm := .none },
  { cls := 10, slots := #[.int (11)], vm := .none },
  { cls := 10, slots := #[.int (12)], vm := .none },
  { cls := 10, slots := #[.int (13)], vm := .none },
  { cls := 10, slots := #[.int (14)], vm := .none },
  { cls := 10, slots := #[.int (15)], vm := .none },
  { cls := 10, slots := #[.int (16)], vm := .none },
  { cls := 10, slots := #[.int (17)], vm := .none },
  { cls := 10, slots := #[.int (18)], vm := .none },
  { cls := 10, slots := #[.int (19)], vm := .none },
  { cls := 10, slots := #[.int (20)], vm := .none },
  { cls := 10, slots := #[.int (21)], vm := .none },
  { cls := 10, slots := #[.int (22)], vm := .none },
  { cls := 10, slots := #[.int (23)], vm := .none },
  { cls := 10, slots := #[.int (24)], vm := .none },
  { cls := 10, slots := #[.int (25)], vm := .none },
  { cls := 10, slots := #[.int (26)], vm := .none },
  { cls := 10, slots := #[.int (27)], vm := .none },
  { cls := 10, slots := #[.int (28)], vm := .none },
  { cls := 10, slots := #[.int (29)], vm := .none },
  { cls := 10, slots := #[.int (30)], vm := .none },
  { cls := 10, slots := #[.int (31)], vm := .none },
  { cls := 10, slots := #[.int (32)], vm := .none },
  { cls := 10, slots := #[.int (33)], vm := .none },
  { cls := 10, slots := #[.int (34)], vm := .none },
  { cls := 10, slots := #[.int (35)], vm := .none },
  { cls := 10, slots := #[.int (36)], vm := .none },
  { cls := 10, slots := #[.int (37)], vm := .none },
  { cls := 10, slots := #[.int (38)], vm := .none },
  { cls := 10, slots := #[.int (39)], vm := .none },
  { cls := 10, slots := #[.int (40)], vm := .none },
  { cls := 10, slots := #[.int (41)], vm := .none },
  { cls := 10, slots := #[.int (42)], vm := .none },
  { cls := 10, slots := #[.int (43)], vm := .none },
  { cls := 10, slots := #[.int (44)], vm := .none },
  { cls := 10, slots := #[.int (45)], vm := .none },
  { cls := 10, slots := #[.int (46)], vm := .none },
  { cls := 10, slots := #[.int (47)], vm := .none },
  { cls := 10, slots := #[.int (48)], vm := .none },
  { cls := 10, slots := #[.int (49)], vm := .none },
  { cls := 10, slots := #[.int (50)], vm := .none },
  { cls := 10, slots := #[.int (51)], vm := .none },
  { cls := 10, slots := #[.int (52)], vm := .none },
  { cls := 10, slots := #[.int (53)], vm := .none },
  { cls := 10, slots := #[.int (54)], vm := .none },
  { cls := 10, slots := #[.int (55)], vm := .none },
  { cls := 10, slots := #[.int (56)], vm := .none },
  { cls := 10, slots := #[.int (57)], vm := .none },
  { cls := 10, slots := #[.int (58)], vm := .none },
  { cls := 10, slots := #[.int (59)], vm := .none },
  { cls := 10, slots := #[.int (60)], vm := .none },
  { cls := 10, slots := #[.int (61)], vm := .none },
  { cls := 10, slots := #[.int (62)], vm := .none },
  { cls := 10, slots := #[.int (63)], vm := .none },
  { cls := 10, slots := #[.int (64)], vm := .none },
  { cls := 10, slots := #[.int (65)], vm := .none },
  { cls := 10, slots := #[.int (66)], vm := .none },
  { cls := 10, slots := #[.int (67)], vm := .none },
  { cls := 10, slots := #[.int (68)], vm := .none },
  { cls := 10, slots := #[.int (69)], vm := .none },
  { cls := 10, slots := #[.int (70)], vm := .none },
  { cls := 10, slots := #[.int (71)], vm := .none },
  { cls := 10, slots := #[.int (72)], vm := .none },
  { cls := 10, slots := #[.int (73)], vm := .none },
  { cls := 10, slots := #[.int (74)], vm := .none },
  { cls := 10, slots := #[.int (75)], vm := .none },
  { cls := 10, slots := #[.int (76)], vm := .none },
  { cls := 10, slots := #[.int (77)], vm := .none },
  { cls := 10, slots := #[.int (78)], vm := .none },
  { cls := 10, slots := #[.int (79)], vm := .none },
  { cls := 10, slots := #[.int (80)], vm := .none },
  { cls := 10, slots := #[.int (81)], vm := .none },
  { cls := 10, slots := #[.int (82)], vm := .none },
  { cls := 10, slots := #[.int (83)], vm := .none },
  { cls := 10, slots := #[.int (84)], vm := .none },
  { cls := 10, slots := #[.int (85)], vm := .none },
  { cls := 10, slots := #[.int (86)], vm := .none },
  { cls := 10, slots := #[.int (87)], vm := .none },
  { cls := 10, slots := #[.int (88)], vm := .none },
  { cls := 10, slots := #[.int (89)], vm := .none },
  { cls := 10, slots := #[.int (90)], vm := .none },
  { cls := 10, slots := #[.int (91)], vm := .none },
  { cls := 10, slots := #[.int (92)], vm := .none },
  { cls := 10, slots := #[.int (93)], vm := .none },
  { cls := 10, slots := #[.int (94)], vm := .none },
  { cls := 10, slots := #[.int (95)], vm := .none },
  { cls := 10, slots := #[.int (96)], vm := .none },
  { cls := 10, slots := #[.int (97)], vm := .none },
  { cls := 10, slots := #[.int (98)], vm := .none },
  { cls := 10, slots := #[.int (99)], vm := .none },
  { cls := 10, slots := #[.int (100)], vm := .none },
  { cls := 10, slots := #[.int (101)], vm := .none },
  { cls := 10, slots := #[.int (102)], vm := .none },
  { cls := 10, slots := #[.int (103)], vm := .none },
  { cls := 10, slots := #[.int (104)], vm := .none },
  { cls := 10, slots := #[.int (105)], vm := .none },
  { cls := 10, slots := #[.int (106)], vm := .none },
  { cls := 10, slots := #[.int (107)], vm := .none },
  { cls := 10, slots := #[.int (108)], vm := .none },
  { cls := 10, slots := #[.int (109)], vm := .none },
  { cls := 10, slots := #[.int (110)], vm := .none },
  { cls := 10, slots := #[.int (111)], vm := .none },
  { cls := 10, slots := #[.int (112)], vm := .none },
  { cls := 10, slots := #[.int (113)], vm := .none },
  { cls := 10, slots := #[.int (114)], vm := .none },
  { cls := 10, slots := #[.int (115)], vm := .none },
  { cls := 10, slots := #[.int (116)], vm := .none },
  { cls := 10, slots := #[.int (117)], vm := .none },
  { cls := 10, slots := #[.int (118)], vm := .none },
  { cls := 10, slots := #[.int (119)], vm := .none },
  { cls := 10, slots := #[.int (120)], vm := .none },
  { cls := 10, slots := #[.int (121)], vm := .none },
  { cls := 10, slots := #[.int (122)], vm := .none },
  { cls := 10, slots := #[.int (123)], vm := .none },
  { cls := 10, slots := #[.int (124)], vm := .none },
  { cls := 10, slots := #[.int (125)], vm := .none },
  { cls := 10, slots := #[.int (126)], vm := .none },
  { cls := 10, slots := #[.int (127)], vm := .none }]
def classes : Array Class := #[k0, k1, k2, k3, k4, k5, k6, k7, k8, k9, k10, k11, k12, k13, k14, k15, k16, k17, k18, k19, k20, k21, k22, k23, k24]
def interned : List (Array UInt16 × Addr) := []
def slotsUsed : Nat := 527
def theMethod : MethodId := ⟨1, 1⟩
def args0 : Array Value := #[.int 5, .int 3, .int 2]
def aboutOver (below : List Frame) : State where
  vm := { classes := classes, interned := interned.toArray }
  heap := heap
  slotsUsed := slotsUsed
  threads := #[{ frames := .invoking theMethod args0 :: below }]
def below0 : List Frame := [.native { method := ⟨0, 0⟩, args := #[] }]
def about1 : State := aboutOver below0
def p0 : Program := .bare "" "" ""
def e0 : Env := launch0.env 0 0 0
theorem w_frames : about1.frames = Frame.invoking theMethod args0 :: below0 := rfl
set_option maxRecDepth 65536 in
theorem w_args : argsFit about1.vm theMethod args0 = true := by decide +kernel
set_option maxRecDepth 65536 in
theorem w_heap : heapFits about1 = true := by decide +kernel
set_option maxRecDepth 65536 in
theorem w_runnable : about1.curStatus? = some .runnable := by decide +kernel
set_option maxRecDepth 65536 in
theorem w_alone : about1.alone = true := by decide +kernel
set_option maxRecDepth 65536 in
theorem w_named : about1.methodNamed? x = some theMethod := by decide +kernel
set_option maxRecDepth 65536 in
theorem w_hears : about1.hears theMethod below0 = true := by decide +kernel
set_option maxRecDepth 65536 in
theorem w_ripe : about1.ripe theMethod args0 below0 = true := by decide +kernel
theorem w_running : about1.status = .running := rfl
set_option maxRecDepth 65536 in
theorem w_room : about1.hasRoom e0.platform room_1 = true :=
  launch0.hasRoom_least _ room_1 (by decide +kernel) (by decide +kernel) (by decide +kernel) (by decide +kernel) (by decide +kernel) (by decide +kernel)
theorem allAtoms_all (ts : List Jvm.Cond) (a : Array Jvm.Value) (st : Jvm.State) : (allAtoms ts).before a st = ts.all (fun c => c.before a st) := by
  induction ts with
  | nil => rfl
  | cons c t ih =>
    show (Jvm.Cond.and c (allAtoms t)).before a st = _
    rw [Jvm.Cond.before_and, ih, List.all_cons]
def words1 : List Jvm.Cond := Jvm.Cond.code x code maxLocals ret :: tables_1
/-- a 'code' word, met by the world's own term for the bytes: nothing is compared byte by byte -/
theorem code_word {y : MethodName} {bytes : ByteArray} {mx : Nat} {rt : Option FieldType} {a : Array Value} {s : State} {m : MethodId} {meth : Method} {c : Code} (h1 : s.methodNamed? y = some m) (h2 : s.vm.method? m = some meth) (h3 : meth.code = some c) (h4 : c.code = bytes)
    (h5 : (c.maxLocals == mx && c.exceptionTable.isEmpty && decide (c.maxStack ≤ mostOperands) && decide (meth.sig.returnType = rt) && !meth.locks && decide (parseMethodDescriptor y.desc = some meth.sig)) = true) : (Jvm.Cond.code y bytes mx rt).before a s = true := by
  simp only [Bool.and_eq_true, beq_iff_eq, Bool.not_eq_true', decide_eq_true_eq] at h5
  obtain ⟨⟨⟨⟨⟨g1, g2⟩, g3⟩, g4⟩, g5⟩, g6⟩ := h5
  simp [Cond.before, Cond.holds, Cond.value, h1, h2, h3, h4, g1, g2, g3, g4, g5, g6]
def isCode : Jvm.Cond → Bool
  | .code _ _ _ _ => true
  | _ => false
theorem all_split {L : List Jvm.Cond} {P : Jvm.Cond → Bool} (h1 : L.all (fun c => isCode c || P c) = true) (h2 : ∀ c ∈ L.filter isCode, P c = true) : L.all P = true := by
  refine List.all_eq_true.mpr fun c hc => ?_
  have h := List.all_eq_true.mp h1 c hc
  rcases Bool.eq_false_or_eq_true (isCode c) with hi | hi
  · exact h2 c (List.mem_filter.mpr ⟨hc, hi⟩)
  · simpa [hi] using h
set_option maxRecDepth 65536 in
theorem w_c0 : (Jvm.Cond.code x code maxLocals ret).before args0 about1 = true := code_word (m := ⟨1, 1⟩) (meth := k1m1) (c := k1c1) (by decide +kernel) rfl rfl rfl (by decide +kernel)
set_option maxRecDepth 65536 in
theorem w_c1 : (Jvm.Cond.code ({ cls := "java/lang/String", name := "<init>", desc := "([C)V" } : Jvm.MethodName) jdk_42_method_3_code (2 : Nat) (Option.none : Option Jvm.ClassFile.FieldType)).before args0 about1 = true := code_word (m := ⟨7, 1⟩) (meth := k7m1) (c := k7c1) (by decide +kernel) rfl rfl rfl (by decide +kernel)
set_option maxRecDepth 65536 in
theorem w_c2 : (Jvm.Cond.code ({ cls := "java/lang/String", name := "<init>", desc := "([CIILjava/lang/Void;)V" } : Jvm.MethodName) jdk_42_method_149_code (6 : Nat) (Option.none : Option Jvm.ClassFile.FieldType)).before args0 about1 = true := code_word (m := ⟨7, 2⟩) (meth := k7m2) (c := k7c2) (by decide +kernel) rfl rfl rfl (by decide +kernel)
set_option maxRecDepth 65536 in
theorem w_c3 : (Jvm.Cond.code ({ cls := "java/lang/Object", name := "<init>", desc := "()V" } : Jvm.MethodName) object_method_1_code (1 : Nat) (Option.none : Option Jvm.ClassFile.FieldType)).before args0 about1 = true := code_word (m := ⟨0, 0⟩) (meth := k0m0) (c := k0c0) (by decide +kernel) rfl rfl rfl (by decide +kernel)
set_option maxRecDepth 65536 in
theorem w_c4 : (Jvm.Cond.code ({ cls := "java/lang/StringUTF16", name := "compress", desc := "([CII)[B" } : Jvm.MethodName) jdk_52_method_16_code (6 : Nat) (Option.some (Jvm.ClassFile.FieldType.array Jvm.ClassFile.FieldType.byte))).before args0 about1 = true := code_word (m := ⟨8, 2⟩) (meth := k8m2) (c := k8c2) (by decide +kernel) rfl rfl rfl (by decide +kernel)
set_option maxRecDepth 65536 in
theorem w_c5 : (Jvm.Cond.code ({ cls := "java/lang/StringUTF16", name := "compress", desc := "([CI[BII)I" } : Jvm.MethodName) jdk_52_method_21_code (7 : Nat) (Option.some Jvm.ClassFile.FieldType.int)).before args0 about1 = true := code_word (m := ⟨8, 3⟩) (meth := k8m3) (c := k8c3) (by decide +kernel) rfl rfl rfl (by decide +kernel)
set_option maxRecDepth 65536 in
theorem w_c6 : (Jvm.Cond.code ({ cls := "java/lang/StringUTF16", name := "coderFromArrayLen", desc := "([BI)B" } : Jvm.MethodName) jdk_52_method_15_code (2 : Nat) (Option.some Jvm.ClassFile.FieldType.byte)).before args0 about1 = true := code_word (m := ⟨8, 1⟩) (meth := k8m1) (c := k8c1) (by decide +kernel) rfl rfl rfl (by decide +kernel)
set_option maxRecDepth 65536 in
theorem w_c7 : (Jvm.Cond.code ({ cls := "java/lang/Integer", name := "valueOf", desc := "(I)Ljava/lang/Integer;" } : Jvm.MethodName) jdk_33_method_22_code (1 : Nat) (Option.some (Jvm.ClassFile.FieldType.object "java/lang/Integer"))).before args0 about1 = true := code_word (m := ⟨10, 0⟩) (meth := k10m0) (c := k10c0) (by decide +kernel) rfl rfl rfl (by decide +kernel)
set_option maxRecDepth 65536 in
theorem w_c8 : (Jvm.Cond.code ({ cls := "com/example/mayes/mayes/UnmarkedValue", name := "<init>", desc := "(Ljava/lang/Object;)V" } : Jvm.MethodName) prog_95_method_1_code (2 : Nat) (Option.none : Option Jvm.ClassFile.FieldType)).before args0 about1 = true := code_word (m := ⟨13, 0⟩) (meth := k13m0) (c := k13c0) (by decide +kernel) rfl rfl rfl (by decide +kernel)
set_option maxRecDepth 65536 in
theorem w_c9 : (Jvm.Cond.code ({ cls := "java/lang/Record", name := "<init>", desc := "()V" } : Jvm.MethodName) jdk_30_method_1_code (1 : Nat) (Option.none : Option Jvm.ClassFile.FieldType)).before args0 about1 = true := code_word (m := ⟨12, 0⟩) (meth := k12m0) (c := k12c0) (by decide +kernel) rfl rfl rfl (by decide +kernel)
set_option maxRecDepth 65536 in
theorem w_c10 : (Jvm.Cond.code ({ cls := "com/example/mayes/mayes/UnmarkedValue", name := "heldBy", desc := "(Ljava/lang/Object;)Ljava/lang/Object;" } : Jvm.MethodName) prog_95_method_2_code (2 : Nat) (Option.some (Jvm.ClassFile.FieldType.object "java/lang/Object"))).before args0 about1 = true := code_word (m := ⟨13, 1⟩) (meth := k13m1) (c := k13c1) (by decide +kernel) rfl rfl rfl (by decide +kernel)
set_option maxRecDepth 65536 in
theorem w_c11 : (Jvm.Cond.code ({ cls := "java/lang/Integer", name := "<init>", desc := "(I)V" } : Jvm.MethodName) jdk_33_method_23_code (2 : Nat) (Option.none : Option Jvm.ClassFile.FieldType)).before args0 about1 = true := code_word (m := ⟨10, 1⟩) (meth := k10m1) (c := k10c1) (by decide +kernel) rfl rfl rfl (by decide +kernel)
set_option maxRecDepth 65536 in
theorem w_c12 : (Jvm.Cond.code ({ cls := "java/lang/Number", name := "<init>", desc := "()V" } : Jvm.MethodName) jdk_18_method_1_code (1 : Nat) (Option.none : Option Jvm.ClassFile.FieldType)).before args0 about1 = true := code_word (m := ⟨9, 0⟩) (meth := k9m0) (c := k9c0) (by decide +kernel) rfl rfl rfl (by decide +kernel)
def codes1 : List Jvm.Cond := [Jvm.Cond.code x code maxLocals ret, Jvm.Cond.code ({ cls := "java/lang/String", name := "<init>", desc := "([C)V" } : Jvm.MethodName) jdk_42_method_3_code (2 : Nat) (Option.none : Option Jvm.ClassFile.FieldType), Jvm.Cond.code ({ cls := "java/lang/String", name := "<init>", desc := "([CIILjava/lang/Void;)V" } : Jvm.MethodName) jdk_42_method_149_code (6 : Nat) (Option.none : Option Jvm.ClassFile.FieldType), Jvm.Cond.code ({ cls := "java/lang/Object", name := "<init>", desc := "()V" } : Jvm.MethodName) object_method_1_code (1 : Nat) (Option.none : Option Jvm.ClassFile.FieldType), Jvm.Cond.code ({ cls := "java/lang/StringUTF16", name := "compress", desc := "([CII)[B" } : Jvm.MethodName) jdk_52_method_16_code (6 : Nat) (Option.some (Jvm.ClassFile.FieldType.array Jvm.ClassFile.FieldType.byte)), Jvm.Cond.code ({ cls := "java/lang/StringUTF16", name := "compress", desc := "([CI[BII)I" } : Jvm.MethodName) jdk_52_method_21_code (7 : Nat) (Option.some Jvm.ClassFile.FieldType.int), Jvm.Cond.code ({ cls := "java/lang/StringUTF16", name := "coderFromArrayLen", desc := "([BI)B" } : Jvm.MethodName) jdk_52_method_15_code (2 : Nat) (Option.some Jvm.ClassFile.FieldType.byte), Jvm.Cond.code ({ cls := "java/lang/Integer", name := "valueOf", desc := "(I)Ljava/lang/Integer;" } : Jvm.MethodName) jdk_33_method_22_code (1 : Nat) (Option.some (Jvm.ClassFile.FieldType.object "java/lang/Integer")), Jvm.Cond.code ({ cls := "com/example/mayes/mayes/UnmarkedValue", name := "<init>", desc := "(Ljava/lang/Object;)V" } : Jvm.MethodName) prog_95_method_1_code (2 : Nat) (Option.none : Option Jvm.ClassFile.FieldType), Jvm.Cond.code ({ cls := "java/lang/Record", name := "<init>", desc := "()V" } : Jvm.MethodName) jdk_30_method_1_code (1 : Nat) (Option.none : Option Jvm.ClassFile.FieldType), Jvm.Cond.code ({ cls := "com/example/mayes/mayes/UnmarkedValue", name := "heldBy", desc := "(Ljava/lang/Object;)Ljava/lang/Object;" } : Jvm.MethodName) prog_95_method_2_code (2 : Nat) (Option.some (Jvm.ClassFile.FieldType.object "java/lang/Object")), Jvm.Cond.code ({ cls := "java/lang/Integer", name := "<init>", desc := "(I)V" } : Jvm.MethodName) jdk_33_method_23_code (2 : Nat) (Option.none : Option Jvm.ClassFile.FieldType), Jvm.Cond.code ({ cls := "java/lang/Number", name := "<init>", desc := "()V" } : Jvm.MethodName) jdk_18_method_1_code (1 : Nat) (Option.none : Option Jvm.ClassFile.FieldType)]
set_option maxRecDepth 65536 in
theorem codes_eq : words1.filter isCode = codes1 := rfl
theorem w_codes : ∀ c ∈ words1.filter isCode, c.before args0 about1 = true := by
  rw [codes_eq]
  intro c hc
  simp only [codes1, List.mem_cons, List.not_mem_nil, or_false] at hc
  rcases hc with rfl | rfl | rfl | rfl | rfl | rfl | rfl | rfl | rfl | rfl | rfl | rfl | rfl
  · exact w_c0
  · exact w_c1
  · exact w_c2
  · exact w_c3
  · exact w_c4
  · exact w_c5
  · exact w_c6
  · exact w_c7
  · exact w_c8
  · exact w_c9
  · exact w_c10
  · exact w_c11
  · exact w_c12
set_option maxRecDepth 65536 in
theorem w_t1 : (words1.take 24).all (fun c => isCode c || c.before args0 about1) = true := by decide +kernel
set_option maxRecDepth 65536 in
theorem w_t2 : ((words1.drop 24).take 24).all (fun c => isCode c || c.before args0 about1) = true := by decide +kernel
set_option maxRecDepth 65536 in
theorem w_t3 : (((words1.drop 24).drop 24).take 24).all (fun c => isCode c || c.before args0 about1) = true := by decide +kernel
set_option maxRecDepth 65536 in
theorem w_t4 : (((words1.drop 24).drop 24).drop 24).all (fun c => isCode c || c.before args0 about1) = true := by decide +kernel
theorem w_tables : (allAtoms (Jvm.Cond.code x code maxLocals ret :: tables_1)).before args0 about1 = true := by
  rw [allAtoms_all]
  show words1.all (fun c => c.before args0 about1) = true
  refine all_split ?_ w_codes
  rw [← List.take_append_drop 24 words1, List.all_append, w_t1, ← List.take_append_drop 24 (words1.drop 24), List.all_append, w_t2, ← List.take_append_drop 24 ((words1.drop 24).drop 24), List.all_append, w_t3, w_t4]
  rfl
set_option maxRecDepth 65536 in
theorem w_rest : rest_1_c.before args0 about1 = true := by decide +kernel
set_option maxRecDepth 65536 in
theorem w_case : (Jvm.Cond.and given_1 narrow_1).before args0 about1 = true := by decide +kernel
theorem w_applies : (headSpec (Jvm.Cond.code x code maxLocals ret :: tables_1) room_1).applies x e0.platform about1 = true :=
  (Spec.applies_iff w_frames).mpr ⟨w_running, w_runnable, w_alone, w_named, w_hears, w_ripe, w_room, w_tables⟩
theorem atStart : AtStart classFile x code maxLocals ret World_1 tables_1 room_1 Calls_1 rest_1 Pre_1 launch0 p0 e0 about1 theMethod args0 below0 :=
  ⟨lists_1, trivial, launch0.admits_env _ _ _, launch0.least_env, fairChoices_fair.cas, fairChoices_fair.clock, w_frames, w_args, w_heap, w_applies, trivial, w_rest, w_case⟩
end start1
theorem witness_1 : WitnessClaimed_1 := ⟨start1.p0, start1.e0, start1.about1, start1.theMethod, start1.args0, start1.below0, start1.atStart⟩
end Jvm.Pilot.@@N@@
