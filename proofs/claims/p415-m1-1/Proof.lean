import JvmDerived
import JvmDerived.Pilot.@@N@@Statement
import JvmDerived.Pilot.@@N@@Code
set_option linter.unusedVariables false
set_option linter.unusedSimpArgs false
namespace Jvm.GoKit
open Sem ClassFile Op Lib Jvm.Stand Jvm.Free Jvm.LawKit Jvm.RoadKit
/-! my own layer: a body's run in continuation style, over the library's Stand laws -/
def Val (P : Value → Heap → Prop) (v : Option Value) (h : Heap) : Prop := ∃ w, v = some w ∧ P w h
def Vd (P : Heap → Prop) (v : Option Value) (h : Heap) : Prop := v = none ∧ P h
def PV (w : Value) (h0 : Heap) (w' : Value) (h : Heap) : Prop := w = w' ∧ h0 = h
def Ctx (Z : State) (own : String) (code : ByteArray) (maxL : Nat) (ret : Option FieldType) (nm : String) (p : Program) (s : State) (m : MethodId) (meth : Method) (c : Code) : Prop :=
  p.tables.exec = Jvm.exec ∧ Z.Warmed39 s.vm ∧ s.vm.findClass own = some m.cls ∧ c.code = code ∧ c.maxLocals = maxL ∧ meth.sig.returnType = ret ∧ meth.locks = false ∧ meth.name = nm
def Go (p : Program) (e : Env) (below : List Frame) (s : State) (n0 K N : Nat) (Q : Option Value → Heap → Prop) (S : State) : Prop :=
  ∃ s₂ v L, Steps p.tables e below S s₂ ∧ s₂.status = .running ∧ Ended s₂ below (.returned v) ∧ (Q v s₂.heap ∧ Fr n0 L) ∧ FrameEnd s (.returned v) s₂ L K N
def Run (l : Launch) (Z : State) (n0 : Nat) (own : String) (code : ByteArray) (maxL : Nat) (ret : Option FieldType) (nm : String) (R : Room) (Q : Option Value → Heap → Prop) (pc : Nat) (Ls : Array Slot) (st : List Value) (h : Heap) (k n : Nat) : Prop :=
  ∀ (p : Program) (e : Env) (s : State) (m : MethodId) (args : Array Value) (below : List Frame) (meth : Method) (c : Code) (T : State) (locs : List Loc) (cells slots : Nat),
    Ctx Z own code maxL ret nm p s m meth c → Stand p l e R s m args below meth c T locs cells slots → T.heap = h → Fr n0 locs → cells ≤ k → slots ≤ n →
    Go p e below s n0 R.cells R.slots Q (T.setTop (mkF m pc Ls st))
def Con (l : Launch) (Z : State) (n0 : Nat) (y : MethodName) (bytes : ByteArray) (maxL : Nat) (ret : Option FieldType) (rm : Room) (as : Array Value) (h : Heap) (Q : Option Value → Heap → Prop) : Prop :=
  ∀ ws, MetFree l y (head1 (Cond.code y bytes maxL ret :: ws) rm) (fun a U => a = as ∧ Z.Warmed39 U.vm ∧ U.heap = h) (fun _ _ _ _ _ => True) (fun _ U o U' => ∃ v L, o = .returned v ∧ (Q v U'.heap ∧ Fr n0 L) ∧ FrameEnd U o U' L rm.cells rm.slots)
theorem Con.of_run {l : Launch} {Z : State} {n0 : Nat} {y : MethodName} {bytes : ByteArray} {maxL : Nat} {ret : Option FieldType} {rm : Room} {as : Array Value} {h : Heap} {Q : Option Value → Heap → Prop} {Ls : Array Slot}
    (hp : plainFor y = true) (he : ∀ m, entryFrame m as maxL = mkF m 0 Ls []) (run : Run l Z n0 y.cls bytes maxL ret y.name rm Q 0 Ls [] h 0 0) : Con l Z n0 y bytes maxL ret rm as h Q := by
  intro ws
  refine MetFree.of_bodySF hp hisR ?_
  intro p e s m args below meth c s₁ Bd hml0 hP hK
  obtain ⟨rfl, hZ, hh⟩ := hP
  obtain ⟨s₂, v, L, h1, h2, h3, h4, h5⟩ := run p e s m _ below meth c s₁ [] 0 0 ⟨Bd.exec, hZ, findClass_of_methodNamed Bd.named, Bd.bytes, hml0, Bd.returns, Bd.notSynchronized, (name_of_methodNamed Bd.named Bd.method).1⟩ (Stand.of_body Bd) (by rw [← hh, Bd.state]; rfl) (Fr.nil _) (Nat.zero_le _) (Nat.zero_le _)
  exact ⟨s₂, _, castTop (he m) h1, h2, h3, v, L, rfl, h4, h5⟩
theorem Con.mono {l : Launch} {Z : State} {n0 : Nat} {y : MethodName} {bytes : ByteArray} {maxL : Nat} {ret : Option FieldType} {rm : Room} {as : Array Value} {h : Heap} {Q Q' : Option Value → Heap → Prop}
    (H : Con l Z n0 y bytes maxL ret rm as h Q) (q : ∀ v h', Q v h' → Q' v h') : Con l Z n0 y bytes maxL ret rm as h Q' := by
  intro ws p e ha hc hk s m args below hf happ hP hK
  obtain ⟨n, o, h1, h2, h3, v, L, h4, h5, h6⟩ := H ws p e ha hc hk s m args below hf happ hP hK
  exact ⟨n, o, h1, h2, h3, v, L, h4, ⟨q _ _ h5.1, h5.2⟩, h6⟩
section Walk
variable {l : Launch} {Z : State} {n0 : Nat} {own : String} {code : ByteArray} {maxL : Nat} {ret : Option FieldType} {nm : String} {R : Room} {Q : Option Value → Heap → Prop} {pc pc' : Nat} {Ls : Array Slot} {st : List Value} {h : Heap} {k n k' n' : Nat}
theorem Run.via {Ls' : Array Slot} {st' : List Value} (f : ∀ (p : Program) (e : Env) (s : State) (m : MethodId) (args : Array Value) (below : List Frame) (meth : Method) (c : Code) (T : State) (locs : List Loc) (cells slots : Nat),
      Ctx Z own code maxL ret nm p s m meth c → Stand p l e R s m args below meth c T locs cells slots → T.heap = h → ∃ T', Stand p l e R s m args below meth c T' locs cells slots ∧ T'.heap = h ∧ ∀ t, Steps p.tables e below (T'.setTop (mkF m pc' Ls' st')) t → Steps p.tables e below (T.setTop (mkF m pc Ls st)) t)
    (nxt : Run l Z n0 own code maxL ret nm R Q pc' Ls' st' h k n) : Run l Z n0 own code maxL ret nm R Q pc Ls st h k n := by
  intro p e s m args below meth c T locs cells slots hC X eT hF hk hn
  obtain ⟨T', X', e', stp⟩ := f p e s m args below meth c T locs cells slots hC X eT
  obtain ⟨s₂, v, L, g1, g2⟩ := nxt p e s m args below meth c T' locs cells slots hC X' e' hF hk hn
  exact ⟨s₂, v, L, stp _ g1, g2⟩
theorem Run.stp {Ls' : Array Slot} {st' : List Value} (f : ∀ (p : Program) (e : Env) (below : List Frame) (T : State) (m : MethodId) (c : Code) (t : State), At T m c below → p.tables.exec = Jvm.exec → c.code = code → Steps p.tables e below (T.setTop (mkF m pc' Ls' st')) t → Steps p.tables e below (T.setTop (mkF m pc Ls st)) t)
    (nxt : Run l Z n0 own code maxL ret nm R Q pc' Ls' st' h k n) : Run l Z n0 own code maxL ret nm R Q pc Ls st h k n :=
  Run.via (fun p e s m args below meth c T locs cells slots hC X eT => ⟨T, X, eT, fun t q => f p e below T m c t X.here hC.1 hC.2.2.2.1 q⟩) nxt
theorem Run.more {ka na : Nat} (nxt : Run l Z n0 own code maxL ret nm R Q pc Ls st h k n) (h1 : ka ≤ k) (h2 : na ≤ n) : Run l Z n0 own code maxL ret nm R Q pc Ls st h ka na :=
  fun p e s m args below meth c T locs cells slots hC X eT hF hk hn => nxt p e s m args below meth c T locs cells slots hC X eT hF (Nat.le_trans hk h1) (Nat.le_trans hn h2)

theorem Run.iloadN {x : Fin 4} {v : Int32} (hd : decode code pc = .ok (.iload_n x, 1)) (hl : Ls[x.val]? = some (.val (.int v))) (hp : pc + 1 = pc') (nxt : Run l Z n0 own code maxL ret nm R Q pc' Ls (.int v :: st) h k n) : Run l Z n0 own code maxL ret nm R Q pc Ls st h k n := by
  subst hp
  exact Run.stp (fun p e below T m c t hA hx hc q => XS.iloadN hA hx rfl (hb hc hd) hl q) nxt
theorem Run.iload {x : Nat} {v : Int32} (hd : decode code pc = .ok (.iload x, 2)) (hl : Ls[x]? = some (.val (.int v))) (hp : pc + 2 = pc') (nxt : Run l Z n0 own code maxL ret nm R Q pc' Ls (.int v :: st) h k n) : Run l Z n0 own code maxL ret nm R Q pc Ls st h k n := by
  subst hp
  exact Run.stp (fun p e below T m c t hA hx hc q => XS.iload hA hx rfl (hb hc hd) hl q) nxt
theorem Run.lloadN {x : Fin 4} {v : Int64} (hd : decode code pc = .ok (.lload_n x, 1)) (hl : Ls[x.val]? = some (.val (.long v))) (hp : pc + 1 = pc') (nxt : Run l Z n0 own code maxL ret nm R Q pc' Ls (.long v :: st) h k n) : Run l Z n0 own code maxL ret nm R Q pc Ls st h k n := by
  subst hp
  exact Run.stp (fun p e below T m c t hA hx hc q => XT.lloadN hA hx rfl (hb hc hd) hl q) nxt
theorem Run.lload {x : Nat} {v : Int64} (hd : decode code pc = .ok (.lload x, 2)) (hl : Ls[x]? = some (.val (.long v))) (hp : pc + 2 = pc') (nxt : Run l Z n0 own code maxL ret nm R Q pc' Ls (.long v :: st) h k n) : Run l Z n0 own code maxL ret nm R Q pc Ls st h k n := by
  subst hp
  exact Run.stp (fun p e below T m c t hA hx hc q => XT.lload hA hx rfl (hb hc hd) hl q) nxt
theorem Run.aloadN {x : Fin 4} {v : Value} (hd : decode code pc = .ok (.aload_n x, 1)) (hl : Ls[x.val]? = some (.val v)) (hv : v.isRef = true) (hp : pc + 1 = pc') (nxt : Run l Z n0 own code maxL ret nm R Q pc' Ls (v :: st) h k n) : Run l Z n0 own code maxL ret nm R Q pc Ls st h k n := by
  subst hp
  exact Run.stp (fun p e below T m c t hA hx hc q => XS.aloadN hA hx rfl (hb hc hd) hl hv q) nxt
theorem Run.aload {x : Nat} {v : Value} (hd : decode code pc = .ok (.aload x, 2)) (hl : Ls[x]? = some (.val v)) (hv : v.isRef = true) (hp : pc + 2 = pc') (nxt : Run l Z n0 own code maxL ret nm R Q pc' Ls (v :: st) h k n) : Run l Z n0 own code maxL ret nm R Q pc Ls st h k n := by
  subst hp
  exact Run.stp (fun p e below T m c t hA hx hc q => XS.aload hA hx rfl (hb hc hd) hl hv q) nxt
theorem Run.iconst {i : Int} (v : Int32) (hd : decode code pc = .ok (.iconst i, 1)) (hv : Int32.ofInt i = v) (hp : pc + 1 = pc') (nxt : Run l Z n0 own code maxL ret nm R Q pc' Ls (.int v :: st) h k n) : Run l Z n0 own code maxL ret nm R Q pc Ls st h k n := by
  subst hp
  exact Run.stp (fun p e below T m c t hA hx hc q => XT.iconstV hA hx rfl v (hb hc hd) hv q) nxt
theorem Run.bipush {i : Int} (v : Int32) (hd : decode code pc = .ok (.bipush i, 2)) (hv : (Int8.ofInt i).toInt32 = v) (hp : pc + 2 = pc') (nxt : Run l Z n0 own code maxL ret nm R Q pc' Ls (.int v :: st) h k n) : Run l Z n0 own code maxL ret nm R Q pc Ls st h k n := by
  subst hp
  exact Run.stp (fun p e below T m c t hA hx hc q => XT.bipushV hA hx rfl v (hb hc hd) hv q) nxt
theorem Run.sipush {i : Int} (v : Int32) (hd : decode code pc = .ok (.sipush i, 3)) (hv : (Int16.ofInt i).toInt32 = v) (hp : pc + 3 = pc') (nxt : Run l Z n0 own code maxL ret nm R Q pc' Ls (.int v :: st) h k n) : Run l Z n0 own code maxL ret nm R Q pc Ls st h k n := by
  subst hp
  exact Run.stp (fun p e below T m c t hA hx hc q => XT.sipushV hA hx rfl v (hb hc hd) hv q) nxt
theorem Run.lconst {i : Fin 2} (v : Int64) (hd : decode code pc = .ok (.lconst i, 1)) (hv : Int64.ofNat i = v) (hp : pc + 1 = pc') (nxt : Run l Z n0 own code maxL ret nm R Q pc' Ls (.long v :: st) h k n) : Run l Z n0 own code maxL ret nm R Q pc Ls st h k n := by
  subst hp
  exact Run.stp (fun p e below T m c t hA hx hc q => XT.lconstV hA hx rfl v (hb hc hd) hv q) nxt
theorem Run.aconst  (hd : decode code pc = .ok (.aconst_null, 1))  (hp : pc + 1 = pc') (nxt : Run l Z n0 own code maxL ret nm R Q pc' Ls (.null :: st) h k n) : Run l Z n0 own code maxL ret nm R Q pc Ls st h k n := by
  subst hp
  exact Run.stp (fun p e below T m c t hA hx hc q => XS.aconstNull hA hx rfl (hb hc hd) q) nxt
theorem Run.istoreN {x : Fin 4} {v : Int32} (l' : Array Slot) (hd : decode code pc = .ok (.istore_n x, 1)) (hl : storeLocals Ls x.val (.int v) = some l') (hp : pc + 1 = pc') (nxt : Run l Z n0 own code maxL ret nm R Q pc' l' st h k n) : Run l Z n0 own code maxL ret nm R Q pc Ls (.int v :: st) h k n := by
  subst hp
  exact Run.stp (fun p e below T m c t hA hx hc q => XS.istoreN hA hx rfl (hb hc hd) rfl hl q) nxt
theorem Run.istore {x : Nat} {v : Int32} (l' : Array Slot) (hd : decode code pc = .ok (.istore x, 2)) (hl : storeLocals Ls x (.int v) = some l') (hp : pc + 2 = pc') (nxt : Run l Z n0 own code maxL ret nm R Q pc' l' st h k n) : Run l Z n0 own code maxL ret nm R Q pc Ls (.int v :: st) h k n := by
  subst hp
  exact Run.stp (fun p e below T m c t hA hx hc q => XS.istore hA hx rfl (hb hc hd) rfl hl q) nxt
theorem Run.lstoreN {x : Fin 4} {v : Int64} (l' : Array Slot) (hd : decode code pc = .ok (.lstore_n x, 1)) (hl : storeLocals Ls x.val (.long v) = some l') (hp : pc + 1 = pc') (nxt : Run l Z n0 own code maxL ret nm R Q pc' l' st h k n) : Run l Z n0 own code maxL ret nm R Q pc Ls (.long v :: st) h k n := by
  subst hp
  exact Run.stp (fun p e below T m c t hA hx hc q => XT.lstoreN hA hx rfl (hb hc hd) rfl hl q) nxt
theorem Run.lstore {x : Nat} {v : Int64} (l' : Array Slot) (hd : decode code pc = .ok (.lstore x, 2)) (hl : storeLocals Ls x (.long v) = some l') (hp : pc + 2 = pc') (nxt : Run l Z n0 own code maxL ret nm R Q pc' l' st h k n) : Run l Z n0 own code maxL ret nm R Q pc Ls (.long v :: st) h k n := by
  subst hp
  exact Run.stp (fun p e below T m c t hA hx hc q => XT.lstore hA hx rfl (hb hc hd) rfl hl q) nxt
theorem Run.astoreN {x : Fin 4} {v : Value} (l' : Array Slot) (hd : decode code pc = .ok (.astore_n x, 1)) (hv : v.isRef = true) (hl : storeLocals Ls x.val v = some l') (hp : pc + 1 = pc') (nxt : Run l Z n0 own code maxL ret nm R Q pc' l' st h k n) : Run l Z n0 own code maxL ret nm R Q pc Ls (v :: st) h k n := by
  subst hp
  exact Run.stp (fun p e below T m c t hA hx hc q => XS.astoreN hA hx rfl (hb hc hd) rfl hv hl q) nxt
theorem Run.astore {x : Nat} {v : Value} (l' : Array Slot) (hd : decode code pc = .ok (.astore x, 2)) (hv : v.isRef = true) (hl : storeLocals Ls x v = some l') (hp : pc + 2 = pc') (nxt : Run l Z n0 own code maxL ret nm R Q pc' l' st h k n) : Run l Z n0 own code maxL ret nm R Q pc Ls (v :: st) h k n := by
  subst hp
  exact Run.stp (fun p e below T m c t hA hx hc q => XS.astore hA hx rfl (hb hc hd) rfl hv hl q) nxt
theorem Run.iinc {x : Nat} {i : Int} {u : Int32} (v : Int32) (l' : Array Slot) (hd : decode code pc = .ok (.iinc x i, 3)) (hv : Int32.ofInt i = v) (hg : Ls[x]? = some (.val (.int u))) (hl : storeLocals Ls x (.int (u + v)) = some l') (hp : pc + 3 = pc') (nxt : Run l Z n0 own code maxL ret nm R Q pc' l' st h k n) : Run l Z n0 own code maxL ret nm R Q pc Ls st h k n := by
  subst hp
  exact Run.stp (fun p e below T m c t hA hx hc q => XT.iincV hA hx rfl v (hb hc hd) hv hg hl q) nxt
theorem Run.iadd {x y : Int32} (hd : decode code pc = .ok (.iadd, 1))  (hp : pc + 1 = pc') (nxt : Run l Z n0 own code maxL ret nm R Q pc' Ls (.int (x + y) :: st) h k n) : Run l Z n0 own code maxL ret nm R Q pc Ls (.int y :: .int x :: st) h k n := by
  subst hp
  exact Run.stp (fun p e below T m c t hA hx hc q => XS.iadd hA hx rfl (hb hc hd) rfl q) nxt
theorem Run.isub {x y : Int32} (hd : decode code pc = .ok (.isub, 1))  (hp : pc + 1 = pc') (nxt : Run l Z n0 own code maxL ret nm R Q pc' Ls (.int (x - y) :: st) h k n) : Run l Z n0 own code maxL ret nm R Q pc Ls (.int y :: .int x :: st) h k n := by
  subst hp
  exact Run.stp (fun p e below T m c t hA hx hc q => XS.isub hA hx rfl (hb hc hd) rfl q) nxt
theorem Run.imul {x y : Int32} (hd : decode code pc = .ok (.imul, 1))  (hp : pc + 1 = pc') (nxt : Run l Z n0 own code maxL ret nm R Q pc' Ls (.int (x * y) :: st) h k n) : Run l Z n0 own code maxL ret nm R Q pc Ls (.int y :: .int x :: st) h k n := by
  subst hp
  exact Run.stp (fun p e below T m c t hA hx hc q => XS.imul hA hx rfl (hb hc hd) rfl q) nxt
theorem Run.iand {x y : Int32} (hd : decode code pc = .ok (.iand, 1))  (hp : pc + 1 = pc') (nxt : Run l Z n0 own code maxL ret nm R Q pc' Ls (.int (x &&& y) :: st) h k n) : Run l Z n0 own code maxL ret nm R Q pc Ls (.int y :: .int x :: st) h k n := by
  subst hp
  exact Run.stp (fun p e below T m c t hA hx hc q => XS.iand hA hx rfl (hb hc hd) rfl q) nxt
theorem Run.ior {x y : Int32} (hd : decode code pc = .ok (.ior, 1))  (hp : pc + 1 = pc') (nxt : Run l Z n0 own code maxL ret nm R Q pc' Ls (.int (x ||| y) :: st) h k n) : Run l Z n0 own code maxL ret nm R Q pc Ls (.int y :: .int x :: st) h k n := by
  subst hp
  exact Run.stp (fun p e below T m c t hA hx hc q => XT.ior hA hx rfl (hb hc hd) rfl q) nxt
theorem Run.ixor {x y : Int32} (hd : decode code pc = .ok (.ixor, 1))  (hp : pc + 1 = pc') (nxt : Run l Z n0 own code maxL ret nm R Q pc' Ls (.int (x ^^^ y) :: st) h k n) : Run l Z n0 own code maxL ret nm R Q pc Ls (.int y :: .int x :: st) h k n := by
  subst hp
  exact Run.stp (fun p e below T m c t hA hx hc q => XT.ixor hA hx rfl (hb hc hd) rfl q) nxt
theorem Run.ishl {x y : Int32} (hd : decode code pc = .ok (.ishl, 1))  (hp : pc + 1 = pc') (nxt : Run l Z n0 own code maxL ret nm R Q pc' Ls (.int (x <<< (y &&& 31)) :: st) h k n) : Run l Z n0 own code maxL ret nm R Q pc Ls (.int y :: .int x :: st) h k n := by
  subst hp
  exact Run.stp (fun p e below T m c t hA hx hc q => XT.ishl hA hx rfl (hb hc hd) rfl q) nxt
theorem Run.ishr {x y : Int32} (hd : decode code pc = .ok (.ishr, 1))  (hp : pc + 1 = pc') (nxt : Run l Z n0 own code maxL ret nm R Q pc' Ls (.int (x >>> (y &&& 31)) :: st) h k n) : Run l Z n0 own code maxL ret nm R Q pc Ls (.int y :: .int x :: st) h k n := by
  subst hp
  exact Run.stp (fun p e below T m c t hA hx hc q => XT.ishr hA hx rfl (hb hc hd) rfl q) nxt
theorem Run.iushr {x y : Int32} (hd : decode code pc = .ok (.iushr, 1))  (hp : pc + 1 = pc') (nxt : Run l Z n0 own code maxL ret nm R Q pc' Ls (.int (XT.ushr x y) :: st) h k n) : Run l Z n0 own code maxL ret nm R Q pc Ls (.int y :: .int x :: st) h k n := by
  subst hp
  exact Run.stp (fun p e below T m c t hA hx hc q => XT.iushr hA hx rfl (hb hc hd) rfl q) nxt
theorem Run.ladd {x y : Int64} (hd : decode code pc = .ok (.ladd, 1))  (hp : pc + 1 = pc') (nxt : Run l Z n0 own code maxL ret nm R Q pc' Ls (.long (x + y) :: st) h k n) : Run l Z n0 own code maxL ret nm R Q pc Ls (.long y :: .long x :: st) h k n := by
  subst hp
  exact Run.stp (fun p e below T m c t hA hx hc q => XT.ladd hA hx rfl (hb hc hd) rfl q) nxt
theorem Run.lsub {x y : Int64} (hd : decode code pc = .ok (.lsub, 1))  (hp : pc + 1 = pc') (nxt : Run l Z n0 own code maxL ret nm R Q pc' Ls (.long (x - y) :: st) h k n) : Run l Z n0 own code maxL ret nm R Q pc Ls (.long y :: .long x :: st) h k n := by
  subst hp
  exact Run.stp (fun p e below T m c t hA hx hc q => XT.lsub hA hx rfl (hb hc hd) rfl q) nxt
theorem Run.lmul {x y : Int64} (hd : decode code pc = .ok (.lmul, 1))  (hp : pc + 1 = pc') (nxt : Run l Z n0 own code maxL ret nm R Q pc' Ls (.long (x * y) :: st) h k n) : Run l Z n0 own code maxL ret nm R Q pc Ls (.long y :: .long x :: st) h k n := by
  subst hp
  exact Run.stp (fun p e below T m c t hA hx hc q => XT.lmul hA hx rfl (hb hc hd) rfl q) nxt
theorem Run.land {x y : Int64} (hd : decode code pc = .ok (.land, 1))  (hp : pc + 1 = pc') (nxt : Run l Z n0 own code maxL ret nm R Q pc' Ls (.long (x &&& y) :: st) h k n) : Run l Z n0 own code maxL ret nm R Q pc Ls (.long y :: .long x :: st) h k n := by
  subst hp
  exact Run.stp (fun p e below T m c t hA hx hc q => XT.land hA hx rfl (hb hc hd) rfl q) nxt
theorem Run.lor {x y : Int64} (hd : decode code pc = .ok (.lor, 1))  (hp : pc + 1 = pc') (nxt : Run l Z n0 own code maxL ret nm R Q pc' Ls (.long (x ||| y) :: st) h k n) : Run l Z n0 own code maxL ret nm R Q pc Ls (.long y :: .long x :: st) h k n := by
  subst hp
  exact Run.stp (fun p e below T m c t hA hx hc q => XT.lor hA hx rfl (hb hc hd) rfl q) nxt
theorem Run.lxor {x y : Int64} (hd : decode code pc = .ok (.lxor, 1))  (hp : pc + 1 = pc') (nxt : Run l Z n0 own code maxL ret nm R Q pc' Ls (.long (x ^^^ y) :: st) h k n) : Run l Z n0 own code maxL ret nm R Q pc Ls (.long y :: .long x :: st) h k n := by
  subst hp
  exact Run.stp (fun p e below T m c t hA hx hc q => XT.lxor hA hx rfl (hb hc hd) rfl q) nxt
theorem Run.idiv {x y : Int32} (hd : decode code pc = .ok (.idiv, 1)) (hy : y ≠ 0) (hp : pc + 1 = pc') (nxt : Run l Z n0 own code maxL ret nm R Q pc' Ls (.int (x / y) :: st) h k n) : Run l Z n0 own code maxL ret nm R Q pc Ls (.int y :: .int x :: st) h k n := by
  subst hp
  exact Run.stp (fun p e below T m c t hA hx hc q => XS.idiv hA hx rfl (hb hc hd) rfl hy q) nxt
theorem Run.irem {x y : Int32} (hd : decode code pc = .ok (.irem, 1)) (hy : y ≠ 0) (hp : pc + 1 = pc') (nxt : Run l Z n0 own code maxL ret nm R Q pc' Ls (.int (x % y) :: st) h k n) : Run l Z n0 own code maxL ret nm R Q pc Ls (.int y :: .int x :: st) h k n := by
  subst hp
  exact Run.stp (fun p e below T m c t hA hx hc q => XS.irem hA hx rfl (hb hc hd) rfl hy (by rw [irem_eq_mod]; exact q)) nxt
theorem Run.ldiv {x y : Int64} (hd : decode code pc = .ok (.ldiv, 1)) (hy : y ≠ 0) (hp : pc + 1 = pc') (nxt : Run l Z n0 own code maxL ret nm R Q pc' Ls (.long (x / y) :: st) h k n) : Run l Z n0 own code maxL ret nm R Q pc Ls (.long y :: .long x :: st) h k n := by
  subst hp
  exact Run.stp (fun p e below T m c t hA hx hc q => XT.ldiv hA hx rfl (hb hc hd) rfl hy q) nxt
theorem Run.lrem {x y : Int64} (hd : decode code pc = .ok (.lrem, 1)) (hy : y ≠ 0) (hp : pc + 1 = pc') (nxt : Run l Z n0 own code maxL ret nm R Q pc' Ls (.long (x % y) :: st) h k n) : Run l Z n0 own code maxL ret nm R Q pc Ls (.long y :: .long x :: st) h k n := by
  subst hp
  exact Run.stp (fun p e below T m c t hA hx hc q => XT.lrem hA hx rfl (hb hc hd) rfl hy (by rw [lrem_mod]; exact q)) nxt
theorem Run.ineg {x : Int32} (hd : decode code pc = .ok (.ineg, 1))  (hp : pc + 1 = pc') (nxt : Run l Z n0 own code maxL ret nm R Q pc' Ls (.int (-x) :: st) h k n) : Run l Z n0 own code maxL ret nm R Q pc Ls (.int x :: st) h k n := by
  subst hp
  exact Run.stp (fun p e below T m c t hA hx hc q => XS.ineg hA hx rfl (hb hc hd) rfl q) nxt
theorem Run.lneg {x : Int64} (hd : decode code pc = .ok (.lneg, 1))  (hp : pc + 1 = pc') (nxt : Run l Z n0 own code maxL ret nm R Q pc' Ls (.long (-x) :: st) h k n) : Run l Z n0 own code maxL ret nm R Q pc Ls (.long x :: st) h k n := by
  subst hp
  exact Run.stp (fun p e below T m c t hA hx hc q => XT.lneg hA hx rfl (hb hc hd) rfl q) nxt
theorem Run.i2l {x : Int32} (hd : decode code pc = .ok (.i2l, 1))  (hp : pc + 1 = pc') (nxt : Run l Z n0 own code maxL ret nm R Q pc' Ls (.long x.toInt64 :: st) h k n) : Run l Z n0 own code maxL ret nm R Q pc Ls (.int x :: st) h k n := by
  subst hp
  exact Run.stp (fun p e below T m c t hA hx hc q => XT.i2l hA hx rfl (hb hc hd) rfl q) nxt
theorem Run.l2i {x : Int64} (hd : decode code pc = .ok (.l2i, 1))  (hp : pc + 1 = pc') (nxt : Run l Z n0 own code maxL ret nm R Q pc' Ls (.int x.toInt32 :: st) h k n) : Run l Z n0 own code maxL ret nm R Q pc Ls (.long x :: st) h k n := by
  subst hp
  exact Run.stp (fun p e below T m c t hA hx hc q => XT.l2i hA hx rfl (hb hc hd) rfl q) nxt
theorem Run.i2b {x : Int32} (hd : decode code pc = .ok (.i2b, 1))  (hp : pc + 1 = pc') (nxt : Run l Z n0 own code maxL ret nm R Q pc' Ls (.int (nar .byte x) :: st) h k n) : Run l Z n0 own code maxL ret nm R Q pc Ls (.int x :: st) h k n := by
  subst hp
  exact Run.stp (fun p e below T m c t hA hx hc q => XT.i2b hA hx rfl (hb hc hd) rfl q) nxt
theorem Run.i2c {x : Int32} (hd : decode code pc = .ok (.i2c, 1))  (hp : pc + 1 = pc') (nxt : Run l Z n0 own code maxL ret nm R Q pc' Ls (.int (nar .char x) :: st) h k n) : Run l Z n0 own code maxL ret nm R Q pc Ls (.int x :: st) h k n := by
  subst hp
  exact Run.stp (fun p e below T m c t hA hx hc q => XT.i2c hA hx rfl (hb hc hd) rfl q) nxt
theorem Run.i2s {x : Int32} (hd : decode code pc = .ok (.i2s, 1))  (hp : pc + 1 = pc') (nxt : Run l Z n0 own code maxL ret nm R Q pc' Ls (.int (nar .short x) :: st) h k n) : Run l Z n0 own code maxL ret nm R Q pc Ls (.int x :: st) h k n := by
  subst hp
  exact Run.stp (fun p e below T m c t hA hx hc q => XT.i2s hA hx rfl (hb hc hd) rfl q) nxt
theorem Run.lshl {x : Int64} {y : Int32} (hd : decode code pc = .ok (.lshl, 1))  (hp : pc + 1 = pc') (nxt : Run l Z n0 own code maxL ret nm R Q pc' Ls (.long (x <<< (y.toInt64 &&& 63)) :: st) h k n) : Run l Z n0 own code maxL ret nm R Q pc Ls (.int y :: .long x :: st) h k n := by
  subst hp
  exact Run.stp (fun p e below T m c t hA hx hc q => XT.lshl hA hx rfl (hb hc hd) rfl q) nxt
theorem Run.lshr {x : Int64} {y : Int32} (hd : decode code pc = .ok (.lshr, 1))  (hp : pc + 1 = pc') (nxt : Run l Z n0 own code maxL ret nm R Q pc' Ls (.long (x >>> (y.toInt64 &&& 63)) :: st) h k n) : Run l Z n0 own code maxL ret nm R Q pc Ls (.int y :: .long x :: st) h k n := by
  subst hp
  exact Run.stp (fun p e below T m c t hA hx hc q => XT.lshr hA hx rfl (hb hc hd) rfl q) nxt
theorem Run.lushr {x : Int64} {y : Int32} (hd : decode code pc = .ok (.lushr, 1))  (hp : pc + 1 = pc') (nxt : Run l Z n0 own code maxL ret nm R Q pc' Ls (.long (XT.ushrL x y) :: st) h k n) : Run l Z n0 own code maxL ret nm R Q pc Ls (.int y :: .long x :: st) h k n := by
  subst hp
  exact Run.stp (fun p e below T m c t hA hx hc q => XT.lushr hA hx rfl (hb hc hd) rfl q) nxt
theorem Run.lcmp {x y : Int64} (hd : decode code pc = .ok (.lcmp, 1))  (hp : pc + 1 = pc') (nxt : Run l Z n0 own code maxL ret nm R Q pc' Ls (.int (XT.cmpL x y) :: st) h k n) : Run l Z n0 own code maxL ret nm R Q pc Ls (.long y :: .long x :: st) h k n := by
  subst hp
  exact Run.stp (fun p e below T m c t hA hx hc q => XT.lcmp hA hx rfl (hb hc hd) rfl q) nxt
theorem Run.dup {x : Value} (hd : decode code pc = .ok (.dup, 1)) (hv : x.category = 1) (hp : pc + 1 = pc') (nxt : Run l Z n0 own code maxL ret nm R Q pc' Ls (x :: x :: st) h k n) : Run l Z n0 own code maxL ret nm R Q pc Ls (x :: st) h k n := by
  subst hp
  exact Run.stp (fun p e below T m c t hA hx hc q => XS.dup hA hx rfl (hb hc hd) rfl hv q) nxt
theorem Run.pop {x : Value} (hd : decode code pc = .ok (.pop, 1)) (hv : x.category = 1) (hp : pc + 1 = pc') (nxt : Run l Z n0 own code maxL ret nm R Q pc' Ls st h k n) : Run l Z n0 own code maxL ret nm R Q pc Ls (x :: st) h k n := by
  subst hp
  exact Run.stp (fun p e below T m c t hA hx hc q => XT.pop hA hx rfl (hb hc hd) rfl hv q) nxt
theorem Run.dupX1 {x y : Value} (hd : decode code pc = .ok (.dup_x1, 1)) (hv : x.category = 1) (hv' : y.category = 1) (hp : pc + 1 = pc') (nxt : Run l Z n0 own code maxL ret nm R Q pc' Ls (x :: y :: x :: st) h k n) : Run l Z n0 own code maxL ret nm R Q pc Ls (x :: y :: st) h k n := by
  subst hp
  exact Run.stp (fun p e below T m c t hA hx hc q => XT.dupX1 hA hx rfl (hb hc hd) rfl hv hv' q) nxt
theorem Run.dup2 {x y : Value} (hd : decode code pc = .ok (.dup2, 1)) (hv : x.category = 1) (hv' : y.category = 1) (hp : pc + 1 = pc') (nxt : Run l Z n0 own code maxL ret nm R Q pc' Ls (x :: y :: x :: y :: st) h k n) : Run l Z n0 own code maxL ret nm R Q pc Ls (x :: y :: st) h k n := by
  subst hp
  exact Run.stp (fun p e below T m c t hA hx hc q => XT.dup2 hA hx rfl (hb hc hd) rfl hv hv' q) nxt
theorem Run.dup2L {x : Int64} (hd : decode code pc = .ok (.dup2, 1))  (hp : pc + 1 = pc') (nxt : Run l Z n0 own code maxL ret nm R Q pc' Ls (.long x :: .long x :: st) h k n) : Run l Z n0 own code maxL ret nm R Q pc Ls (.long x :: st) h k n := by
  subst hp
  exact Run.stp (fun p e below T m c t hA hx hc q => XT.dup2L hA hx rfl (hb hc hd) rfl q) nxt
theorem Run.goto {o : Int} (hd : decode code pc = .ok (.goto o, 3)) (ho : 0 ≤ (pc : Int) + o) (hp : ((pc : Int) + o).toNat = pc') (nxt : Run l Z n0 own code maxL ret nm R Q pc' Ls st h k n) : Run l Z n0 own code maxL ret nm R Q pc Ls st h k n :=
  Run.stp (fun p e below T m c t hA hx hc q => XS.goto hA hx rfl rfl (hb hc hd) ho hp q) nxt
theorem Run.if_eq {x : Int32} {o : Int} {pa : Nat} (hd : decode code pc = .ok (.ifCond .eq o, 3)) (ho : 0 ≤ (pc : Int) + o) (hp : ((pc : Int) + o).toNat = pc') (hq : pc + 3 = pa)
    (yes : x = 0 → Run l Z n0 own code maxL ret nm R Q pc' Ls st h k n) (no : ¬ x = 0 → Run l Z n0 own code maxL ret nm R Q pa Ls st h k n) : Run l Z n0 own code maxL ret nm R Q pc Ls (.int x :: st) h k n := by
  subst hq
  by_cases hc : x = 0
  · exact Run.stp (fun p e below T m c t hA hx hb' q => XS.ifYes hA hx rfl rfl (hb hb' hd) rfl (XT.i0_eq_t hc) ho hp q) (yes hc)
  · exact Run.stp (fun p e below T m c t hA hx hb' q => XS.ifNo hA hx rfl (hb hb' hd) rfl (XT.i0_eq_f hc) q) (no hc)
theorem Run.icmp_eq {x y : Int32} {o : Int} {pa : Nat} (hd : decode code pc = .ok (.if_icmp .eq o, 3)) (ho : 0 ≤ (pc : Int) + o) (hp : ((pc : Int) + o).toNat = pc') (hq : pc + 3 = pa)
    (yes : x = y → Run l Z n0 own code maxL ret nm R Q pc' Ls st h k n) (no : ¬ x = y → Run l Z n0 own code maxL ret nm R Q pa Ls st h k n) : Run l Z n0 own code maxL ret nm R Q pc Ls (.int y :: .int x :: st) h k n := by
  subst hq
  by_cases hc : x = y
  · exact Run.stp (fun p e below T m c t hA hx hb' q => XS.icmpYes hA hx rfl rfl (hb hb' hd) rfl (XT.ii_eq_t hc) ho hp q) (yes hc)
  · exact Run.stp (fun p e below T m c t hA hx hb' q => XS.icmpNo hA hx rfl (hb hb' hd) rfl (XT.ii_eq_f hc) q) (no hc)
theorem Run.if_ne {x : Int32} {o : Int} {pa : Nat} (hd : decode code pc = .ok (.ifCond .ne o, 3)) (ho : 0 ≤ (pc : Int) + o) (hp : ((pc : Int) + o).toNat = pc') (hq : pc + 3 = pa)
    (yes : ¬ x = 0 → Run l Z n0 own code maxL ret nm R Q pc' Ls st h k n) (no : x = 0 → Run l Z n0 own code maxL ret nm R Q pa Ls st h k n) : Run l Z n0 own code maxL ret nm R Q pc Ls (.int x :: st) h k n := by
  subst hq
  by_cases hc : x = 0
  · exact Run.stp (fun p e below T m c t hA hx hb' q => XS.ifNo hA hx rfl (hb hb' hd) rfl (XT.i0_ne_f hc) q) (no (by simpa using hc))
  · exact Run.stp (fun p e below T m c t hA hx hb' q => XS.ifYes hA hx rfl rfl (hb hb' hd) rfl (XT.i0_ne_t hc) ho hp q) (yes hc)
theorem Run.icmp_ne {x y : Int32} {o : Int} {pa : Nat} (hd : decode code pc = .ok (.if_icmp .ne o, 3)) (ho : 0 ≤ (pc : Int) + o) (hp : ((pc : Int) + o).toNat = pc') (hq : pc + 3 = pa)
    (yes : ¬ x = y → Run l Z n0 own code maxL ret nm R Q pc' Ls st h k n) (no : x = y → Run l Z n0 own code maxL ret nm R Q pa Ls st h k n) : Run l Z n0 own code maxL ret nm R Q pc Ls (.int y :: .int x :: st) h k n := by
  subst hq
  by_cases hc : x = y
  · exact Run.stp (fun p e below T m c t hA hx hb' q => XS.icmpNo hA hx rfl (hb hb' hd) rfl (XT.ii_ne_f hc) q) (no (by simpa using hc))
  · exact Run.stp (fun p e below T m c t hA hx hb' q => XS.icmpYes hA hx rfl rfl (hb hb' hd) rfl (XT.ii_ne_t hc) ho hp q) (yes hc)
theorem Run.if_lt {x : Int32} {o : Int} {pa : Nat} (hd : decode code pc = .ok (.ifCond .lt o, 3)) (ho : 0 ≤ (pc : Int) + o) (hp : ((pc : Int) + o).toNat = pc') (hq : pc + 3 = pa)
    (yes : x < 0 → Run l Z n0 own code maxL ret nm R Q pc' Ls st h k n) (no : ¬ x < 0 → Run l Z n0 own code maxL ret nm R Q pa Ls st h k n) : Run l Z n0 own code maxL ret nm R Q pc Ls (.int x :: st) h k n := by
  subst hq
  by_cases hc : x < 0
  · exact Run.stp (fun p e below T m c t hA hx hb' q => XS.ifYes hA hx rfl rfl (hb hb' hd) rfl (XT.i0_lt_t hc) ho hp q) (yes hc)
  · exact Run.stp (fun p e below T m c t hA hx hb' q => XS.ifNo hA hx rfl (hb hb' hd) rfl (XT.i0_lt_f hc) q) (no hc)
theorem Run.icmp_lt {x y : Int32} {o : Int} {pa : Nat} (hd : decode code pc = .ok (.if_icmp .lt o, 3)) (ho : 0 ≤ (pc : Int) + o) (hp : ((pc : Int) + o).toNat = pc') (hq : pc + 3 = pa)
    (yes : x < y → Run l Z n0 own code maxL ret nm R Q pc' Ls st h k n) (no : ¬ x < y → Run l Z n0 own code maxL ret nm R Q pa Ls st h k n) : Run l Z n0 own code maxL ret nm R Q pc Ls (.int y :: .int x :: st) h k n := by
  subst hq
  by_cases hc : x < y
  · exact Run.stp (fun p e below T m c t hA hx hb' q => XS.icmpYes hA hx rfl rfl (hb hb' hd) rfl (XT.ii_lt_t hc) ho hp q) (yes hc)
  · exact Run.stp (fun p e below T m c t hA hx hb' q => XS.icmpNo hA hx rfl (hb hb' hd) rfl (XT.ii_lt_f hc) q) (no hc)
theorem Run.if_ge {x : Int32} {o : Int} {pa : Nat} (hd : decode code pc = .ok (.ifCond .ge o, 3)) (ho : 0 ≤ (pc : Int) + o) (hp : ((pc : Int) + o).toNat = pc') (hq : pc + 3 = pa)
    (yes : ¬ x < 0 → Run l Z n0 own code maxL ret nm R Q pc' Ls st h k n) (no : x < 0 → Run l Z n0 own code maxL ret nm R Q pa Ls st h k n) : Run l Z n0 own code maxL ret nm R Q pc Ls (.int x :: st) h k n := by
  subst hq
  by_cases hc : x < 0
  · exact Run.stp (fun p e below T m c t hA hx hb' q => XS.ifNo hA hx rfl (hb hb' hd) rfl (XT.i0_ge_f hc) q) (no (by simpa using hc))
  · exact Run.stp (fun p e below T m c t hA hx hb' q => XS.ifYes hA hx rfl rfl (hb hb' hd) rfl (XT.i0_ge_t hc) ho hp q) (yes hc)
theorem Run.icmp_ge {x y : Int32} {o : Int} {pa : Nat} (hd : decode code pc = .ok (.if_icmp .ge o, 3)) (ho : 0 ≤ (pc : Int) + o) (hp : ((pc : Int) + o).toNat = pc') (hq : pc + 3 = pa)
    (yes : ¬ x < y → Run l Z n0 own code maxL ret nm R Q pc' Ls st h k n) (no : x < y → Run l Z n0 own code maxL ret nm R Q pa Ls st h k n) : Run l Z n0 own code maxL ret nm R Q pc Ls (.int y :: .int x :: st) h k n := by
  subst hq
  by_cases hc : x < y
  · exact Run.stp (fun p e below T m c t hA hx hb' q => XS.icmpNo hA hx rfl (hb hb' hd) rfl (XT.ii_ge_f hc) q) (no (by simpa using hc))
  · exact Run.stp (fun p e below T m c t hA hx hb' q => XS.icmpYes hA hx rfl rfl (hb hb' hd) rfl (XT.ii_ge_t hc) ho hp q) (yes hc)
theorem Run.if_gt {x : Int32} {o : Int} {pa : Nat} (hd : decode code pc = .ok (.ifCond .gt o, 3)) (ho : 0 ≤ (pc : Int) + o) (hp : ((pc : Int) + o).toNat = pc') (hq : pc + 3 = pa)
    (yes : 0 < x → Run l Z n0 own code maxL ret nm R Q pc' Ls st h k n) (no : ¬ 0 < x → Run l Z n0 own code maxL ret nm R Q pa Ls st h k n) : Run l Z n0 own code maxL ret nm R Q pc Ls (.int x :: st) h k n := by
  subst hq
  by_cases hc : 0 < x
  · exact Run.stp (fun p e below T m c t hA hx hb' q => XS.ifYes hA hx rfl rfl (hb hb' hd) rfl (XT.i0_gt_t hc) ho hp q) (yes hc)
  · exact Run.stp (fun p e below T m c t hA hx hb' q => XS.ifNo hA hx rfl (hb hb' hd) rfl (XT.i0_gt_f hc) q) (no hc)
theorem Run.icmp_gt {x y : Int32} {o : Int} {pa : Nat} (hd : decode code pc = .ok (.if_icmp .gt o, 3)) (ho : 0 ≤ (pc : Int) + o) (hp : ((pc : Int) + o).toNat = pc') (hq : pc + 3 = pa)
    (yes : y < x → Run l Z n0 own code maxL ret nm R Q pc' Ls st h k n) (no : ¬ y < x → Run l Z n0 own code maxL ret nm R Q pa Ls st h k n) : Run l Z n0 own code maxL ret nm R Q pc Ls (.int y :: .int x :: st) h k n := by
  subst hq
  by_cases hc : y < x
  · exact Run.stp (fun p e below T m c t hA hx hb' q => XS.icmpYes hA hx rfl rfl (hb hb' hd) rfl (XT.ii_gt_t hc) ho hp q) (yes hc)
  · exact Run.stp (fun p e below T m c t hA hx hb' q => XS.icmpNo hA hx rfl (hb hb' hd) rfl (XT.ii_gt_f hc) q) (no hc)
theorem Run.if_le {x : Int32} {o : Int} {pa : Nat} (hd : decode code pc = .ok (.ifCond .le o, 3)) (ho : 0 ≤ (pc : Int) + o) (hp : ((pc : Int) + o).toNat = pc') (hq : pc + 3 = pa)
    (yes : ¬ 0 < x → Run l Z n0 own code maxL ret nm R Q pc' Ls st h k n) (no : 0 < x → Run l Z n0 own code maxL ret nm R Q pa Ls st h k n) : Run l Z n0 own code maxL ret nm R Q pc Ls (.int x :: st) h k n := by
  subst hq
  by_cases hc : 0 < x
  · exact Run.stp (fun p e below T m c t hA hx hb' q => XS.ifNo hA hx rfl (hb hb' hd) rfl (XT.i0_le_f hc) q) (no (by simpa using hc))
  · exact Run.stp (fun p e below T m c t hA hx hb' q => XS.ifYes hA hx rfl rfl (hb hb' hd) rfl (XT.i0_le_t hc) ho hp q) (yes hc)
theorem Run.icmp_le {x y : Int32} {o : Int} {pa : Nat} (hd : decode code pc = .ok (.if_icmp .le o, 3)) (ho : 0 ≤ (pc : Int) + o) (hp : ((pc : Int) + o).toNat = pc') (hq : pc + 3 = pa)
    (yes : ¬ y < x → Run l Z n0 own code maxL ret nm R Q pc' Ls st h k n) (no : y < x → Run l Z n0 own code maxL ret nm R Q pa Ls st h k n) : Run l Z n0 own code maxL ret nm R Q pc Ls (.int y :: .int x :: st) h k n := by
  subst hq
  by_cases hc : y < x
  · exact Run.stp (fun p e below T m c t hA hx hb' q => XS.icmpNo hA hx rfl (hb hb' hd) rfl (XT.ii_le_f hc) q) (no (by simpa using hc))
  · exact Run.stp (fun p e below T m c t hA hx hb' q => XS.icmpYes hA hx rfl rfl (hb hb' hd) rfl (XT.ii_le_t hc) ho hp q) (yes hc)
theorem Run.lif_eq {x y : Int64} {o : Int} {pa : Nat} (hd : decode code pc = .ok (.ifCond .eq o, 3)) (ho : 0 ≤ (pc : Int) + o) (hp : ((pc : Int) + o).toNat = pc') (hq : pc + 3 = pa)
    (yes : x = y → Run l Z n0 own code maxL ret nm R Q pc' Ls st h k n) (no : ¬ x = y → Run l Z n0 own code maxL ret nm R Q pa Ls st h k n) : Run l Z n0 own code maxL ret nm R Q pc Ls (.int (XT.cmpL x y) :: st) h k n := by
  subst hq
  by_cases hc : x = y
  · exact Run.stp (fun p e below T m c t hA hx hb' q => XS.ifYes hA hx rfl rfl (hb hb' hd) rfl (XT.ll_eq_t hc) ho hp q) (yes hc)
  · exact Run.stp (fun p e below T m c t hA hx hb' q => XS.ifNo hA hx rfl (hb hb' hd) rfl (XT.ll_eq_f hc) q) (no hc)
theorem Run.lif_ne {x y : Int64} {o : Int} {pa : Nat} (hd : decode code pc = .ok (.ifCond .ne o, 3)) (ho : 0 ≤ (pc : Int) + o) (hp : ((pc : Int) + o).toNat = pc') (hq : pc + 3 = pa)
    (yes : ¬ x = y → Run l Z n0 own code maxL ret nm R Q pc' Ls st h k n) (no : x = y → Run l Z n0 own code maxL ret nm R Q pa Ls st h k n) : Run l Z n0 own code maxL ret nm R Q pc Ls (.int (XT.cmpL x y) :: st) h k n := by
  subst hq
  by_cases hc : x = y
  · exact Run.stp (fun p e below T m c t hA hx hb' q => XS.ifNo hA hx rfl (hb hb' hd) rfl (XT.ll_ne_f hc) q) (no (by simpa using hc))
  · exact Run.stp (fun p e below T m c t hA hx hb' q => XS.ifYes hA hx rfl rfl (hb hb' hd) rfl (XT.ll_ne_t hc) ho hp q) (yes hc)
theorem Run.lif_lt {x y : Int64} {o : Int} {pa : Nat} (hd : decode code pc = .ok (.ifCond .lt o, 3)) (ho : 0 ≤ (pc : Int) + o) (hp : ((pc : Int) + o).toNat = pc') (hq : pc + 3 = pa)
    (yes : x < y → Run l Z n0 own code maxL ret nm R Q pc' Ls st h k n) (no : ¬ x < y → Run l Z n0 own code maxL ret nm R Q pa Ls st h k n) : Run l Z n0 own code maxL ret nm R Q pc Ls (.int (XT.cmpL x y) :: st) h k n := by
  subst hq
  by_cases hc : x < y
  · exact Run.stp (fun p e below T m c t hA hx hb' q => XS.ifYes hA hx rfl rfl (hb hb' hd) rfl (XT.ll_lt_t hc) ho hp q) (yes hc)
  · exact Run.stp (fun p e below T m c t hA hx hb' q => XS.ifNo hA hx rfl (hb hb' hd) rfl (XT.ll_lt_f hc) q) (no hc)
theorem Run.lif_ge {x y : Int64} {o : Int} {pa : Nat} (hd : decode code pc = .ok (.ifCond .ge o, 3)) (ho : 0 ≤ (pc : Int) + o) (hp : ((pc : Int) + o).toNat = pc') (hq : pc + 3 = pa)
    (yes : ¬ x < y → Run l Z n0 own code maxL ret nm R Q pc' Ls st h k n) (no : x < y → Run l Z n0 own code maxL ret nm R Q pa Ls st h k n) : Run l Z n0 own code maxL ret nm R Q pc Ls (.int (XT.cmpL x y) :: st) h k n := by
  subst hq
  by_cases hc : x < y
  · exact Run.stp (fun p e below T m c t hA hx hb' q => XS.ifNo hA hx rfl (hb hb' hd) rfl (XT.ll_ge_f hc) q) (no (by simpa using hc))
  · exact Run.stp (fun p e below T m c t hA hx hb' q => XS.ifYes hA hx rfl rfl (hb hb' hd) rfl (XT.ll_ge_t hc) ho hp q) (yes hc)
theorem Run.lif_gt {x y : Int64} {o : Int} {pa : Nat} (hd : decode code pc = .ok (.ifCond .gt o, 3)) (ho : 0 ≤ (pc : Int) + o) (hp : ((pc : Int) + o).toNat = pc') (hq : pc + 3 = pa)
    (yes : y < x → Run l Z n0 own code maxL ret nm R Q pc' Ls st h k n) (no : ¬ y < x → Run l Z n0 own code maxL ret nm R Q pa Ls st h k n) : Run l Z n0 own code maxL ret nm R Q pc Ls (.int (XT.cmpL x y) :: st) h k n := by
  subst hq
  by_cases hc : y < x
  · exact Run.stp (fun p e below T m c t hA hx hb' q => XS.ifYes hA hx rfl rfl (hb hb' hd) rfl (XT.ll_gt_t hc) ho hp q) (yes hc)
  · exact Run.stp (fun p e below T m c t hA hx hb' q => XS.ifNo hA hx rfl (hb hb' hd) rfl (XT.ll_gt_f hc) q) (no hc)
theorem Run.lif_le {x y : Int64} {o : Int} {pa : Nat} (hd : decode code pc = .ok (.ifCond .le o, 3)) (ho : 0 ≤ (pc : Int) + o) (hp : ((pc : Int) + o).toNat = pc') (hq : pc + 3 = pa)
    (yes : ¬ y < x → Run l Z n0 own code maxL ret nm R Q pc' Ls st h k n) (no : y < x → Run l Z n0 own code maxL ret nm R Q pa Ls st h k n) : Run l Z n0 own code maxL ret nm R Q pc Ls (.int (XT.cmpL x y) :: st) h k n := by
  subst hq
  by_cases hc : y < x
  · exact Run.stp (fun p e below T m c t hA hx hb' q => XS.ifNo hA hx rfl (hb hb' hd) rfl (XT.ll_le_f hc) q) (no (by simpa using hc))
  · exact Run.stp (fun p e below T m c t hA hx hb' q => XS.ifYes hA hx rfl rfl (hb hb' hd) rfl (XT.ll_le_t hc) ho hp q) (yes hc)
theorem Run.acmp_eq {x y : Value} {o : Int} {pa : Nat} (hd : decode code pc = .ok (.if_acmp .eq o, 3)) (hv : x.isRef = true) (hv' : y.isRef = true) (ho : 0 ≤ (pc : Int) + o) (hp : ((pc : Int) + o).toNat = pc') (hq : pc + 3 = pa)
    (yes : x = y → Run l Z n0 own code maxL ret nm R Q pc' Ls st h k n) (no : ¬ x = y → Run l Z n0 own code maxL ret nm R Q pa Ls st h k n) : Run l Z n0 own code maxL ret nm R Q pc Ls (y :: x :: st) h k n := by
  subst hq
  by_cases hc : x = y
  · exact Run.stp (fun p e below T m c t hA hx hb' q => XT.acmpYes hA hx rfl rfl (hb hb' hd) rfl hv hv' (XT.aa_eq_t hc) ho hp q) (yes hc)
  · exact Run.stp (fun p e below T m c t hA hx hb' q => XT.acmpNo hA hx rfl (hb hb' hd) rfl hv hv' (XT.aa_eq_f hc) q) (no hc)
theorem Run.acmp_ne {x y : Value} {o : Int} {pa : Nat} (hd : decode code pc = .ok (.if_acmp .ne o, 3)) (hv : x.isRef = true) (hv' : y.isRef = true) (ho : 0 ≤ (pc : Int) + o) (hp : ((pc : Int) + o).toNat = pc') (hq : pc + 3 = pa)
    (yes : ¬ x = y → Run l Z n0 own code maxL ret nm R Q pc' Ls st h k n) (no : x = y → Run l Z n0 own code maxL ret nm R Q pa Ls st h k n) : Run l Z n0 own code maxL ret nm R Q pc Ls (y :: x :: st) h k n := by
  subst hq
  by_cases hc : x = y
  · exact Run.stp (fun p e below T m c t hA hx hb' q => XT.acmpNo hA hx rfl (hb hb' hd) rfl hv hv' (XT.aa_ne_f hc) q) (no (by simpa using hc))
  · exact Run.stp (fun p e below T m c t hA hx hb' q => XT.acmpYes hA hx rfl rfl (hb hb' hd) rfl hv hv' (XT.aa_ne_t hc) ho hp q) (yes hc)
theorem Run.ifnull {v : Value} {o : Int} {pa : Nat} (hd : decode code pc = .ok (.ifnull o, 3)) (hv : v.isRef = true) (ho : 0 ≤ (pc : Int) + o) (hp : ((pc : Int) + o).toNat = pc') (hq : pc + 3 = pa)
    (yes : v = .null → Run l Z n0 own code maxL ret nm R Q pc' Ls st h k n) (no : ¬ v = .null → Run l Z n0 own code maxL ret nm R Q pa Ls st h k n) : Run l Z n0 own code maxL ret nm R Q pc Ls (v :: st) h k n := by
  subst hq
  by_cases hc : v = .null
  · exact Run.stp (fun p e below T m c t hA hx hb' q => XT.nullYes hA hx rfl rfl (hb hb' hd) rfl hc ho hp q) (yes hc)
  · exact Run.stp (fun p e below T m c t hA hx hb' q => XT.nullNo hA hx rfl (hb hb' hd) rfl hv hc q) (no hc)
theorem Run.ifnonnull {v : Value} {o : Int} {pa : Nat} (hd : decode code pc = .ok (.ifnonnull o, 3)) (hv : v.isRef = true) (ho : 0 ≤ (pc : Int) + o) (hp : ((pc : Int) + o).toNat = pc') (hq : pc + 3 = pa)
    (yes : ¬ v = .null → Run l Z n0 own code maxL ret nm R Q pc' Ls st h k n) (no : v = .null → Run l Z n0 own code maxL ret nm R Q pa Ls st h k n) : Run l Z n0 own code maxL ret nm R Q pc Ls (v :: st) h k n := by
  subst hq
  by_cases hc : v = .null
  · exact Run.stp (fun p e below T m c t hA hx hb' q => XT.nonnullNo hA hx rfl (hb hb' hd) rfl hc q) (no hc)
  · exact Run.stp (fun p e below T m c t hA hx hb' q => XT.nonnullYes hA hx rfl rfl (hb hb' hd) rfl hv hc ho hp q) (yes hc)
/-! the pool's constants, fields, statics -/
theorem Run.ldcI {a0 : Array Value} {i : Nat} {v : Int32} (hd : decode code pc = .ok (.ldc i, 2)) (w : (Cond.constant own i v).before a0 Z = true) (hp : pc + 2 = pc') (nxt : Run l Z n0 own code maxL ret nm R Q pc' Ls (.int v :: st) h k n) : Run l Z n0 own code maxL ret nm R Q pc Ls st h k n := by
  subst hp
  exact Run.via (fun p e s m args below meth c T locs cells slots hC X eT => ⟨T, X, eT, fun t q => X.ldcI hC.1 hC.2.2.1 (mvT hC.2.1 w) rfl (hb hC.2.2.2.1 hd) q⟩) nxt
theorem Run.ldcWI {a0 : Array Value} {i : Nat} {v : Int32} (hd : decode code pc = .ok (.ldc_w i, 3)) (w : (Cond.constant own i v).before a0 Z = true) (hp : pc + 3 = pc') (nxt : Run l Z n0 own code maxL ret nm R Q pc' Ls (.int v :: st) h k n) : Run l Z n0 own code maxL ret nm R Q pc Ls st h k n := by
  subst hp
  exact Run.via (fun p e s m args below meth c T locs cells slots hC X eT => ⟨T, X, eT, fun t q => X.ldcWI hC.1 hC.2.2.1 (mvT hC.2.1 w) rfl (hb hC.2.2.2.1 hd) q⟩) nxt
theorem Run.ldc2J {a0 : Array Value} {i : Nat} {v : Int64} (hd : decode code pc = .ok (.ldc2_w i, 3)) (w : (Cond.constantLong own i v).before a0 Z = true) (hp : pc + 3 = pc') (nxt : Run l Z n0 own code maxL ret nm R Q pc' Ls (.long v :: st) h k n) : Run l Z n0 own code maxL ret nm R Q pc Ls st h k n := by
  subst hp
  exact Run.via (fun p e s m args below meth c T locs cells slots hC X eT => ⟨T, X, eT, fun t q => X.ldc2J hC.1 hC.2.2.1 (mvT hC.2.1 w) rfl (hb hC.2.2.2.1 hd) q⟩) nxt
theorem Run.getS {a0 : Array Value} {R0 O f d host : String} {i : Nat} {v : Value} (hd : decode code pc = .ok (.getstatic i, 3)) (w : (Cond.fieldLink own i R0 f d).before a0 Z = true ∨ (Cond.fieldLinkNest own i R0 f d host).before a0 Z = true) (via : Via Z R0 O f d) (F : Sta Z h O f d v) (hp : pc + 3 = pc') (nxt : Run l Z n0 own code maxL ret nm R Q pc' Ls (v :: st) h k n) : Run l Z n0 own code maxL ret nm R Q pc Ls st h k n := by
  subst hp
  exact Run.via (fun p e s m args below meth c T locs cells slots hC X eT => getS2 X hC.1 hC.2.1 hC.2.2.1 w via eT F (g := mkF m pc Ls st) rfl (hb hC.2.2.2.1 hd)) nxt
theorem Run.getF {a0 : Array Value} {R0 O f d host : String} {i : Nat} {a : Addr} {v : Value} (hd : decode code pc = .ok (.getfield i, 3)) (w : (Cond.fieldLink own i R0 f d).before a0 Z = true ∨ (Cond.fieldLinkNest own i R0 f d host).before a0 Z = true) (via : Via Z R0 O f d) (F : Fld Z h a O f d v) (hp : pc + 3 = pc') (nxt : Run l Z n0 own code maxL ret nm R Q pc' Ls (v :: st) h k n) : Run l Z n0 own code maxL ret nm R Q pc Ls (.ref a :: st) h k n := by
  subst hp
  exact Run.via (fun p e s m args below meth c T locs cells slots hC X eT => getF X hC.1 hC.2.1 hC.2.2.1 w via eT F (g := mkF m pc Ls (.ref a :: st)) rfl rfl (hb hC.2.2.2.1 hd)) nxt
/-! the returns -/
theorem Go.fin {p : Program} {e : Env} {s : State} {m : MethodId} {args : Array Value} {below : List Frame} {meth : Method} {c : Code} {T S : State} {locs : List Loc} {cells slots : Nat} {v : Option Value} (X : Stand p l e R s m args below meth c T locs cells slots) (hv : meth.sig.returnType = none → v = none) (hlk : meth.locks = false) (hF : Fr n0 locs) (hk : cells ≤ R.cells) (hn : slots ≤ R.slots) (hQ : Q v T.heap)
    (f : ∀ fs, (∀ (f : JFrame) (acts : List Action), f.method = m → f.locked = none → f.entered = [] → (doReturn e (T.setTop f) acts v).1 = T.setFrames fs) → Steps p.tables e below S (T.setFrames fs)) : Go p e below s n0 R.cells R.slots Q S := by
  obtain ⟨fs, hr, hrun, hended, hW, hsame⟩ := X.leave (v := v) hv hlk
  exact ⟨_, v, locs, f fs hr, hrun, hended, ⟨hQ, hF⟩, ⟨_, rfl⟩, hW, hsame.mono hk hn⟩
theorem Run.ireturn {z : Int32} (hd : decode code pc = .ok (.ireturn, 1)) (hret : ret = some .int) (hk : k ≤ R.cells) (hn : n ≤ R.slots) (hQ : Q (some (.int z)) h) : Run l Z n0 own code maxL ret nm R Q pc Ls (.int z :: st) h k n := by
  intro p e s m args below meth c T locs cells slots hC X eT hF hk' hn'
  subst eT
  have hr := hC.2.2.2.2.2.1
  exact Go.fin X (fun q => by rw [hr, hret] at q; cases q) hC.2.2.2.2.2.2.1 hF (Nat.le_trans hk' hk) (Nat.le_trans hn' hn) hQ (fun fs hl => retOut X hC.1 (hr.trans hret) rfl (Or.inl ⟨rfl, Or.inl rfl, z, rfl⟩) (hb hC.2.2.2.1 hd) hl)
theorem Run.nreturn {z : Int32} {ty : FieldType} (hd : decode code pc = .ok (.ireturn, 1)) (hret : ret = some ty) (ht : ty = .boolean ∨ ty = .byte ∨ ty = .char ∨ ty = .short) (hk : k ≤ R.cells) (hn : n ≤ R.slots) (hQ : Q (some (.int (nar ty z))) h) : Run l Z n0 own code maxL ret nm R Q pc Ls (.int z :: st) h k n := by
  intro p e s m args below meth c T locs cells slots hC X eT hF hk' hn'
  subst eT
  have hr := hC.2.2.2.2.2.1
  exact Go.fin X (fun q => by rw [hr, hret] at q; cases q) hC.2.2.2.2.2.2.1 hF (Nat.le_trans hk' hk) (Nat.le_trans hn' hn) hQ (fun fs hl => retN X hC.1 (hr.trans hret) ht (hb hC.2.2.2.1 hd) hl)
theorem Run.lreturn {z : Int64} (hd : decode code pc = .ok (.lreturn, 1)) (hret : ret = some .long) (hk : k ≤ R.cells) (hn : n ≤ R.slots) (hQ : Q (some (.long z)) h) : Run l Z n0 own code maxL ret nm R Q pc Ls (.long z :: st) h k n := by
  intro p e s m args below meth c T locs cells slots hC X eT hF hk' hn'
  subst eT
  have hr := hC.2.2.2.2.2.1
  exact Go.fin X (fun q => by rw [hr, hret] at q; cases q) hC.2.2.2.2.2.2.1 hF (Nat.le_trans hk' hk) (Nat.le_trans hn' hn) hQ (fun fs hl => retOut X hC.1 (hr.trans hret) rfl (Or.inr (Or.inl ⟨rfl, rfl, z, rfl⟩)) (hb hC.2.2.2.1 hd) hl)
theorem go_narref {t : FieldType} {w : Value} (ht : t.isReference = true) (hw : w.isRef = true) : narrow t w = w := by
  cases t <;> first | rfl | (cases ht; done) | (cases w <;> first | rfl | cases hw)
theorem Run.areturn {w : Value} {ty : FieldType} (hd : decode code pc = .ok (.areturn, 1)) (hret : ret = some ty) (ht : ty.isReference = true) (hw : w.isRef = true) (hk : k ≤ R.cells) (hn : n ≤ R.slots) (hQ : Q (some w) h) : Run l Z n0 own code maxL ret nm R Q pc Ls (w :: st) h k n := by
  intro p e s m args below meth c T locs cells slots hC X eT hF hk' hn'
  subst eT
  have hr := hC.2.2.2.2.2.1
  exact Go.fin X (fun q => by rw [hr, hret] at q; cases q) hC.2.2.2.2.2.2.1 hF (Nat.le_trans hk' hk) (Nat.le_trans hn' hn) hQ (fun fs hl => retOut X hC.1 (hr.trans hret) (go_narref ht hw) (Or.inr (Or.inr (Or.inr (Or.inr ⟨rfl, ht, hw⟩)))) (hb hC.2.2.2.1 hd) hl)
theorem Run.vreturn (hd : decode code pc = .ok (.return_, 1)) (hret : ret = none) (hk : k ≤ R.cells) (hn : n ≤ R.slots) (hQ : Q none h) : Run l Z n0 own code maxL ret nm R Q pc Ls [] h k n := by
  intro p e s m args below meth c T locs cells slots hC X eT hF hk' hn'
  subst eT
  have hr := hC.2.2.2.2.2.1
  exact Go.fin X (fun _ => rfl) hC.2.2.2.2.2.2.1 hF (Nat.le_trans hk' hk) (Nat.le_trans hn' hn) hQ (fun fs hl => X.returnOut hC.1 (hr.trans hret) (hb hC.2.2.2.1 hd) hl)
/-! calls by a contract -/
theorem Run.callS {a0 : Array Value} {y : MethodName} {bytes : ByteArray} {mL : Nat} {rt : Option FieldType} {rm : Room} {as rest : List Value} {Qy : Option Value → Heap → Prop} {i : Nat} {ps : List FieldType} {rr : Option FieldType}
    (hC : Con l Z n0 y bytes mL rt rm as.toArray h Qy) (hd : decode code pc = .ok (.invokestatic i, 3)) (w1 : (Cond.methodLink own i y).before a0 Z = true) (w2 : (Cond.static y).before a0 Z = true) (w3 : (Cond.initialized y.cls).before a0 Z = true) (w4 : (Cond.code y bytes mL rt).before a0 Z = true)
    (hy : y.cls ≠ "java/lang/invoke/MethodHandle" ∧ y.cls ≠ "java/lang/invoke/VarHandle") (hds : parseMethodDescriptor y.desc = some ⟨ps, rr⟩) (hl : as.length = ps.length) (hst : st = as.reverse ++ rest) (hsz : Ls.size = maxL)
    (hf : rm.frames + 1 ≤ R.frames) (hlo : (rest.map fun v => v.category).sum + (mL + 11) + rm.locals ≤ R.locals) (hk : k + rm.cells ≤ k') (hk' : k' ≤ R.cells) (hn : n + rm.slots ≤ n') (hn' : n' ≤ R.slots) (hp : pc + 3 = pc')
    (nxt : ∀ v h', Qy v h' → Run l Z n0 own code maxL ret nm R Q pc' Ls (v.toList ++ rest) h' k' n') : Run l Z n0 own code maxL ret nm R Q pc Ls st h k n := by
  subst hp hst
  intro p e s m args below meth c T locs cells slots hX X eT hF hc hs
  obtain ⟨hx, hZ, hown, hby, hml, -⟩ := id hX
  obtain ⟨v, vm₁, ⟨B, L', cc, ss⟩, -, X', ⟨Lc, hQ, l1, y1, z1⟩, stp⟩ := Jvm.LawKit.callS X hx (y := y) hown (mvT hZ w1) (mvT hZ w2) (mvT hZ w3) (mvT hZ w4) hy (backOf (W := (rest.map fun v => v.category).sum) (Q := fun v h L => Qy v h ∧ Fr n0 L) (hC []) hZ w4 w3 hf hlo) (g := mkF m pc Ls (as.reverse ++ rest)) rfl (hsz.trans hml.symm) (argsL := as) (rest := rest) (lenOf hds hl) rfl (by show 2 * 0 + _ ≤ _; omega) (hb hby hd) (fun _ _ => ⟨rfl, eT, (by show cells + rm.cells ≤ R.cells; omega), (by show slots + rm.slots ≤ R.slots; omega)⟩)
  dsimp only [Pt.U, Pt.locs, Pt.cells, Pt.slots] at X' l1 y1 z1 stp hQ
  subst l1 y1 z1
  obtain ⟨s₂, v', L, g1, g2⟩ := nxt v _ hQ.1 p e s m args below meth c B _ _ _ hX X' rfl (Fr.app hF hQ.2) (by omega) (by omega)
  exact ⟨s₂, v', L, stp _ g1, g2⟩
theorem Run.callV {a0 : Array Value} {C : String} {y z : MethodName} {bytes : ByteArray} {mL : Nat} {rt : Option FieldType} {rm : Room} {a : Addr} {as rest : List Value} {Qy : Option Value → Heap → Prop} {i : Nat} {ps : List FieldType} {rr : Option FieldType}
    (hC : Con l Z n0 z bytes mL rt rm (.ref a :: as).toArray h Qy) (hE : Exa Z h a C) (hd : decode code pc = .ok (.invokevirtual i, 3)) (w1 : (Cond.methodLink own i y).before a0 Z = true) (w2 : (Cond.declares y).before a0 Z = true) (nf : ∀ (s : State), Z.Warmed39 s.vm → NotFace s y) (w3 : (Cond.selects C y z).before a0 Z = true) (w4 : (Cond.instanceMethod z).before a0 Z = true) (w5 : (Cond.initialized z.cls).before a0 Z = true) (w6 : (Cond.code z bytes mL rt).before a0 Z = true)
    (hy : y.cls ≠ "java/lang/invoke/MethodHandle" ∧ y.cls ≠ "java/lang/invoke/VarHandle") (hds : parseMethodDescriptor y.desc = some ⟨ps, rr⟩) (hl : as.length = ps.length) (hst : st = as.reverse ++ .ref a :: rest) (hsz : Ls.size = maxL)
    (hf : rm.frames + 1 ≤ R.frames) (hlo : (rest.map fun v => v.category).sum + (mL + 11) + rm.locals ≤ R.locals) (hk : k + rm.cells ≤ k') (hk' : k' ≤ R.cells) (hn : n + rm.slots ≤ n') (hn' : n' ≤ R.slots) (hp : pc + 3 = pc')
    (nxt : ∀ v h', Qy v h' → Run l Z n0 own code maxL ret nm R Q pc' Ls (v.toList ++ rest) h' k' n') : Run l Z n0 own code maxL ret nm R Q pc Ls st h k n := by
  subst hp hst
  intro p e s m args below meth c T locs cells slots hX X eT hF hc hs
  obtain ⟨hx, hZ, hown, hby, hml, -⟩ := id hX
  obtain ⟨cq, kq, qa, qb, qc⟩ := isOf hZ eT hE
  obtain ⟨v, vm₁, ⟨B, L', cc, ss⟩, -, X', ⟨Lc, hQ, l1, y1, z1⟩, stp⟩ := X.virtualBack hx (y := y) (z := z) hown (mvT hZ w1) (mvT hZ w2) (nf s hZ) (mvT hZ w3) (mvT hZ w4) hy (backOf (W := (rest.map fun v => v.category).sum) (Q := fun v h L => Qy v h ∧ Fr n0 L) (hC []) hZ w6 w5 hf hlo) qa qc (g := mkF m pc Ls (as.reverse ++ .ref a :: rest)) rfl (hsz.trans hml.symm) (Steps.refl _) (argsL := as) (rest := rest) (lenOf hds hl) rfl (by show 2 * 0 + _ ≤ _; omega) (hb hby hd) (fun _ _ => ⟨rfl, eT, (by show cells + rm.cells ≤ R.cells; omega), (by show slots + rm.slots ≤ R.slots; omega)⟩)
  dsimp only [Pt.U, Pt.locs, Pt.cells, Pt.slots] at X' l1 y1 z1 stp hQ
  subst l1 y1 z1
  obtain ⟨s₂, v', L, g1, g2⟩ := nxt v _ hQ.1 p e s m args below meth c B _ _ _ hX X' rfl (Fr.app hF hQ.2) (by omega) (by omega)
  exact ⟨s₂, v', L, stp.trans g1, g2⟩
theorem Run.callN {a0 : Array Value} {y : MethodName} {bytes : ByteArray} {mL : Nat} {rm : Room} {a : Addr} {as rest : List Value} {P : Heap → Prop} {i : Nat} {ps : List FieldType} {rr : Option FieldType}
    (hC : Con l Z n0 y bytes mL none rm (.ref a :: as).toArray h (Vd P)) (hy1 : y.name = "<init>") (hd : decode code pc = .ok (.invokespecial i, 3)) (w1 : (Cond.methodLink own i y).before a0 Z = true) (w2 : (Cond.instanceMethod y).before a0 Z = true) (w3 : (Cond.initialized y.cls).before a0 Z = true) (w4 : (Cond.code y bytes mL none).before a0 Z = true)
    (hy : y.cls ≠ "java/lang/invoke/MethodHandle" ∧ y.cls ≠ "java/lang/invoke/VarHandle") (hds : parseMethodDescriptor y.desc = some ⟨ps, rr⟩) (hl : as.length = ps.length) (hst : st = as.reverse ++ .ref a :: rest) (hsz : Ls.size = maxL)
    (hf : rm.frames + 1 ≤ R.frames) (hlo : (rest.map fun v => v.category).sum + (mL + 11) + rm.locals ≤ R.locals) (hk : k + rm.cells ≤ k') (hk' : k' ≤ R.cells) (hn : n + rm.slots ≤ n') (hn' : n' ≤ R.slots) (hp : pc + 3 = pc')
    (nxt : ∀ h', P h' → Run l Z n0 own code maxL ret nm R Q pc' Ls rest h' k' n') : Run l Z n0 own code maxL ret nm R Q pc Ls st h k n := by
  subst hp hst
  intro p e s m args below meth c T locs cells slots hX X eT hF hc hs
  obtain ⟨hx, hZ, hown, hby, hml, -⟩ := id hX
  obtain ⟨v, vm₁, ⟨B, L', cc, ss⟩, -, X', ⟨Lc, hQ, l1, y1, z1⟩, stp⟩ := X.specialBack hx (y := y) hy1 hown (mvT hZ w1) (mvT hZ w2) (mvT hZ w4) hy (backOf (W := (rest.map fun v => v.category).sum) (Q := fun v h L => Vd P v h ∧ Fr n0 L) (hC []) hZ w4 w3 hf hlo) (g := mkF m pc Ls (as.reverse ++ .ref a :: rest)) rfl (hsz.trans hml.symm) (Steps.refl _) (a := a) (argsL := as) (rest := rest) (lenOf hds hl) rfl (by show 2 * 0 + _ ≤ _; omega) (hb hby hd) (fun _ _ => ⟨rfl, eT, (by show cells + rm.cells ≤ R.cells; omega), (by show slots + rm.slots ≤ R.slots; omega)⟩)
  dsimp only [Pt.U, Pt.locs, Pt.cells, Pt.slots] at X' l1 y1 z1 stp hQ
  subst l1 y1 z1
  obtain ⟨⟨rfl, hP⟩, hL⟩ := hQ
  obtain ⟨s₂, v', L, g1, g2⟩ := nxt _ hP p e s m args below meth c B _ _ _ hX X' rfl (Fr.app hF hL) (by omega) (by omega)
  exact ⟨s₂, v', L, stp.trans g1, g2⟩
/-! the heap: new objects, fields written, arrays -/
theorem Run.wr {a : Addr} {sl : Nat} {v : Value} {Ls' : Array Slot} {st' : List Value} (f : ∀ (p : Program) (e : Env) (s : State) (m : MethodId) (args : Array Value) (below : List Frame) (meth : Method) (c : Code) (T : State) (locs : List Loc) (cells slots : Nat),
      Ctx Z own code maxL ret nm p s m meth c → Stand p l e R s m args below meth c T locs cells slots → T.heap = h → ∃ T' h', Stand p l e R s m args below meth c T' (locs ++ [⟨a, sl⟩]) cells slots ∧ T'.heap = h' ∧ Wr h h' a sl v ∧ ∀ t, Steps p.tables e below (T'.setTop (mkF m pc' Ls' st')) t → Steps p.tables e below (T.setTop (mkF m pc Ls st)) t)
    (ha : n0 ≤ a) (nxt : ∀ h', Wr h h' a sl v → Run l Z n0 own code maxL ret nm R Q pc' Ls' st' h' k n) : Run l Z n0 own code maxL ret nm R Q pc Ls st h k n := by
  intro p e s m args below meth c T locs cells slots hC X eT hF hk hn
  obtain ⟨T', h', X', e', W, stp⟩ := f p e s m args below meth c T locs cells slots hC X eT
  obtain ⟨s₂, v', L, g1, g2⟩ := nxt h' W p e s m args below meth c T' _ cells slots hC X' e' (Fr.snoc X' hF ha) hk hn
  exact ⟨s₂, v', L, stp _ g1, g2⟩
theorem Run.newO {a0 : Array Value} {C : String} {i sl : Nat} (hd : decode code pc = .ok (.new i, 3)) (w : (Cond.classLink own i C).before a0 Z = true) (wi : (Cond.instantiable C sl).before a0 Z = true) (wz : (Cond.initialized C).before a0 Z = true)
    (hk : k + 1 ≤ k') (hk' : k' ≤ R.cells) (hn : n + sl ≤ n') (hn' : n' ≤ R.slots) (hp : pc + 3 = pc')
    (nxt : ∀ h' a, a = h.size → Ext h h' → Exa Z h' a C → (∀ {O f d : String} {ty : FieldType}, Laid Z a0 C O f d → parseFieldDescriptor d = some ty → Fld Z h' a O f d (defaultValue ty)) → Run l Z n0 own code maxL ret nm R Q pc' Ls (.ref a :: st) h' k' n') : Run l Z n0 own code maxL ret nm R Q pc Ls st h k n := by
  subst hp
  intro p e s m args below meth c T locs cells slots hC X eT hF hkk hnn
  obtain ⟨T', h', X', e', E, A, D, -, stp⟩ := newO X hC.1 hC.2.1 hC.2.2.1 w wi wz eT (g := mkF m pc Ls st) rfl (hb hC.2.2.2.1 hd) (by omega) (by omega)
  obtain ⟨s₂, v, L, g1, g2⟩ := nxt h' h.size rfl E A D p e s m args below meth c T' locs _ _ hC X' e' hF (by omega) (by omega)
  exact ⟨s₂, v, L, stp _ g1, g2⟩
theorem Run.initO {a0 : Array Value} {i : Nat} {a : Addr} (hd : decode code pc = .ok (.invokespecial i, 3)) (w1 : (Cond.methodLink own i Lib.objectInit).before a0 Z = true) (w2 : (Cond.instanceMethod Lib.objectInit).before a0 Z = true) (w3 : (Cond.code Lib.objectInit ⟨#[0xb1]⟩ 1 none).before a0 Z = true)
    (hsz : Ls.size = maxL) (hf : 1 ≤ R.frames) (hl : (st.map fun v => v.category).sum + 12 ≤ R.locals) (hp : pc + 3 = pc') (nxt : Run l Z n0 own code maxL ret nm R Q pc' Ls st h k n) : Run l Z n0 own code maxL ret nm R Q pc Ls (.ref a :: st) h k n := by
  subst hp
  exact Run.via (fun p e s m args below meth c T locs cells slots hC X eT => initO X hC.1 hC.2.1 hC.2.2.1 w1 w2 w3 eT (g := mkF m pc Ls (.ref a :: st)) rfl (hsz.trans hC.2.2.2.2.1.symm) rfl (hb hC.2.2.2.1 hd) hf (W := (st.map fun v => v.category).sum) (by show 2 * 0 + _ ≤ _; omega) hl) nxt
theorem Run.putF {a0 : Array Value} {R0 O f d host C : String} {i sl : Nat} {ty : FieldType} {a : Addr} {v old : Value} (hd : decode code pc = .ok (.putfield i, 3)) (w : (Cond.fieldLink own i R0 f d).before a0 Z = true ∨ (Cond.fieldLinkNest own i R0 f d host).before a0 Z = true) (via : Via Z R0 O f d) (F : Fld Z h a O f d old) (E : Exa Z h a C)
    (L : (Cond.lays C O f d).before a0 Z = true ∨ ((Cond.laysFinal C O f d).before a0 Z = true ∧ own = O ∧ nm = "<init>")) (wi : (Cond.instantiable C sl).before a0 Z = true) (hty : parseFieldDescriptor d = some ty) (hnv : narrow ty v = v) (hfv : fits ty v = true) (ha : n0 ≤ a) (hp : pc + 3 = pc')
    (nxt : ∀ h', Wr h h' a (Jvm.RoadKit.slotOf Z O f d) v → Run l Z n0 own code maxL ret nm R Q pc' Ls st h' k n) : Run l Z n0 own code maxL ret nm R Q pc Ls (v :: .ref a :: st) h k n := by
  subst hp
  exact Run.wr (fun p e s m args below meth c T locs cells slots hC X eT => putF X hC.1 hC.2.1 hC.2.2.1 w via eT F E (L.imp id fun q => ⟨q.1, q.2.1, hC.2.2.2.2.2.2.2.trans q.2.2⟩) wi hty hnv hfv (g := mkF m pc Ls (v :: .ref a :: st)) rfl rfl (hb hC.2.2.2.1 hd)) ha nxt
theorem Run.putFN {a0 : Array Value} {R0 O f d C : String} {i sl : Nat} {ty : FieldType} {a : Addr} {v v' old : Value} (hd : decode code pc = .ok (.putfield i, 3)) (w : (Cond.fieldLink own i R0 f d).before a0 Z = true) (via : Via Z R0 O f d) (F : Fld Z h a O f d old) (E : Exa Z h a C)
    (L : (Cond.lays C O f d).before a0 Z = true ∨ ((Cond.laysFinal C O f d).before a0 Z = true ∧ own = O ∧ nm = "<init>")) (wi : (Cond.instantiable C sl).before a0 Z = true) (hty : parseFieldDescriptor d = some ty) (hnv : narrow ty v = v') (hfv : fits ty v' = true) (ha : n0 ≤ a) (hp : pc + 3 = pc')
    (nxt : ∀ h', Wr h h' a (Jvm.RoadKit.slotOf Z O f d) v' → Run l Z n0 own code maxL ret nm R Q pc' Ls st h' k n) : Run l Z n0 own code maxL ret nm R Q pc Ls (v :: .ref a :: st) h k n := by
  subst hp
  exact Run.wr (fun p e s m args below meth c T locs cells slots hC X eT => putFN X hC.1 hC.2.1 hC.2.2.1 w via eT F E (L.imp id fun q => ⟨q.1, q.2.1, hC.2.2.2.2.2.2.2.trans q.2.2⟩) wi hty hnv hfv (g := mkF m pc Ls (v :: .ref a :: st)) rfl rfl (hb hC.2.2.2.1 hd)) ha nxt
theorem Run.castY {a0 : Array Value} {K : String} {i : Nat} {a : Addr} (hd : decode code pc = .ok (.checkcast i, 3)) (w : (Cond.classLink own i K).before a0 Z = true) (F : Ins Z h a K true) (hp : pc + 3 = pc') (nxt : Run l Z n0 own code maxL ret nm R Q pc' Ls (.ref a :: st) h k n) : Run l Z n0 own code maxL ret nm R Q pc Ls (.ref a :: st) h k n := by
  subst hp
  exact Run.via (fun p e s m args below meth c T locs cells slots hC X eT => castY X hC.1 hC.2.1 hC.2.2.1 w eT F (g := mkF m pc Ls (.ref a :: st)) rfl rfl (hb hC.2.2.2.1 hd)) nxt
theorem Run.castNull {i : Nat} (hd : decode code pc = .ok (.checkcast i, 3)) (hp : pc + 3 = pc') (nxt : Run l Z n0 own code maxL ret nm R Q pc' Ls (.null :: st) h k n) : Run l Z n0 own code maxL ret nm R Q pc Ls (.null :: st) h k n := by
  subst hp
  exact Run.via (fun p e s m args below meth c T locs cells slots hC X eT => ⟨T, X, eT, fun t q => X.checkcastNull hC.1 (g := mkF m pc Ls (.null :: st)) rfl rfl (hb hC.2.2.2.1 hd) t q⟩) nxt
theorem Run.instY {a0 : Array Value} {K : String} {i : Nat} {a : Addr} (hd : decode code pc = .ok (.instanceof i, 3)) (w : (Cond.classLink own i K).before a0 Z = true) (F : Ins Z h a K true) (hp : pc + 3 = pc') (nxt : Run l Z n0 own code maxL ret nm R Q pc' Ls (.int 1 :: st) h k n) : Run l Z n0 own code maxL ret nm R Q pc Ls (.ref a :: st) h k n := by
  subst hp
  exact Run.via (fun p e s m args below meth c T locs cells slots hC X eT => instY X hC.1 hC.2.1 hC.2.2.1 w eT F (g := mkF m pc Ls (.ref a :: st)) rfl rfl (hb hC.2.2.2.1 hd)) nxt
theorem Run.instNo {a0 : Array Value} {K C : String} {i : Nat} {a : Addr} (hd : decode code pc = .ok (.instanceof i, 3)) (w : (Cond.classLink own i K).before a0 Z = true) (E : Exa Z h a C) (F : ∃ c t, Z.vm.findClass C = some c ∧ Z.vm.findClass K = some t ∧ Z.vm.assignable c t = false) (hp : pc + 3 = pc') (nxt : Run l Z n0 own code maxL ret nm R Q pc' Ls (.int 0 :: st) h k n) : Run l Z n0 own code maxL ret nm R Q pc Ls (.ref a :: st) h k n := by
  subst hp
  exact Run.via (fun p e s m args below meth c T locs cells slots hC X eT => instNo X hC.1 hC.2.1 hC.2.2.1 w eT E F (g := mkF m pc Ls (.ref a :: st)) rfl rfl (hb hC.2.2.2.1 hd)) nxt
theorem Run.instNull {i : Nat} (hd : decode code pc = .ok (.instanceof i, 3)) (hp : pc + 3 = pc') (nxt : Run l Z n0 own code maxL ret nm R Q pc' Ls (.int 0 :: st) h k n) : Run l Z n0 own code maxL ret nm R Q pc Ls (.null :: st) h k n := by
  subst hp
  exact Run.via (fun p e s m args below meth c T locs cells slots hC X eT => ⟨T, X, eT, fun t q => X.instanceofNull hC.1 (g := mkF m pc Ls (.null :: st)) rfl rfl (hb hC.2.2.2.1 hd) t q⟩) nxt
/-- the array at a holds just the list vs -/
def Ary (Z : State) (h : Heap) (a : Addr) (ty : FieldType) (vs : List Value) : Prop := ∃ c : Cell, Arr Z h a c ty ∧ c.slots.toList = vs
section Ar
variable {h' : Heap} {a b : Addr} {ty : FieldType} {vs : List Value} {sl : Nat} {v : Value} {ws : List Addr}
theorem Ary.lt (F : Ary Z h a ty vs) : a < h.size := by obtain ⟨c, A, -⟩ := F; exact A.lt
theorem Ary.ext (F : Ary Z h a ty vs) (E : Ext h h') : Ary Z h' a ty vs := by obtain ⟨c, A, r⟩ := F; exact ⟨c, A.ext E, r⟩
theorem Ary.other (F : Ary Z h b ty vs) (W : Wr h h' a sl v) (q : b ≠ a) : Ary Z h' b ty vs := by obtain ⟨c, A, r⟩ := F; exact ⟨c, A.other W q, r⟩
theorem Ary.keep (F : Ary Z h a ty vs) (K : Keep h h' ws) (q : a ∉ ws) : Ary Z h' a ty vs := by obtain ⟨c, A, r⟩ := F; exact ⟨c, ⟨K.2.1 a c A.1 q, A.2⟩, r⟩
theorem Ary.set (F : Ary Z h a ty vs) (W : Wr h h' a sl v) : Ary Z h' a ty (vs.set sl v) := by
  obtain ⟨c, A, r⟩ := F
  exact ⟨_, A.same W, by rw [← r]; simp [Cell.setSlot]⟩
theorem Ext.refl (h : Heap) : Ext h h := ⟨Nat.le_refl _, fun _ _ q => q⟩
theorem Ext.trans {h0 : Heap} (E : Ext h0 h) (E' : Ext h h') : Ext h0 h' := ⟨Nat.le_trans E.1 E'.1, fun a c q => E'.2 a c (E.2 a c q)⟩
theorem Ext.wr {h0 : Heap} (E : Ext h0 h) (W : Wr h h' a sl v) (q : h0.size ≤ a) : Ext h0 h' := by
  refine ⟨Nat.le_trans E.1 (Nat.le_of_eq W.size.symm), fun b c hb => ?_⟩
  obtain ⟨c', e1, -, -, -, e5, -⟩ := wr_at W (E.2 b c hb)
  have : b ≠ a := fun z => by subst z; exact absurd (Array.getElem?_eq_some_iff.mp hb).1 (Nat.not_lt.mpr q)
  rw [← e5 this]; exact e1
theorem Ext.keep {h0 : Heap} (E : Ext h0 h) (K : Keep h h' ws) (q : ∀ x ∈ ws, h0.size ≤ x) : Ext h0 h' :=
  ⟨Nat.le_trans E.1 K.1, fun b c hb => K.2.1 b c (E.2 b c hb) fun z => absurd (Array.getElem?_eq_some_iff.mp hb).1 (Nat.not_lt.mpr (q b z))⟩
theorem Keep.toExt (K : Keep h h' []) : Ext h h' := ⟨K.1, fun b c hb => K.2.1 b c hb nin0⟩
theorem own_fitsR {t : FieldType} (ht : refKind t = true) (hv : v.isRef = true) : fits t v = true := by cases t <;> first | (cases ht; done) | (cases v <;> first | rfl | cases hv)
theorem nst_exa {C : String} (E : Exa Z h a C) : ∃ c : Cell, h[a]? = some c ∧ c.vm.isStatics = false := by obtain ⟨c, _, h1, -, -, h4, -⟩ := E; exact ⟨c, h1, h4⟩
theorem nst_ary (A : Ary Z h a ty vs) : ∃ c : Cell, h[a]? = some c ∧ c.vm.isStatics = false := by obtain ⟨c, A, -⟩ := A; exact ⟨c, A.1, A.plain⟩
theorem sta_keep {C f d : String} (F : Sta Z h C f d v) (K : Keep h h' ws) (q : ∀ x ∈ ws, ∃ c : Cell, h[x]? = some c ∧ c.vm.isStatics = false) : Sta Z h' C f d v := by
  obtain ⟨cf, i, k, f, st, cell, h1, h2, h3, h4, h5, h6, h7⟩ := F
  refine ⟨cf, i, k, f, st, cell, h1, h2, h3, h4, K.2.1 st cell h5 fun hx => ?_, h6, h7⟩
  obtain ⟨c, e1, e2⟩ := q st hx
  cases e1.symm.trans h5
  rw [h6] at e2; cases e2
theorem Keep.ofExt (E : Ext h h') : Keep h h' [] := (Keep.refl h []).ext E
theorem idxIn {c : Cell} {j : Int32} {i : Nat} (hj : j.toInt = (i : Int)) (hi : i < c.slots.size) : ¬ (j < 0 ∨ c.slots.size ≤ j.toNatClampNeg) ∧ j.toNatClampNeg = i := by
  have e : j.toNatClampNeg = i := by have : j.toNatClampNeg = j.toInt.toNat := rfl; rw [this, hj]; rfl
  refine ⟨fun q => ?_, e⟩
  rcases q with q | q
  · rw [Int32.lt_iff_toInt_lt, hj] at q; have : (0 : Int32).toInt = 0 := rfl; omega
  · omega
theorem sizeOf {c : Cell} (r : c.slots.toList = vs) : c.slots.size = vs.length := by rw [← r]; simp
theorem getOf {c : Cell} {i : Nat} (r : c.slots.toList = vs) (hv : vs[i]? = some v) : c.slots[i]? = some v := by rw [← r] at hv; simpa using hv
end Ar
theorem ns_root {a0 : Array Value} {O K : String} {m : Nat} (w : (Cond.noSuperclass O).before a0 Z = true) (wk : (Cond.instantiable K m).before a0 Z = true) (hn : O ≠ K) : NS Z O K := by
  obtain ⟨c, k, h1, h2, h3, -, -⟩ := Cond.noSuperclass_spec w
  obtain ⟨t, k2, g1, -⟩ := Cond.instantiable_spec wk
  have ne := ids_ne h1 g1 hn
  refine ⟨c, t, h1, g1, fun fuel => ?_⟩
  cases fuel with
  | zero => rfl
  | succ f => simp [Vm.isSubclassAux, ne, h2, h3]
theorem ns_no {a0 : Array Value} {C S K : String} {m : Nat} (w : (Cond.superclass C S).before a0 Z = true) (wk : (Cond.instantiable K m).before a0 Z = true) (n : NS Z C K) (hn : C ≠ K) : ∃ c t, Z.vm.findClass C = some c ∧ Z.vm.findClass K = some t ∧ Z.vm.assignable c t = false := by
  obtain ⟨c, t, h0, g0, n3⟩ := n
  obtain ⟨p, k, kp, h1, h2, h3, h4, h5, -, h7⟩ := Cond.superclass_spec h0 w
  obtain ⟨t', k', g1, g2, g5, g7, -⟩ := Cond.instantiable_spec wk
  cases g0.symm.trans g1
  have ne := ids_ne h0 g0 hn
  have g8 : k'.isInterface = false := by cases hq : k'.isInterface <;> simp [hq] at g7 ⊢
  refine ⟨c, t, h0, g0, ?_⟩
  show Z.vm.assignableAux (255 + 1) c t = false
  simp [Vm.assignableAux, ne, h2, g2, h5, g5, g8, Vm.isSubclass, n3]
theorem Run.alen {a : Addr} {ty : FieldType} {vs : List Value} {z : Int32} (hd : decode code pc = .ok (.arraylength, 1)) (A : Ary Z h a ty vs) (hz : vs.length.toInt32 = z) (hp : pc + 1 = pc') (nxt : Run l Z n0 own code maxL ret nm R Q pc' Ls (.int z :: st) h k n) : Run l Z n0 own code maxL ret nm R Q pc Ls (.ref a :: st) h k n := by
  subst hp hz
  obtain ⟨c0, A, r⟩ := A
  exact Run.via (fun p e s m args below meth c T locs cells slots hC X eT => ⟨T, X, eT, fun t q => X.arraylength hC.1 (by rw [eT]; exact A.1) (State.isArrayOf_alike hC.2.1.alike A.2.1) (g := mkF m pc Ls (.ref a :: st)) rfl rfl (hb hC.2.2.2.1 hd) t (by rw [sizeOf r]; exact q)⟩) nxt
theorem Run.iaload {a : Addr} {vs : List Value} {j : Int32} {i : Nat} {v : Value} (hd : decode code pc = .ok (.iaload, 1)) (A : Ary Z h a .int vs) (hj : j.toInt = (i : Int)) (hv : vs[i]? = some v) (hp : pc + 1 = pc') (nxt : Run l Z n0 own code maxL ret nm R Q pc' Ls (v :: st) h k n) : Run l Z n0 own code maxL ret nm R Q pc Ls (.int j :: .ref a :: st) h k n := by
  subst hp
  obtain ⟨c0, A, r⟩ := A
  obtain ⟨hin, e0⟩ := idxIn (c := c0) hj (by rw [sizeOf r]; exact (List.getElem?_eq_some_iff.mp hv).1)
  exact Run.via (fun p e s m args below meth c T locs cells slots hC X eT => ⟨T, X, eT, fun t q => X.iaload hC.1 (by rw [eT]; exact A.1) (State.isArrayOf_alike hC.2.1.alike A.2.1) A.2.2 hin (by rw [e0]; exact getOf r hv) (g := mkF m pc Ls (.int j :: .ref a :: st)) rfl rfl (hb hC.2.2.2.1 hd) t q⟩) nxt
theorem Run.laload {a : Addr} {vs : List Value} {j : Int32} {i : Nat} {v : Value} (hd : decode code pc = .ok (.laload, 1)) (A : Ary Z h a .long vs) (hj : j.toInt = (i : Int)) (hv : vs[i]? = some v) (hp : pc + 1 = pc') (nxt : Run l Z n0 own code maxL ret nm R Q pc' Ls (v :: st) h k n) : Run l Z n0 own code maxL ret nm R Q pc Ls (.int j :: .ref a :: st) h k n := by
  subst hp
  obtain ⟨c0, A, r⟩ := A
  obtain ⟨hin, e0⟩ := idxIn (c := c0) hj (by rw [sizeOf r]; exact (List.getElem?_eq_some_iff.mp hv).1)
  exact Run.via (fun p e s m args below meth c T locs cells slots hC X eT => ⟨T, X, eT, fun t q => X.laload hC.1 (by rw [eT]; exact A.1) (State.isArrayOf_alike hC.2.1.alike A.2.1) A.2.2 hin (by rw [e0]; exact getOf r hv) (g := mkF m pc Ls (.int j :: .ref a :: st)) rfl rfl (hb hC.2.2.2.1 hd) t q⟩) nxt
theorem Run.caload {a : Addr} {vs : List Value} {j : Int32} {i : Nat} {v : Value} (hd : decode code pc = .ok (.caload, 1)) (A : Ary Z h a .char vs) (hj : j.toInt = (i : Int)) (hv : vs[i]? = some v) (hp : pc + 1 = pc') (nxt : Run l Z n0 own code maxL ret nm R Q pc' Ls (v :: st) h k n) : Run l Z n0 own code maxL ret nm R Q pc Ls (.int j :: .ref a :: st) h k n := by
  subst hp
  obtain ⟨c0, A, r⟩ := A
  obtain ⟨hin, e0⟩ := idxIn (c := c0) hj (by rw [sizeOf r]; exact (List.getElem?_eq_some_iff.mp hv).1)
  exact Run.via (fun p e s m args below meth c T locs cells slots hC X eT => ⟨T, X, eT, fun t q => X.caload hC.1 (by rw [eT]; exact A.1) (State.isArrayOf_alike hC.2.1.alike A.2.1) A.2.2 hin (by rw [e0]; exact getOf r hv) (g := mkF m pc Ls (.int j :: .ref a :: st)) rfl rfl (hb hC.2.2.2.1 hd) t q⟩) nxt
theorem Run.saload {a : Addr} {vs : List Value} {j : Int32} {i : Nat} {v : Value} (hd : decode code pc = .ok (.saload, 1)) (A : Ary Z h a .short vs) (hj : j.toInt = (i : Int)) (hv : vs[i]? = some v) (hp : pc + 1 = pc') (nxt : Run l Z n0 own code maxL ret nm R Q pc' Ls (v :: st) h k n) : Run l Z n0 own code maxL ret nm R Q pc Ls (.int j :: .ref a :: st) h k n := by
  subst hp
  obtain ⟨c0, A, r⟩ := A
  obtain ⟨hin, e0⟩ := idxIn (c := c0) hj (by rw [sizeOf r]; exact (List.getElem?_eq_some_iff.mp hv).1)
  exact Run.via (fun p e s m args below meth c T locs cells slots hC X eT => ⟨T, X, eT, fun t q => X.saload hC.1 (by rw [eT]; exact A.1) (State.isArrayOf_alike hC.2.1.alike A.2.1) A.2.2 hin (by rw [e0]; exact getOf r hv) (g := mkF m pc Ls (.int j :: .ref a :: st)) rfl rfl (hb hC.2.2.2.1 hd) t q⟩) nxt
theorem Run.baload {a : Addr} {vs : List Value} {j : Int32} {i : Nat} {v : Value} (hd : decode code pc = .ok (.baload, 1)) (A : Ary Z h a .byte vs) (hj : j.toInt = (i : Int)) (hv : vs[i]? = some v) (hp : pc + 1 = pc') (nxt : Run l Z n0 own code maxL ret nm R Q pc' Ls (v :: st) h k n) : Run l Z n0 own code maxL ret nm R Q pc Ls (.int j :: .ref a :: st) h k n := by
  subst hp
  obtain ⟨c0, A, r⟩ := A
  obtain ⟨hin, e0⟩ := idxIn (c := c0) hj (by rw [sizeOf r]; exact (List.getElem?_eq_some_iff.mp hv).1)
  exact Run.via (fun p e s m args below meth c T locs cells slots hC X eT => ⟨T, X, eT, fun t q => X.baloadBytes hC.1 (by rw [eT]; exact A.1) (State.isArrayOf_alike hC.2.1.alike A.2.1) A.2.2 hin (by rw [e0]; exact getOf r hv) (g := mkF m pc Ls (.int j :: .ref a :: st)) rfl rfl (hb hC.2.2.2.1 hd) t q⟩) nxt
theorem Run.aaload {a : Addr} {vs : List Value} {j : Int32} {i : Nat} {v : Value} {ty : FieldType} (hd : decode code pc = .ok (.aaload, 1)) (A : Ary Z h a ty vs) (hty : ty.isReference = true) (hj : j.toInt = (i : Int)) (hv : vs[i]? = some v) (hp : pc + 1 = pc') (nxt : Run l Z n0 own code maxL ret nm R Q pc' Ls (v :: st) h k n) : Run l Z n0 own code maxL ret nm R Q pc Ls (.int j :: .ref a :: st) h k n := by
  subst hp
  obtain ⟨c0, A, r⟩ := A
  obtain ⟨hin, e0⟩ := idxIn (c := c0) hj (by rw [sizeOf r]; exact (List.getElem?_eq_some_iff.mp hv).1)
  exact Run.via (fun p e s m args below meth c T locs cells slots hC X eT => ⟨T, X, eT, fun t q => X.aaload hC.1 (by rw [eT]; exact A.1) (State.isArrayOf_alike hC.2.1.alike A.2.1) hty A.2.2 hin (by rw [e0]; exact getOf r hv) (g := mkF m pc Ls (.int j :: .ref a :: st)) rfl rfl (hb hC.2.2.2.1 hd) t q⟩) nxt
theorem Run.iastore {a : Addr} {vs : List Value} {j : Int32} {i : Nat} {x : Int32} (hd : decode code pc = .ok (.iastore, 1)) (A : Ary Z h a .int vs) (hj : j.toInt = (i : Int)) (hi : i < vs.length) (ha : n0 ≤ a) (hp : pc + 1 = pc') (nxt : ∀ h', Wr h h' a i (.int x) → Ary Z h' a .int (vs.set i (.int x)) → Run l Z n0 own code maxL ret nm R Q pc' Ls st h' k n) : Run l Z n0 own code maxL ret nm R Q pc Ls (.int x :: .int j :: .ref a :: st) h k n := by
  subst hp
  have A' := A
  obtain ⟨c0, A, r⟩ := A
  obtain ⟨hin, e0⟩ := idxIn (c := c0) hj (by rw [sizeOf r]; exact hi)
  refine Run.wr (fun p e s m args below meth c T locs cells slots hC X eT => ?_) ha (fun h' W => nxt h' W (A'.set W))
  have q := stI X hC.1 hC.2.1 eT A hin (g := mkF m pc Ls (.int x :: .int j :: .ref a :: st)) rfl rfl (hb hC.2.2.2.1 hd)
  rw [e0] at q
  exact q
theorem Run.lastore {a : Addr} {vs : List Value} {j : Int32} {i : Nat} {x : Int64} (hd : decode code pc = .ok (.lastore, 1)) (A : Ary Z h a .long vs) (hj : j.toInt = (i : Int)) (hi : i < vs.length) (ha : n0 ≤ a) (hp : pc + 1 = pc') (nxt : ∀ h', Wr h h' a i (.long x) → Ary Z h' a .long (vs.set i (.long x)) → Run l Z n0 own code maxL ret nm R Q pc' Ls st h' k n) : Run l Z n0 own code maxL ret nm R Q pc Ls (.long x :: .int j :: .ref a :: st) h k n := by
  subst hp
  have A' := A
  obtain ⟨c0, A, r⟩ := A
  obtain ⟨hin, e0⟩ := idxIn (c := c0) hj (by rw [sizeOf r]; exact hi)
  refine Run.wr (fun p e s m args below meth c T locs cells slots hC X eT => ?_) ha (fun h' W => nxt h' W (A'.set W))
  have q := stJ X hC.1 hC.2.1 eT A hin (g := mkF m pc Ls (.long x :: .int j :: .ref a :: st)) rfl rfl (hb hC.2.2.2.1 hd)
  rw [e0] at q
  exact q
theorem Run.castore {a : Addr} {vs : List Value} {j : Int32} {i : Nat} {x : Int32} (hd : decode code pc = .ok (.castore, 1)) (A : Ary Z h a .char vs) (hj : j.toInt = (i : Int)) (hi : i < vs.length) (ha : n0 ≤ a) (hp : pc + 1 = pc') (nxt : ∀ h', Wr h h' a i (.int (nar .char x)) → Ary Z h' a .char (vs.set i (.int (nar .char x))) → Run l Z n0 own code maxL ret nm R Q pc' Ls st h' k n) : Run l Z n0 own code maxL ret nm R Q pc Ls (.int x :: .int j :: .ref a :: st) h k n := by
  subst hp
  have A' := A
  obtain ⟨c0, A, r⟩ := A
  obtain ⟨hin, e0⟩ := idxIn (c := c0) hj (by rw [sizeOf r]; exact hi)
  refine Run.wr (fun p e s m args below meth c T locs cells slots hC X eT => ?_) ha (fun h' W => nxt h' W (A'.set W))
  have q := stC X hC.1 hC.2.1 eT A hin (g := mkF m pc Ls (.int x :: .int j :: .ref a :: st)) rfl rfl (hb hC.2.2.2.1 hd)
  rw [e0] at q
  exact q
theorem Run.sastore {a : Addr} {vs : List Value} {j : Int32} {i : Nat} {x : Int32} (hd : decode code pc = .ok (.sastore, 1)) (A : Ary Z h a .short vs) (hj : j.toInt = (i : Int)) (hi : i < vs.length) (ha : n0 ≤ a) (hp : pc + 1 = pc') (nxt : ∀ h', Wr h h' a i (.int (nar .short x)) → Ary Z h' a .short (vs.set i (.int (nar .short x))) → Run l Z n0 own code maxL ret nm R Q pc' Ls st h' k n) : Run l Z n0 own code maxL ret nm R Q pc Ls (.int x :: .int j :: .ref a :: st) h k n := by
  subst hp
  have A' := A
  obtain ⟨c0, A, r⟩ := A
  obtain ⟨hin, e0⟩ := idxIn (c := c0) hj (by rw [sizeOf r]; exact hi)
  refine Run.wr (fun p e s m args below meth c T locs cells slots hC X eT => ?_) ha (fun h' W => nxt h' W (A'.set W))
  have q := stS X hC.1 hC.2.1 eT A hin (g := mkF m pc Ls (.int x :: .int j :: .ref a :: st)) rfl rfl (hb hC.2.2.2.1 hd)
  rw [e0] at q
  exact q
theorem Run.bastore {a : Addr} {vs : List Value} {j : Int32} {i : Nat} {x : Int32} (hd : decode code pc = .ok (.bastore, 1)) (A : Ary Z h a .byte vs) (hj : j.toInt = (i : Int)) (hi : i < vs.length) (ha : n0 ≤ a) (hp : pc + 1 = pc') (nxt : ∀ h', Wr h h' a i (.int (nar .byte x)) → Ary Z h' a .byte (vs.set i (.int (nar .byte x))) → Run l Z n0 own code maxL ret nm R Q pc' Ls st h' k n) : Run l Z n0 own code maxL ret nm R Q pc Ls (.int x :: .int j :: .ref a :: st) h k n := by
  subst hp
  have A' := A
  obtain ⟨c0, A, r⟩ := A
  obtain ⟨hin, e0⟩ := idxIn (c := c0) hj (by rw [sizeOf r]; exact hi)
  refine Run.wr (fun p e s m args below meth c T locs cells slots hC X eT => ?_) ha (fun h' W => nxt h' W (A'.set W))
  have q := stB X hC.1 hC.2.1 eT A hin (g := mkF m pc Ls (.int x :: .int j :: .ref a :: st)) rfl rfl (hb hC.2.2.2.1 hd)
  rw [e0] at q
  exact q
theorem Run.newP {a0 : Array Value} {aty : ArrayType} {ty : FieldType} {z : Int32} {cap m : Nat} {dv : Value} (hd : decode code pc = .ok (.newarray aty, 2)) (hty : newarray.typeOf aty = ty) (w : (Cond.arrayClass ty).before a0 Z = true) (hz : ¬ z < 0) (hcap : z.toNatClampNeg = m) (hm : m ≤ cap) (hdv : defaultValue ty = dv) (hcb : cap * 8 ≤ 536870912)
    (hk : k + 1 ≤ k') (hk' : k' ≤ R.cells) (hn : n + cap ≤ n') (hn' : n' ≤ R.slots) (hp : pc + 2 = pc')
    (nxt : ∀ h' a, a = h.size → Ext h h' → Ary Z h' a ty (List.replicate m dv) → Run l Z n0 own code maxL ret nm R Q pc' Ls (.ref a :: st) h' k' n') : Run l Z n0 own code maxL ret nm R Q pc Ls (.int z :: st) h k n := by
  subst hp hty hdv
  intro p e s m args below meth c T locs cells slots hC X eT hF hkk hnn
  obtain ⟨T', h', cA, X', e', E, A, stp⟩ := newP X hC.1 hC.2.1 w eT (g := mkF m pc Ls (.int z :: st)) rfl (hb hC.2.2.2.1 hd) rfl hz (by omega) hcb (by omega) (by omega)
  obtain ⟨s₂, v, L, g1, g2⟩ := nxt h' h.size rfl E ⟨_, A, by simp [newA, hcap]⟩ p e s m args below meth c T' locs _ _ hC X' e' hF (by omega) (by omega)
  exact ⟨s₂, v, L, stp _ g1, g2⟩
theorem Ary.toArv {h : Heap} {a : Addr} {ty : FieldType} {vs : List Value} {z : Int32} (dv : Value) (F : Ary Z h a ty vs) (hz : z.toInt = (vs.length : Int)) (hf : ∀ v ∈ vs, fits ty v = true) : ∃ kc, Arv Z h a kc ty z vs dv := by
  obtain ⟨c, A, r⟩ := F
  have hsz := sizeOf r
  have e : z.toNatClampNeg = vs.length := by have : z.toNatClampNeg = z.toInt.toNat := rfl; rw [this, hz]; rfl
  refine ⟨c.cls, c, A, rfl, by rw [e, hsz], ?_, fun j hj => ?_, fun j hj => ?_⟩
  · rw [Int32.lt_iff_toInt_lt, hz]; have : (0 : Int32).toInt = 0 := rfl; omega
  · have hj' : j < vs.length := by omega
    rw [getOf r (List.getElem?_eq_getElem hj')]
    simp [List.getD_eq_getElem?_getD, List.getElem?_eq_getElem hj']
  · have hj' : j < vs.length := by omega
    have q := hf _ (List.getElem_mem hj')
    simpa [List.getD_eq_getElem?_getD, List.getElem?_eq_getElem hj'] using q
theorem Ary.ofArv {h : Heap} {a : Addr} {ty : FieldType} {vs : List Value} {z : Int32} {dv : Value} {kc : ClassId} (F : Arv Z h a kc ty z vs dv) (hz : z.toInt = (vs.length : Int)) : Ary Z h a ty vs := by
  obtain ⟨c, A, -, S, -, H, -⟩ := F
  have e : z.toNatClampNeg = vs.length := by have : z.toNatClampNeg = z.toInt.toNat := rfl; rw [this, hz]; rfl
  refine ⟨c, A, List.ext_getElem? fun j => ?_⟩
  by_cases hj : j < vs.length
  · have q := H j (by omega)
    rw [Array.getElem?_toList, q]
    simp [List.getD_eq_getElem?_getD, List.getElem?_eq_getElem hj]
  · rw [List.getElem?_eq_none (l := c.slots.toList) (by rw [Array.length_toList]; omega), List.getElem?_eq_none (l := vs) (by omega)]
/-- System.arraycopy(a, 0, b, 0, a.length) of plain components -/
theorem Run.acopy {a0 : Array Value} {i : Nat} {a b : Addr} {ty : FieldType} {vs us : List Value} {z z' : Int32} (hd : decode code pc = .ok (.invokestatic i, 3)) (w1 : (Cond.methodLink own i Jvm.Stand.acN).before a0 Z = true) (w2 : (Cond.native Jvm.Stand.acN).before a0 Z = true) (w3 : (Cond.static Jvm.Stand.acN).before a0 Z = true) (w4 : (Cond.initialized "java/lang/System").before a0 Z = true)
    (A : Ary Z h a ty vs) (B : Ary Z h b ty us) (hk : refKind ty = false) (hz : z.toInt = (vs.length : Int)) (hz' : z'.toInt = (us.length : Int)) (hle : vs.length ≤ us.length) (fa : ∀ v ∈ vs, fits ty v = true) (fb : ∀ v ∈ us, fits ty v = true) (ge : n0 ≤ b)
    (hsz : Ls.size = maxL) (hf : 1 ≤ R.frames) (hl : (st.map fun v => v.category).sum + (nativeFrameWords "java/lang/System" "arraycopy" 5 + 11) ≤ R.locals) (hp : pc + 3 = pc')
    (nxt : ∀ h', Keep h h' [b] → Ary Z h' b ty (vs ++ us.drop vs.length) → Run l Z n0 own code maxL ret nm R Q pc' Ls st h' k n) : Run l Z n0 own code maxL ret nm R Q pc Ls (.int z :: .int 0 :: .ref b :: .int 0 :: .ref a :: st) h k n := by
  subst hp
  intro p e s m args below meth c T locs cells slots hC X eT hF hkk hnn
  obtain ⟨k1, A1⟩ := A.toArv (z := z) .null hz fa
  obtain ⟨k2, B1⟩ := B.toArv (z := z') .null hz' fb
  have e1 : z.toNatClampNeg = vs.length := by have : z.toNatClampNeg = z.toInt.toNat := rfl; rw [this, hz]; rfl
  have e2 : z'.toNatClampNeg = us.length := by have : z'.toNatClampNeg = z'.toInt.toNat := rfl; rw [this, hz']; rfl
  have e0 : (0 : Int32).toNatClampNeg = 0 := rfl
  have n1 : ¬ z < 0 := by rw [Int32.lt_iff_toInt_lt, hz]; have : (0 : Int32).toInt = 0 := rfl; omega
  have hus : vs = (List.range z.toNatClampNeg).map fun j => vs.getD ((0 : Int32).toNatClampNeg + j) .null := by
    rw [e1, e0]
    apply List.ext_getElem?
    intro j
    by_cases hj : j < vs.length
    · simp [hj, List.getD_eq_getElem?_getD]
    · rw [List.getElem?_eq_none (by omega), List.getElem?_eq_none (by simp; omega)]
  obtain ⟨T', h', L, X', e', N', K, B', stp⟩ := cpA X hC.1 hC.2.1 hC.2.2.1 w1 w2 w3 w4 eT A1 B1 (Or.inl ⟨rfl, hk⟩) (by decide) (by decide) n1 (by rw [e0]; omega) (by rw [e0]; omega) hus (by rw [e0]; omega) hF ge (g := mkF m pc Ls (.int z :: .int 0 :: .ref b :: .int 0 :: .ref a :: st)) rfl (hsz.trans hC.2.2.2.2.1.symm) rfl (hb hC.2.2.2.1 hd) hf (W := (st.map fun v => v.category).sum) (by show 2 * 0 + _ ≤ _; omega) hl
  have hB : Ary Z h' b ty (vs ++ us.drop vs.length) := by
    have q : us.take (0 : Int32).toNatClampNeg ++ vs ++ us.drop ((0 : Int32).toNatClampNeg + z.toNatClampNeg) = vs ++ us.drop vs.length := by rw [e0, e1]; simp
    rw [q] at B'
    exact Ary.ofArv B' (by rw [hz']; simp; omega)
  obtain ⟨s₂, v, L2, g1, g2⟩ := nxt h' K hB p e s m args below meth c T' L cells slots hC X' e' N' hkk hnn
  exact ⟨s₂, v, L2, stp _ g1, g2⟩
/-- System.arraycopy of a part -/
theorem Run.acopyG {a0 : Array Value} {ix i j m : Nat} {a b : Addr} {ty : FieldType} {vs us : List Value} {z z1 z' sp dp : Int32} (hd : decode code pc = .ok (.invokestatic ix, 3)) (w1 : (Cond.methodLink own ix Jvm.Stand.acN).before a0 Z = true) (w2 : (Cond.native Jvm.Stand.acN).before a0 Z = true) (w3 : (Cond.static Jvm.Stand.acN).before a0 Z = true) (w4 : (Cond.initialized "java/lang/System").before a0 Z = true)
    (A : Ary Z h a ty vs) (B : Ary Z h b ty us) (hk : refKind ty = false) (hz1 : z1.toInt = (vs.length : Int)) (hz' : z'.toInt = (us.length : Int)) (hz : z.toInt = (m : Int)) (hsp : sp.toInt = (i : Int)) (hdp : dp.toInt = (j : Int)) (hle : i + m ≤ vs.length) (hle' : j + m ≤ us.length) (fa : ∀ v ∈ vs, fits ty v = true) (fb : ∀ v ∈ us, fits ty v = true) (ge : n0 ≤ b)
    (hsz : Ls.size = maxL) (hf : 1 ≤ R.frames) (hl : (st.map fun v => v.category).sum + (nativeFrameWords "java/lang/System" "arraycopy" 5 + 11) ≤ R.locals) (hp : pc + 3 = pc')
    (nxt : ∀ h', Keep h h' [b] → Ary Z h' b ty (us.take j ++ (vs.drop i).take m ++ us.drop (j + m)) → Run l Z n0 own code maxL ret nm R Q pc' Ls st h' k n) : Run l Z n0 own code maxL ret nm R Q pc Ls (.int z :: .int dp :: .ref b :: .int sp :: .ref a :: st) h k n := by
  subst hp
  intro p e s m' args below meth c T locs cells slots hC X eT hF hkk hnn
  obtain ⟨k1, A1⟩ := A.toArv (z := z1) .null hz1 fa
  obtain ⟨k2, B1⟩ := B.toArv (z := z') .null hz' fb
  have cl : ∀ {x : Int32} {q : Nat}, x.toInt = (q : Int) → x.toNatClampNeg = q ∧ ¬ x < 0 := fun {x q} hx => ⟨by have : x.toNatClampNeg = x.toInt.toNat := rfl; rw [this, hx]; rfl, by rw [Int32.lt_iff_toInt_lt, hx]; have : (0 : Int32).toInt = 0 := rfl; omega⟩
  have e0 := cl hz; have e1 := cl hz1; have e2 := cl hz'; have e3 := cl hsp; have e4 := cl hdp
  have hus : (vs.drop i).take m = (List.range z.toNatClampNeg).map fun q => vs.getD (sp.toNatClampNeg + q) .null := by
    rw [e0.1, e3.1]
    apply List.ext_getElem?
    intro q
    by_cases hj : q < m
    · rw [List.getElem?_take_of_lt hj, List.getElem?_drop]; simp [hj, List.getD_eq_getElem?_getD, show i + q < vs.length by omega]
    · rw [List.getElem?_eq_none (by simp; omega), List.getElem?_eq_none (by simp; omega)]
  obtain ⟨T', h', L, X', e', N', K, B', stp⟩ := cpA X hC.1 hC.2.1 hC.2.2.1 w1 w2 w3 w4 eT A1 B1 (Or.inl ⟨rfl, hk⟩) e3.2 e4.2 e0.2 (by rw [e0.1, e1.1, e3.1]; exact hle) (by rw [e0.1, e2.1, e4.1]; exact hle') hus (by rw [e0.1, e4.1]; exact hle') hF ge (g := mkF m' pc Ls (.int z :: .int dp :: .ref b :: .int sp :: .ref a :: st)) rfl (hsz.trans hC.2.2.2.2.1.symm) rfl (hb hC.2.2.2.1 hd) hf (W := (st.map fun v => v.category).sum) (by show 2 * 0 + _ ≤ _; omega) hl
  rw [e4.1, e0.1] at B'
  have hB := Ary.ofArv B' (by rw [hz']; simp; omega)
  obtain ⟨s₂, v, L2, g1, g2⟩ := nxt h' K hB p e s m' args below meth c T' L cells slots hC X' e' N' hkk hnn
  exact ⟨s₂, v, L2, stp _ g1, g2⟩
/-- clone of an array -/
theorem Run.aclone {a0 : Array Value} {i cap : Nat} {a : Addr} {ty : FieldType} {cl : Cell} {ad : String} (hd : decode code pc = .ok (.invokevirtual i, 3)) (w1 : (Cond.methodLink own i ⟨ad, "clone", "()Ljava/lang/Object;"⟩).before a0 Z = true) (w2 : (Cond.sameMethod ad "java/lang/Object" "clone" "()Ljava/lang/Object;").before a0 Z = true) (w3 : (Cond.native ⟨"java/lang/Object", "clone", "()Ljava/lang/Object;"⟩).before a0 Z = true)
    (w4 : (Cond.instanceMethod ⟨"java/lang/Object", "clone", "()Ljava/lang/Object;"⟩).before a0 Z = true) (w5 : (Cond.selects ad ⟨ad, "clone", "()Ljava/lang/Object;"⟩ ⟨"java/lang/Object", "clone", "()Ljava/lang/Object;"⟩).before a0 Z = true) (w6 : (Cond.castable ad "java/lang/Cloneable").before a0 Z = true)
    (A : Arr Z h a cl ty) (E : Exa Z h a ad) (F : FitC Z cl) (hsz : Ls.size = maxL) (hf : 1 ≤ R.frames) (hl : (st.map fun v => v.category).sum + 14 ≤ R.locals) (hcap : cl.slots.size ≤ cap) (hk : k + 1 ≤ k') (hk' : k' ≤ R.cells) (hn : n + cap ≤ n') (hn' : n' ≤ R.slots) (hp : pc + 3 = pc')
    (nxt : ∀ h' b, b = h.size → Ext h h' → Ary Z h' b ty cl.slots.toList → Exa Z h' b ad → Run l Z n0 own code maxL ret nm R Q pc' Ls (.ref b :: st) h' k' n') : Run l Z n0 own code maxL ret nm R Q pc Ls (.ref a :: st) h k n := by
  subst hp
  intro p e s m args below meth c T locs cells slots hC X eT hF hkk hnn
  obtain ⟨T', h', X', e', E', A', X2, stp⟩ := cloneA X hC.1 hC.2.1 hC.2.2.1 w1 w2 w3 w4 w5 w6 eT A E F (g := mkF m pc Ls (.ref a :: st)) rfl (hsz.trans hC.2.2.2.2.1.symm) rfl (hb hC.2.2.2.1 hd) hf (W := (st.map fun v => v.category).sum) (by show 2 * 0 + _ ≤ _; omega) hl hcap (by omega) (by omega)
  obtain ⟨s₂, v, L, g1, g2⟩ := nxt h' h.size rfl E' ⟨_, A', rfl⟩ X2 p e s m args below meth c T' locs _ _ hC X' e' hF (by omega) (by omega)
  exact ⟨s₂, v, L, stp _ g1, g2⟩
end Walk
end Jvm.GoKit
namespace Jvm.GoKit
open Sem ClassFile Op Lib Jvm.Stand Jvm.Free Jvm.LawKit Jvm.RoadKit
/-! the wide twin: walks that may load String constants cold; vm: the tables as they stand but for what is warmed narrowly -/
def GoW (p : Program) (e : Env) (below : List Frame) (Z s : State) (EL : List (String × Nat)) (n0 K N : Nat) (Q : Option Value → Heap → Prop) (S : State) : Prop :=
  ∃ s₂ v L, Steps p.tables e below S s₂ ∧ s₂.status = .running ∧ Ended s₂ below (.returned v) ∧ (Q v s₂.heap ∧ Fr n0 L) ∧ CHr Z EL s.vm s.heap s₂.vm s₂.heap ∧ ReturnedEndW s (.returned v) s₂ L K N
def RunW (l : Launch) (Z : State) (EL : List (String × Nat)) (n0 : Nat) (own : String) (code : ByteArray) (maxL : Nat) (ret : Option FieldType) (nm : String) (R : Room) (Q : Option Value → Heap → Prop) (pc : Nat) (Ls : Array Slot) (st : List Value) (h : Heap) (vm : Vm) (k n : Nat) : Prop :=
  ∀ (p : Program) (e : Env) (s : State) (m : MethodId) (args : Array Value) (below : List Frame) (meth : Method) (c : Code) (T : State) (locs : List Loc) (cells slots k0 : Nat),
    Ctx Z own code maxL ret nm p (s.setVm vm) m meth c → Stand p l e R (s.setVm vm) m args below meth c T locs cells slots → s.Since vm k0 → k0 ≤ h.size → CHr Z EL s.vm s.heap vm h → (∃ a0, EW Z a0 EL) → T.heap = h → Fr n0 locs → cells ≤ k → slots ≤ n →
    GoW p e below Z s EL n0 R.cells R.slots Q (T.setTop (mkF m pc Ls st))
def ConW (l : Launch) (Z : State) (EL : List (String × Nat)) (n0 : Nat) (y : MethodName) (bytes : ByteArray) (maxL : Nat) (ret : Option FieldType) (rm : Room) (as : Array Value) (h : Heap) (sf : List Addr) (Q : Option Value → Heap → Prop) : Prop :=
  ∀ ws, MetFree l y (head1 (Cond.code y bytes maxL ret :: ws) rm) (fun a U => a = as ∧ Z.Warmed39 U.vm ∧ U.heap = h ∧ CHv Z EL U.vm h ∧ ∀ x ∈ sf, Safe Z EL U.vm h x) (fun _ _ _ _ _ => True) (fun _ U o U' => ∃ v L, o = .returned v ∧ (Q v U'.heap ∧ Fr n0 L) ∧ CHr Z EL U.vm U.heap U'.vm U'.heap ∧ ReturnedEndW U o U' L rm.cells rm.slots)
theorem since_refl (s : State) : s.Since s.vm s.heap.size := ⟨State.Warmed39.refl s, fun j p hj hp => absurd (Array.getElem?_eq_some_iff.mp hp).1 (Nat.not_lt.mpr hj)⟩
theorem setVm_self (s : State) : s.setVm s.vm = s := rfl
section WalkW
variable {l : Launch} {Z : State} {EL : List (String × Nat)} {n0 : Nat} {own : String} {code : ByteArray} {maxL : Nat} {ret : Option FieldType} {nm : String} {R : Room} {Q : Option Value → Heap → Prop} {pc pc' : Nat} {Ls : Array Slot} {st : List Value} {h : Heap} {vm : Vm} {k n k' n' : Nat}
theorem ConW.of_run {y : MethodName} {bytes : ByteArray} {rm : Room} {as : Array Value} {sf : List Addr} {a0 : Array Value} (hEL : EW Z a0 EL)
    (hp : plainFor y = true) (he : ∀ m, entryFrame m as maxL = mkF m 0 Ls []) (run : ∀ vm, Z.vm.Alike vm → (∀ x ∈ sf, Safe Z EL vm h x) → RunW l Z EL n0 y.cls bytes maxL ret y.name rm Q 0 Ls [] h vm 0 0) : ConW l Z EL n0 y bytes maxL ret rm as h sf Q := by
  intro ws
  refine MetFree.of_bodySF hp hisR ?_
  intro p e s m args below meth c s₁ Bd hml0 hP hK
  obtain ⟨rfl, hZ, hh, hC, hsf⟩ := hP
  have hh2 : s₁.heap = h := by rw [← hh, Bd.state]; rfl
  obtain ⟨s₂, v, L, h1, h2, h3, h4, h5, h6⟩ := run s.vm hZ.alike hsf p e s m _ below meth c s₁ [] 0 0 s.heap.size ⟨Bd.exec, hZ, findClass_of_methodNamed Bd.named, Bd.bytes, hml0, Bd.returns, Bd.notSynchronized, (name_of_methodNamed Bd.named Bd.method).1⟩ (Stand.of_body Bd) (since_refl s) (by rw [hh]; exact Nat.le_refl _) (by rw [hh]; exact CHr.refl hC) ⟨a0, hEL⟩ hh2 (Fr.nil _) (Nat.zero_le _) (Nat.zero_le _)
  exact ⟨s₂, _, castTop (he m) h1, h2, h3, v, L, rfl, h4, h5, h6⟩
theorem RunW.via {Ls' : Array Slot} {st' : List Value} (f : ∀ (p : Program) (e : Env) (s : State) (m : MethodId) (args : Array Value) (below : List Frame) (meth : Method) (c : Code) (T : State) (locs : List Loc) (cells slots : Nat),
      Ctx Z own code maxL ret nm p s m meth c → Stand p l e R s m args below meth c T locs cells slots → T.heap = h → ∃ T', Stand p l e R s m args below meth c T' locs cells slots ∧ T'.heap = h ∧ ∀ t, Steps p.tables e below (T'.setTop (mkF m pc' Ls' st')) t → Steps p.tables e below (T.setTop (mkF m pc Ls st)) t)
    (nxt : RunW l Z EL n0 own code maxL ret nm R Q pc' Ls' st' h vm k n) : RunW l Z EL n0 own code maxL ret nm R Q pc Ls st h vm k n := by
  intro p e s m args below meth c T locs cells slots k0 hC X hS hk0 hR hE eT hF hk hn
  obtain ⟨T', X', e', stp⟩ := f p e (s.setVm vm) m args below meth c T locs cells slots hC X eT
  obtain ⟨s₂, v, L, g1, g2⟩ := nxt p e s m args below meth c T' locs cells slots k0 hC X' hS hk0 hR hE e' hF hk hn
  exact ⟨s₂, v, L, stp _ g1, g2⟩
theorem RunW.stp {Ls' : Array Slot} {st' : List Value} (f : ∀ (p : Program) (e : Env) (below : List Frame) (T : State) (m : MethodId) (c : Code) (t : State), At T m c below → p.tables.exec = Jvm.exec → c.code = code → Steps p.tables e below (T.setTop (mkF m pc' Ls' st')) t → Steps p.tables e below (T.setTop (mkF m pc Ls st)) t)
    (nxt : RunW l Z EL n0 own code maxL ret nm R Q pc' Ls' st' h vm k n) : RunW l Z EL n0 own code maxL ret nm R Q pc Ls st h vm k n :=
  RunW.via (fun p e s m args below meth c T locs cells slots hC X eT => ⟨T, X, eT, fun t q => f p e below T m c t X.here hC.1 hC.2.2.2.1 q⟩) nxt
theorem RunW.more {ka na : Nat} (nxt : RunW l Z EL n0 own code maxL ret nm R Q pc Ls st h vm k n) (h1 : ka ≤ k) (h2 : na ≤ n) : RunW l Z EL n0 own code maxL ret nm R Q pc Ls st h vm ka na :=
  fun p e s m args below meth c T locs cells slots k0 hC X hS hk0 hR hE eT hF hk hn => nxt p e s m args below meth c T locs cells slots k0 hC X hS hk0 hR hE eT hF (Nat.le_trans hk h1) (Nat.le_trans hn h2)
theorem RunW.alike (f : Z.vm.Alike vm → RunW l Z EL n0 own code maxL ret nm R Q pc Ls st h vm k n) : RunW l Z EL n0 own code maxL ret nm R Q pc Ls st h vm k n :=
  fun p e s m args below meth c T locs cells slots k0 hC X hS hk0 hR hE eT hF hk hn => f hC.2.1.alike p e s m args below meth c T locs cells slots k0 hC X hS hk0 hR hE eT hF hk hn

theorem RunW.iloadN {x : Fin 4} {v : Int32} (hd : decode code pc = .ok (.iload_n x, 1)) (hl : Ls[x.val]? = some (.val (.int v))) (hp : pc + 1 = pc') (nxt : RunW l Z EL n0 own code maxL ret nm R Q pc' Ls (.int v :: st) h vm k n) : RunW l Z EL n0 own code maxL ret nm R Q pc Ls st h vm k n := by
  subst hp
  exact RunW.stp (fun p e below T m c t hA hx hc q => XS.iloadN hA hx rfl (hb hc hd) hl q) nxt
theorem RunW.iload {x : Nat} {v : Int32} (hd : decode code pc = .ok (.iload x, 2)) (hl : Ls[x]? = some (.val (.int v))) (hp : pc + 2 = pc') (nxt : RunW l Z EL n0 own code maxL ret nm R Q pc' Ls (.int v :: st) h vm k n) : RunW l Z EL n0 own code maxL ret nm R Q pc Ls st h vm k n := by
  subst hp
  exact RunW.stp (fun p e below T m c t hA hx hc q => XS.iload hA hx rfl (hb hc hd) hl q) nxt
theorem RunW.lloadN {x : Fin 4} {v : Int64} (hd : decode code pc = .ok (.lload_n x, 1)) (hl : Ls[x.val]? = some (.val (.long v))) (hp : pc + 1 = pc') (nxt : RunW l Z EL n0 own code maxL ret nm R Q pc' Ls (.long v :: st) h vm k n) : RunW l Z EL n0 own code maxL ret nm R Q pc Ls st h vm k n := by
  subst hp
  exact RunW.stp (fun p e below T m c t hA hx hc q => XT.lloadN hA hx rfl (hb hc hd) hl q) nxt
theorem RunW.lload {x : Nat} {v : Int64} (hd : decode code pc = .ok (.lload x, 2)) (hl : Ls[x]? = some (.val (.long v))) (hp : pc + 2 = pc') (nxt : RunW l Z EL n0 own code maxL ret nm R Q pc' Ls (.long v :: st) h vm k n) : RunW l Z EL n0 own code maxL ret nm R Q pc Ls st h vm k n := by
  subst hp
  exact RunW.stp (fun p e below T m c t hA hx hc q => XT.lload hA hx rfl (hb hc hd) hl q) nxt
theorem RunW.aloadN {x : Fin 4} {v : Value} (hd : decode code pc = .ok (.aload_n x, 1)) (hl : Ls[x.val]? = some (.val v)) (hv : v.isRef = true) (hp : pc + 1 = pc') (nxt : RunW l Z EL n0 own code maxL ret nm R Q pc' Ls (v :: st) h vm k n) : RunW l Z EL n0 own code maxL ret nm R Q pc Ls st h vm k n := by
  subst hp
  exact RunW.stp (fun p e below T m c t hA hx hc q => XS.aloadN hA hx rfl (hb hc hd) hl hv q) nxt
theorem RunW.aload {x : Nat} {v : Value} (hd : decode code pc = .ok (.aload x, 2)) (hl : Ls[x]? = some (.val v)) (hv : v.isRef = true) (hp : pc + 2 = pc') (nxt : RunW l Z EL n0 own code maxL ret nm R Q pc' Ls (v :: st) h vm k n) : RunW l Z EL n0 own code maxL ret nm R Q pc Ls st h vm k n := by
  subst hp
  exact RunW.stp (fun p e below T m c t hA hx hc q => XS.aload hA hx rfl (hb hc hd) hl hv q) nxt
theorem RunW.iconst {i : Int} (v : Int32) (hd : decode code pc = .ok (.iconst i, 1)) (hv : Int32.ofInt i = v) (hp : pc + 1 = pc') (nxt : RunW l Z EL n0 own code maxL ret nm R Q pc' Ls (.int v :: st) h vm k n) : RunW l Z EL n0 own code maxL ret nm R Q pc Ls st h vm k n := by
  subst hp
  exact RunW.stp (fun p e below T m c t hA hx hc q => XT.iconstV hA hx rfl v (hb hc hd) hv q) nxt
theorem RunW.bipush {i : Int} (v : Int32) (hd : decode code pc = .ok (.bipush i, 2)) (hv : (Int8.ofInt i).toInt32 = v) (hp : pc + 2 = pc') (nxt : RunW l Z EL n0 own code maxL ret nm R Q pc' Ls (.int v :: st) h vm k n) : RunW l Z EL n0 own code maxL ret nm R Q pc Ls st h vm k n := by
  subst hp
  exact RunW.stp (fun p e below T m c t hA hx hc q => XT.bipushV hA hx rfl v (hb hc hd) hv q) nxt
theorem RunW.sipush {i : Int} (v : Int32) (hd : decode code pc = .ok (.sipush i, 3)) (hv : (Int16.ofInt i).toInt32 = v) (hp : pc + 3 = pc') (nxt : RunW l Z EL n0 own code maxL ret nm R Q pc' Ls (.int v :: st) h vm k n) : RunW l Z EL n0 own code maxL ret nm R Q pc Ls st h vm k n := by
  subst hp
  exact RunW.stp (fun p e below T m c t hA hx hc q => XT.sipushV hA hx rfl v (hb hc hd) hv q) nxt
theorem RunW.lconst {i : Fin 2} (v : Int64) (hd : decode code pc = .ok (.lconst i, 1)) (hv : Int64.ofNat i = v) (hp : pc + 1 = pc') (nxt : RunW l Z EL n0 own code maxL ret nm R Q pc' Ls (.long v :: st) h vm k n) : RunW l Z EL n0 own code maxL ret nm R Q pc Ls st h vm k n := by
  subst hp
  exact RunW.stp (fun p e below T m c t hA hx hc q => XT.lconstV hA hx rfl v (hb hc hd) hv q) nxt
theorem RunW.aconst  (hd : decode code pc = .ok (.aconst_null, 1))  (hp : pc + 1 = pc') (nxt : RunW l Z EL n0 own code maxL ret nm R Q pc' Ls (.null :: st) h vm k n) : RunW l Z EL n0 own code maxL ret nm R Q pc Ls st h vm k n := by
  subst hp
  exact RunW.stp (fun p e below T m c t hA hx hc q => XS.aconstNull hA hx rfl (hb hc hd) q) nxt
theorem RunW.istoreN {x : Fin 4} {v : Int32} (l' : Array Slot) (hd : decode code pc = .ok (.istore_n x, 1)) (hl : storeLocals Ls x.val (.int v) = some l') (hp : pc + 1 = pc') (nxt : RunW l Z EL n0 own code maxL ret nm R Q pc' l' st h vm k n) : RunW l Z EL n0 own code maxL ret nm R Q pc Ls (.int v :: st) h vm k n := by
  subst hp
  exact RunW.stp (fun p e below T m c t hA hx hc q => XS.istoreN hA hx rfl (hb hc hd) rfl hl q) nxt
theorem RunW.istore {x : Nat} {v : Int32} (l' : Array Slot) (hd : decode code pc = .ok (.istore x, 2)) (hl : storeLocals Ls x (.int v) = some l') (hp : pc + 2 = pc') (nxt : RunW l Z EL n0 own code maxL ret nm R Q pc' l' st h vm k n) : RunW l Z EL n0 own code maxL ret nm R Q pc Ls (.int v :: st) h vm k n := by
  subst hp
  exact RunW.stp (fun p e below T m c t hA hx hc q => XS.istore hA hx rfl (hb hc hd) rfl hl q) nxt
theorem RunW.lstoreN {x : Fin 4} {v : Int64} (l' : Array Slot) (hd : decode code pc = .ok (.lstore_n x, 1)) (hl : storeLocals Ls x.val (.long v) = some l') (hp : pc + 1 = pc') (nxt : RunW l Z EL n0 own code maxL ret nm R Q pc' l' st h vm k n) : RunW l Z EL n0 own code maxL ret nm R Q pc Ls (.long v :: st) h vm k n := by
  subst hp
  exact RunW.stp (fun p e below T m c t hA hx hc q => XT.lstoreN hA hx rfl (hb hc hd) rfl hl q) nxt
theorem RunW.lstore {x : Nat} {v : Int64} (l' : Array Slot) (hd : decode code pc = .ok (.lstore x, 2)) (hl : storeLocals Ls x (.long v) = some l') (hp : pc + 2 = pc') (nxt : RunW l Z EL n0 own code maxL ret nm R Q pc' l' st h vm k n) : RunW l Z EL n0 own code maxL ret nm R Q pc Ls (.long v :: st) h vm k n := by
  subst hp
  exact RunW.stp (fun p e below T m c t hA hx hc q => XT.lstore hA hx rfl (hb hc hd) rfl hl q) nxt
theorem RunW.astoreN {x : Fin 4} {v : Value} (l' : Array Slot) (hd : decode code pc = .ok (.astore_n x, 1)) (hv : v.isRef = true) (hl : storeLocals Ls x.val v = some l') (hp : pc + 1 = pc') (nxt : RunW l Z EL n0 own code maxL ret nm R Q pc' l' st h vm k n) : RunW l Z EL n0 own code maxL ret nm R Q pc Ls (v :: st) h vm k n := by
  subst hp
  exact RunW.stp (fun p e below T m c t hA hx hc q => XS.astoreN hA hx rfl (hb hc hd) rfl hv hl q) nxt
theorem RunW.astore {x : Nat} {v : Value} (l' : Array Slot) (hd : decode code pc = .ok (.astore x, 2)) (hv : v.isRef = true) (hl : storeLocals Ls x v = some l') (hp : pc + 2 = pc') (nxt : RunW l Z EL n0 own code maxL ret nm R Q pc' l' st h vm k n) : RunW l Z EL n0 own code maxL ret nm R Q pc Ls (v :: st) h vm k n := by
  subst hp
  exact RunW.stp (fun p e below T m c t hA hx hc q => XS.astore hA hx rfl (hb hc hd) rfl hv hl q) nxt
theorem RunW.iinc {x : Nat} {i : Int} {u : Int32} (v : Int32) (l' : Array Slot) (hd : decode code pc = .ok (.iinc x i, 3)) (hv : Int32.ofInt i = v) (hg : Ls[x]? = some (.val (.int u))) (hl : storeLocals Ls x (.int (u + v)) = some l') (hp : pc + 3 = pc') (nxt : RunW l Z EL n0 own code maxL ret nm R Q pc' l' st h vm k n) : RunW l Z EL n0 own code maxL ret nm R Q pc Ls st h vm k n := by
  subst hp
  exact RunW.stp (fun p e below T m c t hA hx hc q => XT.iincV hA hx rfl v (hb hc hd) hv hg hl q) nxt
theorem RunW.iadd {x y : Int32} (hd : decode code pc = .ok (.iadd, 1))  (hp : pc + 1 = pc') (nxt : RunW l Z EL n0 own code maxL ret nm R Q pc' Ls (.int (x + y) :: st) h vm k n) : RunW l Z EL n0 own code maxL ret nm R Q pc Ls (.int y :: .int x :: st) h vm k n := by
  subst hp
  exact RunW.stp (fun p e below T m c t hA hx hc q => XS.iadd hA hx rfl (hb hc hd) rfl q) nxt
theorem RunW.isub {x y : Int32} (hd : decode code pc = .ok (.isub, 1))  (hp : pc + 1 = pc') (nxt : RunW l Z EL n0 own code maxL ret nm R Q pc' Ls (.int (x - y) :: st) h vm k n) : RunW l Z EL n0 own code maxL ret nm R Q pc Ls (.int y :: .int x :: st) h vm k n := by
  subst hp
  exact RunW.stp (fun p e below T m c t hA hx hc q => XS.isub hA hx rfl (hb hc hd) rfl q) nxt
theorem RunW.imul {x y : Int32} (hd : decode code pc = .ok (.imul, 1))  (hp : pc + 1 = pc') (nxt : RunW l Z EL n0 own code maxL ret nm R Q pc' Ls (.int (x * y) :: st) h vm k n) : RunW l Z EL n0 own code maxL ret nm R Q pc Ls (.int y :: .int x :: st) h vm k n := by
  subst hp
  exact RunW.stp (fun p e below T m c t hA hx hc q => XS.imul hA hx rfl (hb hc hd) rfl q) nxt
theorem RunW.iand {x y : Int32} (hd : decode code pc = .ok (.iand, 1))  (hp : pc + 1 = pc') (nxt : RunW l Z EL n0 own code maxL ret nm R Q pc' Ls (.int (x &&& y) :: st) h vm k n) : RunW l Z EL n0 own code maxL ret nm R Q pc Ls (.int y :: .int x :: st) h vm k n := by
  subst hp
  exact RunW.stp (fun p e below T m c t hA hx hc q => XS.iand hA hx rfl (hb hc hd) rfl q) nxt
theorem RunW.ior {x y : Int32} (hd : decode code pc = .ok (.ior, 1))  (hp : pc + 1 = pc') (nxt : RunW l Z EL n0 own code maxL ret nm R Q pc' Ls (.int (x ||| y) :: st) h vm k n) : RunW l Z EL n0 own code maxL ret nm R Q pc Ls (.int y :: .int x :: st) h vm k n := by
  subst hp
  exact RunW.stp (fun p e below T m c t hA hx hc q => XT.ior hA hx rfl (hb hc hd) rfl q) nxt
theorem RunW.ixor {x y : Int32} (hd : decode code pc = .ok (.ixor, 1))  (hp : pc + 1 = pc') (nxt : RunW l Z EL n0 own code maxL ret nm R Q pc' Ls (.int (x ^^^ y) :: st) h vm k n) : RunW l Z EL n0 own code maxL ret nm R Q pc Ls (.int y :: .int x :: st) h vm k n := by
  subst hp
  exact RunW.stp (fun p e below T m c t hA hx hc q => XT.ixor hA hx rfl (hb hc hd) rfl q) nxt
theorem RunW.ishl {x y : Int32} (hd : decode code pc = .ok (.ishl, 1))  (hp : pc + 1 = pc') (nxt : RunW l Z EL n0 own code maxL ret nm R Q pc' Ls (.int (x <<< (y &&& 31)) :: st) h vm k n) : RunW l Z EL n0 own code maxL ret nm R Q pc Ls (.int y :: .int x :: st) h vm k n := by
  subst hp
  exact RunW.stp (fun p e below T m c t hA hx hc q => XT.ishl hA hx rfl (hb hc hd) rfl q) nxt
theorem RunW.ishr {x y : Int32} (hd : decode code pc = .ok (.ishr, 1))  (hp : pc + 1 = pc') (nxt : RunW l Z EL n0 own code maxL ret nm R Q pc' Ls (.int (x >>> (y &&& 31)) :: st) h vm k n) : RunW l Z EL n0 own code maxL ret nm R Q pc Ls (.int y :: .int x :: st) h vm k n := by
  subst hp
  exact RunW.stp (fun p e below T m c t hA hx hc q => XT.ishr hA hx rfl (hb hc hd) rfl q) nxt
theorem RunW.iushr {x y : Int32} (hd : decode code pc = .ok (.iushr, 1))  (hp : pc + 1 = pc') (nxt : RunW l Z EL n0 own code maxL ret nm R Q pc' Ls (.int (XT.ushr x y) :: st) h vm k n) : RunW l Z EL n0 own code maxL ret nm R Q pc Ls (.int y :: .int x :: st) h vm k n := by
  subst hp
  exact RunW.stp (fun p e below T m c t hA hx hc q => XT.iushr hA hx rfl (hb hc hd) rfl q) nxt
theorem RunW.ladd {x y : Int64} (hd : decode code pc = .ok (.ladd, 1))  (hp : pc + 1 = pc') (nxt : RunW l Z EL n0 own code maxL ret nm R Q pc' Ls (.long (x + y) :: st) h vm k n) : RunW l Z EL n0 own code maxL ret nm R Q pc Ls (.long y :: .long x :: st) h vm k n := by
  subst hp
  exact RunW.stp (fun p e below T m c t hA hx hc q => XT.ladd hA hx rfl (hb hc hd) rfl q) nxt
theorem RunW.lsub {x y : Int64} (hd : decode code pc = .ok (.lsub, 1))  (hp : pc + 1 = pc') (nxt : RunW l Z EL n0 own code maxL ret nm R Q pc' Ls (.long (x - y) :: st) h vm k n) : RunW l Z EL n0 own code maxL ret nm R Q pc Ls (.long y :: .long x :: st) h vm k n := by
  subst hp
  exact RunW.stp (fun p e below T m c t hA hx hc q => XT.lsub hA hx rfl (hb hc hd) rfl q) nxt
theorem RunW.lmul {x y : Int64} (hd : decode code pc = .ok (.lmul, 1))  (hp : pc + 1 = pc') (nxt : RunW l Z EL n0 own code maxL ret nm R Q pc' Ls (.long (x * y) :: st) h vm k n) : RunW l Z EL n0 own code maxL ret nm R Q pc Ls (.long y :: .long x :: st) h vm k n := by
  subst hp
  exact RunW.stp (fun p e below T m c t hA hx hc q => XT.lmul hA hx rfl (hb hc hd) rfl q) nxt
theorem RunW.land {x y : Int64} (hd : decode code pc = .ok (.land, 1))  (hp : pc + 1 = pc') (nxt : RunW l Z EL n0 own code maxL ret nm R Q pc' Ls (.long (x &&& y) :: st) h vm k n) : RunW l Z EL n0 own code maxL ret nm R Q pc Ls (.long y :: .long x :: st) h vm k n := by
  subst hp
  exact RunW.stp (fun p e below T m c t hA hx hc q => XT.land hA hx rfl (hb hc hd) rfl q) nxt
theorem RunW.lor {x y : Int64} (hd : decode code pc = .ok (.lor, 1))  (hp : pc + 1 = pc') (nxt : RunW l Z EL n0 own code maxL ret nm R Q pc' Ls (.long (x ||| y) :: st) h vm k n) : RunW l Z EL n0 own code maxL ret nm R Q pc Ls (.long y :: .long x :: st) h vm k n := by
  subst hp
  exact RunW.stp (fun p e below T m c t hA hx hc q => XT.lor hA hx rfl (hb hc hd) rfl q) nxt
theorem RunW.lxor {x y : Int64} (hd : decode code pc = .ok (.lxor, 1))  (hp : pc + 1 = pc') (nxt : RunW l Z EL n0 own code maxL ret nm R Q pc' Ls (.long (x ^^^ y) :: st) h vm k n) : RunW l Z EL n0 own code maxL ret nm R Q pc Ls (.long y :: .long x :: st) h vm k n := by
  subst hp
  exact RunW.stp (fun p e below T m c t hA hx hc q => XT.lxor hA hx rfl (hb hc hd) rfl q) nxt
theorem RunW.idiv {x y : Int32} (hd : decode code pc = .ok (.idiv, 1)) (hy : y ≠ 0) (hp : pc + 1 = pc') (nxt : RunW l Z EL n0 own code maxL ret nm R Q pc' Ls (.int (x / y) :: st) h vm k n) : RunW l Z EL n0 own code maxL ret nm R Q pc Ls (.int y :: .int x :: st) h vm k n := by
  subst hp
  exact RunW.stp (fun p e below T m c t hA hx hc q => XS.idiv hA hx rfl (hb hc hd) rfl hy q) nxt
theorem RunW.irem {x y : Int32} (hd : decode code pc = .ok (.irem, 1)) (hy : y ≠ 0) (hp : pc + 1 = pc') (nxt : RunW l Z EL n0 own code maxL ret nm R Q pc' Ls (.int (x % y) :: st) h vm k n) : RunW l Z EL n0 own code maxL ret nm R Q pc Ls (.int y :: .int x :: st) h vm k n := by
  subst hp
  exact RunW.stp (fun p e below T m c t hA hx hc q => XS.irem hA hx rfl (hb hc hd) rfl hy (by rw [irem_eq_mod]; exact q)) nxt
theorem RunW.ldiv {x y : Int64} (hd : decode code pc = .ok (.ldiv, 1)) (hy : y ≠ 0) (hp : pc + 1 = pc') (nxt : RunW l Z EL n0 own code maxL ret nm R Q pc' Ls (.long (x / y) :: st) h vm k n) : RunW l Z EL n0 own code maxL ret nm R Q pc Ls (.long y :: .long x :: st) h vm k n := by
  subst hp
  exact RunW.stp (fun p e below T m c t hA hx hc q => XT.ldiv hA hx rfl (hb hc hd) rfl hy q) nxt
theorem RunW.lrem {x y : Int64} (hd : decode code pc = .ok (.lrem, 1)) (hy : y ≠ 0) (hp : pc + 1 = pc') (nxt : RunW l Z EL n0 own code maxL ret nm R Q pc' Ls (.long (x % y) :: st) h vm k n) : RunW l Z EL n0 own code maxL ret nm R Q pc Ls (.long y :: .long x :: st) h vm k n := by
  subst hp
  exact RunW.stp (fun p e below T m c t hA hx hc q => XT.lrem hA hx rfl (hb hc hd) rfl hy (by rw [lrem_mod]; exact q)) nxt
theorem RunW.ineg {x : Int32} (hd : decode code pc = .ok (.ineg, 1))  (hp : pc + 1 = pc') (nxt : RunW l Z EL n0 own code maxL ret nm R Q pc' Ls (.int (-x) :: st) h vm k n) : RunW l Z EL n0 own code maxL ret nm R Q pc Ls (.int x :: st) h vm k n := by
  subst hp
  exact RunW.stp (fun p e below T m c t hA hx hc q => XS.ineg hA hx rfl (hb hc hd) rfl q) nxt
theorem RunW.lneg {x : Int64} (hd : decode code pc = .ok (.lneg, 1))  (hp : pc + 1 = pc') (nxt : RunW l Z EL n0 own code maxL ret nm R Q pc' Ls (.long (-x) :: st) h vm k n) : RunW l Z EL n0 own code maxL ret nm R Q pc Ls (.long x :: st) h vm k n := by
  subst hp
  exact RunW.stp (fun p e below T m c t hA hx hc q => XT.lneg hA hx rfl (hb hc hd) rfl q) nxt
theorem RunW.i2l {x : Int32} (hd : decode code pc = .ok (.i2l, 1))  (hp : pc + 1 = pc') (nxt : RunW l Z EL n0 own code maxL ret nm R Q pc' Ls (.long x.toInt64 :: st) h vm k n) : RunW l Z EL n0 own code maxL ret nm R Q pc Ls (.int x :: st) h vm k n := by
  subst hp
  exact RunW.stp (fun p e below T m c t hA hx hc q => XT.i2l hA hx rfl (hb hc hd) rfl q) nxt
theorem RunW.l2i {x : Int64} (hd : decode code pc = .ok (.l2i, 1))  (hp : pc + 1 = pc') (nxt : RunW l Z EL n0 own code maxL ret nm R Q pc' Ls (.int x.toInt32 :: st) h vm k n) : RunW l Z EL n0 own code maxL ret nm R Q pc Ls (.long x :: st) h vm k n := by
  subst hp
  exact RunW.stp (fun p e below T m c t hA hx hc q => XT.l2i hA hx rfl (hb hc hd) rfl q) nxt
theorem RunW.i2b {x : Int32} (hd : decode code pc = .ok (.i2b, 1))  (hp : pc + 1 = pc') (nxt : RunW l Z EL n0 own code maxL ret nm R Q pc' Ls (.int (nar .byte x) :: st) h vm k n) : RunW l Z EL n0 own code maxL ret nm R Q pc Ls (.int x :: st) h vm k n := by
  subst hp
  exact RunW.stp (fun p e below T m c t hA hx hc q => XT.i2b hA hx rfl (hb hc hd) rfl q) nxt
theorem RunW.i2c {x : Int32} (hd : decode code pc = .ok (.i2c, 1))  (hp : pc + 1 = pc') (nxt : RunW l Z EL n0 own code maxL ret nm R Q pc' Ls (.int (nar .char x) :: st) h vm k n) : RunW l Z EL n0 own code maxL ret nm R Q pc Ls (.int x :: st) h vm k n := by
  subst hp
  exact RunW.stp (fun p e below T m c t hA hx hc q => XT.i2c hA hx rfl (hb hc hd) rfl q) nxt
theorem RunW.i2s {x : Int32} (hd : decode code pc = .ok (.i2s, 1))  (hp : pc + 1 = pc') (nxt : RunW l Z EL n0 own code maxL ret nm R Q pc' Ls (.int (nar .short x) :: st) h vm k n) : RunW l Z EL n0 own code maxL ret nm R Q pc Ls (.int x :: st) h vm k n := by
  subst hp
  exact RunW.stp (fun p e below T m c t hA hx hc q => XT.i2s hA hx rfl (hb hc hd) rfl q) nxt
theorem RunW.lshl {x : Int64} {y : Int32} (hd : decode code pc = .ok (.lshl, 1))  (hp : pc + 1 = pc') (nxt : RunW l Z EL n0 own code maxL ret nm R Q pc' Ls (.long (x <<< (y.toInt64 &&& 63)) :: st) h vm k n) : RunW l Z EL n0 own code maxL ret nm R Q pc Ls (.int y :: .long x :: st) h vm k n := by
  subst hp
  exact RunW.stp (fun p e below T m c t hA hx hc q => XT.lshl hA hx rfl (hb hc hd) rfl q) nxt
theorem RunW.lshr {x : Int64} {y : Int32} (hd : decode code pc = .ok (.lshr, 1))  (hp : pc + 1 = pc') (nxt : RunW l Z EL n0 own code maxL ret nm R Q pc' Ls (.long (x >>> (y.toInt64 &&& 63)) :: st) h vm k n) : RunW l Z EL n0 own code maxL ret nm R Q pc Ls (.int y :: .long x :: st) h vm k n := by
  subst hp
  exact RunW.stp (fun p e below T m c t hA hx hc q => XT.lshr hA hx rfl (hb hc hd) rfl q) nxt
theorem RunW.lushr {x : Int64} {y : Int32} (hd : decode code pc = .ok (.lushr, 1))  (hp : pc + 1 = pc') (nxt : RunW l Z EL n0 own code maxL ret nm R Q pc' Ls (.long (XT.ushrL x y) :: st) h vm k n) : RunW l Z EL n0 own code maxL ret nm R Q pc Ls (.int y :: .long x :: st) h vm k n := by
  subst hp
  exact RunW.stp (fun p e below T m c t hA hx hc q => XT.lushr hA hx rfl (hb hc hd) rfl q) nxt
theorem RunW.lcmp {x y : Int64} (hd : decode code pc = .ok (.lcmp, 1))  (hp : pc + 1 = pc') (nxt : RunW l Z EL n0 own code maxL ret nm R Q pc' Ls (.int (XT.cmpL x y) :: st) h vm k n) : RunW l Z EL n0 own code maxL ret nm R Q pc Ls (.long y :: .long x :: st) h vm k n := by
  subst hp
  exact RunW.stp (fun p e below T m c t hA hx hc q => XT.lcmp hA hx rfl (hb hc hd) rfl q) nxt
theorem RunW.dup {x : Value} (hd : decode code pc = .ok (.dup, 1)) (hv : x.category = 1) (hp : pc + 1 = pc') (nxt : RunW l Z EL n0 own code maxL ret nm R Q pc' Ls (x :: x :: st) h vm k n) : RunW l Z EL n0 own code maxL ret nm R Q pc Ls (x :: st) h vm k n := by
  subst hp
  exact RunW.stp (fun p e below T m c t hA hx hc q => XS.dup hA hx rfl (hb hc hd) rfl hv q) nxt
theorem RunW.pop {x : Value} (hd : decode code pc = .ok (.pop, 1)) (hv : x.category = 1) (hp : pc + 1 = pc') (nxt : RunW l Z EL n0 own code maxL ret nm R Q pc' Ls st h vm k n) : RunW l Z EL n0 own code maxL ret nm R Q pc Ls (x :: st) h vm k n := by
  subst hp
  exact RunW.stp (fun p e below T m c t hA hx hc q => XT.pop hA hx rfl (hb hc hd) rfl hv q) nxt
theorem RunW.dupX1 {x y : Value} (hd : decode code pc = .ok (.dup_x1, 1)) (hv : x.category = 1) (hv' : y.category = 1) (hp : pc + 1 = pc') (nxt : RunW l Z EL n0 own code maxL ret nm R Q pc' Ls (x :: y :: x :: st) h vm k n) : RunW l Z EL n0 own code maxL ret nm R Q pc Ls (x :: y :: st) h vm k n := by
  subst hp
  exact RunW.stp (fun p e below T m c t hA hx hc q => XT.dupX1 hA hx rfl (hb hc hd) rfl hv hv' q) nxt
theorem RunW.dup2 {x y : Value} (hd : decode code pc = .ok (.dup2, 1)) (hv : x.category = 1) (hv' : y.category = 1) (hp : pc + 1 = pc') (nxt : RunW l Z EL n0 own code maxL ret nm R Q pc' Ls (x :: y :: x :: y :: st) h vm k n) : RunW l Z EL n0 own code maxL ret nm R Q pc Ls (x :: y :: st) h vm k n := by
  subst hp
  exact RunW.stp (fun p e below T m c t hA hx hc q => XT.dup2 hA hx rfl (hb hc hd) rfl hv hv' q) nxt
theorem RunW.dup2L {x : Int64} (hd : decode code pc = .ok (.dup2, 1))  (hp : pc + 1 = pc') (nxt : RunW l Z EL n0 own code maxL ret nm R Q pc' Ls (.long x :: .long x :: st) h vm k n) : RunW l Z EL n0 own code maxL ret nm R Q pc Ls (.long x :: st) h vm k n := by
  subst hp
  exact RunW.stp (fun p e below T m c t hA hx hc q => XT.dup2L hA hx rfl (hb hc hd) rfl q) nxt
theorem RunW.goto {o : Int} (hd : decode code pc = .ok (.goto o, 3)) (ho : 0 ≤ (pc : Int) + o) (hp : ((pc : Int) + o).toNat = pc') (nxt : RunW l Z EL n0 own code maxL ret nm R Q pc' Ls st h vm k n) : RunW l Z EL n0 own code maxL ret nm R Q pc Ls st h vm k n :=
  RunW.stp (fun p e below T m c t hA hx hc q => XS.goto hA hx rfl rfl (hb hc hd) ho hp q) nxt
theorem RunW.if_eq {x : Int32} {o : Int} {pa : Nat} (hd : decode code pc = .ok (.ifCond .eq o, 3)) (ho : 0 ≤ (pc : Int) + o) (hp : ((pc : Int) + o).toNat = pc') (hq : pc + 3 = pa)
    (yes : x = 0 → RunW l Z EL n0 own code maxL ret nm R Q pc' Ls st h vm k n) (no : ¬ x = 0 → RunW l Z EL n0 own code maxL ret nm R Q pa Ls st h vm k n) : RunW l Z EL n0 own code maxL ret nm R Q pc Ls (.int x :: st) h vm k n := by
  subst hq
  by_cases hc : x = 0
  · exact RunW.stp (fun p e below T m c t hA hx hb' q => XS.ifYes hA hx rfl rfl (hb hb' hd) rfl (XT.i0_eq_t hc) ho hp q) (yes hc)
  · exact RunW.stp (fun p e below T m c t hA hx hb' q => XS.ifNo hA hx rfl (hb hb' hd) rfl (XT.i0_eq_f hc) q) (no hc)
theorem RunW.icmp_eq {x y : Int32} {o : Int} {pa : Nat} (hd : decode code pc = .ok (.if_icmp .eq o, 3)) (ho : 0 ≤ (pc : Int) + o) (hp : ((pc : Int) + o).toNat = pc') (hq : pc + 3 = pa)
    (yes : x = y → RunW l Z EL n0 own code maxL ret nm R Q pc' Ls st h vm k n) (no : ¬ x = y → RunW l Z EL n0 own code maxL ret nm R Q pa Ls st h vm k n) : RunW l Z EL n0 own code maxL ret nm R Q pc Ls (.int y :: .int x :: st) h vm k n := by
  subst hq
  by_cases hc : x = y
  · exact RunW.stp (fun p e below T m c t hA hx hb' q => XS.icmpYes hA hx rfl rfl (hb hb' hd) rfl (XT.ii_eq_t hc) ho hp q) (yes hc)
  · exact RunW.stp (fun p e below T m c t hA hx hb' q => XS.icmpNo hA hx rfl (hb hb' hd) rfl (XT.ii_eq_f hc) q) (no hc)
theorem RunW.if_ne {x : Int32} {o : Int} {pa : Nat} (hd : decode code pc = .ok (.ifCond .ne o, 3)) (ho : 0 ≤ (pc : Int) + o) (hp : ((pc : Int) + o).toNat = pc') (hq : pc + 3 = pa)
    (yes : ¬ x = 0 → RunW l Z EL n0 own code maxL ret nm R Q pc' Ls st h vm k n) (no : x = 0 → RunW l Z EL n0 own code maxL ret nm R Q pa Ls st h vm k n) : RunW l Z EL n0 own code maxL ret nm R Q pc Ls (.int x :: st) h vm k n := by
  subst hq
  by_cases hc : x = 0
  · exact RunW.stp (fun p e below T m c t hA hx hb' q => XS.ifNo hA hx rfl (hb hb' hd) rfl (XT.i0_ne_f hc) q) (no (by simpa using hc))
  · exact RunW.stp (fun p e below T m c t hA hx hb' q => XS.ifYes hA hx rfl rfl (hb hb' hd) rfl (XT.i0_ne_t hc) ho hp q) (yes hc)
theorem RunW.icmp_ne {x y : Int32} {o : Int} {pa : Nat} (hd : decode code pc = .ok (.if_icmp .ne o, 3)) (ho : 0 ≤ (pc : Int) + o) (hp : ((pc : Int) + o).toNat = pc') (hq : pc + 3 = pa)
    (yes : ¬ x = y → RunW l Z EL n0 own code maxL ret nm R Q pc' Ls st h vm k n) (no : x = y → RunW l Z EL n0 own code maxL ret nm R Q pa Ls st h vm k n) : RunW l Z EL n0 own code maxL ret nm R Q pc Ls (.int y :: .int x :: st) h vm k n := by
  subst hq
  by_cases hc : x = y
  · exact RunW.stp (fun p e below T m c t hA hx hb' q => XS.icmpNo hA hx rfl (hb hb' hd) rfl (XT.ii_ne_f hc) q) (no (by simpa using hc))
  · exact RunW.stp (fun p e below T m c t hA hx hb' q => XS.icmpYes hA hx rfl rfl (hb hb' hd) rfl (XT.ii_ne_t hc) ho hp q) (yes hc)
theorem RunW.if_lt {x : Int32} {o : Int} {pa : Nat} (hd : decode code pc = .ok (.ifCond .lt o, 3)) (ho : 0 ≤ (pc : Int) + o) (hp : ((pc : Int) + o).toNat = pc') (hq : pc + 3 = pa)
    (yes : x < 0 → RunW l Z EL n0 own code maxL ret nm R Q pc' Ls st h vm k n) (no : ¬ x < 0 → RunW l Z EL n0 own code maxL ret nm R Q pa Ls st h vm k n) : RunW l Z EL n0 own code maxL ret nm R Q pc Ls (.int x :: st) h vm k n := by
  subst hq
  by_cases hc : x < 0
  · exact RunW.stp (fun p e below T m c t hA hx hb' q => XS.ifYes hA hx rfl rfl (hb hb' hd) rfl (XT.i0_lt_t hc) ho hp q) (yes hc)
  · exact RunW.stp (fun p e below T m c t hA hx hb' q => XS.ifNo hA hx rfl (hb hb' hd) rfl (XT.i0_lt_f hc) q) (no hc)
theorem RunW.icmp_lt {x y : Int32} {o : Int} {pa : Nat} (hd : decode code pc = .ok (.if_icmp .lt o, 3)) (ho : 0 ≤ (pc : Int) + o) (hp : ((pc : Int) + o).toNat = pc') (hq : pc + 3 = pa)
    (yes : x < y → RunW l Z EL n0 own code maxL ret nm R Q pc' Ls st h vm k n) (no : ¬ x < y → RunW l Z EL n0 own code maxL ret nm R Q pa Ls st h vm k n) : RunW l Z EL n0 own code maxL ret nm R Q pc Ls (.int y :: .int x :: st) h vm k n := by
  subst hq
  by_cases hc : x < y
  · exact RunW.stp (fun p e below T m c t hA hx hb' q => XS.icmpYes hA hx rfl rfl (hb hb' hd) rfl (XT.ii_lt_t hc) ho hp q) (yes hc)
  · exact RunW.stp (fun p e below T m c t hA hx hb' q => XS.icmpNo hA hx rfl (hb hb' hd) rfl (XT.ii_lt_f hc) q) (no hc)
theorem RunW.if_ge {x : Int32} {o : Int} {pa : Nat} (hd : decode code pc = .ok (.ifCond .ge o, 3)) (ho : 0 ≤ (pc : Int) + o) (hp : ((pc : Int) + o).toNat = pc') (hq : pc + 3 = pa)
    (yes : ¬ x < 0 → RunW l Z EL n0 own code maxL ret nm R Q pc' Ls st h vm k n) (no : x < 0 → RunW l Z EL n0 own code maxL ret nm R Q pa Ls st h vm k n) : RunW l Z EL n0 own code maxL ret nm R Q pc Ls (.int x :: st) h vm k n := by
  subst hq
  by_cases hc : x < 0
  · exact RunW.stp (fun p e below T m c t hA hx hb' q => XS.ifNo hA hx rfl (hb hb' hd) rfl (XT.i0_ge_f hc) q) (no (by simpa using hc))
  · exact RunW.stp (fun p e below T m c t hA hx hb' q => XS.ifYes hA hx rfl rfl (hb hb' hd) rfl (XT.i0_ge_t hc) ho hp q) (yes hc)
theorem RunW.icmp_ge {x y : Int32} {o : Int} {pa : Nat} (hd : decode code pc = .ok (.if_icmp .ge o, 3)) (ho : 0 ≤ (pc : Int) + o) (hp : ((pc : Int) + o).toNat = pc') (hq : pc + 3 = pa)
    (yes : ¬ x < y → RunW l Z EL n0 own code maxL ret nm R Q pc' Ls st h vm k n) (no : x < y → RunW l Z EL n0 own code maxL ret nm R Q pa Ls st h vm k n) : RunW l Z EL n0 own code maxL ret nm R Q pc Ls (.int y :: .int x :: st) h vm k n := by
  subst hq
  by_cases hc : x < y
  · exact RunW.stp (fun p e below T m c t hA hx hb' q => XS.icmpNo hA hx rfl (hb hb' hd) rfl (XT.ii_ge_f hc) q) (no (by simpa using hc))
  · exact RunW.stp (fun p e below T m c t hA hx hb' q => XS.icmpYes hA hx rfl rfl (hb hb' hd) rfl (XT.ii_ge_t hc) ho hp q) (yes hc)
theorem RunW.if_gt {x : Int32} {o : Int} {pa : Nat} (hd : decode code pc = .ok (.ifCond .gt o, 3)) (ho : 0 ≤ (pc : Int) + o) (hp : ((pc : Int) + o).toNat = pc') (hq : pc + 3 = pa)
    (yes : 0 < x → RunW l Z EL n0 own code maxL ret nm R Q pc' Ls st h vm k n) (no : ¬ 0 < x → RunW l Z EL n0 own code maxL ret nm R Q pa Ls st h vm k n) : RunW l Z EL n0 own code maxL ret nm R Q pc Ls (.int x :: st) h vm k n := by
  subst hq
  by_cases hc : 0 < x
  · exact RunW.stp (fun p e below T m c t hA hx hb' q => XS.ifYes hA hx rfl rfl (hb hb' hd) rfl (XT.i0_gt_t hc) ho hp q) (yes hc)
  · exact RunW.stp (fun p e below T m c t hA hx hb' q => XS.ifNo hA hx rfl (hb hb' hd) rfl (XT.i0_gt_f hc) q) (no hc)
theorem RunW.icmp_gt {x y : Int32} {o : Int} {pa : Nat} (hd : decode code pc = .ok (.if_icmp .gt o, 3)) (ho : 0 ≤ (pc : Int) + o) (hp : ((pc : Int) + o).toNat = pc') (hq : pc + 3 = pa)
    (yes : y < x → RunW l Z EL n0 own code maxL ret nm R Q pc' Ls st h vm k n) (no : ¬ y < x → RunW l Z EL n0 own code maxL ret nm R Q pa Ls st h vm k n) : RunW l Z EL n0 own code maxL ret nm R Q pc Ls (.int y :: .int x :: st) h vm k n := by
  subst hq
  by_cases hc : y < x
  · exact RunW.stp (fun p e below T m c t hA hx hb' q => XS.icmpYes hA hx rfl rfl (hb hb' hd) rfl (XT.ii_gt_t hc) ho hp q) (yes hc)
  · exact RunW.stp (fun p e below T m c t hA hx hb' q => XS.icmpNo hA hx rfl (hb hb' hd) rfl (XT.ii_gt_f hc) q) (no hc)
theorem RunW.if_le {x : Int32} {o : Int} {pa : Nat} (hd : decode code pc = .ok (.ifCond .le o, 3)) (ho : 0 ≤ (pc : Int) + o) (hp : ((pc : Int) + o).toNat = pc') (hq : pc + 3 = pa)
    (yes : ¬ 0 < x → RunW l Z EL n0 own code maxL ret nm R Q pc' Ls st h vm k n) (no : 0 < x → RunW l Z EL n0 own code maxL ret nm R Q pa Ls st h vm k n) : RunW l Z EL n0 own code maxL ret nm R Q pc Ls (.int x :: st) h vm k n := by
  subst hq
  by_cases hc : 0 < x
  · exact RunW.stp (fun p e below T m c t hA hx hb' q => XS.ifNo hA hx rfl (hb hb' hd) rfl (XT.i0_le_f hc) q) (no (by simpa using hc))
  · exact RunW.stp (fun p e below T m c t hA hx hb' q => XS.ifYes hA hx rfl rfl (hb hb' hd) rfl (XT.i0_le_t hc) ho hp q) (yes hc)
theorem RunW.icmp_le {x y : Int32} {o : Int} {pa : Nat} (hd : decode code pc = .ok (.if_icmp .le o, 3)) (ho : 0 ≤ (pc : Int) + o) (hp : ((pc : Int) + o).toNat = pc') (hq : pc + 3 = pa)
    (yes : ¬ y < x → RunW l Z EL n0 own code maxL ret nm R Q pc' Ls st h vm k n) (no : y < x → RunW l Z EL n0 own code maxL ret nm R Q pa Ls st h vm k n) : RunW l Z EL n0 own code maxL ret nm R Q pc Ls (.int y :: .int x :: st) h vm k n := by
  subst hq
  by_cases hc : y < x
  · exact RunW.stp (fun p e below T m c t hA hx hb' q => XS.icmpNo hA hx rfl (hb hb' hd) rfl (XT.ii_le_f hc) q) (no (by simpa using hc))
  · exact RunW.stp (fun p e below T m c t hA hx hb' q => XS.icmpYes hA hx rfl rfl (hb hb' hd) rfl (XT.ii_le_t hc) ho hp q) (yes hc)
theorem RunW.lif_eq {x y : Int64} {o : Int} {pa : Nat} (hd : decode code pc = .ok (.ifCond .eq o, 3)) (ho : 0 ≤ (pc : Int) + o) (hp : ((pc : Int) + o).toNat = pc') (hq : pc + 3 = pa)
    (yes : x = y → RunW l Z EL n0 own code maxL ret nm R Q pc' Ls st h vm k n) (no : ¬ x = y → RunW l Z EL n0 own code maxL ret nm R Q pa Ls st h vm k n) : RunW l Z EL n0 own code maxL ret nm R Q pc Ls (.int (XT.cmpL x y) :: st) h vm k n := by
  subst hq
  by_cases hc : x = y
  · exact RunW.stp (fun p e below T m c t hA hx hb' q => XS.ifYes hA hx rfl rfl (hb hb' hd) rfl (XT.ll_eq_t hc) ho hp q) (yes hc)
  · exact RunW.stp (fun p e below T m c t hA hx hb' q => XS.ifNo hA hx rfl (hb hb' hd) rfl (XT.ll_eq_f hc) q) (no hc)
theorem RunW.lif_ne {x y : Int64} {o : Int} {pa : Nat} (hd : decode code pc = .ok (.ifCond .ne o, 3)) (ho : 0 ≤ (pc : Int) + o) (hp : ((pc : Int) + o).toNat = pc') (hq : pc + 3 = pa)
    (yes : ¬ x = y → RunW l Z EL n0 own code maxL ret nm R Q pc' Ls st h vm k n) (no : x = y → RunW l Z EL n0 own code maxL ret nm R Q pa Ls st h vm k n) : RunW l Z EL n0 own code maxL ret nm R Q pc Ls (.int (XT.cmpL x y) :: st) h vm k n := by
  subst hq
  by_cases hc : x = y
  · exact RunW.stp (fun p e below T m c t hA hx hb' q => XS.ifNo hA hx rfl (hb hb' hd) rfl (XT.ll_ne_f hc) q) (no (by simpa using hc))
  · exact RunW.stp (fun p e below T m c t hA hx hb' q => XS.ifYes hA hx rfl rfl (hb hb' hd) rfl (XT.ll_ne_t hc) ho hp q) (yes hc)
theorem RunW.lif_lt {x y : Int64} {o : Int} {pa : Nat} (hd : decode code pc = .ok (.ifCond .lt o, 3)) (ho : 0 ≤ (pc : Int) + o) (hp : ((pc : Int) + o).toNat = pc') (hq : pc + 3 = pa)
    (yes : x < y → RunW l Z EL n0 own code maxL ret nm R Q pc' Ls st h vm k n) (no : ¬ x < y → RunW l Z EL n0 own code maxL ret nm R Q pa Ls st h vm k n) : RunW l Z EL n0 own code maxL ret nm R Q pc Ls (.int (XT.cmpL x y) :: st) h vm k n := by
  subst hq
  by_cases hc : x < y
  · exact RunW.stp (fun p e below T m c t hA hx hb' q => XS.ifYes hA hx rfl rfl (hb hb' hd) rfl (XT.ll_lt_t hc) ho hp q) (yes hc)
  · exact RunW.stp (fun p e below T m c t hA hx hb' q => XS.ifNo hA hx rfl (hb hb' hd) rfl (XT.ll_lt_f hc) q) (no hc)
theorem RunW.lif_ge {x y : Int64} {o : Int} {pa : Nat} (hd : decode code pc = .ok (.ifCond .ge o, 3)) (ho : 0 ≤ (pc : Int) + o) (hp : ((pc : Int) + o).toNat = pc') (hq : pc + 3 = pa)
    (yes : ¬ x < y → RunW l Z EL n0 own code maxL ret nm R Q pc' Ls st h vm k n) (no : x < y → RunW l Z EL n0 own code maxL ret nm R Q pa Ls st h vm k n) : RunW l Z EL n0 own code maxL ret nm R Q pc Ls (.int (XT.cmpL x y) :: st) h vm k n := by
  subst hq
  by_cases hc : x < y
  · exact RunW.stp (fun p e below T m c t hA hx hb' q => XS.ifNo hA hx rfl (hb hb' hd) rfl (XT.ll_ge_f hc) q) (no (by simpa using hc))
  · exact RunW.stp (fun p e below T m c t hA hx hb' q => XS.ifYes hA hx rfl rfl (hb hb' hd) rfl (XT.ll_ge_t hc) ho hp q) (yes hc)
theorem RunW.lif_gt {x y : Int64} {o : Int} {pa : Nat} (hd : decode code pc = .ok (.ifCond .gt o, 3)) (ho : 0 ≤ (pc : Int) + o) (hp : ((pc : Int) + o).toNat = pc') (hq : pc + 3 = pa)
    (yes : y < x → RunW l Z EL n0 own code maxL ret nm R Q pc' Ls st h vm k n) (no : ¬ y < x → RunW l Z EL n0 own code maxL ret nm R Q pa Ls st h vm k n) : RunW l Z EL n0 own code maxL ret nm R Q pc Ls (.int (XT.cmpL x y) :: st) h vm k n := by
  subst hq
  by_cases hc : y < x
  · exact RunW.stp (fun p e below T m c t hA hx hb' q => XS.ifYes hA hx rfl rfl (hb hb' hd) rfl (XT.ll_gt_t hc) ho hp q) (yes hc)
  · exact RunW.stp (fun p e below T m c t hA hx hb' q => XS.ifNo hA hx rfl (hb hb' hd) rfl (XT.ll_gt_f hc) q) (no hc)
theorem RunW.lif_le {x y : Int64} {o : Int} {pa : Nat} (hd : decode code pc = .ok (.ifCond .le o, 3)) (ho : 0 ≤ (pc : Int) + o) (hp : ((pc : Int) + o).toNat = pc') (hq : pc + 3 = pa)
    (yes : ¬ y < x → RunW l Z EL n0 own code maxL ret nm R Q pc' Ls st h vm k n) (no : y < x → RunW l Z EL n0 own code maxL ret nm R Q pa Ls st h vm k n) : RunW l Z EL n0 own code maxL ret nm R Q pc Ls (.int (XT.cmpL x y) :: st) h vm k n := by
  subst hq
  by_cases hc : y < x
  · exact RunW.stp (fun p e below T m c t hA hx hb' q => XS.ifNo hA hx rfl (hb hb' hd) rfl (XT.ll_le_f hc) q) (no (by simpa using hc))
  · exact RunW.stp (fun p e below T m c t hA hx hb' q => XS.ifYes hA hx rfl rfl (hb hb' hd) rfl (XT.ll_le_t hc) ho hp q) (yes hc)
theorem RunW.acmp_eq {x y : Value} {o : Int} {pa : Nat} (hd : decode code pc = .ok (.if_acmp .eq o, 3)) (hv : x.isRef = true) (hv' : y.isRef = true) (ho : 0 ≤ (pc : Int) + o) (hp : ((pc : Int) + o).toNat = pc') (hq : pc + 3 = pa)
    (yes : x = y → RunW l Z EL n0 own code maxL ret nm R Q pc' Ls st h vm k n) (no : ¬ x = y → RunW l Z EL n0 own code maxL ret nm R Q pa Ls st h vm k n) : RunW l Z EL n0 own code maxL ret nm R Q pc Ls (y :: x :: st) h vm k n := by
  subst hq
  by_cases hc : x = y
  · exact RunW.stp (fun p e below T m c t hA hx hb' q => XT.acmpYes hA hx rfl rfl (hb hb' hd) rfl hv hv' (XT.aa_eq_t hc) ho hp q) (yes hc)
  · exact RunW.stp (fun p e below T m c t hA hx hb' q => XT.acmpNo hA hx rfl (hb hb' hd) rfl hv hv' (XT.aa_eq_f hc) q) (no hc)
theorem RunW.acmp_ne {x y : Value} {o : Int} {pa : Nat} (hd : decode code pc = .ok (.if_acmp .ne o, 3)) (hv : x.isRef = true) (hv' : y.isRef = true) (ho : 0 ≤ (pc : Int) + o) (hp : ((pc : Int) + o).toNat = pc') (hq : pc + 3 = pa)
    (yes : ¬ x = y → RunW l Z EL n0 own code maxL ret nm R Q pc' Ls st h vm k n) (no : x = y → RunW l Z EL n0 own code maxL ret nm R Q pa Ls st h vm k n) : RunW l Z EL n0 own code maxL ret nm R Q pc Ls (y :: x :: st) h vm k n := by
  subst hq
  by_cases hc : x = y
  · exact RunW.stp (fun p e below T m c t hA hx hb' q => XT.acmpNo hA hx rfl (hb hb' hd) rfl hv hv' (XT.aa_ne_f hc) q) (no (by simpa using hc))
  · exact RunW.stp (fun p e below T m c t hA hx hb' q => XT.acmpYes hA hx rfl rfl (hb hb' hd) rfl hv hv' (XT.aa_ne_t hc) ho hp q) (yes hc)
theorem RunW.ifnull {v : Value} {o : Int} {pa : Nat} (hd : decode code pc = .ok (.ifnull o, 3)) (hv : v.isRef = true) (ho : 0 ≤ (pc : Int) + o) (hp : ((pc : Int) + o).toNat = pc') (hq : pc + 3 = pa)
    (yes : v = .null → RunW l Z EL n0 own code maxL ret nm R Q pc' Ls st h vm k n) (no : ¬ v = .null → RunW l Z EL n0 own code maxL ret nm R Q pa Ls st h vm k n) : RunW l Z EL n0 own code maxL ret nm R Q pc Ls (v :: st) h vm k n := by
  subst hq
  by_cases hc : v = .null
  · exact RunW.stp (fun p e below T m c t hA hx hb' q => XT.nullYes hA hx rfl rfl (hb hb' hd) rfl hc ho hp q) (yes hc)
  · exact RunW.stp (fun p e below T m c t hA hx hb' q => XT.nullNo hA hx rfl (hb hb' hd) rfl hv hc q) (no hc)
theorem RunW.ifnonnull {v : Value} {o : Int} {pa : Nat} (hd : decode code pc = .ok (.ifnonnull o, 3)) (hv : v.isRef = true) (ho : 0 ≤ (pc : Int) + o) (hp : ((pc : Int) + o).toNat = pc') (hq : pc + 3 = pa)
    (yes : ¬ v = .null → RunW l Z EL n0 own code maxL ret nm R Q pc' Ls st h vm k n) (no : v = .null → RunW l Z EL n0 own code maxL ret nm R Q pa Ls st h vm k n) : RunW l Z EL n0 own code maxL ret nm R Q pc Ls (v :: st) h vm k n := by
  subst hq
  by_cases hc : v = .null
  · exact RunW.stp (fun p e below T m c t hA hx hb' q => XT.nonnullNo hA hx rfl (hb hb' hd) rfl hc q) (no hc)
  · exact RunW.stp (fun p e below T m c t hA hx hb' q => XT.nonnullYes hA hx rfl rfl (hb hb' hd) rfl hv hc ho hp q) (yes hc)
theorem RunW.ldcI {a0 : Array Value} {i : Nat} {v : Int32} (hd : decode code pc = .ok (.ldc i, 2)) (w : (Cond.constant own i v).before a0 Z = true) (hp : pc + 2 = pc') (nxt : RunW l Z EL n0 own code maxL ret nm R Q pc' Ls (.int v :: st) h vm k n) : RunW l Z EL n0 own code maxL ret nm R Q pc Ls st h vm k n := by
  subst hp
  exact RunW.via (fun p e s m args below meth c T locs cells slots hC X eT => ⟨T, X, eT, fun t q => X.ldcI hC.1 hC.2.2.1 (mvT hC.2.1 w) rfl (hb hC.2.2.2.1 hd) q⟩) nxt
theorem RunW.ldcWI {a0 : Array Value} {i : Nat} {v : Int32} (hd : decode code pc = .ok (.ldc_w i, 3)) (w : (Cond.constant own i v).before a0 Z = true) (hp : pc + 3 = pc') (nxt : RunW l Z EL n0 own code maxL ret nm R Q pc' Ls (.int v :: st) h vm k n) : RunW l Z EL n0 own code maxL ret nm R Q pc Ls st h vm k n := by
  subst hp
  exact RunW.via (fun p e s m args below meth c T locs cells slots hC X eT => ⟨T, X, eT, fun t q => X.ldcWI hC.1 hC.2.2.1 (mvT hC.2.1 w) rfl (hb hC.2.2.2.1 hd) q⟩) nxt
theorem RunW.ldc2J {a0 : Array Value} {i : Nat} {v : Int64} (hd : decode code pc = .ok (.ldc2_w i, 3)) (w : (Cond.constantLong own i v).before a0 Z = true) (hp : pc + 3 = pc') (nxt : RunW l Z EL n0 own code maxL ret nm R Q pc' Ls (.long v :: st) h vm k n) : RunW l Z EL n0 own code maxL ret nm R Q pc Ls st h vm k n := by
  subst hp
  exact RunW.via (fun p e s m args below meth c T locs cells slots hC X eT => ⟨T, X, eT, fun t q => X.ldc2J hC.1 hC.2.2.1 (mvT hC.2.1 w) rfl (hb hC.2.2.2.1 hd) q⟩) nxt
theorem RunW.getS {a0 : Array Value} {R0 O f d host : String} {i : Nat} {v : Value} (hd : decode code pc = .ok (.getstatic i, 3)) (w : (Cond.fieldLink own i R0 f d).before a0 Z = true ∨ (Cond.fieldLinkNest own i R0 f d host).before a0 Z = true) (via : Via Z R0 O f d) (F : Sta Z h O f d v) (hp : pc + 3 = pc') (nxt : RunW l Z EL n0 own code maxL ret nm R Q pc' Ls (v :: st) h vm k n) : RunW l Z EL n0 own code maxL ret nm R Q pc Ls st h vm k n := by
  subst hp
  exact RunW.via (fun p e s m args below meth c T locs cells slots hC X eT => getS2 X hC.1 hC.2.1 hC.2.2.1 w via eT F (g := mkF m pc Ls st) rfl (hb hC.2.2.2.1 hd)) nxt
theorem RunW.getF {a0 : Array Value} {R0 O f d host : String} {i : Nat} {a : Addr} {v : Value} (hd : decode code pc = .ok (.getfield i, 3)) (w : (Cond.fieldLink own i R0 f d).before a0 Z = true ∨ (Cond.fieldLinkNest own i R0 f d host).before a0 Z = true) (via : Via Z R0 O f d) (F : Fld Z h a O f d v) (hp : pc + 3 = pc') (nxt : RunW l Z EL n0 own code maxL ret nm R Q pc' Ls (v :: st) h vm k n) : RunW l Z EL n0 own code maxL ret nm R Q pc Ls (.ref a :: st) h vm k n := by
  subst hp
  exact RunW.via (fun p e s m args below meth c T locs cells slots hC X eT => getF X hC.1 hC.2.1 hC.2.2.1 w via eT F (g := mkF m pc Ls (.ref a :: st)) rfl rfl (hb hC.2.2.2.1 hd)) nxt
theorem RunW.initO {a0 : Array Value} {i : Nat} {a : Addr} (hd : decode code pc = .ok (.invokespecial i, 3)) (w1 : (Cond.methodLink own i Lib.objectInit).before a0 Z = true) (w2 : (Cond.instanceMethod Lib.objectInit).before a0 Z = true) (w3 : (Cond.code Lib.objectInit ⟨#[0xb1]⟩ 1 none).before a0 Z = true)
    (hsz : Ls.size = maxL) (hf : 1 ≤ R.frames) (hl : (st.map fun v => v.category).sum + 12 ≤ R.locals) (hp : pc + 3 = pc') (nxt : RunW l Z EL n0 own code maxL ret nm R Q pc' Ls st h vm k n) : RunW l Z EL n0 own code maxL ret nm R Q pc Ls (.ref a :: st) h vm k n := by
  subst hp
  exact RunW.via (fun p e s m args below meth c T locs cells slots hC X eT => initO X hC.1 hC.2.1 hC.2.2.1 w1 w2 w3 eT (g := mkF m pc Ls (.ref a :: st)) rfl (hsz.trans hC.2.2.2.2.1.symm) rfl (hb hC.2.2.2.1 hd) hf (W := (st.map fun v => v.category).sum) (by show 2 * 0 + _ ≤ _; omega) hl) nxt
theorem RunW.castY {a0 : Array Value} {K : String} {i : Nat} {a : Addr} (hd : decode code pc = .ok (.checkcast i, 3)) (w : (Cond.classLink own i K).before a0 Z = true) (F : Ins Z h a K true) (hp : pc + 3 = pc') (nxt : RunW l Z EL n0 own code maxL ret nm R Q pc' Ls (.ref a :: st) h vm k n) : RunW l Z EL n0 own code maxL ret nm R Q pc Ls (.ref a :: st) h vm k n := by
  subst hp
  exact RunW.via (fun p e s m args below meth c T locs cells slots hC X eT => castY X hC.1 hC.2.1 hC.2.2.1 w eT F (g := mkF m pc Ls (.ref a :: st)) rfl rfl (hb hC.2.2.2.1 hd)) nxt
theorem RunW.castNull {i : Nat} (hd : decode code pc = .ok (.checkcast i, 3)) (hp : pc + 3 = pc') (nxt : RunW l Z EL n0 own code maxL ret nm R Q pc' Ls (.null :: st) h vm k n) : RunW l Z EL n0 own code maxL ret nm R Q pc Ls (.null :: st) h vm k n := by
  subst hp
  exact RunW.via (fun p e s m args below meth c T locs cells slots hC X eT => ⟨T, X, eT, fun t q => X.checkcastNull hC.1 (g := mkF m pc Ls (.null :: st)) rfl rfl (hb hC.2.2.2.1 hd) t q⟩) nxt
theorem RunW.instY {a0 : Array Value} {K : String} {i : Nat} {a : Addr} (hd : decode code pc = .ok (.instanceof i, 3)) (w : (Cond.classLink own i K).before a0 Z = true) (F : Ins Z h a K true) (hp : pc + 3 = pc') (nxt : RunW l Z EL n0 own code maxL ret nm R Q pc' Ls (.int 1 :: st) h vm k n) : RunW l Z EL n0 own code maxL ret nm R Q pc Ls (.ref a :: st) h vm k n := by
  subst hp
  exact RunW.via (fun p e s m args below meth c T locs cells slots hC X eT => instY X hC.1 hC.2.1 hC.2.2.1 w eT F (g := mkF m pc Ls (.ref a :: st)) rfl rfl (hb hC.2.2.2.1 hd)) nxt
theorem RunW.instNo {a0 : Array Value} {K C : String} {i : Nat} {a : Addr} (hd : decode code pc = .ok (.instanceof i, 3)) (w : (Cond.classLink own i K).before a0 Z = true) (E : Exa Z h a C) (F : ∃ c t, Z.vm.findClass C = some c ∧ Z.vm.findClass K = some t ∧ Z.vm.assignable c t = false) (hp : pc + 3 = pc') (nxt : RunW l Z EL n0 own code maxL ret nm R Q pc' Ls (.int 0 :: st) h vm k n) : RunW l Z EL n0 own code maxL ret nm R Q pc Ls (.ref a :: st) h vm k n := by
  subst hp
  exact RunW.via (fun p e s m args below meth c T locs cells slots hC X eT => instNo X hC.1 hC.2.1 hC.2.2.1 w eT E F (g := mkF m pc Ls (.ref a :: st)) rfl rfl (hb hC.2.2.2.1 hd)) nxt
theorem RunW.instNull {i : Nat} (hd : decode code pc = .ok (.instanceof i, 3)) (hp : pc + 3 = pc') (nxt : RunW l Z EL n0 own code maxL ret nm R Q pc' Ls (.int 0 :: st) h vm k n) : RunW l Z EL n0 own code maxL ret nm R Q pc Ls (.null :: st) h vm k n := by
  subst hp
  exact RunW.via (fun p e s m args below meth c T locs cells slots hC X eT => ⟨T, X, eT, fun t q => X.instanceofNull hC.1 (g := mkF m pc Ls (.null :: st)) rfl rfl (hb hC.2.2.2.1 hd) t q⟩) nxt
theorem RunW.alen {a : Addr} {ty : FieldType} {vs : List Value} {z : Int32} (hd : decode code pc = .ok (.arraylength, 1)) (A : Ary Z h a ty vs) (hz : vs.length.toInt32 = z) (hp : pc + 1 = pc') (nxt : RunW l Z EL n0 own code maxL ret nm R Q pc' Ls (.int z :: st) h vm k n) : RunW l Z EL n0 own code maxL ret nm R Q pc Ls (.ref a :: st) h vm k n := by
  subst hp hz
  obtain ⟨c0, A, r⟩ := A
  exact RunW.via (fun p e s m args below meth c T locs cells slots hC X eT => ⟨T, X, eT, fun t q => X.arraylength hC.1 (by rw [eT]; exact A.1) (State.isArrayOf_alike hC.2.1.alike A.2.1) (g := mkF m pc Ls (.ref a :: st)) rfl rfl (hb hC.2.2.2.1 hd) t (by rw [sizeOf r]; exact q)⟩) nxt
theorem RunW.iaload {a : Addr} {vs : List Value} {j : Int32} {i : Nat} {v : Value} (hd : decode code pc = .ok (.iaload, 1)) (A : Ary Z h a .int vs) (hj : j.toInt = (i : Int)) (hv : vs[i]? = some v) (hp : pc + 1 = pc') (nxt : RunW l Z EL n0 own code maxL ret nm R Q pc' Ls (v :: st) h vm k n) : RunW l Z EL n0 own code maxL ret nm R Q pc Ls (.int j :: .ref a :: st) h vm k n := by
  subst hp
  obtain ⟨c0, A, r⟩ := A
  obtain ⟨hin, e0⟩ := idxIn (c := c0) hj (by rw [sizeOf r]; exact (List.getElem?_eq_some_iff.mp hv).1)
  exact RunW.via (fun p e s m args below meth c T locs cells slots hC X eT => ⟨T, X, eT, fun t q => X.iaload hC.1 (by rw [eT]; exact A.1) (State.isArrayOf_alike hC.2.1.alike A.2.1) A.2.2 hin (by rw [e0]; exact getOf r hv) (g := mkF m pc Ls (.int j :: .ref a :: st)) rfl rfl (hb hC.2.2.2.1 hd) t q⟩) nxt
theorem RunW.laload {a : Addr} {vs : List Value} {j : Int32} {i : Nat} {v : Value} (hd : decode code pc = .ok (.laload, 1)) (A : Ary Z h a .long vs) (hj : j.toInt = (i : Int)) (hv : vs[i]? = some v) (hp : pc + 1 = pc') (nxt : RunW l Z EL n0 own code maxL ret nm R Q pc' Ls (v :: st) h vm k n) : RunW l Z EL n0 own code maxL ret nm R Q pc Ls (.int j :: .ref a :: st) h vm k n := by
  subst hp
  obtain ⟨c0, A, r⟩ := A
  obtain ⟨hin, e0⟩ := idxIn (c := c0) hj (by rw [sizeOf r]; exact (List.getElem?_eq_some_iff.mp hv).1)
  exact RunW.via (fun p e s m args below meth c T locs cells slots hC X eT => ⟨T, X, eT, fun t q => X.laload hC.1 (by rw [eT]; exact A.1) (State.isArrayOf_alike hC.2.1.alike A.2.1) A.2.2 hin (by rw [e0]; exact getOf r hv) (g := mkF m pc Ls (.int j :: .ref a :: st)) rfl rfl (hb hC.2.2.2.1 hd) t q⟩) nxt
theorem RunW.caload {a : Addr} {vs : List Value} {j : Int32} {i : Nat} {v : Value} (hd : decode code pc = .ok (.caload, 1)) (A : Ary Z h a .char vs) (hj : j.toInt = (i : Int)) (hv : vs[i]? = some v) (hp : pc + 1 = pc') (nxt : RunW l Z EL n0 own code maxL ret nm R Q pc' Ls (v :: st) h vm k n) : RunW l Z EL n0 own code maxL ret nm R Q pc Ls (.int j :: .ref a :: st) h vm k n := by
  subst hp
  obtain ⟨c0, A, r⟩ := A
  obtain ⟨hin, e0⟩ := idxIn (c := c0) hj (by rw [sizeOf r]; exact (List.getElem?_eq_some_iff.mp hv).1)
  exact RunW.via (fun p e s m args below meth c T locs cells slots hC X eT => ⟨T, X, eT, fun t q => X.caload hC.1 (by rw [eT]; exact A.1) (State.isArrayOf_alike hC.2.1.alike A.2.1) A.2.2 hin (by rw [e0]; exact getOf r hv) (g := mkF m pc Ls (.int j :: .ref a :: st)) rfl rfl (hb hC.2.2.2.1 hd) t q⟩) nxt
theorem RunW.saload {a : Addr} {vs : List Value} {j : Int32} {i : Nat} {v : Value} (hd : decode code pc = .ok (.saload, 1)) (A : Ary Z h a .short vs) (hj : j.toInt = (i : Int)) (hv : vs[i]? = some v) (hp : pc + 1 = pc') (nxt : RunW l Z EL n0 own code maxL ret nm R Q pc' Ls (v :: st) h vm k n) : RunW l Z EL n0 own code maxL ret nm R Q pc Ls (.int j :: .ref a :: st) h vm k n := by
  subst hp
  obtain ⟨c0, A, r⟩ := A
  obtain ⟨hin, e0⟩ := idxIn (c := c0) hj (by rw [sizeOf r]; exact (List.getElem?_eq_some_iff.mp hv).1)
  exact RunW.via (fun p e s m args below meth c T locs cells slots hC X eT => ⟨T, X, eT, fun t q => X.saload hC.1 (by rw [eT]; exact A.1) (State.isArrayOf_alike hC.2.1.alike A.2.1) A.2.2 hin (by rw [e0]; exact getOf r hv) (g := mkF m pc Ls (.int j :: .ref a :: st)) rfl rfl (hb hC.2.2.2.1 hd) t q⟩) nxt
theorem RunW.baload {a : Addr} {vs : List Value} {j : Int32} {i : Nat} {v : Value} (hd : decode code pc = .ok (.baload, 1)) (A : Ary Z h a .byte vs) (hj : j.toInt = (i : Int)) (hv : vs[i]? = some v) (hp : pc + 1 = pc') (nxt : RunW l Z EL n0 own code maxL ret nm R Q pc' Ls (v :: st) h vm k n) : RunW l Z EL n0 own code maxL ret nm R Q pc Ls (.int j :: .ref a :: st) h vm k n := by
  subst hp
  obtain ⟨c0, A, r⟩ := A
  obtain ⟨hin, e0⟩ := idxIn (c := c0) hj (by rw [sizeOf r]; exact (List.getElem?_eq_some_iff.mp hv).1)
  exact RunW.via (fun p e s m args below meth c T locs cells slots hC X eT => ⟨T, X, eT, fun t q => X.baloadBytes hC.1 (by rw [eT]; exact A.1) (State.isArrayOf_alike hC.2.1.alike A.2.1) A.2.2 hin (by rw [e0]; exact getOf r hv) (g := mkF m pc Ls (.int j :: .ref a :: st)) rfl rfl (hb hC.2.2.2.1 hd) t q⟩) nxt
theorem RunW.aaload {a : Addr} {vs : List Value} {j : Int32} {i : Nat} {v : Value} {ty : FieldType} (hd : decode code pc = .ok (.aaload, 1)) (A : Ary Z h a ty vs) (hty : ty.isReference = true) (hj : j.toInt = (i : Int)) (hv : vs[i]? = some v) (hp : pc + 1 = pc') (nxt : RunW l Z EL n0 own code maxL ret nm R Q pc' Ls (v :: st) h vm k n) : RunW l Z EL n0 own code maxL ret nm R Q pc Ls (.int j :: .ref a :: st) h vm k n := by
  subst hp
  obtain ⟨c0, A, r⟩ := A
  obtain ⟨hin, e0⟩ := idxIn (c := c0) hj (by rw [sizeOf r]; exact (List.getElem?_eq_some_iff.mp hv).1)
  exact RunW.via (fun p e s m args below meth c T locs cells slots hC X eT => ⟨T, X, eT, fun t q => X.aaload hC.1 (by rw [eT]; exact A.1) (State.isArrayOf_alike hC.2.1.alike A.2.1) hty A.2.2 hin (by rw [e0]; exact getOf r hv) (g := mkF m pc Ls (.int j :: .ref a :: st)) rfl rfl (hb hC.2.2.2.1 hd) t q⟩) nxt
theorem GoW.fin {p : Program} {e : Env} {s : State} {m : MethodId} {args : Array Value} {below : List Frame} {meth : Method} {c : Code} {T S : State} {locs : List Loc} {cells slots k0 : Nat} {v : Option Value} (X : Stand p l e R (s.setVm vm) m args below meth c T locs cells slots) (hZ : Z.Warmed39 (s.setVm vm).vm) (hS : s.Since vm k0) (hk0 : k0 ≤ h.size) (hR : CHr Z EL s.vm s.heap vm h) (hE : ∃ a0, EW Z a0 EL) (eT : T.heap = h) (hv : meth.sig.returnType = none → v = none) (hlk : meth.locks = false) (hF : Fr n0 locs) (hk : cells ≤ R.cells) (hn : slots ≤ R.slots) (hQ : Q v h)
    (f : ∀ fs, (∀ (f : JFrame) (acts : List Action), f.method = m → f.locked = none → f.entered = [] → (doReturn e (T.setTop f) acts v).1 = T.setFrames fs) → Steps p.tables e below S (T.setFrames fs)) : GoW p e below Z s EL n0 R.cells R.slots Q S := by
  subst eT
  obtain ⟨a0, hE⟩ := hE
  have hRq := hR.trans (CHv.at X hZ hE hR.1)
  obtain ⟨fs, hr, hrun, hended, hW⟩ := X.leaveW hS hk0 (v := v) hv hlk
  exact ⟨_, v, locs, f fs hr, hrun, hended, ⟨hQ, hF⟩, hRq, hW.1, hW.2.1, hW.2.2.1, hW.2.2.2.mono hk hn⟩
theorem RunW.ireturn {z : Int32} (hd : decode code pc = .ok (.ireturn, 1)) (hret : ret = some .int) (hk : k ≤ R.cells) (hn : n ≤ R.slots) (hQ : Q (some (.int z)) h) : RunW l Z EL n0 own code maxL ret nm R Q pc Ls (.int z :: st) h vm k n := by
  intro p e s m args below meth c T locs cells slots k0 hC X hS hk0 hR hE eT hF hk' hn'
  have hr := hC.2.2.2.2.2.1
  exact GoW.fin X hC.2.1 hS hk0 hR hE eT (fun q => by rw [hr, hret] at q; cases q) hC.2.2.2.2.2.2.1 hF (Nat.le_trans hk' hk) (Nat.le_trans hn' hn) hQ (fun fs hl => retOut X hC.1 (hr.trans hret) rfl (Or.inl ⟨rfl, Or.inl rfl, z, rfl⟩) (hb hC.2.2.2.1 hd) hl)
theorem RunW.nreturn {z : Int32} {ty : FieldType} (hd : decode code pc = .ok (.ireturn, 1)) (hret : ret = some ty) (ht : ty = .boolean ∨ ty = .byte ∨ ty = .char ∨ ty = .short) (hk : k ≤ R.cells) (hn : n ≤ R.slots) (hQ : Q (some (.int (nar ty z))) h) : RunW l Z EL n0 own code maxL ret nm R Q pc Ls (.int z :: st) h vm k n := by
  intro p e s m args below meth c T locs cells slots k0 hC X hS hk0 hR hE eT hF hk' hn'
  have hr := hC.2.2.2.2.2.1
  exact GoW.fin X hC.2.1 hS hk0 hR hE eT (fun q => by rw [hr, hret] at q; cases q) hC.2.2.2.2.2.2.1 hF (Nat.le_trans hk' hk) (Nat.le_trans hn' hn) hQ (fun fs hl => retN X hC.1 (hr.trans hret) ht (hb hC.2.2.2.1 hd) hl)
theorem RunW.lreturn {z : Int64} (hd : decode code pc = .ok (.lreturn, 1)) (hret : ret = some .long) (hk : k ≤ R.cells) (hn : n ≤ R.slots) (hQ : Q (some (.long z)) h) : RunW l Z EL n0 own code maxL ret nm R Q pc Ls (.long z :: st) h vm k n := by
  intro p e s m args below meth c T locs cells slots k0 hC X hS hk0 hR hE eT hF hk' hn'
  have hr := hC.2.2.2.2.2.1
  exact GoW.fin X hC.2.1 hS hk0 hR hE eT (fun q => by rw [hr, hret] at q; cases q) hC.2.2.2.2.2.2.1 hF (Nat.le_trans hk' hk) (Nat.le_trans hn' hn) hQ (fun fs hl => retOut X hC.1 (hr.trans hret) rfl (Or.inr (Or.inl ⟨rfl, rfl, z, rfl⟩)) (hb hC.2.2.2.1 hd) hl)
theorem RunW.areturn {w : Value} {ty : FieldType} (hd : decode code pc = .ok (.areturn, 1)) (hret : ret = some ty) (ht : ty.isReference = true) (hw : w.isRef = true) (hk : k ≤ R.cells) (hn : n ≤ R.slots) (hQ : Q (some w) h) : RunW l Z EL n0 own code maxL ret nm R Q pc Ls (w :: st) h vm k n := by
  intro p e s m args below meth c T locs cells slots k0 hC X hS hk0 hR hE eT hF hk' hn'
  have hr := hC.2.2.2.2.2.1
  exact GoW.fin X hC.2.1 hS hk0 hR hE eT (fun q => by rw [hr, hret] at q; cases q) hC.2.2.2.2.2.2.1 hF (Nat.le_trans hk' hk) (Nat.le_trans hn' hn) hQ (fun fs hl => retOut X hC.1 (hr.trans hret) (go_narref ht hw) (Or.inr (Or.inr (Or.inr (Or.inr ⟨rfl, ht, hw⟩)))) (hb hC.2.2.2.1 hd) hl)
theorem RunW.vreturn  (hd : decode code pc = .ok (.return_, 1)) (hret : ret = none) (hk : k ≤ R.cells) (hn : n ≤ R.slots) (hQ : Q none h) : RunW l Z EL n0 own code maxL ret nm R Q pc Ls [] h vm k n := by
  intro p e s m args below meth c T locs cells slots k0 hC X hS hk0 hR hE eT hF hk' hn'
  have hr := hC.2.2.2.2.2.1
  exact GoW.fin X hC.2.1 hS hk0 hR hE eT (fun _ => rfl) hC.2.2.2.2.2.2.1 hF (Nat.le_trans hk' hk) (Nat.le_trans hn' hn) hQ (fun fs hl => X.returnOut hC.1 (hr.trans hret) (hb hC.2.2.2.1 hd) hl)

theorem RunW.wr {a : Addr} {sl : Nat} {v : Value} {Ls' : Array Slot} {st' : List Value} (f : ∀ (p : Program) (e : Env) (s : State) (m : MethodId) (args : Array Value) (below : List Frame) (meth : Method) (c : Code) (T : State) (locs : List Loc) (cells slots : Nat),
      Ctx Z own code maxL ret nm p s m meth c → Stand p l e R s m args below meth c T locs cells slots → T.heap = h → ∃ T' h', Stand p l e R s m args below meth c T' (locs ++ [⟨a, sl⟩]) cells slots ∧ T'.heap = h' ∧ Wr h h' a sl v ∧ ∀ t, Steps p.tables e below (T'.setTop (mkF m pc' Ls' st')) t → Steps p.tables e below (T.setTop (mkF m pc Ls st)) t)
    (ha : n0 ≤ a) (sa : Safe Z EL vm h a) (nxt : ∀ h', Wr h h' a sl v → CHr Z EL vm h vm h' → RunW l Z EL n0 own code maxL ret nm R Q pc' Ls' st' h' vm k n) : RunW l Z EL n0 own code maxL ret nm R Q pc Ls st h vm k n := by
  intro p e s m args below meth c T locs cells slots k0 hC X hS hk0 hR hE eT hF hk hn
  obtain ⟨T', h', X', e', W, stp⟩ := f p e (s.setVm vm) m args below meth c T locs cells slots hC X eT
  have c1 := CHr.wr W sa hR.1
  obtain ⟨s₂, v', L, g1, g2⟩ := nxt h' W c1 p e s m args below meth c T' _ cells slots k0 hC X' hS (by rw [W.size]; exact hk0) (hR.trans c1) hE e' (Fr.snoc X' hF ha) hk hn
  exact ⟨s₂, v', L, stp _ g1, g2⟩
theorem RunW.newO {a0 : Array Value} {C : String} {i sl : Nat} (hd : decode code pc = .ok (.new i, 3)) (w : (Cond.classLink own i C).before a0 Z = true) (wi : (Cond.instantiable C sl).before a0 Z = true) (wz : (Cond.initialized C).before a0 Z = true)
    (hk : k + 1 ≤ k') (hk' : k' ≤ R.cells) (hn : n + sl ≤ n') (hn' : n' ≤ R.slots) (hp : pc + 3 = pc')
    (nxt : ∀ h' a, a = h.size → Ext h h' → Exa Z h' a C → (∀ {O f d : String} {ty : FieldType}, Laid Z a0 C O f d → parseFieldDescriptor d = some ty → Fld Z h' a O f d (defaultValue ty)) → CHr Z EL vm h vm h' → Safe Z EL vm h' a → RunW l Z EL n0 own code maxL ret nm R Q pc' Ls (.ref a :: st) h' vm k' n') : RunW l Z EL n0 own code maxL ret nm R Q pc Ls st h vm k n := by
  subst hp
  intro p e s m args below meth c T locs cells slots k0 hC X hS hk0 hR hE eT hF hkk hnn
  obtain ⟨T', h', X', e', E, A, D, -, stp⟩ := newO X hC.1 hC.2.1 hC.2.2.1 w wi wz eT (g := mkF m pc Ls st) rfl (hb hC.2.2.2.1 hd) (by omega) (by omega)
  have c1 := CHr.ext E hR.1
  obtain ⟨s₂, v, L, g1, g2⟩ := nxt h' h.size rfl E A D c1 (Safe.ext E hR.1 (Safe.new (Nat.le_refl _))) p e s m args below meth c T' locs _ _ k0 hC X' hS (Nat.le_trans hk0 E.1) (hR.trans c1) hE e' hF (by omega) (by omega)
  exact ⟨s₂, v, L, stp _ g1, g2⟩
theorem RunW.newP {a0 : Array Value} {aty : ArrayType} {ty : FieldType} {z : Int32} {cap m : Nat} {dv : Value} (hd : decode code pc = .ok (.newarray aty, 2)) (hty : newarray.typeOf aty = ty) (w : (Cond.arrayClass ty).before a0 Z = true) (hz : ¬ z < 0) (hcap : z.toNatClampNeg = m) (hm : m ≤ cap) (hdv : defaultValue ty = dv) (hcb : cap * 8 ≤ 536870912)
    (hk : k + 1 ≤ k') (hk' : k' ≤ R.cells) (hn : n + cap ≤ n') (hn' : n' ≤ R.slots) (hp : pc + 2 = pc')
    (nxt : ∀ h' a, a = h.size → Ext h h' → Ary Z h' a ty (List.replicate m dv) → CHr Z EL vm h vm h' → Safe Z EL vm h' a → RunW l Z EL n0 own code maxL ret nm R Q pc' Ls (.ref a :: st) h' vm k' n') : RunW l Z EL n0 own code maxL ret nm R Q pc Ls (.int z :: st) h vm k n := by
  subst hp hty hdv
  intro p e s m' args below meth c T locs cells slots k0 hC X hS hk0 hR hE eT hF hkk hnn
  obtain ⟨T', h', cA, X', e', E, A, stp⟩ := newP X hC.1 hC.2.1 w eT (g := mkF m' pc Ls (.int z :: st)) rfl (hb hC.2.2.2.1 hd) rfl hz (by omega) hcb (by omega) (by omega)
  have c1 := CHr.ext E hR.1
  obtain ⟨s₂, v, L, g1, g2⟩ := nxt h' h.size rfl E ⟨_, A, by simp [newA, hcap]⟩ c1 (Safe.ext E hR.1 (Safe.new (Nat.le_refl _))) p e s m' args below meth c T' locs _ _ k0 hC X' hS (Nat.le_trans hk0 E.1) (hR.trans c1) hE e' hF (by omega) (by omega)
  exact ⟨s₂, v, L, stp _ g1, g2⟩
theorem RunW.putF {a0 : Array Value} {R0 O f d host C : String} {i sl : Nat} {ty : FieldType} {a : Addr} {v old : Value} (hd : decode code pc = .ok (.putfield i, 3)) (w : (Cond.fieldLink own i R0 f d).before a0 Z = true ∨ (Cond.fieldLinkNest own i R0 f d host).before a0 Z = true) (via : Via Z R0 O f d) (F : Fld Z h a O f d old) (E : Exa Z h a C)
    (L : (Cond.lays C O f d).before a0 Z = true ∨ ((Cond.laysFinal C O f d).before a0 Z = true ∧ own = O ∧ nm = "<init>")) (wi : (Cond.instantiable C sl).before a0 Z = true) (hty : parseFieldDescriptor d = some ty) (hnv : narrow ty v = v) (hfv : fits ty v = true) (ha : n0 ≤ a) (sa : Safe Z EL vm h a) (hp : pc + 3 = pc')
    (nxt : ∀ h', Wr h h' a (Jvm.RoadKit.slotOf Z O f d) v → CHr Z EL vm h vm h' → RunW l Z EL n0 own code maxL ret nm R Q pc' Ls st h' vm k n) : RunW l Z EL n0 own code maxL ret nm R Q pc Ls (v :: .ref a :: st) h vm k n := by
  subst hp
  exact RunW.wr (fun p e s m args below meth c T locs cells slots hC X eT => putF X hC.1 hC.2.1 hC.2.2.1 w via eT F E (L.imp id fun q => ⟨q.1, q.2.1, hC.2.2.2.2.2.2.2.trans q.2.2⟩) wi hty hnv hfv (g := mkF m pc Ls (v :: .ref a :: st)) rfl rfl (hb hC.2.2.2.1 hd)) ha sa nxt
theorem RunW.putFN {a0 : Array Value} {R0 O f d C : String} {i sl : Nat} {ty : FieldType} {a : Addr} {v v' old : Value} (hd : decode code pc = .ok (.putfield i, 3)) (w : (Cond.fieldLink own i R0 f d).before a0 Z = true) (via : Via Z R0 O f d) (F : Fld Z h a O f d old) (E : Exa Z h a C)
    (L : (Cond.lays C O f d).before a0 Z = true ∨ ((Cond.laysFinal C O f d).before a0 Z = true ∧ own = O ∧ nm = "<init>")) (wi : (Cond.instantiable C sl).before a0 Z = true) (hty : parseFieldDescriptor d = some ty) (hnv : narrow ty v = v') (hfv : fits ty v' = true) (ha : n0 ≤ a) (sa : Safe Z EL vm h a) (hp : pc + 3 = pc')
    (nxt : ∀ h', Wr h h' a (Jvm.RoadKit.slotOf Z O f d) v' → CHr Z EL vm h vm h' → RunW l Z EL n0 own code maxL ret nm R Q pc' Ls st h' vm k n) : RunW l Z EL n0 own code maxL ret nm R Q pc Ls (v :: .ref a :: st) h vm k n := by
  subst hp
  exact RunW.wr (fun p e s m args below meth c T locs cells slots hC X eT => putFN X hC.1 hC.2.1 hC.2.2.1 w via eT F E (L.imp id fun q => ⟨q.1, q.2.1, hC.2.2.2.2.2.2.2.trans q.2.2⟩) wi hty hnv hfv (g := mkF m pc Ls (v :: .ref a :: st)) rfl rfl (hb hC.2.2.2.1 hd)) ha sa nxt
theorem RunW.iastore {a : Addr} {vs : List Value} {j : Int32} {i : Nat} {x : Int32} (hd : decode code pc = .ok (.iastore, 1)) (A : Ary Z h a .int vs) (hj : j.toInt = (i : Int)) (hi : i < vs.length) (ha : n0 ≤ a) (sa : Safe Z EL vm h a) (hp : pc + 1 = pc') (nxt : ∀ h', Wr h h' a i (.int x) → CHr Z EL vm h vm h' → Ary Z h' a .int (vs.set i (.int x)) → RunW l Z EL n0 own code maxL ret nm R Q pc' Ls st h' vm k n) : RunW l Z EL n0 own code maxL ret nm R Q pc Ls (.int x :: .int j :: .ref a :: st) h vm k n := by
  subst hp
  have A' := A
  obtain ⟨c0, A, r⟩ := A
  obtain ⟨hin, e0⟩ := idxIn (c := c0) hj (by rw [sizeOf r]; exact hi)
  refine RunW.wr (fun p e s m args below meth c T locs cells slots hC X eT => ?_) ha sa (fun h' W c1 => nxt h' W c1 (A'.set W))
  have q := stI X hC.1 hC.2.1 eT A hin (g := mkF m pc Ls (.int x :: .int j :: .ref a :: st)) rfl rfl (hb hC.2.2.2.1 hd)
  rw [e0] at q
  exact q
theorem RunW.lastore {a : Addr} {vs : List Value} {j : Int32} {i : Nat} {x : Int64} (hd : decode code pc = .ok (.lastore, 1)) (A : Ary Z h a .long vs) (hj : j.toInt = (i : Int)) (hi : i < vs.length) (ha : n0 ≤ a) (sa : Safe Z EL vm h a) (hp : pc + 1 = pc') (nxt : ∀ h', Wr h h' a i (.long x) → CHr Z EL vm h vm h' → Ary Z h' a .long (vs.set i (.long x)) → RunW l Z EL n0 own code maxL ret nm R Q pc' Ls st h' vm k n) : RunW l Z EL n0 own code maxL ret nm R Q pc Ls (.long x :: .int j :: .ref a :: st) h vm k n := by
  subst hp
  have A' := A
  obtain ⟨c0, A, r⟩ := A
  obtain ⟨hin, e0⟩ := idxIn (c := c0) hj (by rw [sizeOf r]; exact hi)
  refine RunW.wr (fun p e s m args below meth c T locs cells slots hC X eT => ?_) ha sa (fun h' W c1 => nxt h' W c1 (A'.set W))
  have q := stJ X hC.1 hC.2.1 eT A hin (g := mkF m pc Ls (.long x :: .int j :: .ref a :: st)) rfl rfl (hb hC.2.2.2.1 hd)
  rw [e0] at q
  exact q
theorem RunW.castore {a : Addr} {vs : List Value} {j : Int32} {i : Nat} {x : Int32} (hd : decode code pc = .ok (.castore, 1)) (A : Ary Z h a .char vs) (hj : j.toInt = (i : Int)) (hi : i < vs.length) (ha : n0 ≤ a) (sa : Safe Z EL vm h a) (hp : pc + 1 = pc') (nxt : ∀ h', Wr h h' a i (.int (nar .char x)) → CHr Z EL vm h vm h' → Ary Z h' a .char (vs.set i (.int (nar .char x))) → RunW l Z EL n0 own code maxL ret nm R Q pc' Ls st h' vm k n) : RunW l Z EL n0 own code maxL ret nm R Q pc Ls (.int x :: .int j :: .ref a :: st) h vm k n := by
  subst hp
  have A' := A
  obtain ⟨c0, A, r⟩ := A
  obtain ⟨hin, e0⟩ := idxIn (c := c0) hj (by rw [sizeOf r]; exact hi)
  refine RunW.wr (fun p e s m args below meth c T locs cells slots hC X eT => ?_) ha sa (fun h' W c1 => nxt h' W c1 (A'.set W))
  have q := stC X hC.1 hC.2.1 eT A hin (g := mkF m pc Ls (.int x :: .int j :: .ref a :: st)) rfl rfl (hb hC.2.2.2.1 hd)
  rw [e0] at q
  exact q
theorem RunW.sastore {a : Addr} {vs : List Value} {j : Int32} {i : Nat} {x : Int32} (hd : decode code pc = .ok (.sastore, 1)) (A : Ary Z h a .short vs) (hj : j.toInt = (i : Int)) (hi : i < vs.length) (ha : n0 ≤ a) (sa : Safe Z EL vm h a) (hp : pc + 1 = pc') (nxt : ∀ h', Wr h h' a i (.int (nar .short x)) → CHr Z EL vm h vm h' → Ary Z h' a .short (vs.set i (.int (nar .short x))) → RunW l Z EL n0 own code maxL ret nm R Q pc' Ls st h' vm k n) : RunW l Z EL n0 own code maxL ret nm R Q pc Ls (.int x :: .int j :: .ref a :: st) h vm k n := by
  subst hp
  have A' := A
  obtain ⟨c0, A, r⟩ := A
  obtain ⟨hin, e0⟩ := idxIn (c := c0) hj (by rw [sizeOf r]; exact hi)
  refine RunW.wr (fun p e s m args below meth c T locs cells slots hC X eT => ?_) ha sa (fun h' W c1 => nxt h' W c1 (A'.set W))
  have q := stS X hC.1 hC.2.1 eT A hin (g := mkF m pc Ls (.int x :: .int j :: .ref a :: st)) rfl rfl (hb hC.2.2.2.1 hd)
  rw [e0] at q
  exact q
theorem RunW.bastore {a : Addr} {vs : List Value} {j : Int32} {i : Nat} {x : Int32} (hd : decode code pc = .ok (.bastore, 1)) (A : Ary Z h a .byte vs) (hj : j.toInt = (i : Int)) (hi : i < vs.length) (ha : n0 ≤ a) (sa : Safe Z EL vm h a) (hp : pc + 1 = pc') (nxt : ∀ h', Wr h h' a i (.int (nar .byte x)) → CHr Z EL vm h vm h' → Ary Z h' a .byte (vs.set i (.int (nar .byte x))) → RunW l Z EL n0 own code maxL ret nm R Q pc' Ls st h' vm k n) : RunW l Z EL n0 own code maxL ret nm R Q pc Ls (.int x :: .int j :: .ref a :: st) h vm k n := by
  subst hp
  have A' := A
  obtain ⟨c0, A, r⟩ := A
  obtain ⟨hin, e0⟩ := idxIn (c := c0) hj (by rw [sizeOf r]; exact hi)
  refine RunW.wr (fun p e s m args below meth c T locs cells slots hC X eT => ?_) ha sa (fun h' W c1 => nxt h' W c1 (A'.set W))
  have q := stB X hC.1 hC.2.1 eT A hin (g := mkF m pc Ls (.int x :: .int j :: .ref a :: st)) rfl rfl (hb hC.2.2.2.1 hd)
  rw [e0] at q
  exact q
theorem backW {p : Program} {e : Env} {s : State} {args : Array Value} {below : List Frame} {a0 a1 : Array Value} {y : MethodName} {bytes : ByteArray} {mL : Nat} {rt : Option FieldType} {rm : Room} {len W : Nat} {as' : Array Value} {sf : List Addr} {Q : Option Value → Heap → List Loc → Prop}
    (hM : MetFree l y (head1 [Cond.code y bytes mL rt] rm) (fun a U => a = as' ∧ Z.Warmed39 U.vm ∧ U.heap = h ∧ CHv Z EL U.vm h ∧ ∀ x ∈ sf, Safe Z EL U.vm h x) (fun _ _ _ _ _ => True) (fun _ U o U' => ∃ v L, o = .returned v ∧ Q v U'.heap L ∧ CHr Z EL U.vm U.heap U'.vm U'.heap ∧ ReturnedEndW U o U' L rm.cells rm.slots))
    (hZ : Z.Warmed39 (s.setVm vm).vm) (wc : (Cond.code y bytes mL rt).before a0 Z = true) (wz : (Cond.initialized y.cls).before a0 Z = true) (hf : rm.frames + 1 ≤ R.frames) (hl : W + (mL + 11) + rm.locals ≤ R.locals) (hEL : EW Z a1 EL) (H : CHv Z EL vm h) (hsf : ∀ x ∈ sf, Safe Z EL vm h x) :
    BackS l R p e below (s.setVm vm) args y len W (fun A a => a = as' ∧ A.U.heap = h ∧ A.cells + rm.cells ≤ R.cells ∧ A.slots + rm.slots ≤ R.slots)
      (fun A _ v B => ∃ L, Q v B.U.heap L ∧ B.locs = A.locs ++ L ∧ B.cells = A.cells + rm.cells ∧ B.slots = A.slots + rm.slots ∧ CHr Z EL vm h B.U.vm B.U.heap) := by
  refine BackS.of_freeW (bytes := bytes) (maxL := mL) (ret := rt) (E := fun _ first o t L k n => k = rm.cells ∧ n = rm.slots ∧ (∃ v, o = .returned v ∧ Q v t.heap L) ∧ CHr Z EL first.vm first.heap t.vm t.heap) hM hf hl ?_ ?_ (fun _ _ _ _ _ _ _ _ _ => trivial) (fun _ _ _ _ ⟨v, L, h1, h2, h3, h4⟩ => ⟨L, _, _, h4, rfl, rfl, ⟨v, h1, h2⟩, h3⟩) ?_
  · intro m meth c A a Y hp
    have hU : Z.Warmed39 A.U.vm := wtrans (s := s.setVm vm) hZ Y.warmed
    exact ⟨by show (Cond.and _ .tt).before a A.U = true; rw [Cond.before_and, mv hU wc]; rfl, mv hU wc, mv hU wz, hp.2.2.1, hp.2.2.2⟩
  · intro m meth c A a g mk Y hp
    have c1 := CHv.at Y hZ hEL H
    refine ⟨hp.1, wtrans (s := s.setVm vm) hZ Y.warmed, hp.2.1, c1.1, fun x hx => ?_⟩
    exact fun B => by
      rcases c1.2.2 x B with q | q
      · exact hsf x hx q
      · obtain ⟨cell, q2⟩ := B.there
        exact absurd (Array.getElem?_eq_some_iff.mp q2).1 (Nat.not_lt.mpr q)
  · intro m meth c A a g mk v t L k n Y hp _ _ hq
    obtain ⟨e1, e2, ⟨v', e3, e4⟩, e5⟩ := hq
    cases e3; subst e1 e2
    refine ⟨L, e4, rfl, rfl, rfl, (CHv.at Y hZ hEL H).trans ?_⟩
    rw [← hp.2.1]; exact e5
theorem RunW.callS {a0 : Array Value} {y : MethodName} {bytes : ByteArray} {mL : Nat} {rt : Option FieldType} {rm : Room} {as rest : List Value} {Qy : Option Value → Heap → Prop} {i : Nat} {ps : List FieldType} {rr : Option FieldType}
    (hC : Con l Z n0 y bytes mL rt rm as.toArray h Qy) (hs : ∀ v h', Qy v h' → ∃ ws, Keep h h' ws ∧ ∀ x ∈ ws, Safe Z EL vm h x) (hd : decode code pc = .ok (.invokestatic i, 3)) (w1 : (Cond.methodLink own i y).before a0 Z = true) (w2 : (Cond.static y).before a0 Z = true) (w3 : (Cond.initialized y.cls).before a0 Z = true) (w4 : (Cond.code y bytes mL rt).before a0 Z = true)
    (hy : y.cls ≠ "java/lang/invoke/MethodHandle" ∧ y.cls ≠ "java/lang/invoke/VarHandle") (hds : parseMethodDescriptor y.desc = some ⟨ps, rr⟩) (hl : as.length = ps.length) (hst : st = as.reverse ++ rest) (hsz : Ls.size = maxL)
    (hf : rm.frames + 1 ≤ R.frames) (hlo : (rest.map fun v => v.category).sum + (mL + 11) + rm.locals ≤ R.locals) (hk : k + rm.cells ≤ k') (hk' : k' ≤ R.cells) (hn : n + rm.slots ≤ n') (hn' : n' ≤ R.slots) (hp : pc + 3 = pc')
    (nxt : ∀ v h', Qy v h' → CHr Z EL vm h vm h' → RunW l Z EL n0 own code maxL ret nm R Q pc' Ls (v.toList ++ rest) h' vm k' n') : RunW l Z EL n0 own code maxL ret nm R Q pc Ls st h vm k n := by
  subst hp hst
  intro p e s m args below meth c T locs cells slots k0 hX X hS hk0 hR hE eT hF hc hss
  obtain ⟨hx, hZ, hown, hby, hml, -⟩ := id hX
  obtain ⟨v, vm₁, ⟨B, L', cc, ss⟩, -, X', ⟨Lc, hQ, l1, y1, z1⟩, stp⟩ := Jvm.LawKit.callS X hx (y := y) hown (mvT hZ w1) (mvT hZ w2) (mvT hZ w3) (mvT hZ w4) hy (backOf (W := (rest.map fun v => v.category).sum) (Q := fun v h L => Qy v h ∧ Fr n0 L) (hC []) hZ w4 w3 hf hlo) (g := mkF m pc Ls (as.reverse ++ rest)) rfl (hsz.trans hml.symm) (argsL := as) (rest := rest) (lenOf hds hl) rfl (by show 2 * 0 + _ ≤ _; omega) (hb hby hd) (fun _ _ => ⟨rfl, eT, (by show cells + rm.cells ≤ R.cells; omega), (by show slots + rm.slots ≤ R.slots; omega)⟩)
  dsimp only [Pt.U, Pt.locs, Pt.cells, Pt.slots] at X' l1 y1 z1 stp hQ
  subst l1 y1 z1
  obtain ⟨ws, K, hsw⟩ := hs v _ hQ.1
  have c1 := CHr.keep K hsw hR.1
  obtain ⟨s₂, v', L, g1, g2⟩ := nxt v _ hQ.1 c1 p e s m args below meth c B _ _ _ k0 hX X' hS (Nat.le_trans hk0 K.1) (hR.trans c1) hE rfl (Fr.app hF hQ.2) (by omega) (by omega)
  exact ⟨s₂, v', L, stp _ g1, g2⟩
theorem RunW.callSW {a0 a1 : Array Value} {sf : List Addr} {y : MethodName} {bytes : ByteArray} {mL : Nat} {rt : Option FieldType} {rm : Room} {as rest : List Value} {Qy : Option Value → Heap → Prop} {i : Nat} {ps : List FieldType} {rr : Option FieldType}
    (hC : ConW l Z EL n0 y bytes mL rt rm as.toArray h sf Qy) (hsf : ∀ x ∈ sf, Safe Z EL vm h x) (hEL : EW Z a1 EL) (hd : decode code pc = .ok (.invokestatic i, 3)) (w1 : (Cond.methodLink own i y).before a0 Z = true) (w2 : (Cond.static y).before a0 Z = true) (w3 : (Cond.initialized y.cls).before a0 Z = true) (w4 : (Cond.code y bytes mL rt).before a0 Z = true)
    (hy : y.cls ≠ "java/lang/invoke/MethodHandle" ∧ y.cls ≠ "java/lang/invoke/VarHandle") (hds : parseMethodDescriptor y.desc = some ⟨ps, rr⟩) (hl : as.length = ps.length) (hst : st = as.reverse ++ rest) (hsz : Ls.size = maxL)
    (hf : rm.frames + 1 ≤ R.frames) (hlo : (rest.map fun v => v.category).sum + (mL + 11) + rm.locals ≤ R.locals) (hk : k + rm.cells ≤ k') (hk' : k' ≤ R.cells) (hn : n + rm.slots ≤ n') (hn' : n' ≤ R.slots) (hp : pc + 3 = pc')
    (nxt : ∀ v h' vm', Qy v h' → CHr Z EL vm h vm' h' → RunW l Z EL n0 own code maxL ret nm R Q pc' Ls (v.toList ++ rest) h' vm' k' n') : RunW l Z EL n0 own code maxL ret nm R Q pc Ls st h vm k n := by
  subst hp hst
  intro p e s m args below meth c T locs cells slots k0 hX X hS hk0 hR hE eT hF hc hss
  obtain ⟨hx, hZ, hown, hby, hml, hrt, hlk, hnm⟩ := id hX
  obtain ⟨v, vm₁, ⟨B, L', cc, ss⟩, -, X', hS2, hgr, ⟨Lc, hQ, l1, y1, z1, c1⟩, stp⟩ := callSS X hx (y := y) hown (mvT hZ w1) (mvT hZ w2) (mvT hZ w3) (mvT hZ w4) hy (backW (W := (rest.map fun v => v.category).sum) (Q := fun v h L => Qy v h ∧ Fr n0 L) (hC []) hZ w4 w3 hf hlo hEL hR.1 hsf) (g := mkF m pc Ls (as.reverse ++ rest)) rfl (hsz.trans hml.symm) (argsL := as) (rest := rest) (lenOf hds hl) rfl (by show 2 * 0 + _ ≤ _; omega) (hb hby hd) (fun _ _ => ⟨rfl, eT, (by show cells + rm.cells ≤ R.cells; omega), (by show slots + rm.slots ≤ R.slots; omega)⟩)
  dsimp only [Pt.U, Pt.locs, Pt.cells, Pt.slots] at X' hS2 hgr l1 y1 z1 stp hQ c1
  subst l1 y1 z1
  have hZ2 : Z.Warmed39 B.vm := State.Warmed39.trans (t := s.setVm vm) hZ hS2.1
  obtain ⟨s₂, v', L, g1, g2⟩ := nxt v _ B.vm hQ.1 c1 p e s m args below meth c B _ _ _ B.heap.size ⟨hx, hZ2, (by rw [show (s.setVm B.vm).vm = B.vm from rfl, hS2.1.alike.findClass]; exact hown), hby, hml, hrt, hlk, hnm⟩ X' (hS.trans hS2 (by rw [← eT] at hk0; omega)) (Nat.le_refl _) (hR.trans c1) hE rfl (Fr.app hF hQ.2) (by omega) (by omega)
  exact ⟨s₂, v', L, stp.trans g1, g2⟩
theorem RunW.callV {a0 : Array Value} {C : String} {y z : MethodName} {bytes : ByteArray} {mL : Nat} {rt : Option FieldType} {rm : Room} {a : Addr} {as rest : List Value} {Qy : Option Value → Heap → Prop} {i : Nat} {ps : List FieldType} {rr : Option FieldType}
    (hC : Con l Z n0 z bytes mL rt rm (.ref a :: as).toArray h Qy) (hs : ∀ v h', Qy v h' → ∃ ws, Keep h h' ws ∧ ∀ x ∈ ws, Safe Z EL vm h x) (hX0 : Exa Z h a C) (hd : decode code pc = .ok (.invokevirtual i, 3)) (w1 : (Cond.methodLink own i y).before a0 Z = true) (w2 : (Cond.declares y).before a0 Z = true) (nf : ∀ (s : State), Z.Warmed39 s.vm → NotFace s y) (w3 : (Cond.selects C y z).before a0 Z = true) (w4 : (Cond.instanceMethod z).before a0 Z = true) (w5 : (Cond.initialized z.cls).before a0 Z = true) (w6 : (Cond.code z bytes mL rt).before a0 Z = true)
    (hy : y.cls ≠ "java/lang/invoke/MethodHandle" ∧ y.cls ≠ "java/lang/invoke/VarHandle") (hds : parseMethodDescriptor y.desc = some ⟨ps, rr⟩) (hl : as.length = ps.length) (hst : st = as.reverse ++ .ref a :: rest) (hsz : Ls.size = maxL)
    (hf : rm.frames + 1 ≤ R.frames) (hlo : (rest.map fun v => v.category).sum + (mL + 11) + rm.locals ≤ R.locals) (hk : k + rm.cells ≤ k') (hk' : k' ≤ R.cells) (hn : n + rm.slots ≤ n') (hn' : n' ≤ R.slots) (hp : pc + 3 = pc')
    (nxt : ∀ v h', Qy v h' → CHr Z EL vm h vm h' → RunW l Z EL n0 own code maxL ret nm R Q pc' Ls (v.toList ++ rest) h' vm k' n') : RunW l Z EL n0 own code maxL ret nm R Q pc Ls st h vm k n := by
  subst hp hst
  intro p e s m args below meth c T locs cells slots k0 hX X hS hk0 hR hE eT hF hc hss
  obtain ⟨hx, hZ, hown, hby, hml, -⟩ := id hX
  obtain ⟨cq, kq, qa, qb, qc⟩ := isOf hZ eT hX0
  obtain ⟨v, vm₁, ⟨B, L', cc, ss⟩, -, X', ⟨Lc, hQ, l1, y1, z1⟩, stp⟩ := X.virtualBack hx (y := y) (z := z) hown (mvT hZ w1) (mvT hZ w2) (nf (s.setVm vm) hZ) (mvT hZ w3) (mvT hZ w4) hy (backOf (W := (rest.map fun v => v.category).sum) (Q := fun v h L => Qy v h ∧ Fr n0 L) (hC []) hZ w6 w5 hf hlo) qa qc (g := mkF m pc Ls (as.reverse ++ .ref a :: rest)) rfl (hsz.trans hml.symm) (Steps.refl _) (argsL := as) (rest := rest) (lenOf hds hl) rfl (by show 2 * 0 + _ ≤ _; omega) (hb hby hd) (fun _ _ => ⟨rfl, eT, (by show cells + rm.cells ≤ R.cells; omega), (by show slots + rm.slots ≤ R.slots; omega)⟩)
  dsimp only [Pt.U, Pt.locs, Pt.cells, Pt.slots] at X' l1 y1 z1 stp hQ
  subst l1 y1 z1
  obtain ⟨ws, K, hsw⟩ := hs v _ hQ.1
  have c1 := CHr.keep K hsw hR.1
  obtain ⟨s₂, v', L, g1, g2⟩ := nxt v _ hQ.1 c1 p e s m args below meth c B _ _ _ k0 hX X' hS (Nat.le_trans hk0 K.1) (hR.trans c1) hE rfl (Fr.app hF hQ.2) (by omega) (by omega)
  exact ⟨s₂, v', L, stp.trans g1, g2⟩
theorem RunW.callVW {a0 a1 : Array Value} {sf : List Addr} {C : String} {y z : MethodName} {bytes : ByteArray} {mL : Nat} {rt : Option FieldType} {rm : Room} {a : Addr} {as rest : List Value} {Qy : Option Value → Heap → Prop} {i : Nat} {ps : List FieldType} {rr : Option FieldType}
    (hC : ConW l Z EL n0 z bytes mL rt rm (.ref a :: as).toArray h sf Qy) (hsf : ∀ x ∈ sf, Safe Z EL vm h x) (hEL : EW Z a1 EL) (hX0 : Exa Z h a C) (hd : decode code pc = .ok (.invokevirtual i, 3)) (w1 : (Cond.methodLink own i y).before a0 Z = true) (w2 : (Cond.declares y).before a0 Z = true) (nf : ∀ (s : State), Z.Warmed39 s.vm → NotFace s y) (w3 : (Cond.selects C y z).before a0 Z = true) (w4 : (Cond.instanceMethod z).before a0 Z = true) (w5 : (Cond.initialized z.cls).before a0 Z = true) (w6 : (Cond.code z bytes mL rt).before a0 Z = true)
    (hy : y.cls ≠ "java/lang/invoke/MethodHandle" ∧ y.cls ≠ "java/lang/invoke/VarHandle") (hds : parseMethodDescriptor y.desc = some ⟨ps, rr⟩) (hl : as.length = ps.length) (hst : st = as.reverse ++ .ref a :: rest) (hsz : Ls.size = maxL)
    (hf : rm.frames + 1 ≤ R.frames) (hlo : (rest.map fun v => v.category).sum + (mL + 11) + rm.locals ≤ R.locals) (hk : k + rm.cells ≤ k') (hk' : k' ≤ R.cells) (hn : n + rm.slots ≤ n') (hn' : n' ≤ R.slots) (hp : pc + 3 = pc')
    (nxt : ∀ v h' vm', Qy v h' → CHr Z EL vm h vm' h' → RunW l Z EL n0 own code maxL ret nm R Q pc' Ls (v.toList ++ rest) h' vm' k' n') : RunW l Z EL n0 own code maxL ret nm R Q pc Ls st h vm k n := by
  subst hp hst
  intro p e s m args below meth c T locs cells slots k0 hX X hS hk0 hR hE eT hF hc hss
  obtain ⟨hx, hZ, hown, hby, hml, hrt, hlk, hnm⟩ := id hX
  obtain ⟨cq, kq, qa, qb, qc⟩ := isOf hZ eT hX0
  obtain ⟨v, vm₁, ⟨B, L', cc, ss⟩, -, X', hS2, hgr, ⟨Lc, hQ, l1, y1, z1, c1⟩, stp⟩ := X.virtualBackS hx (y := y) (z := z) hown (mvT hZ w1) (mvT hZ w2) (nf (s.setVm vm) hZ) (mvT hZ w3) (mvT hZ w4) hy (backW (W := (rest.map fun v => v.category).sum) (Q := fun v h L => Qy v h ∧ Fr n0 L) (hC []) hZ w6 w5 hf hlo hEL hR.1 hsf) qa qc (g := mkF m pc Ls (as.reverse ++ .ref a :: rest)) rfl (hsz.trans hml.symm) (Steps.refl _) (argsL := as) (rest := rest) (lenOf hds hl) rfl (by show 2 * 0 + _ ≤ _; omega) (hb hby hd) (fun _ _ => ⟨rfl, eT, (by show cells + rm.cells ≤ R.cells; omega), (by show slots + rm.slots ≤ R.slots; omega)⟩)
  dsimp only [Pt.U, Pt.locs, Pt.cells, Pt.slots] at X' hS2 hgr l1 y1 z1 stp hQ c1
  subst l1 y1 z1
  have hZ2 : Z.Warmed39 B.vm := State.Warmed39.trans (t := s.setVm vm) hZ hS2.1
  obtain ⟨s₂, v', L, g1, g2⟩ := nxt v _ B.vm hQ.1 c1 p e s m args below meth c B _ _ _ B.heap.size ⟨hx, hZ2, (by rw [show (s.setVm B.vm).vm = B.vm from rfl, hS2.1.alike.findClass]; exact hown), hby, hml, hrt, hlk, hnm⟩ X' (hS.trans hS2 (by rw [← eT] at hk0; omega)) (Nat.le_refl _) (hR.trans c1) hE rfl (Fr.app hF hQ.2) (by omega) (by omega)
  exact ⟨s₂, v', L, stp.trans g1, g2⟩
theorem RunW.callN {a0 : Array Value} {y : MethodName} {bytes : ByteArray} {mL : Nat} {rt : Option FieldType} {rm : Room} {a : Addr} {as rest : List Value} {Qy : Option Value → Heap → Prop} {i : Nat} {ps : List FieldType} {rr : Option FieldType}
    (hC : Con l Z n0 y bytes mL rt rm (.ref a :: as).toArray h Qy) (hs : ∀ v h', Qy v h' → ∃ ws, Keep h h' ws ∧ ∀ x ∈ ws, Safe Z EL vm h x) (hrt : rt = none) (hy1 : y.name = "<init>") (hd : decode code pc = .ok (.invokespecial i, 3)) (w1 : (Cond.methodLink own i y).before a0 Z = true) (w2 : (Cond.instanceMethod y).before a0 Z = true) (w3 : (Cond.initialized y.cls).before a0 Z = true) (w4 : (Cond.code y bytes mL rt).before a0 Z = true)
    (hy : y.cls ≠ "java/lang/invoke/MethodHandle" ∧ y.cls ≠ "java/lang/invoke/VarHandle") (hds : parseMethodDescriptor y.desc = some ⟨ps, rr⟩) (hl : as.length = ps.length) (hst : st = as.reverse ++ .ref a :: rest) (hsz : Ls.size = maxL)
    (hf : rm.frames + 1 ≤ R.frames) (hlo : (rest.map fun v => v.category).sum + (mL + 11) + rm.locals ≤ R.locals) (hk : k + rm.cells ≤ k') (hk' : k' ≤ R.cells) (hn : n + rm.slots ≤ n') (hn' : n' ≤ R.slots) (hp : pc + 3 = pc')
    (nxt : ∀ v h', Qy v h' → CHr Z EL vm h vm h' → RunW l Z EL n0 own code maxL ret nm R Q pc' Ls (v.toList ++ rest) h' vm k' n') : RunW l Z EL n0 own code maxL ret nm R Q pc Ls st h vm k n := by
  subst hp hst
  intro p e s m args below meth c T locs cells slots k0 hX X hS hk0 hR hE eT hF hc hss
  obtain ⟨hx, hZ, hown, hby, hml, -⟩ := id hX
  subst hrt
  obtain ⟨v, vm₁, ⟨B, L', cc, ss⟩, -, X', ⟨Lc, hQ, l1, y1, z1⟩, stp⟩ := X.specialBack hx (y := y) hy1 hown (mvT hZ w1) (mvT hZ w2) (mvT hZ w4) hy (backOf (W := (rest.map fun v => v.category).sum) (Q := fun v h L => Qy v h ∧ Fr n0 L) (hC []) hZ w4 w3 hf hlo) (g := mkF m pc Ls (as.reverse ++ .ref a :: rest)) rfl (hsz.trans hml.symm) (Steps.refl _) (a := a) (argsL := as) (rest := rest) (lenOf hds hl) rfl (by show 2 * 0 + _ ≤ _; omega) (hb hby hd) (fun _ _ => ⟨rfl, eT, (by show cells + rm.cells ≤ R.cells; omega), (by show slots + rm.slots ≤ R.slots; omega)⟩)
  dsimp only [Pt.U, Pt.locs, Pt.cells, Pt.slots] at X' l1 y1 z1 stp hQ
  subst l1 y1 z1
  obtain ⟨ws, K, hsw⟩ := hs v _ hQ.1
  have c1 := CHr.keep K hsw hR.1
  obtain ⟨s₂, v', L, g1, g2⟩ := nxt v _ hQ.1 c1 p e s m args below meth c B _ _ _ k0 hX X' hS (Nat.le_trans hk0 K.1) (hR.trans c1) hE rfl (Fr.app hF hQ.2) (by omega) (by omega)
  exact ⟨s₂, v', L, stp.trans g1, g2⟩
theorem RunW.callNW {a0 a1 : Array Value} {sf : List Addr} {y : MethodName} {bytes : ByteArray} {mL : Nat} {rt : Option FieldType} {rm : Room} {a : Addr} {as rest : List Value} {Qy : Option Value → Heap → Prop} {i : Nat} {ps : List FieldType} {rr : Option FieldType}
    (hC : ConW l Z EL n0 y bytes mL rt rm (.ref a :: as).toArray h sf Qy) (hsf : ∀ x ∈ sf, Safe Z EL vm h x) (hEL : EW Z a1 EL) (hrt : rt = none) (hy1 : y.name = "<init>") (hd : decode code pc = .ok (.invokespecial i, 3)) (w1 : (Cond.methodLink own i y).before a0 Z = true) (w2 : (Cond.instanceMethod y).before a0 Z = true) (w3 : (Cond.initialized y.cls).before a0 Z = true) (w4 : (Cond.code y bytes mL rt).before a0 Z = true)
    (hy : y.cls ≠ "java/lang/invoke/MethodHandle" ∧ y.cls ≠ "java/lang/invoke/VarHandle") (hds : parseMethodDescriptor y.desc = some ⟨ps, rr⟩) (hl : as.length = ps.length) (hst : st = as.reverse ++ .ref a :: rest) (hsz : Ls.size = maxL)
    (hf : rm.frames + 1 ≤ R.frames) (hlo : (rest.map fun v => v.category).sum + (mL + 11) + rm.locals ≤ R.locals) (hk : k + rm.cells ≤ k') (hk' : k' ≤ R.cells) (hn : n + rm.slots ≤ n') (hn' : n' ≤ R.slots) (hp : pc + 3 = pc')
    (nxt : ∀ v h' vm', Qy v h' → CHr Z EL vm h vm' h' → RunW l Z EL n0 own code maxL ret nm R Q pc' Ls (v.toList ++ rest) h' vm' k' n') : RunW l Z EL n0 own code maxL ret nm R Q pc Ls st h vm k n := by
  subst hp hst
  intro p e s m args below meth c T locs cells slots k0 hX X hS hk0 hR hE eT hF hc hss
  obtain ⟨hx, hZ, hown, hby, hml, hrtt, hlk, hnm⟩ := id hX
  subst hrt
  obtain ⟨v, vm₁, ⟨B, L', cc, ss⟩, -, X', hS2, hgr, ⟨Lc, hQ, l1, y1, z1, c1⟩, stp⟩ := X.specialBackS hx (y := y) hy1 hown (mvT hZ w1) (mvT hZ w2) (mvT hZ w4) hy (backW (W := (rest.map fun v => v.category).sum) (Q := fun v h L => Qy v h ∧ Fr n0 L) (hC []) hZ w4 w3 hf hlo hEL hR.1 hsf) (g := mkF m pc Ls (as.reverse ++ .ref a :: rest)) rfl (hsz.trans hml.symm) (Steps.refl _) (a := a) (argsL := as) (rest := rest) (lenOf hds hl) rfl (by show 2 * 0 + _ ≤ _; omega) (hb hby hd) (fun _ _ => ⟨rfl, eT, (by show cells + rm.cells ≤ R.cells; omega), (by show slots + rm.slots ≤ R.slots; omega)⟩)
  dsimp only [Pt.U, Pt.locs, Pt.cells, Pt.slots] at X' hS2 hgr l1 y1 z1 stp hQ c1
  subst l1 y1 z1
  have hZ2 : Z.Warmed39 B.vm := State.Warmed39.trans (t := s.setVm vm) hZ hS2.1
  obtain ⟨s₂, v', L, g1, g2⟩ := nxt v _ B.vm hQ.1 c1 p e s m args below meth c B _ _ _ B.heap.size ⟨hx, hZ2, (by rw [show (s.setVm B.vm).vm = B.vm from rfl, hS2.1.alike.findClass]; exact hown), hby, hml, hrtt, hlk, hnm⟩ X' (hS.trans hS2 (by rw [← eT] at hk0; omega)) (Nat.le_refl _) (hR.trans c1) hE rfl (Fr.app hF hQ.2) (by omega) (by omega)
  exact ⟨s₂, v', L, stp.trans g1, g2⟩
theorem safeA {Z : State} {EL : List (String × Nat)} {vm : Vm} {h : Heap} {a : Addr} {ty : FieldType} {vs : List Value} (hal : Z.vm.Alike vm) (A : Ary Z h a ty vs) (ht : ty ≠ .byte) : Safe Z EL vm h a := by obtain ⟨cl, A1, -⟩ := A; exact Safe.arr hal A1 ht
/-- ldc of a String constant whose text is known -/
theorem RunW.ldcT {a0 : Array Value} {i len : Nat} {text : String} {bs : List Value} {z : Int32} (hd : decode code pc = .ok (.ldc i, 2)) (w : (Cond.stringLink own i text).before a0 Z = true) (wS : ∀ a ∈ Bundle.stringAtoms, a.before a0 Z = true) (hEL : EW Z a0 EL) (hmem : (own, i) ∈ EL)
    (ht : (∀ c ∈ text.toList, c.toNat < 256) ∧ text.toList.map (fun c => Value.int (Jvm.Lit.byteI c.toNat.toUInt16)) = bs) (hz : z.toInt = (bs.length : Int)) (hln : 4 * text.toList.length ≤ len) (hbig : len ≤ 536870912) (hk : k + 2 ≤ k') (hk' : k' ≤ R.cells) (hn : n + (len + 4) ≤ n') (hn' : n' ≤ R.slots) (hp : pc + 2 = pc')
    (nxt : ∀ h' vm' a b, Ext h h' → CHr Z EL vm h vm' h' → Exa Z h' a "java/lang/String" → Fld Z h' a "java/lang/String" "coder" "B" (.int 0) → Fld Z h' a "java/lang/String" "value" "[B" (.ref b) → Ary Z h' b .byte bs → (∀ x, Safe Z EL vm' h' x → x ≠ a ∧ x ≠ b) → RunW l Z EL n0 own code maxL ret nm R Q pc' Ls (.ref a :: st) h' vm' k' n') : RunW l Z EL n0 own code maxL ret nm R Q pc Ls st h vm k n := by
  subst hp
  intro p e s m args below meth c T locs cells slots k0 hX X hS hk0 hR hE eT hF hc hss
  obtain ⟨hx, hZ, hown, hby, hml, hrt, hlk, hnm⟩ := id hX
  have e1 : z.toNatClampNeg = bs.length := by have : z.toNatClampNeg = z.toInt.toNat := rfl; rw [this, hz]; rfl
  have e2 : ¬ z < 0 := by rw [Int32.lt_iff_toInt_lt, hz]; have : (0 : Int32).toInt = 0 := rfl; omega
  obtain ⟨a, T', h', k1, b, kc, X', e', E, hS2, hk1, hZ2, hown2, E1, F1, F2, A, -, -, c1, -, hsf, stp⟩ := ldcCH X hx hZ hown w wS eT hS hk0 hEL hmem hR.1 ht e2 e1 (g := mkF m pc Ls st) rfl (hb hby hd) hln hbig (by omega) (by omega)
  obtain ⟨s₂, v', L, g1, g2⟩ := nxt h' T'.vm a b E c1 E1 F1 F2 (Ary.ofArv A hz) hsf p e s m args below meth c T' _ _ _ k1 ⟨hx, hZ2, hown2, hby, hml, hrt, hlk, hnm⟩ X' hS2 hk1 (hR.trans c1) hE e' hF (by omega) (by omega)
  exact ⟨s₂, v', L, stp _ g1, g2⟩
end WalkW
end Jvm.GoKit
namespace Jvm.Pilot.@@N@@
open Jvm Jvm.ClassFile Sem Op Lib Jvm.Free Jvm.Stand Jvm.LawKit Jvm.RoadKit Jvm.GoKit Bundle Jvm.Pilot.@@N@@.Jvm.D
theorem own_ofn {i : Nat} (h : i < 2 ^ 31) : (Int32.ofNat i).toInt = (i : Int) := toInt_of rfl h
theorem own_inc (i : Nat) : Int32.ofNat i + (1 : Int32) = Int32.ofNat (i + 1) := (inc_ofNat i).symm
theorem own_lt {i j : Nat} (hi : i < 2 ^ 31) (hj : j < 2 ^ 31) : Int32.ofNat i < Int32.ofNat j ↔ i < j := by rw [Int32.lt_iff_toInt_lt, own_ofn hi, own_ofn hj]; omega
theorem own_z : (0 : Int32).toInt = 0 := rfl
theorem own_eqi {x y : Int32} (h : x.toInt = y.toInt) : x = y := Int32.toInt_inj.mp h
def own_isp (p1 : Int32) : Int32 := (if p1 = (32 : Int32) then (1 : Int32) else (if p1 = (9 : Int32) then (1 : Int32) else (if p1 = (13 : Int32) then (1 : Int32) else (if p1 = (10 : Int32) then (1 : Int32) else (0 : Int32)))))
theorem d18_0 : decode prog_32_method_11_code 0 = .ok (.iload_n 0, 1) := by decide +kernel
theorem d18_1 : decode prog_32_method_11_code 1 = .ok (.bipush 32, 2) := by decide +kernel
theorem d18_3 : decode prog_32_method_11_code 3 = .ok (.if_icmp .eq 21, 3) := by decide +kernel
theorem d18_6 : decode prog_32_method_11_code 6 = .ok (.iload_n 0, 1) := by decide +kernel
theorem d18_7 : decode prog_32_method_11_code 7 = .ok (.bipush 9, 2) := by decide +kernel
theorem d18_9 : decode prog_32_method_11_code 9 = .ok (.if_icmp .eq 15, 3) := by decide +kernel
theorem d18_12 : decode prog_32_method_11_code 12 = .ok (.iload_n 0, 1) := by decide +kernel
theorem d18_13 : decode prog_32_method_11_code 13 = .ok (.bipush 13, 2) := by decide +kernel
theorem d18_15 : decode prog_32_method_11_code 15 = .ok (.if_icmp .eq 9, 3) := by decide +kernel
theorem d18_18 : decode prog_32_method_11_code 18 = .ok (.iload_n 0, 1) := by decide +kernel
theorem d18_19 : decode prog_32_method_11_code 19 = .ok (.bipush 10, 2) := by decide +kernel
theorem d18_21 : decode prog_32_method_11_code 21 = .ok (.if_icmp .ne 7, 3) := by decide +kernel
theorem d18_24 : decode prog_32_method_11_code 24 = .ok (.iconst 1, 1) := by decide +kernel
theorem d18_25 : decode prog_32_method_11_code 25 = .ok (.goto 4, 3) := by decide +kernel
theorem d18_28 : decode prog_32_method_11_code 28 = .ok (.iconst 0, 1) := by decide +kernel
theorem d18_29 : decode prog_32_method_11_code 29 = .ok (.ireturn, 1) := by decide +kernel
theorem pn_18 : plainFor (⟨"com/example/mappa/mappa/core/FieldText", "isXmlSpace", "(C)Z"⟩ : MethodName) = true := plainFor_of_name (by first | (simp [plainName, overriddenIn]; done) | decide +kernel)
theorem ef_con_own_isp (m : MethodId) (p1 : Int32)  : entryFrame m #[(.int p1)] 1 = mkF m 0 #[.val (.int p1)] [] := by first | (simp [entryFrame, mkF, argsToLocals, Value.category]; done) | rfl
set_option maxRecDepth 65536 in
set_option maxHeartbeats 40000000 in
theorem con_own_isp (l : Launch) (Z : State) (a0 : Array Value) (hw : ∀ d ∈ tables_1, d.before a0 Z = true) (n0 : Nat) (h0 : Heap) (Z0 : n0 ≤ h0.size) (p1 : Int32)  :
    Con l Z n0 (⟨"com/example/mappa/mappa/core/FieldText", "isXmlSpace", "(C)Z"⟩ : MethodName) prog_32_method_11_code 1 (some .boolean) ({ frames := 0, cells := 0, slots := 0, locals := 0 } : Room) #[(.int p1)] h0 (Val (PV (.int (own_isp p1)) h0)) := by
  refine Con.of_run pn_18 (fun m => ef_con_own_isp m p1 ) ?_
  refine Run.iloadN d18_0 rfl (pc' := 1) rfl ?_
  refine Run.bipush (32 : Int32) d18_1 (by decide) (pc' := 3) rfl ?_
  refine Run.icmp_eq d18_3 (by decide) (pc' := 24) (by decide) (pa := 6) rfl (fun hc3 => ?_) (fun hc3 => ?_)
  · -- pc 3 taken: p1 = (32 : Int32)
    refine Run.iconst (1 : Int32) d18_24 (by decide) (pc' := 25) rfl ?_
    refine Run.goto d18_25 (by decide) (pc' := 29) (by decide) ?_
    exact Run.nreturn d18_29 (ty := .boolean) rfl (by simp) (by decide) (by decide) ⟨_, rfl, congrArg Value.int (by unfold own_isp; rw [if_pos hc3] <;> rfl), rfl⟩
  · -- pc 3 not taken: ¬ p1 = (32 : Int32)
    refine Run.iloadN d18_6 rfl (pc' := 7) rfl ?_
    refine Run.bipush (9 : Int32) d18_7 (by decide) (pc' := 9) rfl ?_
    refine Run.icmp_eq d18_9 (by decide) (pc' := 24) (by decide) (pa := 12) rfl (fun hc9 => ?_) (fun hc9 => ?_)
    · -- pc 9 taken: p1 = (9 : Int32)
      refine Run.iconst (1 : Int32) d18_24 (by decide) (pc' := 25) rfl ?_
      refine Run.goto d18_25 (by decide) (pc' := 29) (by decide) ?_
      exact Run.nreturn d18_29 (ty := .boolean) rfl (by simp) (by decide) (by decide) ⟨_, rfl, congrArg Value.int (by unfold own_isp; rw [if_neg hc3, if_pos hc9] <;> rfl), rfl⟩
    · -- pc 9 not taken: ¬ p1 = (9 : Int32)
      refine Run.iloadN d18_12 rfl (pc' := 13) rfl ?_
      refine Run.bipush (13 : Int32) d18_13 (by decide) (pc' := 15) rfl ?_
      refine Run.icmp_eq d18_15 (by decide) (pc' := 24) (by decide) (pa := 18) rfl (fun hc15 => ?_) (fun hc15 => ?_)
      · -- pc 15 taken: p1 = (13 : Int32)
        refine Run.iconst (1 : Int32) d18_24 (by decide) (pc' := 25) rfl ?_
        refine Run.goto d18_25 (by decide) (pc' := 29) (by decide) ?_
        exact Run.nreturn d18_29 (ty := .boolean) rfl (by simp) (by decide) (by decide) ⟨_, rfl, congrArg Value.int (by unfold own_isp; rw [if_neg hc3, if_neg hc9, if_pos hc15] <;> rfl), rfl⟩
      · -- pc 15 not taken: ¬ p1 = (13 : Int32)
        refine Run.iloadN d18_18 rfl (pc' := 19) rfl ?_
        refine Run.bipush (10 : Int32) d18_19 (by decide) (pc' := 21) rfl ?_
        refine Run.icmp_ne d18_21 (by decide) (pc' := 28) (by decide) (pa := 24) rfl (fun hc21 => ?_) (fun hc21 => ?_)
        · -- pc 21 taken: ¬ p1 = (10 : Int32)
          refine Run.iconst (0 : Int32) d18_28 (by decide) (pc' := 29) rfl ?_
          exact Run.nreturn d18_29 (ty := .boolean) rfl (by simp) (by decide) (by decide) ⟨_, rfl, congrArg Value.int (by unfold own_isp; rw [if_neg hc3, if_neg hc9, if_neg hc15, if_neg hc21] <;> rfl), rfl⟩
        · -- pc 21 not taken: p1 = (10 : Int32)
          refine Run.iconst (1 : Int32) d18_24 (by decide) (pc' := 25) rfl ?_
          refine Run.goto d18_25 (by decide) (pc' := 29) (by decide) ?_
          exact Run.nreturn d18_29 (ty := .boolean) rfl (by simp) (by decide) (by decide) ⟨_, rfl, congrArg Value.int (by unfold own_isp; rw [if_neg hc3, if_neg hc9, if_neg hc15, if_pos hc21] <;> rfl), rfl⟩
def own_min (p1 : Int32) (p2 : Int32) : Int32 := (if p2 < p1 then p2 else p1)
theorem d19_0 : decode jdk_29_method_69_code 0 = .ok (.iload_n 0, 1) := by decide +kernel
theorem d19_1 : decode jdk_29_method_69_code 1 = .ok (.iload_n 1, 1) := by decide +kernel
theorem d19_2 : decode jdk_29_method_69_code 2 = .ok (.if_icmp .gt 7, 3) := by decide +kernel
theorem d19_5 : decode jdk_29_method_69_code 5 = .ok (.iload_n 0, 1) := by decide +kernel
theorem d19_6 : decode jdk_29_method_69_code 6 = .ok (.goto 4, 3) := by decide +kernel
theorem d19_9 : decode jdk_29_method_69_code 9 = .ok (.iload_n 1, 1) := by decide +kernel
theorem d19_10 : decode jdk_29_method_69_code 10 = .ok (.ireturn, 1) := by decide +kernel
theorem pn_19 : plainFor (⟨"java/lang/Math", "min", "(II)I"⟩ : MethodName) = true := by decide +kernel
theorem ef_con_own_min (m : MethodId) (p1 : Int32) (p2 : Int32)  : entryFrame m #[(.int p1), (.int p2)] 2 = mkF m 0 #[.val (.int p1), .val (.int p2)] [] := by first | (simp [entryFrame, mkF, argsToLocals, Value.category]; done) | rfl
set_option maxRecDepth 65536 in
set_option maxHeartbeats 40000000 in
theorem con_own_min (l : Launch) (Z : State) (a0 : Array Value) (hw : ∀ d ∈ tables_1, d.before a0 Z = true) (n0 : Nat) (h0 : Heap) (Z0 : n0 ≤ h0.size) (p1 : Int32) (p2 : Int32)  :
    Con l Z n0 (⟨"java/lang/Math", "min", "(II)I"⟩ : MethodName) jdk_29_method_69_code 2 (some .int) ({ frames := 0, cells := 0, slots := 0, locals := 0 } : Room) #[(.int p1), (.int p2)] h0 (Val (PV (.int (own_min p1 p2)) h0)) := by
  refine Con.of_run pn_19 (fun m => ef_con_own_min m p1 p2 ) ?_
  refine Run.iloadN d19_0 rfl (pc' := 1) rfl ?_
  refine Run.iloadN d19_1 rfl (pc' := 2) rfl ?_
  refine Run.icmp_gt d19_2 (by decide) (pc' := 9) (by decide) (pa := 5) rfl (fun hc2 => ?_) (fun hc2 => ?_)
  · -- pc 2 taken: p2 < p1
    refine Run.iloadN d19_9 rfl (pc' := 10) rfl ?_
    exact Run.ireturn d19_10 rfl (by decide) (by decide) ⟨_, rfl, congrArg Value.int (by unfold own_min; rw [if_pos hc2] <;> rfl), rfl⟩
  · -- pc 2 not taken: ¬ p2 < p1
    refine Run.iloadN d19_5 rfl (pc' := 6) rfl ?_
    refine Run.goto d19_6 (by decide) (pc' := 10) (by decide) ?_
    exact Run.ireturn d19_10 rfl (by decide) (by decide) ⟨_, rfl, congrArg Value.int (by unfold own_min; rw [if_neg hc2] <;> rfl), rfl⟩
theorem d4_0 : decode prog_32_method_2_code 0 = .ok (.aload_n 0, 1) := by decide +kernel
theorem d4_1 : decode prog_32_method_2_code 1 = .ok (.iload_n 1, 1) := by decide +kernel
theorem d4_2 : decode prog_32_method_2_code 2 = .ok (.putfield 17, 3) := by decide +kernel
theorem d4_5 : decode prog_32_method_2_code 5 = .ok (.aload_n 0, 1) := by decide +kernel
theorem d4_6 : decode prog_32_method_2_code 6 = .ok (.iload_n 2, 1) := by decide +kernel
theorem d4_7 : decode prog_32_method_2_code 7 = .ok (.putfield 21, 3) := by decide +kernel
theorem d4_10 : decode prog_32_method_2_code 10 = .ok (.aload_n 0, 1) := by decide +kernel
theorem d4_11 : decode prog_32_method_2_code 11 = .ok (.iload_n 3, 1) := by decide +kernel
theorem d4_12 : decode prog_32_method_2_code 12 = .ok (.putfield 24, 3) := by decide +kernel
theorem d4_15 : decode prog_32_method_2_code 15 = .ok (.aload_n 0, 1) := by decide +kernel
theorem d4_16 : decode prog_32_method_2_code 16 = .ok (.iconst 0, 1) := by decide +kernel
theorem d4_17 : decode prog_32_method_2_code 17 = .ok (.putfield 27, 3) := by decide +kernel
theorem d4_20 : decode prog_32_method_2_code 20 = .ok (.aload_n 0, 1) := by decide +kernel
theorem d4_21 : decode prog_32_method_2_code 21 = .ok (.iconst 0, 1) := by decide +kernel
theorem d4_22 : decode prog_32_method_2_code 22 = .ok (.putfield 30, 3) := by decide +kernel
theorem d4_25 : decode prog_32_method_2_code 25 = .ok (.aload_n 0, 1) := by decide +kernel
theorem d4_26 : decode prog_32_method_2_code 26 = .ok (.areturn, 1) := by decide +kernel
theorem pn_4 : plainFor (⟨"com/example/mappa/mappa/core/FieldText", "restart", "(III)Lcom/example/mappa/mappa/core/FieldText;"⟩ : MethodName) = true := plainFor_of_name (by first | (simp [plainName, overriddenIn]; done) | decide +kernel)
theorem ef_con_rst (m : MethodId) (f : Addr) (p2 : Int32) (p3 : Int32) (p4 : Int32) (ul : Value) (uc : Value) (um : Value) (ut : Value) (uk : Value) (tx : Value)  : entryFrame m #[(.ref f), (.int p2), (.int p3), (.int p4)] 4 = mkF m 0 #[.val (.ref f), .val (.int p2), .val (.int p3), .val (.int p4)] [] := by first | (simp [entryFrame, mkF, argsToLocals, Value.category]; done) | rfl
set_option maxRecDepth 65536 in
set_option maxHeartbeats 40000000 in
theorem con_rst (l : Launch) (Z : State) (a0 : Array Value) (hw : ∀ d ∈ tables_1, d.before a0 Z = true) (n0 : Nat) (h0 : Heap) (Z0 : n0 ≤ h0.size) (f : Addr) (p2 : Int32) (p3 : Int32) (p4 : Int32) (ul : Value) (uc : Value) (um : Value) (ut : Value) (uk : Value) (tx : Value) (E1 : Exa Z h0 f "com/example/mappa/mappa/core/FieldText") (g1 : n0 ≤ f) (Ful : Fld Z h0 f "com/example/mappa/mappa/core/FieldText" "line" "I" ul) (Fuc : Fld Z h0 f "com/example/mappa/mappa/core/FieldText" "column" "I" uc) (Fum : Fld Z h0 f "com/example/mappa/mappa/core/FieldText" "max" "I" um) (Fut : Fld Z h0 f "com/example/mappa/mappa/core/FieldText" "textLength" "I" ut) (Fuk : Fld Z h0 f "com/example/mappa/mappa/core/FieldText" "cut" "Z" uk) (Ftx : Fld Z h0 f "com/example/mappa/mappa/core/FieldText" "text" "[C" tx) :
    Con l Z n0 (⟨"com/example/mappa/mappa/core/FieldText", "restart", "(III)Lcom/example/mappa/mappa/core/FieldText;"⟩ : MethodName) prog_32_method_2_code 4 (some (.object "com/example/mappa/mappa/core/FieldText")) ({ frames := 0, cells := 0, slots := 0, locals := 0 } : Room) #[(.ref f), (.int p2), (.int p3), (.int p4)] h0 (Val fun w h' => w = .ref f ∧ Keep h0 h' [f] ∧ Fld Z h' f "com/example/mappa/mappa/core/FieldText" "line" "I" (.int p2) ∧ Fld Z h' f "com/example/mappa/mappa/core/FieldText" "column" "I" (.int p3) ∧ Fld Z h' f "com/example/mappa/mappa/core/FieldText" "max" "I" (.int p4) ∧ Fld Z h' f "com/example/mappa/mappa/core/FieldText" "textLength" "I" (.int (0 : Int32)) ∧ Fld Z h' f "com/example/mappa/mappa/core/FieldText" "cut" "Z" (.int (0 : Int32)) ∧ Fld Z h' f "com/example/mappa/mappa/core/FieldText" "text" "[C" tx) := by
  refine Con.of_run pn_4 (fun m => ef_con_rst m f p2 p3 p4 ul uc um ut uk tx ) ?_
  refine Run.aloadN d4_0 rfl rfl (pc' := 1) rfl ?_
  refine Run.iloadN d4_1 rfl (pc' := 2) rfl ?_
  refine Run.putF d4_2 (host := "") (Or.inl (hw _ (List.mem_of_getElem? (i := 21) rfl))) Via.refl Ful E1 (Or.inl (hw _ (List.mem_of_getElem? (i := 22) rfl))) (hw _ (List.mem_of_getElem? (i := 6) rfl)) (ty := .int) (by decide) rfl rfl g1 (pc' := 5) rfl ?_
  intro h11 W11
  have Fw11 := Ful.same W11
  have E_f_11 := E1.wr W11
  have F_f_column_11 := Fuc.other W11 (Or.inr (slot_ne (Or.inl (hw _ (List.mem_of_getElem? (i := 24) rfl))) (Or.inl (hw _ (List.mem_of_getElem? (i := 22) rfl))) (by decide) (t := .int) (t' := .int) (by decide) (by decide)))
  have F_f_max_11 := Fum.other W11 (Or.inr (slot_ne (Or.inl (hw _ (List.mem_of_getElem? (i := 26) rfl))) (Or.inl (hw _ (List.mem_of_getElem? (i := 22) rfl))) (by decide) (t := .int) (t' := .int) (by decide) (by decide)))
  have F_f_textLength_11 := Fut.other W11 (Or.inr (slot_ne (Or.inl (hw _ (List.mem_of_getElem? (i := 28) rfl))) (Or.inl (hw _ (List.mem_of_getElem? (i := 22) rfl))) (by decide) (t := .int) (t' := .int) (by decide) (by decide)))
  have F_f_cut_11 := Fuk.other W11 (Or.inr (slot_ne (Or.inl (hw _ (List.mem_of_getElem? (i := 30) rfl))) (Or.inl (hw _ (List.mem_of_getElem? (i := 22) rfl))) (by decide) (t := .boolean) (t' := .int) (by decide) (by decide)))
  have F_f_text_11 := Ftx.other W11 (Or.inr (slot_ne (Or.inl (hw _ (List.mem_of_getElem? (i := 15) rfl))) (Or.inl (hw _ (List.mem_of_getElem? (i := 22) rfl))) (by decide) (t := (.array .char)) (t' := .int) (by decide) (by decide)))
  have sz11 : n0 ≤ h11.size := by rw [W11.size]; exact Z0
  have kp11 := Keep.wr (Keep.refl h0 [f]) W11 (Or.inl (List.mem_of_getElem? (i := 0) rfl))
  refine Run.aloadN d4_5 rfl rfl (pc' := 6) rfl ?_
  refine Run.iloadN d4_6 rfl (pc' := 7) rfl ?_
  refine Run.putF d4_7 (host := "") (Or.inl (hw _ (List.mem_of_getElem? (i := 23) rfl))) Via.refl F_f_column_11 E_f_11 (Or.inl (hw _ (List.mem_of_getElem? (i := 24) rfl))) (hw _ (List.mem_of_getElem? (i := 6) rfl)) (ty := .int) (by decide) rfl rfl g1 (pc' := 10) rfl ?_
  intro h12 W12
  have Fw12 := F_f_column_11.same W12
  have E_f_12 := E_f_11.wr W12
  have F_f_max_12 := F_f_max_11.other W12 (Or.inr (slot_ne (Or.inl (hw _ (List.mem_of_getElem? (i := 26) rfl))) (Or.inl (hw _ (List.mem_of_getElem? (i := 24) rfl))) (by decide) (t := .int) (t' := .int) (by decide) (by decide)))
  have F_f_textLength_12 := F_f_textLength_11.other W12 (Or.inr (slot_ne (Or.inl (hw _ (List.mem_of_getElem? (i := 28) rfl))) (Or.inl (hw _ (List.mem_of_getElem? (i := 24) rfl))) (by decide) (t := .int) (t' := .int) (by decide) (by decide)))
  have F_f_cut_12 := F_f_cut_11.other W12 (Or.inr (slot_ne (Or.inl (hw _ (List.mem_of_getElem? (i := 30) rfl))) (Or.inl (hw _ (List.mem_of_getElem? (i := 24) rfl))) (by decide) (t := .boolean) (t' := .int) (by decide) (by decide)))
  have F_f_text_12 := F_f_text_11.other W12 (Or.inr (slot_ne (Or.inl (hw _ (List.mem_of_getElem? (i := 15) rfl))) (Or.inl (hw _ (List.mem_of_getElem? (i := 24) rfl))) (by decide) (t := (.array .char)) (t' := .int) (by decide) (by decide)))
  have F_f_line_12 := Fw11.other W12 (Or.inr (slot_ne (Or.inl (hw _ (List.mem_of_getElem? (i := 22) rfl))) (Or.inl (hw _ (List.mem_of_getElem? (i := 24) rfl))) (by decide) (t := .int) (t' := .int) (by decide) (by decide)))
  have sz12 : n0 ≤ h12.size := by rw [W12.size]; exact sz11
  have kp12 := Keep.wr kp11 W12 (Or.inl (List.mem_of_getElem? (i := 0) rfl))
  refine Run.aloadN d4_10 rfl rfl (pc' := 11) rfl ?_
  refine Run.iloadN d4_11 rfl (pc' := 12) rfl ?_
  refine Run.putF d4_12 (host := "") (Or.inl (hw _ (List.mem_of_getElem? (i := 25) rfl))) Via.refl F_f_max_12 E_f_12 (Or.inl (hw _ (List.mem_of_getElem? (i := 26) rfl))) (hw _ (List.mem_of_getElem? (i := 6) rfl)) (ty := .int) (by decide) rfl rfl g1 (pc' := 15) rfl ?_
  intro h13 W13
  have Fw13 := F_f_max_12.same W13
  have E_f_13 := E_f_12.wr W13
  have F_f_textLength_13 := F_f_textLength_12.other W13 (Or.inr (slot_ne (Or.inl (hw _ (List.mem_of_getElem? (i := 28) rfl))) (Or.inl (hw _ (List.mem_of_getElem? (i := 26) rfl))) (by decide) (t := .int) (t' := .int) (by decide) (by decide)))
  have F_f_cut_13 := F_f_cut_12.other W13 (Or.inr (slot_ne (Or.inl (hw _ (List.mem_of_getElem? (i := 30) rfl))) (Or.inl (hw _ (List.mem_of_getElem? (i := 26) rfl))) (by decide) (t := .boolean) (t' := .int) (by decide) (by decide)))
  have F_f_text_13 := F_f_text_12.other W13 (Or.inr (slot_ne (Or.inl (hw _ (List.mem_of_getElem? (i := 15) rfl))) (Or.inl (hw _ (List.mem_of_getElem? (i := 26) rfl))) (by decide) (t := (.array .char)) (t' := .int) (by decide) (by decide)))
  have F_f_line_13 := F_f_line_12.other W13 (Or.inr (slot_ne (Or.inl (hw _ (List.mem_of_getElem? (i := 22) rfl))) (Or.inl (hw _ (List.mem_of_getElem? (i := 26) rfl))) (by decide) (t := .int) (t' := .int) (by decide) (by decide)))
  have F_f_column_13 := Fw12.other W13 (Or.inr (slot_ne (Or.inl (hw _ (List.mem_of_getElem? (i := 24) rfl))) (Or.inl (hw _ (List.mem_of_getElem? (i := 26) rfl))) (by decide) (t := .int) (t' := .int) (by decide) (by decide)))
  have sz13 : n0 ≤ h13.size := by rw [W13.size]; exact sz12
  have kp13 := Keep.wr kp12 W13 (Or.inl (List.mem_of_getElem? (i := 0) rfl))
  refine Run.aloadN d4_15 rfl rfl (pc' := 16) rfl ?_
  refine Run.iconst (0 : Int32) d4_16 (by decide) (pc' := 17) rfl ?_
  refine Run.putF d4_17 (host := "") (Or.inl (hw _ (List.mem_of_getElem? (i := 27) rfl))) Via.refl F_f_textLength_13 E_f_13 (Or.inl (hw _ (List.mem_of_getElem? (i := 28) rfl))) (hw _ (List.mem_of_getElem? (i := 6) rfl)) (ty := .int) (by decide) rfl rfl g1 (pc' := 20) rfl ?_
  intro h14 W14
  have Fw14 := F_f_textLength_13.same W14
  have E_f_14 := E_f_13.wr W14
  have F_f_cut_14 := F_f_cut_13.other W14 (Or.inr (slot_ne (Or.inl (hw _ (List.mem_of_getElem? (i := 30) rfl))) (Or.inl (hw _ (List.mem_of_getElem? (i := 28) rfl))) (by decide) (t := .boolean) (t' := .int) (by decide) (by decide)))
  have F_f_text_14 := F_f_text_13.other W14 (Or.inr (slot_ne (Or.inl (hw _ (List.mem_of_getElem? (i := 15) rfl))) (Or.inl (hw _ (List.mem_of_getElem? (i := 28) rfl))) (by decide) (t := (.array .char)) (t' := .int) (by decide) (by decide)))
  have F_f_line_14 := F_f_line_13.other W14 (Or.inr (slot_ne (Or.inl (hw _ (List.mem_of_getElem? (i := 22) rfl))) (Or.inl (hw _ (List.mem_of_getElem? (i := 28) rfl))) (by decide) (t := .int) (t' := .int) (by decide) (by decide)))
  have F_f_column_14 := F_f_column_13.other W14 (Or.inr (slot_ne (Or.inl (hw _ (List.mem_of_getElem? (i := 24) rfl))) (Or.inl (hw _ (List.mem_of_getElem? (i := 28) rfl))) (by decide) (t := .int) (t' := .int) (by decide) (by decide)))
  have F_f_max_14 := Fw13.other W14 (Or.inr (slot_ne (Or.inl (hw _ (List.mem_of_getElem? (i := 26) rfl))) (Or.inl (hw _ (List.mem_of_getElem? (i := 28) rfl))) (by decide) (t := .int) (t' := .int) (by decide) (by decide)))
  have sz14 : n0 ≤ h14.size := by rw [W14.size]; exact sz13
  have kp14 := Keep.wr kp13 W14 (Or.inl (List.mem_of_getElem? (i := 0) rfl))
  refine Run.aloadN d4_20 rfl rfl (pc' := 21) rfl ?_
  refine Run.iconst (0 : Int32) d4_21 (by decide) (pc' := 22) rfl ?_
  refine Run.putFN d4_22 (hw _ (List.mem_of_getElem? (i := 29) rfl)) Via.refl F_f_cut_14 E_f_14 (Or.inl (hw _ (List.mem_of_getElem? (i := 30) rfl))) (hw _ (List.mem_of_getElem? (i := 6) rfl)) (ty := .boolean) (v' := (.int (0 : Int32))) (by decide) rfl rfl g1 (pc' := 25) rfl ?_
  intro h15 W15
  have Fw15 := F_f_cut_14.same W15
  have E_f_15 := E_f_14.wr W15
  have F_f_text_15 := F_f_text_14.other W15 (Or.inr (slot_ne (Or.inl (hw _ (List.mem_of_getElem? (i := 15) rfl))) (Or.inl (hw _ (List.mem_of_getElem? (i := 30) rfl))) (by decide) (t := (.array .char)) (t' := .boolean) (by decide) (by decide)))
  have F_f_line_15 := F_f_line_14.other W15 (Or.inr (slot_ne (Or.inl (hw _ (List.mem_of_getElem? (i := 22) rfl))) (Or.inl (hw _ (List.mem_of_getElem? (i := 30) rfl))) (by decide) (t := .int) (t' := .boolean) (by decide) (by decide)))
  have F_f_column_15 := F_f_column_14.other W15 (Or.inr (slot_ne (Or.inl (hw _ (List.mem_of_getElem? (i := 24) rfl))) (Or.inl (hw _ (List.mem_of_getElem? (i := 30) rfl))) (by decide) (t := .int) (t' := .boolean) (by decide) (by decide)))
  have F_f_max_15 := F_f_max_14.other W15 (Or.inr (slot_ne (Or.inl (hw _ (List.mem_of_getElem? (i := 26) rfl))) (Or.inl (hw _ (List.mem_of_getElem? (i := 30) rfl))) (by decide) (t := .int) (t' := .boolean) (by decide) (by decide)))
  have F_f_textLength_15 := Fw14.other W15 (Or.inr (slot_ne (Or.inl (hw _ (List.mem_of_getElem? (i := 28) rfl))) (Or.inl (hw _ (List.mem_of_getElem? (i := 30) rfl))) (by decide) (t := .int) (t' := .boolean) (by decide) (by decide)))
  have sz15 : n0 ≤ h15.size := by rw [W15.size]; exact sz14
  have kp15 := Keep.wr kp14 W15 (Or.inl (List.mem_of_getElem? (i := 0) rfl))
  refine Run.aloadN d4_25 rfl rfl (pc' := 26) rfl ?_
  exact Run.areturn d4_26 (ty := (.object "com/example/mappa/mappa/core/FieldText")) rfl rfl rfl (by decide) (by decide) ⟨_, rfl, rfl, kp15, F_f_line_15, F_f_column_15, F_f_max_15, F_f_textLength_15, Fw15, F_f_text_15⟩
theorem d2_0 : decode prog_32_method_1_code 0 = .ok (.aload_n 0, 1) := by decide +kernel
theorem d2_1 : decode prog_32_method_1_code 1 = .ok (.invokespecial 1, 3) := by decide +kernel
theorem d2_4 : decode prog_32_method_1_code 4 = .ok (.aload_n 0, 1) := by decide +kernel
theorem d2_5 : decode prog_32_method_1_code 5 = .ok (.bipush 64, 2) := by decide +kernel
theorem d2_7 : decode prog_32_method_1_code 7 = .ok (.newarray .char, 2) := by decide +kernel
theorem d2_9 : decode prog_32_method_1_code 9 = .ok (.putfield 7, 3) := by decide +kernel
theorem d2_12 : decode prog_32_method_1_code 12 = .ok (.aload_n 0, 1) := by decide +kernel
theorem d2_13 : decode prog_32_method_1_code 13 = .ok (.iload_n 1, 1) := by decide +kernel
theorem d2_14 : decode prog_32_method_1_code 14 = .ok (.iload_n 2, 1) := by decide +kernel
theorem d2_15 : decode prog_32_method_1_code 15 = .ok (.iload_n 3, 1) := by decide +kernel
theorem d2_16 : decode prog_32_method_1_code 16 = .ok (.invokevirtual 13, 3) := by decide +kernel
theorem d2_19 : decode prog_32_method_1_code 19 = .ok (.pop, 1) := by decide +kernel
theorem d2_20 : decode prog_32_method_1_code 20 = .ok (.return_, 1) := by decide +kernel
theorem pn_2 : plainFor (⟨"com/example/mappa/mappa/core/FieldText", "<init>", "(III)V"⟩ : MethodName) = true := plainFor_of_name (by first | (simp [plainName, overriddenIn]; done) | decide +kernel)
theorem pd__III_Lcom_example_mappa_mappa_core_FieldText_ : parseMethodDescriptor "(III)Lcom/example/mappa/mappa/core/FieldText;" = some ⟨[.int, .int, .int], some (.object "com/example/mappa/mappa/core/FieldText")⟩ := by decide +kernel
theorem ef_con_fti (m : MethodId) (f : Addr) (p2 : Int32) (p3 : Int32) (p4 : Int32)  : entryFrame m #[(.ref f), (.int p2), (.int p3), (.int p4)] 4 = mkF m 0 #[.val (.ref f), .val (.int p2), .val (.int p3), .val (.int p4)] [] := by first | (simp [entryFrame, mkF, argsToLocals, Value.category]; done) | rfl
set_option maxRecDepth 65536 in
set_option maxHeartbeats 40000000 in
theorem con_fti (l : Launch) (Z : State) (a0 : Array Value) (hw : ∀ d ∈ tables_1, d.before a0 Z = true) (n0 : Nat) (h0 : Heap) (Z0 : n0 ≤ h0.size) (f : Addr) (p2 : Int32) (p3 : Int32) (p4 : Int32) (E1 : Exa Z h0 f "com/example/mappa/mappa/core/FieldText") (g1 : n0 ≤ f) (Fline : Fld Z h0 f "com/example/mappa/mappa/core/FieldText" "line" "I" (.int (0 : Int32))) (Fcolumn : Fld Z h0 f "com/example/mappa/mappa/core/FieldText" "column" "I" (.int (0 : Int32))) (Fmax : Fld Z h0 f "com/example/mappa/mappa/core/FieldText" "max" "I" (.int (0 : Int32))) (FtextLength : Fld Z h0 f "com/example/mappa/mappa/core/FieldText" "textLength" "I" (.int (0 : Int32))) (Fcut : Fld Z h0 f "com/example/mappa/mappa/core/FieldText" "cut" "Z" (.int (0 : Int32))) (Ftx : Fld Z h0 f "com/example/mappa/mappa/core/FieldText" "text" "[C" .null) :
    Con l Z n0 (⟨"com/example/mappa/mappa/core/FieldText", "<init>", "(III)V"⟩ : MethodName) prog_32_method_1_code 4 none ({ frames := 1, cells := 1, slots := 64, locals := 15 } : Room) #[(.ref f), (.int p2), (.int p3), (.int p4)] h0 (Vd fun h' => ∃ tx, h0.size ≤ tx ∧ Keep h0 h' [f] ∧ Fld Z h' f "com/example/mappa/mappa/core/FieldText" "line" "I" (.int p2) ∧ Fld Z h' f "com/example/mappa/mappa/core/FieldText" "column" "I" (.int p3) ∧ Fld Z h' f "com/example/mappa/mappa/core/FieldText" "max" "I" (.int p4) ∧ Fld Z h' f "com/example/mappa/mappa/core/FieldText" "textLength" "I" (.int (0 : Int32)) ∧ Fld Z h' f "com/example/mappa/mappa/core/FieldText" "cut" "Z" (.int (0 : Int32)) ∧ Fld Z h' f "com/example/mappa/mappa/core/FieldText" "text" "[C" (.ref tx) ∧ Ary Z h' tx .char (List.replicate 64 (.int (0 : Int32)))) := by
  refine Con.of_run pn_2 (fun m => ef_con_fti m f p2 p3 p4 ) ?_
  refine Run.aloadN d2_0 rfl rfl (pc' := 1) rfl ?_
  refine Run.initO d2_1 (hw _ (List.mem_of_getElem? (i := 11) rfl)) (hw _ (List.mem_of_getElem? (i := 12) rfl)) (hw _ (List.mem_of_getElem? (i := 13) rfl)) rfl (by decide) (by show (0 : Nat) + 12 ≤ _; decide) (pc' := 4) rfl ?_
  refine Run.aloadN d2_4 rfl rfl (pc' := 5) rfl ?_
  refine Run.bipush (64 : Int32) d2_5 (by decide) (pc' := 7) rfl ?_
  refine Run.newP (ty := .char) (m := 64) (cap := 64) (dv := (.int (0 : Int32))) (k' := 1) (n' := 64) d2_7 rfl (hw _ (List.mem_of_getElem? (i := 0) rfl)) (by decide) (by decide) (Nat.le_refl _) rfl (by decide) (by decide) (by decide) (by decide) (by decide) (pc' := 9) rfl ?_
  intro h11 b11 g11 E11 A11
  have ge_b11 : n0 ≤ b11 := by rw [g11]; exact Z0
  have bo_b11 : h0.size ≤ b11 := by rw [g11]; exact (Keep.refl h0 [f]).1
  have ne_f_b11 : f ≠ b11 := by rw [g11]; exact Nat.ne_of_lt E1.lt
  have E_f_11 := E1.ext E11
  have F_f_line_11 := Fline.ext E11
  have F_f_column_11 := Fcolumn.ext E11
  have F_f_max_11 := Fmax.ext E11
  have F_f_textLength_11 := FtextLength.ext E11
  have F_f_cut_11 := Fcut.ext E11
  have F_f_text_11 := Ftx.ext E11
  have sz11 : n0 ≤ h11.size := Nat.le_trans Z0 E11.1
  have kp11 := Keep.ext (Keep.refl h0 [f]) E11
  refine Run.putF d2_9 (host := "") (Or.inl (hw _ (List.mem_of_getElem? (i := 14) rfl))) Via.refl F_f_text_11 E_f_11 (Or.inl (hw _ (List.mem_of_getElem? (i := 15) rfl))) (hw _ (List.mem_of_getElem? (i := 6) rfl)) (ty := (.array .char)) (by decide) (go_narref rfl rfl) rfl g1 (pc' := 12) rfl ?_
  intro h12 W12
  have Fw12 := F_f_text_11.same W12
  have E_f_12 := E_f_11.wr W12
  have F_f_line_12 := F_f_line_11.other W12 (Or.inr (slot_ne (Or.inl (hw _ (List.mem_of_getElem? (i := 22) rfl))) (Or.inl (hw _ (List.mem_of_getElem? (i := 15) rfl))) (by decide) (t := .int) (t' := (.array .char)) (by decide) (by decide)))
  have F_f_column_12 := F_f_column_11.other W12 (Or.inr (slot_ne (Or.inl (hw _ (List.mem_of_getElem? (i := 24) rfl))) (Or.inl (hw _ (List.mem_of_getElem? (i := 15) rfl))) (by decide) (t := .int) (t' := (.array .char)) (by decide) (by decide)))
  have F_f_max_12 := F_f_max_11.other W12 (Or.inr (slot_ne (Or.inl (hw _ (List.mem_of_getElem? (i := 26) rfl))) (Or.inl (hw _ (List.mem_of_getElem? (i := 15) rfl))) (by decide) (t := .int) (t' := (.array .char)) (by decide) (by decide)))
  have F_f_textLength_12 := F_f_textLength_11.other W12 (Or.inr (slot_ne (Or.inl (hw _ (List.mem_of_getElem? (i := 28) rfl))) (Or.inl (hw _ (List.mem_of_getElem? (i := 15) rfl))) (by decide) (t := .int) (t' := (.array .char)) (by decide) (by decide)))
  have F_f_cut_12 := F_f_cut_11.other W12 (Or.inr (slot_ne (Or.inl (hw _ (List.mem_of_getElem? (i := 30) rfl))) (Or.inl (hw _ (List.mem_of_getElem? (i := 15) rfl))) (by decide) (t := .boolean) (t' := (.array .char)) (by decide) (by decide)))
  have A_b11_12 := A11.other W12 (Ne.symm ne_f_b11)
  have sz12 : n0 ≤ h12.size := by rw [W12.size]; exact sz11
  have kp12 := Keep.wr kp11 W12 (Or.inl (List.mem_of_getElem? (i := 0) rfl))
  refine Run.aloadN d2_12 rfl rfl (pc' := 13) rfl ?_
  refine Run.iloadN d2_13 rfl (pc' := 14) rfl ?_
  refine Run.iloadN d2_14 rfl (pc' := 15) rfl ?_
  refine Run.iloadN d2_15 rfl (pc' := 16) rfl ?_
  refine Run.callV (k' := 1) (n' := 64) (a := f) (as := [(.int p2), (.int p3), (.int p4)]) (rest := []) (con_rst l Z a0 hw n0 h12 sz12 f p2 p3 p4 (.int (0 : Int32)) (.int (0 : Int32)) (.int (0 : Int32)) (.int (0 : Int32)) (.int (0 : Int32)) (.ref b11) E_f_12 g1 F_f_line_12 F_f_column_12 F_f_max_12 F_f_textLength_12 F_f_cut_12 Fw12 ) E_f_12 d2_16 (hw _ (List.mem_of_getElem? (i := 16) rfl)) (hw _ (List.mem_of_getElem? (i := 17) rfl)) (fun s hZ => notFace_of_selects (args := #[]) (mvT hZ (hw _ (List.mem_of_getElem? (i := 19) rfl)))) (hw _ (List.mem_of_getElem? (i := 19) rfl)) (hw _ (List.mem_of_getElem? (i := 18) rfl)) (hw _ (List.mem_of_getElem? (i := 7) rfl)) (hw _ (List.mem_of_getElem? (i := 20) rfl)) (by decide) pd__III_Lcom_example_mappa_mappa_core_FieldText_ rfl rfl rfl (by decide) (by show (0 : Nat) + (4 + 11) + 0 ≤ _; decide) (by decide) (by decide) (by decide) (by decide) (pc' := 19) rfl ?_
  rintro _ h13 ⟨_, rfl, ⟨rfl, K13, Pline_13, Pcolumn_13, Pmax_13, PtextLength_13, Pcut_13, Ptext_13⟩⟩
  show Run l Z n0 "com/example/mappa/mappa/core/FieldText" prog_32_method_1_code 4 none "<init>" ({ frames := 1, cells := 1, slots := 64, locals := 15 } : Room) _ 19 #[.val (.ref f), .val (.int p2), .val (.int p3), .val (.int p4)] [(.ref f)] h13 1 64
  have E_f_13 := E_f_12.keep K13
  have A_b11_13 := A_b11_12.keep K13 (ninS (Ne.symm ne_f_b11) nin0)
  have sz13 : n0 ≤ h13.size := Nat.le_trans sz12 K13.1
  have kp13 := Keep.trans kp12 K13 (allS (Or.inl (List.mem_of_getElem? (i := 0) rfl)) all0)
  refine Run.pop d2_19 rfl (pc' := 20) rfl ?_
  exact Run.vreturn d2_20 rfl (by decide) (by decide) ⟨rfl, b11, bo_b11, kp13, Pline_13, Pcolumn_13, Pmax_13, PtextLength_13, Pcut_13, Ptext_13, A_b11_13⟩
def own_lead : List Int32 → Nat
  | [] => 0
  | c :: r => if own_isp c = 0 then 0 else own_lead r + 1
theorem own_lead_le : ∀ r : List Int32, own_lead r ≤ r.length
  | [] => Nat.le_refl _
  | c :: r => by unfold own_lead; split; omega; have := own_lead_le r; simp; omega
theorem own_lead_end {cs : List Int32} {i : Nat} (h : cs.length ≤ i) : own_lead (cs.drop i) = 0 := by rw [List.drop_eq_nil_of_le h]; rfl
theorem own_lead_at {cs : List Int32} {i : Nat} (h : i < cs.length) : own_lead (cs.drop i) = if own_isp (cs.getD i 0) = 0 then 0 else own_lead (cs.drop (i + 1)) + 1 := by
  have e : cs.getD i 0 = cs[i] := by simp [List.getD_eq_getElem?_getD, h]
  rw [List.drop_eq_getElem_cons h, e]; rfl
theorem own_gm {cs : List Int32} {i : Nat} (h : i < cs.length) : (cs.map Value.int)[i]? = some (Value.int (cs.getD i 0)) := by simp [List.getD_eq_getElem?_getD, h]
theorem own_gt {cs : List Int32} {i ln : Nat} (h : i < ln) : (cs.take ln).getD i 0 = cs.getD i 0 := by simp [List.getD_eq_getElem?_getD, List.getElem?_take_of_lt h]
def own_held (ln fr : Nat) (m : Int32) : Nat := min (ln - fr) m.toInt.toNat
theorem own_minI (a b : Int32) : (own_min a b).toInt = min a.toInt b.toInt := by
  unfold own_min; split <;> rename_i h <;> rw [Int32.lt_iff_toInt_lt] at h <;> omega
theorem own_heldI {ln fr : Nat} {m : Int32} (hf : fr ≤ ln) (hl : ln ≤ 64) (hm : 0 ≤ m.toInt ∧ m.toInt ≤ 64) : own_min (Int32.ofNat ln - Int32.ofNat fr) (own_min (m - (0 : Int32)) m) = Int32.ofNat (own_held ln fr m) := by
  apply own_eqi
  have h1 := own_ofn (i := ln) (by omega); have h2 := own_ofn (i := fr) (by omega); have h3 := c_isub (Int32.ofNat ln) (Int32.ofNat fr); have h4 := c_isub m 0; have h5 := rng32 (Int32.ofNat ln - Int32.ofNat fr); have h6 := rng32 (m - 0); have h0 := own_z
  rw [own_minI, own_minI, own_ofn (by unfold own_held; omega)]
  unfold own_held
  omega
theorem own_heldB {ln fr : Nat} {m : Int32} (hm : 0 ≤ m.toInt ∧ m.toInt ≤ 64) : own_held ln fr m ≤ ln - fr ∧ own_held ln fr m ≤ 64 := by unfold own_held; omega
theorem d17_0 : decode prog_32_method_8_code 0 = .ok (.iload_n 2, 1) := by decide +kernel
theorem d17_1 : decode prog_32_method_8_code 1 = .ok (.istore 5, 2) := by decide +kernel
theorem d17_3 : decode prog_32_method_8_code 3 = .ok (.iload_n 2, 1) := by decide +kernel
theorem d17_4 : decode prog_32_method_8_code 4 = .ok (.iload_n 3, 1) := by decide +kernel
theorem d17_5 : decode prog_32_method_8_code 5 = .ok (.iadd, 1) := by decide +kernel
theorem d17_6 : decode prog_32_method_8_code 6 = .ok (.istore 6, 2) := by decide +kernel
theorem d17_8 : decode prog_32_method_8_code 8 = .ok (.aload_n 0, 1) := by decide +kernel
theorem d17_9 : decode prog_32_method_8_code 9 = .ok (.getfield 27, 3) := by decide +kernel
theorem d17_12 : decode prog_32_method_8_code 12 = .ok (.ifCond .ne 26, 3) := by decide +kernel
theorem d17_15 : decode prog_32_method_8_code 15 = .ok (.iload 5, 2) := by decide +kernel
theorem d17_17 : decode prog_32_method_8_code 17 = .ok (.iload 6, 2) := by decide +kernel
theorem d17_19 : decode prog_32_method_8_code 19 = .ok (.if_icmp .ge 19, 3) := by decide +kernel
theorem d17_22 : decode prog_32_method_8_code 22 = .ok (.aload_n 1, 1) := by decide +kernel
theorem d17_23 : decode prog_32_method_8_code 23 = .ok (.iload 5, 2) := by decide +kernel
theorem d17_25 : decode prog_32_method_8_code 25 = .ok (.caload, 1) := by decide +kernel
theorem d17_26 : decode prog_32_method_8_code 26 = .ok (.invokestatic 38, 3) := by decide +kernel
theorem d17_29 : decode prog_32_method_8_code 29 = .ok (.ifCond .eq 9, 3) := by decide +kernel
theorem d17_32 : decode prog_32_method_8_code 32 = .ok (.iinc 5 1, 3) := by decide +kernel
theorem d17_35 : decode prog_32_method_8_code 35 = .ok (.goto (-27), 3) := by decide +kernel
theorem d17_38 : decode prog_32_method_8_code 38 = .ok (.iload 6, 2) := by decide +kernel
theorem d17_40 : decode prog_32_method_8_code 40 = .ok (.iload 5, 2) := by decide +kernel
theorem d17_42 : decode prog_32_method_8_code 42 = .ok (.isub, 1) := by decide +kernel
theorem d17_43 : decode prog_32_method_8_code 43 = .ok (.aload_n 0, 1) := by decide +kernel
theorem d17_44 : decode prog_32_method_8_code 44 = .ok (.getfield 24, 3) := by decide +kernel
theorem d17_47 : decode prog_32_method_8_code 47 = .ok (.aload_n 0, 1) := by decide +kernel
theorem d17_48 : decode prog_32_method_8_code 48 = .ok (.getfield 27, 3) := by decide +kernel
theorem d17_51 : decode prog_32_method_8_code 51 = .ok (.isub, 1) := by decide +kernel
theorem d17_52 : decode prog_32_method_8_code 52 = .ok (.iload 4, 2) := by decide +kernel
theorem d17_54 : decode prog_32_method_8_code 54 = .ok (.invokestatic 42, 3) := by decide +kernel
theorem d17_57 : decode prog_32_method_8_code 57 = .ok (.invokestatic 42, 3) := by decide +kernel
theorem d17_60 : decode prog_32_method_8_code 60 = .ok (.istore 7, 2) := by decide +kernel
theorem d17_62 : decode prog_32_method_8_code 62 = .ok (.aload_n 0, 1) := by decide +kernel
theorem d17_63 : decode prog_32_method_8_code 63 = .ok (.getfield 27, 3) := by decide +kernel
theorem d17_66 : decode prog_32_method_8_code 66 = .ok (.iload 7, 2) := by decide +kernel
theorem d17_68 : decode prog_32_method_8_code 68 = .ok (.iadd, 1) := by decide +kernel
theorem d17_69 : decode prog_32_method_8_code 69 = .ok (.aload_n 0, 1) := by decide +kernel
theorem d17_70 : decode prog_32_method_8_code 70 = .ok (.getfield 7, 3) := by decide +kernel
theorem d17_73 : decode prog_32_method_8_code 73 = .ok (.arraylength, 1) := by decide +kernel
theorem d17_74 : decode prog_32_method_8_code 74 = .ok (.if_icmp .le 44, 3) := by decide +kernel
theorem d17_118 : decode prog_32_method_8_code 118 = .ok (.aload_n 1, 1) := by decide +kernel
theorem d17_119 : decode prog_32_method_8_code 119 = .ok (.iload 5, 2) := by decide +kernel
theorem d17_121 : decode prog_32_method_8_code 121 = .ok (.aload_n 0, 1) := by decide +kernel
theorem d17_122 : decode prog_32_method_8_code 122 = .ok (.getfield 7, 3) := by decide +kernel
theorem d17_125 : decode prog_32_method_8_code 125 = .ok (.aload_n 0, 1) := by decide +kernel
theorem d17_126 : decode prog_32_method_8_code 126 = .ok (.getfield 27, 3) := by decide +kernel
theorem d17_129 : decode prog_32_method_8_code 129 = .ok (.iload 7, 2) := by decide +kernel
theorem d17_131 : decode prog_32_method_8_code 131 = .ok (.invokestatic 61, 3) := by decide +kernel
theorem d17_134 : decode prog_32_method_8_code 134 = .ok (.aload_n 0, 1) := by decide +kernel
theorem d17_135 : decode prog_32_method_8_code 135 = .ok (.dup, 1) := by decide +kernel
theorem d17_136 : decode prog_32_method_8_code 136 = .ok (.getfield 27, 3) := by decide +kernel
theorem d17_139 : decode prog_32_method_8_code 139 = .ok (.iload 7, 2) := by decide +kernel
theorem d17_141 : decode prog_32_method_8_code 141 = .ok (.iadd, 1) := by decide +kernel
theorem d17_142 : decode prog_32_method_8_code 142 = .ok (.putfield 27, 3) := by decide +kernel
theorem d17_145 : decode prog_32_method_8_code 145 = .ok (.iload 5, 2) := by decide +kernel
theorem d17_147 : decode prog_32_method_8_code 147 = .ok (.iload 7, 2) := by decide +kernel
theorem d17_149 : decode prog_32_method_8_code 149 = .ok (.iadd, 1) := by decide +kernel
theorem d17_150 : decode prog_32_method_8_code 150 = .ok (.istore 8, 2) := by decide +kernel
theorem d17_152 : decode prog_32_method_8_code 152 = .ok (.iload 8, 2) := by decide +kernel
theorem d17_154 : decode prog_32_method_8_code 154 = .ok (.iload 6, 2) := by decide +kernel
theorem d17_156 : decode prog_32_method_8_code 156 = .ok (.if_icmp .ge 35, 3) := by decide +kernel
theorem d17_159 : decode prog_32_method_8_code 159 = .ok (.aload_n 0, 1) := by decide +kernel
theorem d17_160 : decode prog_32_method_8_code 160 = .ok (.getfield 30, 3) := by decide +kernel
theorem d17_163 : decode prog_32_method_8_code 163 = .ok (.ifCond .ne 28, 3) := by decide +kernel
theorem d17_166 : decode prog_32_method_8_code 166 = .ok (.aload_n 0, 1) := by decide +kernel
theorem d17_167 : decode prog_32_method_8_code 167 = .ok (.aload_n 1, 1) := by decide +kernel
theorem d17_168 : decode prog_32_method_8_code 168 = .ok (.iload 8, 2) := by decide +kernel
theorem d17_170 : decode prog_32_method_8_code 170 = .ok (.caload, 1) := by decide +kernel
theorem d17_171 : decode prog_32_method_8_code 171 = .ok (.invokestatic 38, 3) := by decide +kernel
theorem d17_174 : decode prog_32_method_8_code 174 = .ok (.ifCond .ne 7, 3) := by decide +kernel
theorem d17_177 : decode prog_32_method_8_code 177 = .ok (.iconst 1, 1) := by decide +kernel
theorem d17_178 : decode prog_32_method_8_code 178 = .ok (.goto 4, 3) := by decide +kernel
theorem d17_181 : decode prog_32_method_8_code 181 = .ok (.iconst 0, 1) := by decide +kernel
theorem d17_182 : decode prog_32_method_8_code 182 = .ok (.putfield 30, 3) := by decide +kernel
theorem d17_185 : decode prog_32_method_8_code 185 = .ok (.iinc 8 1, 3) := by decide +kernel
theorem d17_188 : decode prog_32_method_8_code 188 = .ok (.goto (-36), 3) := by decide +kernel
theorem d17_191 : decode prog_32_method_8_code 191 = .ok (.iload 7, 2) := by decide +kernel
theorem d17_193 : decode prog_32_method_8_code 193 = .ok (.ireturn, 1) := by decide +kernel
theorem pn_17 : plainFor (⟨"com/example/mappa/mappa/core/FieldText", "append", "([CIII)I"⟩ : MethodName) = true := plainFor_of_name (by first | (simp [plainName, overriddenIn]; done) | decide +kernel)
theorem pd__C_Z : parseMethodDescriptor "(C)Z" = some ⟨[.char], some .boolean⟩ := by decide +kernel
theorem pd__II_I : parseMethodDescriptor "(II)I" = some ⟨[.int, .int], some .int⟩ := by decide +kernel
theorem ef_con_ap4 (m : MethodId) (f a tx : Addr) (cs : List Int32) (vs : List Value) (ln : Nat) (mx : Int32) (ul uc : Value)  : entryFrame m #[(.ref f), (.ref a), (.int (0 : Int32)), (.int (Int32.ofNat ln)), (.int mx)] 9 = mkF m 0 #[.val (.ref f), .val (.ref a), .val (.int (0 : Int32)), .val (.int (Int32.ofNat ln)), .val (.int mx), .unset, .unset, .unset, .unset] [] := by first | (simp [entryFrame, mkF, argsToLocals, Value.category]; done) | rfl
set_option maxRecDepth 65536 in
set_option maxHeartbeats 40000000 in
theorem con_ap4 (l : Launch) (Z : State) (a0 : Array Value) (hw : ∀ d ∈ tables_1, d.before a0 Z = true) (n0 : Nat) (h0 : Heap) (Z0 : n0 ≤ h0.size) (f a tx : Addr) (cs : List Int32) (vs : List Value) (ln : Nat) (mx : Int32) (ul uc : Value) (E1 : Exa Z h0 f "com/example/mappa/mappa/core/FieldText") (gf : n0 ≤ f) (gt : n0 ≤ tx) (Ftx : Fld Z h0 f "com/example/mappa/mappa/core/FieldText" "text" "[C" (.ref tx)) (Ftl : Fld Z h0 f "com/example/mappa/mappa/core/FieldText" "textLength" "I" (.int (0 : Int32))) (Fm : Fld Z h0 f "com/example/mappa/mappa/core/FieldText" "max" "I" (.int mx)) (Fk : Fld Z h0 f "com/example/mappa/mappa/core/FieldText" "cut" "Z" (.int (0 : Int32))) (Fln : Fld Z h0 f "com/example/mappa/mappa/core/FieldText" "line" "I" ul) (Fcl : Fld Z h0 f "com/example/mappa/mappa/core/FieldText" "column" "I" uc) (AC : Ary Z h0 a .char (cs.map Value.int)) (AT : Ary Z h0 tx .char vs) (hfa : f ≠ a) (hft : f ≠ tx) (hat : a ≠ tx) (hv : vs.length = 64) (hln : ln ≤ cs.length) (hcs : cs.length ≤ 64) (hm : 0 ≤ mx.toInt ∧ mx.toInt ≤ 64) (fc : ∀ v ∈ cs.map Value.int, fits .char v = true) (fv : ∀ v ∈ vs, fits .char v = true) :
    Con l Z n0 (⟨"com/example/mappa/mappa/core/FieldText", "append", "([CIII)I"⟩ : MethodName) prog_32_method_8_code 9 (some .int) ({ frames := 1, cells := 0, slots := 0, locals := 30 } : Room) #[(.ref f), (.ref a), (.int (0 : Int32)), (.int (Int32.ofNat ln)), (.int mx)] h0 (Val fun w h' => .int (Int32.ofNat (own_held ln (own_lead (cs.take ln)) mx)) = w ∧ Keep h0 h' [f, tx] ∧ Fld Z h' f "com/example/mappa/mappa/core/FieldText" "text" "[C" (.ref tx) ∧ Fld Z h' f "com/example/mappa/mappa/core/FieldText" "textLength" "I" (.int (Int32.ofNat (own_held ln (own_lead (cs.take ln)) mx))) ∧ (∃ k, Fld Z h' f "com/example/mappa/mappa/core/FieldText" "cut" "Z" k) ∧ Fld Z h' f "com/example/mappa/mappa/core/FieldText" "line" "I" ul ∧ Fld Z h' f "com/example/mappa/mappa/core/FieldText" "column" "I" uc ∧ Fld Z h' f "com/example/mappa/mappa/core/FieldText" "max" "I" (.int mx) ∧ Ary Z h' tx .char (((cs.map Value.int).drop (own_lead (cs.take ln))).take (own_held ln (own_lead (cs.take ln)) mx) ++ vs.drop (own_held ln (own_lead (cs.take ln)) mx))) := by
  refine Con.of_run pn_17 (fun m => ef_con_ap4 m f a tx cs vs ln mx ul uc ) ?_
  refine Run.iloadN d17_0 rfl (pc' := 1) rfl ?_
  refine Run.istore (l' := #[.val (.ref f), .val (.ref a), .val (.int (0 : Int32)), .val (.int (Int32.ofNat ln)), .val (.int mx), .val (.int (0 : Int32)), .unset, .unset, .unset]) d17_1 rfl (pc' := 3) rfl ?_
  refine Run.iloadN d17_3 rfl (pc' := 4) rfl ?_
  refine Run.iloadN d17_4 rfl (pc' := 5) rfl ?_
  refine Run.iadd d17_5 (pc' := 6) rfl ?_
  rw [show (0 : Int32) + Int32.ofNat ln = Int32.ofNat ln from Int32.zero_add _]
  refine Run.istore (l' := #[.val (.ref f), .val (.ref a), .val (.int (0 : Int32)), .val (.int (Int32.ofNat ln)), .val (.int mx), .val (.int (0 : Int32)), .val (.int (Int32.ofNat ln)), .unset, .unset]) d17_6 rfl (pc' := 8) rfl ?_
  have hfr : (own_lead (cs.take ln)) ≤ ln := by have := own_lead_le (cs.take ln); rw [List.length_take] at this; omega
  have hhb := own_heldB (ln := ln) (fr := (own_lead (cs.take ln))) hm
  have rest : Run l Z n0 "com/example/mappa/mappa/core/FieldText" prog_32_method_8_code 9 (some .int) "append" ({ frames := 1, cells := 0, slots := 0, locals := 30 } : Room) (Val fun w h' => .int (Int32.ofNat (own_held ln (own_lead (cs.take ln)) mx)) = w ∧ Keep h0 h' [f, tx] ∧ Fld Z h' f "com/example/mappa/mappa/core/FieldText" "text" "[C" (.ref tx) ∧ Fld Z h' f "com/example/mappa/mappa/core/FieldText" "textLength" "I" (.int (Int32.ofNat (own_held ln (own_lead (cs.take ln)) mx))) ∧ (∃ k, Fld Z h' f "com/example/mappa/mappa/core/FieldText" "cut" "Z" k) ∧ Fld Z h' f "com/example/mappa/mappa/core/FieldText" "line" "I" ul ∧ Fld Z h' f "com/example/mappa/mappa/core/FieldText" "column" "I" uc ∧ Fld Z h' f "com/example/mappa/mappa/core/FieldText" "max" "I" (.int mx) ∧ Ary Z h' tx .char (((cs.map Value.int).drop (own_lead (cs.take ln))).take (own_held ln (own_lead (cs.take ln)) mx) ++ vs.drop (own_held ln (own_lead (cs.take ln)) mx))) 38 #[.val (.ref f), .val (.ref a), .val (.int (0 : Int32)), .val (.int (Int32.ofNat ln)), .val (.int mx), .val (.int (Int32.ofNat (own_lead (cs.take ln)))), .val (.int (Int32.ofNat ln)), .unset, .unset] [] h0 0 0 := by
    refine Run.iload d17_38 rfl (pc' := 40) rfl ?_
    refine Run.iload d17_40 rfl (pc' := 42) rfl ?_
    refine Run.isub d17_42 (pc' := 43) rfl ?_
    refine Run.aloadN d17_43 rfl rfl (pc' := 44) rfl ?_
    refine Run.getF d17_44 (host := "") (Or.inl (hw _ (List.mem_of_getElem? (i := 25) rfl))) Via.refl Fm (pc' := 47) rfl ?_
    refine Run.aloadN d17_47 rfl rfl (pc' := 48) rfl ?_
    refine Run.getF d17_48 (host := "") (Or.inl (hw _ (List.mem_of_getElem? (i := 27) rfl))) Via.refl Ftl (pc' := 51) rfl ?_
    refine Run.isub d17_51 (pc' := 52) rfl ?_
    refine Run.iload d17_52 rfl (pc' := 54) rfl ?_
    refine Run.callS (k' := 0) (n' := 0) (as := [(.int (mx - (0 : Int32))), (.int mx)]) (rest := [(.int ((Int32.ofNat ln) - (Int32.ofNat (own_lead (cs.take ln)))))]) (con_own_min l Z a0 hw n0 h0 Z0 (mx - (0 : Int32)) mx ) d17_54 (hw _ (List.mem_of_getElem? (i := 105) rfl)) (hw _ (List.mem_of_getElem? (i := 106) rfl)) (hw _ (List.mem_of_getElem? (i := 107) rfl)) (hw _ (List.mem_of_getElem? (i := 108) rfl)) (by decide) pd__II_I rfl rfl rfl (by decide) (by show (1 : Nat) + (2 + 11) + 0 ≤ _; decide) (by decide) (by decide) (by decide) (by decide) (pc' := 57) rfl ?_
    rintro _ _ ⟨_, rfl, rfl, rfl⟩
    show Run l Z n0 "com/example/mappa/mappa/core/FieldText" prog_32_method_8_code 9 (some .int) "append" ({ frames := 1, cells := 0, slots := 0, locals := 30 } : Room) _ 57 #[.val (.ref f), .val (.ref a), .val (.int (0 : Int32)), .val (.int (Int32.ofNat ln)), .val (.int mx), .val (.int (Int32.ofNat (own_lead (cs.take ln)))), .val (.int (Int32.ofNat ln)), .unset, .unset] [(.int (own_min (mx - (0 : Int32)) mx)), (.int ((Int32.ofNat ln) - (Int32.ofNat (own_lead (cs.take ln)))))] h0 0 0
    refine Run.callS (k' := 0) (n' := 0) (as := [(.int ((Int32.ofNat ln) - (Int32.ofNat (own_lead (cs.take ln))))), (.int (own_min (mx - (0 : Int32)) mx))]) (rest := []) (con_own_min l Z a0 hw n0 h0 Z0 ((Int32.ofNat ln) - (Int32.ofNat (own_lead (cs.take ln)))) (own_min (mx - (0 : Int32)) mx) ) d17_57 (hw _ (List.mem_of_getElem? (i := 105) rfl)) (hw _ (List.mem_of_getElem? (i := 106) rfl)) (hw _ (List.mem_of_getElem? (i := 107) rfl)) (hw _ (List.mem_of_getElem? (i := 108) rfl)) (by decide) pd__II_I rfl rfl rfl (by decide) (by show (0 : Nat) + (2 + 11) + 0 ≤ _; decide) (by decide) (by decide) (by decide) (by decide) (pc' := 60) rfl ?_
    rintro _ _ ⟨_, rfl, rfl, rfl⟩
    show Run l Z n0 "com/example/mappa/mappa/core/FieldText" prog_32_method_8_code 9 (some .int) "append" ({ frames := 1, cells := 0, slots := 0, locals := 30 } : Room) _ 60 #[.val (.ref f), .val (.ref a), .val (.int (0 : Int32)), .val (.int (Int32.ofNat ln)), .val (.int mx), .val (.int (Int32.ofNat (own_lead (cs.take ln)))), .val (.int (Int32.ofNat ln)), .unset, .unset] [(.int (own_min ((Int32.ofNat ln) - (Int32.ofNat (own_lead (cs.take ln)))) (own_min (mx - (0 : Int32)) mx)))] h0 0 0
    rw [own_heldI hfr (by omega) hm]
    refine Run.istore (l' := #[.val (.ref f), .val (.ref a), .val (.int (0 : Int32)), .val (.int (Int32.ofNat ln)), .val (.int mx), .val (.int (Int32.ofNat (own_lead (cs.take ln)))), .val (.int (Int32.ofNat ln)), .val (.int (Int32.ofNat (own_held ln (own_lead (cs.take ln)) mx))), .unset]) d17_60 rfl (pc' := 62) rfl ?_
    refine Run.aloadN d17_62 rfl rfl (pc' := 63) rfl ?_
    refine Run.getF d17_63 (host := "") (Or.inl (hw _ (List.mem_of_getElem? (i := 27) rfl))) Via.refl Ftl (pc' := 66) rfl ?_
    refine Run.iload d17_66 rfl (pc' := 68) rfl ?_
    refine Run.iadd d17_68 (pc' := 69) rfl ?_
    refine Run.aloadN d17_69 rfl rfl (pc' := 70) rfl ?_
    refine Run.getF d17_70 (host := "") (Or.inl (hw _ (List.mem_of_getElem? (i := 14) rfl))) Via.refl Ftx (pc' := 73) rfl ?_
    refine Run.alen (z := (64 : Int32)) d17_73 AT (by rw [hv]; rfl) (pc' := 74) rfl ?_
    rw [show (0 : Int32) + Int32.ofNat (own_held ln (own_lead (cs.take ln)) mx) = Int32.ofNat (own_held ln (own_lead (cs.take ln)) mx) from Int32.zero_add _]
    refine Run.icmp_le d17_74 (by decide) (pc' := 118) (by decide) (pa := 77) rfl (fun hc74 => ?_) (fun hc74 => ?_)
    · -- pc 74 taken: ¬ (64 : Int32) < (Int32.ofNat (own_held ln (own_lead (cs.take ln)) mx))
      refine Run.aloadN d17_118 rfl rfl (pc' := 119) rfl ?_
      refine Run.iload d17_119 rfl (pc' := 121) rfl ?_
      refine Run.aloadN d17_121 rfl rfl (pc' := 122) rfl ?_
      refine Run.getF d17_122 (host := "") (Or.inl (hw _ (List.mem_of_getElem? (i := 14) rfl))) Via.refl Ftx (pc' := 125) rfl ?_
      refine Run.aloadN d17_125 rfl rfl (pc' := 126) rfl ?_
      refine Run.getF d17_126 (host := "") (Or.inl (hw _ (List.mem_of_getElem? (i := 27) rfl))) Via.refl Ftl (pc' := 129) rfl ?_
      refine Run.iload d17_129 rfl (pc' := 131) rfl ?_
      refine Run.acopyG (i := (own_lead (cs.take ln))) (j := 0) (m := (own_held ln (own_lead (cs.take ln)) mx)) (z1 := Int32.ofNat cs.length) (z' := (64 : Int32)) d17_131 (hw _ (List.mem_of_getElem? (i := 109) rfl)) (hw _ (List.mem_of_getElem? (i := 112) rfl)) (hw _ (List.mem_of_getElem? (i := 110) rfl)) (hw _ (List.mem_of_getElem? (i := 111) rfl)) AC AT rfl (by rw [List.length_map]; exact own_ofn (by omega)) (by rw [hv]; rfl) (own_ofn (by omega)) (own_ofn (by omega)) rfl (by rw [List.length_map]; omega) (by omega) fc fv gt rfl (by decide) (by decide) (pc' := 134) rfl ?_
      intro h11 K11 P11
      have Q11 : Ary Z h11 tx .char (((cs.map Value.int).drop (own_lead (cs.take ln))).take (own_held ln (own_lead (cs.take ln)) mx) ++ vs.drop (own_held ln (own_lead (cs.take ln)) mx)) := by simpa using P11
      have E_f_11 := E1.keep K11
      have F_f_text_11 := Ftx.keep K11 (ninS hft nin0)
      have F_f_textLength_11 := Ftl.keep K11 (ninS hft nin0)
      have F_f_max_11 := Fm.keep K11 (ninS hft nin0)
      have F_f_cut_11 := Fk.keep K11 (ninS hft nin0)
      have F_f_line_11 := Fln.keep K11 (ninS hft nin0)
      have F_f_column_11 := Fcl.keep K11 (ninS hft nin0)
      have A_a_11 := AC.keep K11 (ninS hat nin0)
      have sz11 : n0 ≤ h11.size := Nat.le_trans Z0 K11.1
      have kp11 := Keep.trans (Keep.refl h0 [f, tx]) K11 (allS (Or.inl (List.mem_of_getElem? (i := 1) rfl)) all0)
      refine Run.aloadN d17_134 rfl rfl (pc' := 135) rfl ?_
      refine Run.dup d17_135 rfl (pc' := 136) rfl ?_
      refine Run.getF d17_136 (host := "") (Or.inl (hw _ (List.mem_of_getElem? (i := 27) rfl))) Via.refl F_f_textLength_11 (pc' := 139) rfl ?_
      refine Run.iload d17_139 rfl (pc' := 141) rfl ?_
      refine Run.iadd d17_141 (pc' := 142) rfl ?_
      rw [show (0 : Int32) + Int32.ofNat (own_held ln (own_lead (cs.take ln)) mx) = Int32.ofNat (own_held ln (own_lead (cs.take ln)) mx) from Int32.zero_add _]
      refine Run.putF d17_142 (host := "") (Or.inl (hw _ (List.mem_of_getElem? (i := 27) rfl))) Via.refl F_f_textLength_11 E_f_11 (Or.inl (hw _ (List.mem_of_getElem? (i := 28) rfl))) (hw _ (List.mem_of_getElem? (i := 6) rfl)) (ty := .int) (by decide) rfl rfl gf (pc' := 145) rfl ?_
      intro h12 W12
      have Fw12 := F_f_textLength_11.same W12
      have E_f_12 := E_f_11.wr W12
      have F_f_text_12 := F_f_text_11.other W12 (Or.inr (slot_ne (Or.inl (hw _ (List.mem_of_getElem? (i := 15) rfl))) (Or.inl (hw _ (List.mem_of_getElem? (i := 28) rfl))) (by decide) (t := (.array .char)) (t' := .int) (by decide) (by decide)))
      have F_f_max_12 := F_f_max_11.other W12 (Or.inr (slot_ne (Or.inl (hw _ (List.mem_of_getElem? (i := 26) rfl))) (Or.inl (hw _ (List.mem_of_getElem? (i := 28) rfl))) (by decide) (t := .int) (t' := .int) (by decide) (by decide)))
      have F_f_cut_12 := F_f_cut_11.other W12 (Or.inr (slot_ne (Or.inl (hw _ (List.mem_of_getElem? (i := 30) rfl))) (Or.inl (hw _ (List.mem_of_getElem? (i := 28) rfl))) (by decide) (t := .boolean) (t' := .int) (by decide) (by decide)))
      have F_f_line_12 := F_f_line_11.other W12 (Or.inr (slot_ne (Or.inl (hw _ (List.mem_of_getElem? (i := 22) rfl))) (Or.inl (hw _ (List.mem_of_getElem? (i := 28) rfl))) (by decide) (t := .int) (t' := .int) (by decide) (by decide)))
      have F_f_column_12 := F_f_column_11.other W12 (Or.inr (slot_ne (Or.inl (hw _ (List.mem_of_getElem? (i := 24) rfl))) (Or.inl (hw _ (List.mem_of_getElem? (i := 28) rfl))) (by decide) (t := .int) (t' := .int) (by decide) (by decide)))
      have A_a_12 := A_a_11.other W12 (Ne.symm hfa)
      have A_tx_12 := Q11.other W12 (Ne.symm hft)
      have sz12 : n0 ≤ h12.size := by rw [W12.size]; exact sz11
      have kp12 := Keep.wr kp11 W12 (Or.inl (List.mem_of_getElem? (i := 0) rfl))
      refine Run.iload d17_145 rfl (pc' := 147) rfl ?_
      refine Run.iload d17_147 rfl (pc' := 149) rfl ?_
      refine Run.iadd d17_149 (pc' := 150) rfl ?_
      rw [← Int32.ofNat_add]
      refine Run.istore (l' := #[.val (.ref f), .val (.ref a), .val (.int (0 : Int32)), .val (.int (Int32.ofNat ln)), .val (.int mx), .val (.int (Int32.ofNat (own_lead (cs.take ln)))), .val (.int (Int32.ofNat ln)), .val (.int (Int32.ofNat (own_held ln (own_lead (cs.take ln)) mx))), .val (.int (Int32.ofNat ((own_lead (cs.take ln)) + (own_held ln (own_lead (cs.take ln)) mx))))]) d17_150 rfl (pc' := 152) rfl ?_
      have loop : ∀ (t i : Nat) (hh : Heap) (cu : Int32), t + i = ln → n0 ≤ hh.size → Keep h0 hh [f, tx] → Exa Z hh f "com/example/mappa/mappa/core/FieldText" → Fld Z hh f "com/example/mappa/mappa/core/FieldText" "text" "[C" (.ref tx) → Fld Z hh f "com/example/mappa/mappa/core/FieldText" "textLength" "I" (.int (Int32.ofNat (own_held ln (own_lead (cs.take ln)) mx))) → Fld Z hh f "com/example/mappa/mappa/core/FieldText" "cut" "Z" (.int cu) → Fld Z hh f "com/example/mappa/mappa/core/FieldText" "line" "I" ul → Fld Z hh f "com/example/mappa/mappa/core/FieldText" "column" "I" uc → Fld Z hh f "com/example/mappa/mappa/core/FieldText" "max" "I" (.int mx) → Ary Z hh a .char (cs.map Value.int) → Ary Z hh tx .char (((cs.map Value.int).drop (own_lead (cs.take ln))).take (own_held ln (own_lead (cs.take ln)) mx) ++ vs.drop (own_held ln (own_lead (cs.take ln)) mx)) → Run l Z n0 "com/example/mappa/mappa/core/FieldText" prog_32_method_8_code 9 (some .int) "append" ({ frames := 1, cells := 0, slots := 0, locals := 30 } : Room) (Val fun w h' => .int (Int32.ofNat (own_held ln (own_lead (cs.take ln)) mx)) = w ∧ Keep h0 h' [f, tx] ∧ Fld Z h' f "com/example/mappa/mappa/core/FieldText" "text" "[C" (.ref tx) ∧ Fld Z h' f "com/example/mappa/mappa/core/FieldText" "textLength" "I" (.int (Int32.ofNat (own_held ln (own_lead (cs.take ln)) mx))) ∧ (∃ k, Fld Z h' f "com/example/mappa/mappa/core/FieldText" "cut" "Z" k) ∧ Fld Z h' f "com/example/mappa/mappa/core/FieldText" "line" "I" ul ∧ Fld Z h' f "com/example/mappa/mappa/core/FieldText" "column" "I" uc ∧ Fld Z h' f "com/example/mappa/mappa/core/FieldText" "max" "I" (.int mx) ∧ Ary Z h' tx .char (((cs.map Value.int).drop (own_lead (cs.take ln))).take (own_held ln (own_lead (cs.take ln)) mx) ++ vs.drop (own_held ln (own_lead (cs.take ln)) mx))) 152 #[.val (.ref f), .val (.ref a), .val (.int (0 : Int32)), .val (.int (Int32.ofNat ln)), .val (.int mx), .val (.int (Int32.ofNat (own_lead (cs.take ln)))), .val (.int (Int32.ofNat ln)), .val (.int (Int32.ofNat (own_held ln (own_lead (cs.take ln)) mx))), .val (.int (Int32.ofNat i))] [] hh 0 0 := by
        intro t
        induction t with
        | zero =>
          intro i hh cu hti szh kph Eh Fth Flh Fch Flnh Fclh Fmh Aah Ath
          refine Run.iload d17_152 rfl (pc' := 154) rfl ?_
          refine Run.iload d17_154 rfl (pc' := 156) rfl ?_
          refine Run.icmp_ge d17_156 (by decide) (pc' := 191) (by decide) (pa := 159) rfl (fun hc156 => ?_) (fun hc156 => ?_)
          · -- pc 156 taken: ¬ (Int32.ofNat i) < (Int32.ofNat ln)
            refine Run.iload d17_191 rfl (pc' := 193) rfl ?_
            exact Run.ireturn d17_193 rfl (by decide) (by decide) ⟨_, rfl, rfl, kph, Fth, Flh, ⟨_, Fch⟩, Flnh, Fclh, Fmh, Ath⟩
          · -- pc 156 not taken: (Int32.ofNat i) < (Int32.ofNat ln)
            exact absurd ((own_lt (by omega) (by omega)).mp hc156) (by omega)
        | succ t ih =>
          intro i hh cu hti szh kph Eh Fth Flh Fch Flnh Fclh Fmh Aah Ath
          refine Run.iload d17_152 rfl (pc' := 154) rfl ?_
          refine Run.iload d17_154 rfl (pc' := 156) rfl ?_
          refine Run.icmp_ge d17_156 (by decide) (pc' := 191) (by decide) (pa := 159) rfl (fun hc156 => ?_) (fun hc156 => ?_)
          · -- pc 156 taken: ¬ (Int32.ofNat i) < (Int32.ofNat ln)
            exact absurd ((own_lt (by omega) (by omega)).mpr (by omega)) hc156
          · -- pc 156 not taken: (Int32.ofNat i) < (Int32.ofNat ln)
            refine Run.aloadN d17_159 rfl rfl (pc' := 160) rfl ?_
            refine Run.getF d17_160 (host := "") (Or.inl (hw _ (List.mem_of_getElem? (i := 29) rfl))) Via.refl Fch (pc' := 163) rfl ?_
            refine Run.if_ne d17_163 (by decide) (pc' := 191) (by decide) (pa := 166) rfl (fun hc163 => ?_) (fun hc163 => ?_)
            · -- pc 163 taken: ¬ cu = (0 : Int32)
              refine Run.iload d17_191 rfl (pc' := 193) rfl ?_
              exact Run.ireturn d17_193 rfl (by decide) (by decide) ⟨_, rfl, rfl, kph, Fth, Flh, ⟨_, Fch⟩, Flnh, Fclh, Fmh, Ath⟩
            · -- pc 163 not taken: cu = (0 : Int32)
              refine Run.aloadN d17_166 rfl rfl (pc' := 167) rfl ?_
              refine Run.aloadN d17_167 rfl rfl (pc' := 168) rfl ?_
              refine Run.iload d17_168 rfl (pc' := 170) rfl ?_
              refine Run.caload (i := i) (v := (.int (cs.getD i 0))) d17_170 Aah (own_ofn (by omega)) (own_gm (by omega)) (pc' := 171) rfl ?_
              refine Run.callS (k' := 0) (n' := 0) (as := [(.int (cs.getD i 0))]) (rest := [(.ref f)]) (con_own_isp l Z a0 hw n0 hh szh (cs.getD i 0) ) d17_171 (hw _ (List.mem_of_getElem? (i := 102) rfl)) (hw _ (List.mem_of_getElem? (i := 103) rfl)) (hw _ (List.mem_of_getElem? (i := 7) rfl)) (hw _ (List.mem_of_getElem? (i := 104) rfl)) (by decide) pd__C_Z rfl rfl rfl (by decide) (by show (1 : Nat) + (1 + 11) + 0 ≤ _; decide) (by decide) (by decide) (by decide) (by decide) (pc' := 174) rfl ?_
              rintro _ _ ⟨_, rfl, rfl, rfl⟩
              show Run l Z n0 "com/example/mappa/mappa/core/FieldText" prog_32_method_8_code 9 (some .int) "append" ({ frames := 1, cells := 0, slots := 0, locals := 30 } : Room) _ 174 #[.val (.ref f), .val (.ref a), .val (.int (0 : Int32)), .val (.int (Int32.ofNat ln)), .val (.int mx), .val (.int (Int32.ofNat (own_lead (cs.take ln)))), .val (.int (Int32.ofNat ln)), .val (.int (Int32.ofNat (own_held ln (own_lead (cs.take ln)) mx))), .val (.int (Int32.ofNat i))] [(.int (own_isp (cs.getD i 0))), (.ref f)] hh 0 0
              refine Run.if_ne d17_174 (by decide) (pc' := 181) (by decide) (pa := 177) rfl (fun hc174 => ?_) (fun hc174 => ?_)
              · -- pc 174 taken: ¬ (own_isp (cs.getD i 0)) = (0 : Int32)
                refine Run.iconst (0 : Int32) d17_181 (by decide) (pc' := 182) rfl ?_
                refine Run.putFN d17_182 (hw _ (List.mem_of_getElem? (i := 29) rfl)) Via.refl Fch Eh (Or.inl (hw _ (List.mem_of_getElem? (i := 30) rfl))) (hw _ (List.mem_of_getElem? (i := 6) rfl)) (ty := .boolean) (v' := (.int (0 : Int32))) (by decide) rfl rfl gf (pc' := 185) rfl ?_
                intro h13 W13
                have Fw13 := Fch.same W13
                have E_f_13 := Eh.wr W13
                have F_f_text_13 := Fth.other W13 (Or.inr (slot_ne (Or.inl (hw _ (List.mem_of_getElem? (i := 15) rfl))) (Or.inl (hw _ (List.mem_of_getElem? (i := 30) rfl))) (by decide) (t := (.array .char)) (t' := .boolean) (by decide) (by decide)))
                have F_f_textLength_13 := Flh.other W13 (Or.inr (slot_ne (Or.inl (hw _ (List.mem_of_getElem? (i := 28) rfl))) (Or.inl (hw _ (List.mem_of_getElem? (i := 30) rfl))) (by decide) (t := .int) (t' := .boolean) (by decide) (by decide)))
                have F_f_line_13 := Flnh.other W13 (Or.inr (slot_ne (Or.inl (hw _ (List.mem_of_getElem? (i := 22) rfl))) (Or.inl (hw _ (List.mem_of_getElem? (i := 30) rfl))) (by decide) (t := .int) (t' := .boolean) (by decide) (by decide)))
                have F_f_column_13 := Fclh.other W13 (Or.inr (slot_ne (Or.inl (hw _ (List.mem_of_getElem? (i := 24) rfl))) (Or.inl (hw _ (List.mem_of_getElem? (i := 30) rfl))) (by decide) (t := .int) (t' := .boolean) (by decide) (by decide)))
                have F_f_max_13 := Fmh.other W13 (Or.inr (slot_ne (Or.inl (hw _ (List.mem_of_getElem? (i := 26) rfl))) (Or.inl (hw _ (List.mem_of_getElem? (i := 30) rfl))) (by decide) (t := .int) (t' := .boolean) (by decide) (by decide)))
                have A_a_13 := Aah.other W13 (Ne.symm hfa)
                have A_tx_13 := Ath.other W13 (Ne.symm hft)
                have sz13 : n0 ≤ h13.size := by rw [W13.size]; exact szh
                have kp13 := Keep.wr kph W13 (Or.inl (List.mem_of_getElem? (i := 0) rfl))
                refine Run.iinc (1 : Int32) #[.val (.ref f), .val (.ref a), .val (.int (0 : Int32)), .val (.int (Int32.ofNat ln)), .val (.int mx), .val (.int (Int32.ofNat (own_lead (cs.take ln)))), .val (.int (Int32.ofNat ln)), .val (.int (Int32.ofNat (own_held ln (own_lead (cs.take ln)) mx))), .val (.int ((Int32.ofNat i) + (1 : Int32)))] d17_185 (by decide) rfl rfl (pc' := 188) rfl ?_
                refine Run.goto d17_188 (by decide) (pc' := 152) (by decide) ?_
                rw [own_inc]
                exact ih (i + 1) h13 (0 : Int32) (by omega) sz13 kp13 E_f_13 F_f_text_13 F_f_textLength_13 Fw13 F_f_line_13 F_f_column_13 F_f_max_13 A_a_13 A_tx_13
              · -- pc 174 not taken: (own_isp (cs.getD i 0)) = (0 : Int32)
                refine Run.iconst (1 : Int32) d17_177 (by decide) (pc' := 178) rfl ?_
                refine Run.goto d17_178 (by decide) (pc' := 182) (by decide) ?_
                refine Run.putFN d17_182 (hw _ (List.mem_of_getElem? (i := 29) rfl)) Via.refl Fch Eh (Or.inl (hw _ (List.mem_of_getElem? (i := 30) rfl))) (hw _ (List.mem_of_getElem? (i := 6) rfl)) (ty := .boolean) (v' := (.int (1 : Int32))) (by decide) rfl rfl gf (pc' := 185) rfl ?_
                intro h14 W14
                have Fw14 := Fch.same W14
                have E_f_14 := Eh.wr W14
                have F_f_text_14 := Fth.other W14 (Or.inr (slot_ne (Or.inl (hw _ (List.mem_of_getElem? (i := 15) rfl))) (Or.inl (hw _ (List.mem_of_getElem? (i := 30) rfl))) (by decide) (t := (.array .char)) (t' := .boolean) (by decide) (by decide)))
                have F_f_textLength_14 := Flh.other W14 (Or.inr (slot_ne (Or.inl (hw _ (List.mem_of_getElem? (i := 28) rfl))) (Or.inl (hw _ (List.mem_of_getElem? (i := 30) rfl))) (by decide) (t := .int) (t' := .boolean) (by decide) (by decide)))
                have F_f_line_14 := Flnh.other W14 (Or.inr (slot_ne (Or.inl (hw _ (List.mem_of_getElem? (i := 22) rfl))) (Or.inl (hw _ (List.mem_of_getElem? (i := 30) rfl))) (by decide) (t := .int) (t' := .boolean) (by decide) (by decide)))
                have F_f_column_14 := Fclh.other W14 (Or.inr (slot_ne (Or.inl (hw _ (List.mem_of_getElem? (i := 24) rfl))) (Or.inl (hw _ (List.mem_of_getElem? (i := 30) rfl))) (by decide) (t := .int) (t' := .boolean) (by decide) (by decide)))
                have F_f_max_14 := Fmh.other W14 (Or.inr (slot_ne (Or.inl (hw _ (List.mem_of_getElem? (i := 26) rfl))) (Or.inl (hw _ (List.mem_of_getElem? (i := 30) rfl))) (by decide) (t := .int) (t' := .boolean) (by decide) (by decide)))
                have A_a_14 := Aah.other W14 (Ne.symm hfa)
                have A_tx_14 := Ath.other W14 (Ne.symm hft)
                have sz14 : n0 ≤ h14.size := by rw [W14.size]; exact szh
                have kp14 := Keep.wr kph W14 (Or.inl (List.mem_of_getElem? (i := 0) rfl))
                refine Run.iinc (1 : Int32) #[.val (.ref f), .val (.ref a), .val (.int (0 : Int32)), .val (.int (Int32.ofNat ln)), .val (.int mx), .val (.int (Int32.ofNat (own_lead (cs.take ln)))), .val (.int (Int32.ofNat ln)), .val (.int (Int32.ofNat (own_held ln (own_lead (cs.take ln)) mx))), .val (.int ((Int32.ofNat i) + (1 : Int32)))] d17_185 (by decide) rfl rfl (pc' := 188) rfl ?_
                refine Run.goto d17_188 (by decide) (pc' := 152) (by decide) ?_
                rw [own_inc]
                exact ih (i + 1) h14 (1 : Int32) (by omega) sz14 kp14 E_f_14 F_f_text_14 F_f_textLength_14 Fw14 F_f_line_14 F_f_column_14 F_f_max_14 A_a_14 A_tx_14
      exact loop (ln - ((own_lead (cs.take ln)) + (own_held ln (own_lead (cs.take ln)) mx))) _ h12 _ (by omega) sz12 kp12 E_f_12 F_f_text_12 Fw12 F_f_cut_12 F_f_line_12 F_f_column_12 F_f_max_12 A_a_12 A_tx_12
    · -- pc 74 not taken: (64 : Int32) < (Int32.ofNat (own_held ln (own_lead (cs.take ln)) mx))
      exact absurd ((own_lt (i := 64) (by omega) (by omega)).mp hc74) (by omega)
  have loop : ∀ (t i : Nat), t + i = ln → i + own_lead ((cs.take ln).drop i) = (own_lead (cs.take ln)) → Run l Z n0 "com/example/mappa/mappa/core/FieldText" prog_32_method_8_code 9 (some .int) "append" ({ frames := 1, cells := 0, slots := 0, locals := 30 } : Room) (Val fun w h' => .int (Int32.ofNat (own_held ln (own_lead (cs.take ln)) mx)) = w ∧ Keep h0 h' [f, tx] ∧ Fld Z h' f "com/example/mappa/mappa/core/FieldText" "text" "[C" (.ref tx) ∧ Fld Z h' f "com/example/mappa/mappa/core/FieldText" "textLength" "I" (.int (Int32.ofNat (own_held ln (own_lead (cs.take ln)) mx))) ∧ (∃ k, Fld Z h' f "com/example/mappa/mappa/core/FieldText" "cut" "Z" k) ∧ Fld Z h' f "com/example/mappa/mappa/core/FieldText" "line" "I" ul ∧ Fld Z h' f "com/example/mappa/mappa/core/FieldText" "column" "I" uc ∧ Fld Z h' f "com/example/mappa/mappa/core/FieldText" "max" "I" (.int mx) ∧ Ary Z h' tx .char (((cs.map Value.int).drop (own_lead (cs.take ln))).take (own_held ln (own_lead (cs.take ln)) mx) ++ vs.drop (own_held ln (own_lead (cs.take ln)) mx))) 8 #[.val (.ref f), .val (.ref a), .val (.int (0 : Int32)), .val (.int (Int32.ofNat ln)), .val (.int mx), .val (.int (Int32.ofNat i)), .val (.int (Int32.ofNat ln)), .unset, .unset] [] h0 0 0 := by
    intro t
    induction t with
    | zero =>
      intro i hti hiv
      refine Run.aloadN d17_8 rfl rfl (pc' := 9) rfl ?_
      refine Run.getF d17_9 (host := "") (Or.inl (hw _ (List.mem_of_getElem? (i := 27) rfl))) Via.refl Ftl (pc' := 12) rfl ?_
      refine Run.if_ne d17_12 (by decide) (pc' := 38) (by decide) (pa := 15) rfl (fun hc12 => ?_) (fun hc12 => ?_)
      · -- pc 12 taken: ¬ (0 : Int32) = (0 : Int32)
        exact absurd hc12 (by decide)
      · -- pc 12 not taken: (0 : Int32) = (0 : Int32)
        refine Run.iload d17_15 rfl (pc' := 17) rfl ?_
        refine Run.iload d17_17 rfl (pc' := 19) rfl ?_
        refine Run.icmp_ge d17_19 (by decide) (pc' := 38) (by decide) (pa := 22) rfl (fun hc19 => ?_) (fun hc19 => ?_)
        · -- pc 19 taken: ¬ (Int32.ofNat i) < (Int32.ofNat ln)
          have hi : i = (own_lead (cs.take ln)) := by rw [← hiv, own_lead_end (by rw [List.length_take]; omega)]; rfl
          rw [hi]; exact rest
        · -- pc 19 not taken: (Int32.ofNat i) < (Int32.ofNat ln)
          exact absurd ((own_lt (by omega) (by omega)).mp hc19) (by omega)
    | succ t ih =>
      intro i hti hiv
      refine Run.aloadN d17_8 rfl rfl (pc' := 9) rfl ?_
      refine Run.getF d17_9 (host := "") (Or.inl (hw _ (List.mem_of_getElem? (i := 27) rfl))) Via.refl Ftl (pc' := 12) rfl ?_
      refine Run.if_ne d17_12 (by decide) (pc' := 38) (by decide) (pa := 15) rfl (fun hc12 => ?_) (fun hc12 => ?_)
      · -- pc 12 taken: ¬ (0 : Int32) = (0 : Int32)
        exact absurd hc12 (by decide)
      · -- pc 12 not taken: (0 : Int32) = (0 : Int32)
        refine Run.iload d17_15 rfl (pc' := 17) rfl ?_
        refine Run.iload d17_17 rfl (pc' := 19) rfl ?_
        refine Run.icmp_ge d17_19 (by decide) (pc' := 38) (by decide) (pa := 22) rfl (fun hc19 => ?_) (fun hc19 => ?_)
        · -- pc 19 taken: ¬ (Int32.ofNat i) < (Int32.ofNat ln)
          exact absurd ((own_lt (by omega) (by omega)).mpr (by omega)) hc19
        · -- pc 19 not taken: (Int32.ofNat i) < (Int32.ofNat ln)
          refine Run.aloadN d17_22 rfl rfl (pc' := 23) rfl ?_
          refine Run.iload d17_23 rfl (pc' := 25) rfl ?_
          refine Run.caload (i := i) (v := (.int (cs.getD i 0))) d17_25 AC (own_ofn (by omega)) (own_gm (by omega)) (pc' := 26) rfl ?_
          refine Run.callS (k' := 0) (n' := 0) (as := [(.int (cs.getD i 0))]) (rest := []) (con_own_isp l Z a0 hw n0 h0 Z0 (cs.getD i 0) ) d17_26 (hw _ (List.mem_of_getElem? (i := 102) rfl)) (hw _ (List.mem_of_getElem? (i := 103) rfl)) (hw _ (List.mem_of_getElem? (i := 7) rfl)) (hw _ (List.mem_of_getElem? (i := 104) rfl)) (by decide) pd__C_Z rfl rfl rfl (by decide) (by show (0 : Nat) + (1 + 11) + 0 ≤ _; decide) (by decide) (by decide) (by decide) (by decide) (pc' := 29) rfl ?_
          rintro _ _ ⟨_, rfl, rfl, rfl⟩
          show Run l Z n0 "com/example/mappa/mappa/core/FieldText" prog_32_method_8_code 9 (some .int) "append" ({ frames := 1, cells := 0, slots := 0, locals := 30 } : Room) _ 29 #[.val (.ref f), .val (.ref a), .val (.int (0 : Int32)), .val (.int (Int32.ofNat ln)), .val (.int mx), .val (.int (Int32.ofNat i)), .val (.int (Int32.ofNat ln)), .unset, .unset] [(.int (own_isp (cs.getD i 0)))] h0 0 0
          refine Run.if_eq d17_29 (by decide) (pc' := 38) (by decide) (pa := 32) rfl (fun hc29 => ?_) (fun hc29 => ?_)
          · -- pc 29 taken: (own_isp (cs.getD i 0)) = (0 : Int32)
            have hi : i = (own_lead (cs.take ln)) := by rw [← hiv, own_lead_at (by rw [List.length_take]; omega), own_gt (by omega), if_pos hc29]; rfl
            rw [hi]; exact rest
          · -- pc 29 not taken: ¬ (own_isp (cs.getD i 0)) = (0 : Int32)
            refine Run.iinc (1 : Int32) #[.val (.ref f), .val (.ref a), .val (.int (0 : Int32)), .val (.int (Int32.ofNat ln)), .val (.int mx), .val (.int ((Int32.ofNat i) + (1 : Int32))), .val (.int (Int32.ofNat ln)), .unset, .unset] d17_32 (by decide) rfl rfl (pc' := 35) rfl ?_
            refine Run.goto d17_35 (by decide) (pc' := 8) (by decide) ?_
            rw [own_inc]
            exact ih (i + 1) (by omega) (by have q := own_lead_at (cs := cs.take ln) (i := i) (by rw [List.length_take]; omega); rw [own_gt (by omega), if_neg hc29] at q; omega)
  exact loop ln 0 (by omega) (by rw [List.drop_zero]; omega)
theorem d16_0 : decode prog_32_method_7_code 0 = .ok (.aload_n 0, 1) := by decide +kernel
theorem d16_1 : decode prog_32_method_7_code 1 = .ok (.aload_n 1, 1) := by decide +kernel
theorem d16_2 : decode prog_32_method_7_code 2 = .ok (.iload_n 2, 1) := by decide +kernel
theorem d16_3 : decode prog_32_method_7_code 3 = .ok (.iload_n 3, 1) := by decide +kernel
theorem d16_4 : decode prog_32_method_7_code 4 = .ok (.aload_n 0, 1) := by decide +kernel
theorem d16_5 : decode prog_32_method_7_code 5 = .ok (.getfield 24, 3) := by decide +kernel
theorem d16_8 : decode prog_32_method_7_code 8 = .ok (.invokevirtual 34, 3) := by decide +kernel
theorem d16_11 : decode prog_32_method_7_code 11 = .ok (.pop, 1) := by decide +kernel
theorem d16_12 : decode prog_32_method_7_code 12 = .ok (.return_, 1) := by decide +kernel
theorem pn_16 : plainFor (⟨"com/example/mappa/mappa/core/FieldText", "append", "([CII)V"⟩ : MethodName) = true := plainFor_of_name (by first | (simp [plainName, overriddenIn]; done) | decide +kernel)
theorem pd___CIII_I : parseMethodDescriptor "([CIII)I" = some ⟨[(.array .char), .int, .int, .int], some .int⟩ := by decide +kernel
theorem ef_con_ap3 (m : MethodId) (f a tx : Addr) (cs : List Int32) (vs : List Value) (ln : Nat) (mx : Int32) (ul uc : Value)  : entryFrame m #[(.ref f), (.ref a), (.int (0 : Int32)), (.int (Int32.ofNat ln))] 4 = mkF m 0 #[.val (.ref f), .val (.ref a), .val (.int (0 : Int32)), .val (.int (Int32.ofNat ln))] [] := by first | (simp [entryFrame, mkF, argsToLocals, Value.category]; done) | rfl
set_option maxRecDepth 65536 in
set_option maxHeartbeats 40000000 in
theorem con_ap3 (l : Launch) (Z : State) (a0 : Array Value) (hw : ∀ d ∈ tables_1, d.before a0 Z = true) (n0 : Nat) (h0 : Heap) (Z0 : n0 ≤ h0.size) (f a tx : Addr) (cs : List Int32) (vs : List Value) (ln : Nat) (mx : Int32) (ul uc : Value) (E1 : Exa Z h0 f "com/example/mappa/mappa/core/FieldText") (gf : n0 ≤ f) (gt : n0 ≤ tx) (Ftx : Fld Z h0 f "com/example/mappa/mappa/core/FieldText" "text" "[C" (.ref tx)) (Ftl : Fld Z h0 f "com/example/mappa/mappa/core/FieldText" "textLength" "I" (.int (0 : Int32))) (Fm : Fld Z h0 f "com/example/mappa/mappa/core/FieldText" "max" "I" (.int mx)) (Fk : Fld Z h0 f "com/example/mappa/mappa/core/FieldText" "cut" "Z" (.int (0 : Int32))) (Fln : Fld Z h0 f "com/example/mappa/mappa/core/FieldText" "line" "I" ul) (Fcl : Fld Z h0 f "com/example/mappa/mappa/core/FieldText" "column" "I" uc) (AC : Ary Z h0 a .char (cs.map Value.int)) (AT : Ary Z h0 tx .char vs) (hfa : f ≠ a) (hft : f ≠ tx) (hat : a ≠ tx) (hv : vs.length = 64) (hln : ln ≤ cs.length) (hcs : cs.length ≤ 64) (hm : 0 ≤ mx.toInt ∧ mx.toInt ≤ 64) (fc : ∀ v ∈ cs.map Value.int, fits .char v = true) (fv : ∀ v ∈ vs, fits .char v = true) :
    Con l Z n0 (⟨"com/example/mappa/mappa/core/FieldText", "append", "([CII)V"⟩ : MethodName) prog_32_method_7_code 4 none ({ frames := 2, cells := 0, slots := 0, locals := 50 } : Room) #[(.ref f), (.ref a), (.int (0 : Int32)), (.int (Int32.ofNat ln))] h0 (Vd fun h' => Keep h0 h' [f, tx] ∧ Fld Z h' f "com/example/mappa/mappa/core/FieldText" "text" "[C" (.ref tx) ∧ Fld Z h' f "com/example/mappa/mappa/core/FieldText" "textLength" "I" (.int (Int32.ofNat (own_held ln (own_lead (cs.take ln)) mx))) ∧ (∃ k, Fld Z h' f "com/example/mappa/mappa/core/FieldText" "cut" "Z" k) ∧ Fld Z h' f "com/example/mappa/mappa/core/FieldText" "line" "I" ul ∧ Fld Z h' f "com/example/mappa/mappa/core/FieldText" "column" "I" uc ∧ Fld Z h' f "com/example/mappa/mappa/core/FieldText" "max" "I" (.int mx) ∧ Ary Z h' tx .char (((cs.map Value.int).drop (own_lead (cs.take ln))).take (own_held ln (own_lead (cs.take ln)) mx) ++ vs.drop (own_held ln (own_lead (cs.take ln)) mx))) := by
  refine Con.of_run pn_16 (fun m => ef_con_ap3 m f a tx cs vs ln mx ul uc ) ?_
  refine Run.aloadN d16_0 rfl rfl (pc' := 1) rfl ?_
  refine Run.aloadN d16_1 rfl rfl (pc' := 2) rfl ?_
  refine Run.iloadN d16_2 rfl (pc' := 3) rfl ?_
  refine Run.iloadN d16_3 rfl (pc' := 4) rfl ?_
  refine Run.aloadN d16_4 rfl rfl (pc' := 5) rfl ?_
  refine Run.getF d16_5 (host := "") (Or.inl (hw _ (List.mem_of_getElem? (i := 25) rfl))) Via.refl Fm (pc' := 8) rfl ?_
  refine Run.callV (k' := 0) (n' := 0) (a := f) (as := [(.ref a), (.int (0 : Int32)), (.int (Int32.ofNat ln)), (.int mx)]) (rest := []) (con_ap4 l Z a0 hw n0 h0 Z0 f a tx cs vs ln mx ul uc E1 gf gt Ftx Ftl Fm Fk Fln Fcl AC AT hfa hft hat hv hln hcs hm fc fv) E1 d16_8 (hw _ (List.mem_of_getElem? (i := 97) rfl)) (hw _ (List.mem_of_getElem? (i := 98) rfl)) (fun s hZ => notFace_of_selects (args := #[]) (mvT hZ (hw _ (List.mem_of_getElem? (i := 100) rfl)))) (hw _ (List.mem_of_getElem? (i := 100) rfl)) (hw _ (List.mem_of_getElem? (i := 99) rfl)) (hw _ (List.mem_of_getElem? (i := 7) rfl)) (hw _ (List.mem_of_getElem? (i := 101) rfl)) (by decide) pd___CIII_I rfl rfl rfl (by decide) (by show (0 : Nat) + (9 + 11) + 30 ≤ _; decide) (by decide) (by decide) (by decide) (by decide) (pc' := 11) rfl ?_
  rintro _ h11 ⟨_, rfl, ⟨rfl, K11, PT11, PL11, ⟨k11, PK11⟩, Pln11, Pcl11, Pmx11, PA11⟩⟩
  show Run l Z n0 "com/example/mappa/mappa/core/FieldText" prog_32_method_7_code 4 none "append" ({ frames := 2, cells := 0, slots := 0, locals := 50 } : Room) _ 11 #[.val (.ref f), .val (.ref a), .val (.int (0 : Int32)), .val (.int (Int32.ofNat ln))] [(.int (Int32.ofNat (own_held ln (own_lead (cs.take ln)) mx)))] h11 0 0
  have E_f_11 := E1.keep K11
  have A_a_11 := AC.keep K11 (ninS (Ne.symm hfa) (ninS hat nin0))
  have sz11 : n0 ≤ h11.size := Nat.le_trans Z0 K11.1
  have kp11 := Keep.trans (Keep.refl h0 [f, tx]) K11 (allS (Or.inl (List.mem_of_getElem? (i := 0) rfl)) (allS (Or.inl (List.mem_of_getElem? (i := 1) rfl)) all0))
  refine Run.pop d16_11 rfl (pc' := 12) rfl ?_
  exact Run.vreturn d16_12 rfl (by decide) (by decide) ⟨rfl, kp11, PT11, PL11, ⟨_, PK11⟩, Pln11, Pcl11, Pmx11, PA11⟩
def own_EL : List (String × Nat) := [("java/lang/String", 7)]
theorem own_EW {Z : State} {a0 : Array Value} (hw : ∀ d ∈ tables_1, d.before a0 Z = true) : EW Z a0 own_EL := EW.cons (hw _ (List.mem_of_getElem? (i := 79) rfl)) (by decide) (EW.nil)
theorem own_wS {Z : State} {a0 : Array Value} (hw : ∀ d ∈ tables_1, d.before a0 Z = true) : ∀ a ∈ Bundle.stringAtoms, a.before a0 Z = true := by
  intro d hd
  simp only [Bundle.stringAtoms, List.mem_cons, List.not_mem_nil, or_false] at hd
  rcases hd with rfl | rfl | rfl | rfl | rfl | rfl | rfl
  · exact (hw _ (List.mem_of_getElem? (i := 59) rfl))
  · exact (hw _ (List.mem_of_getElem? (i := 58) rfl))
  · exact (hw _ (List.mem_of_getElem? (i := 80) rfl))
  · exact (hw _ (List.mem_of_getElem? (i := 81) rfl))
  · exact (hw _ (List.mem_of_getElem? (i := 82) rfl))
  · exact (hw _ (List.mem_of_getElem? (i := 83) rfl))
  · exact (hw _ (List.mem_of_getElem? (i := 84) rfl))
theorem own_heldc {tb : Tables} {e : Env} {args : Array Value} {s : State} (h : Calls_1 tb e args s) : ∀ p ∈ own_EL, Jvm.Lit.constHeld s p.1 p.2 := by
  intro p hp
  refine h.1 p ?_
  have : ∀ p ∈ own_EL, p ∈ consts_1 := by decide
  exact this p hp
theorem own_nn {x : Int32} : (x < 0) ↔ x.toBitVec.msb = true := by rw [Int32.lt_iff_toInt_lt, BitVec.msb_eq_toInt, decide_eq_true_iff]; exact Iff.rfl
theorem own_or {z u v : Int32} (hz : ¬ z < 0) (hu : ¬ u < 0) (hv : ¬ v < 0) : ¬ ((z ||| u) ||| v) < 0 := by
  rw [own_nn] at hz hu hv ⊢
  simp only [Int32.toBitVec_or, BitVec.msb_or]
  simp [hz, hu, hv]
theorem own_lz {z : Int32} {n : Nat} (h : z.toInt = (n : Int)) : n.toInt32 = z := own_eqi (by have := rng32 z; rw [h]; exact own_ofn (by omega))
theorem own_ge0 {x : Int32} (h : 0 ≤ x.toInt) : ¬ x < 0 := by rw [Int32.lt_iff_toInt_lt]; have : (0 : Int32).toInt = 0 := rfl; omega
theorem own_cnt {n z : Int32} (h : n.toInt ≤ z.toInt) : ¬ (z - (0 : Int32)) < n := by rw [Int32.sub_zero, Int32.lt_iff_toInt_lt]; omega
theorem d13_0 : decode jdk_41_method_13_code 0 = .ok (.iload_n 2, 1) := by decide +kernel
theorem d13_1 : decode jdk_41_method_13_code 1 = .ok (.iload_n 0, 1) := by decide +kernel
theorem d13_2 : decode jdk_41_method_13_code 2 = .ok (.ior, 1) := by decide +kernel
theorem d13_3 : decode jdk_41_method_13_code 3 = .ok (.iload_n 1, 1) := by decide +kernel
theorem d13_4 : decode jdk_41_method_13_code 4 = .ok (.ior, 1) := by decide +kernel
theorem d13_5 : decode jdk_41_method_13_code 5 = .ok (.ifCond .lt 10, 3) := by decide +kernel
theorem d13_8 : decode jdk_41_method_13_code 8 = .ok (.iload_n 1, 1) := by decide +kernel
theorem d13_9 : decode jdk_41_method_13_code 9 = .ok (.iload_n 2, 1) := by decide +kernel
theorem d13_10 : decode jdk_41_method_13_code 10 = .ok (.iload_n 0, 1) := by decide +kernel
theorem d13_11 : decode jdk_41_method_13_code 11 = .ok (.isub, 1) := by decide +kernel
theorem d13_12 : decode jdk_41_method_13_code 12 = .ok (.if_icmp .le 11, 3) := by decide +kernel
theorem d13_23 : decode jdk_41_method_13_code 23 = .ok (.iload_n 0, 1) := by decide +kernel
theorem d13_24 : decode jdk_41_method_13_code 24 = .ok (.ireturn, 1) := by decide +kernel
theorem pn_13 : plainFor (⟨"jdk/internal/util/Preconditions", "checkFromIndexSize", "(IIILjava/util/function/BiFunction;)I"⟩ : MethodName) = true := plainFor_of_name (by first | (simp [plainName, overriddenIn]; done) | decide +kernel)
theorem ef_con_cfs (m : MethodId) (n z : Int32) (u : Value) (hr_u : u.isRef = true) : entryFrame m #[(.int (0 : Int32)), (.int n), (.int z), u] 4 = mkF m 0 #[.val (.int (0 : Int32)), .val (.int n), .val (.int z), .val u] [] := by rcases XT.refc hr_u with rfl | ⟨r_u, rfl⟩ <;> first | (simp [entryFrame, mkF, argsToLocals, Value.category]; done) | rfl
set_option maxRecDepth 65536 in
set_option maxHeartbeats 40000000 in
theorem con_cfs (l : Launch) (Z : State) (a0 : Array Value) (hw : ∀ d ∈ tables_1, d.before a0 Z = true) (n0 : Nat) (h0 : Heap) (Z0 : n0 ≤ h0.size) (n z : Int32) (u : Value) (hu : u.isRef = true) (hn : 0 ≤ n.toInt) (hz : n.toInt ≤ z.toInt) :
    Con l Z n0 (⟨"jdk/internal/util/Preconditions", "checkFromIndexSize", "(IIILjava/util/function/BiFunction;)I"⟩ : MethodName) jdk_41_method_13_code 4 (some .int) ({ frames := 0, cells := 0, slots := 0, locals := 0 } : Room) #[(.int (0 : Int32)), (.int n), (.int z), u] h0 (Val (PV (.int (0 : Int32)) h0)) := by
  refine Con.of_run pn_13 (fun m => ef_con_cfs m n z u hu) ?_
  refine Run.iloadN d13_0 rfl (pc' := 1) rfl ?_
  refine Run.iloadN d13_1 rfl (pc' := 2) rfl ?_
  refine Run.ior d13_2 (pc' := 3) rfl ?_
  refine Run.iloadN d13_3 rfl (pc' := 4) rfl ?_
  refine Run.ior d13_4 (pc' := 5) rfl ?_
  refine Run.if_lt d13_5 (by decide) (pc' := 15) (by decide) (pa := 8) rfl (fun hc5 => ?_) (fun hc5 => ?_)
  · -- pc 5 taken: ((z ||| (0 : Int32)) ||| n) < (0 : Int32)
    exact absurd hc5 (own_or (own_ge0 (by omega)) (by decide) (own_ge0 hn))
  · -- pc 5 not taken: ¬ ((z ||| (0 : Int32)) ||| n) < (0 : Int32)
    refine Run.iloadN d13_8 rfl (pc' := 9) rfl ?_
    refine Run.iloadN d13_9 rfl (pc' := 10) rfl ?_
    refine Run.iloadN d13_10 rfl (pc' := 11) rfl ?_
    refine Run.isub d13_11 (pc' := 12) rfl ?_
    refine Run.icmp_le d13_12 (by decide) (pc' := 23) (by decide) (pa := 15) rfl (fun hc12 => ?_) (fun hc12 => ?_)
    · -- pc 12 taken: ¬ (z - (0 : Int32)) < n
      refine Run.iloadN d13_23 rfl (pc' := 24) rfl ?_
      exact Run.ireturn d13_24 rfl (by decide) (by decide) ⟨_, rfl, rfl, rfl⟩
    · -- pc 12 not taken: (z - (0 : Int32)) < n
      exact absurd hc12 (own_cnt hz)
theorem d12_0 : decode jdk_42_method_157_code 0 = .ok (.iload_n 0, 1) := by decide +kernel
theorem d12_1 : decode jdk_42_method_157_code 1 = .ok (.iload_n 1, 1) := by decide +kernel
theorem d12_2 : decode jdk_42_method_157_code 2 = .ok (.iload_n 2, 1) := by decide +kernel
theorem d12_3 : decode jdk_42_method_157_code 3 = .ok (.getstatic 1053, 3) := by decide +kernel
theorem d12_6 : decode jdk_42_method_157_code 6 = .ok (.invokestatic 1065, 3) := by decide +kernel
theorem d12_9 : decode jdk_42_method_157_code 9 = .ok (.ireturn, 1) := by decide +kernel
theorem pn_12 : plainFor (⟨"java/lang/String", "checkBoundsOffCount", "(III)I"⟩ : MethodName) = true := plainFor_of_name (by first | (simp [plainName, overriddenIn]; done) | decide +kernel)
theorem pd__IIILjava_util_function_BiFunction__I : parseMethodDescriptor "(IIILjava/util/function/BiFunction;)I" = some ⟨[.int, .int, .int, (.object "java/util/function/BiFunction")], some .int⟩ := by decide +kernel
theorem ef_con_cbo (m : MethodId) (n z : Int32) (fm : Value)  : entryFrame m #[(.int (0 : Int32)), (.int n), (.int z)] 3 = mkF m 0 #[.val (.int (0 : Int32)), .val (.int n), .val (.int z)] [] := by first | (simp [entryFrame, mkF, argsToLocals, Value.category]; done) | rfl
set_option maxRecDepth 65536 in
set_option maxHeartbeats 40000000 in
theorem con_cbo (l : Launch) (Z : State) (a0 : Array Value) (hw : ∀ d ∈ tables_1, d.before a0 Z = true) (n0 : Nat) (h0 : Heap) (Z0 : n0 ≤ h0.size) (n z : Int32) (fm : Value) (od0 : Old Z n0 h0) (SF : Sta Z Z.heap "jdk/internal/util/Preconditions" "SIOOBE_FORMATTER" "Ljava/util/function/BiFunction;" fm) (hfm : fm.isRef = true) (hn : 0 ≤ n.toInt) (hz : n.toInt ≤ z.toInt) :
    Con l Z n0 (⟨"java/lang/String", "checkBoundsOffCount", "(III)I"⟩ : MethodName) jdk_42_method_157_code 3 (some .int) ({ frames := 1, cells := 0, slots := 0, locals := 15 } : Room) #[(.int (0 : Int32)), (.int n), (.int z)] h0 (Val (PV (.int (0 : Int32)) h0)) := by
  refine Con.of_run pn_12 (fun m => ef_con_cbo m n z fm ) ?_
  refine Run.iloadN d12_0 rfl (pc' := 1) rfl ?_
  refine Run.iloadN d12_1 rfl (pc' := 2) rfl ?_
  refine Run.iloadN d12_2 rfl (pc' := 3) rfl ?_
  refine Run.getS d12_3 (host := "") (Or.inl (hw _ (List.mem_of_getElem? (i := 69) rfl))) Via.refl (SF.ext od0.2) (pc' := 6) rfl ?_
  refine Run.callS (k' := 0) (n' := 0) (as := [(.int (0 : Int32)), (.int n), (.int z), fm]) (rest := []) (con_cfs l Z a0 hw n0 h0 Z0 n z fm hfm hn hz ) d12_6 (hw _ (List.mem_of_getElem? (i := 71) rfl)) (hw _ (List.mem_of_getElem? (i := 72) rfl)) (hw _ (List.mem_of_getElem? (i := 70) rfl)) (hw _ (List.mem_of_getElem? (i := 73) rfl)) (by decide) pd__IIILjava_util_function_BiFunction__I rfl rfl rfl (by decide) (by show (0 : Nat) + (4 + 11) + 0 ≤ _; decide) (by decide) (by decide) (by decide) (by decide) (pc' := 9) rfl ?_
  rintro _ _ ⟨_, rfl, rfl, rfl⟩
  show Run l Z n0 "java/lang/String" jdk_42_method_157_code 3 (some .int) "checkBoundsOffCount" ({ frames := 1, cells := 0, slots := 0, locals := 15 } : Room) _ 9 #[.val (.int (0 : Int32)), .val (.int n), .val (.int z)] [(.int (0 : Int32))] h0 0 0
  exact Run.ireturn d12_9 rfl (by decide) (by decide) ⟨_, rfl, rfl, rfl⟩
theorem d11_0 : decode jdk_42_method_5_code 0 = .ok (.iload_n 1, 1) := by decide +kernel
theorem d11_1 : decode jdk_42_method_5_code 1 = .ok (.iload_n 2, 1) := by decide +kernel
theorem d11_2 : decode jdk_42_method_5_code 2 = .ok (.aload_n 0, 1) := by decide +kernel
theorem d11_3 : decode jdk_42_method_5_code 3 = .ok (.arraylength, 1) := by decide +kernel
theorem d11_4 : decode jdk_42_method_5_code 4 = .ok (.invokestatic 34, 3) := by decide +kernel
theorem d11_7 : decode jdk_42_method_5_code 7 = .ok (.pop, 1) := by decide +kernel
theorem d11_8 : decode jdk_42_method_5_code 8 = .ok (.aconst_null, 1) := by decide +kernel
theorem d11_9 : decode jdk_42_method_5_code 9 = .ok (.areturn, 1) := by decide +kernel
theorem pn_11 : plainFor (⟨"java/lang/String", "rangeCheck", "([CII)Ljava/lang/Void;"⟩ : MethodName) = true := plainFor_of_name (by first | (simp [plainName, overriddenIn]; done) | decide +kernel)
theorem pd__III_I : parseMethodDescriptor "(III)I" = some ⟨[.int, .int, .int], some .int⟩ := by decide +kernel
theorem ef_con_rck (m : MethodId) (a : Addr) (vs : List Value) (n z : Int32) (fm : Value)  : entryFrame m #[(.ref a), (.int (0 : Int32)), (.int n)] 3 = mkF m 0 #[.val (.ref a), .val (.int (0 : Int32)), .val (.int n)] [] := by first | (simp [entryFrame, mkF, argsToLocals, Value.category]; done) | rfl
set_option maxRecDepth 65536 in
set_option maxHeartbeats 40000000 in
theorem con_rck (l : Launch) (Z : State) (a0 : Array Value) (hw : ∀ d ∈ tables_1, d.before a0 Z = true) (n0 : Nat) (h0 : Heap) (Z0 : n0 ≤ h0.size) (a : Addr) (vs : List Value) (n z : Int32) (fm : Value) (od0 : Old Z n0 h0) (SF : Sta Z Z.heap "jdk/internal/util/Preconditions" "SIOOBE_FORMATTER" "Ljava/util/function/BiFunction;" fm) (hfm : fm.isRef = true) (AC : Ary Z h0 a .char vs) (hlz : z.toInt = (vs.length : Int)) (hn : 0 ≤ n.toInt) (hz : n.toInt ≤ z.toInt) :
    Con l Z n0 (⟨"java/lang/String", "rangeCheck", "([CII)Ljava/lang/Void;"⟩ : MethodName) jdk_42_method_5_code 3 (some (.object "java/lang/Void")) ({ frames := 2, cells := 0, slots := 0, locals := 29 } : Room) #[(.ref a), (.int (0 : Int32)), (.int n)] h0 (Val (PV .null h0)) := by
  refine Con.of_run pn_11 (fun m => ef_con_rck m a vs n z fm ) ?_
  refine Run.iloadN d11_0 rfl (pc' := 1) rfl ?_
  refine Run.iloadN d11_1 rfl (pc' := 2) rfl ?_
  refine Run.aloadN d11_2 rfl rfl (pc' := 3) rfl ?_
  refine Run.alen (z := z) d11_3 AC (own_lz hlz) (pc' := 4) rfl ?_
  refine Run.callS (k' := 0) (n' := 0) (as := [(.int (0 : Int32)), (.int n), (.int z)]) (rest := []) (con_cbo l Z a0 hw n0 h0 Z0 n z fm od0 SF hfm hn hz ) d11_4 (hw _ (List.mem_of_getElem? (i := 66) rfl)) (hw _ (List.mem_of_getElem? (i := 67) rfl)) (hw _ (List.mem_of_getElem? (i := 59) rfl)) (hw _ (List.mem_of_getElem? (i := 68) rfl)) (by decide) pd__III_I rfl rfl rfl (by decide) (by show (0 : Nat) + (3 + 11) + 15 ≤ _; decide) (by decide) (by decide) (by decide) (by decide) (pc' := 7) rfl ?_
  rintro _ _ ⟨_, rfl, rfl, rfl⟩
  show Run l Z n0 "java/lang/String" jdk_42_method_5_code 3 (some (.object "java/lang/Void")) "rangeCheck" ({ frames := 2, cells := 0, slots := 0, locals := 29 } : Room) _ 7 #[.val (.ref a), .val (.int (0 : Int32)), .val (.int n)] [(.int (0 : Int32))] h0 0 0
  refine Run.pop d11_7 rfl (pc' := 8) rfl ?_
  refine Run.aconst d11_8 (pc' := 9) rfl ?_
  exact Run.areturn d11_9 (ty := (.object "java/lang/Void")) rfl rfl rfl (by decide) (by decide) ⟨_, rfl, rfl, rfl⟩
theorem d14_0 : decode jdk_42_method_149_code 0 = .ok (.aload_n 0, 1) := by decide +kernel
theorem d14_1 : decode jdk_42_method_149_code 1 = .ok (.invokespecial 1, 3) := by decide +kernel
theorem d14_4 : decode jdk_42_method_149_code 4 = .ok (.iload_n 3, 1) := by decide +kernel
theorem d14_5 : decode jdk_42_method_149_code 5 = .ok (.ifCond .ne 22, 3) := by decide +kernel
theorem d14_8 : decode jdk_42_method_149_code 8 = .ok (.aload_n 0, 1) := by decide +kernel
theorem d14_9 : decode jdk_42_method_149_code 9 = .ok (.ldc 7, 2) := by decide +kernel
theorem d14_11 : decode jdk_42_method_149_code 11 = .ok (.getfield 9, 3) := by decide +kernel
theorem d14_14 : decode jdk_42_method_149_code 14 = .ok (.putfield 9, 3) := by decide +kernel
theorem d14_17 : decode jdk_42_method_149_code 17 = .ok (.aload_n 0, 1) := by decide +kernel
theorem d14_18 : decode jdk_42_method_149_code 18 = .ok (.ldc 7, 2) := by decide +kernel
theorem d14_20 : decode jdk_42_method_149_code 20 = .ok (.getfield 15, 3) := by decide +kernel
theorem d14_23 : decode jdk_42_method_149_code 23 = .ok (.putfield 15, 3) := by decide +kernel
theorem d14_26 : decode jdk_42_method_149_code 26 = .ok (.return_, 1) := by decide +kernel
theorem pn_14 : plainFor (⟨"java/lang/String", "<init>", "([CIILjava/lang/Void;)V"⟩ : MethodName) = true := plainFor_of_name (by first | (simp [plainName, overriddenIn]; done) | decide +kernel)
theorem ef_con_si0 (m : MethodId) (t a : Addr) (uv uc : Value)  : entryFrame m #[(.ref t), (.ref a), (.int (0 : Int32)), (.int (0 : Int32)), .null] 6 = mkF m 0 #[.val (.ref t), .val (.ref a), .val (.int (0 : Int32)), .val (.int (0 : Int32)), .val .null, .unset] [] := by first | (simp [entryFrame, mkF, argsToLocals, Value.category]; done) | rfl
set_option maxRecDepth 65536 in
set_option maxHeartbeats 40000000 in
theorem con_si0 (l : Launch) (Z : State) (a0 : Array Value) (hw : ∀ d ∈ tables_1, d.before a0 Z = true) (n0 : Nat) (h0 : Heap) (Z0 : n0 ≤ h0.size) (t a : Addr) (uv uc : Value) (X1 : Exa Z h0 t "java/lang/String") (gt : n0 ≤ t) (FV : Fld Z h0 t "java/lang/String" "value" "[B" uv) (FC : Fld Z h0 t "java/lang/String" "coder" "B" uc) :
    ConW l Z own_EL n0 (⟨"java/lang/String", "<init>", "([CIILjava/lang/Void;)V"⟩ : MethodName) jdk_42_method_149_code 6 none ({ frames := 1, cells := 4, slots := 8, locals := 12 } : Room) #[(.ref t), (.ref a), (.int (0 : Int32)), (.int (0 : Int32)), .null] h0 [t] (Vd fun h' => ∃ b, Keep h0 h' [t] ∧ Exa Z h' t "java/lang/String" ∧ Fld Z h' t "java/lang/String" "value" "[B" (.ref b) ∧ Fld Z h' t "java/lang/String" "coder" "B" (.int (0 : Int32)) ∧ Ary Z h' b .byte []) := by
  refine ConW.of_run (own_EW hw) pn_14 (fun m => ef_con_si0 m t a uv uc ) ?_
  intro vm hal hsf
  have sf_t := hsf t (List.mem_of_getElem? (i := 0) rfl)
  refine RunW.aloadN d14_0 rfl rfl (pc' := 1) rfl ?_
  refine RunW.initO d14_1 (hw _ (List.mem_of_getElem? (i := 78) rfl)) (hw _ (List.mem_of_getElem? (i := 12) rfl)) (hw _ (List.mem_of_getElem? (i := 13) rfl)) rfl (by decide) (by show (0 : Nat) + 12 ≤ _; decide) (pc' := 4) rfl ?_
  refine RunW.iloadN d14_4 rfl (pc' := 5) rfl ?_
  refine RunW.if_ne d14_5 (by decide) (pc' := 27) (by decide) (pa := 8) rfl (fun hc5 => ?_) (fun hc5 => ?_)
  · -- pc 5 taken: ¬ (0 : Int32) = (0 : Int32)
    exact absurd hc5 (by decide)
  · -- pc 5 not taken: (0 : Int32) = (0 : Int32)
    refine RunW.aloadN d14_8 rfl rfl (pc' := 9) rfl ?_
    refine RunW.ldcT (len := 0) (z := (0 : Int32)) (bs := []) (k' := 2) (n' := 4) d14_9 (hw _ (List.mem_of_getElem? (i := 79) rfl)) (own_wS hw) (own_EW hw) (List.mem_of_getElem? (i := 0) rfl) (by decide) (by decide) (by decide) (by decide) (by decide) (by decide) (by decide) (by decide) (pc' := 11) rfl ?_
    intro h11 vm11 a11 b11 E11 c11 X11 FC11 FV11 A11 ns11
    have E_t_11 := X1.ext E11
    have F_t_value_11 := FV.ext E11
    have F_t_coder_11 := FC.ext E11
    have Z_t_11 := CHr.safe c11 X1.lt sf_t
    have sz11 : n0 ≤ h11.size := Nat.le_trans Z0 E11.1
    have kp11 := Keep.ext (Keep.refl h0 [t]) E11
    have ne_t_a11 := (ns11 t Z_t_11).1
    have ne_t_b11 := (ns11 t Z_t_11).2
    refine RunW.getF d14_11 (host := "") (Or.inl (hw _ (List.mem_of_getElem? (i := 85) rfl))) Via.refl FV11 (pc' := 14) rfl ?_
    refine RunW.putF d14_14 (host := "") (Or.inl (hw _ (List.mem_of_getElem? (i := 85) rfl))) Via.refl F_t_value_11 E_t_11 (Or.inr ⟨(hw _ (List.mem_of_getElem? (i := 81) rfl)), rfl, rfl⟩) (hw _ (List.mem_of_getElem? (i := 58) rfl)) (ty := (.array .byte)) (by decide) (go_narref rfl rfl) rfl gt Z_t_11 (pc' := 17) rfl ?_
    intro h12 W12 c12
    have Fw12 := F_t_value_11.same W12
    have E_t_12 := E_t_11.wr W12
    have F_t_coder_12 := F_t_coder_11.other W12 (Or.inr (slot_ne (Or.inr (hw _ (List.mem_of_getElem? (i := 82) rfl))) (Or.inr (hw _ (List.mem_of_getElem? (i := 81) rfl))) (by decide) (t := .byte) (t' := (.array .byte)) (by decide) (by decide)))
    have Z_t_12 := CHr.safe c12 E_t_11.lt Z_t_11
    have E_a11_12 := X11.wr W12
    have F_a11_coder_12 := FC11.other W12 (Or.inl (Ne.symm ne_t_a11))
    have F_a11_value_12 := FV11.other W12 (Or.inl (Ne.symm ne_t_a11))
    have A_b11_12 := A11.other W12 (Ne.symm ne_t_b11)
    have sz12 : n0 ≤ h12.size := by rw [W12.size]; exact sz11
    have kp12 := Keep.wr kp11 W12 (Or.inl (List.mem_of_getElem? (i := 0) rfl))
    refine RunW.aloadN d14_17 rfl rfl (pc' := 18) rfl ?_
    refine RunW.ldcT (len := 0) (z := (0 : Int32)) (bs := []) (k' := 4) (n' := 8) d14_18 (hw _ (List.mem_of_getElem? (i := 79) rfl)) (own_wS hw) (own_EW hw) (List.mem_of_getElem? (i := 0) rfl) (by decide) (by decide) (by decide) (by decide) (by decide) (by decide) (by decide) (by decide) (pc' := 20) rfl ?_
    intro h13 vm13 a13 b13 E13 c13 X13 FC13 FV13 A13 ns13
    have E_t_13 := E_t_12.ext E13
    have F_t_coder_13 := F_t_coder_12.ext E13
    have Z_t_13 := CHr.safe c13 E_t_12.lt Z_t_12
    have E_a11_13 := E_a11_12.ext E13
    have F_a11_coder_13 := F_a11_coder_12.ext E13
    have F_a11_value_13 := F_a11_value_12.ext E13
    have A_b11_13 := A_b11_12.ext E13
    have F_t_value_13 := Fw12.ext E13
    have sz13 : n0 ≤ h13.size := Nat.le_trans sz12 E13.1
    have kp13 := Keep.ext kp12 E13
    have ne_t_a13 := (ns13 t Z_t_13).1
    have ne_t_b13 := (ns13 t Z_t_13).2
    refine RunW.getF d14_20 (host := "") (Or.inl (hw _ (List.mem_of_getElem? (i := 86) rfl))) Via.refl FC13 (pc' := 23) rfl ?_
    refine RunW.putFN d14_23 (hw _ (List.mem_of_getElem? (i := 86) rfl)) Via.refl F_t_coder_13 E_t_13 (Or.inr ⟨(hw _ (List.mem_of_getElem? (i := 82) rfl)), rfl, rfl⟩) (hw _ (List.mem_of_getElem? (i := 58) rfl)) (ty := .byte) (v' := (.int (0 : Int32))) (by decide) rfl rfl gt Z_t_13 (pc' := 26) rfl ?_
    intro h14 W14 c14
    have Fw14 := F_t_coder_13.same W14
    have E_t_14 := E_t_13.wr W14
    have Z_t_14 := CHr.safe c14 E_t_13.lt Z_t_13
    have E_a11_14 := E_a11_13.wr W14
    have F_a11_coder_14 := F_a11_coder_13.other W14 (Or.inl (Ne.symm ne_t_a11))
    have F_a11_value_14 := F_a11_value_13.other W14 (Or.inl (Ne.symm ne_t_a11))
    have A_b11_14 := A_b11_13.other W14 (Ne.symm ne_t_b11)
    have F_t_value_14 := F_t_value_13.other W14 (Or.inr (slot_ne (Or.inr (hw _ (List.mem_of_getElem? (i := 81) rfl))) (Or.inr (hw _ (List.mem_of_getElem? (i := 82) rfl))) (by decide) (t := (.array .byte)) (t' := .byte) (by decide) (by decide)))
    have E_a13_14 := X13.wr W14
    have F_a13_coder_14 := FC13.other W14 (Or.inl (Ne.symm ne_t_a13))
    have F_a13_value_14 := FV13.other W14 (Or.inl (Ne.symm ne_t_a13))
    have A_b13_14 := A13.other W14 (Ne.symm ne_t_b13)
    have sz14 : n0 ≤ h14.size := by rw [W14.size]; exact sz13
    have kp14 := Keep.wr kp13 W14 (Or.inl (List.mem_of_getElem? (i := 0) rfl))
    exact RunW.vreturn d14_26 rfl (by decide) (by decide) ⟨rfl, b11, kp14, E_t_14, F_t_value_14, Fw14, A_b11_14⟩
theorem d10_0 : decode jdk_42_method_4_code 0 = .ok (.aload_n 0, 1) := by decide +kernel
theorem d10_1 : decode jdk_42_method_4_code 1 = .ok (.aload_n 1, 1) := by decide +kernel
theorem d10_2 : decode jdk_42_method_4_code 2 = .ok (.iload_n 2, 1) := by decide +kernel
theorem d10_3 : decode jdk_42_method_4_code 3 = .ok (.iload_n 3, 1) := by decide +kernel
theorem d10_4 : decode jdk_42_method_4_code 4 = .ok (.aload_n 1, 1) := by decide +kernel
theorem d10_5 : decode jdk_42_method_4_code 5 = .ok (.iload_n 2, 1) := by decide +kernel
theorem d10_6 : decode jdk_42_method_4_code 6 = .ok (.iload_n 3, 1) := by decide +kernel
theorem d10_7 : decode jdk_42_method_4_code 7 = .ok (.invokestatic 30, 3) := by decide +kernel
theorem d10_10 : decode jdk_42_method_4_code 10 = .ok (.invokespecial 27, 3) := by decide +kernel
theorem d10_13 : decode jdk_42_method_4_code 13 = .ok (.return_, 1) := by decide +kernel
theorem pn_10 : plainFor (⟨"java/lang/String", "<init>", "([CII)V"⟩ : MethodName) = true := plainFor_of_name (by first | (simp [plainName, overriddenIn]; done) | decide +kernel)
theorem pd___CII_Ljava_lang_Void_ : parseMethodDescriptor "([CII)Ljava/lang/Void;" = some ⟨[(.array .char), .int, .int], some (.object "java/lang/Void")⟩ := by decide +kernel
theorem pd___CIILjava_lang_Void__V : parseMethodDescriptor "([CIILjava/lang/Void;)V" = some ⟨[(.array .char), .int, .int, (.object "java/lang/Void")], none⟩ := by decide +kernel
theorem ef_con_si3 (m : MethodId) (t a : Addr) (uv uc : Value) (vs : List Value) (z : Int32) (fm : Value)  : entryFrame m #[(.ref t), (.ref a), (.int (0 : Int32)), (.int (0 : Int32))] 4 = mkF m 0 #[.val (.ref t), .val (.ref a), .val (.int (0 : Int32)), .val (.int (0 : Int32))] [] := by first | (simp [entryFrame, mkF, argsToLocals, Value.category]; done) | rfl
set_option maxRecDepth 65536 in
set_option maxHeartbeats 40000000 in
theorem con_si3 (l : Launch) (Z : State) (a0 : Array Value) (hw : ∀ d ∈ tables_1, d.before a0 Z = true) (n0 : Nat) (h0 : Heap) (Z0 : n0 ≤ h0.size) (t a : Addr) (uv uc : Value) (vs : List Value) (z : Int32) (fm : Value) (X1 : Exa Z h0 t "java/lang/String") (gt : n0 ≤ t) (FV : Fld Z h0 t "java/lang/String" "value" "[B" uv) (FC : Fld Z h0 t "java/lang/String" "coder" "B" uc) (od0 : Old Z n0 h0) (SF : Sta Z Z.heap "jdk/internal/util/Preconditions" "SIOOBE_FORMATTER" "Ljava/util/function/BiFunction;" fm) (hfm : fm.isRef = true) (AC : Ary Z h0 a .char vs) (hlz : z.toInt = (vs.length : Int)) :
    ConW l Z own_EL n0 (⟨"java/lang/String", "<init>", "([CII)V"⟩ : MethodName) jdk_42_method_4_code 4 none ({ frames := 3, cells := 4, slots := 8, locals := 47 } : Room) #[(.ref t), (.ref a), (.int (0 : Int32)), (.int (0 : Int32))] h0 [t] (Vd fun h' => ∃ b, Keep h0 h' [t] ∧ Exa Z h' t "java/lang/String" ∧ Fld Z h' t "java/lang/String" "value" "[B" (.ref b) ∧ Fld Z h' t "java/lang/String" "coder" "B" (.int (0 : Int32)) ∧ Ary Z h' b .byte []) := by
  refine ConW.of_run (own_EW hw) pn_10 (fun m => ef_con_si3 m t a uv uc vs z fm ) ?_
  intro vm hal hsf
  have sf_t := hsf t (List.mem_of_getElem? (i := 0) rfl)
  refine RunW.aloadN d10_0 rfl rfl (pc' := 1) rfl ?_
  refine RunW.aloadN d10_1 rfl rfl (pc' := 2) rfl ?_
  refine RunW.iloadN d10_2 rfl (pc' := 3) rfl ?_
  refine RunW.iloadN d10_3 rfl (pc' := 4) rfl ?_
  refine RunW.aloadN d10_4 rfl rfl (pc' := 5) rfl ?_
  refine RunW.iloadN d10_5 rfl (pc' := 6) rfl ?_
  refine RunW.iloadN d10_6 rfl (pc' := 7) rfl ?_
  refine RunW.callS (k' := 0) (n' := 0) (as := [(.ref a), (.int (0 : Int32)), (.int (0 : Int32))]) (rest := [(.int (0 : Int32)), (.int (0 : Int32)), (.ref a), (.ref t)]) (con_rck l Z a0 hw n0 h0 Z0  a vs 0 z fm od0 SF hfm AC hlz (by decide) (by have := own_z; omega)) (by rintro _ _ ⟨_, -, -, rfl⟩; exact ⟨[], Keep.refl _ _, all0⟩) d10_7 (hw _ (List.mem_of_getElem? (i := 63) rfl)) (hw _ (List.mem_of_getElem? (i := 64) rfl)) (hw _ (List.mem_of_getElem? (i := 59) rfl)) (hw _ (List.mem_of_getElem? (i := 65) rfl)) (by decide) pd___CII_Ljava_lang_Void_ rfl rfl rfl (by decide) (by show (4 : Nat) + (3 + 11) + 29 ≤ _; decide) (by decide) (by decide) (by decide) (by decide) (pc' := 10) rfl ?_
  rintro _ _ ⟨_, rfl, rfl, rfl⟩ -
  show RunW l Z own_EL n0 "java/lang/String" jdk_42_method_4_code 4 none "<init>" ({ frames := 3, cells := 4, slots := 8, locals := 47 } : Room) _ 10 #[.val (.ref t), .val (.ref a), .val (.int (0 : Int32)), .val (.int (0 : Int32))] [.null, (.int (0 : Int32)), (.int (0 : Int32)), (.ref a), (.ref t)] h0 vm 0 0
  refine RunW.callNW (k' := 4) (n' := 8) (a := t) (as := [(.ref a), (.int (0 : Int32)), (.int (0 : Int32)), .null]) (rest := []) (con_si0 l Z a0 hw n0 h0 Z0 t a uv uc X1 gt FV FC) (allS sf_t all0) (own_EW hw) rfl rfl d10_10 (hw _ (List.mem_of_getElem? (i := 74) rfl)) (hw _ (List.mem_of_getElem? (i := 75) rfl)) (hw _ (List.mem_of_getElem? (i := 59) rfl)) (hw _ (List.mem_of_getElem? (i := 77) rfl)) (by decide) pd___CIILjava_lang_Void__V rfl rfl rfl (by decide) (by show (0 : Nat) + (6 + 11) + 12 ≤ _; decide) (by decide) (by decide) (by decide) (by decide) (pc' := 13) rfl ?_
  rintro _ h11 vm11 ⟨rfl, ⟨b11, K11, X11, FV11, FC11, P11⟩⟩ c11
  show RunW l Z own_EL n0 "java/lang/String" jdk_42_method_4_code 4 none "<init>" ({ frames := 3, cells := 4, slots := 8, locals := 47 } : Room) _ 13 #[.val (.ref t), .val (.ref a), .val (.int (0 : Int32)), .val (.int (0 : Int32))] [] h11 vm11 4 8
  have E_t_11 := X1.keep K11
  have Z_t_11 := CHr.safe c11 X1.lt sf_t
  have sz11 : n0 ≤ h11.size := Nat.le_trans Z0 K11.1
  have kp11 := Keep.trans (Keep.refl h0 [t]) K11 (allS (Or.inl (List.mem_of_getElem? (i := 0) rfl)) all0)
  have od11 := od0.keep K11 (allS gt all0)
  exact RunW.vreturn d10_13 rfl (by decide) (by decide) ⟨rfl, b11, kp11, X11, FV11, FC11, P11⟩
theorem d9_0 : decode prog_32_method_9_code 0 = .ok (.aload_n 0, 1) := by decide +kernel
theorem d9_1 : decode prog_32_method_9_code 1 = .ok (.getfield 27, 3) := by decide +kernel
theorem d9_4 : decode prog_32_method_9_code 4 = .ok (.istore_n 1, 1) := by decide +kernel
theorem d9_5 : decode prog_32_method_9_code 5 = .ok (.iload_n 1, 1) := by decide +kernel
theorem d9_6 : decode prog_32_method_9_code 6 = .ok (.ifCond .le 23, 3) := by decide +kernel
theorem d9_29 : decode prog_32_method_9_code 29 = .ok (.new 67, 3) := by decide +kernel
theorem d9_32 : decode prog_32_method_9_code 32 = .ok (.dup, 1) := by decide +kernel
theorem d9_33 : decode prog_32_method_9_code 33 = .ok (.aload_n 0, 1) := by decide +kernel
theorem d9_34 : decode prog_32_method_9_code 34 = .ok (.getfield 7, 3) := by decide +kernel
theorem d9_37 : decode prog_32_method_9_code 37 = .ok (.iconst 0, 1) := by decide +kernel
theorem d9_38 : decode prog_32_method_9_code 38 = .ok (.iload_n 1, 1) := by decide +kernel
theorem d9_39 : decode prog_32_method_9_code 39 = .ok (.invokespecial 69, 3) := by decide +kernel
theorem d9_42 : decode prog_32_method_9_code 42 = .ok (.areturn, 1) := by decide +kernel
theorem pn_9 : plainFor (⟨"com/example/mappa/mappa/core/FieldText", "text", "()Ljava/lang/String;"⟩ : MethodName) = true := plainFor_of_name (by first | (simp [plainName, overriddenIn]; done) | decide +kernel)
theorem pd___CII_V : parseMethodDescriptor "([CII)V" = some ⟨[(.array .char), .int, .int], none⟩ := by decide +kernel
theorem ef_con_txt (m : MethodId) (f tx : Addr) (vs : List Value) (z : Int32) (fm : Value)  : entryFrame m #[(.ref f)] 2 = mkF m 0 #[.val (.ref f), .unset] [] := by first | (simp [entryFrame, mkF, argsToLocals, Value.category]; done) | rfl
set_option maxRecDepth 65536 in
set_option maxHeartbeats 40000000 in
theorem con_txt (l : Launch) (Z : State) (a0 : Array Value) (hw : ∀ d ∈ tables_1, d.before a0 Z = true) (n0 : Nat) (h0 : Heap) (Z0 : n0 ≤ h0.size) (f tx : Addr) (vs : List Value) (z : Int32) (fm : Value) (E1 : Exa Z h0 f "com/example/mappa/mappa/core/FieldText") (Ftx : Fld Z h0 f "com/example/mappa/mappa/core/FieldText" "text" "[C" (.ref tx)) (Ftl : Fld Z h0 f "com/example/mappa/mappa/core/FieldText" "textLength" "I" (.int (0 : Int32))) (od0 : Old Z n0 h0) (SF : Sta Z Z.heap "jdk/internal/util/Preconditions" "SIOOBE_FORMATTER" "Ljava/util/function/BiFunction;" fm) (hfm : fm.isRef = true) (AC : Ary Z h0 tx .char vs) (hlz : z.toInt = (vs.length : Int)) :
    ConW l Z own_EL n0 (⟨"com/example/mappa/mappa/core/FieldText", "text", "()Ljava/lang/String;"⟩ : MethodName) prog_32_method_9_code 2 (some (.object "java/lang/String")) ({ frames := 4, cells := 5, slots := 12, locals := 63 } : Room) #[(.ref f)] h0 [] (Val fun w h' => ∃ t b, w = .ref t ∧ h0.size ≤ t ∧ Ext h0 h' ∧ Exa Z h' t "java/lang/String" ∧ Fld Z h' t "java/lang/String" "value" "[B" (.ref b) ∧ Ary Z h' b .byte []) := by
  refine ConW.of_run (own_EW hw) pn_9 (fun m => ef_con_txt m f tx vs z fm ) ?_
  intro vm hal hsf
  refine RunW.aloadN d9_0 rfl rfl (pc' := 1) rfl ?_
  refine RunW.getF d9_1 (host := "") (Or.inl (hw _ (List.mem_of_getElem? (i := 27) rfl))) Via.refl Ftl (pc' := 4) rfl ?_
  refine RunW.istoreN (l' := #[.val (.ref f), .val (.int (0 : Int32))]) d9_4 rfl (pc' := 5) rfl ?_
  refine RunW.iloadN d9_5 rfl (pc' := 6) rfl ?_
  refine RunW.if_le d9_6 (by decide) (pc' := 29) (by decide) (pa := 9) rfl (fun hc6 => ?_) (fun hc6 => ?_)
  · -- pc 6 taken: ¬ (0 : Int32) < (0 : Int32)
    refine RunW.newO (k' := 1) (n' := 4) d9_29 (hw _ (List.mem_of_getElem? (i := 57) rfl)) (hw _ (List.mem_of_getElem? (i := 58) rfl)) (hw _ (List.mem_of_getElem? (i := 59) rfl)) (by decide) (by decide) (by decide) (by decide) (pc' := 32) rfl ?_
    intro h11 b11 g11 E11 X11 D11 c11 sf11
    have ge_b11 : n0 ≤ b11 := by rw [g11]; exact Z0
    have bo_b11 : h0.size ≤ b11 := by rw [g11]; exact (Keep.refl h0 []).1
    have ne_f_b11 : f ≠ b11 := by rw [g11]; exact Nat.ne_of_lt E1.lt
    have ne_tx_b11 : tx ≠ b11 := by rw [g11]; exact Nat.ne_of_lt AC.lt
    have E_f_11 := E1.ext E11
    have F_f_text_11 := Ftx.ext E11
    have F_f_textLength_11 := Ftl.ext E11
    have A_tx_11 := AC.ext E11
    have sz11 : n0 ≤ h11.size := Nat.le_trans Z0 E11.1
    have kp11 := Keep.ext (Keep.refl h0 []) E11
    have od11 := od0.ext E11
    have F_b11_value : Fld Z h11 b11 "java/lang/String" "value" "[B" .null := D11 (Or.inr (hw _ (List.mem_of_getElem? (i := 81) rfl))) (ty := (.array .byte)) (by decide)
    have F_b11_coder : Fld Z h11 b11 "java/lang/String" "coder" "B" (.int (0 : Int32)) := D11 (Or.inr (hw _ (List.mem_of_getElem? (i := 82) rfl))) (ty := .byte) (by decide)
    refine RunW.dup d9_32 rfl (pc' := 33) rfl ?_
    refine RunW.aloadN d9_33 rfl rfl (pc' := 34) rfl ?_
    refine RunW.getF d9_34 (host := "") (Or.inl (hw _ (List.mem_of_getElem? (i := 14) rfl))) Via.refl F_f_text_11 (pc' := 37) rfl ?_
    refine RunW.iconst (0 : Int32) d9_37 (by decide) (pc' := 38) rfl ?_
    refine RunW.iloadN d9_38 rfl (pc' := 39) rfl ?_
    refine RunW.callNW (k' := 5) (n' := 12) (a := b11) (as := [(.ref tx), (.int (0 : Int32)), (.int (0 : Int32))]) (rest := [(.ref b11)]) (con_si3 l Z a0 hw n0 h11 sz11 b11 tx .null (.int (0 : Int32)) vs z fm X11 ge_b11 F_b11_value F_b11_coder od11 SF hfm A_tx_11 hlz) (allS sf11 all0) (own_EW hw) rfl rfl d9_39 (hw _ (List.mem_of_getElem? (i := 60) rfl)) (hw _ (List.mem_of_getElem? (i := 61) rfl)) (hw _ (List.mem_of_getElem? (i := 59) rfl)) (hw _ (List.mem_of_getElem? (i := 62) rfl)) (by decide) pd___CII_V rfl rfl rfl (by decide) (by show (1 : Nat) + (4 + 11) + 47 ≤ _; decide) (by decide) (by decide) (by decide) (by decide) (pc' := 42) rfl ?_
    rintro _ h12 vm12 ⟨rfl, ⟨b12, K12, X12, FV12, FC12, P12⟩⟩ c12
    show RunW l Z own_EL n0 "com/example/mappa/mappa/core/FieldText" prog_32_method_9_code 2 (some (.object "java/lang/String")) "text" ({ frames := 4, cells := 5, slots := 12, locals := 63 } : Room) _ 42 #[.val (.ref f), .val (.int (0 : Int32))] [(.ref b11)] h12 vm12 5 12
    have E_f_12 := E_f_11.keep K12
    have F_f_text_12 := F_f_text_11.keep K12 (ninS ne_f_b11 nin0)
    have F_f_textLength_12 := F_f_textLength_11.keep K12 (ninS ne_f_b11 nin0)
    have A_tx_12 := A_tx_11.keep K12 (ninS ne_tx_b11 nin0)
    have E_b11_12 := X11.keep K12
    have Z_b11_12 := CHr.safe c12 X11.lt sf11
    have sz12 : n0 ≤ h12.size := Nat.le_trans sz11 K12.1
    have kp12 := Keep.trans kp11 K12 (allS (Or.inr bo_b11) all0)
    have od12 := od11.keep K12 (allS ge_b11 all0)
    exact RunW.areturn d9_42 (ty := (.object "java/lang/String")) rfl rfl rfl (by decide) (by decide) ⟨_, rfl, b11, b12, rfl, bo_b11, Keep.toExt kp12, X12, FV12, P12⟩
  · -- pc 6 not taken: (0 : Int32) < (0 : Int32)
    exact absurd hc6 (by decide)
theorem d15_0 : decode jdk_42_method_55_code 0 = .ok (.aload_n 0, 1) := by decide +kernel
theorem d15_1 : decode jdk_42_method_55_code 1 = .ok (.getfield 9, 3) := by decide +kernel
theorem d15_4 : decode jdk_42_method_55_code 4 = .ok (.arraylength, 1) := by decide +kernel
theorem d15_5 : decode jdk_42_method_55_code 5 = .ok (.ifCond .ne 7, 3) := by decide +kernel
theorem d15_8 : decode jdk_42_method_55_code 8 = .ok (.iconst 1, 1) := by decide +kernel
theorem d15_9 : decode jdk_42_method_55_code 9 = .ok (.goto 4, 3) := by decide +kernel
theorem d15_12 : decode jdk_42_method_55_code 12 = .ok (.iconst 0, 1) := by decide +kernel
theorem d15_13 : decode jdk_42_method_55_code 13 = .ok (.ireturn, 1) := by decide +kernel
theorem pn_15 : plainFor (⟨"java/lang/String", "isEmpty", "()Z"⟩ : MethodName) = true := plainFor_of_name (by first | (simp [plainName, overriddenIn]; done) | decide +kernel)
theorem ef_con_emp (m : MethodId) (t b : Addr)  : entryFrame m #[(.ref t)] 1 = mkF m 0 #[.val (.ref t)] [] := by first | (simp [entryFrame, mkF, argsToLocals, Value.category]; done) | rfl
set_option maxRecDepth 65536 in
set_option maxHeartbeats 40000000 in
theorem con_emp (l : Launch) (Z : State) (a0 : Array Value) (hw : ∀ d ∈ tables_1, d.before a0 Z = true) (n0 : Nat) (h0 : Heap) (Z0 : n0 ≤ h0.size) (t b : Addr) (FV : Fld Z h0 t "java/lang/String" "value" "[B" (.ref b)) (AB : Ary Z h0 b .byte []) :
    Con l Z n0 (⟨"java/lang/String", "isEmpty", "()Z"⟩ : MethodName) jdk_42_method_55_code 1 (some .boolean) ({ frames := 0, cells := 0, slots := 0, locals := 0 } : Room) #[(.ref t)] h0 (Val (PV (.int (1 : Int32)) h0)) := by
  refine Con.of_run pn_15 (fun m => ef_con_emp m t b ) ?_
  refine Run.aloadN d15_0 rfl rfl (pc' := 1) rfl ?_
  refine Run.getF d15_1 (host := "") (Or.inl (hw _ (List.mem_of_getElem? (i := 85) rfl))) Via.refl FV (pc' := 4) rfl ?_
  refine Run.alen (z := (0 : Int32)) d15_4 AB rfl (pc' := 5) rfl ?_
  refine Run.if_ne d15_5 (by decide) (pc' := 12) (by decide) (pa := 8) rfl (fun hc5 => ?_) (fun hc5 => ?_)
  · -- pc 5 taken: ¬ (0 : Int32) = (0 : Int32)
    exact absurd hc5 (by decide)
  · -- pc 5 not taken: (0 : Int32) = (0 : Int32)
    refine Run.iconst (1 : Int32) d15_8 (by decide) (pc' := 9) rfl ?_
    refine Run.goto d15_9 (by decide) (pc' := 13) (by decide) ?_
    exact Run.nreturn d15_13 (ty := .boolean) rfl (by simp) (by decide) (by decide) ⟨_, rfl, rfl, rfl⟩
def own_line (v : Int32) : Int32 := v
theorem d5_0 : decode prog_32_method_3_code 0 = .ok (.aload_n 0, 1) := by decide +kernel
theorem d5_1 : decode prog_32_method_3_code 1 = .ok (.getfield 17, 3) := by decide +kernel
theorem d5_4 : decode prog_32_method_3_code 4 = .ok (.ireturn, 1) := by decide +kernel
theorem pn_5 : plainFor (⟨"com/example/mappa/mappa/core/FieldText", "line", "()I"⟩ : MethodName) = true := plainFor_of_name (by first | (simp [plainName, overriddenIn]; done) | decide +kernel)
theorem ef_con_own_line (m : MethodId) (a1 : Addr) (v : Int32)  : entryFrame m #[(.ref a1)] 1 = mkF m 0 #[.val (.ref a1)] [] := by first | (simp [entryFrame, mkF, argsToLocals, Value.category]; done) | rfl
set_option maxRecDepth 65536 in
set_option maxHeartbeats 40000000 in
theorem con_own_line (l : Launch) (Z : State) (a0 : Array Value) (hw : ∀ d ∈ tables_1, d.before a0 Z = true) (n0 : Nat) (h0 : Heap) (Z0 : n0 ≤ h0.size) (a1 : Addr) (v : Int32) (F1 : Fld Z h0 a1 "com/example/mappa/mappa/core/FieldText" "line" "I" (.int v)) :
    Con l Z n0 (⟨"com/example/mappa/mappa/core/FieldText", "line", "()I"⟩ : MethodName) prog_32_method_3_code 1 (some .int) ({ frames := 0, cells := 0, slots := 0, locals := 0 } : Room) #[(.ref a1)] h0 (Val (PV (.int (own_line v)) h0)) := by
  refine Con.of_run pn_5 (fun m => ef_con_own_line m a1 v ) ?_
  refine Run.aloadN d5_0 rfl rfl (pc' := 1) rfl ?_
  refine Run.getF d5_1 (host := "") (Or.inl (hw _ (List.mem_of_getElem? (i := 21) rfl))) Via.refl F1 (pc' := 4) rfl ?_
  exact Run.ireturn d5_4 rfl (by decide) (by decide) ⟨_, rfl, rfl, rfl⟩
def own_column (v : Int32) : Int32 := v
theorem d6_0 : decode prog_32_method_4_code 0 = .ok (.aload_n 0, 1) := by decide +kernel
theorem d6_1 : decode prog_32_method_4_code 1 = .ok (.getfield 21, 3) := by decide +kernel
theorem d6_4 : decode prog_32_method_4_code 4 = .ok (.ireturn, 1) := by decide +kernel
theorem pn_6 : plainFor (⟨"com/example/mappa/mappa/core/FieldText", "column", "()I"⟩ : MethodName) = true := plainFor_of_name (by first | (simp [plainName, overriddenIn]; done) | decide +kernel)
theorem ef_con_own_column (m : MethodId) (a1 : Addr) (v : Int32)  : entryFrame m #[(.ref a1)] 1 = mkF m 0 #[.val (.ref a1)] [] := by first | (simp [entryFrame, mkF, argsToLocals, Value.category]; done) | rfl
set_option maxRecDepth 65536 in
set_option maxHeartbeats 40000000 in
theorem con_own_column (l : Launch) (Z : State) (a0 : Array Value) (hw : ∀ d ∈ tables_1, d.before a0 Z = true) (n0 : Nat) (h0 : Heap) (Z0 : n0 ≤ h0.size) (a1 : Addr) (v : Int32) (F1 : Fld Z h0 a1 "com/example/mappa/mappa/core/FieldText" "column" "I" (.int v)) :
    Con l Z n0 (⟨"com/example/mappa/mappa/core/FieldText", "column", "()I"⟩ : MethodName) prog_32_method_4_code 1 (some .int) ({ frames := 0, cells := 0, slots := 0, locals := 0 } : Room) #[(.ref a1)] h0 (Val (PV (.int (own_column v)) h0)) := by
  refine Con.of_run pn_6 (fun m => ef_con_own_column m a1 v ) ?_
  refine Run.aloadN d6_0 rfl rfl (pc' := 1) rfl ?_
  refine Run.getF d6_1 (host := "") (Or.inl (hw _ (List.mem_of_getElem? (i := 23) rfl))) Via.refl F1 (pc' := 4) rfl ?_
  exact Run.ireturn d6_4 rfl (by decide) (by decide) ⟨_, rfl, rfl, rfl⟩
def own_max (v : Int32) : Int32 := v
theorem d7_0 : decode prog_32_method_5_code 0 = .ok (.aload_n 0, 1) := by decide +kernel
theorem d7_1 : decode prog_32_method_5_code 1 = .ok (.getfield 24, 3) := by decide +kernel
theorem d7_4 : decode prog_32_method_5_code 4 = .ok (.ireturn, 1) := by decide +kernel
theorem pn_7 : plainFor (⟨"com/example/mappa/mappa/core/FieldText", "max", "()I"⟩ : MethodName) = true := plainFor_of_name (by first | (simp [plainName, overriddenIn]; done) | decide +kernel)
theorem ef_con_own_max (m : MethodId) (a1 : Addr) (v : Int32)  : entryFrame m #[(.ref a1)] 1 = mkF m 0 #[.val (.ref a1)] [] := by first | (simp [entryFrame, mkF, argsToLocals, Value.category]; done) | rfl
set_option maxRecDepth 65536 in
set_option maxHeartbeats 40000000 in
theorem con_own_max (l : Launch) (Z : State) (a0 : Array Value) (hw : ∀ d ∈ tables_1, d.before a0 Z = true) (n0 : Nat) (h0 : Heap) (Z0 : n0 ≤ h0.size) (a1 : Addr) (v : Int32) (F1 : Fld Z h0 a1 "com/example/mappa/mappa/core/FieldText" "max" "I" (.int v)) :
    Con l Z n0 (⟨"com/example/mappa/mappa/core/FieldText", "max", "()I"⟩ : MethodName) prog_32_method_5_code 1 (some .int) ({ frames := 0, cells := 0, slots := 0, locals := 0 } : Room) #[(.ref a1)] h0 (Val (PV (.int (own_max v)) h0)) := by
  refine Con.of_run pn_7 (fun m => ef_con_own_max m a1 v ) ?_
  refine Run.aloadN d7_0 rfl rfl (pc' := 1) rfl ?_
  refine Run.getF d7_1 (host := "") (Or.inl (hw _ (List.mem_of_getElem? (i := 25) rfl))) Via.refl F1 (pc' := 4) rfl ?_
  exact Run.ireturn d7_4 rfl (by decide) (by decide) ⟨_, rfl, rfl, rfl⟩
def own_cut (v : Int32) : Int32 := (nar .boolean v)
theorem d8_0 : decode prog_32_method_6_code 0 = .ok (.aload_n 0, 1) := by decide +kernel
theorem d8_1 : decode prog_32_method_6_code 1 = .ok (.getfield 30, 3) := by decide +kernel
theorem d8_4 : decode prog_32_method_6_code 4 = .ok (.ireturn, 1) := by decide +kernel
theorem pn_8 : plainFor (⟨"com/example/mappa/mappa/core/FieldText", "cut", "()Z"⟩ : MethodName) = true := plainFor_of_name (by first | (simp [plainName, overriddenIn]; done) | decide +kernel)
theorem ef_con_own_cut (m : MethodId) (a1 : Addr) (v : Int32)  : entryFrame m #[(.ref a1)] 1 = mkF m 0 #[.val (.ref a1)] [] := by first | (simp [entryFrame, mkF, argsToLocals, Value.category]; done) | rfl
set_option maxRecDepth 65536 in
set_option maxHeartbeats 40000000 in
theorem con_own_cut (l : Launch) (Z : State) (a0 : Array Value) (hw : ∀ d ∈ tables_1, d.before a0 Z = true) (n0 : Nat) (h0 : Heap) (Z0 : n0 ≤ h0.size) (a1 : Addr) (v : Int32) (F1 : Fld Z h0 a1 "com/example/mappa/mappa/core/FieldText" "cut" "Z" (.int v)) :
    Con l Z n0 (⟨"com/example/mappa/mappa/core/FieldText", "cut", "()Z"⟩ : MethodName) prog_32_method_6_code 1 (some .boolean) ({ frames := 0, cells := 0, slots := 0, locals := 0 } : Room) #[(.ref a1)] h0 (Val (PV (.int (own_cut v)) h0)) := by
  refine Con.of_run pn_8 (fun m => ef_con_own_cut m a1 v ) ?_
  refine Run.aloadN d8_0 rfl rfl (pc' := 1) rfl ?_
  refine Run.getF d8_1 (host := "") (Or.inl (hw _ (List.mem_of_getElem? (i := 29) rfl))) Via.refl F1 (pc' := 4) rfl ?_
  exact Run.nreturn d8_4 (ty := .boolean) rfl (by simp) (by decide) (by decide) ⟨_, rfl, rfl, rfl⟩
def own_pick (p1 : Int32) : Int32 := (if ((p1 &&& (255 : Int32)) &&& (128 : Int32)) = (0 : Int32) then (nar .char (nar .char ((p1 &&& (255 : Int32)) &&& (127 : Int32)))) else (if ((p1 &&& (255 : Int32)) &&& (3 : Int32)) = (0 : Int32) then (nar .char (32 : Int32)) else (if ((p1 &&& (255 : Int32)) &&& (3 : Int32)) = (1 : Int32) then (nar .char (9 : Int32)) else (if ((p1 &&& (255 : Int32)) &&& (3 : Int32)) = (2 : Int32) then (nar .char (13 : Int32)) else (nar .char (10 : Int32))))))
theorem d1_0 : decode method_2_code 0 = .ok (.iload_n 0, 1) := by decide +kernel
theorem d1_1 : decode method_2_code 1 = .ok (.sipush 255, 3) := by decide +kernel
theorem d1_4 : decode method_2_code 4 = .ok (.iand, 1) := by decide +kernel
theorem d1_5 : decode method_2_code 5 = .ok (.istore_n 1, 1) := by decide +kernel
theorem d1_6 : decode method_2_code 6 = .ok (.iload_n 1, 1) := by decide +kernel
theorem d1_7 : decode method_2_code 7 = .ok (.sipush 128, 3) := by decide +kernel
theorem d1_10 : decode method_2_code 10 = .ok (.iand, 1) := by decide +kernel
theorem d1_11 : decode method_2_code 11 = .ok (.ifCond .eq 33, 3) := by decide +kernel
theorem d1_14 : decode method_2_code 14 = .ok (.iload_n 1, 1) := by decide +kernel
theorem d1_15 : decode method_2_code 15 = .ok (.iconst 3, 1) := by decide +kernel
theorem d1_16 : decode method_2_code 16 = .ok (.iand, 1) := by decide +kernel
theorem d1_17 : decode method_2_code 17 = .ok (.istore_n 2, 1) := by decide +kernel
theorem d1_18 : decode method_2_code 18 = .ok (.iload_n 2, 1) := by decide +kernel
theorem d1_19 : decode method_2_code 19 = .ok (.ifCond .ne 6, 3) := by decide +kernel
theorem d1_22 : decode method_2_code 22 = .ok (.bipush 32, 2) := by decide +kernel
theorem d1_24 : decode method_2_code 24 = .ok (.ireturn, 1) := by decide +kernel
theorem d1_25 : decode method_2_code 25 = .ok (.iload_n 2, 1) := by decide +kernel
theorem d1_26 : decode method_2_code 26 = .ok (.iconst 1, 1) := by decide +kernel
theorem d1_27 : decode method_2_code 27 = .ok (.if_icmp .ne 6, 3) := by decide +kernel
theorem d1_30 : decode method_2_code 30 = .ok (.bipush 9, 2) := by decide +kernel
theorem d1_32 : decode method_2_code 32 = .ok (.ireturn, 1) := by decide +kernel
theorem d1_33 : decode method_2_code 33 = .ok (.iload_n 2, 1) := by decide +kernel
theorem d1_34 : decode method_2_code 34 = .ok (.iconst 2, 1) := by decide +kernel
theorem d1_35 : decode method_2_code 35 = .ok (.if_icmp .ne 6, 3) := by decide +kernel
theorem d1_38 : decode method_2_code 38 = .ok (.bipush 13, 2) := by decide +kernel
theorem d1_40 : decode method_2_code 40 = .ok (.ireturn, 1) := by decide +kernel
theorem d1_41 : decode method_2_code 41 = .ok (.bipush 10, 2) := by decide +kernel
theorem d1_43 : decode method_2_code 43 = .ok (.ireturn, 1) := by decide +kernel
theorem d1_44 : decode method_2_code 44 = .ok (.iload_n 1, 1) := by decide +kernel
theorem d1_45 : decode method_2_code 45 = .ok (.bipush 127, 2) := by decide +kernel
theorem d1_47 : decode method_2_code 47 = .ok (.iand, 1) := by decide +kernel
theorem d1_48 : decode method_2_code 48 = .ok (.i2c, 1) := by decide +kernel
theorem d1_49 : decode method_2_code 49 = .ok (.ireturn, 1) := by decide +kernel
theorem pn_1 : plainFor (⟨"com/example/mappa/mappa/core/FieldTextRestartPinLaw", "pick", "(I)C"⟩ : MethodName) = true := plainFor_of_name (by first | (simp [plainName, overriddenIn]; done) | decide +kernel)
theorem ef_con_own_pick (m : MethodId) (p1 : Int32)  : entryFrame m #[(.int p1)] 3 = mkF m 0 #[.val (.int p1), .unset, .unset] [] := by first | (simp [entryFrame, mkF, argsToLocals, Value.category]; done) | rfl
set_option maxRecDepth 65536 in
set_option maxHeartbeats 40000000 in
theorem con_own_pick (l : Launch) (Z : State) (a0 : Array Value) (hw : ∀ d ∈ tables_1, d.before a0 Z = true) (n0 : Nat) (h0 : Heap) (Z0 : n0 ≤ h0.size) (p1 : Int32)  :
    Con l Z n0 (⟨"com/example/mappa/mappa/core/FieldTextRestartPinLaw", "pick", "(I)C"⟩ : MethodName) method_2_code 3 (some .char) ({ frames := 0, cells := 0, slots := 0, locals := 0 } : Room) #[(.int p1)] h0 (Val (PV (.int (own_pick p1)) h0)) := by
  refine Con.of_run pn_1 (fun m => ef_con_own_pick m p1 ) ?_
  refine Run.iloadN d1_0 rfl (pc' := 1) rfl ?_
  refine Run.sipush (255 : Int32) d1_1 (by decide) (pc' := 4) rfl ?_
  refine Run.iand d1_4 (pc' := 5) rfl ?_
  refine Run.istoreN (l' := #[.val (.int p1), .val (.int (p1 &&& (255 : Int32))), .unset]) d1_5 rfl (pc' := 6) rfl ?_
  refine Run.iloadN d1_6 rfl (pc' := 7) rfl ?_
  refine Run.sipush (128 : Int32) d1_7 (by decide) (pc' := 10) rfl ?_
  refine Run.iand d1_10 (pc' := 11) rfl ?_
  refine Run.if_eq d1_11 (by decide) (pc' := 44) (by decide) (pa := 14) rfl (fun hc11 => ?_) (fun hc11 => ?_)
  · -- pc 11 taken: ((p1 &&& (255 : Int32)) &&& (128 : Int32)) = (0 : Int32)
    refine Run.iloadN d1_44 rfl (pc' := 45) rfl ?_
    refine Run.bipush (127 : Int32) d1_45 (by decide) (pc' := 47) rfl ?_
    refine Run.iand d1_47 (pc' := 48) rfl ?_
    refine Run.i2c d1_48 (pc' := 49) rfl ?_
    exact Run.nreturn d1_49 (ty := .char) rfl (by simp) (by decide) (by decide) ⟨_, rfl, congrArg Value.int (by unfold own_pick; rw [if_pos hc11] <;> rfl), rfl⟩
  · -- pc 11 not taken: ¬ ((p1 &&& (255 : Int32)) &&& (128 : Int32)) = (0 : Int32)
    refine Run.iloadN d1_14 rfl (pc' := 15) rfl ?_
    refine Run.iconst (3 : Int32) d1_15 (by decide) (pc' := 16) rfl ?_
    refine Run.iand d1_16 (pc' := 17) rfl ?_
    refine Run.istoreN (l' := #[.val (.int p1), .val (.int (p1 &&& (255 : Int32))), .val (.int ((p1 &&& (255 : Int32)) &&& (3 : Int32)))]) d1_17 rfl (pc' := 18) rfl ?_
    refine Run.iloadN d1_18 rfl (pc' := 19) rfl ?_
    refine Run.if_ne d1_19 (by decide) (pc' := 25) (by decide) (pa := 22) rfl (fun hc19 => ?_) (fun hc19 => ?_)
    · -- pc 19 taken: ¬ ((p1 &&& (255 : Int32)) &&& (3 : Int32)) = (0 : Int32)
      refine Run.iloadN d1_25 rfl (pc' := 26) rfl ?_
      refine Run.iconst (1 : Int32) d1_26 (by decide) (pc' := 27) rfl ?_
      refine Run.icmp_ne d1_27 (by decide) (pc' := 33) (by decide) (pa := 30) rfl (fun hc27 => ?_) (fun hc27 => ?_)
      · -- pc 27 taken: ¬ ((p1 &&& (255 : Int32)) &&& (3 : Int32)) = (1 : Int32)
        refine Run.iloadN d1_33 rfl (pc' := 34) rfl ?_
        refine Run.iconst (2 : Int32) d1_34 (by decide) (pc' := 35) rfl ?_
        refine Run.icmp_ne d1_35 (by decide) (pc' := 41) (by decide) (pa := 38) rfl (fun hc35 => ?_) (fun hc35 => ?_)
        · -- pc 35 taken: ¬ ((p1 &&& (255 : Int32)) &&& (3 : Int32)) = (2 : Int32)
          refine Run.bipush (10 : Int32) d1_41 (by decide) (pc' := 43) rfl ?_
          exact Run.nreturn d1_43 (ty := .char) rfl (by simp) (by decide) (by decide) ⟨_, rfl, congrArg Value.int (by unfold own_pick; rw [if_neg hc11, if_neg hc19, if_neg hc27, if_neg hc35] <;> rfl), rfl⟩
        · -- pc 35 not taken: ((p1 &&& (255 : Int32)) &&& (3 : Int32)) = (2 : Int32)
          refine Run.bipush (13 : Int32) d1_38 (by decide) (pc' := 40) rfl ?_
          exact Run.nreturn d1_40 (ty := .char) rfl (by simp) (by decide) (by decide) ⟨_, rfl, congrArg Value.int (by unfold own_pick; rw [if_neg hc11, if_neg hc19, if_neg hc27, if_pos hc35] <;> rfl), rfl⟩
      · -- pc 27 not taken: ((p1 &&& (255 : Int32)) &&& (3 : Int32)) = (1 : Int32)
        refine Run.bipush (9 : Int32) d1_30 (by decide) (pc' := 32) rfl ?_
        exact Run.nreturn d1_32 (ty := .char) rfl (by simp) (by decide) (by decide) ⟨_, rfl, congrArg Value.int (by unfold own_pick; rw [if_neg hc11, if_neg hc19, if_pos hc27] <;> rfl), rfl⟩
    · -- pc 19 not taken: ((p1 &&& (255 : Int32)) &&& (3 : Int32)) = (0 : Int32)
      refine Run.bipush (32 : Int32) d1_22 (by decide) (pc' := 24) rfl ?_
      exact Run.nreturn d1_24 (ty := .char) rfl (by simp) (by decide) (by decide) ⟨_, rfl, congrArg Value.int (by unfold own_pick; rw [if_neg hc11, if_pos hc19] <;> rfl), rfl⟩
theorem own_mx (x : Int32) : 0 ≤ (x &&& (7 : Int32)).toInt ∧ (x &&& (7 : Int32)).toInt ≤ 64 := by
  have h := c_mask x 7 3 (by decide) (by decide); omega
theorem own_fitc (x : Int32) : fits .char (.int (nar .char x)) = true := fits_nar_char x
theorem own_fit4 (a b c d : Int32) : ∀ v ∈ [nar .char a, nar .char b, nar .char c, nar .char d].map Value.int, fits .char v = true := by
  intro v hv; simp only [List.map_cons, List.map_nil, List.mem_cons, List.not_mem_nil, or_false] at hv
  rcases hv with rfl | rfl | rfl | rfl <;> exact own_fitc _
theorem own_fit0 (m : Nat) : ∀ v ∈ List.replicate m (Value.int (0 : Int32)), fits .char v = true := by
  intro v hv; rw [List.eq_of_mem_replicate hv]; decide
theorem own_newlen {cs : List Int32} {vs : List Value} {ln : Nat} {m : Int32} (hv : vs.length = 64) (hl : ln ≤ cs.length) (hm : 0 ≤ m.toInt ∧ m.toInt ≤ 64) : (((cs.map Value.int).drop (own_lead (cs.take ln))).take (own_held ln (own_lead (cs.take ln)) m) ++ List.drop (own_held ln (own_lead (cs.take ln)) m) vs).length = 64 := by
  have h1 := own_lead_le (cs.take ln); have h2 := own_heldB (ln := ln) (fr := own_lead (cs.take ln)) hm
  rw [List.length_take] at h1
  simp only [List.length_append, List.length_take, List.length_drop, List.length_map, hv]; omega
theorem pn_0 : plainFor x = true := plainFor_of_name (by first | (simp [plainName, overriddenIn]; done) | decide +kernel)
theorem pd___I : parseMethodDescriptor "()I" = some ⟨[], some .int⟩ := by decide +kernel
theorem pd___Ljava_lang_String_ : parseMethodDescriptor "()Ljava/lang/String;" = some ⟨[], some (.object "java/lang/String")⟩ := by decide +kernel
theorem pd___Z : parseMethodDescriptor "()Z" = some ⟨[], some .boolean⟩ := by decide +kernel
theorem pd__I_C : parseMethodDescriptor "(I)C" = some ⟨[.int], some .char⟩ := by decide +kernel
theorem pd__III_V : parseMethodDescriptor "(III)V" = some ⟨[.int, .int, .int], none⟩ := by decide +kernel
theorem ef_con0 (m : MethodId) (p1 : Int32) (p2 : Int32) (p3 : Int32) (p4 : Int32) (p5 : Int32) (p6 : Int32) (fm : Value)  : entryFrame m #[(.int p1), (.int p2), (.int p3), (.int p4), (.int p5), (.int p6)] maxLocals = mkF m 0 #[.val (.int p1), .val (.int p2), .val (.int p3), .val (.int p4), .val (.int p5), .val (.int p6), .unset, .unset, .unset, .unset] [] := by first | (simp [entryFrame, mkF, argsToLocals, Value.category, maxLocals]; done) | rfl
set_option maxRecDepth 65536 in
set_option maxHeartbeats 40000000 in
theorem con0 (l : Launch) (Z : State) (a0 : Array Value) (hw : ∀ d ∈ tables_1, d.before a0 Z = true) (n0 : Nat) (h0 : Heap) (Z0 : n0 ≤ h0.size) (p1 : Int32) (p2 : Int32) (p3 : Int32) (p4 : Int32) (p5 : Int32) (p6 : Int32) (fm : Value) (od0 : Old Z n0 h0) (SF : Sta Z Z.heap "jdk/internal/util/Preconditions" "SIOOBE_FORMATTER" "Ljava/util/function/BiFunction;" fm) (hfm : fm.isRef = true) :
    ConW l Z own_EL n0 x code maxLocals ret room_1 #[(.int p1), (.int p2), (.int p3), (.int p4), (.int p5), (.int p6)] h0 [] (Val fun w _ => w = .int 1) := by
  refine ConW.of_run (own_EW hw) pn_0 (fun m => ef_con0 m p1 p2 p3 p4 p5 p6 fm ) ?_
  intro vm hal hsf
  refine RunW.iloadN at_0 rfl (pc' := 1) rfl ?_
  refine RunW.bipush (7 : Int32) at_1 (by decide) (pc' := 3) rfl ?_
  refine RunW.iand at_3 (pc' := 4) rfl ?_
  refine RunW.istore (l' := #[.val (.int p1), .val (.int p2), .val (.int p3), .val (.int p4), .val (.int p5), .val (.int p6), .val (.int (p1 &&& (7 : Int32))), .unset, .unset, .unset]) at_4 rfl (pc' := 6) rfl ?_
  refine RunW.iconst (4 : Int32) at_6 (by decide) (pc' := 7) rfl ?_
  refine RunW.newP (ty := .char) (m := 4) (cap := 4) (dv := (.int (0 : Int32))) (k' := 1) (n' := 4) at_7 rfl (hw _ (List.mem_of_getElem? (i := 0) rfl)) (by decide) (by decide) (Nat.le_refl _) rfl (by decide) (by decide) (by decide) (by decide) (by decide) (pc' := 9) rfl ?_
  intro h11 b11 g11 E11 A11 c11 sf11
  have ge_b11 : n0 ≤ b11 := by rw [g11]; exact Z0
  have bo_b11 : h0.size ≤ b11 := by rw [g11]; exact (Keep.refl h0 []).1
  have sz11 : n0 ≤ h11.size := Nat.le_trans Z0 E11.1
  have kp11 := Keep.ext (Keep.refl h0 []) E11
  have od11 := od0.ext E11
  replace A11 : Ary Z h11 b11 .char [(.int (0 : Int32)), (.int (0 : Int32)), (.int (0 : Int32)), (.int (0 : Int32))] := A11
  refine RunW.astore (l' := #[.val (.int p1), .val (.int p2), .val (.int p3), .val (.int p4), .val (.int p5), .val (.int p6), .val (.int (p1 &&& (7 : Int32))), .val (.ref b11), .unset, .unset]) at_9 rfl rfl (pc' := 11) rfl ?_
  refine RunW.aload at_11 rfl rfl (pc' := 13) rfl ?_
  refine RunW.iconst (0 : Int32) at_13 (by decide) (pc' := 14) rfl ?_
  refine RunW.iloadN at_14 rfl (pc' := 15) rfl ?_
  refine RunW.callS (k' := 1) (n' := 4) (as := [(.int p2)]) (rest := [(.int (0 : Int32)), (.ref b11)]) (con_own_pick l Z a0 hw n0 h11 sz11 p2 ) (by rintro _ _ ⟨_, -, -, rfl⟩; exact ⟨[], Keep.refl _ _, all0⟩) at_15 (hw _ (List.mem_of_getElem? (i := 1) rfl)) (hw _ (List.mem_of_getElem? (i := 2) rfl)) (hw _ (List.mem_of_getElem? (i := 3) rfl)) (hw _ (List.mem_of_getElem? (i := 4) rfl)) (by decide) pd__I_C rfl rfl rfl (by decide) (by show (2 : Nat) + (3 + 11) + 0 ≤ _; decide) (by decide) (by decide) (by decide) (by decide) (pc' := 18) rfl ?_
  rintro _ _ ⟨_, rfl, rfl, rfl⟩ -
  show RunW l Z own_EL n0 x.cls code maxLocals ret x.name room_1 _ 18 #[.val (.int p1), .val (.int p2), .val (.int p3), .val (.int p4), .val (.int p5), .val (.int p6), .val (.int (p1 &&& (7 : Int32))), .val (.ref b11), .unset, .unset] [(.int (own_pick p2)), (.int (0 : Int32)), (.ref b11)] h11 vm 1 4
  refine RunW.castore (i := 0) at_18 A11 (by decide) (by show (0 : Nat) < 4; decide) ge_b11 sf11 (pc' := 19) rfl ?_
  intro h12 W12 c12 A12
  replace A12 : Ary Z h12 b11 .char [(.int (nar .char (own_pick p2))), (.int (0 : Int32)), (.int (0 : Int32)), (.int (0 : Int32))] := A12
  have Z_b11_12 := CHr.safe c12 A11.lt sf11
  have sz12 : n0 ≤ h12.size := by rw [W12.size]; exact sz11
  have kp12 := Keep.wr kp11 W12 (Or.inr bo_b11)
  have od12 := od11.wr W12 ge_b11
  refine RunW.aload at_19 rfl rfl (pc' := 21) rfl ?_
  refine RunW.iconst (1 : Int32) at_21 (by decide) (pc' := 22) rfl ?_
  refine RunW.iloadN at_22 rfl (pc' := 23) rfl ?_
  refine RunW.bipush (8 : Int32) at_23 (by decide) (pc' := 25) rfl ?_
  refine RunW.iushr at_25 (pc' := 26) rfl ?_
  refine RunW.callS (k' := 1) (n' := 4) (as := [(.int (XT.ushr p2 (8 : Int32)))]) (rest := [(.int (1 : Int32)), (.ref b11)]) (con_own_pick l Z a0 hw n0 h12 sz12 (XT.ushr p2 (8 : Int32)) ) (by rintro _ _ ⟨_, -, -, rfl⟩; exact ⟨[], Keep.refl _ _, all0⟩) at_26 (hw _ (List.mem_of_getElem? (i := 1) rfl)) (hw _ (List.mem_of_getElem? (i := 2) rfl)) (hw _ (List.mem_of_getElem? (i := 3) rfl)) (hw _ (List.mem_of_getElem? (i := 4) rfl)) (by decide) pd__I_C rfl rfl rfl (by decide) (by show (2 : Nat) + (3 + 11) + 0 ≤ _; decide) (by decide) (by decide) (by decide) (by decide) (pc' := 29) rfl ?_
  rintro _ _ ⟨_, rfl, rfl, rfl⟩ -
  show RunW l Z own_EL n0 x.cls code maxLocals ret x.name room_1 _ 29 #[.val (.int p1), .val (.int p2), .val (.int p3), .val (.int p4), .val (.int p5), .val (.int p6), .val (.int (p1 &&& (7 : Int32))), .val (.ref b11), .unset, .unset] [(.int (own_pick (XT.ushr p2 (8 : Int32)))), (.int (1 : Int32)), (.ref b11)] h12 vm 1 4
  refine RunW.castore (i := 1) at_29 A12 (by decide) (by show (1 : Nat) < 4; decide) ge_b11 Z_b11_12 (pc' := 30) rfl ?_
  intro h13 W13 c13 A13
  replace A13 : Ary Z h13 b11 .char [(.int (nar .char (own_pick p2))), (.int (nar .char (own_pick (XT.ushr p2 (8 : Int32))))), (.int (0 : Int32)), (.int (0 : Int32))] := A13
  have Z_b11_13 := CHr.safe c13 A12.lt Z_b11_12
  have sz13 : n0 ≤ h13.size := by rw [W13.size]; exact sz12
  have kp13 := Keep.wr kp12 W13 (Or.inr bo_b11)
  have od13 := od12.wr W13 ge_b11
  refine RunW.aload at_30 rfl rfl (pc' := 32) rfl ?_
  refine RunW.iconst (2 : Int32) at_32 (by decide) (pc' := 33) rfl ?_
  refine RunW.iloadN at_33 rfl (pc' := 34) rfl ?_
  refine RunW.bipush (16 : Int32) at_34 (by decide) (pc' := 36) rfl ?_
  refine RunW.iushr at_36 (pc' := 37) rfl ?_
  refine RunW.callS (k' := 1) (n' := 4) (as := [(.int (XT.ushr p2 (16 : Int32)))]) (rest := [(.int (2 : Int32)), (.ref b11)]) (con_own_pick l Z a0 hw n0 h13 sz13 (XT.ushr p2 (16 : Int32)) ) (by rintro _ _ ⟨_, -, -, rfl⟩; exact ⟨[], Keep.refl _ _, all0⟩) at_37 (hw _ (List.mem_of_getElem? (i := 1) rfl)) (hw _ (List.mem_of_getElem? (i := 2) rfl)) (hw _ (List.mem_of_getElem? (i := 3) rfl)) (hw _ (List.mem_of_getElem? (i := 4) rfl)) (by decide) pd__I_C rfl rfl rfl (by decide) (by show (2 : Nat) + (3 + 11) + 0 ≤ _; decide) (by decide) (by decide) (by decide) (by decide) (pc' := 40) rfl ?_
  rintro _ _ ⟨_, rfl, rfl, rfl⟩ -
  show RunW l Z own_EL n0 x.cls code maxLocals ret x.name room_1 _ 40 #[.val (.int p1), .val (.int p2), .val (.int p3), .val (.int p4), .val (.int p5), .val (.int p6), .val (.int (p1 &&& (7 : Int32))), .val (.ref b11), .unset, .unset] [(.int (own_pick (XT.ushr p2 (16 : Int32)))), (.int (2 : Int32)), (.ref b11)] h13 vm 1 4
  refine RunW.castore (i := 2) at_40 A13 (by decide) (by show (2 : Nat) < 4; decide) ge_b11 Z_b11_13 (pc' := 41) rfl ?_
  intro h14 W14 c14 A14
  replace A14 : Ary Z h14 b11 .char [(.int (nar .char (own_pick p2))), (.int (nar .char (own_pick (XT.ushr p2 (8 : Int32))))), (.int (nar .char (own_pick (XT.ushr p2 (16 : Int32))))), (.int (0 : Int32))] := A14
  have Z_b11_14 := CHr.safe c14 A13.lt Z_b11_13
  have sz14 : n0 ≤ h14.size := by rw [W14.size]; exact sz13
  have kp14 := Keep.wr kp13 W14 (Or.inr bo_b11)
  have od14 := od13.wr W14 ge_b11
  refine RunW.aload at_41 rfl rfl (pc' := 43) rfl ?_
  refine RunW.iconst (3 : Int32) at_43 (by decide) (pc' := 44) rfl ?_
  refine RunW.iloadN at_44 rfl (pc' := 45) rfl ?_
  refine RunW.bipush (24 : Int32) at_45 (by decide) (pc' := 47) rfl ?_
  refine RunW.iushr at_47 (pc' := 48) rfl ?_
  refine RunW.callS (k' := 1) (n' := 4) (as := [(.int (XT.ushr p2 (24 : Int32)))]) (rest := [(.int (3 : Int32)), (.ref b11)]) (con_own_pick l Z a0 hw n0 h14 sz14 (XT.ushr p2 (24 : Int32)) ) (by rintro _ _ ⟨_, -, -, rfl⟩; exact ⟨[], Keep.refl _ _, all0⟩) at_48 (hw _ (List.mem_of_getElem? (i := 1) rfl)) (hw _ (List.mem_of_getElem? (i := 2) rfl)) (hw _ (List.mem_of_getElem? (i := 3) rfl)) (hw _ (List.mem_of_getElem? (i := 4) rfl)) (by decide) pd__I_C rfl rfl rfl (by decide) (by show (2 : Nat) + (3 + 11) + 0 ≤ _; decide) (by decide) (by decide) (by decide) (by decide) (pc' := 51) rfl ?_
  rintro _ _ ⟨_, rfl, rfl, rfl⟩ -
  show RunW l Z own_EL n0 x.cls code maxLocals ret x.name room_1 _ 51 #[.val (.int p1), .val (.int p2), .val (.int p3), .val (.int p4), .val (.int p5), .val (.int p6), .val (.int (p1 &&& (7 : Int32))), .val (.ref b11), .unset, .unset] [(.int (own_pick (XT.ushr p2 (24 : Int32)))), (.int (3 : Int32)), (.ref b11)] h14 vm 1 4
  refine RunW.castore (i := 3) at_51 A14 (by decide) (by show (3 : Nat) < 4; decide) ge_b11 Z_b11_14 (pc' := 52) rfl ?_
  intro h15 W15 c15 A15
  replace A15 : Ary Z h15 b11 .char [(.int (nar .char (own_pick p2))), (.int (nar .char (own_pick (XT.ushr p2 (8 : Int32))))), (.int (nar .char (own_pick (XT.ushr p2 (16 : Int32))))), (.int (nar .char (own_pick (XT.ushr p2 (24 : Int32)))))] := A15
  have Z_b11_15 := CHr.safe c15 A14.lt Z_b11_14
  have sz15 : n0 ≤ h15.size := by rw [W15.size]; exact sz14
  have kp15 := Keep.wr kp14 W15 (Or.inr bo_b11)
  have od15 := od14.wr W15 ge_b11
  refine RunW.newO (k' := 2) (n' := 10) at_52 (hw _ (List.mem_of_getElem? (i := 5) rfl)) (hw _ (List.mem_of_getElem? (i := 6) rfl)) (hw _ (List.mem_of_getElem? (i := 7) rfl)) (by decide) (by decide) (by decide) (by decide) (pc' := 55) rfl ?_
  intro h16 b16 g16 E16 X16 D16 c16 sf16
  have ge_b16 : n0 ≤ b16 := by rw [g16]; exact sz15
  have bo_b16 : h0.size ≤ b16 := by rw [g16]; exact kp15.1
  have ne_b11_b16 : b11 ≠ b16 := by rw [g16]; exact Nat.ne_of_lt A15.lt
  have Z_b11_16 := CHr.safe c16 A15.lt Z_b11_15
  have A_b11_16 := A15.ext E16
  have sz16 : n0 ≤ h16.size := Nat.le_trans sz15 E16.1
  have kp16 := Keep.ext kp15 E16
  have od16 := od15.ext E16
  have F_b16_text : Fld Z h16 b16 "com/example/mappa/mappa/core/FieldText" "text" "[C" .null := D16 (Or.inl (hw _ (List.mem_of_getElem? (i := 15) rfl))) (ty := (.array .char)) (by decide)
  have F_b16_line : Fld Z h16 b16 "com/example/mappa/mappa/core/FieldText" "line" "I" (.int (0 : Int32)) := D16 (Or.inl (hw _ (List.mem_of_getElem? (i := 22) rfl))) (ty := .int) (by decide)
  have F_b16_column : Fld Z h16 b16 "com/example/mappa/mappa/core/FieldText" "column" "I" (.int (0 : Int32)) := D16 (Or.inl (hw _ (List.mem_of_getElem? (i := 24) rfl))) (ty := .int) (by decide)
  have F_b16_max : Fld Z h16 b16 "com/example/mappa/mappa/core/FieldText" "max" "I" (.int (0 : Int32)) := D16 (Or.inl (hw _ (List.mem_of_getElem? (i := 26) rfl))) (ty := .int) (by decide)
  have F_b16_textLength : Fld Z h16 b16 "com/example/mappa/mappa/core/FieldText" "textLength" "I" (.int (0 : Int32)) := D16 (Or.inl (hw _ (List.mem_of_getElem? (i := 28) rfl))) (ty := .int) (by decide)
  have F_b16_cut : Fld Z h16 b16 "com/example/mappa/mappa/core/FieldText" "cut" "Z" (.int (0 : Int32)) := D16 (Or.inl (hw _ (List.mem_of_getElem? (i := 30) rfl))) (ty := .boolean) (by decide)
  refine RunW.dup at_55 rfl (pc' := 56) rfl ?_
  refine RunW.iloadN at_56 rfl (pc' := 57) rfl ?_
  refine RunW.iloadN at_57 rfl (pc' := 58) rfl ?_
  refine RunW.iconst (-1 : Int32) at_58 (by decide) (pc' := 59) rfl ?_
  refine RunW.ixor at_59 (pc' := 60) rfl ?_
  refine RunW.iload at_60 rfl (pc' := 62) rfl ?_
  refine RunW.callN (k' := 3) (n' := 74) (a := b16) (as := [(.int p3), (.int (p3 ^^^ (-1 : Int32))), (.int (p1 &&& (7 : Int32)))]) (rest := [(.ref b16)]) (con_fti l Z a0 hw n0 h16 sz16 b16 p3 (p3 ^^^ (-1 : Int32)) (p1 &&& (7 : Int32)) X16 ge_b16 F_b16_line F_b16_column F_b16_max F_b16_textLength F_b16_cut F_b16_text) (by rintro _ _ ⟨rfl, ⟨tx_, bw_, K_, Pline__, Pcolumn__, Pmax__, PtextLength__, Pcut__, Ptext__, PA_⟩⟩; exact ⟨[b16], K_, (allS sf16 all0)⟩) rfl rfl at_62 (hw _ (List.mem_of_getElem? (i := 8) rfl)) (hw _ (List.mem_of_getElem? (i := 9) rfl)) (hw _ (List.mem_of_getElem? (i := 7) rfl)) (hw _ (List.mem_of_getElem? (i := 10) rfl)) (by decide) pd__III_V rfl rfl rfl (by decide) (by show (1 : Nat) + (4 + 11) + 15 ≤ _; decide) (by decide) (by decide) (by decide) (by decide) (pc' := 65) rfl ?_
  rintro _ h17 ⟨rfl, ⟨tx17, bw17, K17, Pline_17, Pcolumn_17, Pmax_17, PtextLength_17, Pcut_17, Ptext_17, PA17⟩⟩ c17
  show RunW l Z own_EL n0 x.cls code maxLocals ret x.name room_1 _ 65 #[.val (.int p1), .val (.int p2), .val (.int p3), .val (.int p4), .val (.int p5), .val (.int p6), .val (.int (p1 &&& (7 : Int32))), .val (.ref b11), .unset, .unset] [(.ref b16)] h17 vm 3 74
  have ge_tx17 : n0 ≤ tx17 := Nat.le_trans sz16 bw17
  have bo_tx17 : h0.size ≤ tx17 := Nat.le_trans kp16.1 bw17
  have ne_b11_tx17 : b11 ≠ tx17 := Nat.ne_of_lt (Nat.lt_of_lt_of_le A_b11_16.lt bw17)
  have ne_b16_tx17 : b16 ≠ tx17 := Nat.ne_of_lt (Nat.lt_of_lt_of_le X16.lt bw17)
  have Z_b11_17 := CHr.safe c17 A_b11_16.lt Z_b11_16
  have A_b11_17 := A_b11_16.keep K17 (ninS ne_b11_b16 nin0)
  have E_b16_17 := X16.keep K17
  have Z_b16_17 := CHr.safe c17 X16.lt sf16
  have sz17 : n0 ≤ h17.size := Nat.le_trans sz16 K17.1
  have kp17 := Keep.trans kp16 K17 (allS (Or.inr bo_b16) all0)
  have od17 := od16.keep K17 (allS ge_b16 all0)
  refine RunW.astore (l' := #[.val (.int p1), .val (.int p2), .val (.int p3), .val (.int p4), .val (.int p5), .val (.int p6), .val (.int (p1 &&& (7 : Int32))), .val (.ref b11), .val (.ref b16), .unset]) at_65 rfl rfl (pc' := 67) rfl ?_
  refine RunW.iloadN at_67 rfl (pc' := 68) rfl ?_
  refine RunW.bipush (8 : Int32) at_68 (by decide) (pc' := 70) rfl ?_
  refine RunW.iand at_70 (pc' := 71) rfl ?_
  refine RunW.if_eq at_71 (by decide) (pc' := 83) (by decide) (pa := 74) rfl (fun hc71 => ?_) (fun hc71 => ?_)
  · -- pc 71 taken: (p1 &&& (8 : Int32)) = (0 : Int32)
    refine RunW.aload at_83 rfl rfl (pc' := 85) rfl ?_
    refine RunW.iloadN at_85 rfl (pc' := 86) rfl ?_
    refine RunW.iload at_86 rfl (pc' := 88) rfl ?_
    refine RunW.iload at_88 rfl (pc' := 90) rfl ?_
    refine RunW.callV (k' := 3) (n' := 74) (a := b16) (as := [(.int p4), (.int p5), (.int p6)]) (rest := []) (con_rst l Z a0 hw n0 h17 sz17 b16 p4 p5 p6 (.int p3) (.int (p3 ^^^ (-1 : Int32))) (.int (p1 &&& (7 : Int32))) (.int (0 : Int32)) (.int (0 : Int32)) (.ref tx17) E_b16_17 ge_b16 Pline_17 Pcolumn_17 Pmax_17 PtextLength_17 Pcut_17 Ptext_17 ) (by rintro _ _ ⟨_, rfl, ⟨rfl, K_, Pline__, Pcolumn__, Pmax__, PtextLength__, Pcut__, Ptext__⟩⟩; exact ⟨[b16], K_, (allS Z_b16_17 all0)⟩) E_b16_17 at_90 (hw _ (List.mem_of_getElem? (i := 31) rfl)) (hw _ (List.mem_of_getElem? (i := 17) rfl)) (fun s hZ => notFace_of_selects (args := #[]) (mvT hZ (hw _ (List.mem_of_getElem? (i := 19) rfl)))) (hw _ (List.mem_of_getElem? (i := 19) rfl)) (hw _ (List.mem_of_getElem? (i := 18) rfl)) (hw _ (List.mem_of_getElem? (i := 7) rfl)) (hw _ (List.mem_of_getElem? (i := 20) rfl)) (by decide) pd__III_Lcom_example_mappa_mappa_core_FieldText_ rfl rfl rfl (by decide) (by show (0 : Nat) + (4 + 11) + 0 ≤ _; decide) (by decide) (by decide) (by decide) (by decide) (pc' := 93) rfl ?_
    rintro _ h18 ⟨_, rfl, ⟨rfl, K18, Pline_18, Pcolumn_18, Pmax_18, PtextLength_18, Pcut_18, Ptext_18⟩⟩ c18
    show RunW l Z own_EL n0 x.cls code maxLocals ret x.name room_1 _ 93 #[.val (.int p1), .val (.int p2), .val (.int p3), .val (.int p4), .val (.int p5), .val (.int p6), .val (.int (p1 &&& (7 : Int32))), .val (.ref b11), .val (.ref b16), .unset] [(.ref b16)] h18 vm 3 74
    have Z_b11_18 := CHr.safe c18 A_b11_17.lt Z_b11_17
    have A_b11_18 := A_b11_17.keep K18 (ninS ne_b11_b16 nin0)
    have E_b16_18 := E_b16_17.keep K18
    have Z_b16_18 := CHr.safe c18 E_b16_17.lt Z_b16_17
    have A_tx17_18 := PA17.keep K18 (ninS (Ne.symm ne_b16_tx17) nin0)
    have sz18 : n0 ≤ h18.size := Nat.le_trans sz17 K18.1
    have kp18 := Keep.trans kp17 K18 (allS (Or.inr bo_b16) all0)
    have od18 := od17.keep K18 (allS ge_b16 all0)
    refine RunW.astore (l' := #[.val (.int p1), .val (.int p2), .val (.int p3), .val (.int p4), .val (.int p5), .val (.int p6), .val (.int (p1 &&& (7 : Int32))), .val (.ref b11), .val (.ref b16), .val (.ref b16)]) at_93 rfl rfl (pc' := 95) rfl ?_
    refine RunW.aload at_95 rfl rfl (pc' := 97) rfl ?_
    refine RunW.aload at_97 rfl rfl (pc' := 99) rfl ?_
    refine RunW.acmp_ne at_99 rfl rfl (by decide) (pc' := 154) (by decide) (pa := 102) rfl (fun hc99 => ?_) (fun hc99 => ?_)
    · -- pc 99 taken: ¬ (.ref b16) = (.ref b16)
      exact absurd rfl hc99
    · -- pc 99 not taken: (.ref b16) = (.ref b16)
      refine RunW.aload at_102 rfl rfl (pc' := 104) rfl ?_
      refine RunW.callV (k' := 3) (n' := 74) (a := b16) (as := []) (rest := []) (con_own_line l Z a0 hw n0 h18 sz18 b16 p4 Pline_18 ) (by rintro _ _ ⟨_, -, -, rfl⟩; exact ⟨[], Keep.refl _ _, all0⟩) E_b16_18 at_104 (hw _ (List.mem_of_getElem? (i := 32) rfl)) (hw _ (List.mem_of_getElem? (i := 33) rfl)) (fun s hZ => notFace_of_selects (args := #[]) (mvT hZ (hw _ (List.mem_of_getElem? (i := 35) rfl)))) (hw _ (List.mem_of_getElem? (i := 35) rfl)) (hw _ (List.mem_of_getElem? (i := 34) rfl)) (hw _ (List.mem_of_getElem? (i := 7) rfl)) (hw _ (List.mem_of_getElem? (i := 36) rfl)) (by decide) pd___I rfl rfl rfl (by decide) (by show (0 : Nat) + (1 + 11) + 0 ≤ _; decide) (by decide) (by decide) (by decide) (by decide) (pc' := 107) rfl ?_
      rintro _ _ ⟨_, rfl, rfl, rfl⟩ -
      show RunW l Z own_EL n0 x.cls code maxLocals ret x.name room_1 _ 107 #[.val (.int p1), .val (.int p2), .val (.int p3), .val (.int p4), .val (.int p5), .val (.int p6), .val (.int (p1 &&& (7 : Int32))), .val (.ref b11), .val (.ref b16), .val (.ref b16)] [(.int (own_line p4))] h18 vm 3 74
      refine RunW.iloadN at_107 rfl (pc' := 108) rfl ?_
      refine RunW.icmp_ne at_108 (by decide) (pc' := 154) (by decide) (pa := 111) rfl (fun hc108 => ?_) (fun hc108 => ?_)
      · -- pc 108 taken: ¬ (own_line p4) = p4
        exact absurd rfl hc108
      · -- pc 108 not taken: (own_line p4) = p4
        refine RunW.aload at_111 rfl rfl (pc' := 113) rfl ?_
        refine RunW.callV (k' := 3) (n' := 74) (a := b16) (as := []) (rest := []) (con_own_column l Z a0 hw n0 h18 sz18 b16 p5 Pcolumn_18 ) (by rintro _ _ ⟨_, -, -, rfl⟩; exact ⟨[], Keep.refl _ _, all0⟩) E_b16_18 at_113 (hw _ (List.mem_of_getElem? (i := 37) rfl)) (hw _ (List.mem_of_getElem? (i := 38) rfl)) (fun s hZ => notFace_of_selects (args := #[]) (mvT hZ (hw _ (List.mem_of_getElem? (i := 40) rfl)))) (hw _ (List.mem_of_getElem? (i := 40) rfl)) (hw _ (List.mem_of_getElem? (i := 39) rfl)) (hw _ (List.mem_of_getElem? (i := 7) rfl)) (hw _ (List.mem_of_getElem? (i := 41) rfl)) (by decide) pd___I rfl rfl rfl (by decide) (by show (0 : Nat) + (1 + 11) + 0 ≤ _; decide) (by decide) (by decide) (by decide) (by decide) (pc' := 116) rfl ?_
        rintro _ _ ⟨_, rfl, rfl, rfl⟩ -
        show RunW l Z own_EL n0 x.cls code maxLocals ret x.name room_1 _ 116 #[.val (.int p1), .val (.int p2), .val (.int p3), .val (.int p4), .val (.int p5), .val (.int p6), .val (.int (p1 &&& (7 : Int32))), .val (.ref b11), .val (.ref b16), .val (.ref b16)] [(.int (own_column p5))] h18 vm 3 74
        refine RunW.iload at_116 rfl (pc' := 118) rfl ?_
        refine RunW.icmp_ne at_118 (by decide) (pc' := 154) (by decide) (pa := 121) rfl (fun hc118 => ?_) (fun hc118 => ?_)
        · -- pc 118 taken: ¬ (own_column p5) = p5
          exact absurd rfl hc118
        · -- pc 118 not taken: (own_column p5) = p5
          refine RunW.aload at_121 rfl rfl (pc' := 123) rfl ?_
          refine RunW.callV (k' := 3) (n' := 74) (a := b16) (as := []) (rest := []) (con_own_max l Z a0 hw n0 h18 sz18 b16 p6 Pmax_18 ) (by rintro _ _ ⟨_, -, -, rfl⟩; exact ⟨[], Keep.refl _ _, all0⟩) E_b16_18 at_123 (hw _ (List.mem_of_getElem? (i := 42) rfl)) (hw _ (List.mem_of_getElem? (i := 43) rfl)) (fun s hZ => notFace_of_selects (args := #[]) (mvT hZ (hw _ (List.mem_of_getElem? (i := 45) rfl)))) (hw _ (List.mem_of_getElem? (i := 45) rfl)) (hw _ (List.mem_of_getElem? (i := 44) rfl)) (hw _ (List.mem_of_getElem? (i := 7) rfl)) (hw _ (List.mem_of_getElem? (i := 46) rfl)) (by decide) pd___I rfl rfl rfl (by decide) (by show (0 : Nat) + (1 + 11) + 0 ≤ _; decide) (by decide) (by decide) (by decide) (by decide) (pc' := 126) rfl ?_
          rintro _ _ ⟨_, rfl, rfl, rfl⟩ -
          show RunW l Z own_EL n0 x.cls code maxLocals ret x.name room_1 _ 126 #[.val (.int p1), .val (.int p2), .val (.int p3), .val (.int p4), .val (.int p5), .val (.int p6), .val (.int (p1 &&& (7 : Int32))), .val (.ref b11), .val (.ref b16), .val (.ref b16)] [(.int (own_max p6))] h18 vm 3 74
          refine RunW.iload at_126 rfl (pc' := 128) rfl ?_
          refine RunW.icmp_ne at_128 (by decide) (pc' := 154) (by decide) (pa := 131) rfl (fun hc128 => ?_) (fun hc128 => ?_)
          · -- pc 128 taken: ¬ (own_max p6) = p6
            exact absurd rfl hc128
          · -- pc 128 not taken: (own_max p6) = p6
            refine RunW.aload at_131 rfl rfl (pc' := 133) rfl ?_
            refine RunW.callV (k' := 3) (n' := 74) (a := b16) (as := []) (rest := []) (con_own_cut l Z a0 hw n0 h18 sz18 b16 (0 : Int32) Pcut_18 ) (by rintro _ _ ⟨_, -, -, rfl⟩; exact ⟨[], Keep.refl _ _, all0⟩) E_b16_18 at_133 (hw _ (List.mem_of_getElem? (i := 47) rfl)) (hw _ (List.mem_of_getElem? (i := 48) rfl)) (fun s hZ => notFace_of_selects (args := #[]) (mvT hZ (hw _ (List.mem_of_getElem? (i := 50) rfl)))) (hw _ (List.mem_of_getElem? (i := 50) rfl)) (hw _ (List.mem_of_getElem? (i := 49) rfl)) (hw _ (List.mem_of_getElem? (i := 7) rfl)) (hw _ (List.mem_of_getElem? (i := 51) rfl)) (by decide) pd___Z rfl rfl rfl (by decide) (by show (0 : Nat) + (1 + 11) + 0 ≤ _; decide) (by decide) (by decide) (by decide) (by decide) (pc' := 136) rfl ?_
            rintro _ _ ⟨_, rfl, rfl, rfl⟩ -
            show RunW l Z own_EL n0 x.cls code maxLocals ret x.name room_1 _ 136 #[.val (.int p1), .val (.int p2), .val (.int p3), .val (.int p4), .val (.int p5), .val (.int p6), .val (.int (p1 &&& (7 : Int32))), .val (.ref b11), .val (.ref b16), .val (.ref b16)] [(.int (own_cut (0 : Int32)))] h18 vm 3 74
            refine RunW.if_ne at_136 (by decide) (pc' := 154) (by decide) (pa := 139) rfl (fun hc136 => ?_) (fun hc136 => ?_)
            · -- pc 136 taken: ¬ (own_cut (0 : Int32)) = (0 : Int32)
              exact absurd rfl hc136
            · -- pc 136 not taken: (own_cut (0 : Int32)) = (0 : Int32)
              refine RunW.aload at_139 rfl rfl (pc' := 141) rfl ?_
              refine RunW.callVW (k' := 8) (n' := 86) (a := b16) (as := []) (rest := []) (con_txt l Z a0 hw n0 h18 sz18 b16 tx17 (List.replicate 64 (.int (0 : Int32))) (64 : Int32) fm E_b16_18 Ptext_18 PtextLength_18 od18 SF hfm A_tx17_18 (by rw [List.length_replicate]; rfl)) all0 (own_EW hw) E_b16_18 at_141 (hw _ (List.mem_of_getElem? (i := 52) rfl)) (hw _ (List.mem_of_getElem? (i := 53) rfl)) (fun s hZ => notFace_of_selects (args := #[]) (mvT hZ (hw _ (List.mem_of_getElem? (i := 55) rfl)))) (hw _ (List.mem_of_getElem? (i := 55) rfl)) (hw _ (List.mem_of_getElem? (i := 54) rfl)) (hw _ (List.mem_of_getElem? (i := 7) rfl)) (hw _ (List.mem_of_getElem? (i := 56) rfl)) (by decide) pd___Ljava_lang_String_ rfl rfl rfl (by decide) (by show (0 : Nat) + (2 + 11) + 63 ≤ _; decide) (by decide) (by decide) (by decide) (by decide) (pc' := 144) rfl ?_
              rintro _ h19 vm19 ⟨_, rfl, ⟨t19, b19, rfl, bw19, E19, X19, FV19, P19⟩⟩ c19
              show RunW l Z own_EL n0 x.cls code maxLocals ret x.name room_1 _ 144 #[.val (.int p1), .val (.int p2), .val (.int p3), .val (.int p4), .val (.int p5), .val (.int p6), .val (.int (p1 &&& (7 : Int32))), .val (.ref b11), .val (.ref b16), .val (.ref b16)] [(.ref t19)] h19 vm19 8 86
              have ge_t19 : n0 ≤ t19 := Nat.le_trans sz18 bw19
              have bo_t19 : h0.size ≤ t19 := Nat.le_trans kp18.1 bw19
              have ne_b11_t19 : b11 ≠ t19 := Nat.ne_of_lt (Nat.lt_of_lt_of_le A_b11_18.lt bw19)
              have ne_b16_t19 : b16 ≠ t19 := Nat.ne_of_lt (Nat.lt_of_lt_of_le E_b16_18.lt bw19)
              have ne_tx17_t19 : tx17 ≠ t19 := Nat.ne_of_lt (Nat.lt_of_lt_of_le A_tx17_18.lt bw19)
              have Z_b11_19 := CHr.safe c19 A_b11_18.lt Z_b11_18
              have A_b11_19 := A_b11_18.ext E19
              have E_b16_19 := E_b16_18.ext E19
              have Z_b16_19 := CHr.safe c19 E_b16_18.lt Z_b16_18
              have A_tx17_19 := A_tx17_18.ext E19
              have F_b16_line_19 := Pline_18.ext E19
              have F_b16_column_19 := Pcolumn_18.ext E19
              have F_b16_max_19 := Pmax_18.ext E19
              have F_b16_textLength_19 := PtextLength_18.ext E19
              have F_b16_cut_19 := Pcut_18.ext E19
              have F_b16_text_19 := Ptext_18.ext E19
              have sz19 : n0 ≤ h19.size := Nat.le_trans sz18 E19.1
              have kp19 := Keep.ext kp18 E19
              have od19 := od18.ext E19
              refine RunW.callV (k' := 8) (n' := 86) (a := t19) (as := []) (rest := []) (con_emp l Z a0 hw n0 h19 sz19 t19 b19 FV19 P19 ) (by rintro _ _ ⟨_, -, -, rfl⟩; exact ⟨[], Keep.refl _ _, all0⟩) X19 at_144 (hw _ (List.mem_of_getElem? (i := 87) rfl)) (hw _ (List.mem_of_getElem? (i := 88) rfl)) (fun s hZ => notFace_of_selects (args := #[]) (mvT hZ (hw _ (List.mem_of_getElem? (i := 90) rfl)))) (hw _ (List.mem_of_getElem? (i := 90) rfl)) (hw _ (List.mem_of_getElem? (i := 89) rfl)) (hw _ (List.mem_of_getElem? (i := 59) rfl)) (hw _ (List.mem_of_getElem? (i := 91) rfl)) (by decide) pd___Z rfl rfl rfl (by decide) (by show (0 : Nat) + (1 + 11) + 0 ≤ _; decide) (by decide) (by decide) (by decide) (by decide) (pc' := 147) rfl ?_
              rintro _ _ ⟨_, rfl, rfl, rfl⟩ -
              show RunW l Z own_EL n0 x.cls code maxLocals ret x.name room_1 _ 147 #[.val (.int p1), .val (.int p2), .val (.int p3), .val (.int p4), .val (.int p5), .val (.int p6), .val (.int (p1 &&& (7 : Int32))), .val (.ref b11), .val (.ref b16), .val (.ref b16)] [(.int (1 : Int32))] h19 vm19 8 86
              refine RunW.if_eq at_147 (by decide) (pc' := 154) (by decide) (pa := 150) rfl (fun hc147 => ?_) (fun hc147 => ?_)
              · -- pc 147 taken: (1 : Int32) = (0 : Int32)
                exact absurd hc147 (by decide)
              · -- pc 147 not taken: ¬ (1 : Int32) = (0 : Int32)
                refine RunW.iconst (1 : Int32) at_150 (by decide) (pc' := 151) rfl ?_
                refine RunW.goto at_151 (by decide) (pc' := 155) (by decide) ?_
                exact RunW.nreturn at_155 (ty := .boolean) rfl (by simp) (by decide) (by decide) ⟨_, rfl, rfl⟩
  · -- pc 71 not taken: ¬ (p1 &&& (8 : Int32)) = (0 : Int32)
    refine RunW.aload at_74 rfl rfl (pc' := 76) rfl ?_
    refine RunW.aload at_76 rfl rfl (pc' := 78) rfl ?_
    refine RunW.iconst (0 : Int32) at_78 (by decide) (pc' := 79) rfl ?_
    refine RunW.iconst (4 : Int32) at_79 (by decide) (pc' := 80) rfl ?_
    refine RunW.callV (k' := 3) (n' := 74) (a := b16) (as := [(.ref b11), (.int (0 : Int32)), (.int (4 : Int32))]) (rest := []) (con_ap3 l Z a0 hw n0 h17 sz17 b16 b11 tx17 [(nar .char (own_pick p2)), (nar .char (own_pick (XT.ushr p2 (8 : Int32)))), (nar .char (own_pick (XT.ushr p2 (16 : Int32)))), (nar .char (own_pick (XT.ushr p2 (24 : Int32))))] (List.replicate 64 (.int (0 : Int32))) 4 (p1 &&& (7 : Int32)) (.int p3) (.int (p3 ^^^ (-1 : Int32))) E_b16_17 ge_b16 ge_tx17 Ptext_17 PtextLength_17 Pmax_17 Pcut_17 Pline_17 Pcolumn_17 A_b11_17 PA17 (Ne.symm ne_b11_b16) ne_b16_tx17 ne_b11_tx17 (by simp) (by simp) (by simp) (own_mx p1) (own_fit4 _ _ _ _) (own_fit0 _)) (by rintro _ _ ⟨rfl, ⟨K_, PT_, PL_, ⟨k_, PK_⟩, Pln_, Pcl_, Pmx_, PA_⟩⟩; exact ⟨[b16, tx17], K_, (allS Z_b16_17 (allS (safeA hal PA17 (by simp)) all0))⟩) E_b16_17 at_80 (hw _ (List.mem_of_getElem? (i := 92) rfl)) (hw _ (List.mem_of_getElem? (i := 93) rfl)) (fun s hZ => notFace_of_selects (args := #[]) (mvT hZ (hw _ (List.mem_of_getElem? (i := 95) rfl)))) (hw _ (List.mem_of_getElem? (i := 95) rfl)) (hw _ (List.mem_of_getElem? (i := 94) rfl)) (hw _ (List.mem_of_getElem? (i := 7) rfl)) (hw _ (List.mem_of_getElem? (i := 96) rfl)) (by decide) pd___CII_V rfl rfl rfl (by decide) (by show (0 : Nat) + (4 + 11) + 50 ≤ _; decide) (by decide) (by decide) (by decide) (by decide) (pc' := 83) rfl ?_
    rintro _ h20 ⟨rfl, ⟨K20, PT20, PL20, ⟨k20, PK20⟩, Pln20, Pcl20, Pmx20, PA20⟩⟩ c20
    show RunW l Z own_EL n0 x.cls code maxLocals ret x.name room_1 _ 83 #[.val (.int p1), .val (.int p2), .val (.int p3), .val (.int p4), .val (.int p5), .val (.int p6), .val (.int (p1 &&& (7 : Int32))), .val (.ref b11), .val (.ref b16), .unset] [] h20 vm 3 74
    have Z_b11_20 := CHr.safe c20 A_b11_17.lt Z_b11_17
    have A_b11_20 := A_b11_17.keep K20 (ninS ne_b11_b16 (ninS ne_b11_tx17 nin0))
    have E_b16_20 := E_b16_17.keep K20
    have Z_b16_20 := CHr.safe c20 E_b16_17.lt Z_b16_17
    have sz20 : n0 ≤ h20.size := Nat.le_trans sz17 K20.1
    have kp20 := Keep.trans kp17 K20 (allS (Or.inr bo_b16) (allS (Or.inr bo_tx17) all0))
    have od20 := od17.keep K20 (allS ge_b16 (allS ge_tx17 all0))
    refine RunW.aload at_83 rfl rfl (pc' := 85) rfl ?_
    refine RunW.iloadN at_85 rfl (pc' := 86) rfl ?_
    refine RunW.iload at_86 rfl (pc' := 88) rfl ?_
    refine RunW.iload at_88 rfl (pc' := 90) rfl ?_
    refine RunW.callV (k' := 3) (n' := 74) (a := b16) (as := [(.int p4), (.int p5), (.int p6)]) (rest := []) (con_rst l Z a0 hw n0 h20 sz20 b16 p4 p5 p6 (.int p3) (.int (p3 ^^^ (-1 : Int32))) (.int (p1 &&& (7 : Int32))) (.int (Int32.ofNat (own_held 4 (own_lead ([(nar .char (own_pick p2)), (nar .char (own_pick (XT.ushr p2 (8 : Int32)))), (nar .char (own_pick (XT.ushr p2 (16 : Int32)))), (nar .char (own_pick (XT.ushr p2 (24 : Int32))))].take 4)) (p1 &&& (7 : Int32))))) k20 (.ref tx17) E_b16_20 ge_b16 Pln20 Pcl20 Pmx20 PL20 PK20 PT20 ) (by rintro _ _ ⟨_, rfl, ⟨rfl, K_, Pline__, Pcolumn__, Pmax__, PtextLength__, Pcut__, Ptext__⟩⟩; exact ⟨[b16], K_, (allS Z_b16_20 all0)⟩) E_b16_20 at_90 (hw _ (List.mem_of_getElem? (i := 31) rfl)) (hw _ (List.mem_of_getElem? (i := 17) rfl)) (fun s hZ => notFace_of_selects (args := #[]) (mvT hZ (hw _ (List.mem_of_getElem? (i := 19) rfl)))) (hw _ (List.mem_of_getElem? (i := 19) rfl)) (hw _ (List.mem_of_getElem? (i := 18) rfl)) (hw _ (List.mem_of_getElem? (i := 7) rfl)) (hw _ (List.mem_of_getElem? (i := 20) rfl)) (by decide) pd__III_Lcom_example_mappa_mappa_core_FieldText_ rfl rfl rfl (by decide) (by show (0 : Nat) + (4 + 11) + 0 ≤ _; decide) (by decide) (by decide) (by decide) (by decide) (pc' := 93) rfl ?_
    rintro _ h21 ⟨_, rfl, ⟨rfl, K21, Pline_21, Pcolumn_21, Pmax_21, PtextLength_21, Pcut_21, Ptext_21⟩⟩ c21
    show RunW l Z own_EL n0 x.cls code maxLocals ret x.name room_1 _ 93 #[.val (.int p1), .val (.int p2), .val (.int p3), .val (.int p4), .val (.int p5), .val (.int p6), .val (.int (p1 &&& (7 : Int32))), .val (.ref b11), .val (.ref b16), .unset] [(.ref b16)] h21 vm 3 74
    have Z_b11_21 := CHr.safe c21 A_b11_20.lt Z_b11_20
    have A_b11_21 := A_b11_20.keep K21 (ninS ne_b11_b16 nin0)
    have E_b16_21 := E_b16_20.keep K21
    have Z_b16_21 := CHr.safe c21 E_b16_20.lt Z_b16_20
    have A_tx17_21 := PA20.keep K21 (ninS (Ne.symm ne_b16_tx17) nin0)
    have sz21 : n0 ≤ h21.size := Nat.le_trans sz20 K21.1
    have kp21 := Keep.trans kp20 K21 (allS (Or.inr bo_b16) all0)
    have od21 := od20.keep K21 (allS ge_b16 all0)
    refine RunW.astore (l' := #[.val (.int p1), .val (.int p2), .val (.int p3), .val (.int p4), .val (.int p5), .val (.int p6), .val (.int (p1 &&& (7 : Int32))), .val (.ref b11), .val (.ref b16), .val (.ref b16)]) at_93 rfl rfl (pc' := 95) rfl ?_
    refine RunW.aload at_95 rfl rfl (pc' := 97) rfl ?_
    refine RunW.aload at_97 rfl rfl (pc' := 99) rfl ?_
    refine RunW.acmp_ne at_99 rfl rfl (by decide) (pc' := 154) (by decide) (pa := 102) rfl (fun hc99 => ?_) (fun hc99 => ?_)
    · -- pc 99 taken: ¬ (.ref b16) = (.ref b16)
      exact absurd rfl hc99
    · -- pc 99 not taken: (.ref b16) = (.ref b16)
      refine RunW.aload at_102 rfl rfl (pc' := 104) rfl ?_
      refine RunW.callV (k' := 3) (n' := 74) (a := b16) (as := []) (rest := []) (con_own_line l Z a0 hw n0 h21 sz21 b16 p4 Pline_21 ) (by rintro _ _ ⟨_, -, -, rfl⟩; exact ⟨[], Keep.refl _ _, all0⟩) E_b16_21 at_104 (hw _ (List.mem_of_getElem? (i := 32) rfl)) (hw _ (List.mem_of_getElem? (i := 33) rfl)) (fun s hZ => notFace_of_selects (args := #[]) (mvT hZ (hw _ (List.mem_of_getElem? (i := 35) rfl)))) (hw _ (List.mem_of_getElem? (i := 35) rfl)) (hw _ (List.mem_of_getElem? (i := 34) rfl)) (hw _ (List.mem_of_getElem? (i := 7) rfl)) (hw _ (List.mem_of_getElem? (i := 36) rfl)) (by decide) pd___I rfl rfl rfl (by decide) (by show (0 : Nat) + (1 + 11) + 0 ≤ _; decide) (by decide) (by decide) (by decide) (by decide) (pc' := 107) rfl ?_
      rintro _ _ ⟨_, rfl, rfl, rfl⟩ -
      show RunW l Z own_EL n0 x.cls code maxLocals ret x.name room_1 _ 107 #[.val (.int p1), .val (.int p2), .val (.int p3), .val (.int p4), .val (.int p5), .val (.int p6), .val (.int (p1 &&& (7 : Int32))), .val (.ref b11), .val (.ref b16), .val (.ref b16)] [(.int (own_line p4))] h21 vm 3 74
      refine RunW.iloadN at_107 rfl (pc' := 108) rfl ?_
      refine RunW.icmp_ne at_108 (by decide) (pc' := 154) (by decide) (pa := 111) rfl (fun hc108 => ?_) (fun hc108 => ?_)
      · -- pc 108 taken: ¬ (own_line p4) = p4
        exact absurd rfl hc108
      · -- pc 108 not taken: (own_line p4) = p4
        refine RunW.aload at_111 rfl rfl (pc' := 113) rfl ?_
        refine RunW.callV (k' := 3) (n' := 74) (a := b16) (as := []) (rest := []) (con_own_column l Z a0 hw n0 h21 sz21 b16 p5 Pcolumn_21 ) (by rintro _ _ ⟨_, -, -, rfl⟩; exact ⟨[], Keep.refl _ _, all0⟩) E_b16_21 at_113 (hw _ (List.mem_of_getElem? (i := 37) rfl)) (hw _ (List.mem_of_getElem? (i := 38) rfl)) (fun s hZ => notFace_of_selects (args := #[]) (mvT hZ (hw _ (List.mem_of_getElem? (i := 40) rfl)))) (hw _ (List.mem_of_getElem? (i := 40) rfl)) (hw _ (List.mem_of_getElem? (i := 39) rfl)) (hw _ (List.mem_of_getElem? (i := 7) rfl)) (hw _ (List.mem_of_getElem? (i := 41) rfl)) (by decide) pd___I rfl rfl rfl (by decide) (by show (0 : Nat) + (1 + 11) + 0 ≤ _; decide) (by decide) (by decide) (by decide) (by decide) (pc' := 116) rfl ?_
        rintro _ _ ⟨_, rfl, rfl, rfl⟩ -
        show RunW l Z own_EL n0 x.cls code maxLocals ret x.name room_1 _ 116 #[.val (.int p1), .val (.int p2), .val (.int p3), .val (.int p4), .val (.int p5), .val (.int p6), .val (.int (p1 &&& (7 : Int32))), .val (.ref b11), .val (.ref b16), .val (.ref b16)] [(.int (own_column p5))] h21 vm 3 74
        refine RunW.iload at_116 rfl (pc' := 118) rfl ?_
        refine RunW.icmp_ne at_118 (by decide) (pc' := 154) (by decide) (pa := 121) rfl (fun hc118 => ?_) (fun hc118 => ?_)
        · -- pc 118 taken: ¬ (own_column p5) = p5
          exact absurd rfl hc118
        · -- pc 118 not taken: (own_column p5) = p5
          refine RunW.aload at_121 rfl rfl (pc' := 123) rfl ?_
          refine RunW.callV (k' := 3) (n' := 74) (a := b16) (as := []) (rest := []) (con_own_max l Z a0 hw n0 h21 sz21 b16 p6 Pmax_21 ) (by rintro _ _ ⟨_, -, -, rfl⟩; exact ⟨[], Keep.refl _ _, all0⟩) E_b16_21 at_123 (hw _ (List.mem_of_getElem? (i := 42) rfl)) (hw _ (List.mem_of_getElem? (i := 43) rfl)) (fun s hZ => notFace_of_selects (args := #[]) (mvT hZ (hw _ (List.mem_of_getElem? (i := 45) rfl)))) (hw _ (List.mem_of_getElem? (i := 45) rfl)) (hw _ (List.mem_of_getElem? (i := 44) rfl)) (hw _ (List.mem_of_getElem? (i := 7) rfl)) (hw _ (List.mem_of_getElem? (i := 46) rfl)) (by decide) pd___I rfl rfl rfl (by decide) (by show (0 : Nat) + (1 + 11) + 0 ≤ _; decide) (by decide) (by decide) (by decide) (by decide) (pc' := 126) rfl ?_
          rintro _ _ ⟨_, rfl, rfl, rfl⟩ -
          show RunW l Z own_EL n0 x.cls code maxLocals ret x.name room_1 _ 126 #[.val (.int p1), .val (.int p2), .val (.int p3), .val (.int p4), .val (.int p5), .val (.int p6), .val (.int (p1 &&& (7 : Int32))), .val (.ref b11), .val (.ref b16), .val (.ref b16)] [(.int (own_max p6))] h21 vm 3 74
          refine RunW.iload at_126 rfl (pc' := 128) rfl ?_
          refine RunW.icmp_ne at_128 (by decide) (pc' := 154) (by decide) (pa := 131) rfl (fun hc128 => ?_) (fun hc128 => ?_)
          · -- pc 128 taken: ¬ (own_max p6) = p6
            exact absurd rfl hc128
          · -- pc 128 not taken: (own_max p6) = p6
            refine RunW.aload at_131 rfl rfl (pc' := 133) rfl ?_
            refine RunW.callV (k' := 3) (n' := 74) (a := b16) (as := []) (rest := []) (con_own_cut l Z a0 hw n0 h21 sz21 b16 (0 : Int32) Pcut_21 ) (by rintro _ _ ⟨_, -, -, rfl⟩; exact ⟨[], Keep.refl _ _, all0⟩) E_b16_21 at_133 (hw _ (List.mem_of_getElem? (i := 47) rfl)) (hw _ (List.mem_of_getElem? (i := 48) rfl)) (fun s hZ => notFace_of_selects (args := #[]) (mvT hZ (hw _ (List.mem_of_getElem? (i := 50) rfl)))) (hw _ (List.mem_of_getElem? (i := 50) rfl)) (hw _ (List.mem_of_getElem? (i := 49) rfl)) (hw _ (List.mem_of_getElem? (i := 7) rfl)) (hw _ (List.mem_of_getElem? (i := 51) rfl)) (by decide) pd___Z rfl rfl rfl (by decide) (by show (0 : Nat) + (1 + 11) + 0 ≤ _; decide) (by decide) (by decide) (by decide) (by decide) (pc' := 136) rfl ?_
            rintro _ _ ⟨_, rfl, rfl, rfl⟩ -
            show RunW l Z own_EL n0 x.cls code maxLocals ret x.name room_1 _ 136 #[.val (.int p1), .val (.int p2), .val (.int p3), .val (.int p4), .val (.int p5), .val (.int p6), .val (.int (p1 &&& (7 : Int32))), .val (.ref b11), .val (.ref b16), .val (.ref b16)] [(.int (own_cut (0 : Int32)))] h21 vm 3 74
            refine RunW.if_ne at_136 (by decide) (pc' := 154) (by decide) (pa := 139) rfl (fun hc136 => ?_) (fun hc136 => ?_)
            · -- pc 136 taken: ¬ (own_cut (0 : Int32)) = (0 : Int32)
              exact absurd rfl hc136
            · -- pc 136 not taken: (own_cut (0 : Int32)) = (0 : Int32)
              refine RunW.aload at_139 rfl rfl (pc' := 141) rfl ?_
              refine RunW.callVW (k' := 8) (n' := 86) (a := b16) (as := []) (rest := []) (con_txt l Z a0 hw n0 h21 sz21 b16 tx17 ((([(nar .char (own_pick p2)), (nar .char (own_pick (XT.ushr p2 (8 : Int32)))), (nar .char (own_pick (XT.ushr p2 (16 : Int32)))), (nar .char (own_pick (XT.ushr p2 (24 : Int32))))].map Value.int).drop (own_lead ([(nar .char (own_pick p2)), (nar .char (own_pick (XT.ushr p2 (8 : Int32)))), (nar .char (own_pick (XT.ushr p2 (16 : Int32)))), (nar .char (own_pick (XT.ushr p2 (24 : Int32))))].take 4))).take (own_held 4 (own_lead ([(nar .char (own_pick p2)), (nar .char (own_pick (XT.ushr p2 (8 : Int32)))), (nar .char (own_pick (XT.ushr p2 (16 : Int32)))), (nar .char (own_pick (XT.ushr p2 (24 : Int32))))].take 4)) (p1 &&& (7 : Int32))) ++ List.drop (own_held 4 (own_lead ([(nar .char (own_pick p2)), (nar .char (own_pick (XT.ushr p2 (8 : Int32)))), (nar .char (own_pick (XT.ushr p2 (16 : Int32)))), (nar .char (own_pick (XT.ushr p2 (24 : Int32))))].take 4)) (p1 &&& (7 : Int32))) (List.replicate 64 (.int (0 : Int32)))) (64 : Int32) fm E_b16_21 Ptext_21 PtextLength_21 od21 SF hfm A_tx17_21 (by rw [own_newlen (by simp) (by simp) (own_mx p1)]; rfl)) all0 (own_EW hw) E_b16_21 at_141 (hw _ (List.mem_of_getElem? (i := 52) rfl)) (hw _ (List.mem_of_getElem? (i := 53) rfl)) (fun s hZ => notFace_of_selects (args := #[]) (mvT hZ (hw _ (List.mem_of_getElem? (i := 55) rfl)))) (hw _ (List.mem_of_getElem? (i := 55) rfl)) (hw _ (List.mem_of_getElem? (i := 54) rfl)) (hw _ (List.mem_of_getElem? (i := 7) rfl)) (hw _ (List.mem_of_getElem? (i := 56) rfl)) (by decide) pd___Ljava_lang_String_ rfl rfl rfl (by decide) (by show (0 : Nat) + (2 + 11) + 63 ≤ _; decide) (by decide) (by decide) (by decide) (by decide) (pc' := 144) rfl ?_
              rintro _ h22 vm22 ⟨_, rfl, ⟨t22, b22, rfl, bw22, E22, X22, FV22, P22⟩⟩ c22
              show RunW l Z own_EL n0 x.cls code maxLocals ret x.name room_1 _ 144 #[.val (.int p1), .val (.int p2), .val (.int p3), .val (.int p4), .val (.int p5), .val (.int p6), .val (.int (p1 &&& (7 : Int32))), .val (.ref b11), .val (.ref b16), .val (.ref b16)] [(.ref t22)] h22 vm22 8 86
              have ge_t22 : n0 ≤ t22 := Nat.le_trans sz21 bw22
              have bo_t22 : h0.size ≤ t22 := Nat.le_trans kp21.1 bw22
              have ne_b11_t22 : b11 ≠ t22 := Nat.ne_of_lt (Nat.lt_of_lt_of_le A_b11_21.lt bw22)
              have ne_b16_t22 : b16 ≠ t22 := Nat.ne_of_lt (Nat.lt_of_lt_of_le E_b16_21.lt bw22)
              have ne_tx17_t22 : tx17 ≠ t22 := Nat.ne_of_lt (Nat.lt_of_lt_of_le A_tx17_21.lt bw22)
              have Z_b11_22 := CHr.safe c22 A_b11_21.lt Z_b11_21
              have A_b11_22 := A_b11_21.ext E22
              have E_b16_22 := E_b16_21.ext E22
              have Z_b16_22 := CHr.safe c22 E_b16_21.lt Z_b16_21
              have A_tx17_22 := A_tx17_21.ext E22
              have F_b16_line_22 := Pline_21.ext E22
              have F_b16_column_22 := Pcolumn_21.ext E22
              have F_b16_max_22 := Pmax_21.ext E22
              have F_b16_textLength_22 := PtextLength_21.ext E22
              have F_b16_cut_22 := Pcut_21.ext E22
              have F_b16_text_22 := Ptext_21.ext E22
              have sz22 : n0 ≤ h22.size := Nat.le_trans sz21 E22.1
              have kp22 := Keep.ext kp21 E22
              have od22 := od21.ext E22
              refine RunW.callV (k' := 8) (n' := 86) (a := t22) (as := []) (rest := []) (con_emp l Z a0 hw n0 h22 sz22 t22 b22 FV22 P22 ) (by rintro _ _ ⟨_, -, -, rfl⟩; exact ⟨[], Keep.refl _ _, all0⟩) X22 at_144 (hw _ (List.mem_of_getElem? (i := 87) rfl)) (hw _ (List.mem_of_getElem? (i := 88) rfl)) (fun s hZ => notFace_of_selects (args := #[]) (mvT hZ (hw _ (List.mem_of_getElem? (i := 90) rfl)))) (hw _ (List.mem_of_getElem? (i := 90) rfl)) (hw _ (List.mem_of_getElem? (i := 89) rfl)) (hw _ (List.mem_of_getElem? (i := 59) rfl)) (hw _ (List.mem_of_getElem? (i := 91) rfl)) (by decide) pd___Z rfl rfl rfl (by decide) (by show (0 : Nat) + (1 + 11) + 0 ≤ _; decide) (by decide) (by decide) (by decide) (by decide) (pc' := 147) rfl ?_
              rintro _ _ ⟨_, rfl, rfl, rfl⟩ -
              show RunW l Z own_EL n0 x.cls code maxLocals ret x.name room_1 _ 147 #[.val (.int p1), .val (.int p2), .val (.int p3), .val (.int p4), .val (.int p5), .val (.int p6), .val (.int (p1 &&& (7 : Int32))), .val (.ref b11), .val (.ref b16), .val (.ref b16)] [(.int (1 : Int32))] h22 vm22 8 86
              refine RunW.if_eq at_147 (by decide) (pc' := 154) (by decide) (pa := 150) rfl (fun hc147 => ?_) (fun hc147 => ?_)
              · -- pc 147 taken: (1 : Int32) = (0 : Int32)
                exact absurd hc147 (by decide)
              · -- pc 147 not taken: ¬ (1 : Int32) = (0 : Int32)
                refine RunW.iconst (1 : Int32) at_150 (by decide) (pc' := 151) rfl ?_
                refine RunW.goto at_151 (by decide) (pc' := 155) (by decide) ?_
                exact RunW.nreturn at_155 (ty := .boolean) rfl (by simp) (by decide) (by decide) ⟨_, rfl, rfl⟩
set_option maxRecDepth 65536 in
set_option maxHeartbeats 40000000 in
theorem comes_1 {Post : Tables → Env → Array Value → State → Outcome → State → Prop} (hpost : ∀ tb e args s v u, (limb_1_1.after args s (.returned v) u = true ∧ limb_1_2.after args s (.returned v) u = true ∧ True) → Jvm.D.FramedW s (.returned v) u (Jvm.fieldLocs frame_1_writes args s ++ Jvm.arrayLocs frame_1_arrays args s ++ Jvm.staticLocs frame_1_statics s) 24 1280 → Post tb e args s (.returned v) u) :
    ArmFor flags0 classFile x code maxLocals ret World_1 tables_1 room_1 Calls_1 rest_1 Pre_1 Post := by
  intro l hfl _ _ p e ha hc hk s m args below hf hA hF happ hP
  obtain ⟨hcalls, hrest, hpre⟩ := hP
  obtain ⟨-, -, -, hnamed, -, -, -, hat⟩ := (Spec.applies_iff hf).mp happ
  obtain ⟨hg, hn⟩ := and_e (Cond.before_iff.mp (show (Jvm.Cond.and given_1 narrow_1).before args s = true from hpre))
  obtain ⟨hcnt, g0⟩ := and_e hg
  obtain ⟨ga0, g1⟩ := and_e g0
  obtain ⟨ga1, g2⟩ := and_e g1
  obtain ⟨ga2, g3⟩ := and_e g2
  obtain ⟨ga3, g4⟩ := and_e g3
  obtain ⟨ga4, g5⟩ := and_e g4
  obtain ⟨w0, w1, w2, w3, w4, w5, rfl⟩ : ∃ w0 w1 w2 w3 w4 w5 : Value, args = #[w0, w1, w2, w3, w4, w5] := by
    have hs : args.size = 6 := by simpa [Cond.value, given_1] using hcnt
    obtain ⟨L⟩ := args
    match L, hs with
    | [w0, w1, w2, w3, w4, w5], _ => exact ⟨w0, w1, w2, w3, w4, w5, rfl⟩
  have hw := fun d (hd : d ∈ tables_1) => atoms_spec (ws := Jvm.Cond.code x code maxLocals ret :: tables_1) hat d (List.mem_cons_of_mem _ hd)
  obtain ⟨hsets, hown0⟩ := atoms_of _ (rest_1_c_eq ▸ (show rest_1_c.before _ s = true from hrest))
  have hr0 := Cond.before_iff.mp hown0
  have hfit : Fit s := fun {y c} hc i hi => by
    obtain ⟨ha, rfl⟩ := Array.getElem?_eq_some_iff.mp hc
    have q := List.all_eq_true.mp ((Array.all_eq_true_iff_forall_mem.mp hF) _ (Array.getElem_mem ha)) i (List.mem_range.mpr hi)
    simpa [Array.getElem?_eq_getElem hi] using q
  obtain ⟨i0, e0⟩ := is_v ga0
  obtain rfl : w0 = (.int i0) := Option.some.inj e0
  obtain ⟨i1, e1⟩ := is_v ga1
  obtain rfl : w1 = (.int i1) := Option.some.inj e1
  obtain ⟨i2, e2⟩ := is_v ga2
  obtain rfl : w2 = (.int i2) := Option.some.inj e2
  obtain ⟨i3, e3⟩ := is_v ga3
  obtain rfl : w3 = (.int i3) := Option.some.inj e3
  obtain ⟨i4, e4⟩ := is_v ga4
  obtain rfl : w4 = (.int i4) := Option.some.inj e4
  obtain ⟨i5, e5⟩ := is_v g5
  obtain rfl : w5 = (.int i5) := Option.some.inj e5
  obtain ⟨fm, evF, hfm⟩ := isR_v (Cond.before_iff.mp (hsets _ (List.mem_of_getElem? (i := 8) rfl)))
  have SF := Sta.start evF (Or.inl (hsets _ (List.mem_of_getElem? (i := 7) rfl)))
  have hCH : CHv s own_EL s.vm s.heap := CHv.start (own_EW hw) (own_heldc hcalls) (hsets _ (List.mem_of_getElem? (i := 2) rfl)) (hw _ (List.mem_of_getElem? (i := 80) rfl)) (hw _ (List.mem_of_getElem? (i := 58) rfl))
  obtain ⟨n, o, h1, h2, h3, _, L, rfl, ⟨⟨_, rfl, rfl⟩, N⟩, -, hq⟩ := con0 l s _ hw s.heap.size s.heap (Nat.le_refl _) i0 i1 i2 i3 i4 i5 fm (Old.start s) SF hfm tables_1 p e ha hc hk s m _ below hf ((Spec.applies_iff_loose hf).mp happ).1 ⟨rfl, State.Warmed39.refl s, rfl, hCH, all0⟩ trivial
  refine ⟨n, _, h1, h2, h3, hpost _ _ _ _ _ _ ⟨Cond.after_iff.mpr rfl, Cond.after_iff.mpr (eq_i res_at (Term.int_eval (1)) rfl), trivial⟩ ⟨hq.1, hq.2.1, hq.2.2.1, (hq.2.2.2.sift fun y hy => Or.inr (N y hy)).mono (by decide) (by decide)⟩⟩
theorem main_1_1 : Claimed_1_1 := comes_1 fun _ _ _ _ _ _ h hF => ⟨h.1, hF⟩
theorem main_1_2 : Claimed_1_2 := comes_1 fun _ _ _ _ _ _ h hF => ⟨h.2.1, hF⟩
end Jvm.Pilot.@@N@@
namespace Jvm.Pilot.@@N@@
open Jvm Jvm.ClassFile Sem Op Lib Jvm.Free Jvm.Stand Jvm.Pilot.@@N@@.Jvm.D
/-! MADE BY PROGRAM (witnessworld.py) out of the Statement's table words and the real class files: 21 classes; the members and pool entries that the words name. The judged class is class 1, her method 2. -/
namespace start1
open Jvm.ClassFile
def u (s : String) : CpInfo := .utf8 (stringToUtf16 s)
/-- a pool by its gaps: so many unusable entries, then the entry; so many at the end -/
def gap : Nat → List CpInfo → List CpInfo
  | 0, r => r
  | n + 1, r => .unusable :: gap n r
def poolList (es : List (Nat × CpInfo)) (last : Nat) : List CpInfo := es.foldr (fun e r => gap e.1 (e.2 :: r)) (gap last [])
def pool (es : List (Nat × CpInfo)) (last : Nat) : Array CpInfo := ⟨poolList es last⟩
def fileOf (pool : Array CpInfo) (this : Nat) (attrs : Array Attribute := #[]) (ms : Array MethodInfo := #[]) (fl : Nat := 33) (sup : Nat := 0) (ifs : Array Nat := #[]) (fds : Array FieldInfo := #[]) : ClassFile where
  minorVersion := 0
  majorVersion := 65
  constantPool := pool
  accessFlags := fl
  thisClass := this
  superClass := sup
  interfaces := ifs
  fields := fds
  methods := ms
  attributes := attrs
def plain (name : String) (sup : Option ClassId) : Class where
  name := name
  kind := .ordinary
  loader := none
  accessFlags := 33
  super := sup
  interfaces := #[]
  cf := none
  fields := #[]
  methods := #[]
  instanceTypes := #[]
  staticTypes := #[]
  resolved := #[]
  callSites := []
  init := .initialized
  statics := none
  mirror := none

def pool0 : Array CpInfo := pool [(5, u "<init>"), (0, u "()V"), (1, .class_ 10), (1, u "java/lang/Object")] 113

def k0c0 : Code := { maxStack := 0, maxLocals := 1, code := object_method_1_code, exceptionTable := #[], attributes := #[] }
def k0m0 : Method := { name := "<init>", desc := "()V", sig := { parameters := [], returnType := none }, accessFlags := 1, code := some k0c0 }
/-- java/lang/Object -/
def k0 : Class := { plain "java/lang/Object" none with
  accessFlags := 33
  interfaces := #[]
  cf := some (fileOf pool0 8 #[] #[{ accessFlags := 1, nameIndex := 5, descriptorIndex := 6, attributes := #[] }] 33 0 #[] #[])
  fields := #[]
  methods := #[k0m0]
  instanceTypes := #[]
  staticTypes := #[]
  resolved := Array.replicate 124 none
  statics := none }

def pool1 : Array CpInfo := pool [(2, .class_ 4), (1, u "java/lang/Object"), (0, u "<init>"), (0, u "()V"), (0, .methodref 8 9), (0, .class_ 10), (0, .nameAndType 11 12), (0, u "com/example/mappa/mappa/core/FieldTextRestartPinLaw"), (0, u "pick"), (0, u "(I)C"), (0, .class_ 14), (0, u "com/example/mappa/mappa/core/FieldText"), (0, .methodref 13 16), (0, .nameAndType 5 17), (0, u "(III)V"), (0, .methodref 13 19), (0, .nameAndType 20 21), (0, u "append"), (0, u "([CII)V"), (0, .methodref 13 23), (0, .nameAndType 24 25), (0, u "restart"), (0, u "(III)Lcom/example/mappa/mappa/core/FieldText;"), (0, .methodref 13 27), (0, .nameAndType 28 29), (0, u "line"), (0, u "()I"), (0, .methodref 13 31), (0, .nameAndType 32 29), (0, u "column"), (0, .methodref 13 34), (0, .nameAndType 35 29), (0, u "max"), (0, .methodref 13 37), (0, .nameAndType 38 39), (0, u "cut"), (0, u "()Z"), (0, .methodref 13 41), (0, .nameAndType 42 43), (0, u "text"), (0, u "()Ljava/lang/String;"), (0, .methodref 45 46), (0, .class_ 47), (0, .nameAndType 48 39), (0, u "java/lang/String"), (0, u "isEmpty"), (3, u "law"), (0, u "(IIIIII)Z")] 4

def k1m0 : Method := { name := "<init>", desc := "()V", sig := { parameters := [], returnType := none }, accessFlags := 1, code := none }
def k1c1 : Code := { maxStack := 2, maxLocals := 3, code := method_2_code, exceptionTable := #[], attributes := #[] }
def k1m1 : Method := { name := "pick", desc := "(I)C", sig := { parameters := [.int], returnType := some .char }, accessFlags := 10, code := some k1c1 }
def k1c2 : Code := { maxStack := 5, maxLocals := 10, code := code, exceptionTable := #[], attributes := #[] }
def k1m2 : Method := { name := "law", desc := "(IIIIII)Z", sig := { parameters := [.int, .int, .int, .int, .int, .int], returnType := some .boolean }, accessFlags := 9, code := some k1c2 }
/-- com/example/mappa/mappa/core/FieldTextRestartPinLaw -/
def k1 : Class := { plain "com/example/mappa/mappa/core/FieldTextRestartPinLaw" (some 0) with
  accessFlags := 49
  interfaces := #[]
  cf := some (fileOf pool1 8 #[] #[{ accessFlags := 1, nameIndex := 5, descriptorIndex := 6, attributes := #[] }, { accessFlags := 10, nameIndex := 11, descriptorIndex := 12, attributes := #[] }, { accessFlags := 9, nameIndex := 52, descriptorIndex := 53, attributes := #[] }] 49 2 #[] #[])
  fields := #[]
  methods := #[k1m0, k1m1, k1m2]
  instanceTypes := #[]
  staticTypes := #[]
  resolved := Array.replicate 58 none
  statics := none }

def pool2 : Array CpInfo := pool [(1, .methodref 2 3), (0, .class_ 4), (0, .nameAndType 5 6), (0, u "java/lang/Object"), (0, u "<init>"), (0, u "()V"), (0, .fieldref 8 9), (0, .class_ 10), (0, .nameAndType 11 12), (0, u "com/example/mappa/mappa/core/FieldText"), (0, u "text"), (0, u "[C"), (0, .methodref 8 14), (0, .nameAndType 15 16), (0, u "restart"), (0, u "(III)Lcom/example/mappa/mappa/core/FieldText;"), (0, .fieldref 8 18), (0, .nameAndType 19 20), (0, u "line"), (0, u "I"), (0, .fieldref 8 22), (0, .nameAndType 23 20), (0, u "column"), (0, .fieldref 8 25), (0, .nameAndType 26 20), (0, u "max"), (0, .fieldref 8 28), (0, .nameAndType 29 20), (0, u "textLength"), (0, .fieldref 8 31), (0, .nameAndType 32 33), (0, u "cut"), (0, u "Z"), (0, .methodref 8 35), (0, .nameAndType 36 37), (0, u "append"), (0, u "([CIII)I"), (0, .methodref 8 39), (0, .nameAndType 40 41), (0, u "isXmlSpace"), (0, u "(C)Z"), (0, .methodref 43 44), (0, .class_ 45), (0, .nameAndType 46 47), (0, u "java/lang/Math"), (0, u "min"), (0, u "(II)I"), (0, .long 2), (12, .methodref 62 63), (0, .class_ 64), (0, .nameAndType 65 66), (0, u "java/lang/System"), (0, u "arraycopy"), (0, u "(Ljava/lang/Object;ILjava/lang/Object;II)V"), (0, .class_ 68), (0, u "java/lang/String"), (0, .methodref 67 70), (0, .nameAndType 5 71), (0, u "([CII)V"), (3, u "()I"), (8, u "(III)V"), (2, u "()Z"), (2, u "()Ljava/lang/String;")] 4

def k2c0 : Code := { maxStack := 4, maxLocals := 4, code := prog_32_method_1_code, exceptionTable := #[], attributes := #[] }
def k2m0 : Method := { name := "<init>", desc := "(III)V", sig := { parameters := [.int, .int, .int], returnType := none }, accessFlags := 0, code := some k2c0 }
def k2c1 : Code := { maxStack := 2, maxLocals := 4, code := prog_32_method_2_code, exceptionTable := #[], attributes := #[] }
def k2m1 : Method := { name := "restart", desc := "(III)Lcom/example/mappa/mappa/core/FieldText;", sig := { parameters := [.int, .int, .int], returnType := some (.object "com/example/mappa/mappa/core/FieldText") }, accessFlags := 0, code := some k2c1 }
def k2c2 : Code := { maxStack := 1, maxLocals := 1, code := prog_32_method_3_code, exceptionTable := #[], attributes := #[] }
def k2m2 : Method := { name := "line", desc := "()I", sig := { parameters := [], returnType := some .int }, accessFlags := 0, code := some k2c2 }
def k2c3 : Code := { maxStack := 1, maxLocals := 1, code := prog_32_method_4_code, exceptionTable := #[], attributes := #[] }
def k2m3 : Method := { name := "column", desc := "()I", sig := { parameters := [], returnType := some .int }, accessFlags := 0, code := some k2c3 }
def k2c4 : Code := { maxStack := 1, maxLocals := 1, code := prog_32_method_5_code, exceptionTable := #[], attributes := #[] }
def k2m4 : Method := { name := "max", desc := "()I", sig := { parameters := [], returnType := some .int }, accessFlags := 0, code := some k2c4 }
def k2c5 : Code := { maxStack := 1, maxLocals := 1, code := prog_32_method_6_code, exceptionTable := #[], attributes := #[] }
def k2m5 : Method := { name := "cut", desc := "()Z", sig := { parameters := [], returnType := some .boolean }, accessFlags := 0, code := some k2c5 }
def k2c6 : Code := { maxStack := 5, maxLocals := 4, code := prog_32_method_7_code, exceptionTable := #[], attributes := #[] }
def k2m6 : Method := { name := "append", desc := "([CII)V", sig := { parameters := [(.array .char), .int, .int], returnType := none }, accessFlags := 0, code := some k2c6 }
def k2c7 : Code := { maxStack := 8, maxLocals := 9, code := prog_32_method_8_code, exceptionTable := #[], attributes := #[] }
def k2m7 : Method := { name := "append", desc := "([CIII)I", sig := { parameters := [(.array .char), .int, .int, .int], returnType := some .int }, accessFlags := 0, code := some k2c7 }
def k2c8 : Code := { maxStack := 5, maxLocals := 2, code := prog_32_method_9_code, exceptionTable := #[], attributes := #[] }
def k2m8 : Method := { name := "text", desc := "()Ljava/lang/String;", sig := { parameters := [], returnType := some (.object "java/lang/String") }, accessFlags := 0, code := some k2c8 }
def k2c9 : Code := { maxStack := 2, maxLocals := 1, code := prog_32_method_11_code, exceptionTable := #[], attributes := #[] }
def k2m9 : Method := { name := "isXmlSpace", desc := "(C)Z", sig := { parameters := [.char], returnType := some .boolean }, accessFlags := 10, code := some k2c9 }
/-- com/example/mappa/mappa/core/FieldText -/
def k2 : Class := { plain "com/example/mappa/mappa/core/FieldText" (some 0) with
  accessFlags := 48
  interfaces := #[]
  cf := some (fileOf pool2 8 #[] #[{ accessFlags := 0, nameIndex := 5, descriptorIndex := 84, attributes := #[] }, { accessFlags := 0, nameIndex := 15, descriptorIndex := 16, attributes := #[] }, { accessFlags := 0, nameIndex := 19, descriptorIndex := 75, attributes := #[] }, { accessFlags := 0, nameIndex := 23, descriptorIndex := 75, attributes := #[] }, { accessFlags := 0, nameIndex := 26, descriptorIndex := 75, attributes := #[] }, { accessFlags := 0, nameIndex := 32, descriptorIndex := 87, attributes := #[] }, { accessFlags := 0, nameIndex := 36, descriptorIndex := 71, attributes := #[] }, { accessFlags := 0, nameIndex := 36, descriptorIndex := 37, attributes := #[] }, { accessFlags := 0, nameIndex := 11, descriptorIndex := 90, attributes := #[] }, { accessFlags := 10, nameIndex := 40, descriptorIndex := 41, attributes := #[] }] 48 2 #[] #[{ accessFlags := 2, nameIndex := 19, descriptorIndex := 20, attributes := #[] }, { accessFlags := 2, nameIndex := 23, descriptorIndex := 20, attributes := #[] }, { accessFlags := 2, nameIndex := 26, descriptorIndex := 20, attributes := #[] }, { accessFlags := 2, nameIndex := 11, descriptorIndex := 12, attributes := #[] }, { accessFlags := 2, nameIndex := 29, descriptorIndex := 20, attributes := #[] }, { accessFlags := 2, nameIndex := 32, descriptorIndex := 33, attributes := #[] }])
  fields := #[{ name := "line", type := .int, accessFlags := 2, slot := 0, constantValue := 0 }, { name := "column", type := .int, accessFlags := 2, slot := 1, constantValue := 0 }, { name := "max", type := .int, accessFlags := 2, slot := 2, constantValue := 0 }, { name := "text", type := (.array .char), accessFlags := 2, slot := 3, constantValue := 0 }, { name := "textLength", type := .int, accessFlags := 2, slot := 4, constantValue := 0 }, { name := "cut", type := .boolean, accessFlags := 2, slot := 5, constantValue := 0 }]
  methods := #[k2m0, k2m1, k2m2, k2m3, k2m4, k2m5, k2m6, k2m7, k2m8, k2m9]
  instanceTypes := #[.int, .int, .int, (.array .char), .int, .boolean]
  staticTypes := #[]
  resolved := Array.replicate 95 none
  statics := none }

def pool3 : Array CpInfo := pool [(1, .class_ 2), (0, u "java/io/Serializable"), (0, .class_ 4), (0, u "java/lang/Object")] 2

/-- java/io/Serializable -/
def k3 : Class := { plain "java/io/Serializable" (some 0) with
  accessFlags := 1537
  interfaces := #[]
  cf := some (fileOf pool3 1 #[] #[] 1537 3 #[] #[])
  fields := #[]
  methods := #[]
  instanceTypes := #[]
  staticTypes := #[]
  resolved := Array.replicate 7 none
  statics := none }

def pool4 : Array CpInfo := pool [(1, .class_ 2), (0, u "java/lang/Comparable"), (0, .class_ 4), (0, u "java/lang/Object")] 7

/-- java/lang/Comparable -/
def k4 : Class := { plain "java/lang/Comparable" (some 0) with
  accessFlags := 1537
  interfaces := #[]
  cf := some (fileOf pool4 1 #[] #[] 1537 3 #[] #[])
  fields := #[]
  methods := #[]
  instanceTypes := #[]
  staticTypes := #[]
  resolved := Array.replicate 12 none
  statics := none }

def pool5 : Array CpInfo := pool [(2, .class_ 4), (1, u "java/lang/CharSequence"), (42, .class_ 48), (0, u "java/lang/CharSequence$1CodePointIterator"), (10, .class_ 60), (0, u "java/lang/CharSequence$1CharIterator"), (5, .class_ 67), (0, u "java/lang/Object")] 63

/-- java/lang/CharSequence -/
def k5 : Class := { plain "java/lang/CharSequence" (some 0) with
  accessFlags := 1537
  interfaces := #[]
  cf := some (fileOf pool5 2 #[.nestMembers #[47, 59]] #[] 1537 66 #[] #[])
  fields := #[]
  methods := #[]
  instanceTypes := #[]
  staticTypes := #[]
  resolved := Array.replicate 131 none
  statics := none }

def pool6 : Array CpInfo := pool [(1, .class_ 2), (0, u "java/lang/constant/Constable"), (0, .class_ 4), (0, u "java/lang/Object")] 6

/-- java/lang/constant/Constable -/
def k6 : Class := { plain "java/lang/constant/Constable" (some 0) with
  accessFlags := 1537
  interfaces := #[]
  cf := some (fileOf pool6 1 #[] #[] 1537 3 #[] #[])
  fields := #[]
  methods := #[]
  instanceTypes := #[]
  staticTypes := #[]
  resolved := Array.replicate 11 none
  statics := none }

def pool7 : Array CpInfo := pool [(1, .class_ 2), (0, u "java/lang/constant/ConstantDesc"), (0, .class_ 4), (0, u "java/lang/Object")] 32

/-- java/lang/constant/ConstantDesc -/
def k7 : Class := { plain "java/lang/constant/ConstantDesc" (some 0) with
  accessFlags := 1537
  interfaces := #[]
  cf := some (fileOf pool7 1 #[] #[] 1537 3 #[] #[])
  fields := #[]
  methods := #[]
  instanceTypes := #[]
  staticTypes := #[]
  resolved := Array.replicate 37 none
  statics := none }

def pool8 : Array CpInfo := pool [(1, .methodref 2 3), (0, .class_ 4), (0, .nameAndType 5 6), (0, u "java/lang/Object"), (0, u "<init>"), (0, u "()V"), (0, .string 8), (0, u ""), (0, .fieldref 10 11), (0, .class_ 12), (0, .nameAndType 13 14), (0, u "java/lang/String"), (0, u "value"), (0, u "[B"), (0, .fieldref 10 16), (0, .nameAndType 17 18), (0, u "coder"), (0, u "B"), (2, u "hash"), (0, u "I"), (2, u "hashIsZero"), (0, u "Z"), (0, .methodref 10 28), (0, .nameAndType 5 29), (0, u "([CIILjava/lang/Void;)V"), (0, .methodref 10 31), (0, .nameAndType 32 33), (0, u "rangeCheck"), (0, u "([CII)Ljava/lang/Void;"), (0, .methodref 10 35), (0, .nameAndType 36 37), (0, u "checkBoundsOffCount"), (0, u "(III)I"), (2, u "COMPACT_STRINGS"), (101, u "()Z"), (432, .class_ 576), (0, u "java/lang/CharSequence"), (22, u "CASE_INSENSITIVE_ORDER"), (0, u "Ljava/util/Comparator;"), (91, u "isEmpty"), (279, u "([CII)V"), (80, .fieldref 1054 1055), (0, .class_ 1056), (0, .nameAndType 1057 1058), (0, u "jdk/internal/util/Preconditions"), (0, u "SIOOBE_FORMATTER"), (0, u "Ljava/util/function/BiFunction;"), (5, u "(IIILjava/util/function/BiFunction;)I"), (0, .methodref 1054 1066), (0, .nameAndType 1067 1064), (0, u "checkFromIndexSize"), (33, u "serialPersistentFields"), (0, u "[Ljava/io/ObjectStreamField;"), (0, .class_ 1104), (0, u "java/lang/String$CaseInsensitiveComparator"), (1, .class_ 1107), (0, u "java/io/Serializable"), (0, .class_ 1109), (0, u "java/lang/Comparable"), (0, .class_ 1111), (0, u "java/lang/constant/Constable"), (0, .class_ 1113), (0, u "java/lang/constant/ConstantDesc"), (2, u "serialVersionUID"), (0, u "J"), (3, u "REPL"), (0, u "C"), (2, u "LATIN1"), (1, u "UTF16")] 323

def k8m0 : Method := { name := "<init>", desc := "()V", sig := { parameters := [], returnType := none }, accessFlags := 1, code := none }
def k8c1 : Code := { maxStack := 7, maxLocals := 4, code := jdk_42_method_4_code, exceptionTable := #[], attributes := #[] }
def k8m1 : Method := { name := "<init>", desc := "([CII)V", sig := { parameters := [(.array .char), .int, .int], returnType := none }, accessFlags := 1, code := some k8c1 }
def k8c2 : Code := { maxStack := 3, maxLocals := 3, code := jdk_42_method_5_code, exceptionTable := #[], attributes := #[] }
def k8m2 : Method := { name := "rangeCheck", desc := "([CII)Ljava/lang/Void;", sig := { parameters := [(.array .char), .int, .int], returnType := some (.object "java/lang/Void") }, accessFlags := 10, code := some k8c2 }
def k8c3 : Code := { maxStack := 1, maxLocals := 1, code := jdk_42_method_55_code, exceptionTable := #[], attributes := #[] }
def k8m3 : Method := { name := "isEmpty", desc := "()Z", sig := { parameters := [], returnType := some .boolean }, accessFlags := 1, code := some k8c3 }
def k8c4 : Code := { maxStack := 4, maxLocals := 6, code := jdk_42_method_149_code, exceptionTable := #[], attributes := #[] }
def k8m4 : Method := { name := "<init>", desc := "([CIILjava/lang/Void;)V", sig := { parameters := [(.array .char), .int, .int, (.object "java/lang/Void")], returnType := none }, accessFlags := 2, code := some k8c4 }
def k8c5 : Code := { maxStack := 4, maxLocals := 3, code := jdk_42_method_157_code, exceptionTable := #[], attributes := #[] }
def k8m5 : Method := { name := "checkBoundsOffCount", desc := "(III)I", sig := { parameters := [.int, .int, .int], returnType := some .int }, accessFlags := 8, code := some k8c5 }
/-- java/lang/String -/
def k8 : Class := { plain "java/lang/String" (some 0) with
  accessFlags := 49
  interfaces := #[3, 4, 5, 6, 7]
  cf := some (fileOf pool8 10 #[.nestMembers #[1103]] #[{ accessFlags := 1, nameIndex := 5, descriptorIndex := 6, attributes := #[] }, { accessFlags := 1, nameIndex := 5, descriptorIndex := 972, attributes := #[] }, { accessFlags := 10, nameIndex := 32, descriptorIndex := 33, attributes := #[] }, { accessFlags := 1, nameIndex := 692, descriptorIndex := 142, attributes := #[] }, { accessFlags := 2, nameIndex := 5, descriptorIndex := 29, attributes := #[] }, { accessFlags := 8, nameIndex := 36, descriptorIndex := 37, attributes := #[] }] 49 2 #[1106, 1108, 575, 1110, 1112] #[{ accessFlags := 18, nameIndex := 13, descriptorIndex := 14, attributes := #[] }, { accessFlags := 18, nameIndex := 17, descriptorIndex := 18, attributes := #[] }, { accessFlags := 2, nameIndex := 21, descriptorIndex := 22, attributes := #[] }, { accessFlags := 2, nameIndex := 25, descriptorIndex := 26, attributes := #[] }, { accessFlags := 26, nameIndex := 1116, descriptorIndex := 1117, attributes := #[] }, { accessFlags := 24, nameIndex := 40, descriptorIndex := 26, attributes := #[] }, { accessFlags := 26, nameIndex := 1101, descriptorIndex := 1102, attributes := #[] }, { accessFlags := 26, nameIndex := 1121, descriptorIndex := 1122, attributes := #[] }, { accessFlags := 25, nameIndex := 599, descriptorIndex := 600, attributes := #[] }, { accessFlags := 24, nameIndex := 1125, descriptorIndex := 18, attributes := #[] }, { accessFlags := 24, nameIndex := 1127, descriptorIndex := 18, attributes := #[] }])
  fields := #[{ name := "value", type := (.array .byte), accessFlags := 18, slot := 0, constantValue := 0 }, { name := "coder", type := .byte, accessFlags := 18, slot := 1, constantValue := 0 }, { name := "hash", type := .int, accessFlags := 2, slot := 2, constantValue := 0 }, { name := "hashIsZero", type := .boolean, accessFlags := 2, slot := 3, constantValue := 0 }, { name := "serialVersionUID", type := .long, accessFlags := 26, slot := 0, constantValue := 0 }, { name := "COMPACT_STRINGS", type := .boolean, accessFlags := 24, slot := 1, constantValue := 0 }, { name := "serialPersistentFields", type := (.array (.object "java/io/ObjectStreamField")), accessFlags := 26, slot := 2, constantValue := 0 }, { name := "REPL", type := .char, accessFlags := 26, slot := 3, constantValue := 0 }, { name := "CASE_INSENSITIVE_ORDER", type := (.object "java/util/Comparator"), accessFlags := 25, slot := 4, constantValue := 0 }, { name := "LATIN1", type := .byte, accessFlags := 24, slot := 5, constantValue := 0 }, { name := "UTF16", type := .byte, accessFlags := 24, slot := 6, constantValue := 0 }]
  methods := #[k8m0, k8m1, k8m2, k8m3, k8m4, k8m5]
  instanceTypes := #[(.array .byte), .byte, .int, .boolean]
  staticTypes := #[.long, .boolean, (.array (.object "java/io/ObjectStreamField")), .char, (.object "java/util/Comparator"), .byte, .byte]
  resolved := Array.replicate 1451 none
  statics := some 0 }

def pool9 : Array CpInfo := pool [(2, .class_ 4), (1, u "java/lang/Object"), (0, u "<init>"), (0, u "()V"), (17, .class_ 26), (1, u "jdk/internal/util/Preconditions"), (22, u "checkFromIndexSize"), (5, .class_ 56), (0, u "jdk/internal/util/Preconditions$4"), (57, .class_ 115), (0, u "jdk/internal/util/Preconditions$1"), (7, u "SIOOBE_FORMATTER"), (0, u "Ljava/util/function/BiFunction;"), (0, .class_ 126), (0, u "jdk/internal/util/Preconditions$2"), (3, u "AIOOBE_FORMATTER"), (0, .class_ 132), (0, u "jdk/internal/util/Preconditions$3"), (3, u "IOOBE_FORMATTER"), (46, u "(IIILjava/util/function/BiFunction;)I")] 10

def k9m0 : Method := { name := "<init>", desc := "()V", sig := { parameters := [], returnType := none }, accessFlags := 1, code := none }
def k9c1 : Code := { maxStack := 4, maxLocals := 4, code := jdk_41_method_13_code, exceptionTable := #[], attributes := #[] }
def k9m1 : Method := { name := "checkFromIndexSize", desc := "(IIILjava/util/function/BiFunction;)I", sig := { parameters := [.int, .int, .int, (.object "java/util/function/BiFunction")], returnType := some .int }, accessFlags := 9, code := some k9c1 }
/-- jdk/internal/util/Preconditions -/
def k9 : Class := { plain "jdk/internal/util/Preconditions" (some 0) with
  accessFlags := 33
  interfaces := #[]
  cf := some (fileOf pool9 24 #[.nestMembers #[55, 131, 125, 114]] #[{ accessFlags := 1, nameIndex := 5, descriptorIndex := 6, attributes := #[] }, { accessFlags := 9, nameIndex := 49, descriptorIndex := 183, attributes := #[] }] 33 2 #[] #[{ accessFlags := 25, nameIndex := 123, descriptorIndex := 124, attributes := #[] }, { accessFlags := 25, nameIndex := 130, descriptorIndex := 124, attributes := #[] }, { accessFlags := 25, nameIndex := 136, descriptorIndex := 124, attributes := #[] }])
  fields := #[{ name := "SIOOBE_FORMATTER", type := (.object "java/util/function/BiFunction"), accessFlags := 25, slot := 0, constantValue := 0 }, { name := "AIOOBE_FORMATTER", type := (.object "java/util/function/BiFunction"), accessFlags := 25, slot := 1, constantValue := 0 }, { name := "IOOBE_FORMATTER", type := (.object "java/util/function/BiFunction"), accessFlags := 25, slot := 2, constantValue := 0 }]
  methods := #[k9m0, k9m1]
  instanceTypes := #[]
  staticTypes := #[(.object "java/util/function/BiFunction"), (.object "java/util/function/BiFunction"), (.object "java/util/function/BiFunction")]
  resolved := Array.replicate 194 none
  statics := some 1 }

def pool10 : Array CpInfo := pool [(1, .class_ 2), (0, u "java/lang/Math"), (1, .class_ 6), (1, u "java/lang/Object"), (0, u "<init>"), (0, u "()V"), (89, .class_ 100), (1, u "java/lang/Math$RandomNumberGeneratorHolder"), (71, u "negativeZeroFloatBits"), (0, u "J"), (2, u "negativeZeroDoubleBits"), (24, u "min"), (43, u "$assertionsDisabled"), (0, u "Z"), (88, u "(II)I"), (2, u "twoToTheDoubleScaleDown"), (0, u "D"), (4, u "twoToTheDoubleScaleUp"), (9, u "E"), (3, u "PI"), (2, u "TAU"), (2, u "DEGREES_TO_RADIANS"), (0, u "RADIANS_TO_DEGREES")] 94

def k10m0 : Method := { name := "<init>", desc := "()V", sig := { parameters := [], returnType := none }, accessFlags := 2, code := none }
def k10c1 : Code := { maxStack := 2, maxLocals := 2, code := jdk_29_method_69_code, exceptionTable := #[], attributes := #[] }
def k10m1 : Method := { name := "min", desc := "(II)I", sig := { parameters := [.int, .int], returnType := some .int }, accessFlags := 9, code := some k10c1 }
/-- java/lang/Math -/
def k10 : Class := { plain "java/lang/Math" (some 0) with
  accessFlags := 49
  interfaces := #[]
  cf := some (fileOf pool10 1 #[.nestMembers #[98]] #[{ accessFlags := 2, nameIndex := 7, descriptorIndex := 8, attributes := #[] }, { accessFlags := 9, nameIndex := 201, descriptorIndex := 335, attributes := #[] }] 49 4 #[] #[{ accessFlags := 25, nameIndex := 354, descriptorIndex := 339, attributes := #[] }, { accessFlags := 25, nameIndex := 358, descriptorIndex := 339, attributes := #[] }, { accessFlags := 25, nameIndex := 361, descriptorIndex := 339, attributes := #[] }, { accessFlags := 26, nameIndex := 364, descriptorIndex := 339, attributes := #[] }, { accessFlags := 26, nameIndex := 365, descriptorIndex := 339, attributes := #[] }, { accessFlags := 26, nameIndex := 172, descriptorIndex := 173, attributes := #[] }, { accessFlags := 26, nameIndex := 176, descriptorIndex := 173, attributes := #[] }, { accessFlags := 8, nameIndex := 344, descriptorIndex := 339, attributes := #[] }, { accessFlags := 8, nameIndex := 338, descriptorIndex := 339, attributes := #[] }, { accessFlags := 4120, nameIndex := 245, descriptorIndex := 246, attributes := #[] }])
  fields := #[{ name := "E", type := .double, accessFlags := 25, slot := 0, constantValue := 0 }, { name := "PI", type := .double, accessFlags := 25, slot := 1, constantValue := 0 }, { name := "TAU", type := .double, accessFlags := 25, slot := 2, constantValue := 0 }, { name := "DEGREES_TO_RADIANS", type := .double, accessFlags := 26, slot := 3, constantValue := 0 }, { name := "RADIANS_TO_DEGREES", type := .double, accessFlags := 26, slot := 4, constantValue := 0 }, { name := "negativeZeroFloatBits", type := .long, accessFlags := 26, slot := 5, constantValue := 0 }, { name := "negativeZeroDoubleBits", type := .long, accessFlags := 26, slot := 6, constantValue := 0 }, { name := "twoToTheDoubleScaleUp", type := .double, accessFlags := 8, slot := 7, constantValue := 0 }, { name := "twoToTheDoubleScaleDown", type := .double, accessFlags := 8, slot := 8, constantValue := 0 }, { name := "$assertionsDisabled", type := .boolean, accessFlags := 4120, slot := 9, constantValue := 0 }]
  methods := #[k10m0, k10m1]
  instanceTypes := #[]
  staticTypes := #[.double, .double, .double, .double, .double, .long, .long, .double, .double, .boolean]
  resolved := Array.replicate 460 none
  statics := none }

def pool11 : Array CpInfo := pool [(2, .class_ 4), (1, u "java/lang/Object"), (0, u "<init>"), (0, u "()V"), (1, .class_ 10), (1, u "java/lang/System"), (0, u "allowSecurityManager"), (0, u "I"), (16, u "cons"), (0, u "Ljava/io/Console;"), (77, .class_ 110), (1, u "java/lang/System$CallersHolder"), (43, u "initialErrStream"), (0, u "Ljava/io/PrintStream;"), (19, u "security"), (0, u "Ljava/lang/SecurityManager;"), (31, .class_ 209), (0, u "java/lang/System$1"), (7, u "props"), (0, u "Ljava/util/Properties;"), (2, u "lineSeparator"), (0, u "Ljava/lang/String;"), (96, .class_ 321), (1, u "java/lang/System$LoggerFinder"), (5, .class_ 328), (0, u "java/lang/System$Logger"), (67, u "err"), (2, u "out"), (91, u "notSupportedJnuEncoding"), (15, u "in"), (17, u "initialIn"), (0, u "Ljava/io/InputStream;"), (35, u "bootLayer"), (0, u "Ljava/lang/ModuleLayer;"), (99, .class_ 664), (0, u "java/lang/System$2"), (9, u "NEVER"), (2, u "MAYBE"), (49, u "arraycopy"), (0, u "(Ljava/lang/Object;ILjava/lang/Object;II)V"), (72, .class_ 802), (0, u "java/lang/System$Logger$Level")] 31

def k11m0 : Method := { name := "<init>", desc := "()V", sig := { parameters := [], returnType := none }, accessFlags := 2, code := none }
def k11m1 : Method := { name := "arraycopy", desc := "(Ljava/lang/Object;ILjava/lang/Object;II)V", sig := { parameters := [(.object "java/lang/Object"), .int, (.object "java/lang/Object"), .int, .int], returnType := none }, accessFlags := 265, code := none }
/-- java/lang/System -/
def k11 : Class := { plain "java/lang/System" (some 0) with
  accessFlags := 49
  interfaces := #[]
  cf := some (fileOf pool11 8 #[.nestMembers #[319, 327, 801, 108, 663, 208]] #[{ accessFlags := 2, nameIndex := 5, descriptorIndex := 6, attributes := #[] }, { accessFlags := 265, nameIndex := 727, descriptorIndex := 728, attributes := #[] }] 49 2 #[] #[{ accessFlags := 25, nameIndex := 507, descriptorIndex := 526, attributes := #[] }, { accessFlags := 25, nameIndex := 399, descriptorIndex := 155, attributes := #[] }, { accessFlags := 25, nameIndex := 396, descriptorIndex := 155, attributes := #[] }, { accessFlags := 10, nameIndex := 525, descriptorIndex := 526, attributes := #[] }, { accessFlags := 26, nameIndex := 674, descriptorIndex := 12, attributes := #[] }, { accessFlags := 26, nameIndex := 677, descriptorIndex := 12, attributes := #[] }, { accessFlags := 10, nameIndex := 11, descriptorIndex := 12, attributes := #[] }, { accessFlags := 74, nameIndex := 175, descriptorIndex := 176, attributes := #[] }, { accessFlags := 10, nameIndex := 491, descriptorIndex := 222, attributes := #[] }, { accessFlags := 74, nameIndex := 29, descriptorIndex := 30, attributes := #[] }, { accessFlags := 74, nameIndex := 154, descriptorIndex := 155, attributes := #[] }, { accessFlags := 10, nameIndex := 217, descriptorIndex := 218, attributes := #[] }, { accessFlags := 10, nameIndex := 221, descriptorIndex := 222, attributes := #[] }, { accessFlags := 8, nameIndex := 562, descriptorIndex := 563, attributes := #[] }])
  fields := #[{ name := "in", type := (.object "java/io/InputStream"), accessFlags := 25, slot := 0, constantValue := 0 }, { name := "out", type := (.object "java/io/PrintStream"), accessFlags := 25, slot := 1, constantValue := 0 }, { name := "err", type := (.object "java/io/PrintStream"), accessFlags := 25, slot := 2, constantValue := 0 }, { name := "initialIn", type := (.object "java/io/InputStream"), accessFlags := 10, slot := 3, constantValue := 0 }, { name := "NEVER", type := .int, accessFlags := 26, slot := 4, constantValue := 0 }, { name := "MAYBE", type := .int, accessFlags := 26, slot := 5, constantValue := 0 }, { name := "allowSecurityManager", type := .int, accessFlags := 10, slot := 6, constantValue := 0 }, { name := "security", type := (.object "java/lang/SecurityManager"), accessFlags := 74, slot := 7, constantValue := 0 }, { name := "notSupportedJnuEncoding", type := (.object "java/lang/String"), accessFlags := 10, slot := 8, constantValue := 0 }, { name := "cons", type := (.object "java/io/Console"), accessFlags := 74, slot := 9, constantValue := 0 }, { name := "initialErrStream", type := (.object "java/io/PrintStream"), accessFlags := 74, slot := 10, constantValue := 0 }, { name := "props", type := (.object "java/util/Properties"), accessFlags := 10, slot := 11, constantValue := 0 }, { name := "lineSeparator", type := (.object "java/lang/String"), accessFlags := 10, slot := 12, constantValue := 0 }, { name := "bootLayer", type := (.object "java/lang/ModuleLayer"), accessFlags := 8, slot := 13, constantValue := 0 }]
  methods := #[k11m0, k11m1]
  instanceTypes := #[]
  staticTypes := #[(.object "java/io/InputStream"), (.object "java/io/PrintStream"), (.object "java/io/PrintStream"), (.object "java/io/InputStream"), .int, .int, .int, (.object "java/lang/SecurityManager"), (.object "java/lang/String"), (.object "java/io/Console"), (.object "java/io/PrintStream"), (.object "java/util/Properties"), (.object "java/lang/String"), (.object "java/lang/ModuleLayer")]
  resolved := Array.replicate 834 none
  statics := none }

def pool12 : Array CpInfo := pool [(4, .class_ 6), (1, u "java/lang/Object"), (0, u "<init>"), (0, u "()V"), (5, .class_ 16), (1, u "java/lang/StringLatin1"), (104, u "$assertionsDisabled"), (0, u "Z"), (98, .class_ 223), (1, u "java/lang/StringLatin1$LinesSpliterator"), (166, .class_ 391), (0, u "java/lang/StringLatin1$CharsSpliterator")] 3

def k12m0 : Method := { name := "<init>", desc := "()V", sig := { parameters := [], returnType := none }, accessFlags := 0, code := none }
/-- java/lang/StringLatin1 -/
def k12 : Class := { plain "java/lang/StringLatin1" (some 0) with
  accessFlags := 48
  interfaces := #[]
  cf := some (fileOf pool12 14 #[.nestMembers #[390, 221]] #[{ accessFlags := 0, nameIndex := 7, descriptorIndex := 8, attributes := #[] }] 48 4 #[] #[{ accessFlags := 4120, nameIndex := 121, descriptorIndex := 122, attributes := #[] }])
  fields := #[{ name := "$assertionsDisabled", type := .boolean, accessFlags := 4120, slot := 0, constantValue := 0 }]
  methods := #[k12m0]
  instanceTypes := #[]
  staticTypes := #[.boolean]
  resolved := Array.replicate 395 none
  statics := none }

def pool13 : Array CpInfo := pool [(9, u "<init>"), (6, .class_ 18), (1, u "java/lang/Object"), (0, u "()V"), (1, .class_ 23), (1, u "jdk/internal/util/ArraysSupport"), (0, u "LOG2_ARRAY_LONG_INDEX_SCALE"), (0, u "I"), (2, u "U"), (0, u "Ljdk/internal/misc/Unsafe;"), (8, u "BIG_ENDIAN"), (0, u "Z"), (8, u "LOG2_BYTE_BIT_SIZE"), (4, u "LOG2_ARRAY_INT_INDEX_SCALE"), (54, u "JLA"), (0, u "Ljdk/internal/access/JavaLangAccess;"), (11, u "LOG2_ARRAY_BOOLEAN_INDEX_SCALE"), (9, u "LOG2_ARRAY_BYTE_INDEX_SCALE"), (5, u "LOG2_ARRAY_CHAR_INDEX_SCALE"), (5, u "LOG2_ARRAY_SHORT_INDEX_SCALE"), (18, u "LOG2_ARRAY_FLOAT_INDEX_SCALE"), (24, u "LOG2_ARRAY_DOUBLE_INDEX_SCALE"), (89, u "T_BOOLEAN"), (2, u "T_CHAR"), (1, u "T_FLOAT"), (1, u "T_DOUBLE"), (1, u "T_BYTE"), (1, u "T_SHORT"), (1, u "T_INT"), (1, u "T_LONG"), (1, u "SOFT_MAX_ARRAY_LENGTH")] 83

def k13m0 : Method := { name := "<init>", desc := "()V", sig := { parameters := [], returnType := none }, accessFlags := 2, code := none }
/-- jdk/internal/util/ArraysSupport -/
def k13 : Class := { plain "jdk/internal/util/ArraysSupport" (some 0) with
  accessFlags := 33
  interfaces := #[]
  cf := some (fileOf pool13 21 #[] #[{ accessFlags := 2, nameIndex := 9, descriptorIndex := 19, attributes := #[] }] 33 16 #[] #[{ accessFlags := 24, nameIndex := 28, descriptorIndex := 29, attributes := #[] }, { accessFlags := 26, nameIndex := 38, descriptorIndex := 39, attributes := #[] }, { accessFlags := 25, nameIndex := 121, descriptorIndex := 25, attributes := #[] }, { accessFlags := 25, nameIndex := 131, descriptorIndex := 25, attributes := #[] }, { accessFlags := 25, nameIndex := 137, descriptorIndex := 25, attributes := #[] }, { accessFlags := 25, nameIndex := 143, descriptorIndex := 25, attributes := #[] }, { accessFlags := 25, nameIndex := 53, descriptorIndex := 25, attributes := #[] }, { accessFlags := 25, nameIndex := 24, descriptorIndex := 25, attributes := #[] }, { accessFlags := 25, nameIndex := 162, descriptorIndex := 25, attributes := #[] }, { accessFlags := 25, nameIndex := 187, descriptorIndex := 25, attributes := #[] }, { accessFlags := 26, nameIndex := 48, descriptorIndex := 25, attributes := #[] }, { accessFlags := 25, nameIndex := 277, descriptorIndex := 25, attributes := #[] }, { accessFlags := 25, nameIndex := 280, descriptorIndex := 25, attributes := #[] }, { accessFlags := 25, nameIndex := 282, descriptorIndex := 25, attributes := #[] }, { accessFlags := 25, nameIndex := 284, descriptorIndex := 25, attributes := #[] }, { accessFlags := 25, nameIndex := 286, descriptorIndex := 25, attributes := #[] }, { accessFlags := 25, nameIndex := 288, descriptorIndex := 25, attributes := #[] }, { accessFlags := 25, nameIndex := 290, descriptorIndex := 25, attributes := #[] }, { accessFlags := 25, nameIndex := 292, descriptorIndex := 25, attributes := #[] }, { accessFlags := 26, nameIndex := 108, descriptorIndex := 109, attributes := #[] }, { accessFlags := 25, nameIndex := 294, descriptorIndex := 25, attributes := #[] }])
  fields := #[{ name := "U", type := (.object "jdk/internal/misc/Unsafe"), accessFlags := 24, slot := 0, constantValue := 0 }, { name := "BIG_ENDIAN", type := .boolean, accessFlags := 26, slot := 1, constantValue := 0 }, { name := "LOG2_ARRAY_BOOLEAN_INDEX_SCALE", type := .int, accessFlags := 25, slot := 2, constantValue := 0 }, { name := "LOG2_ARRAY_BYTE_INDEX_SCALE", type := .int, accessFlags := 25, slot := 3, constantValue := 0 }, { name := "LOG2_ARRAY_CHAR_INDEX_SCALE", type := .int, accessFlags := 25, slot := 4, constantValue := 0 }, { name := "LOG2_ARRAY_SHORT_INDEX_SCALE", type := .int, accessFlags := 25, slot := 5, constantValue := 0 }, { name := "LOG2_ARRAY_INT_INDEX_SCALE", type := .int, accessFlags := 25, slot := 6, constantValue := 0 }, { name := "LOG2_ARRAY_LONG_INDEX_SCALE", type := .int, accessFlags := 25, slot := 7, constantValue := 0 }, { name := "LOG2_ARRAY_FLOAT_INDEX_SCALE", type := .int, accessFlags := 25, slot := 8, constantValue := 0 }, { name := "LOG2_ARRAY_DOUBLE_INDEX_SCALE", type := .int, accessFlags := 25, slot := 9, constantValue := 0 }, { name := "LOG2_BYTE_BIT_SIZE", type := .int, accessFlags := 26, slot := 10, constantValue := 0 }, { name := "T_BOOLEAN", type := .int, accessFlags := 25, slot := 11, constantValue := 0 }, { name := "T_CHAR", type := .int, accessFlags := 25, slot := 12, constantValue := 0 }, { name := "T_FLOAT", type := .int, accessFlags := 25, slot := 13, constantValue := 0 }, { name := "T_DOUBLE", type := .int, accessFlags := 25, slot := 14, constantValue := 0 }, { name := "T_BYTE", type := .int, accessFlags := 25, slot := 15, constantValue := 0 }, { name := "T_SHORT", type := .int, accessFlags := 25, slot := 16, constantValue := 0 }, { name := "T_INT", type := .int, accessFlags := 25, slot := 17, constantValue := 0 }, { name := "T_LONG", type := .int, accessFlags := 25, slot := 18, constantValue := 0 }, { name := "JLA", type := (.object "jdk/internal/access/JavaLangAccess"), accessFlags := 26, slot := 19, constantValue := 0 }, { name := "SOFT_MAX_ARRAY_LENGTH", type := .int, accessFlags := 25, slot := 20, constantValue := 0 }]
  methods := #[k13m0]
  instanceTypes := #[]
  staticTypes := #[(.object "jdk/internal/misc/Unsafe"), .boolean, .int, .int, .int, .int, .int, .int, .int, .int, .int, .int, .int, .int, .int, .int, .int, .int, .int, (.object "jdk/internal/access/JavaLangAccess"), .int]
  resolved := Array.replicate 378 none
  statics := none }

def pool14 : Array CpInfo := pool [(1, u "java/lang/Cloneable"), (0, .class_ 1), (0, u "java/lang/Object"), (0, .class_ 3)] 3

/-- java/lang/Cloneable -/
def k14 : Class := { plain "java/lang/Cloneable" (some 0) with
  accessFlags := 1537
  interfaces := #[]
  cf := some (fileOf pool14 2 #[] #[] 1537 4 #[] #[])
  fields := #[]
  methods := #[]
  instanceTypes := #[]
  staticTypes := #[]
  resolved := Array.replicate 8 none
  statics := none }

/-- the primitive byte -/
def k15 : Class := { plain "byte" none with kind := .primitive 'B', accessFlags := 0x411 }
/-- [B -/
def k16 : Class := { plain "[B" (some 0) with kind := .array 15 .byte, interfaces := #[14, 3], accessFlags := 1041 }

/-- the primitive char -/
def k17 : Class := { plain "char" none with kind := .primitive 'C', accessFlags := 0x411 }
/-- [C -/
def k18 : Class := { plain "[C" (some 0) with kind := .array 17 .char, interfaces := #[14, 3], accessFlags := 1041 }

/-- the primitive int -/
def k19 : Class := { plain "int" none with kind := .primitive 'I', accessFlags := 0x411 }
/-- [I -/
def k20 : Class := { plain "[I" (some 0) with kind := .array 19 .int, interfaces := #[14, 3], accessFlags := 1041 }

def heap : Heap := #[{ cls := 8, slots := #[.long 0, .int 1, .null, .int 0, .null, .int 0, .int 0], vm := .statics 8 },
  { cls := 9, slots := #[.null, .null, .null], vm := .statics 9 }]
def classes : Array Class := #[k0, k1, k2, k3, k4, k5, k6, k7, k8, k9, k10, k11, k12, k13, k14, k15, k16, k17, k18, k19, k20]
def interned : List (Array UInt16 × Addr) := []
def slotsUsed : Nat := 10
def theMethod : MethodId := ⟨1, 2⟩
def args0 : Array Value := #[.int 13, .int 5, .int 2, .int 1, .int 1, .int 3]
def aboutOver (below : List Frame) : State where
  vm := { classes := classes, interned := interned.toArray }
  heap := heap
  slotsUsed := slotsUsed
  threads := #[{ frames := .invoking theMethod args0 :: below }]
def below0 : List Frame := [.native { method := ⟨0, 0⟩, args := #[] }]
def about1 : State := aboutOver below0
def p0 : Program := .bare "" "" ""
def e0 : Env := launch0.env 0 0 0
theorem w_frames : about1.frames = Frame.invoking theMethod args0 :: below0 := rfl
set_option maxRecDepth 65536 in
theorem w_args : argsFit about1.vm theMethod args0 = true := by decide +kernel
set_option maxRecDepth 65536 in
theorem w_heap : heapFits about1 = true := by decide +kernel
set_option maxRecDepth 65536 in
theorem w_runnable : about1.curStatus? = some .runnable := by decide +kernel
set_option maxRecDepth 65536 in
theorem w_alone : about1.alone = true := by decide +kernel
set_option maxRecDepth 65536 in
theorem w_named : about1.methodNamed? x = some theMethod := by decide +kernel
set_option maxRecDepth 65536 in
theorem w_hears : about1.hears theMethod below0 = true := by decide +kernel
set_option maxRecDepth 65536 in
theorem w_ripe : about1.ripe theMethod args0 below0 = true := by decide +kernel
theorem w_running : about1.status = .running := rfl
set_option maxRecDepth 65536 in
theorem w_room : about1.hasRoom e0.platform room_1 = true :=
  launch0.hasRoom_least _ room_1 (by decide +kernel) (by decide +kernel) (by decide +kernel) (by decide +kernel) (by decide +kernel) (by decide +kernel)
theorem allAtoms_all (ts : List Jvm.Cond) (a : Array Jvm.Value) (st : Jvm.State) : (allAtoms ts).before a st = ts.all (fun c => c.before a st) := by
  induction ts with
  | nil => rfl
  | cons c t ih =>
    show (Jvm.Cond.and c (allAtoms t)).before a st = _
    rw [Jvm.Cond.before_and, ih, List.all_cons]
def words1 : List Jvm.Cond := Jvm.Cond.code x code maxLocals ret :: tables_1
/-- a 'code' word, met by the world's own term for the bytes: nothing is compared byte by byte -/
theorem code_word {y : MethodName} {bytes : ByteArray} {mx : Nat} {rt : Option FieldType} {a : Array Value} {s : State} {m : MethodId} {meth : Method} {c : Code} (h1 : s.methodNamed? y = some m) (h2 : s.vm.method? m = some meth) (h3 : meth.code = some c) (h4 : c.code = bytes)
    (h5 : (c.maxLocals == mx && c.exceptionTable.isEmpty && decide (c.maxStack ≤ mostOperands) && decide (meth.sig.returnType = rt) && !meth.locks && decide (parseMethodDescriptor y.desc = some meth.sig)) = true) : (Jvm.Cond.code y bytes mx rt).before a s = true := by
  simp only [Bool.and_eq_true, beq_iff_eq, Bool.not_eq_true', decide_eq_true_eq] at h5
  obtain ⟨⟨⟨⟨⟨g1, g2⟩, g3⟩, g4⟩, g5⟩, g6⟩ := h5
  simp [Cond.before, Cond.holds, Cond.value, h1, h2, h3, h4, g1, g2, g3, g4, g5, g6]
def isCode : Jvm.Cond → Bool
  | .code _ _ _ _ => true
  | _ => false
theorem all_split {L : List Jvm.Cond} {P : Jvm.Cond → Bool} (h1 : L.all (fun c => isCode c || P c) = true) (h2 : ∀ c ∈ L.filter isCode, P c = true) : L.all P = true := by
  refine List.all_eq_true.mpr fun c hc => ?_
  have h := List.all_eq_true.mp h1 c hc
  rcases Bool.eq_false_or_eq_true (isCode c) with hi | hi
  · exact h2 c (List.mem_filter.mpr ⟨hc, hi⟩)
  · simpa [hi] using h
set_option maxRecDepth 65536 in
theorem w_c0 : (Jvm.Cond.code x code maxLocals ret).before args0 about1 = true := code_word (m := ⟨1, 2⟩) (meth := k1m2) (c := k1c2) (by decide +kernel) rfl rfl rfl (by decide +kernel)
set_option maxRecDepth 65536 in
theorem w_c1 : (Jvm.Cond.code ({ cls := "com/example/mappa/mappa/core/FieldTextRestartPinLaw", name := "pick", desc := "(I)C" } : Jvm.MethodName) method_2_code (3 : Nat) (Option.some Jvm.ClassFile.FieldType.char)).before args0 about1 = true := code_word (m := ⟨1, 1⟩) (meth := k1m1) (c := k1c1) (by decide +kernel) rfl rfl rfl (by decide +kernel)
set_option maxRecDepth 65536 in
theorem w_c2 : (Jvm.Cond.code ({ cls := "com/example/mappa/mappa/core/FieldText", name := "<init>", desc := "(III)V" } : Jvm.MethodName) prog_32_method_1_code (4 : Nat) (Option.none : Option Jvm.ClassFile.FieldType)).before args0 about1 = true := code_word (m := ⟨2, 0⟩) (meth := k2m0) (c := k2c0) (by decide +kernel) rfl rfl rfl (by decide +kernel)
set_option maxRecDepth 65536 in
theorem w_c3 : (Jvm.Cond.code ({ cls := "java/lang/Object", name := "<init>", desc := "()V" } : Jvm.MethodName) object_method_1_code (1 : Nat) (Option.none : Option Jvm.ClassFile.FieldType)).before args0 about1 = true := code_word (m := ⟨0, 0⟩) (meth := k0m0) (c := k0c0) (by decide +kernel) rfl rfl rfl (by decide +kernel)
set_option maxRecDepth 65536 in
theorem w_c4 : (Jvm.Cond.code ({ cls := "com/example/mappa/mappa/core/FieldText", name := "restart", desc := "(III)Lcom/example/mappa/mappa/core/FieldText;" } : Jvm.MethodName) prog_32_method_2_code (4 : Nat) (Option.some (Jvm.ClassFile.FieldType.object "com/example/mappa/mappa/core/FieldText"))).before args0 about1 = true := code_word (m := ⟨2, 1⟩) (meth := k2m1) (c := k2c1) (by decide +kernel) rfl rfl rfl (by decide +kernel)
set_option maxRecDepth 65536 in
theorem w_c5 : (Jvm.Cond.code ({ cls := "com/example/mappa/mappa/core/FieldText", name := "line", desc := "()I" } : Jvm.MethodName) prog_32_method_3_code (1 : Nat) (Option.some Jvm.ClassFile.FieldType.int)).before args0 about1 = true := code_word (m := ⟨2, 2⟩) (meth := k2m2) (c := k2c2) (by decide +kernel) rfl rfl rfl (by decide +kernel)
set_option maxRecDepth 65536 in
theorem w_c6 : (Jvm.Cond.code ({ cls := "com/example/mappa/mappa/core/FieldText", name := "column", desc := "()I" } : Jvm.MethodName) prog_32_method_4_code (1 : Nat) (Option.some Jvm.ClassFile.FieldType.int)).before args0 about1 = true := code_word (m := ⟨2, 3⟩) (meth := k2m3) (c := k2c3) (by decide +kernel) rfl rfl rfl (by decide +kernel)
set_option maxRecDepth 65536 in
theorem w_c7 : (Jvm.Cond.code ({ cls := "com/example/mappa/mappa/core/FieldText", name := "max", desc := "()I" } : Jvm.MethodName) prog_32_method_5_code (1 : Nat) (Option.some Jvm.ClassFile.FieldType.int)).before args0 about1 = true := code_word (m := ⟨2, 4⟩) (meth := k2m4) (c := k2c4) (by decide +kernel) rfl rfl rfl (by decide +kernel)
set_option maxRecDepth 65536 in
theorem w_c8 : (Jvm.Cond.code ({ cls := "com/example/mappa/mappa/core/FieldText", name := "cut", desc := "()Z" } : Jvm.MethodName) prog_32_method_6_code (1 : Nat) (Option.some Jvm.ClassFile.FieldType.boolean)).before args0 about1 = true := code_word (m := ⟨2, 5⟩) (meth := k2m5) (c := k2c5) (by decide +kernel) rfl rfl rfl (by decide +kernel)
set_option maxRecDepth 65536 in
theorem w_c9 : (Jvm.Cond.code ({ cls := "com/example/mappa/mappa/core/FieldText", name := "text", desc := "()Ljava/lang/String;" } : Jvm.MethodName) prog_32_method_9_code (2 : Nat) (Option.some (Jvm.ClassFile.FieldType.object "java/lang/String"))).before args0 about1 = true := code_word (m := ⟨2, 8⟩) (meth := k2m8) (c := k2c8) (by decide +kernel) rfl rfl rfl (by decide +kernel)
set_option maxRecDepth 65536 in
theorem w_c10 : (Jvm.Cond.code ({ cls := "java/lang/String", name := "<init>", desc := "([CII)V" } : Jvm.MethodName) jdk_42_method_4_code (4 : Nat) (Option.none : Option Jvm.ClassFile.FieldType)).before args0 about1 = true := code_word (m := ⟨8, 1⟩) (meth := k8m1) (c := k8c1) (by decide +kernel) rfl rfl rfl (by decide +kernel)
set_option maxRecDepth 65536 in
theorem w_c11 : (Jvm.Cond.code ({ cls := "java/lang/String", name := "rangeCheck", desc := "([CII)Ljava/lang/Void;" } : Jvm.MethodName) jdk_42_method_5_code (3 : Nat) (Option.some (Jvm.ClassFile.FieldType.object "java/lang/Void"))).before args0 about1 = true := code_word (m := ⟨8, 2⟩) (meth := k8m2) (c := k8c2) (by decide +kernel) rfl rfl rfl (by decide +kernel)
set_option maxRecDepth 65536 in
theorem w_c12 : (Jvm.Cond.code ({ cls := "java/lang/String", name := "checkBoundsOffCount", desc := "(III)I" } : Jvm.MethodName) jdk_42_method_157_code (3 : Nat) (Option.some Jvm.ClassFile.FieldType.int)).before args0 about1 = true := code_word (m := ⟨8, 5⟩) (meth := k8m5) (c := k8c5) (by decide +kernel) rfl rfl rfl (by decide +kernel)
set_option maxRecDepth 65536 in
theorem w_c13 : (Jvm.Cond.code ({ cls := "jdk/internal/util/Preconditions", name := "checkFromIndexSize", desc := "(IIILjava/util/function/BiFunction;)I" } : Jvm.MethodName) jdk_41_method_13_code (4 : Nat) (Option.some Jvm.ClassFile.FieldType.int)).before args0 about1 = true := code_word (m := ⟨9, 1⟩) (meth := k9m1) (c := k9c1) (by decide +kernel) rfl rfl rfl (by decide +kernel)
set_option maxRecDepth 65536 in
theorem w_c14 : (Jvm.Cond.code ({ cls := "java/lang/String", name := "<init>", desc := "([CIILjava/lang/Void;)V" } : Jvm.MethodName) jdk_42_method_149_code (6 : Nat) (Option.none : Option Jvm.ClassFile.FieldType)).before args0 about1 = true := code_word (m := ⟨8, 4⟩) (meth := k8m4) (c := k8c4) (by decide +kernel) rfl rfl rfl (by decide +kernel)
set_option maxRecDepth 65536 in
theorem w_c15 : (Jvm.Cond.code ({ cls := "java/lang/String", name := "isEmpty", desc := "()Z" } : Jvm.MethodName) jdk_42_method_55_code (1 : Nat) (Option.some Jvm.ClassFile.FieldType.boolean)).before args0 about1 = true := code_word (m := ⟨8, 3⟩) (meth := k8m3) (c := k8c3) (by decide +kernel) rfl rfl rfl (by decide +kernel)
set_option maxRecDepth 65536 in
theorem w_c16 : (Jvm.Cond.code ({ cls := "com/example/mappa/mappa/core/FieldText", name := "append", desc := "([CII)V" } : Jvm.MethodName) prog_32_method_7_code (4 : Nat) (Option.none : Option Jvm.ClassFile.FieldType)).before args0 about1 = true := code_word (m := ⟨2, 6⟩) (meth := k2m6) (c := k2c6) (by decide +kernel) rfl rfl rfl (by decide +kernel)
set_option maxRecDepth 65536 in
theorem w_c17 : (Jvm.Cond.code ({ cls := "com/example/mappa/mappa/core/FieldText", name := "append", desc := "([CIII)I" } : Jvm.MethodName) prog_32_method_8_code (9 : Nat) (Option.some Jvm.ClassFile.FieldType.int)).before args0 about1 = true := code_word (m := ⟨2, 7⟩) (meth := k2m7) (c := k2c7) (by decide +kernel) rfl rfl rfl (by decide +kernel)
set_option maxRecDepth 65536 in
theorem w_c18 : (Jvm.Cond.code ({ cls := "com/example/mappa/mappa/core/FieldText", name := "isXmlSpace", desc := "(C)Z" } : Jvm.MethodName) prog_32_method_11_code (1 : Nat) (Option.some Jvm.ClassFile.FieldType.boolean)).before args0 about1 = true := code_word (m := ⟨2, 9⟩) (meth := k2m9) (c := k2c9) (by decide +kernel) rfl rfl rfl (by decide +kernel)
set_option maxRecDepth 65536 in
theorem w_c19 : (Jvm.Cond.code ({ cls := "java/lang/Math", name := "min", desc := "(II)I" } : Jvm.MethodName) jdk_29_method_69_code (2 : Nat) (Option.some Jvm.ClassFile.FieldType.int)).before args0 about1 = true := code_word (m := ⟨10, 1⟩) (meth := k10m1) (c := k10c1) (by decide +kernel) rfl rfl rfl (by decide +kernel)
def codes1 : List Jvm.Cond := [Jvm.Cond.code x code maxLocals ret, Jvm.Cond.code ({ cls := "com/example/mappa/mappa/core/FieldTextRestartPinLaw", name := "pick", desc := "(I)C" } : Jvm.MethodName) method_2_code (3 : Nat) (Option.some Jvm.ClassFile.FieldType.char), Jvm.Cond.code ({ cls := "com/example/mappa/mappa/core/FieldText", name := "<init>", desc := "(III)V" } : Jvm.MethodName) prog_32_method_1_code (4 : Nat) (Option.none : Option Jvm.ClassFile.FieldType), Jvm.Cond.code ({ cls := "java/lang/Object", name := "<init>", desc := "()V" } : Jvm.MethodName) object_method_1_code (1 : Nat) (Option.none : Option Jvm.ClassFile.FieldType), Jvm.Cond.code ({ cls := "com/example/mappa/mappa/core/FieldText", name := "restart", desc := "(III)Lcom/example/mappa/mappa/core/FieldText;" } : Jvm.MethodName) prog_32_method_2_code (4 : Nat) (Option.some (Jvm.ClassFile.FieldType.object "com/example/mappa/mappa/core/FieldText")), Jvm.Cond.code ({ cls := "com/example/mappa/mappa/core/FieldText", name := "line", desc := "()I" } : Jvm.MethodName) prog_32_method_3_code (1 : Nat) (Option.some Jvm.ClassFile.FieldType.int), Jvm.Cond.code ({ cls := "com/example/mappa/mappa/core/FieldText", name := "column", desc := "()I" } : Jvm.MethodName) prog_32_method_4_code (1 : Nat) (Option.some Jvm.ClassFile.FieldType.int), Jvm.Cond.code ({ cls := "com/example/mappa/mappa/core/FieldText", name := "max", desc := "()I" } : Jvm.MethodName) prog_32_method_5_code (1 : Nat) (Option.some Jvm.ClassFile.FieldType.int), Jvm.Cond.code ({ cls := "com/example/mappa/mappa/core/FieldText", name := "cut", desc := "()Z" } : Jvm.MethodName) prog_32_method_6_code (1 : Nat) (Option.some Jvm.ClassFile.FieldType.boolean), Jvm.Cond.code ({ cls := "com/example/mappa/mappa/core/FieldText", name := "text", desc := "()Ljava/lang/String;" } : Jvm.MethodName) prog_32_method_9_code (2 : Nat) (Option.some (Jvm.ClassFile.FieldType.object "java/lang/String")), Jvm.Cond.code ({ cls := "java/lang/String", name := "<init>", desc := "([CII)V" } : Jvm.MethodName) jdk_42_method_4_code (4 : Nat) (Option.none : Option Jvm.ClassFile.FieldType), Jvm.Cond.code ({ cls := "java/lang/String", name := "rangeCheck", desc := "([CII)Ljava/lang/Void;" } : Jvm.MethodName) jdk_42_method_5_code (3 : Nat) (Option.some (Jvm.ClassFile.FieldType.object "java/lang/Void")), Jvm.Cond.code ({ cls := "java/lang/String", name := "checkBoundsOffCount", desc := "(III)I" } : Jvm.MethodName) jdk_42_method_157_code (3 : Nat) (Option.some Jvm.ClassFile.FieldType.int), Jvm.Cond.code ({ cls := "jdk/internal/util/Preconditions", name := "checkFromIndexSize", desc := "(IIILjava/util/function/BiFunction;)I" } : Jvm.MethodName) jdk_41_method_13_code (4 : Nat) (Option.some Jvm.ClassFile.FieldType.int), Jvm.Cond.code ({ cls := "java/lang/String", name := "<init>", desc := "([CIILjava/lang/Void;)V" } : Jvm.MethodName) jdk_42_method_149_code (6 : Nat) (Option.none : Option Jvm.ClassFile.FieldType), Jvm.Cond.code ({ cls := "java/lang/String", name := "isEmpty", desc := "()Z" } : Jvm.MethodName) jdk_42_method_55_code (1 : Nat) (Option.some Jvm.ClassFile.FieldType.boolean), Jvm.Cond.code ({ cls := "com/example/mappa/mappa/core/FieldText", name := "append", desc := "([CII)V" } : Jvm.MethodName) prog_32_method_7_code (4 : Nat) (Option.none : Option Jvm.ClassFile.FieldType), Jvm.Cond.code ({ cls := "com/example/mappa/mappa/core/FieldText", name := "append", desc := "([CIII)I" } : Jvm.MethodName) prog_32_method_8_code (9 : Nat) (Option.some Jvm.ClassFile.FieldType.int), Jvm.Cond.code ({ cls := "com/example/mappa/mappa/core/FieldText", name := "isXmlSpace", desc := "(C)Z" } : Jvm.MethodName) prog_32_method_11_code (1 : Nat) (Option.some Jvm.ClassFile.FieldType.boolean), Jvm.Cond.code ({ cls := "java/lang/Math", name := "min", desc := "(II)I" } : Jvm.MethodName) jdk_29_method_69_code (2 : Nat) (Option.some Jvm.ClassFile.FieldType.int)]
set_option maxRecDepth 65536 in
theorem codes_eq : words1.filter isCode = codes1 := rfl
theorem w_codes : ∀ c ∈ words1.filter isCode, c.before args0 about1 = true := by
  rw [codes_eq]
  intro c hc
  simp only [codes1, List.mem_cons, List.not_mem_nil, or_false] at hc
  rcases hc with rfl | rfl | rfl | rfl | rfl | rfl | rfl | rfl | rfl | rfl | rfl | rfl | rfl | rfl | rfl | rfl | rfl | rfl | rfl | rfl
  · exact w_c0
  · exact w_c1
  · exact w_c2
  · exact w_c3
  · exact w_c4
  · exact w_c5
  · exact w_c6
  · exact w_c7
  · exact w_c8
  · exact w_c9
  · exact w_c10
  · exact w_c11
  · exact w_c12
  · exact w_c13
  · exact w_c14
  · exact w_c15
  · exact w_c16
  · exact w_c17
  · exact w_c18
  · exact w_c19
set_option maxRecDepth 65536 in
theorem w_t1 : (words1.take 24).all (fun c => isCode c || c.before args0 about1) = true := by decide +kernel
set_option maxRecDepth 65536 in
theorem w_t2 : ((words1.drop 24).take 24).all (fun c => isCode c || c.before args0 about1) = true := by decide +kernel
set_option maxRecDepth 65536 in
theorem w_t3 : (((words1.drop 24).drop 24).take 24).all (fun c => isCode c || c.before args0 about1) = true := by decide +kernel
set_option maxRecDepth 65536 in
theorem w_t4 : ((((words1.drop 24).drop 24).drop 24).take 24).all (fun c => isCode c || c.before args0 about1) = true := by decide +kernel
set_option maxRecDepth 65536 in
theorem w_t5 : ((((words1.drop 24).drop 24).drop 24).drop 24).all (fun c => isCode c || c.before args0 about1) = true := by decide +kernel
theorem w_tables : (allAtoms (Jvm.Cond.code x code maxLocals ret :: tables_1)).before args0 about1 = true := by
  rw [allAtoms_all]
  show words1.all (fun c => c.before args0 about1) = true
  refine all_split ?_ w_codes
  rw [← List.take_append_drop 24 words1, List.all_append, w_t1, ← List.take_append_drop 24 (words1.drop 24), List.all_append, w_t2, ← List.take_append_drop 24 ((words1.drop 24).drop 24), List.all_append, w_t3, ← List.take_append_drop 24 (((words1.drop 24).drop 24).drop 24), List.all_append, w_t4, w_t5]
  rfl
set_option maxRecDepth 65536 in
theorem w_rest : rest_1_c.before args0 about1 = true := by decide +kernel
set_option maxRecDepth 65536 in
theorem w_case : (Jvm.Cond.and given_1 narrow_1).before args0 about1 = true := by decide +kernel
set_option maxRecDepth 65536 in
theorem w_consts : constsHeld consts_1 about1 := Jvm.Lit.constsHeldB_iff.mp (by decide +kernel)
theorem w_applies : (headSpec (Jvm.Cond.code x code maxLocals ret :: tables_1) room_1).applies x e0.platform about1 = true :=
  (Spec.applies_iff w_frames).mpr ⟨w_running, w_runnable, w_alone, w_named, w_hears, w_ripe, w_room, w_tables⟩
theorem atStart : AtStart classFile x code maxLocals ret World_1 tables_1 room_1 Calls_1 rest_1 Pre_1 launch0 p0 e0 about1 theMethod args0 below0 :=
  ⟨lists_1, trivial, launch0.admits_env _ _ _, launch0.least_env, fairChoices_fair.cas, fairChoices_fair.clock, w_frames, w_args, w_heap, w_applies, ⟨w_consts, trivial⟩, w_rest, w_case⟩
end start1
theorem witness_1 : WitnessClaimed_1 := ⟨start1.p0, start1.e0, start1.about1, start1.theMethod, start1.args0, start1.below0, start1.atStart⟩
end Jvm.Pilot.@@N@@
