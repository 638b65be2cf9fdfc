import JvmDerived
import JvmDerived.Pilot.@@N@@Statement
import JvmDerived.Pilot.@@N@@Code
set_option linter.unusedVariables false
set_option linter.unusedSimpArgs false
namespace Jvm.GoKit
open Sem ClassFile Op Lib Jvm.Stand Jvm.Free Jvm.LawKit Jvm.RoadKit
/-! my own layer: a body's run in continuation style, over the library's Stand laws -/
def Val (P : Value → Heap → Prop) (v : Option Value) (h : Heap) : Prop := ∃ w, v = some w ∧ P w h
def Vd (P : Heap → Prop) (v : Option Value) (h : Heap) : Prop := v = none ∧ P h
def PV (w : Value) (h0 : Heap) (w' : Value) (h : Heap) : Prop := w = w' ∧ h0 = h
def Ctx (Z : State) (own : String) (code : ByteArray) (maxL : Nat) (ret : Option FieldType) (nm : String) (p : Program) (s : State) (m : MethodId) (meth : Method) (c : Code) : Prop :=
  p.tables.exec = Jvm.exec ∧ Z.Warmed39 s.vm ∧ s.vm.findClass own = some m.cls ∧ c.code = code ∧ c.maxLocals = maxL ∧ meth.sig.returnType = ret ∧ meth.locks = false ∧ meth.name = nm
def Go (p : Program) (e : Env) (below : List Frame) (s : State) (n0 K N : Nat) (Q : Option Value → Heap → Prop) (S : State) : Prop :=
  ∃ s₂ v L, Steps p.tables e below S s₂ ∧ s₂.status = .running ∧ Ended s₂ below (.returned v) ∧ (Q v s₂.heap ∧ Fr n0 L) ∧ FrameEnd s (.returned v) s₂ L K N
def Run (l : Launch) (Z : State) (n0 : Nat) (own : String) (code : ByteArray) (maxL : Nat) (ret : Option FieldType) (nm : String) (R : Room) (Q : Option Value → Heap → Prop) (pc : Nat) (Ls : Array Slot) (st : List Value) (h : Heap) (k n : Nat) : Prop :=
  ∀ (p : Program) (e : Env) (s : State) (m : MethodId) (args : Array Value) (below : List Frame) (meth : Method) (c : Code) (T : State) (locs : List Loc) (cells slots : Nat),
    Ctx Z own code maxL ret nm p s m meth c → Stand p l e R s m args below meth c T locs cells slots → T.heap = h → Fr n0 locs → cells ≤ k → slots ≤ n →
    Go p e below s n0 R.cells R.slots Q (T.setTop (mkF m pc Ls st))
def Con (l : Launch) (Z : State) (n0 : Nat) (y : MethodName) (bytes : ByteArray) (maxL : Nat) (ret : Option FieldType) (rm : Room) (as : Array Value) (h : Heap) (Q : Option Value → Heap → Prop) : Prop :=
  ∀ ws, MetFree l y (head1 (Cond.code y bytes maxL ret :: ws) rm) (fun a U => a = as ∧ Z.Warmed39 U.vm ∧ U.heap = h) (fun _ _ _ _ _ => True) (fun _ U o U' => ∃ v L, o = .returned v ∧ (Q v U'.heap ∧ Fr n0 L) ∧ FrameEnd U o U' L rm.cells rm.slots)
theorem Con.of_run {l : Launch} {Z : State} {n0 : Nat} {y : MethodName} {bytes : ByteArray} {maxL : Nat} {ret : Option FieldType} {rm : Room} {as : Array Value} {h : Heap} {Q : Option Value → Heap → Prop} {Ls : Array Slot}
    (hp : plainFor y = true) (he : ∀ m, entryFrame m as maxL = mkF m 0 Ls []) (run : Run l Z n0 y.cls bytes maxL ret y.name rm Q 0 Ls [] h 0 0) : Con l Z n0 y bytes maxL ret rm as h Q := by
  intro ws
  refine MetFree.of_bodySF hp hisR ?_
  intro p e s m args below meth c s₁ Bd hml0 hP hK
  obtain ⟨rfl, hZ, hh⟩ := hP
  obtain ⟨s₂, v, L, h1, h2, h3, h4, h5⟩ := run p e s m _ below meth c s₁ [] 0 0 ⟨Bd.exec, hZ, findClass_of_methodNamed Bd.named, Bd.bytes, hml0, Bd.returns, Bd.notSynchronized, (name_of_methodNamed Bd.named Bd.method).1⟩ (Stand.of_body Bd) (by rw [← hh, Bd.state]; rfl) (Fr.nil _) (Nat.zero_le _) (Nat.zero_le _)
  exact ⟨s₂, _, castTop (he m) h1, h2, h3, v, L, rfl, h4, h5⟩
theorem Con.mono {l : Launch} {Z : State} {n0 : Nat} {y : MethodName} {bytes : ByteArray} {maxL : Nat} {ret : Option FieldType} {rm : Room} {as : Array Value} {h : Heap} {Q Q' : Option Value → Heap → Prop}
    (H : Con l Z n0 y bytes maxL ret rm as h Q) (q : ∀ v h', Q v h' → Q' v h') : Con l Z n0 y bytes maxL ret rm as h Q' := by
  intro ws p e ha hc hk s m args below hf happ hP hK
  obtain ⟨n, o, h1, h2, h3, v, L, h4, h5, h6⟩ := H ws p e ha hc hk s m args below hf happ hP hK
  exact ⟨n, o, h1, h2, h3, v, L, h4, ⟨q _ _ h5.1, h5.2⟩, h6⟩
section Walk
variable {l : Launch} {Z : State} {n0 : Nat} {own : String} {code : ByteArray} {maxL : Nat} {ret : Option FieldType} {nm : String} {R : Room} {Q : Option Value → Heap → Prop} {pc pc' : Nat} {Ls : Array Slot} {st : List Value} {h : Heap} {k n k' n' : Nat}
theorem Run.via {Ls' : Array Slot} {st' : List Value} (f : ∀ (p : Program) (e : Env) (s : State) (m : MethodId) (args : Array Value) (below : List Frame) (meth : Method) (c : Code) (T : State) (locs : List Loc) (cells slots : Nat),
      Ctx Z own code maxL ret nm p s m meth c → Stand p l e R s m args below meth c T locs cells slots → T.heap = h → ∃ T', Stand p l e R s m args below meth c T' locs cells slots ∧ T'.heap = h ∧ ∀ t, Steps p.tables e below (T'.setTop (mkF m pc' Ls' st')) t → Steps p.tables e below (T.setTop (mkF m pc Ls st)) t)
    (nxt : Run l Z n0 own code maxL ret nm R Q pc' Ls' st' h k n) : Run l Z n0 own code maxL ret nm R Q pc Ls st h k n := by
  intro p e s m args below meth c T locs cells slots hC X eT hF hk hn
  obtain ⟨T', X', e', stp⟩ := f p e s m args below meth c T locs cells slots hC X eT
  obtain ⟨s₂, v, L, g1, g2⟩ := nxt p e s m args below meth c T' locs cells slots hC X' e' hF hk hn
  exact ⟨s₂, v, L, stp _ g1, g2⟩
theorem Run.stp {Ls' : Array Slot} {st' : List Value} (f : ∀ (p : Program) (e : Env) (below : List Frame) (T : State) (m : MethodId) (c : Code) (t : State), At T m c below → p.tables.exec = Jvm.exec → c.code = code → Steps p.tables e below (T.setTop (mkF m pc' Ls' st')) t → Steps p.tables e below (T.setTop (mkF m pc Ls st)) t)
    (nxt : Run l Z n0 own code maxL ret nm R Q pc' Ls' st' h k n) : Run l Z n0 own code maxL ret nm R Q pc Ls st h k n :=
  Run.via (fun p e s m args below meth c T locs cells slots hC X eT => ⟨T, X, eT, fun t q => f p e below T m c t X.here hC.1 hC.2.2.2.1 q⟩) nxt
theorem Run.more {ka na : Nat} (nxt : Run l Z n0 own code maxL ret nm R Q pc Ls st h k n) (h1 : ka ≤ k) (h2 : na ≤ n) : Run l Z n0 own code maxL ret nm R Q pc Ls st h ka na :=
  fun p e s m args below meth c T locs cells slots hC X eT hF hk hn => nxt p e s m args below meth c T locs cells slots hC X eT hF (Nat.le_trans hk h1) (Nat.le_trans hn h2)

theorem Run.iloadN {x : Fin 4} {v : Int32} (hd : decode code pc = .ok (.iload_n x, 1)) (hl : Ls[x.val]? = some (.val (.int v))) (hp : pc + 1 = pc') (nxt : Run l Z n0 own code maxL ret nm R Q pc' Ls (.int v :: st) h k n) : Run l Z n0 own code maxL ret nm R Q pc Ls st h k n := by
  subst hp
  exact Run.stp (fun p e below T m c t hA hx hc q => XS.iloadN hA hx rfl (hb hc hd) hl q) nxt
theorem Run.iload {x : Nat} {v : Int32} (hd : decode code pc = .ok (.iload x, 2)) (hl : Ls[x]? = some (.val (.int v))) (hp : pc + 2 = pc') (nxt : Run l Z n0 own code maxL ret nm R Q pc' Ls (.int v :: st) h k n) : Run l Z n0 own code maxL ret nm R Q pc Ls st h k n := by
  subst hp
  exact Run.stp (fun p e below T m c t hA hx hc q => XS.iload hA hx rfl (hb hc hd) hl q) nxt
theorem Run.lloadN {x : Fin 4} {v : Int64} (hd : decode code pc = .ok (.lload_n x, 1)) (hl : Ls[x.val]? = some (.val (.long v))) (hp : pc + 1 = pc') (nxt : Run l Z n0 own code maxL ret nm R Q pc' Ls (.long v :: st) h k n) : Run l Z n0 own code maxL ret nm R Q pc Ls st h k n := by
  subst hp
  exact Run.stp (fun p e below T m c t hA hx hc q => XT.lloadN hA hx rfl (hb hc hd) hl q) nxt
theorem Run.lload {x : Nat} {v : Int64} (hd : decode code pc = .ok (.lload x, 2)) (hl : Ls[x]? = some (.val (.long v))) (hp : pc + 2 = pc') (nxt : Run l Z n0 own code maxL ret nm R Q pc' Ls (.long v :: st) h k n) : Run l Z n0 own code maxL ret nm R Q pc Ls st h k n := by
  subst hp
  exact Run.stp (fun p e below T m c t hA hx hc q => XT.lload hA hx rfl (hb hc hd) hl q) nxt
theorem Run.aloadN {x : Fin 4} {v : Value} (hd : decode code pc = .ok (.aload_n x, 1)) (hl : Ls[x.val]? = some (.val v)) (hv : v.isRef = true) (hp : pc + 1 = pc') (nxt : Run l Z n0 own code maxL ret nm R Q pc' Ls (v :: st) h k n) : Run l Z n0 own code maxL ret nm R Q pc Ls st h k n := by
  subst hp
  exact Run.stp (fun p e below T m c t hA hx hc q => XS.aloadN hA hx rfl (hb hc hd) hl hv q) nxt
theorem Run.aload {x : Nat} {v : Value} (hd : decode code pc = .ok (.aload x, 2)) (hl : Ls[x]? = some (.val v)) (hv : v.isRef = true) (hp : pc + 2 = pc') (nxt : Run l Z n0 own code maxL ret nm R Q pc' Ls (v :: st) h k n) : Run l Z n0 own code maxL ret nm R Q pc Ls st h k n := by
  subst hp
  exact Run.stp (fun p e below T m c t hA hx hc q => XS.aload hA hx rfl (hb hc hd) hl hv q) nxt
theorem Run.iconst {i : Int} (v : Int32) (hd : decode code pc = .ok (.iconst i, 1)) (hv : Int32.ofInt i = v) (hp : pc + 1 = pc') (nxt : Run l Z n0 own code maxL ret nm R Q pc' Ls (.int v :: st) h k n) : Run l Z n0 own code maxL ret nm R Q pc Ls st h k n := by
  subst hp
  exact Run.stp (fun p e below T m c t hA hx hc q => XT.iconstV hA hx rfl v (hb hc hd) hv q) nxt
theorem Run.bipush {i : Int} (v : Int32) (hd : decode code pc = .ok (.bipush i, 2)) (hv : (Int8.ofInt i).toInt32 = v) (hp : pc + 2 = pc') (nxt : Run l Z n0 own code maxL ret nm R Q pc' Ls (.int v :: st) h k n) : Run l Z n0 own code maxL ret nm R Q pc Ls st h k n := by
  subst hp
  exact Run.stp (fun p e below T m c t hA hx hc q => XT.bipushV hA hx rfl v (hb hc hd) hv q) nxt
theorem Run.sipush {i : Int} (v : Int32) (hd : decode code pc = .ok (.sipush i, 3)) (hv : (Int16.ofInt i).toInt32 = v) (hp : pc + 3 = pc') (nxt : Run l Z n0 own code maxL ret nm R Q pc' Ls (.int v :: st) h k n) : Run l Z n0 own code maxL ret nm R Q pc Ls st h k n := by
  subst hp
  exact Run.stp (fun p e below T m c t hA hx hc q => XT.sipushV hA hx rfl v (hb hc hd) hv q) nxt
theorem Run.lconst {i : Fin 2} (v : Int64) (hd : decode code pc = .ok (.lconst i, 1)) (hv : Int64.ofNat i = v) (hp : pc + 1 = pc') (nxt : Run l Z n0 own code maxL ret nm R Q pc' Ls (.long v :: st) h k n) : Run l Z n0 own code maxL ret nm R Q pc Ls st h k n := by
  subst hp
  exact Run.stp (fun p e below T m c t hA hx hc q => XT.lconstV hA hx rfl v (hb hc hd) hv q) nxt
theorem Run.aconst  (hd : decode code pc = .ok (.aconst_null, 1))  (hp : pc + 1 = pc') (nxt : Run l Z n0 own code maxL ret nm R Q pc' Ls (.null :: st) h k n) : Run l Z n0 own code maxL ret nm R Q pc Ls st h k n := by
  subst hp
  exact Run.stp (fun p e below T m c t hA hx hc q => XS.aconstNull hA hx rfl (hb hc hd) q) nxt
theorem Run.istoreN {x : Fin 4} {v : Int32} (l' : Array Slot) (hd : decode code pc = .ok (.istore_n x, 1)) (hl : storeLocals Ls x.val (.int v) = some l') (hp : pc + 1 = pc') (nxt : Run l Z n0 own code maxL ret nm R Q pc' l' st h k n) : Run l Z n0 own code maxL ret nm R Q pc Ls (.int v :: st) h k n := by
  subst hp
  exact Run.stp (fun p e below T m c t hA hx hc q => XS.istoreN hA hx rfl (hb hc hd) rfl hl q) nxt
theorem Run.istore {x : Nat} {v : Int32} (l' : Array Slot) (hd : decode code pc = .ok (.istore x, 2)) (hl : storeLocals Ls x (.int v) = some l') (hp : pc + 2 = pc') (nxt : Run l Z n0 own code maxL ret nm R Q pc' l' st h k n) : Run l Z n0 own code maxL ret nm R Q pc Ls (.int v :: st) h k n := by
  subst hp
  exact Run.stp (fun p e below T m c t hA hx hc q => XS.istore hA hx rfl (hb hc hd) rfl hl q) nxt
theorem Run.lstoreN {x : Fin 4} {v : Int64} (l' : Array Slot) (hd : decode code pc = .ok (.lstore_n x, 1)) (hl : storeLocals Ls x.val (.long v) = some l') (hp : pc + 1 = pc') (nxt : Run l Z n0 own code maxL ret nm R Q pc' l' st h k n) : Run l Z n0 own code maxL ret nm R Q pc Ls (.long v :: st) h k n := by
  subst hp
  exact Run.stp (fun p e below T m c t hA hx hc q => XT.lstoreN hA hx rfl (hb hc hd) rfl hl q) nxt
theorem Run.lstore {x : Nat} {v : Int64} (l' : Array Slot) (hd : decode code pc = .ok (.lstore x, 2)) (hl : storeLocals Ls x (.long v) = some l') (hp : pc + 2 = pc') (nxt : Run l Z n0 own code maxL ret nm R Q pc' l' st h k n) : Run l Z n0 own code maxL ret nm R Q pc Ls (.long v :: st) h k n := by
  subst hp
  exact Run.stp (fun p e below T m c t hA hx hc q => XT.lstore hA hx rfl (hb hc hd) rfl hl q) nxt
theorem Run.astoreN {x : Fin 4} {v : Value} (l' : Array Slot) (hd : decode code pc = .ok (.astore_n x, 1)) (hv : v.isRef = true) (hl : storeLocals Ls x.val v = some l') (hp : pc + 1 = pc') (nxt : Run l Z n0 own code maxL ret nm R Q pc' l' st h k n) : Run l Z n0 own code maxL ret nm R Q pc Ls (v :: st) h k n := by
  subst hp
  exact Run.stp (fun p e below T m c t hA hx hc q => XS.astoreN hA hx rfl (hb hc hd) rfl hv hl q) nxt
theorem Run.astore {x : Nat} {v : Value} (l' : Array Slot) (hd : decode code pc = .ok (.astore x, 2)) (hv : v.isRef = true) (hl : storeLocals Ls x v = some l') (hp : pc + 2 = pc') (nxt : Run l Z n0 own code maxL ret nm R Q pc' l' st h k n) : Run l Z n0 own code maxL ret nm R Q pc Ls (v :: st) h k n := by
  subst hp
  exact Run.stp (fun p e below T m c t hA hx hc q => XS.astore hA hx rfl (hb hc hd) rfl hv hl q) nxt
theorem Run.iinc {x : Nat} {i : Int} {u : Int32} (v : Int32) (l' : Array Slot) (hd : decode code pc = .ok (.iinc x i, 3)) (hv : Int32.ofInt i = v) (hg : Ls[x]? = some (.val (.int u))) (hl : storeLocals Ls x (.int (u + v)) = some l') (hp : pc + 3 = pc') (nxt : Run l Z n0 own code maxL ret nm R Q pc' l' st h k n) : Run l Z n0 own code maxL ret nm R Q pc Ls st h k n := by
  subst hp
  exact Run.stp (fun p e below T m c t hA hx hc q => XT.iincV hA hx rfl v (hb hc hd) hv hg hl q) nxt
theorem Run.iadd {x y : Int32} (hd : decode code pc = .ok (.iadd, 1))  (hp : pc + 1 = pc') (nxt : Run l Z n0 own code maxL ret nm R Q pc' Ls (.int (x + y) :: st) h k n) : Run l Z n0 own code maxL ret nm R Q pc Ls (.int y :: .int x :: st) h k n := by
  subst hp
  exact Run.stp (fun p e below T m c t hA hx hc q => XS.iadd hA hx rfl (hb hc hd) rfl q) nxt
theorem Run.isub {x y : Int32} (hd : decode code pc = .ok (.isub, 1))  (hp : pc + 1 = pc') (nxt : Run l Z n0 own code maxL ret nm R Q pc' Ls (.int (x - y) :: st) h k n) : Run l Z n0 own code maxL ret nm R Q pc Ls (.int y :: .int x :: st) h k n := by
  subst hp
  exact Run.stp (fun p e below T m c t hA hx hc q => XS.isub hA hx rfl (hb hc hd) rfl q) nxt
theorem Run.imul {x y : Int32} (hd : decode code pc = .ok (.imul, 1))  (hp : pc + 1 = pc') (nxt : Run l Z n0 own code maxL ret nm R Q pc' Ls (.int (x * y) :: st) h k n) : Run l Z n0 own code maxL ret nm R Q pc Ls (.int y :: .int x :: st) h k n := by
  subst hp
  exact Run.stp (fun p e below T m c t hA hx hc q => XS.imul hA hx rfl (hb hc hd) rfl q) nxt
theorem Run.iand {x y : Int32} (hd : decode code pc = .ok (.iand, 1))  (hp : pc + 1 = pc') (nxt : Run l Z n0 own code maxL ret nm R Q pc' Ls (.int (x &&& y) :: st) h k n) : Run l Z n0 own code maxL ret nm R Q pc Ls (.int y :: .int x :: st) h k n := by
  subst hp
  exact Run.stp (fun p e below T m c t hA hx hc q => XS.iand hA hx rfl (hb hc hd) rfl q) nxt
theorem Run.ior {x y : Int32} (hd : decode code pc = .ok (.ior, 1))  (hp : pc + 1 = pc') (nxt : Run l Z n0 own code maxL ret nm R Q pc' Ls (.int (x ||| y) :: st) h k n) : Run l Z n0 own code maxL ret nm R Q pc Ls (.int y :: .int x :: st) h k n := by
  subst hp
  exact Run.stp (fun p e below T m c t hA hx hc q => XT.ior hA hx rfl (hb hc hd) rfl q) nxt
theorem Run.ixor {x y : Int32} (hd : decode code pc = .ok (.ixor, 1))  (hp : pc + 1 = pc') (nxt : Run l Z n0 own code maxL ret nm R Q pc' Ls (.int (x ^^^ y) :: st) h k n) : Run l Z n0 own code maxL ret nm R Q pc Ls (.int y :: .int x :: st) h k n := by
  subst hp
  exact Run.stp (fun p e below T m c t hA hx hc q => XT.ixor hA hx rfl (hb hc hd) rfl q) nxt
theorem Run.ishl {x y : Int32} (hd : decode code pc = .ok (.ishl, 1))  (hp : pc + 1 = pc') (nxt : Run l Z n0 own code maxL ret nm R Q pc' Ls (.int (x <<< (y &&& 31)) :: st) h k n) : Run l Z n0 own code maxL ret nm R Q pc Ls (.int y :: .int x :: st) h k n := by
  subst hp
  exact Run.stp (fun p e below T m c t hA hx hc q => XT.ishl hA hx rfl (hb hc hd) rfl q) nxt
theorem Run.ishr {x y : Int32} (hd : decode code pc = .ok (.ishr, 1))  (hp : pc + 1 = pc') (nxt : Run l Z n0 own code maxL ret nm R Q pc' Ls (.int (x >>> (y &&& 31)) :: st) h k n) : Run l Z n0 own code maxL ret nm R Q pc Ls (.int y :: .int x :: st) h k n := by
  subst hp
  exact Run.stp (fun p e below T m c t hA hx hc q => XT.ishr hA hx rfl (hb hc hd) rfl q) nxt
theorem Run.iushr {x y : Int32} (hd : decode code pc = .ok (.iushr, 1))  (hp : pc + 1 = pc') (nxt : Run l Z n0 own code maxL ret nm R Q pc' Ls (.int (XT.ushr x y) :: st) h k n) : Run l Z n0 own code maxL ret nm R Q pc Ls (.int y :: .int x :: st) h k n := by
  subst hp
  exact Run.stp (fun p e below T m c t hA hx hc q => XT.iushr hA hx rfl (hb hc hd) rfl q) nxt
theorem Run.ladd {x y : Int64} (hd : decode code pc = .ok (.ladd, 1))  (hp : pc + 1 = pc') (nxt : Run l Z n0 own code maxL ret nm R Q pc' Ls (.long (x + y) :: st) h k n) : Run l Z n0 own code maxL ret nm R Q pc Ls (.long y :: .long x :: st) h k n := by
  subst hp
  exact Run.stp (fun p e below T m c t hA hx hc q => XT.ladd hA hx rfl (hb hc hd) rfl q) nxt
theorem Run.lsub {x y : Int64} (hd : decode code pc = .ok (.lsub, 1))  (hp : pc + 1 = pc') (nxt : Run l Z n0 own code maxL ret nm R Q pc' Ls (.long (x - y) :: st) h k n) : Run l Z n0 own code maxL ret nm R Q pc Ls (.long y :: .long x :: st) h k n := by
  subst hp
  exact Run.stp (fun p e below T m c t hA hx hc q => XT.lsub hA hx rfl (hb hc hd) rfl q) nxt
theorem Run.lmul {x y : Int64} (hd : decode code pc = .ok (.lmul, 1))  (hp : pc + 1 = pc') (nxt : Run l Z n0 own code maxL ret nm R Q pc' Ls (.long (x * y) :: st) h k n) : Run l Z n0 own code maxL ret nm R Q pc Ls (.long y :: .long x :: st) h k n := by
  subst hp
  exact Run.stp (fun p e below T m c t hA hx hc q => XT.lmul hA hx rfl (hb hc hd) rfl q) nxt
theorem Run.land {x y : Int64} (hd : decode code pc = .ok (.land, 1))  (hp : pc + 1 = pc') (nxt : Run l Z n0 own code maxL ret nm R Q pc' Ls (.long (x &&& y) :: st) h k n) : Run l Z n0 own code maxL ret nm R Q pc Ls (.long y :: .long x :: st) h k n := by
  subst hp
  exact Run.stp (fun p e below T m c t hA hx hc q => XT.land hA hx rfl (hb hc hd) rfl q) nxt
theorem Run.lor {x y : Int64} (hd : decode code pc = .ok (.lor, 1))  (hp : pc + 1 = pc') (nxt : Run l Z n0 own code maxL ret nm R Q pc' Ls (.long (x ||| y) :: st) h k n) : Run l Z n0 own code maxL ret nm R Q pc Ls (.long y :: .long x :: st) h k n := by
  subst hp
  exact Run.stp (fun p e below T m c t hA hx hc q => XT.lor hA hx rfl (hb hc hd) rfl q) nxt
theorem Run.lxor {x y : Int64} (hd : decode code pc = .ok (.lxor, 1))  (hp : pc + 1 = pc') (nxt : Run l Z n0 own code maxL ret nm R Q pc' Ls (.long (x ^^^ y) :: st) h k n) : Run l Z n0 own code maxL ret nm R Q pc Ls (.long y :: .long x :: st) h k n := by
  subst hp
  exact Run.stp (fun p e below T m c t hA hx hc q => XT.lxor hA hx rfl (hb hc hd) rfl q) nxt
theorem Run.idiv {x y : Int32} (hd : decode code pc = .ok (.idiv, 1)) (hy : y ≠ 0) (hp : pc + 1 = pc') (nxt : Run l Z n0 own code maxL ret nm R Q pc' Ls (.int (x / y) :: st) h k n) : Run l Z n0 own code maxL ret nm R Q pc Ls (.int y :: .int x :: st) h k n := by
  subst hp
  exact Run.stp (fun p e below T m c t hA hx hc q => XS.idiv hA hx rfl (hb hc hd) rfl hy q) nxt
theorem Run.irem {x y : Int32} (hd : decode code pc = .ok (.irem, 1)) (hy : y ≠ 0) (hp : pc + 1 = pc') (nxt : Run l Z n0 own code maxL ret nm R Q pc' Ls (.int (x % y) :: st) h k n) : Run l Z n0 own code maxL ret nm R Q pc Ls (.int y :: .int x :: st) h k n := by
  subst hp
  exact Run.stp (fun p e below T m c t hA hx hc q => XS.irem hA hx rfl (hb hc hd) rfl hy (by rw [irem_eq_mod]; exact q)) nxt
theorem Run.ldiv {x y : Int64} (hd : decode code pc = .ok (.ldiv, 1)) (hy : y ≠ 0) (hp : pc + 1 = pc') (nxt : Run l Z n0 own code maxL ret nm R Q pc' Ls (.long (x / y) :: st) h k n) : Run l Z n0 own code maxL ret nm R Q pc Ls (.long y :: .long x :: st) h k n := by
  subst hp
  exact Run.stp (fun p e below T m c t hA hx hc q => XT.ldiv hA hx rfl (hb hc hd) rfl hy q) nxt
theorem Run.lrem {x y : Int64} (hd : decode code pc = .ok (.lrem, 1)) (hy : y ≠ 0) (hp : pc + 1 = pc') (nxt : Run l Z n0 own code maxL ret nm R Q pc' Ls (.long (x % y) :: st) h k n) : Run l Z n0 own code maxL ret nm R Q pc Ls (.long y :: .long x :: st) h k n := by
  subst hp
  exact Run.stp (fun p e below T m c t hA hx hc q => XT.lrem hA hx rfl (hb hc hd) rfl hy (by rw [lrem_mod]; exact q)) nxt
theorem Run.ineg {x : Int32} (hd : decode code pc = .ok (.ineg, 1))  (hp : pc + 1 = pc') (nxt : Run l Z n0 own code maxL ret nm R Q pc' Ls (.int (-x) :: st) h k n) : Run l Z n0 own code maxL ret nm R Q pc Ls (.int x :: st) h k n := by
  subst hp
  exact Run.stp (fun p e below T m c t hA hx hc q => XS.ineg hA hx rfl (hb hc hd) rfl q) nxt
theorem Run.lneg {x : Int64} (hd : decode code pc = .ok (.lneg, 1))  (hp : pc + 1 = pc') (nxt : Run l Z n0 own code maxL ret nm R Q pc' Ls (.long (-x) :: st) h k n) : Run l Z n0 own code maxL ret nm R Q pc Ls (.long x :: st) h k n := by
  subst hp
  exact Run.stp (fun p e below T m c t hA hx hc q => XT.lneg hA hx rfl (hb hc hd) rfl q) nxt
theorem Run.i2l {x : Int32} (hd : decode code pc = .ok (.i2l, 1))  (hp : pc + 1 = pc') (nxt : Run l Z n0 own code maxL ret nm R Q pc' Ls (.long x.toInt64 :: st) h k n) : Run l Z n0 own code maxL ret nm R Q pc Ls (.int x :: st) h k n := by
  subst hp
  exact Run.stp (fun p e below T m c t hA hx hc q => XT.i2l hA hx rfl (hb hc hd) rfl q) nxt
theorem Run.l2i {x : Int64} (hd : decode code pc = .ok (.l2i, 1))  (hp : pc + 1 = pc') (nxt : Run l Z n0 own code maxL ret nm R Q pc' Ls (.int x.toInt32 :: st) h k n) : Run l Z n0 own code maxL ret nm R Q pc Ls (.long x :: st) h k n := by
  subst hp
  exact Run.stp (fun p e below T m c t hA hx hc q => XT.l2i hA hx rfl (hb hc hd) rfl q) nxt
theorem Run.i2b {x : Int32} (hd : decode code pc = .ok (.i2b, 1))  (hp : pc + 1 = pc') (nxt : Run l Z n0 own code maxL ret nm R Q pc' Ls (.int (nar .byte x) :: st) h k n) : Run l Z n0 own code maxL ret nm R Q pc Ls (.int x :: st) h k n := by
  subst hp
  exact Run.stp (fun p e below T m c t hA hx hc q => XT.i2b hA hx rfl (hb hc hd) rfl q) nxt
theorem Run.i2c {x : Int32} (hd : decode code pc = .ok (.i2c, 1))  (hp : pc + 1 = pc') (nxt : Run l Z n0 own code maxL ret nm R Q pc' Ls (.int (nar .char x) :: st) h k n) : Run l Z n0 own code maxL ret nm R Q pc Ls (.int x :: st) h k n := by
  subst hp
  exact Run.stp (fun p e below T m c t hA hx hc q => XT.i2c hA hx rfl (hb hc hd) rfl q) nxt
theorem Run.i2s {x : Int32} (hd : decode code pc = .ok (.i2s, 1))  (hp : pc + 1 = pc') (nxt : Run l Z n0 own code maxL ret nm R Q pc' Ls (.int (nar .short x) :: st) h k n) : Run l Z n0 own code maxL ret nm R Q pc Ls (.int x :: st) h k n := by
  subst hp
  exact Run.stp (fun p e below T m c t hA hx hc q => XT.i2s hA hx rfl (hb hc hd) rfl q) nxt
theorem Run.lshl {x : Int64} {y : Int32} (hd : decode code pc = .ok (.lshl, 1))  (hp : pc + 1 = pc') (nxt : Run l Z n0 own code maxL ret nm R Q pc' Ls (.long (x <<< (y.toInt64 &&& 63)) :: st) h k n) : Run l Z n0 own code maxL ret nm R Q pc Ls (.int y :: .long x :: st) h k n := by
  subst hp
  exact Run.stp (fun p e below T m c t hA hx hc q => XT.lshl hA hx rfl (hb hc hd) rfl q) nxt
theorem Run.lshr {x : Int64} {y : Int32} (hd : decode code pc = .ok (.lshr, 1))  (hp : pc + 1 = pc') (nxt : Run l Z n0 own code maxL ret nm R Q pc' Ls (.long (x >>> (y.toInt64 &&& 63)) :: st) h k n) : Run l Z n0 own code maxL ret nm R Q pc Ls (.int y :: .long x :: st) h k n := by
  subst hp
  exact Run.stp (fun p e below T m c t hA hx hc q => XT.lshr hA hx rfl (hb hc hd) rfl q) nxt
theorem Run.lushr {x : Int64} {y : Int32} (hd : decode code pc = .ok (.lushr, 1))  (hp : pc + 1 = pc') (nxt : Run l Z n0 own code maxL ret nm R Q pc' Ls (.long (XT.ushrL x y) :: st) h k n) : Run l Z n0 own code maxL ret nm R Q pc Ls (.int y :: .long x :: st) h k n := by
  subst hp
  exact Run.stp (fun p e below T m c t hA hx hc q => XT.lushr hA hx rfl (hb hc hd) rfl q) nxt
theorem Run.lcmp {x y : Int64} (hd : decode code pc = .ok (.lcmp, 1))  (hp : pc + 1 = pc') (nxt : Run l Z n0 own code maxL ret nm R Q pc' Ls (.int (XT.cmpL x y) :: st) h k n) : Run l Z n0 own code maxL ret nm R Q pc Ls (.long y :: .long x :: st) h k n := by
  subst hp
  exact Run.stp (fun p e below T m c t hA hx hc q => XT.lcmp hA hx rfl (hb hc hd) rfl q) nxt
theorem Run.dup {x : Value} (hd : decode code pc = .ok (.dup, 1)) (hv : x.category = 1) (hp : pc + 1 = pc') (nxt : Run l Z n0 own code maxL ret nm R Q pc' Ls (x :: x :: st) h k n) : Run l Z n0 own code maxL ret nm R Q pc Ls (x :: st) h k n := by
  subst hp
  exact Run.stp (fun p e below T m c t hA hx hc q => XS.dup hA hx rfl (hb hc hd) rfl hv q) nxt
theorem Run.pop {x : Value} (hd : decode code pc = .ok (.pop, 1)) (hv : x.category = 1) (hp : pc + 1 = pc') (nxt : Run l Z n0 own code maxL ret nm R Q pc' Ls st h k n) : Run l Z n0 own code maxL ret nm R Q pc Ls (x :: st) h k n := by
  subst hp
  exact Run.stp (fun p e below T m c t hA hx hc q => XT.pop hA hx rfl (hb hc hd) rfl hv q) nxt
theorem Run.dupX1 {x y : Value} (hd : decode code pc = .ok (.dup_x1, 1)) (hv : x.category = 1) (hv' : y.category = 1) (hp : pc + 1 = pc') (nxt : Run l Z n0 own code maxL ret nm R Q pc' Ls (x :: y :: x :: st) h k n) : Run l Z n0 own code maxL ret nm R Q pc Ls (x :: y :: st) h k n := by
  subst hp
  exact Run.stp (fun p e below T m c t hA hx hc q => XT.dupX1 hA hx rfl (hb hc hd) rfl hv hv' q) nxt
theorem Run.dup2 {x y : Value} (hd : decode code pc = .ok (.dup2, 1)) (hv : x.category = 1) (hv' : y.category = 1) (hp : pc + 1 = pc') (nxt : Run l Z n0 own code maxL ret nm R Q pc' Ls (x :: y :: x :: y :: st) h k n) : Run l Z n0 own code maxL ret nm R Q pc Ls (x :: y :: st) h k n := by
  subst hp
  exact Run.stp (fun p e below T m c t hA hx hc q => XT.dup2 hA hx rfl (hb hc hd) rfl hv hv' q) nxt
theorem Run.dup2L {x : Int64} (hd : decode code pc = .ok (.dup2, 1))  (hp : pc + 1 = pc') (nxt : Run l Z n0 own code maxL ret nm R Q pc' Ls (.long x :: .long x :: st) h k n) : Run l Z n0 own code maxL ret nm R Q pc Ls (.long x :: st) h k n := by
  subst hp
  exact Run.stp (fun p e below T m c t hA hx hc q => XT.dup2L hA hx rfl (hb hc hd) rfl q) nxt
theorem Run.goto {o : Int} (hd : decode code pc = .ok (.goto o, 3)) (ho : 0 ≤ (pc : Int) + o) (hp : ((pc : Int) + o).toNat = pc') (nxt : Run l Z n0 own code maxL ret nm R Q pc' Ls st h k n) : Run l Z n0 own code maxL ret nm R Q pc Ls st h k n :=
  Run.stp (fun p e below T m c t hA hx hc q => XS.goto hA hx rfl rfl (hb hc hd) ho hp q) nxt
theorem Run.if_eq {x : Int32} {o : Int} {pa : Nat} (hd : decode code pc = .ok (.ifCond .eq o, 3)) (ho : 0 ≤ (pc : Int) + o) (hp : ((pc : Int) + o).toNat = pc') (hq : pc + 3 = pa)
    (yes : x = 0 → Run l Z n0 own code maxL ret nm R Q pc' Ls st h k n) (no : ¬ x = 0 → Run l Z n0 own code maxL ret nm R Q pa Ls st h k n) : Run l Z n0 own code maxL ret nm R Q pc Ls (.int x :: st) h k n := by
  subst hq
  by_cases hc : x = 0
  · exact Run.stp (fun p e below T m c t hA hx hb' q => XS.ifYes hA hx rfl rfl (hb hb' hd) rfl (XT.i0_eq_t hc) ho hp q) (yes hc)
  · exact Run.stp (fun p e below T m c t hA hx hb' q => XS.ifNo hA hx rfl (hb hb' hd) rfl (XT.i0_eq_f hc) q) (no hc)
theorem Run.icmp_eq {x y : Int32} {o : Int} {pa : Nat} (hd : decode code pc = .ok (.if_icmp .eq o, 3)) (ho : 0 ≤ (pc : Int) + o) (hp : ((pc : Int) + o).toNat = pc') (hq : pc + 3 = pa)
    (yes : x = y → Run l Z n0 own code maxL ret nm R Q pc' Ls st h k n) (no : ¬ x = y → Run l Z n0 own code maxL ret nm R Q pa Ls st h k n) : Run l Z n0 own code maxL ret nm R Q pc Ls (.int y :: .int x :: st) h k n := by
  subst hq
  by_cases hc : x = y
  · exact Run.stp (fun p e below T m c t hA hx hb' q => XS.icmpYes hA hx rfl rfl (hb hb' hd) rfl (XT.ii_eq_t hc) ho hp q) (yes hc)
  · exact Run.stp (fun p e below T m c t hA hx hb' q => XS.icmpNo hA hx rfl (hb hb' hd) rfl (XT.ii_eq_f hc) q) (no hc)
theorem Run.if_ne {x : Int32} {o : Int} {pa : Nat} (hd : decode code pc = .ok (.ifCond .ne o, 3)) (ho : 0 ≤ (pc : Int) + o) (hp : ((pc : Int) + o).toNat = pc') (hq : pc + 3 = pa)
    (yes : ¬ x = 0 → Run l Z n0 own code maxL ret nm R Q pc' Ls st h k n) (no : x = 0 → Run l Z n0 own code maxL ret nm R Q pa Ls st h k n) : Run l Z n0 own code maxL ret nm R Q pc Ls (.int x :: st) h k n := by
  subst hq
  by_cases hc : x = 0
  · exact Run.stp (fun p e below T m c t hA hx hb' q => XS.ifNo hA hx rfl (hb hb' hd) rfl (XT.i0_ne_f hc) q) (no (by simpa using hc))
  · exact Run.stp (fun p e below T m c t hA hx hb' q => XS.ifYes hA hx rfl rfl (hb hb' hd) rfl (XT.i0_ne_t hc) ho hp q) (yes hc)
theorem Run.icmp_ne {x y : Int32} {o : Int} {pa : Nat} (hd : decode code pc = .ok (.if_icmp .ne o, 3)) (ho : 0 ≤ (pc : Int) + o) (hp : ((pc : Int) + o).toNat = pc') (hq : pc + 3 = pa)
    (yes : ¬ x = y → Run l Z n0 own code maxL ret nm R Q pc' Ls st h k n) (no : x = y → Run l Z n0 own code maxL ret nm R Q pa Ls st h k n) : Run l Z n0 own code maxL ret nm R Q pc Ls (.int y :: .int x :: st) h k n := by
  subst hq
  by_cases hc : x = y
  · exact Run.stp (fun p e below T m c t hA hx hb' q => XS.icmpNo hA hx rfl (hb hb' hd) rfl (XT.ii_ne_f hc) q) (no (by simpa using hc))
  · exact Run.stp (fun p e below T m c t hA hx hb' q => XS.icmpYes hA hx rfl rfl (hb hb' hd) rfl (XT.ii_ne_t hc) ho hp q) (yes hc)
theorem Run.if_lt {x : Int32} {o : Int} {pa : Nat} (hd : decode code pc = .ok (.ifCond .lt o, 3)) (ho : 0 ≤ (pc : Int) + o) (hp : ((pc : Int) + o).toNat = pc') (hq : pc + 3 = pa)
    (yes : x < 0 → Run l Z n0 own code maxL ret nm R Q pc' Ls st h k n) (no : ¬ x < 0 → Run l Z n0 own code maxL ret nm R Q pa Ls st h k n) : Run l Z n0 own code maxL ret nm R Q pc Ls (.int x :: st) h k n := by
  subst hq
  by_cases hc : x < 0
  · exact Run.stp (fun p e below T m c t hA hx hb' q => XS.ifYes hA hx rfl rfl (hb hb' hd) rfl (XT.i0_lt_t hc) ho hp q) (yes hc)
  · exact Run.stp (fun p e below T m c t hA hx hb' q => XS.ifNo hA hx rfl (hb hb' hd) rfl (XT.i0_lt_f hc) q) (no hc)
theorem Run.icmp_lt {x y : Int32} {o : Int} {pa : Nat} (hd : decode code pc = .ok (.if_icmp .lt o, 3)) (ho : 0 ≤ (pc : Int) + o) (hp : ((pc : Int) + o).toNat = pc') (hq : pc + 3 = pa)
    (yes : x < y → Run l Z n0 own code maxL ret nm R Q pc' Ls st h k n) (no : ¬ x < y → Run l Z n0 own code maxL ret nm R Q pa Ls st h k n) : Run l Z n0 own code maxL ret nm R Q pc Ls (.int y :: .int x :: st) h k n := by
  subst hq
  by_cases hc : x < y
  · exact Run.stp (fun p e below T m c t hA hx hb' q => XS.icmpYes hA hx rfl rfl (hb hb' hd) rfl (XT.ii_lt_t hc) ho hp q) (yes hc)
  · exact Run.stp (fun p e below T m c t hA hx hb' q => XS.icmpNo hA hx rfl (hb hb' hd) rfl (XT.ii_lt_f hc) q) (no hc)
theorem Run.if_ge {x : Int32} {o : Int} {pa : Nat} (hd : decode code pc = .ok (.ifCond .ge o, 3)) (ho : 0 ≤ (pc : Int) + o) (hp : ((pc : Int) + o).toNat = pc') (hq : pc + 3 = pa)
    (yes : ¬ x < 0 → Run l Z n0 own code maxL ret nm R Q pc' Ls st h k n) (no : x < 0 → Run l Z n0 own code maxL ret nm R Q pa Ls st h k n) : Run l Z n0 own code maxL ret nm R Q pc Ls (.int x :: st) h k n := by
  subst hq
  by_cases hc : x < 0
  · exact Run.stp (fun p e below T m c t hA hx hb' q => XS.ifNo hA hx rfl (hb hb' hd) rfl (XT.i0_ge_f hc) q) (no (by simpa using hc))
  · exact Run.stp (fun p e below T m c t hA hx hb' q => XS.ifYes hA hx rfl rfl (hb hb' hd) rfl (XT.i0_ge_t hc) ho hp q) (yes hc)
theorem Run.icmp_ge {x y : Int32} {o : Int} {pa : Nat} (hd : decode code pc = .ok (.if_icmp .ge o, 3)) (ho : 0 ≤ (pc : Int) + o) (hp : ((pc : Int) + o).toNat = pc') (hq : pc + 3 = pa)
    (yes : ¬ x < y → Run l Z n0 own code maxL ret nm R Q pc' Ls st h k n) (no : x < y → Run l Z n0 own code maxL ret nm R Q pa Ls st h k n) : Run l Z n0 own code maxL ret nm R Q pc Ls (.int y :: .int x :: st) h k n := by
  subst hq
  by_cases hc : x < y
  · exact Run.stp (fun p e below T m c t hA hx hb' q => XS.icmpNo hA hx rfl (hb hb' hd) rfl (XT.ii_ge_f hc) q) (no (by simpa using hc))
  · exact Run.stp (fun p e below T m c t hA hx hb' q => XS.icmpYes hA hx rfl rfl (hb hb' hd) rfl (XT.ii_ge_t hc) ho hp q) (yes hc)
theorem Run.if_gt {x : Int32} {o : Int} {pa : Nat} (hd : decode code pc = .ok (.ifCond .gt o, 3)) (ho : 0 ≤ (pc : Int) + o) (hp : ((pc : Int) + o).toNat = pc') (hq : pc + 3 = pa)
    (yes : 0 < x → Run l Z n0 own code maxL ret nm R Q pc' Ls st h k n) (no : ¬ 0 < x → Run l Z n0 own code maxL ret nm R Q pa Ls st h k n) : Run l Z n0 own code maxL ret nm R Q pc Ls (.int x :: st) h k n := by
  subst hq
  by_cases hc : 0 < x
  · exact Run.stp (fun p e below T m c t hA hx hb' q => XS.ifYes hA hx rfl rfl (hb hb' hd) rfl (XT.i0_gt_t hc) ho hp q) (yes hc)
  · exact Run.stp (fun p e below T m c t hA hx hb' q => XS.ifNo hA hx rfl (hb hb' hd) rfl (XT.i0_gt_f hc) q) (no hc)
theorem Run.icmp_gt {x y : Int32} {o : Int} {pa : Nat} (hd : decode code pc = .ok (.if_icmp .gt o, 3)) (ho : 0 ≤ (pc : Int) + o) (hp : ((pc : Int) + o).toNat = pc') (hq : pc + 3 = pa)
    (yes : y < x → Run l Z n0 own code maxL ret nm R Q pc' Ls st h k n) (no : ¬ y < x → Run l Z n0 own code maxL ret nm R Q pa Ls st h k n) : Run l Z n0 own code maxL ret nm R Q pc Ls (.int y :: .int x :: st) h k n := by
  subst hq
  by_cases hc : y < x
  · exact Run.stp (fun p e below T m c t hA hx hb' q => XS.icmpYes hA hx rfl rfl (hb hb' hd) rfl (XT.ii_gt_t hc) ho hp q) (yes hc)
  · exact Run.stp (fun p e below T m c t hA hx hb' q => XS.icmpNo hA hx rfl (hb hb' hd) rfl (XT.ii_gt_f hc) q) (no hc)
theorem Run.if_le {x : Int32} {o : Int} {pa : Nat} (hd : decode code pc = .ok (.ifCond .le o, 3)) (ho : 0 ≤ (pc : Int) + o) (hp : ((pc : Int) + o).toNat = pc') (hq : pc + 3 = pa)
    (yes : ¬ 0 < x → Run l Z n0 own code maxL ret nm R Q pc' Ls st h k n) (no : 0 < x → Run l Z n0 own code maxL ret nm R Q pa Ls st h k n) : Run l Z n0 own code maxL ret nm R Q pc Ls (.int x :: st) h k n := by
  subst hq
  by_cases hc : 0 < x
  · exact Run.stp (fun p e below T m c t hA hx hb' q => XS.ifNo hA hx rfl (hb hb' hd) rfl (XT.i0_le_f hc) q) (no (by simpa using hc))
  · exact Run.stp (fun p e below T m c t hA hx hb' q => XS.ifYes hA hx rfl rfl (hb hb' hd) rfl (XT.i0_le_t hc) ho hp q) (yes hc)
theorem Run.icmp_le {x y : Int32} {o : Int} {pa : Nat} (hd : decode code pc = .ok (.if_icmp .le o, 3)) (ho : 0 ≤ (pc : Int) + o) (hp : ((pc : Int) + o).toNat = pc') (hq : pc + 3 = pa)
    (yes : ¬ y < x → Run l Z n0 own code maxL ret nm R Q pc' Ls st h k n) (no : y < x → Run l Z n0 own code maxL ret nm R Q pa Ls st h k n) : Run l Z n0 own code maxL ret nm R Q pc Ls (.int y :: .int x :: st) h k n := by
  subst hq
  by_cases hc : y < x
  · exact Run.stp (fun p e below T m c t hA hx hb' q => XS.icmpNo hA hx rfl (hb hb' hd) rfl (XT.ii_le_f hc) q) (no (by simpa using hc))
  · exact Run.stp (fun p e below T m c t hA hx hb' q => XS.icmpYes hA hx rfl rfl (hb hb' hd) rfl (XT.ii_le_t hc) ho hp q) (yes hc)
theorem Run.lif_eq {x y : Int64} {o : Int} {pa : Nat} (hd : decode code pc = .ok (.ifCond .eq o, 3)) (ho : 0 ≤ (pc : Int) + o) (hp : ((pc : Int) + o).toNat = pc') (hq : pc + 3 = pa)
    (yes : x = y → Run l Z n0 own code maxL ret nm R Q pc' Ls st h k n) (no : ¬ x = y → Run l Z n0 own code maxL ret nm R Q pa Ls st h k n) : Run l Z n0 own code maxL ret nm R Q pc Ls (.int (XT.cmpL x y) :: st) h k n := by
  subst hq
  by_cases hc : x = y
  · exact Run.stp (fun p e below T m c t hA hx hb' q => XS.ifYes hA hx rfl rfl (hb hb' hd) rfl (XT.ll_eq_t hc) ho hp q) (yes hc)
  · exact Run.stp (fun p e below T m c t hA hx hb' q => XS.ifNo hA hx rfl (hb hb' hd) rfl (XT.ll_eq_f hc) q) (no hc)
theorem Run.lif_ne {x y : Int64} {o : Int} {pa : Nat} (hd : decode code pc = .ok (.ifCond .ne o, 3)) (ho : 0 ≤ (pc : Int) + o) (hp : ((pc : Int) + o).toNat = pc') (hq : pc + 3 = pa)
    (yes : ¬ x = y → Run l Z n0 own code maxL ret nm R Q pc' Ls st h k n) (no : x = y → Run l Z n0 own code maxL ret nm R Q pa Ls st h k n) : Run l Z n0 own code maxL ret nm R Q pc Ls (.int (XT.cmpL x y) :: st) h k n := by
  subst hq
  by_cases hc : x = y
  · exact Run.stp (fun p e below T m c t hA hx hb' q => XS.ifNo hA hx rfl (hb hb' hd) rfl (XT.ll_ne_f hc) q) (no (by simpa using hc))
  · exact Run.stp (fun p e below T m c t hA hx hb' q => XS.ifYes hA hx rfl rfl (hb hb' hd) rfl (XT.ll_ne_t hc) ho hp q) (yes hc)
theorem Run.lif_lt {x y : Int64} {o : Int} {pa : Nat} (hd : decode code pc = .ok (.ifCond .lt o, 3)) (ho : 0 ≤ (pc : Int) + o) (hp : ((pc : Int) + o).toNat = pc') (hq : pc + 3 = pa)
    (yes : x < y → Run l Z n0 own code maxL ret nm R Q pc' Ls st h k n) (no : ¬ x < y → Run l Z n0 own code maxL ret nm R Q pa Ls st h k n) : Run l Z n0 own code maxL ret nm R Q pc Ls (.int (XT.cmpL x y) :: st) h k n := by
  subst hq
  by_cases hc : x < y
  · exact Run.stp (fun p e below T m c t hA hx hb' q => XS.ifYes hA hx rfl rfl (hb hb' hd) rfl (XT.ll_lt_t hc) ho hp q) (yes hc)
  · exact Run.stp (fun p e below T m c t hA hx hb' q => XS.ifNo hA hx rfl (hb hb' hd) rfl (XT.ll_lt_f hc) q) (no hc)
theorem Run.lif_ge {x y : Int64} {o : Int} {pa : Nat} (hd : decode code pc = .ok (.ifCond .ge o, 3)) (ho : 0 ≤ (pc : Int) + o) (hp : ((pc : Int) + o).toNat = pc') (hq : pc + 3 = pa)
    (yes : ¬ x < y → Run l Z n0 own code maxL ret nm R Q pc' Ls st h k n) (no : x < y → Run l Z n0 own code maxL ret nm R Q pa Ls st h k n) : Run l Z n0 own code maxL ret nm R Q pc Ls (.int (XT.cmpL x y) :: st) h k n := by
  subst hq
  by_cases hc : x < y
  · exact Run.stp (fun p e below T m c t hA hx hb' q => XS.ifNo hA hx rfl (hb hb' hd) rfl (XT.ll_ge_f hc) q) (no (by simpa using hc))
  · exact Run.stp (fun p e below T m c t hA hx hb' q => XS.ifYes hA hx rfl rfl (hb hb' hd) rfl (XT.ll_ge_t hc) ho hp q) (yes hc)
theorem Run.lif_gt {x y : Int64} {o : Int} {pa : Nat} (hd : decode code pc = .ok (.ifCond .gt o, 3)) (ho : 0 ≤ (pc : Int) + o) (hp : ((pc : Int) + o).toNat = pc') (hq : pc + 3 = pa)
    (yes : y < x → Run l Z n0 own code maxL ret nm R Q pc' Ls st h k n) (no : ¬ y < x → Run l Z n0 own code maxL ret nm R Q pa Ls st h k n) : Run l Z n0 own code maxL ret nm R Q pc Ls (.int (XT.cmpL x y) :: st) h k n := by
  subst hq
  by_cases hc : y < x
  · exact Run.stp (fun p e below T m c t hA hx hb' q => XS.ifYes hA hx rfl rfl (hb hb' hd) rfl (XT.ll_gt_t hc) ho hp q) (yes hc)
  · exact Run.stp (fun p e below T m c t hA hx hb' q => XS.ifNo hA hx rfl (hb hb' hd) rfl (XT.ll_gt_f hc) q) (no hc)
theorem Run.lif_le {x y : Int64} {o : Int} {pa : Nat} (hd : decode code pc = .ok (.ifCond .le o, 3)) (ho : 0 ≤ (pc : Int) + o) (hp : ((pc : Int) + o).toNat = pc') (hq : pc + 3 = pa)
    (yes : ¬ y < x → Run l Z n0 own code maxL ret nm R Q pc' Ls st h k n) (no : y < x → Run l Z n0 own code maxL ret nm R Q pa Ls st h k n) : Run l Z n0 own code maxL ret nm R Q pc Ls (.int (XT.cmpL x y) :: st) h k n := by
  subst hq
  by_cases hc : y < x
  · exact Run.stp (fun p e below T m c t hA hx hb' q => XS.ifNo hA hx rfl (hb hb' hd) rfl (XT.ll_le_f hc) q) (no (by simpa using hc))
  · exact Run.stp (fun p e below T m c t hA hx hb' q => XS.ifYes hA hx rfl rfl (hb hb' hd) rfl (XT.ll_le_t hc) ho hp q) (yes hc)
theorem Run.acmp_eq {x y : Value} {o : Int} {pa : Nat} (hd : decode code pc = .ok (.if_acmp .eq o, 3)) (hv : x.isRef = true) (hv' : y.isRef = true) (ho : 0 ≤ (pc : Int) + o) (hp : ((pc : Int) + o).toNat = pc') (hq : pc + 3 = pa)
    (yes : x = y → Run l Z n0 own code maxL ret nm R Q pc' Ls st h k n) (no : ¬ x = y → Run l Z n0 own code maxL ret nm R Q pa Ls st h k n) : Run l Z n0 own code maxL ret nm R Q pc Ls (y :: x :: st) h k n := by
  subst hq
  by_cases hc : x = y
  · exact Run.stp (fun p e below T m c t hA hx hb' q => XT.acmpYes hA hx rfl rfl (hb hb' hd) rfl hv hv' (XT.aa_eq_t hc) ho hp q) (yes hc)
  · exact Run.stp (fun p e below T m c t hA hx hb' q => XT.acmpNo hA hx rfl (hb hb' hd) rfl hv hv' (XT.aa_eq_f hc) q) (no hc)
theorem Run.acmp_ne {x y : Value} {o : Int} {pa : Nat} (hd : decode code pc = .ok (.if_acmp .ne o, 3)) (hv : x.isRef = true) (hv' : y.isRef = true) (ho : 0 ≤ (pc : Int) + o) (hp : ((pc : Int) + o).toNat = pc') (hq : pc + 3 = pa)
    (yes : ¬ x = y → Run l Z n0 own code maxL ret nm R Q pc' Ls st h k n) (no : x = y → Run l Z n0 own code maxL ret nm R Q pa Ls st h k n) : Run l Z n0 own code maxL ret nm R Q pc Ls (y :: x :: st) h k n := by
  subst hq
  by_cases hc : x = y
  · exact Run.stp (fun p e below T m c t hA hx hb' q => XT.acmpNo hA hx rfl (hb hb' hd) rfl hv hv' (XT.aa_ne_f hc) q) (no (by simpa using hc))
  · exact Run.stp (fun p e below T m c t hA hx hb' q => XT.acmpYes hA hx rfl rfl (hb hb' hd) rfl hv hv' (XT.aa_ne_t hc) ho hp q) (yes hc)
theorem Run.ifnull {v : Value} {o : Int} {pa : Nat} (hd : decode code pc = .ok (.ifnull o, 3)) (hv : v.isRef = true) (ho : 0 ≤ (pc : Int) + o) (hp : ((pc : Int) + o).toNat = pc') (hq : pc + 3 = pa)
    (yes : v = .null → Run l Z n0 own code maxL ret nm R Q pc' Ls st h k n) (no : ¬ v = .null → Run l Z n0 own code maxL ret nm R Q pa Ls st h k n) : Run l Z n0 own code maxL ret nm R Q pc Ls (v :: st) h k n := by
  subst hq
  by_cases hc : v = .null
  · exact Run.stp (fun p e below T m c t hA hx hb' q => XT.nullYes hA hx rfl rfl (hb hb' hd) rfl hc ho hp q) (yes hc)
  · exact Run.stp (fun p e below T m c t hA hx hb' q => XT.nullNo hA hx rfl (hb hb' hd) rfl hv hc q) (no hc)
theorem Run.ifnonnull {v : Value} {o : Int} {pa : Nat} (hd : decode code pc = .ok (.ifnonnull o, 3)) (hv : v.isRef = true) (ho : 0 ≤ (pc : Int) + o) (hp : ((pc : Int) + o).toNat = pc') (hq : pc + 3 = pa)
    (yes : ¬ v = .null → Run l Z n0 own code maxL ret nm R Q pc' Ls st h k n) (no : v = .null → Run l Z n0 own code maxL ret nm R Q pa Ls st h k n) : Run l Z n0 own code maxL ret nm R Q pc Ls (v :: st) h k n := by
  subst hq
  by_cases hc : v = .null
  · exact Run.stp (fun p e below T m c t hA hx hb' q => XT.nonnullNo hA hx rfl (hb hb' hd) rfl hc q) (no hc)
  · exact Run.stp (fun p e below T m c t hA hx hb' q => XT.nonnullYes hA hx rfl rfl (hb hb' hd) rfl hv hc ho hp q) (yes hc)
/-! the pool's constants, fields, statics -/
theorem Run.ldcI {a0 : Array Value} {i : Nat} {v : Int32} (hd : decode code pc = .ok (.ldc i, 2)) (w : (Cond.constant own i v).before a0 Z = true) (hp : pc + 2 = pc') (nxt : Run l Z n0 own code maxL ret nm R Q pc' Ls (.int v :: st) h k n) : Run l Z n0 own code maxL ret nm R Q pc Ls st h k n := by
  subst hp
  exact Run.via (fun p e s m args below meth c T locs cells slots hC X eT => ⟨T, X, eT, fun t q => X.ldcI hC.1 hC.2.2.1 (mvT hC.2.1 w) rfl (hb hC.2.2.2.1 hd) q⟩) nxt
theorem Run.ldcWI {a0 : Array Value} {i : Nat} {v : Int32} (hd : decode code pc = .ok (.ldc_w i, 3)) (w : (Cond.constant own i v).before a0 Z = true) (hp : pc + 3 = pc') (nxt : Run l Z n0 own code maxL ret nm R Q pc' Ls (.int v :: st) h k n) : Run l Z n0 own code maxL ret nm R Q pc Ls st h k n := by
  subst hp
  exact Run.via (fun p e s m args below meth c T locs cells slots hC X eT => ⟨T, X, eT, fun t q => X.ldcWI hC.1 hC.2.2.1 (mvT hC.2.1 w) rfl (hb hC.2.2.2.1 hd) q⟩) nxt
theorem Run.ldc2J {a0 : Array Value} {i : Nat} {v : Int64} (hd : decode code pc = .ok (.ldc2_w i, 3)) (w : (Cond.constantLong own i v).before a0 Z = true) (hp : pc + 3 = pc') (nxt : Run l Z n0 own code maxL ret nm R Q pc' Ls (.long v :: st) h k n) : Run l Z n0 own code maxL ret nm R Q pc Ls st h k n := by
  subst hp
  exact Run.via (fun p e s m args below meth c T locs cells slots hC X eT => ⟨T, X, eT, fun t q => X.ldc2J hC.1 hC.2.2.1 (mvT hC.2.1 w) rfl (hb hC.2.2.2.1 hd) q⟩) nxt
theorem Run.getS {a0 : Array Value} {R0 O f d host : String} {i : Nat} {v : Value} (hd : decode code pc = .ok (.getstatic i, 3)) (w : (Cond.fieldLink own i R0 f d).before a0 Z = true ∨ (Cond.fieldLinkNest own i R0 f d host).before a0 Z = true) (via : Via Z R0 O f d) (F : Sta Z h O f d v) (hp : pc + 3 = pc') (nxt : Run l Z n0 own code maxL ret nm R Q pc' Ls (v :: st) h k n) : Run l Z n0 own code maxL ret nm R Q pc Ls st h k n := by
  subst hp
  exact Run.via (fun p e s m args below meth c T locs cells slots hC X eT => getS2 X hC.1 hC.2.1 hC.2.2.1 w via eT F (g := mkF m pc Ls st) rfl (hb hC.2.2.2.1 hd)) nxt
theorem Run.getF {a0 : Array Value} {R0 O f d host : String} {i : Nat} {a : Addr} {v : Value} (hd : decode code pc = .ok (.getfield i, 3)) (w : (Cond.fieldLink own i R0 f d).before a0 Z = true ∨ (Cond.fieldLinkNest own i R0 f d host).before a0 Z = true) (via : Via Z R0 O f d) (F : Fld Z h a O f d v) (hp : pc + 3 = pc') (nxt : Run l Z n0 own code maxL ret nm R Q pc' Ls (v :: st) h k n) : Run l Z n0 own code maxL ret nm R Q pc Ls (.ref a :: st) h k n := by
  subst hp
  exact Run.via (fun p e s m args below meth c T locs cells slots hC X eT => getF X hC.1 hC.2.1 hC.2.2.1 w via eT F (g := mkF m pc Ls (.ref a :: st)) rfl rfl (hb hC.2.2.2.1 hd)) nxt
/-! the returns -/
theorem Go.fin {p : Program} {e : Env} {s : State} {m : MethodId} {args : Array Value} {below : List Frame} {meth : Method} {c : Code} {T S : State} {locs : List Loc} {cells slots : Nat} {v : Option Value} (X : Stand p l e R s m args below meth c T locs cells slots) (hv : meth.sig.returnType = none → v = none) (hlk : meth.locks = false) (hF : Fr n0 locs) (hk : cells ≤ R.cells) (hn : slots ≤ R.slots) (hQ : Q v T.heap)
    (f : ∀ fs, (∀ (f : JFrame) (acts : List Action), f.method = m → f.locked = none → f.entered = [] → (doReturn e (T.setTop f) acts v).1 = T.setFrames fs) → Steps p.tables e below S (T.setFrames fs)) : Go p e below s n0 R.cells R.slots Q S := by
  obtain ⟨fs, hr, hrun, hended, hW, hsame⟩ := X.leave (v := v) hv hlk
  exact ⟨_, v, locs, f fs hr, hrun, hended, ⟨hQ, hF⟩, ⟨_, rfl⟩, hW, hsame.mono hk hn⟩
theorem Run.ireturn {z : Int32} (hd : decode code pc = .ok (.ireturn, 1)) (hret : ret = some .int) (hk : k ≤ R.cells) (hn : n ≤ R.slots) (hQ : Q (some (.int z)) h) : Run l Z n0 own code maxL ret nm R Q pc Ls (.int z :: st) h k n := by
  intro p e s m args below meth c T locs cells slots hC X eT hF hk' hn'
  subst eT
  have hr := hC.2.2.2.2.2.1
  exact Go.fin X (fun q => by rw [hr, hret] at q; cases q) hC.2.2.2.2.2.2.1 hF (Nat.le_trans hk' hk) (Nat.le_trans hn' hn) hQ (fun fs hl => retOut X hC.1 (hr.trans hret) rfl (Or.inl ⟨rfl, Or.inl rfl, z, rfl⟩) (hb hC.2.2.2.1 hd) hl)
theorem Run.nreturn {z : Int32} {ty : FieldType} (hd : decode code pc = .ok (.ireturn, 1)) (hret : ret = some ty) (ht : ty = .boolean ∨ ty = .byte ∨ ty = .char ∨ ty = .short) (hk : k ≤ R.cells) (hn : n ≤ R.slots) (hQ : Q (some (.int (nar ty z))) h) : Run l Z n0 own code maxL ret nm R Q pc Ls (.int z :: st) h k n := by
  intro p e s m args below meth c T locs cells slots hC X eT hF hk' hn'
  subst eT
  have hr := hC.2.2.2.2.2.1
  exact Go.fin X (fun q => by rw [hr, hret] at q; cases q) hC.2.2.2.2.2.2.1 hF (Nat.le_trans hk' hk) (Nat.le_trans hn' hn) hQ (fun fs hl => retN X hC.1 (hr.trans hret) ht (hb hC.2.2.2.1 hd) hl)
theorem Run.lreturn {z : Int64} (hd : decode code pc = .ok (.lreturn, 1)) (hret : ret = some .long) (hk : k ≤ R.cells) (hn : n ≤ R.slots) (hQ : Q (some (.long z)) h) : Run l Z n0 own code maxL ret nm R Q pc Ls (.long z :: st) h k n := by
  intro p e s m args below meth c T locs cells slots hC X eT hF hk' hn'
  subst eT
  have hr := hC.2.2.2.2.2.1
  exact Go.fin X (fun q => by rw [hr, hret] at q; cases q) hC.2.2.2.2.2.2.1 hF (Nat.le_trans hk' hk) (Nat.le_trans hn' hn) hQ (fun fs hl => retOut X hC.1 (hr.trans hret) rfl (Or.inr (Or.inl ⟨rfl, rfl, z, rfl⟩)) (hb hC.2.2.2.1 hd) hl)
theorem narrow_ref {t : FieldType} {w : Value} (ht : t.isReference = true) (hw : w.isRef = true) : narrow t w = w := by
  cases t <;> first | rfl | (cases ht; done) | (cases w <;> first | rfl | cases hw)
theorem Run.areturn {w : Value} {ty : FieldType} (hd : decode code pc = .ok (.areturn, 1)) (hret : ret = some ty) (ht : ty.isReference = true) (hw : w.isRef = true) (hk : k ≤ R.cells) (hn : n ≤ R.slots) (hQ : Q (some w) h) : Run l Z n0 own code maxL ret nm R Q pc Ls (w :: st) h k n := by
  intro p e s m args below meth c T locs cells slots hC X eT hF hk' hn'
  subst eT
  have hr := hC.2.2.2.2.2.1
  exact Go.fin X (fun q => by rw [hr, hret] at q; cases q) hC.2.2.2.2.2.2.1 hF (Nat.le_trans hk' hk) (Nat.le_trans hn' hn) hQ (fun fs hl => retOut X hC.1 (hr.trans hret) (narrow_ref ht hw) (Or.inr (Or.inr (Or.inr (Or.inr ⟨rfl, ht, hw⟩)))) (hb hC.2.2.2.1 hd) hl)
theorem Run.vreturn (hd : decode code pc = .ok (.return_, 1)) (hret : ret = none) (hk : k ≤ R.cells) (hn : n ≤ R.slots) (hQ : Q none h) : Run l Z n0 own code maxL ret nm R Q pc Ls [] h k n := by
  intro p e s m args below meth c T locs cells slots hC X eT hF hk' hn'
  subst eT
  have hr := hC.2.2.2.2.2.1
  exact Go.fin X (fun _ => rfl) hC.2.2.2.2.2.2.1 hF (Nat.le_trans hk' hk) (Nat.le_trans hn' hn) hQ (fun fs hl => X.returnOut hC.1 (hr.trans hret) (hb hC.2.2.2.1 hd) hl)
/-! calls by a contract -/
theorem Run.callS {a0 : Array Value} {y : MethodName} {bytes : ByteArray} {mL : Nat} {rt : Option FieldType} {rm : Room} {as rest : List Value} {Qy : Option Value → Heap → Prop} {i : Nat} {ps : List FieldType} {rr : Option FieldType}
    (hC : Con l Z n0 y bytes mL rt rm as.toArray h Qy) (hd : decode code pc = .ok (.invokestatic i, 3)) (w1 : (Cond.methodLink own i y).before a0 Z = true) (w2 : (Cond.static y).before a0 Z = true) (w3 : (Cond.initialized y.cls).before a0 Z = true) (w4 : (Cond.code y bytes mL rt).before a0 Z = true)
    (hy : y.cls ≠ "java/lang/invoke/MethodHandle" ∧ y.cls ≠ "java/lang/invoke/VarHandle") (hds : parseMethodDescriptor y.desc = some ⟨ps, rr⟩) (hl : as.length = ps.length) (hst : st = as.reverse ++ rest) (hsz : Ls.size = maxL)
    (hf : rm.frames + 1 ≤ R.frames) (hlo : (rest.map fun v => v.category).sum + (mL + 11) + rm.locals ≤ R.locals) (hk : k + rm.cells ≤ k') (hk' : k' ≤ R.cells) (hn : n + rm.slots ≤ n') (hn' : n' ≤ R.slots) (hp : pc + 3 = pc')
    (nxt : ∀ v h', Qy v h' → Run l Z n0 own code maxL ret nm R Q pc' Ls (v.toList ++ rest) h' k' n') : Run l Z n0 own code maxL ret nm R Q pc Ls st h k n := by
  subst hp hst
  intro p e s m args below meth c T locs cells slots hX X eT hF hc hs
  obtain ⟨hx, hZ, hown, hby, hml, -⟩ := id hX
  obtain ⟨v, vm₁, ⟨B, L', cc, ss⟩, -, X', ⟨Lc, hQ, l1, y1, z1⟩, stp⟩ := Jvm.LawKit.callS X hx (y := y) hown (mvT hZ w1) (mvT hZ w2) (mvT hZ w3) (mvT hZ w4) hy (backOf (W := (rest.map fun v => v.category).sum) (Q := fun v h L => Qy v h ∧ Fr n0 L) (hC []) hZ w4 w3 hf hlo) (g := mkF m pc Ls (as.reverse ++ rest)) rfl (hsz.trans hml.symm) (argsL := as) (rest := rest) (lenOf hds hl) rfl (by show 2 * 0 + _ ≤ _; omega) (hb hby hd) (fun _ _ => ⟨rfl, eT, (by show cells + rm.cells ≤ R.cells; omega), (by show slots + rm.slots ≤ R.slots; omega)⟩)
  dsimp only [Pt.U, Pt.locs, Pt.cells, Pt.slots] at X' l1 y1 z1 stp hQ
  subst l1 y1 z1
  obtain ⟨s₂, v', L, g1, g2⟩ := nxt v _ hQ.1 p e s m args below meth c B _ _ _ hX X' rfl (Fr.app hF hQ.2) (by omega) (by omega)
  exact ⟨s₂, v', L, stp _ g1, g2⟩
theorem Run.callV {a0 : Array Value} {C : String} {y z : MethodName} {bytes : ByteArray} {mL : Nat} {rt : Option FieldType} {rm : Room} {a : Addr} {as rest : List Value} {Qy : Option Value → Heap → Prop} {i : Nat} {ps : List FieldType} {rr : Option FieldType}
    (hC : Con l Z n0 z bytes mL rt rm (.ref a :: as).toArray h Qy) (hE : Exa Z h a C) (hd : decode code pc = .ok (.invokevirtual i, 3)) (w1 : (Cond.methodLink own i y).before a0 Z = true) (w2 : (Cond.declares y).before a0 Z = true) (nf : ∀ (s : State), Z.Warmed39 s.vm → NotFace s y) (w3 : (Cond.selects C y z).before a0 Z = true) (w4 : (Cond.instanceMethod z).before a0 Z = true) (w5 : (Cond.initialized z.cls).before a0 Z = true) (w6 : (Cond.code z bytes mL rt).before a0 Z = true)
    (hy : y.cls ≠ "java/lang/invoke/MethodHandle" ∧ y.cls ≠ "java/lang/invoke/VarHandle") (hds : parseMethodDescriptor y.desc = some ⟨ps, rr⟩) (hl : as.length = ps.length) (hst : st = as.reverse ++ .ref a :: rest) (hsz : Ls.size = maxL)
    (hf : rm.frames + 1 ≤ R.frames) (hlo : (rest.map fun v => v.category).sum + (mL + 11) + rm.locals ≤ R.locals) (hk : k + rm.cells ≤ k') (hk' : k' ≤ R.cells) (hn : n + rm.slots ≤ n') (hn' : n' ≤ R.slots) (hp : pc + 3 = pc')
    (nxt : ∀ v h', Qy v h' → Run l Z n0 own code maxL ret nm R Q pc' Ls (v.toList ++ rest) h' k' n') : Run l Z n0 own code maxL ret nm R Q pc Ls st h k n := by
  subst hp hst
  intro p e s m args below meth c T locs cells slots hX X eT hF hc hs
  obtain ⟨hx, hZ, hown, hby, hml, -⟩ := id hX
  obtain ⟨cq, kq, qa, qb, qc⟩ := isOf hZ eT hE
  obtain ⟨v, vm₁, ⟨B, L', cc, ss⟩, -, X', ⟨Lc, hQ, l1, y1, z1⟩, stp⟩ := X.virtualBack hx (y := y) (z := z) hown (mvT hZ w1) (mvT hZ w2) (nf s hZ) (mvT hZ w3) (mvT hZ w4) hy (backOf (W := (rest.map fun v => v.category).sum) (Q := fun v h L => Qy v h ∧ Fr n0 L) (hC []) hZ w6 w5 hf hlo) qa qc (g := mkF m pc Ls (as.reverse ++ .ref a :: rest)) rfl (hsz.trans hml.symm) (Steps.refl _) (argsL := as) (rest := rest) (lenOf hds hl) rfl (by show 2 * 0 + _ ≤ _; omega) (hb hby hd) (fun _ _ => ⟨rfl, eT, (by show cells + rm.cells ≤ R.cells; omega), (by show slots + rm.slots ≤ R.slots; omega)⟩)
  dsimp only [Pt.U, Pt.locs, Pt.cells, Pt.slots] at X' l1 y1 z1 stp hQ
  subst l1 y1 z1
  obtain ⟨s₂, v', L, g1, g2⟩ := nxt v _ hQ.1 p e s m args below meth c B _ _ _ hX X' rfl (Fr.app hF hQ.2) (by omega) (by omega)
  exact ⟨s₂, v', L, stp.trans g1, g2⟩
theorem Run.callN {a0 : Array Value} {y : MethodName} {bytes : ByteArray} {mL : Nat} {rm : Room} {a : Addr} {as rest : List Value} {P : Heap → Prop} {i : Nat} {ps : List FieldType} {rr : Option FieldType}
    (hC : Con l Z n0 y bytes mL none rm (.ref a :: as).toArray h (Vd P)) (hy1 : y.name = "<init>") (hd : decode code pc = .ok (.invokespecial i, 3)) (w1 : (Cond.methodLink own i y).before a0 Z = true) (w2 : (Cond.instanceMethod y).before a0 Z = true) (w3 : (Cond.initialized y.cls).before a0 Z = true) (w4 : (Cond.code y bytes mL none).before a0 Z = true)
    (hy : y.cls ≠ "java/lang/invoke/MethodHandle" ∧ y.cls ≠ "java/lang/invoke/VarHandle") (hds : parseMethodDescriptor y.desc = some ⟨ps, rr⟩) (hl : as.length = ps.length) (hst : st = as.reverse ++ .ref a :: rest) (hsz : Ls.size = maxL)
    (hf : rm.frames + 1 ≤ R.frames) (hlo : (rest.map fun v => v.category).sum + (mL + 11) + rm.locals ≤ R.locals) (hk : k + rm.cells ≤ k') (hk' : k' ≤ R.cells) (hn : n + rm.slots ≤ n') (hn' : n' ≤ R.slots) (hp : pc + 3 = pc')
    (nxt : ∀ h', P h' → Run l Z n0 own code maxL ret nm R Q pc' Ls rest h' k' n') : Run l Z n0 own code maxL ret nm R Q pc Ls st h k n := by
  subst hp hst
  intro p e s m args below meth c T locs cells slots hX X eT hF hc hs
  obtain ⟨hx, hZ, hown, hby, hml, -⟩ := id hX
  obtain ⟨v, vm₁, ⟨B, L', cc, ss⟩, -, X', ⟨Lc, hQ, l1, y1, z1⟩, stp⟩ := X.specialBack hx (y := y) hy1 hown (mvT hZ w1) (mvT hZ w2) (mvT hZ w4) hy (backOf (W := (rest.map fun v => v.category).sum) (Q := fun v h L => Vd P v h ∧ Fr n0 L) (hC []) hZ w4 w3 hf hlo) (g := mkF m pc Ls (as.reverse ++ .ref a :: rest)) rfl (hsz.trans hml.symm) (Steps.refl _) (a := a) (argsL := as) (rest := rest) (lenOf hds hl) rfl (by show 2 * 0 + _ ≤ _; omega) (hb hby hd) (fun _ _ => ⟨rfl, eT, (by show cells + rm.cells ≤ R.cells; omega), (by show slots + rm.slots ≤ R.slots; omega)⟩)
  dsimp only [Pt.U, Pt.locs, Pt.cells, Pt.slots] at X' l1 y1 z1 stp hQ
  subst l1 y1 z1
  obtain ⟨⟨rfl, hP⟩, hL⟩ := hQ
  obtain ⟨s₂, v', L, g1, g2⟩ := nxt _ hP p e s m args below meth c B _ _ _ hX X' rfl (Fr.app hF hL) (by omega) (by omega)
  exact ⟨s₂, v', L, stp.trans g1, g2⟩
/-! the heap: new objects, fields written, arrays -/
theorem Run.wr {a : Addr} {sl : Nat} {v : Value} {Ls' : Array Slot} {st' : List Value} (f : ∀ (p : Program) (e : Env) (s : State) (m : MethodId) (args : Array Value) (below : List Frame) (meth : Method) (c : Code) (T : State) (locs : List Loc) (cells slots : Nat),
      Ctx Z own code maxL ret nm p s m meth c → Stand p l e R s m args below meth c T locs cells slots → T.heap = h → ∃ T' h', Stand p l e R s m args below meth c T' (locs ++ [⟨a, sl⟩]) cells slots ∧ T'.heap = h' ∧ Wr h h' a sl v ∧ ∀ t, Steps p.tables e below (T'.setTop (mkF m pc' Ls' st')) t → Steps p.tables e below (T.setTop (mkF m pc Ls st)) t)
    (ha : n0 ≤ a) (nxt : ∀ h', Wr h h' a sl v → Run l Z n0 own code maxL ret nm R Q pc' Ls' st' h' k n) : Run l Z n0 own code maxL ret nm R Q pc Ls st h k n := by
  intro p e s m args below meth c T locs cells slots hC X eT hF hk hn
  obtain ⟨T', h', X', e', W, stp⟩ := f p e s m args below meth c T locs cells slots hC X eT
  obtain ⟨s₂, v', L, g1, g2⟩ := nxt h' W p e s m args below meth c T' _ cells slots hC X' e' (Fr.snoc X' hF ha) hk hn
  exact ⟨s₂, v', L, stp _ g1, g2⟩
theorem Run.newO {a0 : Array Value} {C : String} {i sl : Nat} (hd : decode code pc = .ok (.new i, 3)) (w : (Cond.classLink own i C).before a0 Z = true) (wi : (Cond.instantiable C sl).before a0 Z = true) (wz : (Cond.initialized C).before a0 Z = true)
    (hk : k + 1 ≤ k') (hk' : k' ≤ R.cells) (hn : n + sl ≤ n') (hn' : n' ≤ R.slots) (hp : pc + 3 = pc')
    (nxt : ∀ h' a, a = h.size → Ext h h' → Exa Z h' a C → (∀ {O f d : String} {ty : FieldType}, Laid Z a0 C O f d → parseFieldDescriptor d = some ty → Fld Z h' a O f d (defaultValue ty)) → Run l Z n0 own code maxL ret nm R Q pc' Ls (.ref a :: st) h' k' n') : Run l Z n0 own code maxL ret nm R Q pc Ls st h k n := by
  subst hp
  intro p e s m args below meth c T locs cells slots hC X eT hF hkk hnn
  obtain ⟨T', h', X', e', E, A, D, -, stp⟩ := newO X hC.1 hC.2.1 hC.2.2.1 w wi wz eT (g := mkF m pc Ls st) rfl (hb hC.2.2.2.1 hd) (by omega) (by omega)
  obtain ⟨s₂, v, L, g1, g2⟩ := nxt h' h.size rfl E A D p e s m args below meth c T' locs _ _ hC X' e' hF (by omega) (by omega)
  exact ⟨s₂, v, L, stp _ g1, g2⟩
theorem Run.initO {a0 : Array Value} {i : Nat} {a : Addr} (hd : decode code pc = .ok (.invokespecial i, 3)) (w1 : (Cond.methodLink own i Lib.objectInit).before a0 Z = true) (w2 : (Cond.instanceMethod Lib.objectInit).before a0 Z = true) (w3 : (Cond.code Lib.objectInit ⟨#[0xb1]⟩ 1 none).before a0 Z = true)
    (hsz : Ls.size = maxL) (hf : 1 ≤ R.frames) (hl : (st.map fun v => v.category).sum + 12 ≤ R.locals) (hp : pc + 3 = pc') (nxt : Run l Z n0 own code maxL ret nm R Q pc' Ls st h k n) : Run l Z n0 own code maxL ret nm R Q pc Ls (.ref a :: st) h k n := by
  subst hp
  exact Run.via (fun p e s m args below meth c T locs cells slots hC X eT => initO X hC.1 hC.2.1 hC.2.2.1 w1 w2 w3 eT (g := mkF m pc Ls (.ref a :: st)) rfl (hsz.trans hC.2.2.2.2.1.symm) rfl (hb hC.2.2.2.1 hd) hf (W := (st.map fun v => v.category).sum) (by show 2 * 0 + _ ≤ _; omega) hl) nxt
theorem Run.putF {a0 : Array Value} {R0 O f d host C : String} {i sl : Nat} {ty : FieldType} {a : Addr} {v old : Value} (hd : decode code pc = .ok (.putfield i, 3)) (w : (Cond.fieldLink own i R0 f d).before a0 Z = true ∨ (Cond.fieldLinkNest own i R0 f d host).before a0 Z = true) (via : Via Z R0 O f d) (F : Fld Z h a O f d old) (E : Exa Z h a C)
    (L : (Cond.lays C O f d).before a0 Z = true ∨ ((Cond.laysFinal C O f d).before a0 Z = true ∧ own = O ∧ nm = "<init>")) (wi : (Cond.instantiable C sl).before a0 Z = true) (hty : parseFieldDescriptor d = some ty) (hnv : narrow ty v = v) (hfv : fits ty v = true) (ha : n0 ≤ a) (hp : pc + 3 = pc')
    (nxt : ∀ h', Wr h h' a (Jvm.RoadKit.slotOf Z O f d) v → Run l Z n0 own code maxL ret nm R Q pc' Ls st h' k n) : Run l Z n0 own code maxL ret nm R Q pc Ls (v :: .ref a :: st) h k n := by
  subst hp
  exact Run.wr (fun p e s m args below meth c T locs cells slots hC X eT => putF X hC.1 hC.2.1 hC.2.2.1 w via eT F E (L.imp id fun q => ⟨q.1, q.2.1, hC.2.2.2.2.2.2.2.trans q.2.2⟩) wi hty hnv hfv (g := mkF m pc Ls (v :: .ref a :: st)) rfl rfl (hb hC.2.2.2.1 hd)) ha nxt
theorem Run.putFN {a0 : Array Value} {R0 O f d C : String} {i sl : Nat} {ty : FieldType} {a : Addr} {v v' old : Value} (hd : decode code pc = .ok (.putfield i, 3)) (w : (Cond.fieldLink own i R0 f d).before a0 Z = true) (via : Via Z R0 O f d) (F : Fld Z h a O f d old) (E : Exa Z h a C)
    (L : (Cond.lays C O f d).before a0 Z = true ∨ ((Cond.laysFinal C O f d).before a0 Z = true ∧ own = O ∧ nm = "<init>")) (wi : (Cond.instantiable C sl).before a0 Z = true) (hty : parseFieldDescriptor d = some ty) (hnv : narrow ty v = v') (hfv : fits ty v' = true) (ha : n0 ≤ a) (hp : pc + 3 = pc')
    (nxt : ∀ h', Wr h h' a (Jvm.RoadKit.slotOf Z O f d) v' → Run l Z n0 own code maxL ret nm R Q pc' Ls st h' k n) : Run l Z n0 own code maxL ret nm R Q pc Ls (v :: .ref a :: st) h k n := by
  subst hp
  exact Run.wr (fun p e s m args below meth c T locs cells slots hC X eT => putFN X hC.1 hC.2.1 hC.2.2.1 w via eT F E (L.imp id fun q => ⟨q.1, q.2.1, hC.2.2.2.2.2.2.2.trans q.2.2⟩) wi hty hnv hfv (g := mkF m pc Ls (v :: .ref a :: st)) rfl rfl (hb hC.2.2.2.1 hd)) ha nxt
theorem Run.castY {a0 : Array Value} {K : String} {i : Nat} {a : Addr} (hd : decode code pc = .ok (.checkcast i, 3)) (w : (Cond.classLink own i K).before a0 Z = true) (F : Ins Z h a K true) (hp : pc + 3 = pc') (nxt : Run l Z n0 own code maxL ret nm R Q pc' Ls (.ref a :: st) h k n) : Run l Z n0 own code maxL ret nm R Q pc Ls (.ref a :: st) h k n := by
  subst hp
  exact Run.via (fun p e s m args below meth c T locs cells slots hC X eT => castY X hC.1 hC.2.1 hC.2.2.1 w eT F (g := mkF m pc Ls (.ref a :: st)) rfl rfl (hb hC.2.2.2.1 hd)) nxt
theorem Run.castNull {i : Nat} (hd : decode code pc = .ok (.checkcast i, 3)) (hp : pc + 3 = pc') (nxt : Run l Z n0 own code maxL ret nm R Q pc' Ls (.null :: st) h k n) : Run l Z n0 own code maxL ret nm R Q pc Ls (.null :: st) h k n := by
  subst hp
  exact Run.via (fun p e s m args below meth c T locs cells slots hC X eT => ⟨T, X, eT, fun t q => X.checkcastNull hC.1 (g := mkF m pc Ls (.null :: st)) rfl rfl (hb hC.2.2.2.1 hd) t q⟩) nxt
theorem Run.instY {a0 : Array Value} {K : String} {i : Nat} {a : Addr} (hd : decode code pc = .ok (.instanceof i, 3)) (w : (Cond.classLink own i K).before a0 Z = true) (F : Ins Z h a K true) (hp : pc + 3 = pc') (nxt : Run l Z n0 own code maxL ret nm R Q pc' Ls (.int 1 :: st) h k n) : Run l Z n0 own code maxL ret nm R Q pc Ls (.ref a :: st) h k n := by
  subst hp
  exact Run.via (fun p e s m args below meth c T locs cells slots hC X eT => instY X hC.1 hC.2.1 hC.2.2.1 w eT F (g := mkF m pc Ls (.ref a :: st)) rfl rfl (hb hC.2.2.2.1 hd)) nxt
theorem Run.instNo {a0 : Array Value} {K C : String} {i : Nat} {a : Addr} (hd : decode code pc = .ok (.instanceof i, 3)) (w : (Cond.classLink own i K).before a0 Z = true) (E : Exa Z h a C) (F : ∃ c t, Z.vm.findClass C = some c ∧ Z.vm.findClass K = some t ∧ Z.vm.assignable c t = false) (hp : pc + 3 = pc') (nxt : Run l Z n0 own code maxL ret nm R Q pc' Ls (.int 0 :: st) h k n) : Run l Z n0 own code maxL ret nm R Q pc Ls (.ref a :: st) h k n := by
  subst hp
  exact Run.via (fun p e s m args below meth c T locs cells slots hC X eT => instNo X hC.1 hC.2.1 hC.2.2.1 w eT E F (g := mkF m pc Ls (.ref a :: st)) rfl rfl (hb hC.2.2.2.1 hd)) nxt
theorem Run.instNull {i : Nat} (hd : decode code pc = .ok (.instanceof i, 3)) (hp : pc + 3 = pc') (nxt : Run l Z n0 own code maxL ret nm R Q pc' Ls (.int 0 :: st) h k n) : Run l Z n0 own code maxL ret nm R Q pc Ls (.null :: st) h k n := by
  subst hp
  exact Run.via (fun p e s m args below meth c T locs cells slots hC X eT => ⟨T, X, eT, fun t q => X.instanceofNull hC.1 (g := mkF m pc Ls (.null :: st)) rfl rfl (hb hC.2.2.2.1 hd) t q⟩) nxt
/-- the array at a holds just the list vs -/
def Ary (Z : State) (h : Heap) (a : Addr) (ty : FieldType) (vs : List Value) : Prop := ∃ c : Cell, Arr Z h a c ty ∧ c.slots.toList = vs
section Ar
variable {h' : Heap} {a b : Addr} {ty : FieldType} {vs : List Value} {sl : Nat} {v : Value} {ws : List Addr}
theorem Ary.lt (F : Ary Z h a ty vs) : a < h.size := by obtain ⟨c, A, -⟩ := F; exact A.lt
theorem Ary.ext (F : Ary Z h a ty vs) (E : Ext h h') : Ary Z h' a ty vs := by obtain ⟨c, A, r⟩ := F; exact ⟨c, A.ext E, r⟩
theorem Ary.other (F : Ary Z h b ty vs) (W : Wr h h' a sl v) (q : b ≠ a) : Ary Z h' b ty vs := by obtain ⟨c, A, r⟩ := F; exact ⟨c, A.other W q, r⟩
theorem Ary.keep (F : Ary Z h a ty vs) (K : Keep h h' ws) (q : a ∉ ws) : Ary Z h' a ty vs := by obtain ⟨c, A, r⟩ := F; exact ⟨c, ⟨K.2.1 a c A.1 q, A.2⟩, r⟩
theorem Ary.set (F : Ary Z h a ty vs) (W : Wr h h' a sl v) : Ary Z h' a ty (vs.set sl v) := by
  obtain ⟨c, A, r⟩ := F
  exact ⟨_, A.same W, by rw [← r]; simp [Cell.setSlot]⟩
theorem Ext.refl (h : Heap) : Ext h h := ⟨Nat.le_refl _, fun _ _ q => q⟩
theorem Ext.trans {h0 : Heap} (E : Ext h0 h) (E' : Ext h h') : Ext h0 h' := ⟨Nat.le_trans E.1 E'.1, fun a c q => E'.2 a c (E.2 a c q)⟩
theorem Ext.wr {h0 : Heap} (E : Ext h0 h) (W : Wr h h' a sl v) (q : h0.size ≤ a) : Ext h0 h' := by
  refine ⟨Nat.le_trans E.1 (Nat.le_of_eq W.size.symm), fun b c hb => ?_⟩
  obtain ⟨c', e1, -, -, -, e5, -⟩ := wr_at W (E.2 b c hb)
  have : b ≠ a := fun z => by subst z; exact absurd (Array.getElem?_eq_some_iff.mp hb).1 (Nat.not_lt.mpr q)
  rw [← e5 this]; exact e1
theorem Ext.keep {h0 : Heap} (E : Ext h0 h) (K : Keep h h' ws) (q : ∀ x ∈ ws, h0.size ≤ x) : Ext h0 h' :=
  ⟨Nat.le_trans E.1 K.1, fun b c hb => K.2.1 b c (E.2 b c hb) fun z => absurd (Array.getElem?_eq_some_iff.mp hb).1 (Nat.not_lt.mpr (q b z))⟩
theorem Keep.toExt (K : Keep h h' []) : Ext h h' := ⟨K.1, fun b c hb => K.2.1 b c hb nin0⟩
theorem own_fitsR {t : FieldType} (ht : refKind t = true) (hv : v.isRef = true) : fits t v = true := by cases t <;> first | (cases ht; done) | (cases v <;> first | rfl | cases hv)
theorem Keep.ofExt (E : Ext h h') : Keep h h' [] := (Keep.refl h []).ext E
theorem idxIn {c : Cell} {j : Int32} {i : Nat} (hj : j.toInt = (i : Int)) (hi : i < c.slots.size) : ¬ (j < 0 ∨ c.slots.size ≤ j.toNatClampNeg) ∧ j.toNatClampNeg = i := by
  have e : j.toNatClampNeg = i := by have : j.toNatClampNeg = j.toInt.toNat := rfl; rw [this, hj]; rfl
  refine ⟨fun q => ?_, e⟩
  rcases q with q | q
  · rw [Int32.lt_iff_toInt_lt, hj] at q; have : (0 : Int32).toInt = 0 := rfl; omega
  · omega
theorem sizeOf {c : Cell} (r : c.slots.toList = vs) : c.slots.size = vs.length := by rw [← r]; simp
theorem getOf {c : Cell} {i : Nat} (r : c.slots.toList = vs) (hv : vs[i]? = some v) : c.slots[i]? = some v := by rw [← r] at hv; simpa using hv
end Ar
theorem ns_root {a0 : Array Value} {O K : String} {m : Nat} (w : (Cond.noSuperclass O).before a0 Z = true) (wk : (Cond.instantiable K m).before a0 Z = true) (hn : O ≠ K) : NS Z O K := by
  obtain ⟨c, k, h1, h2, h3, -, -⟩ := Cond.noSuperclass_spec w
  obtain ⟨t, k2, g1, -⟩ := Cond.instantiable_spec wk
  have ne := ids_ne h1 g1 hn
  refine ⟨c, t, h1, g1, fun fuel => ?_⟩
  cases fuel with
  | zero => rfl
  | succ f => simp [Vm.isSubclassAux, ne, h2, h3]
theorem ns_no {a0 : Array Value} {C S K : String} {m : Nat} (w : (Cond.superclass C S).before a0 Z = true) (wk : (Cond.instantiable K m).before a0 Z = true) (n : NS Z C K) (hn : C ≠ K) : ∃ c t, Z.vm.findClass C = some c ∧ Z.vm.findClass K = some t ∧ Z.vm.assignable c t = false := by
  obtain ⟨c, t, h0, g0, n3⟩ := n
  obtain ⟨p, k, kp, h1, h2, h3, h4, h5, -, h7⟩ := Cond.superclass_spec h0 w
  obtain ⟨t', k', g1, g2, g5, g7, -⟩ := Cond.instantiable_spec wk
  cases g0.symm.trans g1
  have ne := ids_ne h0 g0 hn
  have g8 : k'.isInterface = false := by cases hq : k'.isInterface <;> simp [hq] at g7 ⊢
  refine ⟨c, t, h0, g0, ?_⟩
  show Z.vm.assignableAux (255 + 1) c t = false
  simp [Vm.assignableAux, ne, h2, g2, h5, g5, g8, Vm.isSubclass, n3]
theorem Run.alen {a : Addr} {ty : FieldType} {vs : List Value} {z : Int32} (hd : decode code pc = .ok (.arraylength, 1)) (A : Ary Z h a ty vs) (hz : vs.length.toInt32 = z) (hp : pc + 1 = pc') (nxt : Run l Z n0 own code maxL ret nm R Q pc' Ls (.int z :: st) h k n) : Run l Z n0 own code maxL ret nm R Q pc Ls (.ref a :: st) h k n := by
  subst hp hz
  obtain ⟨c0, A, r⟩ := A
  exact Run.via (fun p e s m args below meth c T locs cells slots hC X eT => ⟨T, X, eT, fun t q => X.arraylength hC.1 (by rw [eT]; exact A.1) (State.isArrayOf_alike hC.2.1.alike A.2.1) (g := mkF m pc Ls (.ref a :: st)) rfl rfl (hb hC.2.2.2.1 hd) t (by rw [sizeOf r]; exact q)⟩) nxt
theorem Run.iaload {a : Addr} {vs : List Value} {j : Int32} {i : Nat} {v : Value} (hd : decode code pc = .ok (.iaload, 1)) (A : Ary Z h a .int vs) (hj : j.toInt = (i : Int)) (hv : vs[i]? = some v) (hp : pc + 1 = pc') (nxt : Run l Z n0 own code maxL ret nm R Q pc' Ls (v :: st) h k n) : Run l Z n0 own code maxL ret nm R Q pc Ls (.int j :: .ref a :: st) h k n := by
  subst hp
  obtain ⟨c0, A, r⟩ := A
  obtain ⟨hin, e0⟩ := idxIn (c := c0) hj (by rw [sizeOf r]; exact (List.getElem?_eq_some_iff.mp hv).1)
  exact Run.via (fun p e s m args below meth c T locs cells slots hC X eT => ⟨T, X, eT, fun t q => X.iaload hC.1 (by rw [eT]; exact A.1) (State.isArrayOf_alike hC.2.1.alike A.2.1) A.2.2 hin (by rw [e0]; exact getOf r hv) (g := mkF m pc Ls (.int j :: .ref a :: st)) rfl rfl (hb hC.2.2.2.1 hd) t q⟩) nxt
theorem Run.laload {a : Addr} {vs : List Value} {j : Int32} {i : Nat} {v : Value} (hd : decode code pc = .ok (.laload, 1)) (A : Ary Z h a .long vs) (hj : j.toInt = (i : Int)) (hv : vs[i]? = some v) (hp : pc + 1 = pc') (nxt : Run l Z n0 own code maxL ret nm R Q pc' Ls (v :: st) h k n) : Run l Z n0 own code maxL ret nm R Q pc Ls (.int j :: .ref a :: st) h k n := by
  subst hp
  obtain ⟨c0, A, r⟩ := A
  obtain ⟨hin, e0⟩ := idxIn (c := c0) hj (by rw [sizeOf r]; exact (List.getElem?_eq_some_iff.mp hv).1)
  exact Run.via (fun p e s m args below meth c T locs cells slots hC X eT => ⟨T, X, eT, fun t q => X.laload hC.1 (by rw [eT]; exact A.1) (State.isArrayOf_alike hC.2.1.alike A.2.1) A.2.2 hin (by rw [e0]; exact getOf r hv) (g := mkF m pc Ls (.int j :: .ref a :: st)) rfl rfl (hb hC.2.2.2.1 hd) t q⟩) nxt
theorem Run.caload {a : Addr} {vs : List Value} {j : Int32} {i : Nat} {v : Value} (hd : decode code pc = .ok (.caload, 1)) (A : Ary Z h a .char vs) (hj : j.toInt = (i : Int)) (hv : vs[i]? = some v) (hp : pc + 1 = pc') (nxt : Run l Z n0 own code maxL ret nm R Q pc' Ls (v :: st) h k n) : Run l Z n0 own code maxL ret nm R Q pc Ls (.int j :: .ref a :: st) h k n := by
  subst hp
  obtain ⟨c0, A, r⟩ := A
  obtain ⟨hin, e0⟩ := idxIn (c := c0) hj (by rw [sizeOf r]; exact (List.getElem?_eq_some_iff.mp hv).1)
  exact Run.via (fun p e s m args below meth c T locs cells slots hC X eT => ⟨T, X, eT, fun t q => X.caload hC.1 (by rw [eT]; exact A.1) (State.isArrayOf_alike hC.2.1.alike A.2.1) A.2.2 hin (by rw [e0]; exact getOf r hv) (g := mkF m pc Ls (.int j :: .ref a :: st)) rfl rfl (hb hC.2.2.2.1 hd) t q⟩) nxt
theorem Run.saload {a : Addr} {vs : List Value} {j : Int32} {i : Nat} {v : Value} (hd : decode code pc = .ok (.saload, 1)) (A : Ary Z h a .short vs) (hj : j.toInt = (i : Int)) (hv : vs[i]? = some v) (hp : pc + 1 = pc') (nxt : Run l Z n0 own code maxL ret nm R Q pc' Ls (v :: st) h k n) : Run l Z n0 own code maxL ret nm R Q pc Ls (.int j :: .ref a :: st) h k n := by
  subst hp
  obtain ⟨c0, A, r⟩ := A
  obtain ⟨hin, e0⟩ := idxIn (c := c0) hj (by rw [sizeOf r]; exact (List.getElem?_eq_some_iff.mp hv).1)
  exact Run.via (fun p e s m args below meth c T locs cells slots hC X eT => ⟨T, X, eT, fun t q => X.saload hC.1 (by rw [eT]; exact A.1) (State.isArrayOf_alike hC.2.1.alike A.2.1) A.2.2 hin (by rw [e0]; exact getOf r hv) (g := mkF m pc Ls (.int j :: .ref a :: st)) rfl rfl (hb hC.2.2.2.1 hd) t q⟩) nxt
theorem Run.baload {a : Addr} {vs : List Value} {j : Int32} {i : Nat} {v : Value} (hd : decode code pc = .ok (.baload, 1)) (A : Ary Z h a .byte vs) (hj : j.toInt = (i : Int)) (hv : vs[i]? = some v) (hp : pc + 1 = pc') (nxt : Run l Z n0 own code maxL ret nm R Q pc' Ls (v :: st) h k n) : Run l Z n0 own code maxL ret nm R Q pc Ls (.int j :: .ref a :: st) h k n := by
  subst hp
  obtain ⟨c0, A, r⟩ := A
  obtain ⟨hin, e0⟩ := idxIn (c := c0) hj (by rw [sizeOf r]; exact (List.getElem?_eq_some_iff.mp hv).1)
  exact Run.via (fun p e s m args below meth c T locs cells slots hC X eT => ⟨T, X, eT, fun t q => X.baloadBytes hC.1 (by rw [eT]; exact A.1) (State.isArrayOf_alike hC.2.1.alike A.2.1) A.2.2 hin (by rw [e0]; exact getOf r hv) (g := mkF m pc Ls (.int j :: .ref a :: st)) rfl rfl (hb hC.2.2.2.1 hd) t q⟩) nxt
theorem Run.aaload {a : Addr} {vs : List Value} {j : Int32} {i : Nat} {v : Value} {ty : FieldType} (hd : decode code pc = .ok (.aaload, 1)) (A : Ary Z h a ty vs) (hty : ty.isReference = true) (hj : j.toInt = (i : Int)) (hv : vs[i]? = some v) (hp : pc + 1 = pc') (nxt : Run l Z n0 own code maxL ret nm R Q pc' Ls (v :: st) h k n) : Run l Z n0 own code maxL ret nm R Q pc Ls (.int j :: .ref a :: st) h k n := by
  subst hp
  obtain ⟨c0, A, r⟩ := A
  obtain ⟨hin, e0⟩ := idxIn (c := c0) hj (by rw [sizeOf r]; exact (List.getElem?_eq_some_iff.mp hv).1)
  exact Run.via (fun p e s m args below meth c T locs cells slots hC X eT => ⟨T, X, eT, fun t q => X.aaload hC.1 (by rw [eT]; exact A.1) (State.isArrayOf_alike hC.2.1.alike A.2.1) hty A.2.2 hin (by rw [e0]; exact getOf r hv) (g := mkF m pc Ls (.int j :: .ref a :: st)) rfl rfl (hb hC.2.2.2.1 hd) t q⟩) nxt
theorem Run.iastore {a : Addr} {vs : List Value} {j : Int32} {i : Nat} {x : Int32} (hd : decode code pc = .ok (.iastore, 1)) (A : Ary Z h a .int vs) (hj : j.toInt = (i : Int)) (hi : i < vs.length) (ha : n0 ≤ a) (hp : pc + 1 = pc') (nxt : ∀ h', Wr h h' a i (.int x) → Ary Z h' a .int (vs.set i (.int x)) → Run l Z n0 own code maxL ret nm R Q pc' Ls st h' k n) : Run l Z n0 own code maxL ret nm R Q pc Ls (.int x :: .int j :: .ref a :: st) h k n := by
  subst hp
  have A' := A
  obtain ⟨c0, A, r⟩ := A
  obtain ⟨hin, e0⟩ := idxIn (c := c0) hj (by rw [sizeOf r]; exact hi)
  refine Run.wr (fun p e s m args below meth c T locs cells slots hC X eT => ?_) ha (fun h' W => nxt h' W (A'.set W))
  have q := stI X hC.1 hC.2.1 eT A hin (g := mkF m pc Ls (.int x :: .int j :: .ref a :: st)) rfl rfl (hb hC.2.2.2.1 hd)
  rw [e0] at q
  exact q
theorem Run.lastore {a : Addr} {vs : List Value} {j : Int32} {i : Nat} {x : Int64} (hd : decode code pc = .ok (.lastore, 1)) (A : Ary Z h a .long vs) (hj : j.toInt = (i : Int)) (hi : i < vs.length) (ha : n0 ≤ a) (hp : pc + 1 = pc') (nxt : ∀ h', Wr h h' a i (.long x) → Ary Z h' a .long (vs.set i (.long x)) → Run l Z n0 own code maxL ret nm R Q pc' Ls st h' k n) : Run l Z n0 own code maxL ret nm R Q pc Ls (.long x :: .int j :: .ref a :: st) h k n := by
  subst hp
  have A' := A
  obtain ⟨c0, A, r⟩ := A
  obtain ⟨hin, e0⟩ := idxIn (c := c0) hj (by rw [sizeOf r]; exact hi)
  refine Run.wr (fun p e s m args below meth c T locs cells slots hC X eT => ?_) ha (fun h' W => nxt h' W (A'.set W))
  have q := stJ X hC.1 hC.2.1 eT A hin (g := mkF m pc Ls (.long x :: .int j :: .ref a :: st)) rfl rfl (hb hC.2.2.2.1 hd)
  rw [e0] at q
  exact q
theorem Run.castore {a : Addr} {vs : List Value} {j : Int32} {i : Nat} {x : Int32} (hd : decode code pc = .ok (.castore, 1)) (A : Ary Z h a .char vs) (hj : j.toInt = (i : Int)) (hi : i < vs.length) (ha : n0 ≤ a) (hp : pc + 1 = pc') (nxt : ∀ h', Wr h h' a i (.int (nar .char x)) → Ary Z h' a .char (vs.set i (.int (nar .char x))) → Run l Z n0 own code maxL ret nm R Q pc' Ls st h' k n) : Run l Z n0 own code maxL ret nm R Q pc Ls (.int x :: .int j :: .ref a :: st) h k n := by
  subst hp
  have A' := A
  obtain ⟨c0, A, r⟩ := A
  obtain ⟨hin, e0⟩ := idxIn (c := c0) hj (by rw [sizeOf r]; exact hi)
  refine Run.wr (fun p e s m args below meth c T locs cells slots hC X eT => ?_) ha (fun h' W => nxt h' W (A'.set W))
  have q := stC X hC.1 hC.2.1 eT A hin (g := mkF m pc Ls (.int x :: .int j :: .ref a :: st)) rfl rfl (hb hC.2.2.2.1 hd)
  rw [e0] at q
  exact q
theorem Run.sastore {a : Addr} {vs : List Value} {j : Int32} {i : Nat} {x : Int32} (hd : decode code pc = .ok (.sastore, 1)) (A : Ary Z h a .short vs) (hj : j.toInt = (i : Int)) (hi : i < vs.length) (ha : n0 ≤ a) (hp : pc + 1 = pc') (nxt : ∀ h', Wr h h' a i (.int (nar .short x)) → Ary Z h' a .short (vs.set i (.int (nar .short x))) → Run l Z n0 own code maxL ret nm R Q pc' Ls st h' k n) : Run l Z n0 own code maxL ret nm R Q pc Ls (.int x :: .int j :: .ref a :: st) h k n := by
  subst hp
  have A' := A
  obtain ⟨c0, A, r⟩ := A
  obtain ⟨hin, e0⟩ := idxIn (c := c0) hj (by rw [sizeOf r]; exact hi)
  refine Run.wr (fun p e s m args below meth c T locs cells slots hC X eT => ?_) ha (fun h' W => nxt h' W (A'.set W))
  have q := stS X hC.1 hC.2.1 eT A hin (g := mkF m pc Ls (.int x :: .int j :: .ref a :: st)) rfl rfl (hb hC.2.2.2.1 hd)
  rw [e0] at q
  exact q
theorem Run.bastore {a : Addr} {vs : List Value} {j : Int32} {i : Nat} {x : Int32} (hd : decode code pc = .ok (.bastore, 1)) (A : Ary Z h a .byte vs) (hj : j.toInt = (i : Int)) (hi : i < vs.length) (ha : n0 ≤ a) (hp : pc + 1 = pc') (nxt : ∀ h', Wr h h' a i (.int (nar .byte x)) → Ary Z h' a .byte (vs.set i (.int (nar .byte x))) → Run l Z n0 own code maxL ret nm R Q pc' Ls st h' k n) : Run l Z n0 own code maxL ret nm R Q pc Ls (.int x :: .int j :: .ref a :: st) h k n := by
  subst hp
  have A' := A
  obtain ⟨c0, A, r⟩ := A
  obtain ⟨hin, e0⟩ := idxIn (c := c0) hj (by rw [sizeOf r]; exact hi)
  refine Run.wr (fun p e s m args below meth c T locs cells slots hC X eT => ?_) ha (fun h' W => nxt h' W (A'.set W))
  have q := stB X hC.1 hC.2.1 eT A hin (g := mkF m pc Ls (.int x :: .int j :: .ref a :: st)) rfl rfl (hb hC.2.2.2.1 hd)
  rw [e0] at q
  exact q
theorem Run.newP {a0 : Array Value} {aty : ArrayType} {ty : FieldType} {z : Int32} {cap : Nat} {dv : Value} (hd : decode code pc = .ok (.newarray aty, 2)) (hty : newarray.typeOf aty = ty) (w : (Cond.arrayClass ty).before a0 Z = true) (hz : ¬ z < 0) (hcap : z.toNatClampNeg = cap) (hdv : defaultValue ty = dv) (hcb : cap * 8 ≤ 536870912)
    (hk : k + 1 ≤ k') (hk' : k' ≤ R.cells) (hn : n + cap ≤ n') (hn' : n' ≤ R.slots) (hp : pc + 2 = pc')
    (nxt : ∀ h' a, a = h.size → Ext h h' → Ary Z h' a ty (List.replicate cap dv) → Run l Z n0 own code maxL ret nm R Q pc' Ls (.ref a :: st) h' k' n') : Run l Z n0 own code maxL ret nm R Q pc Ls (.int z :: st) h k n := by
  subst hp hty hdv
  intro p e s m args below meth c T locs cells slots hC X eT hF hkk hnn
  obtain ⟨T', h', cA, X', e', E, A, stp⟩ := newP X hC.1 hC.2.1 w eT (g := mkF m pc Ls (.int z :: st)) rfl (hb hC.2.2.2.1 hd) rfl hz (Nat.le_of_eq hcap) hcb (by omega) (by omega)
  obtain ⟨s₂, v, L, g1, g2⟩ := nxt h' h.size rfl E ⟨_, A, by simp [newA, hcap]⟩ p e s m args below meth c T' locs _ _ hC X' e' hF (by omega) (by omega)
  exact ⟨s₂, v, L, stp _ g1, g2⟩
end Walk
end Jvm.GoKit
namespace Jvm.Pilot.@@N@@
open Jvm Jvm.ClassFile Sem Op Lib Jvm.Free Jvm.Stand Jvm.LawKit Jvm.RoadKit Jvm.GoKit Bundle Jvm.Pilot.@@N@@.Jvm.D
def own_max (q1 : Int64) (q2 : Int64) : Int64 := (if q1 < q2 then q2 else q1)
theorem d1_0 : decode jdk_29_method_66_code 0 = .ok (.lload_n 0, 1) := by decide +kernel
theorem d1_1 : decode jdk_29_method_66_code 1 = .ok (.lload_n 2, 1) := by decide +kernel
theorem d1_2 : decode jdk_29_method_66_code 2 = .ok (.lcmp, 1) := by decide +kernel
theorem d1_3 : decode jdk_29_method_66_code 3 = .ok (.ifCond .lt 7, 3) := by decide +kernel
theorem d1_6 : decode jdk_29_method_66_code 6 = .ok (.lload_n 0, 1) := by decide +kernel
theorem d1_7 : decode jdk_29_method_66_code 7 = .ok (.goto 4, 3) := by decide +kernel
theorem d1_10 : decode jdk_29_method_66_code 10 = .ok (.lload_n 2, 1) := by decide +kernel
theorem d1_11 : decode jdk_29_method_66_code 11 = .ok (.lreturn, 1) := by decide +kernel
theorem pn_1 : plainFor (⟨"java/lang/Math", "max", "(JJ)J"⟩ : MethodName) = true := by decide +kernel
theorem ef_con_own_max (m : MethodId) (q1 : Int64) (q2 : Int64) : entryFrame m #[(.long q1), (.long q2)] 4 = mkF m 0 #[.val (.long q1), .second, .val (.long q2), .second] [] := by first | (simp [entryFrame, mkF, argsToLocals, Value.category]; done) | rfl
set_option maxRecDepth 65536 in
set_option maxHeartbeats 40000000 in
theorem con_own_max (l : Launch) (Z : State) (a0 : Array Value) (hw : ∀ d ∈ tables_1, d.before a0 Z = true) (n0 : Nat) (h0 : Heap) (Z0 : n0 ≤ h0.size) (q1 : Int64) (q2 : Int64)  :
    Con l Z n0 (⟨"java/lang/Math", "max", "(JJ)J"⟩ : MethodName) jdk_29_method_66_code 4 (some .long) ({ frames := 0, cells := 0, slots := 0, locals := 0 } : Room) #[(.long q1), (.long q2)] h0 (Val (PV (.long (own_max q1 q2)) h0)) := by
  refine Con.of_run pn_1 (fun m => ef_con_own_max m q1 q2) ?_
  refine Run.lloadN d1_0 rfl (pc' := 1) rfl ?_
  refine Run.lloadN d1_1 rfl (pc' := 2) rfl ?_
  refine Run.lcmp d1_2 (pc' := 3) rfl ?_
  refine Run.lif_lt d1_3 (by decide) (pc' := 10) (by decide) (pa := 6) rfl (fun hc3 => ?_) (fun hc3 => ?_)
  · -- pc 3 taken: q1 < q2
    refine Run.lloadN d1_10 rfl (pc' := 11) rfl ?_
    exact Run.lreturn d1_11 rfl (by decide) (by decide) ⟨_, rfl, congrArg Value.long (by unfold own_max; rw [if_pos hc3] <;> rfl), rfl⟩
  · -- pc 3 not taken: ¬ q1 < q2
    refine Run.lloadN d1_6 rfl (pc' := 7) rfl ?_
    refine Run.goto d1_7 (by decide) (pc' := 11) (by decide) ?_
    exact Run.lreturn d1_11 rfl (by decide) (by decide) ⟨_, rfl, congrArg Value.long (by unfold own_max; rw [if_neg hc3] <;> rfl), rfl⟩
def own_high (q1 : Int64) (q2 : Int64) : Int64 := (((((XT.ushrL q1 (32 : Int32)) * (XT.ushrL q2 (32 : Int32))) + (XT.ushrL ((q1 &&& (4294967295 : Int64)) * (XT.ushrL q2 (32 : Int32))) (32 : Int32))) + (XT.ushrL ((XT.ushrL q1 (32 : Int32)) * (q2 &&& (4294967295 : Int64))) (32 : Int32))) + (XT.ushrL (((XT.ushrL ((q1 &&& (4294967295 : Int64)) * (q2 &&& (4294967295 : Int64))) (32 : Int32)) + (((q1 &&& (4294967295 : Int64)) * (XT.ushrL q2 (32 : Int32))) &&& (4294967295 : Int64))) + (((XT.ushrL q1 (32 : Int32)) * (q2 &&& (4294967295 : Int64))) &&& (4294967295 : Int64))) (32 : Int32)))
theorem d6_0 : decode method_2_code 0 = .ok (.lload_n 0, 1) := by decide +kernel
theorem d6_1 : decode method_2_code 1 = .ok (.bipush 32, 2) := by decide +kernel
theorem d6_3 : decode method_2_code 3 = .ok (.lushr, 1) := by decide +kernel
theorem d6_4 : decode method_2_code 4 = .ok (.lstore 4, 2) := by decide +kernel
theorem d6_6 : decode method_2_code 6 = .ok (.lload_n 0, 1) := by decide +kernel
theorem d6_7 : decode method_2_code 7 = .ok (.ldc2_w 7, 3) := by decide +kernel
theorem d6_10 : decode method_2_code 10 = .ok (.land, 1) := by decide +kernel
theorem d6_11 : decode method_2_code 11 = .ok (.lstore 6, 2) := by decide +kernel
theorem d6_13 : decode method_2_code 13 = .ok (.lload_n 2, 1) := by decide +kernel
theorem d6_14 : decode method_2_code 14 = .ok (.bipush 32, 2) := by decide +kernel
theorem d6_16 : decode method_2_code 16 = .ok (.lushr, 1) := by decide +kernel
theorem d6_17 : decode method_2_code 17 = .ok (.lstore 8, 2) := by decide +kernel
theorem d6_19 : decode method_2_code 19 = .ok (.lload_n 2, 1) := by decide +kernel
theorem d6_20 : decode method_2_code 20 = .ok (.ldc2_w 7, 3) := by decide +kernel
theorem d6_23 : decode method_2_code 23 = .ok (.land, 1) := by decide +kernel
theorem d6_24 : decode method_2_code 24 = .ok (.lstore 10, 2) := by decide +kernel
theorem d6_26 : decode method_2_code 26 = .ok (.lload 6, 2) := by decide +kernel
theorem d6_28 : decode method_2_code 28 = .ok (.lload 10, 2) := by decide +kernel
theorem d6_30 : decode method_2_code 30 = .ok (.lmul, 1) := by decide +kernel
theorem d6_31 : decode method_2_code 31 = .ok (.lstore 12, 2) := by decide +kernel
theorem d6_33 : decode method_2_code 33 = .ok (.lload 6, 2) := by decide +kernel
theorem d6_35 : decode method_2_code 35 = .ok (.lload 8, 2) := by decide +kernel
theorem d6_37 : decode method_2_code 37 = .ok (.lmul, 1) := by decide +kernel
theorem d6_38 : decode method_2_code 38 = .ok (.lstore 14, 2) := by decide +kernel
theorem d6_40 : decode method_2_code 40 = .ok (.lload 4, 2) := by decide +kernel
theorem d6_42 : decode method_2_code 42 = .ok (.lload 10, 2) := by decide +kernel
theorem d6_44 : decode method_2_code 44 = .ok (.lmul, 1) := by decide +kernel
theorem d6_45 : decode method_2_code 45 = .ok (.lstore 16, 2) := by decide +kernel
theorem d6_47 : decode method_2_code 47 = .ok (.lload 4, 2) := by decide +kernel
theorem d6_49 : decode method_2_code 49 = .ok (.lload 8, 2) := by decide +kernel
theorem d6_51 : decode method_2_code 51 = .ok (.lmul, 1) := by decide +kernel
theorem d6_52 : decode method_2_code 52 = .ok (.lstore 18, 2) := by decide +kernel
theorem d6_54 : decode method_2_code 54 = .ok (.lload 12, 2) := by decide +kernel
theorem d6_56 : decode method_2_code 56 = .ok (.bipush 32, 2) := by decide +kernel
theorem d6_58 : decode method_2_code 58 = .ok (.lushr, 1) := by decide +kernel
theorem d6_59 : decode method_2_code 59 = .ok (.lload 14, 2) := by decide +kernel
theorem d6_61 : decode method_2_code 61 = .ok (.ldc2_w 7, 3) := by decide +kernel
theorem d6_64 : decode method_2_code 64 = .ok (.land, 1) := by decide +kernel
theorem d6_65 : decode method_2_code 65 = .ok (.ladd, 1) := by decide +kernel
theorem d6_66 : decode method_2_code 66 = .ok (.lload 16, 2) := by decide +kernel
theorem d6_68 : decode method_2_code 68 = .ok (.ldc2_w 7, 3) := by decide +kernel
theorem d6_71 : decode method_2_code 71 = .ok (.land, 1) := by decide +kernel
theorem d6_72 : decode method_2_code 72 = .ok (.ladd, 1) := by decide +kernel
theorem d6_73 : decode method_2_code 73 = .ok (.lstore 20, 2) := by decide +kernel
theorem d6_75 : decode method_2_code 75 = .ok (.lload 18, 2) := by decide +kernel
theorem d6_77 : decode method_2_code 77 = .ok (.lload 14, 2) := by decide +kernel
theorem d6_79 : decode method_2_code 79 = .ok (.bipush 32, 2) := by decide +kernel
theorem d6_81 : decode method_2_code 81 = .ok (.lushr, 1) := by decide +kernel
theorem d6_82 : decode method_2_code 82 = .ok (.ladd, 1) := by decide +kernel
theorem d6_83 : decode method_2_code 83 = .ok (.lload 16, 2) := by decide +kernel
theorem d6_85 : decode method_2_code 85 = .ok (.bipush 32, 2) := by decide +kernel
theorem d6_87 : decode method_2_code 87 = .ok (.lushr, 1) := by decide +kernel
theorem d6_88 : decode method_2_code 88 = .ok (.ladd, 1) := by decide +kernel
theorem d6_89 : decode method_2_code 89 = .ok (.lload 20, 2) := by decide +kernel
theorem d6_91 : decode method_2_code 91 = .ok (.bipush 32, 2) := by decide +kernel
theorem d6_93 : decode method_2_code 93 = .ok (.lushr, 1) := by decide +kernel
theorem d6_94 : decode method_2_code 94 = .ok (.ladd, 1) := by decide +kernel
theorem d6_95 : decode method_2_code 95 = .ok (.lreturn, 1) := by decide +kernel
theorem pn_6 : plainFor (⟨"com/example/coarsen/coarsen/FractionCompareToPinLaw", "high", "(JJ)J"⟩ : MethodName) = true := plainFor_of_name (by first | (simp [plainName, overriddenIn]; done) | decide +kernel)
theorem ef_con_own_high (m : MethodId) (q1 : Int64) (q2 : Int64) : entryFrame m #[(.long q1), (.long q2)] 22 = mkF m 0 #[.val (.long q1), .second, .val (.long q2), .second, .unset, .unset, .unset, .unset, .unset, .unset, .unset, .unset, .unset, .unset, .unset, .unset, .unset, .unset, .unset, .unset, .unset, .unset] [] := by first | (simp [entryFrame, mkF, argsToLocals, Value.category]; done) | rfl
set_option maxRecDepth 65536 in
set_option maxHeartbeats 40000000 in
theorem con_own_high (l : Launch) (Z : State) (a0 : Array Value) (hw : ∀ d ∈ tables_1, d.before a0 Z = true) (n0 : Nat) (h0 : Heap) (Z0 : n0 ≤ h0.size) (q1 : Int64) (q2 : Int64)  :
    Con l Z n0 (⟨"com/example/coarsen/coarsen/FractionCompareToPinLaw", "high", "(JJ)J"⟩ : MethodName) method_2_code 22 (some .long) ({ frames := 0, cells := 0, slots := 0, locals := 0 } : Room) #[(.long q1), (.long q2)] h0 (Val (PV (.long (own_high q1 q2)) h0)) := by
  refine Con.of_run pn_6 (fun m => ef_con_own_high m q1 q2) ?_
  refine Run.lloadN d6_0 rfl (pc' := 1) rfl ?_
  refine Run.bipush (32 : Int32) d6_1 (by decide) (pc' := 3) rfl ?_
  refine Run.lushr d6_3 (pc' := 4) rfl ?_
  refine Run.lstore (l' := #[.val (.long q1), .second, .val (.long q2), .second, .val (.long (XT.ushrL q1 (32 : Int32))), .second, .unset, .unset, .unset, .unset, .unset, .unset, .unset, .unset, .unset, .unset, .unset, .unset, .unset, .unset, .unset, .unset]) d6_4 rfl (pc' := 6) rfl ?_
  refine Run.lloadN d6_6 rfl (pc' := 7) rfl ?_
  refine Run.ldc2J (v := (4294967295 : Int64)) d6_7 (hw _ (List.mem_of_getElem? (i := 30) rfl)) (pc' := 10) rfl ?_
  refine Run.land d6_10 (pc' := 11) rfl ?_
  refine Run.lstore (l' := #[.val (.long q1), .second, .val (.long q2), .second, .val (.long (XT.ushrL q1 (32 : Int32))), .second, .val (.long (q1 &&& (4294967295 : Int64))), .second, .unset, .unset, .unset, .unset, .unset, .unset, .unset, .unset, .unset, .unset, .unset, .unset, .unset, .unset]) d6_11 rfl (pc' := 13) rfl ?_
  refine Run.lloadN d6_13 rfl (pc' := 14) rfl ?_
  refine Run.bipush (32 : Int32) d6_14 (by decide) (pc' := 16) rfl ?_
  refine Run.lushr d6_16 (pc' := 17) rfl ?_
  refine Run.lstore (l' := #[.val (.long q1), .second, .val (.long q2), .second, .val (.long (XT.ushrL q1 (32 : Int32))), .second, .val (.long (q1 &&& (4294967295 : Int64))), .second, .val (.long (XT.ushrL q2 (32 : Int32))), .second, .unset, .unset, .unset, .unset, .unset, .unset, .unset, .unset, .unset, .unset, .unset, .unset]) d6_17 rfl (pc' := 19) rfl ?_
  refine Run.lloadN d6_19 rfl (pc' := 20) rfl ?_
  refine Run.ldc2J (v := (4294967295 : Int64)) d6_20 (hw _ (List.mem_of_getElem? (i := 30) rfl)) (pc' := 23) rfl ?_
  refine Run.land d6_23 (pc' := 24) rfl ?_
  refine Run.lstore (l' := #[.val (.long q1), .second, .val (.long q2), .second, .val (.long (XT.ushrL q1 (32 : Int32))), .second, .val (.long (q1 &&& (4294967295 : Int64))), .second, .val (.long (XT.ushrL q2 (32 : Int32))), .second, .val (.long (q2 &&& (4294967295 : Int64))), .second, .unset, .unset, .unset, .unset, .unset, .unset, .unset, .unset, .unset, .unset]) d6_24 rfl (pc' := 26) rfl ?_
  refine Run.lload d6_26 rfl (pc' := 28) rfl ?_
  refine Run.lload d6_28 rfl (pc' := 30) rfl ?_
  refine Run.lmul d6_30 (pc' := 31) rfl ?_
  refine Run.lstore (l' := #[.val (.long q1), .second, .val (.long q2), .second, .val (.long (XT.ushrL q1 (32 : Int32))), .second, .val (.long (q1 &&& (4294967295 : Int64))), .second, .val (.long (XT.ushrL q2 (32 : Int32))), .second, .val (.long (q2 &&& (4294967295 : Int64))), .second, .val (.long ((q1 &&& (4294967295 : Int64)) * (q2 &&& (4294967295 : Int64)))), .second, .unset, .unset, .unset, .unset, .unset, .unset, .unset, .unset]) d6_31 rfl (pc' := 33) rfl ?_
  refine Run.lload d6_33 rfl (pc' := 35) rfl ?_
  refine Run.lload d6_35 rfl (pc' := 37) rfl ?_
  refine Run.lmul d6_37 (pc' := 38) rfl ?_
  refine Run.lstore (l' := #[.val (.long q1), .second, .val (.long q2), .second, .val (.long (XT.ushrL q1 (32 : Int32))), .second, .val (.long (q1 &&& (4294967295 : Int64))), .second, .val (.long (XT.ushrL q2 (32 : Int32))), .second, .val (.long (q2 &&& (4294967295 : Int64))), .second, .val (.long ((q1 &&& (4294967295 : Int64)) * (q2 &&& (4294967295 : Int64)))), .second, .val (.long ((q1 &&& (4294967295 : Int64)) * (XT.ushrL q2 (32 : Int32)))), .second, .unset, .unset, .unset, .unset, .unset, .unset]) d6_38 rfl (pc' := 40) rfl ?_
  refine Run.lload d6_40 rfl (pc' := 42) rfl ?_
  refine Run.lload d6_42 rfl (pc' := 44) rfl ?_
  refine Run.lmul d6_44 (pc' := 45) rfl ?_
  refine Run.lstore (l' := #[.val (.long q1), .second, .val (.long q2), .second, .val (.long (XT.ushrL q1 (32 : Int32))), .second, .val (.long (q1 &&& (4294967295 : Int64))), .second, .val (.long (XT.ushrL q2 (32 : Int32))), .second, .val (.long (q2 &&& (4294967295 : Int64))), .second, .val (.long ((q1 &&& (4294967295 : Int64)) * (q2 &&& (4294967295 : Int64)))), .second, .val (.long ((q1 &&& (4294967295 : Int64)) * (XT.ushrL q2 (32 : Int32)))), .second, .val (.long ((XT.ushrL q1 (32 : Int32)) * (q2 &&& (4294967295 : Int64)))), .second, .unset, .unset, .unset, .unset]) d6_45 rfl (pc' := 47) rfl ?_
  refine Run.lload d6_47 rfl (pc' := 49) rfl ?_
  refine Run.lload d6_49 rfl (pc' := 51) rfl ?_
  refine Run.lmul d6_51 (pc' := 52) rfl ?_
  refine Run.lstore (l' := #[.val (.long q1), .second, .val (.long q2), .second, .val (.long (XT.ushrL q1 (32 : Int32))), .second, .val (.long (q1 &&& (4294967295 : Int64))), .second, .val (.long (XT.ushrL q2 (32 : Int32))), .second, .val (.long (q2 &&& (4294967295 : Int64))), .second, .val (.long ((q1 &&& (4294967295 : Int64)) * (q2 &&& (4294967295 : Int64)))), .second, .val (.long ((q1 &&& (4294967295 : Int64)) * (XT.ushrL q2 (32 : Int32)))), .second, .val (.long ((XT.ushrL q1 (32 : Int32)) * (q2 &&& (4294967295 : Int64)))), .second, .val (.long ((XT.ushrL q1 (32 : Int32)) * (XT.ushrL q2 (32 : Int32)))), .second, .unset, .unset]) d6_52 rfl (pc' := 54) rfl ?_
  refine Run.lload d6_54 rfl (pc' := 56) rfl ?_
  refine Run.bipush (32 : Int32) d6_56 (by decide) (pc' := 58) rfl ?_
  refine Run.lushr d6_58 (pc' := 59) rfl ?_
  refine Run.lload d6_59 rfl (pc' := 61) rfl ?_
  refine Run.ldc2J (v := (4294967295 : Int64)) d6_61 (hw _ (List.mem_of_getElem? (i := 30) rfl)) (pc' := 64) rfl ?_
  refine Run.land d6_64 (pc' := 65) rfl ?_
  refine Run.ladd d6_65 (pc' := 66) rfl ?_
  refine Run.lload d6_66 rfl (pc' := 68) rfl ?_
  refine Run.ldc2J (v := (4294967295 : Int64)) d6_68 (hw _ (List.mem_of_getElem? (i := 30) rfl)) (pc' := 71) rfl ?_
  refine Run.land d6_71 (pc' := 72) rfl ?_
  refine Run.ladd d6_72 (pc' := 73) rfl ?_
  refine Run.lstore (l' := #[.val (.long q1), .second, .val (.long q2), .second, .val (.long (XT.ushrL q1 (32 : Int32))), .second, .val (.long (q1 &&& (4294967295 : Int64))), .second, .val (.long (XT.ushrL q2 (32 : Int32))), .second, .val (.long (q2 &&& (4294967295 : Int64))), .second, .val (.long ((q1 &&& (4294967295 : Int64)) * (q2 &&& (4294967295 : Int64)))), .second, .val (.long ((q1 &&& (4294967295 : Int64)) * (XT.ushrL q2 (32 : Int32)))), .second, .val (.long ((XT.ushrL q1 (32 : Int32)) * (q2 &&& (4294967295 : Int64)))), .second, .val (.long ((XT.ushrL q1 (32 : Int32)) * (XT.ushrL q2 (32 : Int32)))), .second, .val (.long (((XT.ushrL ((q1 &&& (4294967295 : Int64)) * (q2 &&& (4294967295 : Int64))) (32 : Int32)) + (((q1 &&& (4294967295 : Int64)) * (XT.ushrL q2 (32 : Int32))) &&& (4294967295 : Int64))) + (((XT.ushrL q1 (32 : Int32)) * (q2 &&& (4294967295 : Int64))) &&& (4294967295 : Int64)))), .second]) d6_73 rfl (pc' := 75) rfl ?_
  refine Run.lload d6_75 rfl (pc' := 77) rfl ?_
  refine Run.lload d6_77 rfl (pc' := 79) rfl ?_
  refine Run.bipush (32 : Int32) d6_79 (by decide) (pc' := 81) rfl ?_
  refine Run.lushr d6_81 (pc' := 82) rfl ?_
  refine Run.ladd d6_82 (pc' := 83) rfl ?_
  refine Run.lload d6_83 rfl (pc' := 85) rfl ?_
  refine Run.bipush (32 : Int32) d6_85 (by decide) (pc' := 87) rfl ?_
  refine Run.lushr d6_87 (pc' := 88) rfl ?_
  refine Run.ladd d6_88 (pc' := 89) rfl ?_
  refine Run.lload d6_89 rfl (pc' := 91) rfl ?_
  refine Run.bipush (32 : Int32) d6_91 (by decide) (pc' := 93) rfl ?_
  refine Run.lushr d6_93 (pc' := 94) rfl ?_
  refine Run.ladd d6_94 (pc' := 95) rfl ?_
  exact Run.lreturn d6_95 rfl (by decide) (by decide) ⟨_, rfl, rfl, rfl⟩
def own_ref (q1 : Int64) (q2 : Int64) (q3 : Int64) (q4 : Int64) : Int32 := (if (own_high q1 q4) < (own_high q3 q2) then (-1 : Int32) else (if (own_high q3 q2) < (own_high q1 q4) then (1 : Int32) else (if ((q1 * q4) ^^^ (-9223372036854775808 : Int64)) < ((q3 * q2) ^^^ (-9223372036854775808 : Int64)) then (-1 : Int32) else (if ((q3 * q2) ^^^ (-9223372036854775808 : Int64)) < ((q1 * q4) ^^^ (-9223372036854775808 : Int64)) then (1 : Int32) else (0 : Int32)))))
theorem d5_0 : decode method_3_code 0 = .ok (.lload_n 0, 1) := by decide +kernel
theorem d5_1 : decode method_3_code 1 = .ok (.lload 6, 2) := by decide +kernel
theorem d5_3 : decode method_3_code 3 = .ok (.invokestatic 9, 3) := by decide +kernel
theorem d5_6 : decode method_3_code 6 = .ok (.lstore 8, 2) := by decide +kernel
theorem d5_8 : decode method_3_code 8 = .ok (.lload 4, 2) := by decide +kernel
theorem d5_10 : decode method_3_code 10 = .ok (.lload_n 2, 1) := by decide +kernel
theorem d5_11 : decode method_3_code 11 = .ok (.invokestatic 9, 3) := by decide +kernel
theorem d5_14 : decode method_3_code 14 = .ok (.lstore 10, 2) := by decide +kernel
theorem d5_16 : decode method_3_code 16 = .ok (.lload 8, 2) := by decide +kernel
theorem d5_18 : decode method_3_code 18 = .ok (.lload 10, 2) := by decide +kernel
theorem d5_20 : decode method_3_code 20 = .ok (.lcmp, 1) := by decide +kernel
theorem d5_21 : decode method_3_code 21 = .ok (.ifCond .ge 5, 3) := by decide +kernel
theorem d5_24 : decode method_3_code 24 = .ok (.iconst (-1), 1) := by decide +kernel
theorem d5_25 : decode method_3_code 25 = .ok (.ireturn, 1) := by decide +kernel
theorem d5_26 : decode method_3_code 26 = .ok (.lload 8, 2) := by decide +kernel
theorem d5_28 : decode method_3_code 28 = .ok (.lload 10, 2) := by decide +kernel
theorem d5_30 : decode method_3_code 30 = .ok (.lcmp, 1) := by decide +kernel
theorem d5_31 : decode method_3_code 31 = .ok (.ifCond .le 5, 3) := by decide +kernel
theorem d5_34 : decode method_3_code 34 = .ok (.iconst 1, 1) := by decide +kernel
theorem d5_35 : decode method_3_code 35 = .ok (.ireturn, 1) := by decide +kernel
theorem d5_36 : decode method_3_code 36 = .ok (.lload_n 0, 1) := by decide +kernel
theorem d5_37 : decode method_3_code 37 = .ok (.lload 6, 2) := by decide +kernel
theorem d5_39 : decode method_3_code 39 = .ok (.lmul, 1) := by decide +kernel
theorem d5_40 : decode method_3_code 40 = .ok (.ldc2_w 17, 3) := by decide +kernel
theorem d5_43 : decode method_3_code 43 = .ok (.lxor, 1) := by decide +kernel
theorem d5_44 : decode method_3_code 44 = .ok (.lstore 12, 2) := by decide +kernel
theorem d5_46 : decode method_3_code 46 = .ok (.lload 4, 2) := by decide +kernel
theorem d5_48 : decode method_3_code 48 = .ok (.lload_n 2, 1) := by decide +kernel
theorem d5_49 : decode method_3_code 49 = .ok (.lmul, 1) := by decide +kernel
theorem d5_50 : decode method_3_code 50 = .ok (.ldc2_w 17, 3) := by decide +kernel
theorem d5_53 : decode method_3_code 53 = .ok (.lxor, 1) := by decide +kernel
theorem d5_54 : decode method_3_code 54 = .ok (.lstore 14, 2) := by decide +kernel
theorem d5_56 : decode method_3_code 56 = .ok (.lload 12, 2) := by decide +kernel
theorem d5_58 : decode method_3_code 58 = .ok (.lload 14, 2) := by decide +kernel
theorem d5_60 : decode method_3_code 60 = .ok (.lcmp, 1) := by decide +kernel
theorem d5_61 : decode method_3_code 61 = .ok (.ifCond .ge 5, 3) := by decide +kernel
theorem d5_64 : decode method_3_code 64 = .ok (.iconst (-1), 1) := by decide +kernel
theorem d5_65 : decode method_3_code 65 = .ok (.ireturn, 1) := by decide +kernel
theorem d5_66 : decode method_3_code 66 = .ok (.lload 12, 2) := by decide +kernel
theorem d5_68 : decode method_3_code 68 = .ok (.lload 14, 2) := by decide +kernel
theorem d5_70 : decode method_3_code 70 = .ok (.lcmp, 1) := by decide +kernel
theorem d5_71 : decode method_3_code 71 = .ok (.ifCond .le 5, 3) := by decide +kernel
theorem d5_74 : decode method_3_code 74 = .ok (.iconst 1, 1) := by decide +kernel
theorem d5_75 : decode method_3_code 75 = .ok (.ireturn, 1) := by decide +kernel
theorem d5_76 : decode method_3_code 76 = .ok (.iconst 0, 1) := by decide +kernel
theorem d5_77 : decode method_3_code 77 = .ok (.ireturn, 1) := by decide +kernel
theorem pn_5 : plainFor (⟨"com/example/coarsen/coarsen/FractionCompareToPinLaw", "ref", "(JJJJ)I"⟩ : MethodName) = true := plainFor_of_name (by first | (simp [plainName, overriddenIn]; done) | decide +kernel)
theorem pd__JJ_J : parseMethodDescriptor "(JJ)J" = some ⟨[.long, .long], some .long⟩ := by decide +kernel
theorem ef_con_own_ref (m : MethodId) (q1 : Int64) (q2 : Int64) (q3 : Int64) (q4 : Int64) : entryFrame m #[(.long q1), (.long q2), (.long q3), (.long q4)] 16 = mkF m 0 #[.val (.long q1), .second, .val (.long q2), .second, .val (.long q3), .second, .val (.long q4), .second, .unset, .unset, .unset, .unset, .unset, .unset, .unset, .unset] [] := by first | (simp [entryFrame, mkF, argsToLocals, Value.category]; done) | rfl
set_option maxRecDepth 65536 in
set_option maxHeartbeats 40000000 in
theorem con_own_ref (l : Launch) (Z : State) (a0 : Array Value) (hw : ∀ d ∈ tables_1, d.before a0 Z = true) (n0 : Nat) (h0 : Heap) (Z0 : n0 ≤ h0.size) (q1 : Int64) (q2 : Int64) (q3 : Int64) (q4 : Int64)  :
    Con l Z n0 (⟨"com/example/coarsen/coarsen/FractionCompareToPinLaw", "ref", "(JJJJ)I"⟩ : MethodName) method_3_code 16 (some .int) ({ frames := 1, cells := 0, slots := 0, locals := 33 } : Room) #[(.long q1), (.long q2), (.long q3), (.long q4)] h0 (Val (PV (.int (own_ref q1 q2 q3 q4)) h0)) := by
  refine Con.of_run pn_5 (fun m => ef_con_own_ref m q1 q2 q3 q4) ?_
  refine Run.lloadN d5_0 rfl (pc' := 1) rfl ?_
  refine Run.lload d5_1 rfl (pc' := 3) rfl ?_
  refine Run.callS (k' := 0) (n' := 0) (as := [(.long q1), (.long q4)]) (rest := []) (con_own_high l Z a0 hw n0 h0 Z0 q1 q4 ) d5_3 (hw _ (List.mem_of_getElem? (i := 27) rfl)) (hw _ (List.mem_of_getElem? (i := 28) rfl)) (hw _ (List.mem_of_getElem? (i := 25) rfl)) (hw _ (List.mem_of_getElem? (i := 29) rfl)) (by decide) pd__JJ_J rfl rfl rfl (by decide) (by show (0 : Nat) + (22 + 11) + 0 ≤ _; decide) (by decide) (by decide) (by decide) (by decide) (pc' := 6) rfl ?_
  rintro _ _ ⟨_, rfl, rfl, rfl⟩
  show Run l Z n0 "com/example/coarsen/coarsen/FractionCompareToPinLaw" method_3_code 16 (some .int) "ref" ({ frames := 1, cells := 0, slots := 0, locals := 33 } : Room) _ 6 #[.val (.long q1), .second, .val (.long q2), .second, .val (.long q3), .second, .val (.long q4), .second, .unset, .unset, .unset, .unset, .unset, .unset, .unset, .unset] [(.long (own_high q1 q4))] h0 0 0
  refine Run.lstore (l' := #[.val (.long q1), .second, .val (.long q2), .second, .val (.long q3), .second, .val (.long q4), .second, .val (.long (own_high q1 q4)), .second, .unset, .unset, .unset, .unset, .unset, .unset]) d5_6 rfl (pc' := 8) rfl ?_
  refine Run.lload d5_8 rfl (pc' := 10) rfl ?_
  refine Run.lloadN d5_10 rfl (pc' := 11) rfl ?_
  refine Run.callS (k' := 0) (n' := 0) (as := [(.long q3), (.long q2)]) (rest := []) (con_own_high l Z a0 hw n0 h0 Z0 q3 q2 ) d5_11 (hw _ (List.mem_of_getElem? (i := 27) rfl)) (hw _ (List.mem_of_getElem? (i := 28) rfl)) (hw _ (List.mem_of_getElem? (i := 25) rfl)) (hw _ (List.mem_of_getElem? (i := 29) rfl)) (by decide) pd__JJ_J rfl rfl rfl (by decide) (by show (0 : Nat) + (22 + 11) + 0 ≤ _; decide) (by decide) (by decide) (by decide) (by decide) (pc' := 14) rfl ?_
  rintro _ _ ⟨_, rfl, rfl, rfl⟩
  show Run l Z n0 "com/example/coarsen/coarsen/FractionCompareToPinLaw" method_3_code 16 (some .int) "ref" ({ frames := 1, cells := 0, slots := 0, locals := 33 } : Room) _ 14 #[.val (.long q1), .second, .val (.long q2), .second, .val (.long q3), .second, .val (.long q4), .second, .val (.long (own_high q1 q4)), .second, .unset, .unset, .unset, .unset, .unset, .unset] [(.long (own_high q3 q2))] h0 0 0
  refine Run.lstore (l' := #[.val (.long q1), .second, .val (.long q2), .second, .val (.long q3), .second, .val (.long q4), .second, .val (.long (own_high q1 q4)), .second, .val (.long (own_high q3 q2)), .second, .unset, .unset, .unset, .unset]) d5_14 rfl (pc' := 16) rfl ?_
  refine Run.lload d5_16 rfl (pc' := 18) rfl ?_
  refine Run.lload d5_18 rfl (pc' := 20) rfl ?_
  refine Run.lcmp d5_20 (pc' := 21) rfl ?_
  refine Run.lif_ge d5_21 (by decide) (pc' := 26) (by decide) (pa := 24) rfl (fun hc21 => ?_) (fun hc21 => ?_)
  · -- pc 21 taken: ¬ (own_high q1 q4) < (own_high q3 q2)
    refine Run.lload d5_26 rfl (pc' := 28) rfl ?_
    refine Run.lload d5_28 rfl (pc' := 30) rfl ?_
    refine Run.lcmp d5_30 (pc' := 31) rfl ?_
    refine Run.lif_le d5_31 (by decide) (pc' := 36) (by decide) (pa := 34) rfl (fun hc31 => ?_) (fun hc31 => ?_)
    · -- pc 31 taken: ¬ (own_high q3 q2) < (own_high q1 q4)
      refine Run.lloadN d5_36 rfl (pc' := 37) rfl ?_
      refine Run.lload d5_37 rfl (pc' := 39) rfl ?_
      refine Run.lmul d5_39 (pc' := 40) rfl ?_
      refine Run.ldc2J (v := (-9223372036854775808 : Int64)) d5_40 (hw _ (List.mem_of_getElem? (i := 31) rfl)) (pc' := 43) rfl ?_
      refine Run.lxor d5_43 (pc' := 44) rfl ?_
      refine Run.lstore (l' := #[.val (.long q1), .second, .val (.long q2), .second, .val (.long q3), .second, .val (.long q4), .second, .val (.long (own_high q1 q4)), .second, .val (.long (own_high q3 q2)), .second, .val (.long ((q1 * q4) ^^^ (-9223372036854775808 : Int64))), .second, .unset, .unset]) d5_44 rfl (pc' := 46) rfl ?_
      refine Run.lload d5_46 rfl (pc' := 48) rfl ?_
      refine Run.lloadN d5_48 rfl (pc' := 49) rfl ?_
      refine Run.lmul d5_49 (pc' := 50) rfl ?_
      refine Run.ldc2J (v := (-9223372036854775808 : Int64)) d5_50 (hw _ (List.mem_of_getElem? (i := 31) rfl)) (pc' := 53) rfl ?_
      refine Run.lxor d5_53 (pc' := 54) rfl ?_
      refine Run.lstore (l' := #[.val (.long q1), .second, .val (.long q2), .second, .val (.long q3), .second, .val (.long q4), .second, .val (.long (own_high q1 q4)), .second, .val (.long (own_high q3 q2)), .second, .val (.long ((q1 * q4) ^^^ (-9223372036854775808 : Int64))), .second, .val (.long ((q3 * q2) ^^^ (-9223372036854775808 : Int64))), .second]) d5_54 rfl (pc' := 56) rfl ?_
      refine Run.lload d5_56 rfl (pc' := 58) rfl ?_
      refine Run.lload d5_58 rfl (pc' := 60) rfl ?_
      refine Run.lcmp d5_60 (pc' := 61) rfl ?_
      refine Run.lif_ge d5_61 (by decide) (pc' := 66) (by decide) (pa := 64) rfl (fun hc61 => ?_) (fun hc61 => ?_)
      · -- pc 61 taken: ¬ ((q1 * q4) ^^^ (-9223372036854775808 : Int64)) < ((q3 * q2) ^^^ (-9223372036854775808 : Int64))
        refine Run.lload d5_66 rfl (pc' := 68) rfl ?_
        refine Run.lload d5_68 rfl (pc' := 70) rfl ?_
        refine Run.lcmp d5_70 (pc' := 71) rfl ?_
        refine Run.lif_le d5_71 (by decide) (pc' := 76) (by decide) (pa := 74) rfl (fun hc71 => ?_) (fun hc71 => ?_)
        · -- pc 71 taken: ¬ ((q3 * q2) ^^^ (-9223372036854775808 : Int64)) < ((q1 * q4) ^^^ (-9223372036854775808 : Int64))
          refine Run.iconst (0 : Int32) d5_76 (by decide) (pc' := 77) rfl ?_
          exact Run.ireturn d5_77 rfl (by decide) (by decide) ⟨_, rfl, congrArg Value.int (by unfold own_ref; rw [if_neg hc21, if_neg hc31, if_neg hc61, if_neg hc71] <;> rfl), rfl⟩
        · -- pc 71 not taken: ((q3 * q2) ^^^ (-9223372036854775808 : Int64)) < ((q1 * q4) ^^^ (-9223372036854775808 : Int64))
          refine Run.iconst (1 : Int32) d5_74 (by decide) (pc' := 75) rfl ?_
          exact Run.ireturn d5_75 rfl (by decide) (by decide) ⟨_, rfl, congrArg Value.int (by unfold own_ref; rw [if_neg hc21, if_neg hc31, if_neg hc61, if_pos hc71] <;> rfl), rfl⟩
      · -- pc 61 not taken: ((q1 * q4) ^^^ (-9223372036854775808 : Int64)) < ((q3 * q2) ^^^ (-9223372036854775808 : Int64))
        refine Run.iconst (-1 : Int32) d5_64 (by decide) (pc' := 65) rfl ?_
        exact Run.ireturn d5_65 rfl (by decide) (by decide) ⟨_, rfl, congrArg Value.int (by unfold own_ref; rw [if_neg hc21, if_neg hc31, if_pos hc61] <;> rfl), rfl⟩
    · -- pc 31 not taken: (own_high q3 q2) < (own_high q1 q4)
      refine Run.iconst (1 : Int32) d5_34 (by decide) (pc' := 35) rfl ?_
      exact Run.ireturn d5_35 rfl (by decide) (by decide) ⟨_, rfl, congrArg Value.int (by unfold own_ref; rw [if_neg hc21, if_pos hc31] <;> rfl), rfl⟩
  · -- pc 21 not taken: (own_high q1 q4) < (own_high q3 q2)
    refine Run.iconst (-1 : Int32) d5_24 (by decide) (pc' := 25) rfl ?_
    exact Run.ireturn d5_25 rfl (by decide) (by decide) ⟨_, rfl, congrArg Value.int (by unfold own_ref; rw [if_pos hc21] <;> rfl), rfl⟩
def own_sign (p1 : Int32) : Int32 := (if p1 < (0 : Int32) then (-1 : Int32) else (if (0 : Int32) < p1 then (1 : Int32) else (0 : Int32)))
theorem d11_0 : decode method_4_code 0 = .ok (.iload_n 0, 1) := by decide +kernel
theorem d11_1 : decode method_4_code 1 = .ok (.ifCond .ge 5, 3) := by decide +kernel
theorem d11_4 : decode method_4_code 4 = .ok (.iconst (-1), 1) := by decide +kernel
theorem d11_5 : decode method_4_code 5 = .ok (.ireturn, 1) := by decide +kernel
theorem d11_6 : decode method_4_code 6 = .ok (.iload_n 0, 1) := by decide +kernel
theorem d11_7 : decode method_4_code 7 = .ok (.ifCond .le 5, 3) := by decide +kernel
theorem d11_10 : decode method_4_code 10 = .ok (.iconst 1, 1) := by decide +kernel
theorem d11_11 : decode method_4_code 11 = .ok (.ireturn, 1) := by decide +kernel
theorem d11_12 : decode method_4_code 12 = .ok (.iconst 0, 1) := by decide +kernel
theorem d11_13 : decode method_4_code 13 = .ok (.ireturn, 1) := by decide +kernel
theorem pn_11 : plainFor (⟨"com/example/coarsen/coarsen/FractionCompareToPinLaw", "sign", "(I)I"⟩ : MethodName) = true := plainFor_of_name (by first | (simp [plainName, overriddenIn]; done) | decide +kernel)
theorem ef_con_own_sign (m : MethodId) (p1 : Int32) : entryFrame m #[(.int p1)] 1 = mkF m 0 #[.val (.int p1)] [] := by first | (simp [entryFrame, mkF, argsToLocals, Value.category]; done) | rfl
set_option maxRecDepth 65536 in
set_option maxHeartbeats 40000000 in
theorem con_own_sign (l : Launch) (Z : State) (a0 : Array Value) (hw : ∀ d ∈ tables_1, d.before a0 Z = true) (n0 : Nat) (h0 : Heap) (Z0 : n0 ≤ h0.size) (p1 : Int32)  :
    Con l Z n0 (⟨"com/example/coarsen/coarsen/FractionCompareToPinLaw", "sign", "(I)I"⟩ : MethodName) method_4_code 1 (some .int) ({ frames := 0, cells := 0, slots := 0, locals := 0 } : Room) #[(.int p1)] h0 (Val (PV (.int (own_sign p1)) h0)) := by
  refine Con.of_run pn_11 (fun m => ef_con_own_sign m p1) ?_
  refine Run.iloadN d11_0 rfl (pc' := 1) rfl ?_
  refine Run.if_ge d11_1 (by decide) (pc' := 6) (by decide) (pa := 4) rfl (fun hc1 => ?_) (fun hc1 => ?_)
  · -- pc 1 taken: ¬ p1 < (0 : Int32)
    refine Run.iloadN d11_6 rfl (pc' := 7) rfl ?_
    refine Run.if_le d11_7 (by decide) (pc' := 12) (by decide) (pa := 10) rfl (fun hc7 => ?_) (fun hc7 => ?_)
    · -- pc 7 taken: ¬ (0 : Int32) < p1
      refine Run.iconst (0 : Int32) d11_12 (by decide) (pc' := 13) rfl ?_
      exact Run.ireturn d11_13 rfl (by decide) (by decide) ⟨_, rfl, congrArg Value.int (by unfold own_sign; rw [if_neg hc1, if_neg hc7] <;> rfl), rfl⟩
    · -- pc 7 not taken: (0 : Int32) < p1
      refine Run.iconst (1 : Int32) d11_10 (by decide) (pc' := 11) rfl ?_
      exact Run.ireturn d11_11 rfl (by decide) (by decide) ⟨_, rfl, congrArg Value.int (by unfold own_sign; rw [if_neg hc1, if_pos hc7] <;> rfl), rfl⟩
  · -- pc 1 not taken: p1 < (0 : Int32)
    refine Run.iconst (-1 : Int32) d11_4 (by decide) (pc' := 5) rfl ?_
    exact Run.ireturn d11_5 rfl (by decide) (by decide) ⟨_, rfl, congrArg Value.int (by unfold own_sign; rw [if_pos hc1] <;> rfl), rfl⟩
def own_mh (q1 : Int64) (q2 : Int64) : Int64 := ((((q1 >>> ((32 : Int32).toInt64 &&& 63)) * (q2 >>> ((32 : Int32).toInt64 &&& 63))) + ((((q1 >>> ((32 : Int32).toInt64 &&& 63)) * (q2 &&& (4294967295 : Int64))) + (XT.ushrL ((q1 &&& (4294967295 : Int64)) * (q2 &&& (4294967295 : Int64))) (32 : Int32))) >>> ((32 : Int32).toInt64 &&& 63))) + ((((((q1 >>> ((32 : Int32).toInt64 &&& 63)) * (q2 &&& (4294967295 : Int64))) + (XT.ushrL ((q1 &&& (4294967295 : Int64)) * (q2 &&& (4294967295 : Int64))) (32 : Int32))) &&& (4294967295 : Int64)) + ((q1 &&& (4294967295 : Int64)) * (q2 >>> ((32 : Int32).toInt64 &&& 63)))) >>> ((32 : Int32).toInt64 &&& 63)))
theorem d8_0 : decode jdk_29_method_45_code 0 = .ok (.lload_n 0, 1) := by decide +kernel
theorem d8_1 : decode jdk_29_method_45_code 1 = .ok (.bipush 32, 2) := by decide +kernel
theorem d8_3 : decode jdk_29_method_45_code 3 = .ok (.lshr, 1) := by decide +kernel
theorem d8_4 : decode jdk_29_method_45_code 4 = .ok (.lstore 4, 2) := by decide +kernel
theorem d8_6 : decode jdk_29_method_45_code 6 = .ok (.lload_n 0, 1) := by decide +kernel
theorem d8_7 : decode jdk_29_method_45_code 7 = .ok (.ldc2_w 138, 3) := by decide +kernel
theorem d8_10 : decode jdk_29_method_45_code 10 = .ok (.land, 1) := by decide +kernel
theorem d8_11 : decode jdk_29_method_45_code 11 = .ok (.lstore 6, 2) := by decide +kernel
theorem d8_13 : decode jdk_29_method_45_code 13 = .ok (.lload_n 2, 1) := by decide +kernel
theorem d8_14 : decode jdk_29_method_45_code 14 = .ok (.bipush 32, 2) := by decide +kernel
theorem d8_16 : decode jdk_29_method_45_code 16 = .ok (.lshr, 1) := by decide +kernel
theorem d8_17 : decode jdk_29_method_45_code 17 = .ok (.lstore 8, 2) := by decide +kernel
theorem d8_19 : decode jdk_29_method_45_code 19 = .ok (.lload_n 2, 1) := by decide +kernel
theorem d8_20 : decode jdk_29_method_45_code 20 = .ok (.ldc2_w 138, 3) := by decide +kernel
theorem d8_23 : decode jdk_29_method_45_code 23 = .ok (.land, 1) := by decide +kernel
theorem d8_24 : decode jdk_29_method_45_code 24 = .ok (.lstore 10, 2) := by decide +kernel
theorem d8_26 : decode jdk_29_method_45_code 26 = .ok (.lload 6, 2) := by decide +kernel
theorem d8_28 : decode jdk_29_method_45_code 28 = .ok (.lload 10, 2) := by decide +kernel
theorem d8_30 : decode jdk_29_method_45_code 30 = .ok (.lmul, 1) := by decide +kernel
theorem d8_31 : decode jdk_29_method_45_code 31 = .ok (.lstore 12, 2) := by decide +kernel
theorem d8_33 : decode jdk_29_method_45_code 33 = .ok (.lload 4, 2) := by decide +kernel
theorem d8_35 : decode jdk_29_method_45_code 35 = .ok (.lload 10, 2) := by decide +kernel
theorem d8_37 : decode jdk_29_method_45_code 37 = .ok (.lmul, 1) := by decide +kernel
theorem d8_38 : decode jdk_29_method_45_code 38 = .ok (.lload 12, 2) := by decide +kernel
theorem d8_40 : decode jdk_29_method_45_code 40 = .ok (.bipush 32, 2) := by decide +kernel
theorem d8_42 : decode jdk_29_method_45_code 42 = .ok (.lushr, 1) := by decide +kernel
theorem d8_43 : decode jdk_29_method_45_code 43 = .ok (.ladd, 1) := by decide +kernel
theorem d8_44 : decode jdk_29_method_45_code 44 = .ok (.lstore 14, 2) := by decide +kernel
theorem d8_46 : decode jdk_29_method_45_code 46 = .ok (.lload 14, 2) := by decide +kernel
theorem d8_48 : decode jdk_29_method_45_code 48 = .ok (.ldc2_w 138, 3) := by decide +kernel
theorem d8_51 : decode jdk_29_method_45_code 51 = .ok (.land, 1) := by decide +kernel
theorem d8_52 : decode jdk_29_method_45_code 52 = .ok (.lstore 16, 2) := by decide +kernel
theorem d8_54 : decode jdk_29_method_45_code 54 = .ok (.lload 14, 2) := by decide +kernel
theorem d8_56 : decode jdk_29_method_45_code 56 = .ok (.bipush 32, 2) := by decide +kernel
theorem d8_58 : decode jdk_29_method_45_code 58 = .ok (.lshr, 1) := by decide +kernel
theorem d8_59 : decode jdk_29_method_45_code 59 = .ok (.lstore 18, 2) := by decide +kernel
theorem d8_61 : decode jdk_29_method_45_code 61 = .ok (.lload 16, 2) := by decide +kernel
theorem d8_63 : decode jdk_29_method_45_code 63 = .ok (.lload 6, 2) := by decide +kernel
theorem d8_65 : decode jdk_29_method_45_code 65 = .ok (.lload 8, 2) := by decide +kernel
theorem d8_67 : decode jdk_29_method_45_code 67 = .ok (.lmul, 1) := by decide +kernel
theorem d8_68 : decode jdk_29_method_45_code 68 = .ok (.ladd, 1) := by decide +kernel
theorem d8_69 : decode jdk_29_method_45_code 69 = .ok (.lstore 16, 2) := by decide +kernel
theorem d8_71 : decode jdk_29_method_45_code 71 = .ok (.lload 4, 2) := by decide +kernel
theorem d8_73 : decode jdk_29_method_45_code 73 = .ok (.lload 8, 2) := by decide +kernel
theorem d8_75 : decode jdk_29_method_45_code 75 = .ok (.lmul, 1) := by decide +kernel
theorem d8_76 : decode jdk_29_method_45_code 76 = .ok (.lload 18, 2) := by decide +kernel
theorem d8_78 : decode jdk_29_method_45_code 78 = .ok (.ladd, 1) := by decide +kernel
theorem d8_79 : decode jdk_29_method_45_code 79 = .ok (.lload 16, 2) := by decide +kernel
theorem d8_81 : decode jdk_29_method_45_code 81 = .ok (.bipush 32, 2) := by decide +kernel
theorem d8_83 : decode jdk_29_method_45_code 83 = .ok (.lshr, 1) := by decide +kernel
theorem d8_84 : decode jdk_29_method_45_code 84 = .ok (.ladd, 1) := by decide +kernel
theorem d8_85 : decode jdk_29_method_45_code 85 = .ok (.lreturn, 1) := by decide +kernel
theorem pn_8 : plainFor (⟨"java/lang/Math", "multiplyHigh", "(JJ)J"⟩ : MethodName) = true := by decide +kernel
theorem ef_con_own_mh (m : MethodId) (q1 : Int64) (q2 : Int64) : entryFrame m #[(.long q1), (.long q2)] 20 = mkF m 0 #[.val (.long q1), .second, .val (.long q2), .second, .unset, .unset, .unset, .unset, .unset, .unset, .unset, .unset, .unset, .unset, .unset, .unset, .unset, .unset, .unset, .unset] [] := by first | (simp [entryFrame, mkF, argsToLocals, Value.category]; done) | rfl
set_option maxRecDepth 65536 in
set_option maxHeartbeats 40000000 in
theorem con_own_mh (l : Launch) (Z : State) (a0 : Array Value) (hw : ∀ d ∈ tables_1, d.before a0 Z = true) (n0 : Nat) (h0 : Heap) (Z0 : n0 ≤ h0.size) (q1 : Int64) (q2 : Int64)  :
    Con l Z n0 (⟨"java/lang/Math", "multiplyHigh", "(JJ)J"⟩ : MethodName) jdk_29_method_45_code 20 (some .long) ({ frames := 0, cells := 0, slots := 0, locals := 0 } : Room) #[(.long q1), (.long q2)] h0 (Val (PV (.long (own_mh q1 q2)) h0)) := by
  refine Con.of_run pn_8 (fun m => ef_con_own_mh m q1 q2) ?_
  refine Run.lloadN d8_0 rfl (pc' := 1) rfl ?_
  refine Run.bipush (32 : Int32) d8_1 (by decide) (pc' := 3) rfl ?_
  refine Run.lshr d8_3 (pc' := 4) rfl ?_
  refine Run.lstore (l' := #[.val (.long q1), .second, .val (.long q2), .second, .val (.long (q1 >>> ((32 : Int32).toInt64 &&& 63))), .second, .unset, .unset, .unset, .unset, .unset, .unset, .unset, .unset, .unset, .unset, .unset, .unset, .unset, .unset]) d8_4 rfl (pc' := 6) rfl ?_
  refine Run.lloadN d8_6 rfl (pc' := 7) rfl ?_
  refine Run.ldc2J (v := (4294967295 : Int64)) d8_7 (hw _ (List.mem_of_getElem? (i := 40) rfl)) (pc' := 10) rfl ?_
  refine Run.land d8_10 (pc' := 11) rfl ?_
  refine Run.lstore (l' := #[.val (.long q1), .second, .val (.long q2), .second, .val (.long (q1 >>> ((32 : Int32).toInt64 &&& 63))), .second, .val (.long (q1 &&& (4294967295 : Int64))), .second, .unset, .unset, .unset, .unset, .unset, .unset, .unset, .unset, .unset, .unset, .unset, .unset]) d8_11 rfl (pc' := 13) rfl ?_
  refine Run.lloadN d8_13 rfl (pc' := 14) rfl ?_
  refine Run.bipush (32 : Int32) d8_14 (by decide) (pc' := 16) rfl ?_
  refine Run.lshr d8_16 (pc' := 17) rfl ?_
  refine Run.lstore (l' := #[.val (.long q1), .second, .val (.long q2), .second, .val (.long (q1 >>> ((32 : Int32).toInt64 &&& 63))), .second, .val (.long (q1 &&& (4294967295 : Int64))), .second, .val (.long (q2 >>> ((32 : Int32).toInt64 &&& 63))), .second, .unset, .unset, .unset, .unset, .unset, .unset, .unset, .unset, .unset, .unset]) d8_17 rfl (pc' := 19) rfl ?_
  refine Run.lloadN d8_19 rfl (pc' := 20) rfl ?_
  refine Run.ldc2J (v := (4294967295 : Int64)) d8_20 (hw _ (List.mem_of_getElem? (i := 40) rfl)) (pc' := 23) rfl ?_
  refine Run.land d8_23 (pc' := 24) rfl ?_
  refine Run.lstore (l' := #[.val (.long q1), .second, .val (.long q2), .second, .val (.long (q1 >>> ((32 : Int32).toInt64 &&& 63))), .second, .val (.long (q1 &&& (4294967295 : Int64))), .second, .val (.long (q2 >>> ((32 : Int32).toInt64 &&& 63))), .second, .val (.long (q2 &&& (4294967295 : Int64))), .second, .unset, .unset, .unset, .unset, .unset, .unset, .unset, .unset]) d8_24 rfl (pc' := 26) rfl ?_
  refine Run.lload d8_26 rfl (pc' := 28) rfl ?_
  refine Run.lload d8_28 rfl (pc' := 30) rfl ?_
  refine Run.lmul d8_30 (pc' := 31) rfl ?_
  refine Run.lstore (l' := #[.val (.long q1), .second, .val (.long q2), .second, .val (.long (q1 >>> ((32 : Int32).toInt64 &&& 63))), .second, .val (.long (q1 &&& (4294967295 : Int64))), .second, .val (.long (q2 >>> ((32 : Int32).toInt64 &&& 63))), .second, .val (.long (q2 &&& (4294967295 : Int64))), .second, .val (.long ((q1 &&& (4294967295 : Int64)) * (q2 &&& (4294967295 : Int64)))), .second, .unset, .unset, .unset, .unset, .unset, .unset]) d8_31 rfl (pc' := 33) rfl ?_
  refine Run.lload d8_33 rfl (pc' := 35) rfl ?_
  refine Run.lload d8_35 rfl (pc' := 37) rfl ?_
  refine Run.lmul d8_37 (pc' := 38) rfl ?_
  refine Run.lload d8_38 rfl (pc' := 40) rfl ?_
  refine Run.bipush (32 : Int32) d8_40 (by decide) (pc' := 42) rfl ?_
  refine Run.lushr d8_42 (pc' := 43) rfl ?_
  refine Run.ladd d8_43 (pc' := 44) rfl ?_
  refine Run.lstore (l' := #[.val (.long q1), .second, .val (.long q2), .second, .val (.long (q1 >>> ((32 : Int32).toInt64 &&& 63))), .second, .val (.long (q1 &&& (4294967295 : Int64))), .second, .val (.long (q2 >>> ((32 : Int32).toInt64 &&& 63))), .second, .val (.long (q2 &&& (4294967295 : Int64))), .second, .val (.long ((q1 &&& (4294967295 : Int64)) * (q2 &&& (4294967295 : Int64)))), .second, .val (.long (((q1 >>> ((32 : Int32).toInt64 &&& 63)) * (q2 &&& (4294967295 : Int64))) + (XT.ushrL ((q1 &&& (4294967295 : Int64)) * (q2 &&& (4294967295 : Int64))) (32 : Int32)))), .second, .unset, .unset, .unset, .unset]) d8_44 rfl (pc' := 46) rfl ?_
  refine Run.lload d8_46 rfl (pc' := 48) rfl ?_
  refine Run.ldc2J (v := (4294967295 : Int64)) d8_48 (hw _ (List.mem_of_getElem? (i := 40) rfl)) (pc' := 51) rfl ?_
  refine Run.land d8_51 (pc' := 52) rfl ?_
  refine Run.lstore (l' := #[.val (.long q1), .second, .val (.long q2), .second, .val (.long (q1 >>> ((32 : Int32).toInt64 &&& 63))), .second, .val (.long (q1 &&& (4294967295 : Int64))), .second, .val (.long (q2 >>> ((32 : Int32).toInt64 &&& 63))), .second, .val (.long (q2 &&& (4294967295 : Int64))), .second, .val (.long ((q1 &&& (4294967295 : Int64)) * (q2 &&& (4294967295 : Int64)))), .second, .val (.long (((q1 >>> ((32 : Int32).toInt64 &&& 63)) * (q2 &&& (4294967295 : Int64))) + (XT.ushrL ((q1 &&& (4294967295 : Int64)) * (q2 &&& (4294967295 : Int64))) (32 : Int32)))), .second, .val (.long ((((q1 >>> ((32 : Int32).toInt64 &&& 63)) * (q2 &&& (4294967295 : Int64))) + (XT.ushrL ((q1 &&& (4294967295 : Int64)) * (q2 &&& (4294967295 : Int64))) (32 : Int32))) &&& (4294967295 : Int64))), .second, .unset, .unset]) d8_52 rfl (pc' := 54) rfl ?_
  refine Run.lload d8_54 rfl (pc' := 56) rfl ?_
  refine Run.bipush (32 : Int32) d8_56 (by decide) (pc' := 58) rfl ?_
  refine Run.lshr d8_58 (pc' := 59) rfl ?_
  refine Run.lstore (l' := #[.val (.long q1), .second, .val (.long q2), .second, .val (.long (q1 >>> ((32 : Int32).toInt64 &&& 63))), .second, .val (.long (q1 &&& (4294967295 : Int64))), .second, .val (.long (q2 >>> ((32 : Int32).toInt64 &&& 63))), .second, .val (.long (q2 &&& (4294967295 : Int64))), .second, .val (.long ((q1 &&& (4294967295 : Int64)) * (q2 &&& (4294967295 : Int64)))), .second, .val (.long (((q1 >>> ((32 : Int32).toInt64 &&& 63)) * (q2 &&& (4294967295 : Int64))) + (XT.ushrL ((q1 &&& (4294967295 : Int64)) * (q2 &&& (4294967295 : Int64))) (32 : Int32)))), .second, .val (.long ((((q1 >>> ((32 : Int32).toInt64 &&& 63)) * (q2 &&& (4294967295 : Int64))) + (XT.ushrL ((q1 &&& (4294967295 : Int64)) * (q2 &&& (4294967295 : Int64))) (32 : Int32))) &&& (4294967295 : Int64))), .second, .val (.long ((((q1 >>> ((32 : Int32).toInt64 &&& 63)) * (q2 &&& (4294967295 : Int64))) + (XT.ushrL ((q1 &&& (4294967295 : Int64)) * (q2 &&& (4294967295 : Int64))) (32 : Int32))) >>> ((32 : Int32).toInt64 &&& 63))), .second]) d8_59 rfl (pc' := 61) rfl ?_
  refine Run.lload d8_61 rfl (pc' := 63) rfl ?_
  refine Run.lload d8_63 rfl (pc' := 65) rfl ?_
  refine Run.lload d8_65 rfl (pc' := 67) rfl ?_
  refine Run.lmul d8_67 (pc' := 68) rfl ?_
  refine Run.ladd d8_68 (pc' := 69) rfl ?_
  refine Run.lstore (l' := #[.val (.long q1), .second, .val (.long q2), .second, .val (.long (q1 >>> ((32 : Int32).toInt64 &&& 63))), .second, .val (.long (q1 &&& (4294967295 : Int64))), .second, .val (.long (q2 >>> ((32 : Int32).toInt64 &&& 63))), .second, .val (.long (q2 &&& (4294967295 : Int64))), .second, .val (.long ((q1 &&& (4294967295 : Int64)) * (q2 &&& (4294967295 : Int64)))), .second, .val (.long (((q1 >>> ((32 : Int32).toInt64 &&& 63)) * (q2 &&& (4294967295 : Int64))) + (XT.ushrL ((q1 &&& (4294967295 : Int64)) * (q2 &&& (4294967295 : Int64))) (32 : Int32)))), .second, .val (.long (((((q1 >>> ((32 : Int32).toInt64 &&& 63)) * (q2 &&& (4294967295 : Int64))) + (XT.ushrL ((q1 &&& (4294967295 : Int64)) * (q2 &&& (4294967295 : Int64))) (32 : Int32))) &&& (4294967295 : Int64)) + ((q1 &&& (4294967295 : Int64)) * (q2 >>> ((32 : Int32).toInt64 &&& 63))))), .second, .val (.long ((((q1 >>> ((32 : Int32).toInt64 &&& 63)) * (q2 &&& (4294967295 : Int64))) + (XT.ushrL ((q1 &&& (4294967295 : Int64)) * (q2 &&& (4294967295 : Int64))) (32 : Int32))) >>> ((32 : Int32).toInt64 &&& 63))), .second]) d8_69 rfl (pc' := 71) rfl ?_
  refine Run.lload d8_71 rfl (pc' := 73) rfl ?_
  refine Run.lload d8_73 rfl (pc' := 75) rfl ?_
  refine Run.lmul d8_75 (pc' := 76) rfl ?_
  refine Run.lload d8_76 rfl (pc' := 78) rfl ?_
  refine Run.ladd d8_78 (pc' := 79) rfl ?_
  refine Run.lload d8_79 rfl (pc' := 81) rfl ?_
  refine Run.bipush (32 : Int32) d8_81 (by decide) (pc' := 83) rfl ?_
  refine Run.lshr d8_83 (pc' := 84) rfl ?_
  refine Run.ladd d8_84 (pc' := 85) rfl ?_
  exact Run.lreturn d8_85 rfl (by decide) (by decide) ⟨_, rfl, rfl, rfl⟩
def own_lc (q1 : Int64) (q2 : Int64) : Int32 := (if q1 < q2 then (-1 : Int32) else (if q1 = q2 then (0 : Int32) else (1 : Int32)))
theorem d9_0 : decode jdk_35_method_42_code 0 = .ok (.lload_n 0, 1) := by decide +kernel
theorem d9_1 : decode jdk_35_method_42_code 1 = .ok (.lload_n 2, 1) := by decide +kernel
theorem d9_2 : decode jdk_35_method_42_code 2 = .ok (.lcmp, 1) := by decide +kernel
theorem d9_3 : decode jdk_35_method_42_code 3 = .ok (.ifCond .ge 7, 3) := by decide +kernel
theorem d9_6 : decode jdk_35_method_42_code 6 = .ok (.iconst (-1), 1) := by decide +kernel
theorem d9_7 : decode jdk_35_method_42_code 7 = .ok (.goto 14, 3) := by decide +kernel
theorem d9_10 : decode jdk_35_method_42_code 10 = .ok (.lload_n 0, 1) := by decide +kernel
theorem d9_11 : decode jdk_35_method_42_code 11 = .ok (.lload_n 2, 1) := by decide +kernel
theorem d9_12 : decode jdk_35_method_42_code 12 = .ok (.lcmp, 1) := by decide +kernel
theorem d9_13 : decode jdk_35_method_42_code 13 = .ok (.ifCond .ne 7, 3) := by decide +kernel
theorem d9_16 : decode jdk_35_method_42_code 16 = .ok (.iconst 0, 1) := by decide +kernel
theorem d9_17 : decode jdk_35_method_42_code 17 = .ok (.goto 4, 3) := by decide +kernel
theorem d9_20 : decode jdk_35_method_42_code 20 = .ok (.iconst 1, 1) := by decide +kernel
theorem d9_21 : decode jdk_35_method_42_code 21 = .ok (.ireturn, 1) := by decide +kernel
theorem pn_9 : plainFor (⟨"java/lang/Long", "compare", "(JJ)I"⟩ : MethodName) = true := plainFor_of_name (by first | (simp [plainName, overriddenIn]; done) | decide +kernel)
theorem ef_con_own_lc (m : MethodId) (q1 : Int64) (q2 : Int64) : entryFrame m #[(.long q1), (.long q2)] 4 = mkF m 0 #[.val (.long q1), .second, .val (.long q2), .second] [] := by first | (simp [entryFrame, mkF, argsToLocals, Value.category]; done) | rfl
set_option maxRecDepth 65536 in
set_option maxHeartbeats 40000000 in
theorem con_own_lc (l : Launch) (Z : State) (a0 : Array Value) (hw : ∀ d ∈ tables_1, d.before a0 Z = true) (n0 : Nat) (h0 : Heap) (Z0 : n0 ≤ h0.size) (q1 : Int64) (q2 : Int64)  :
    Con l Z n0 (⟨"java/lang/Long", "compare", "(JJ)I"⟩ : MethodName) jdk_35_method_42_code 4 (some .int) ({ frames := 0, cells := 0, slots := 0, locals := 0 } : Room) #[(.long q1), (.long q2)] h0 (Val (PV (.int (own_lc q1 q2)) h0)) := by
  refine Con.of_run pn_9 (fun m => ef_con_own_lc m q1 q2) ?_
  refine Run.lloadN d9_0 rfl (pc' := 1) rfl ?_
  refine Run.lloadN d9_1 rfl (pc' := 2) rfl ?_
  refine Run.lcmp d9_2 (pc' := 3) rfl ?_
  refine Run.lif_ge d9_3 (by decide) (pc' := 10) (by decide) (pa := 6) rfl (fun hc3 => ?_) (fun hc3 => ?_)
  · -- pc 3 taken: ¬ q1 < q2
    refine Run.lloadN d9_10 rfl (pc' := 11) rfl ?_
    refine Run.lloadN d9_11 rfl (pc' := 12) rfl ?_
    refine Run.lcmp d9_12 (pc' := 13) rfl ?_
    refine Run.lif_ne d9_13 (by decide) (pc' := 20) (by decide) (pa := 16) rfl (fun hc13 => ?_) (fun hc13 => ?_)
    · -- pc 13 taken: ¬ q1 = q2
      refine Run.iconst (1 : Int32) d9_20 (by decide) (pc' := 21) rfl ?_
      exact Run.ireturn d9_21 rfl (by decide) (by decide) ⟨_, rfl, congrArg Value.int (by unfold own_lc; rw [if_neg hc3, if_neg hc13] <;> rfl), rfl⟩
    · -- pc 13 not taken: q1 = q2
      refine Run.iconst (0 : Int32) d9_16 (by decide) (pc' := 17) rfl ?_
      refine Run.goto d9_17 (by decide) (pc' := 21) (by decide) ?_
      exact Run.ireturn d9_21 rfl (by decide) (by decide) ⟨_, rfl, congrArg Value.int (by unfold own_lc; rw [if_neg hc3, if_pos hc13] <;> rfl), rfl⟩
  · -- pc 3 not taken: q1 < q2
    refine Run.iconst (-1 : Int32) d9_6 (by decide) (pc' := 7) rfl ?_
    refine Run.goto d9_7 (by decide) (pc' := 21) (by decide) ?_
    exact Run.ireturn d9_21 rfl (by decide) (by decide) ⟨_, rfl, congrArg Value.int (by unfold own_lc; rw [if_pos hc3] <;> rfl), rfl⟩
def own_lcu (q1 : Int64) (q2 : Int64) : Int32 := (own_lc (q1 + (-9223372036854775808 : Int64)) (q2 + (-9223372036854775808 : Int64)))
theorem d10_0 : decode jdk_35_method_43_code 0 = .ok (.lload_n 0, 1) := by decide +kernel
theorem d10_1 : decode jdk_35_method_43_code 1 = .ok (.ldc2_w 168, 3) := by decide +kernel
theorem d10_4 : decode jdk_35_method_43_code 4 = .ok (.ladd, 1) := by decide +kernel
theorem d10_5 : decode jdk_35_method_43_code 5 = .ok (.lload_n 2, 1) := by decide +kernel
theorem d10_6 : decode jdk_35_method_43_code 6 = .ok (.ldc2_w 168, 3) := by decide +kernel
theorem d10_9 : decode jdk_35_method_43_code 9 = .ok (.ladd, 1) := by decide +kernel
theorem d10_10 : decode jdk_35_method_43_code 10 = .ok (.invokestatic 302, 3) := by decide +kernel
theorem d10_13 : decode jdk_35_method_43_code 13 = .ok (.ireturn, 1) := by decide +kernel
theorem pn_10 : plainFor (⟨"java/lang/Long", "compareUnsigned", "(JJ)I"⟩ : MethodName) = true := plainFor_of_name (by first | (simp [plainName, overriddenIn]; done) | decide +kernel)
theorem pd__JJ_I : parseMethodDescriptor "(JJ)I" = some ⟨[.long, .long], some .int⟩ := by decide +kernel
theorem ef_con_own_lcu (m : MethodId) (q1 : Int64) (q2 : Int64) : entryFrame m #[(.long q1), (.long q2)] 4 = mkF m 0 #[.val (.long q1), .second, .val (.long q2), .second] [] := by first | (simp [entryFrame, mkF, argsToLocals, Value.category]; done) | rfl
set_option maxRecDepth 65536 in
set_option maxHeartbeats 40000000 in
theorem con_own_lcu (l : Launch) (Z : State) (a0 : Array Value) (hw : ∀ d ∈ tables_1, d.before a0 Z = true) (n0 : Nat) (h0 : Heap) (Z0 : n0 ≤ h0.size) (q1 : Int64) (q2 : Int64)  :
    Con l Z n0 (⟨"java/lang/Long", "compareUnsigned", "(JJ)I"⟩ : MethodName) jdk_35_method_43_code 4 (some .int) ({ frames := 1, cells := 0, slots := 0, locals := 15 } : Room) #[(.long q1), (.long q2)] h0 (Val (PV (.int (own_lcu q1 q2)) h0)) := by
  refine Con.of_run pn_10 (fun m => ef_con_own_lcu m q1 q2) ?_
  refine Run.lloadN d10_0 rfl (pc' := 1) rfl ?_
  refine Run.ldc2J (v := (-9223372036854775808 : Int64)) d10_1 (hw _ (List.mem_of_getElem? (i := 48) rfl)) (pc' := 4) rfl ?_
  refine Run.ladd d10_4 (pc' := 5) rfl ?_
  refine Run.lloadN d10_5 rfl (pc' := 6) rfl ?_
  refine Run.ldc2J (v := (-9223372036854775808 : Int64)) d10_6 (hw _ (List.mem_of_getElem? (i := 48) rfl)) (pc' := 9) rfl ?_
  refine Run.ladd d10_9 (pc' := 10) rfl ?_
  refine Run.callS (k' := 0) (n' := 0) (as := [(.long (q1 + (-9223372036854775808 : Int64))), (.long (q2 + (-9223372036854775808 : Int64)))]) (rest := []) (con_own_lc l Z a0 hw n0 h0 Z0 (q1 + (-9223372036854775808 : Int64)) (q2 + (-9223372036854775808 : Int64)) ) d10_10 (hw _ (List.mem_of_getElem? (i := 49) rfl)) (hw _ (List.mem_of_getElem? (i := 42) rfl)) (hw _ (List.mem_of_getElem? (i := 43) rfl)) (hw _ (List.mem_of_getElem? (i := 44) rfl)) (by decide) pd__JJ_I rfl rfl rfl (by decide) (by show (0 : Nat) + (4 + 11) + 0 ≤ _; decide) (by decide) (by decide) (by decide) (by decide) (pc' := 13) rfl ?_
  rintro _ _ ⟨_, rfl, rfl, rfl⟩
  show Run l Z n0 "java/lang/Long" jdk_35_method_43_code 4 (some .int) "compareUnsigned" ({ frames := 1, cells := 0, slots := 0, locals := 15 } : Room) _ 13 #[.val (.long q1), .second, .val (.long q2), .second] [(.int (own_lc (q1 + (-9223372036854775808 : Int64)) (q2 + (-9223372036854775808 : Int64))))] h0 0 0
  exact Run.ireturn d10_13 rfl (by decide) (by decide) ⟨_, rfl, rfl, rfl⟩
def own_cmp (u1 : Int64) (u2 : Int64) (v1 : Int64) (v2 : Int64) : Int32 := (if (own_lc (own_mh u1 v2) (own_mh v1 u2)) = (0 : Int32) then (own_lcu (u1 * v2) (v1 * u2)) else (own_lc (own_mh u1 v2) (own_mh v1 u2)))
theorem d7_0 : decode prog_3_method_3_code 0 = .ok (.aload_n 0, 1) := by decide +kernel
theorem d7_1 : decode prog_3_method_3_code 1 = .ok (.getfield 16, 3) := by decide +kernel
theorem d7_4 : decode prog_3_method_3_code 4 = .ok (.aload_n 1, 1) := by decide +kernel
theorem d7_5 : decode prog_3_method_3_code 5 = .ok (.getfield 22, 3) := by decide +kernel
theorem d7_8 : decode prog_3_method_3_code 8 = .ok (.invokestatic 66, 3) := by decide +kernel
theorem d7_11 : decode prog_3_method_3_code 11 = .ok (.lstore_n 2, 1) := by decide +kernel
theorem d7_12 : decode prog_3_method_3_code 12 = .ok (.aload_n 1, 1) := by decide +kernel
theorem d7_13 : decode prog_3_method_3_code 13 = .ok (.getfield 16, 3) := by decide +kernel
theorem d7_16 : decode prog_3_method_3_code 16 = .ok (.aload_n 0, 1) := by decide +kernel
theorem d7_17 : decode prog_3_method_3_code 17 = .ok (.getfield 22, 3) := by decide +kernel
theorem d7_20 : decode prog_3_method_3_code 20 = .ok (.invokestatic 66, 3) := by decide +kernel
theorem d7_23 : decode prog_3_method_3_code 23 = .ok (.lstore 4, 2) := by decide +kernel
theorem d7_25 : decode prog_3_method_3_code 25 = .ok (.lload_n 2, 1) := by decide +kernel
theorem d7_26 : decode prog_3_method_3_code 26 = .ok (.lload 4, 2) := by decide +kernel
theorem d7_28 : decode prog_3_method_3_code 28 = .ok (.invokestatic 70, 3) := by decide +kernel
theorem d7_31 : decode prog_3_method_3_code 31 = .ok (.istore 6, 2) := by decide +kernel
theorem d7_33 : decode prog_3_method_3_code 33 = .ok (.iload 6, 2) := by decide +kernel
theorem d7_35 : decode prog_3_method_3_code 35 = .ok (.ifCond .ne 26, 3) := by decide +kernel
theorem d7_38 : decode prog_3_method_3_code 38 = .ok (.aload_n 0, 1) := by decide +kernel
theorem d7_39 : decode prog_3_method_3_code 39 = .ok (.getfield 16, 3) := by decide +kernel
theorem d7_42 : decode prog_3_method_3_code 42 = .ok (.aload_n 1, 1) := by decide +kernel
theorem d7_43 : decode prog_3_method_3_code 43 = .ok (.getfield 22, 3) := by decide +kernel
theorem d7_46 : decode prog_3_method_3_code 46 = .ok (.lmul, 1) := by decide +kernel
theorem d7_47 : decode prog_3_method_3_code 47 = .ok (.aload_n 1, 1) := by decide +kernel
theorem d7_48 : decode prog_3_method_3_code 48 = .ok (.getfield 16, 3) := by decide +kernel
theorem d7_51 : decode prog_3_method_3_code 51 = .ok (.aload_n 0, 1) := by decide +kernel
theorem d7_52 : decode prog_3_method_3_code 52 = .ok (.getfield 22, 3) := by decide +kernel
theorem d7_55 : decode prog_3_method_3_code 55 = .ok (.lmul, 1) := by decide +kernel
theorem d7_56 : decode prog_3_method_3_code 56 = .ok (.invokestatic 76, 3) := by decide +kernel
theorem d7_59 : decode prog_3_method_3_code 59 = .ok (.istore 6, 2) := by decide +kernel
theorem d7_61 : decode prog_3_method_3_code 61 = .ok (.iload 6, 2) := by decide +kernel
theorem d7_63 : decode prog_3_method_3_code 63 = .ok (.ireturn, 1) := by decide +kernel
theorem pn_7 : plainFor (⟨"com/example/coarsen/coarsen/Fraction", "compareTo", "(Lcom/example/coarsen/coarsen/Fraction;)I"⟩ : MethodName) = true := plainFor_of_name (by first | (simp [plainName, overriddenIn]; done) | decide +kernel)
theorem ef_con_own_cmp (m : MethodId) (a1 : Addr) (a2 : Addr) (u1 : Int64) (u2 : Int64) (v1 : Int64) (v2 : Int64) : entryFrame m #[(.ref a1), (.ref a2)] 7 = mkF m 0 #[.val (.ref a1), .val (.ref a2), .unset, .unset, .unset, .unset, .unset] [] := by first | (simp [entryFrame, mkF, argsToLocals, Value.category]; done) | rfl
set_option maxRecDepth 65536 in
set_option maxHeartbeats 40000000 in
theorem con_own_cmp (l : Launch) (Z : State) (a0 : Array Value) (hw : ∀ d ∈ tables_1, d.before a0 Z = true) (n0 : Nat) (h0 : Heap) (Z0 : n0 ≤ h0.size) (a1 : Addr) (a2 : Addr) (u1 : Int64) (u2 : Int64) (v1 : Int64) (v2 : Int64) (Fn1 : Fld Z h0 a1 "com/example/coarsen/coarsen/Fraction" "numerator" "J" (.long u1)) (Fd1 : Fld Z h0 a1 "com/example/coarsen/coarsen/Fraction" "denominator" "J" (.long u2)) (Fn2 : Fld Z h0 a2 "com/example/coarsen/coarsen/Fraction" "numerator" "J" (.long v1)) (Fd2 : Fld Z h0 a2 "com/example/coarsen/coarsen/Fraction" "denominator" "J" (.long v2)) :
    Con l Z n0 (⟨"com/example/coarsen/coarsen/Fraction", "compareTo", "(Lcom/example/coarsen/coarsen/Fraction;)I"⟩ : MethodName) prog_3_method_3_code 7 (some .int) ({ frames := 2, cells := 0, slots := 0, locals := 31 } : Room) #[(.ref a1), (.ref a2)] h0 (Val (PV (.int (own_cmp u1 u2 v1 v2)) h0)) := by
  refine Con.of_run pn_7 (fun m => ef_con_own_cmp m a1 a2 u1 u2 v1 v2) ?_
  refine Run.aloadN d7_0 rfl rfl (pc' := 1) rfl ?_
  refine Run.getF d7_1 (host := "") (Or.inl (hw _ (List.mem_of_getElem? (i := 19) rfl))) Via.refl Fn1 (pc' := 4) rfl ?_
  refine Run.aloadN d7_4 rfl rfl (pc' := 5) rfl ?_
  refine Run.getF d7_5 (host := "") (Or.inl (hw _ (List.mem_of_getElem? (i := 21) rfl))) Via.refl Fd2 (pc' := 8) rfl ?_
  refine Run.callS (k' := 0) (n' := 0) (as := [(.long u1), (.long v2)]) (rest := []) (con_own_mh l Z a0 hw n0 h0 Z0 u1 v2 ) d7_8 (hw _ (List.mem_of_getElem? (i := 37) rfl)) (hw _ (List.mem_of_getElem? (i := 38) rfl)) (hw _ (List.mem_of_getElem? (i := 3) rfl)) (hw _ (List.mem_of_getElem? (i := 39) rfl)) (by decide) pd__JJ_J rfl rfl rfl (by decide) (by show (0 : Nat) + (20 + 11) + 0 ≤ _; decide) (by decide) (by decide) (by decide) (by decide) (pc' := 11) rfl ?_
  rintro _ _ ⟨_, rfl, rfl, rfl⟩
  show Run l Z n0 "com/example/coarsen/coarsen/Fraction" prog_3_method_3_code 7 (some .int) "compareTo" ({ frames := 2, cells := 0, slots := 0, locals := 31 } : Room) _ 11 #[.val (.ref a1), .val (.ref a2), .unset, .unset, .unset, .unset, .unset] [(.long (own_mh u1 v2))] h0 0 0
  refine Run.lstoreN (l' := #[.val (.ref a1), .val (.ref a2), .val (.long (own_mh u1 v2)), .second, .unset, .unset, .unset]) d7_11 rfl (pc' := 12) rfl ?_
  refine Run.aloadN d7_12 rfl rfl (pc' := 13) rfl ?_
  refine Run.getF d7_13 (host := "") (Or.inl (hw _ (List.mem_of_getElem? (i := 19) rfl))) Via.refl Fn2 (pc' := 16) rfl ?_
  refine Run.aloadN d7_16 rfl rfl (pc' := 17) rfl ?_
  refine Run.getF d7_17 (host := "") (Or.inl (hw _ (List.mem_of_getElem? (i := 21) rfl))) Via.refl Fd1 (pc' := 20) rfl ?_
  refine Run.callS (k' := 0) (n' := 0) (as := [(.long v1), (.long u2)]) (rest := []) (con_own_mh l Z a0 hw n0 h0 Z0 v1 u2 ) d7_20 (hw _ (List.mem_of_getElem? (i := 37) rfl)) (hw _ (List.mem_of_getElem? (i := 38) rfl)) (hw _ (List.mem_of_getElem? (i := 3) rfl)) (hw _ (List.mem_of_getElem? (i := 39) rfl)) (by decide) pd__JJ_J rfl rfl rfl (by decide) (by show (0 : Nat) + (20 + 11) + 0 ≤ _; decide) (by decide) (by decide) (by decide) (by decide) (pc' := 23) rfl ?_
  rintro _ _ ⟨_, rfl, rfl, rfl⟩
  show Run l Z n0 "com/example/coarsen/coarsen/Fraction" prog_3_method_3_code 7 (some .int) "compareTo" ({ frames := 2, cells := 0, slots := 0, locals := 31 } : Room) _ 23 #[.val (.ref a1), .val (.ref a2), .val (.long (own_mh u1 v2)), .second, .unset, .unset, .unset] [(.long (own_mh v1 u2))] h0 0 0
  refine Run.lstore (l' := #[.val (.ref a1), .val (.ref a2), .val (.long (own_mh u1 v2)), .second, .val (.long (own_mh v1 u2)), .second, .unset]) d7_23 rfl (pc' := 25) rfl ?_
  refine Run.lloadN d7_25 rfl (pc' := 26) rfl ?_
  refine Run.lload d7_26 rfl (pc' := 28) rfl ?_
  refine Run.callS (k' := 0) (n' := 0) (as := [(.long (own_mh u1 v2)), (.long (own_mh v1 u2))]) (rest := []) (con_own_lc l Z a0 hw n0 h0 Z0 (own_mh u1 v2) (own_mh v1 u2) ) d7_28 (hw _ (List.mem_of_getElem? (i := 41) rfl)) (hw _ (List.mem_of_getElem? (i := 42) rfl)) (hw _ (List.mem_of_getElem? (i := 43) rfl)) (hw _ (List.mem_of_getElem? (i := 44) rfl)) (by decide) pd__JJ_I rfl rfl rfl (by decide) (by show (0 : Nat) + (4 + 11) + 0 ≤ _; decide) (by decide) (by decide) (by decide) (by decide) (pc' := 31) rfl ?_
  rintro _ _ ⟨_, rfl, rfl, rfl⟩
  show Run l Z n0 "com/example/coarsen/coarsen/Fraction" prog_3_method_3_code 7 (some .int) "compareTo" ({ frames := 2, cells := 0, slots := 0, locals := 31 } : Room) _ 31 #[.val (.ref a1), .val (.ref a2), .val (.long (own_mh u1 v2)), .second, .val (.long (own_mh v1 u2)), .second, .unset] [(.int (own_lc (own_mh u1 v2) (own_mh v1 u2)))] h0 0 0
  refine Run.istore (l' := #[.val (.ref a1), .val (.ref a2), .val (.long (own_mh u1 v2)), .second, .val (.long (own_mh v1 u2)), .second, .val (.int (own_lc (own_mh u1 v2) (own_mh v1 u2)))]) d7_31 rfl (pc' := 33) rfl ?_
  refine Run.iload d7_33 rfl (pc' := 35) rfl ?_
  refine Run.if_ne d7_35 (by decide) (pc' := 61) (by decide) (pa := 38) rfl (fun hc35 => ?_) (fun hc35 => ?_)
  · -- pc 35 taken: ¬ (own_lc (own_mh u1 v2) (own_mh v1 u2)) = (0 : Int32)
    refine Run.iload d7_61 rfl (pc' := 63) rfl ?_
    exact Run.ireturn d7_63 rfl (by decide) (by decide) ⟨_, rfl, congrArg Value.int (by unfold own_cmp; rw [if_neg hc35] <;> rfl), rfl⟩
  · -- pc 35 not taken: (own_lc (own_mh u1 v2) (own_mh v1 u2)) = (0 : Int32)
    refine Run.aloadN d7_38 rfl rfl (pc' := 39) rfl ?_
    refine Run.getF d7_39 (host := "") (Or.inl (hw _ (List.mem_of_getElem? (i := 19) rfl))) Via.refl Fn1 (pc' := 42) rfl ?_
    refine Run.aloadN d7_42 rfl rfl (pc' := 43) rfl ?_
    refine Run.getF d7_43 (host := "") (Or.inl (hw _ (List.mem_of_getElem? (i := 21) rfl))) Via.refl Fd2 (pc' := 46) rfl ?_
    refine Run.lmul d7_46 (pc' := 47) rfl ?_
    refine Run.aloadN d7_47 rfl rfl (pc' := 48) rfl ?_
    refine Run.getF d7_48 (host := "") (Or.inl (hw _ (List.mem_of_getElem? (i := 19) rfl))) Via.refl Fn2 (pc' := 51) rfl ?_
    refine Run.aloadN d7_51 rfl rfl (pc' := 52) rfl ?_
    refine Run.getF d7_52 (host := "") (Or.inl (hw _ (List.mem_of_getElem? (i := 21) rfl))) Via.refl Fd1 (pc' := 55) rfl ?_
    refine Run.lmul d7_55 (pc' := 56) rfl ?_
    refine Run.callS (k' := 0) (n' := 0) (as := [(.long (u1 * v2)), (.long (v1 * u2))]) (rest := []) (con_own_lcu l Z a0 hw n0 h0 Z0 (u1 * v2) (v1 * u2) ) d7_56 (hw _ (List.mem_of_getElem? (i := 45) rfl)) (hw _ (List.mem_of_getElem? (i := 46) rfl)) (hw _ (List.mem_of_getElem? (i := 43) rfl)) (hw _ (List.mem_of_getElem? (i := 47) rfl)) (by decide) pd__JJ_I rfl rfl rfl (by decide) (by show (0 : Nat) + (4 + 11) + 15 ≤ _; decide) (by decide) (by decide) (by decide) (by decide) (pc' := 59) rfl ?_
    rintro _ _ ⟨_, rfl, rfl, rfl⟩
    show Run l Z n0 "com/example/coarsen/coarsen/Fraction" prog_3_method_3_code 7 (some .int) "compareTo" ({ frames := 2, cells := 0, slots := 0, locals := 31 } : Room) _ 59 #[.val (.ref a1), .val (.ref a2), .val (.long (own_mh u1 v2)), .second, .val (.long (own_mh v1 u2)), .second, .val (.int (own_lc (own_mh u1 v2) (own_mh v1 u2)))] [(.int (own_lcu (u1 * v2) (v1 * u2)))] h0 0 0
    refine Run.istore (l' := #[.val (.ref a1), .val (.ref a2), .val (.long (own_mh u1 v2)), .second, .val (.long (own_mh v1 u2)), .second, .val (.int (own_lcu (u1 * v2) (v1 * u2)))]) d7_59 rfl (pc' := 61) rfl ?_
    refine Run.iload d7_61 rfl (pc' := 63) rfl ?_
    exact Run.ireturn d7_63 rfl (by decide) (by decide) ⟨_, rfl, congrArg Value.int (by unfold own_cmp; rw [if_pos hc35] <;> rfl), rfl⟩
theorem d3_0 : decode jdk_30_method_1_code 0 = .ok (.aload_n 0, 1) := by decide +kernel
theorem d3_1 : decode jdk_30_method_1_code 1 = .ok (.invokespecial 1, 3) := by decide +kernel
theorem d3_4 : decode jdk_30_method_1_code 4 = .ok (.return_, 1) := by decide +kernel
theorem pn_3 : plainFor (⟨"java/lang/Record", "<init>", "()V"⟩ : MethodName) = true := plainFor_of_name (by first | (simp [plainName, overriddenIn]; done) | decide +kernel)
theorem ef_con_rec (m : MethodId) (a1 : Addr) : entryFrame m #[(.ref a1)] 1 = mkF m 0 #[.val (.ref a1)] [] := by first | (simp [entryFrame, mkF, argsToLocals, Value.category]; done) | rfl
set_option maxRecDepth 65536 in
set_option maxHeartbeats 40000000 in
theorem con_rec (l : Launch) (Z : State) (a0 : Array Value) (hw : ∀ d ∈ tables_1, d.before a0 Z = true) (n0 : Nat) (h0 : Heap) (Z0 : n0 ≤ h0.size) (a1 : Addr)  :
    Con l Z n0 (⟨"java/lang/Record", "<init>", "()V"⟩ : MethodName) jdk_30_method_1_code 1 none ({ frames := 1, cells := 0, slots := 0, locals := 12 } : Room) #[(.ref a1)] h0 (Vd fun h' => h0 = h') := by
  refine Con.of_run pn_3 (fun m => ef_con_rec m a1) ?_
  refine Run.aloadN d3_0 rfl rfl (pc' := 1) rfl ?_
  refine Run.initO d3_1 (hw _ (List.mem_of_getElem? (i := 16) rfl)) (hw _ (List.mem_of_getElem? (i := 17) rfl)) (hw _ (List.mem_of_getElem? (i := 18) rfl)) rfl (by decide) (by show (0 : Nat) + 12 ≤ _; decide) (pc' := 4) rfl ?_
  exact Run.vreturn d3_4 rfl (by decide) (by decide) ⟨rfl, rfl⟩
theorem d2_0 : decode prog_3_method_1_code 0 = .ok (.aload_n 0, 1) := by decide +kernel
theorem d2_1 : decode prog_3_method_1_code 1 = .ok (.invokespecial 1, 3) := by decide +kernel
theorem d2_4 : decode prog_3_method_1_code 4 = .ok (.lload_n 1, 1) := by decide +kernel
theorem d2_5 : decode prog_3_method_1_code 5 = .ok (.lconst 0, 1) := by decide +kernel
theorem d2_6 : decode prog_3_method_1_code 6 = .ok (.lcmp, 1) := by decide +kernel
theorem d2_7 : decode prog_3_method_1_code 7 = .ok (.ifCond .lt 9, 3) := by decide +kernel
theorem d2_10 : decode prog_3_method_1_code 10 = .ok (.lload_n 3, 1) := by decide +kernel
theorem d2_11 : decode prog_3_method_1_code 11 = .ok (.lconst 0, 1) := by decide +kernel
theorem d2_12 : decode prog_3_method_1_code 12 = .ok (.lcmp, 1) := by decide +kernel
theorem d2_13 : decode prog_3_method_1_code 13 = .ok (.ifCond .gt 18, 3) := by decide +kernel
theorem d2_31 : decode prog_3_method_1_code 31 = .ok (.aload_n 0, 1) := by decide +kernel
theorem d2_32 : decode prog_3_method_1_code 32 = .ok (.lload_n 1, 1) := by decide +kernel
theorem d2_33 : decode prog_3_method_1_code 33 = .ok (.putfield 16, 3) := by decide +kernel
theorem d2_36 : decode prog_3_method_1_code 36 = .ok (.aload_n 0, 1) := by decide +kernel
theorem d2_37 : decode prog_3_method_1_code 37 = .ok (.lload_n 3, 1) := by decide +kernel
theorem d2_38 : decode prog_3_method_1_code 38 = .ok (.putfield 22, 3) := by decide +kernel
theorem d2_41 : decode prog_3_method_1_code 41 = .ok (.return_, 1) := by decide +kernel
theorem pn_2 : plainFor (⟨"com/example/coarsen/coarsen/Fraction", "<init>", "(JJ)V"⟩ : MethodName) = true := plainFor_of_name (by first | (simp [plainName, overriddenIn]; done) | decide +kernel)
theorem pd___V : parseMethodDescriptor "()V" = some ⟨[], none⟩ := by decide +kernel
theorem ef_con_fr (m : MethodId) (a1 : Addr) (q2 : Int64) (q3 : Int64) : entryFrame m #[(.ref a1), (.long q2), (.long q3)] 5 = mkF m 0 #[.val (.ref a1), .val (.long q2), .second, .val (.long q3), .second] [] := by first | (simp [entryFrame, mkF, argsToLocals, Value.category]; done) | rfl
set_option maxRecDepth 65536 in
set_option maxHeartbeats 40000000 in
theorem con_fr (l : Launch) (Z : State) (a0 : Array Value) (hw : ∀ d ∈ tables_1, d.before a0 Z = true) (n0 : Nat) (h0 : Heap) (Z0 : n0 ≤ h0.size) (a1 : Addr) (q2 : Int64) (q3 : Int64) (E1 : Exa Z h0 a1 "com/example/coarsen/coarsen/Fraction") (Fn : Fld Z h0 a1 "com/example/coarsen/coarsen/Fraction" "numerator" "J" (.long (0 : Int64))) (Fd : Fld Z h0 a1 "com/example/coarsen/coarsen/Fraction" "denominator" "J" (.long (0 : Int64))) (g1 : n0 ≤ a1) (hlo : ¬ q2 < (0 : Int64)) (hpos : (0 : Int64) < q3) :
    Con l Z n0 (⟨"com/example/coarsen/coarsen/Fraction", "<init>", "(JJ)V"⟩ : MethodName) prog_3_method_1_code 5 none ({ frames := 2, cells := 0, slots := 0, locals := 24 } : Room) #[(.ref a1), (.long q2), (.long q3)] h0 (Vd fun h' => Keep h0 h' [a1] ∧ Fld Z h' a1 "com/example/coarsen/coarsen/Fraction" "numerator" "J" (.long q2) ∧ Fld Z h' a1 "com/example/coarsen/coarsen/Fraction" "denominator" "J" (.long q3)) := by
  refine Con.of_run pn_2 (fun m => ef_con_fr m a1 q2 q3) ?_
  refine Run.aloadN d2_0 rfl rfl (pc' := 1) rfl ?_
  refine Run.callN (k' := 0) (n' := 0) (a := a1) (as := []) (rest := []) (con_rec l Z a0 hw n0 h0 Z0 a1) rfl d2_1 (hw _ (List.mem_of_getElem? (i := 11) rfl)) (hw _ (List.mem_of_getElem? (i := 12) rfl)) (hw _ (List.mem_of_getElem? (i := 14) rfl)) (hw _ (List.mem_of_getElem? (i := 15) rfl)) (by decide) pd___V rfl rfl rfl (by decide) (by show (0 : Nat) + (1 + 11) + 12 ≤ _; decide) (by decide) (by decide) (by decide) (by decide) (pc' := 4) rfl ?_
  rintro _ rfl
  refine Run.lloadN d2_4 rfl (pc' := 5) rfl ?_
  refine Run.lconst (0 : Int64) d2_5 (by decide) (pc' := 6) rfl ?_
  refine Run.lcmp d2_6 (pc' := 7) rfl ?_
  refine Run.lif_lt d2_7 (by decide) (pc' := 16) (by decide) (pa := 10) rfl (fun hc7 => ?_) (fun hc7 => ?_)
  · -- pc 7 taken: q2 < (0 : Int64)
    exact absurd hc7 hlo
  · -- pc 7 not taken: ¬ q2 < (0 : Int64)
    refine Run.lloadN d2_10 rfl (pc' := 11) rfl ?_
    refine Run.lconst (0 : Int64) d2_11 (by decide) (pc' := 12) rfl ?_
    refine Run.lcmp d2_12 (pc' := 13) rfl ?_
    refine Run.lif_gt d2_13 (by decide) (pc' := 31) (by decide) (pa := 16) rfl (fun hc13 => ?_) (fun hc13 => ?_)
    · -- pc 13 taken: (0 : Int64) < q3
      refine Run.aloadN d2_31 rfl rfl (pc' := 32) rfl ?_
      refine Run.lloadN d2_32 rfl (pc' := 33) rfl ?_
      refine Run.putF d2_33 (host := "") (Or.inl (hw _ (List.mem_of_getElem? (i := 19) rfl))) Via.refl Fn E1 (Or.inr ⟨(hw _ (List.mem_of_getElem? (i := 20) rfl)), rfl, rfl⟩) (hw _ (List.mem_of_getElem? (i := 6) rfl)) (ty := .long) (by decide) rfl rfl g1 (pc' := 36) rfl ?_
      intro h11 W11
      have Fw11 := Fn.same W11
      have E_a1_11 := E1.wr W11
      have F_a1_denominator_11 := Fd.other W11 (Or.inr (slot_ne (Or.inr (hw _ (List.mem_of_getElem? (i := 22) rfl))) (Or.inr (hw _ (List.mem_of_getElem? (i := 20) rfl))) (by decide) (t := .long) (t' := .long) (by decide) (by decide)))
      have sz11 : n0 ≤ h11.size := by rw [W11.size]; exact Z0
      have kp11 := Keep.wr (Keep.refl h0 [a1]) W11 (Or.inl (List.mem_of_getElem? (i := 0) rfl))
      refine Run.aloadN d2_36 rfl rfl (pc' := 37) rfl ?_
      refine Run.lloadN d2_37 rfl (pc' := 38) rfl ?_
      refine Run.putF d2_38 (host := "") (Or.inl (hw _ (List.mem_of_getElem? (i := 21) rfl))) Via.refl F_a1_denominator_11 E_a1_11 (Or.inr ⟨(hw _ (List.mem_of_getElem? (i := 22) rfl)), rfl, rfl⟩) (hw _ (List.mem_of_getElem? (i := 6) rfl)) (ty := .long) (by decide) rfl rfl g1 (pc' := 41) rfl ?_
      intro h12 W12
      have Fw12 := F_a1_denominator_11.same W12
      have E_a1_12 := E_a1_11.wr W12
      have F_a1_numerator_12 := Fw11.other W12 (Or.inr (slot_ne (Or.inr (hw _ (List.mem_of_getElem? (i := 20) rfl))) (Or.inr (hw _ (List.mem_of_getElem? (i := 22) rfl))) (by decide) (t := .long) (t' := .long) (by decide) (by decide)))
      have sz12 : n0 ≤ h12.size := by rw [W12.size]; exact sz11
      have kp12 := Keep.wr kp11 W12 (Or.inl (List.mem_of_getElem? (i := 0) rfl))
      exact Run.vreturn d2_41 rfl (by decide) (by decide) ⟨rfl, kp12, F_a1_numerator_12, Fw12⟩
    · -- pc 13 not taken: ¬ (0 : Int64) < q3
      exact absurd hpos hc13
theorem own_nn (x : Int64) : ¬ (x &&& (9223372036854775807 : Int64)) < (0 : Int64) := by
  have h := c_maskL x 9223372036854775807 63 (by decide) (by decide)
  rw [Int64.lt_iff_toInt_lt, h]
  have : (0 : Int64).toInt = 0 := rfl
  omega
theorem own_pos (x : Int64) : (0 : Int64) < own_max (1 : Int64) (x &&& (9223372036854775807 : Int64)) := by
  unfold own_max
  split
  · rename_i h
    rw [Int64.lt_iff_toInt_lt] at h ⊢
    have h1 : (1 : Int64).toInt = 1 := rfl
    have h2 : (0 : Int64).toInt = 0 := rfl
    omega
  · decide
theorem own_us (x : Int64) : (XT.ushrL x (32 : Int32)).toInt = (x.toInt % 18446744073709551616) / 4294967296 := by
  have h := c_lushr x 32 32 (by decide) (by decide)
  have e : XT.ushrL x (32 : Int32) = (x.toUInt64 >>> ((32 : Int32) &&& 0x3f).toInt64.toUInt64).toInt64 := by
    unfold XT.ushrL
    have : (32 : Int32).toInt64.toUInt64 &&& Int64.toUInt64 63 = ((32 : Int32) &&& 0x3f).toInt64.toUInt64 := by decide
    rw [this]
  rw [e]; simpa using h
theorem own_sr (x : Int64) : (x >>> ((32 : Int32).toInt64 &&& 63)).toInt = x.toInt / 4294967296 := by
  have h := c_lshr x 32 32 (by decide)
  have e : (32 : Int32).toInt64 &&& 63 = ((32 : Int32) &&& 0x3f).toInt64 := by decide
  rw [e]; simpa using h
theorem own_mk (x : Int64) : (x &&& (4294967295 : Int64)).toInt = x.toInt % 4294967296 := by
  have h := c_maskL x 4294967295 32 (by decide) (by decide)
  simpa using h
theorem own_ml {x y : Int64} {X Y : Int} (hx : x.toInt = X) (hy : y.toInt = Y) (h1 : -9223372036854775808 ≤ X * Y) (h2 : X * Y < 9223372036854775808) : (x * y).toInt = X * Y := by
  rw [Int64.toInt_mul, hx, hy]; exact Int.bmod_eq_of_le (by omega) (by omega)
theorem own_bnd {x1 y0 : Int} (h1 : 0 ≤ x1) (h2 : x1 ≤ 2147483647) (h3 : 0 ≤ y0) (h4 : y0 ≤ 4294967295) : 0 ≤ x1 * y0 ∧ x1 * y0 ≤ 9223372030412324865 := by
  have := mc (a := x1) (b := y0) (l1 := 0) (h1 := 2147483647) (l2 := 0) (h2 := 4294967295) h1 h2 h3 h4
  have q1 := Int.mul_nonneg h1 h3
  omega
theorem own_bnd' {x0 y1 : Int} (h1 : 0 ≤ x0) (h2 : x0 ≤ 4294967295) (h3 : 0 ≤ y1) (h4 : y1 ≤ 2147483647) : 0 ≤ x0 * y1 ∧ x0 * y1 ≤ 9223372030412324865 := by
  rw [Int.mul_comm]; exact own_bnd h3 h4 h1 h2
theorem own_same {x y : Int64} (hx : ¬ x < 0) (hy : ¬ y < 0) : own_mh x y = own_high x y := by
  have z0 : (0 : Int64).toInt = 0 := rfl
  rw [Int64.lt_iff_toInt_lt] at hx hy
  have rx := rng64 x; have ry := rng64 y
  have a1 := own_us x; have a2 := own_us y; have b1 := own_sr x; have b2 := own_sr y; have m1 := own_mk x; have m2 := own_mk y
  unfold own_mh own_high
  have e1 : x >>> ((32 : Int32).toInt64 &&& 63) = XT.ushrL x 32 := Int64.toInt_inj.mp (by rw [a1, b1]; omega)
  have e2 : y >>> ((32 : Int32).toInt64 &&& 63) = XT.ushrL y 32 := Int64.toInt_inj.mp (by rw [a2, b2]; omega)
  rw [e1, e2]
  generalize hx1 : XT.ushrL x 32 = x1 at *
  generalize hy1 : XT.ushrL y 32 = y1 at *
  generalize hx0 : (x &&& (4294967295 : Int64)) = x0 at *
  generalize hy0 : (y &&& (4294967295 : Int64)) = y0 at *
  have g1 : 0 ≤ x1.toInt ∧ x1.toInt ≤ 2147483647 := by omega
  have g2 : 0 ≤ y1.toInt ∧ y1.toInt ≤ 2147483647 := by omega
  have g3 : 0 ≤ x0.toInt ∧ x0.toInt ≤ 4294967295 := by omega
  have g4 : 0 ≤ y0.toInt ∧ y0.toInt ≤ 4294967295 := by omega
  have p10 := own_bnd g1.1 g1.2 g4.1 g4.2
  have p01 := own_bnd' g3.1 g3.2 g2.1 g2.2
  have q10 : (x1 * y0).toInt = x1.toInt * y0.toInt := own_ml rfl rfl (by omega) (by omega)
  have q01 : (x0 * y1).toInt = x0.toInt * y1.toInt := own_ml rfl rfl (by omega) (by omega)
  have A := own_us (x0 * y0)
  generalize XT.ushrL (x0 * y0) 32 = A0 at *
  have rA := rng64 (x0 * y0)
  generalize x1 * y0 = B at *
  generalize x0 * y1 = D at *
  have gA : 0 ≤ A0.toInt ∧ A0.toInt ≤ 4294967295 := by omega
  have s1 := c_ladd B A0; have r1 := rng64 (B + A0)
  have t1 : (B + A0).toInt = B.toInt + A0.toInt := by omega
  have w2 := own_sr (B + A0); have w1 := own_mk (B + A0)
  generalize (B + A0) >>> ((32 : Int32).toInt64 &&& 63) = W2 at *
  generalize (B + A0) &&& (4294967295 : Int64) = W1 at *
  have s2 := c_ladd W1 D; have r2 := rng64 (W1 + D)
  have t2 : (W1 + D).toInt = W1.toInt + D.toInt := by omega
  have w3 := own_sr (W1 + D)
  generalize (W1 + D) >>> ((32 : Int32).toInt64 &&& 63) = W3 at *
  have u1 := own_us D; have u2 := own_us B
  have n1 := own_mk D; have n2 := own_mk B
  generalize XT.ushrL D 32 = U1 at *
  generalize XT.ushrL B 32 = U2 at *
  generalize D &&& (4294967295 : Int64) = N1 at *
  generalize B &&& (4294967295 : Int64) = N2 at *
  have s3 := c_ladd A0 N1; have r3 := rng64 (A0 + N1)
  have s4 := c_ladd (A0 + N1) N2; have r4 := rng64 (A0 + N1 + N2)
  have t4 : (A0 + N1 + N2).toInt = A0.toInt + N1.toInt + N2.toInt := by omega
  have u3 := own_us (A0 + N1 + N2)
  generalize XT.ushrL (A0 + N1 + N2) 32 = U3 at *
  have key : W2.toInt + W3.toInt = U1.toInt + U2.toInt + U3.toInt := by omega
  generalize x1 * y1 = Pp at *
  have v1 := c_ladd Pp W2; have v2 := c_ladd (Pp + W2) W3
  have v3 := c_ladd Pp U1; have v4 := c_ladd (Pp + U1) U2; have v5 := c_ladd (Pp + U1 + U2) U3
  have r5 := rng64 (Pp + W2 + W3); have r6 := rng64 (Pp + U1 + U2 + U3)
  exact Int64.toInt_inj.mp (by omega)
theorem own_nx (n : Nat) (hn : n < 2 ^ 64) : n ^^^ 2 ^ 63 = (2 ^ 63 + n) % 2 ^ 64 := by
  apply Nat.eq_of_testBit_eq
  intro j
  rw [Nat.testBit_xor, Nat.testBit_two_pow, Nat.testBit_mod_two_pow]
  rcases Nat.lt_trichotomy j 63 with h | h | h
  · rw [Nat.testBit_two_pow_add_gt h]
    have h1 : ¬ 63 = j := by omega
    have h2 : j < 64 := by omega
    simp [h1, h2]
  · subst h
    rw [Nat.testBit_two_pow_add_eq]
    simp
  · have h1 : ¬ 63 = j := by omega
    have h2 : ¬ j < 64 := by omega
    have h3 : n.testBit j = false := Nat.testBit_lt_two_pow (Nat.lt_of_lt_of_le hn (Nat.pow_le_pow_right (by decide) (by omega)))
    simp [h1, h2, h3]
theorem own_flip (x : Int64) : x ^^^ (-9223372036854775808 : Int64) = x + (-9223372036854775808 : Int64) := by
  apply Int64.toBitVec_inj.mp
  rw [Int64.toBitVec_xor, Int64.toBitVec_add]
  generalize x.toBitVec = b
  have e : (-9223372036854775808 : Int64).toBitVec = BitVec.ofNat 64 (2 ^ 63) := by decide
  rw [e]
  apply BitVec.eq_of_toNat_eq
  rw [BitVec.toNat_xor, BitVec.toNat_add, BitVec.toNat_ofNat]
  have h := own_nx b.toNat b.isLt
  rw [show (2 ^ 63 % 2 ^ 64 : Nat) = 2 ^ 63 from by decide, h, Nat.add_comm]
theorem own_tri (p r : Int64) : p < r ∨ p = r ∨ r < p := by
  rw [Int64.lt_iff_toInt_lt, Int64.lt_iff_toInt_lt, ← Int64.toInt_inj]; omega
theorem own_nl {p r : Int64} (h : p < r) : ¬ r < p ∧ ¬ p = r ∧ ¬ r = p := by
  rw [Int64.lt_iff_toInt_lt] at h
  rw [Int64.lt_iff_toInt_lt, ← Int64.toInt_inj, ← Int64.toInt_inj]; omega
theorem own_lc1 {p r : Int64} (h : p < r) : own_lc p r = -1 := if_pos h
theorem own_lc2 (p : Int64) : own_lc p p = 0 := by unfold own_lc; rw [if_neg Int64.lt_irrefl, if_pos rfl]
theorem own_lc3 {p r : Int64} (h : r < p) : own_lc p r = 1 := by unfold own_lc; rw [if_neg (own_nl h).1, if_neg (own_nl h).2.2]
theorem own_refl (h1 h2 u v : Int64) : (if h1 < h2 then (-1 : Int32) else (if h2 < h1 then (1 : Int32) else (if u < v then (-1 : Int32) else (if v < u then (1 : Int32) else (0 : Int32))))) = if own_lc h1 h2 = 0 then own_lc u v else own_lc h1 h2 := by
  rcases own_tri h1 h2 with h | h | h
  · rw [if_pos h, own_lc1 h]; rfl
  · subst h
    rw [if_neg Int64.lt_irrefl, if_neg Int64.lt_irrefl, own_lc2, if_pos rfl]
    rcases own_tri u v with g | g | g
    · rw [if_pos g, own_lc1 g]
    · subst g; rw [if_neg Int64.lt_irrefl, if_neg Int64.lt_irrefl, own_lc2]
    · rw [if_neg (own_nl g).1, if_pos g, own_lc3 g]
  · rw [if_neg (own_nl h).1, if_pos h, own_lc3 h]; rfl
theorem own_lcs (p r : Int64) : own_lc p r = -1 ∧ own_lc r p = 1 ∨ own_lc p r = 0 ∧ own_lc r p = 0 ∨ own_lc p r = 1 ∧ own_lc r p = -1 := by
  rcases own_tri p r with h | h | h
  · exact Or.inl ⟨own_lc1 h, own_lc3 h⟩
  · subst h; exact Or.inr (Or.inl ⟨own_lc2 _, own_lc2 _⟩)
  · exact Or.inr (Or.inr ⟨own_lc3 h, own_lc1 h⟩)
theorem own_sg {t : Int32} (h : t = -1 ∨ t = 0 ∨ t = 1) : own_sign t = t := by rcases h with rfl | rfl | rfl <;> decide
theorem own_lct (p r : Int64) : own_lc p r = -1 ∨ own_lc p r = 0 ∨ own_lc p r = 1 := (own_lcs p r).imp And.left fun h => h.imp And.left And.left
theorem own_pk (p r u v : Int64) : own_sign (if own_lc p r = 0 then own_lc u v else own_lc p r) = if own_lc p r = 0 then own_lc u v else own_lc p r := by
  apply own_sg
  split
  · exact own_lct u v
  · exact own_lct p r
theorem own_ng (p r u v : Int64) : (if own_lc r p = 0 then own_lc v u else own_lc r p) = -(if own_lc p r = 0 then own_lc u v else own_lc p r) := by
  rcases own_lcs p r with h | h | h
  · rw [h.1, h.2, if_neg (by decide : ¬ (1 : Int32) = 0), if_neg (by decide : ¬ (-1 : Int32) = 0)]; decide
  · rw [h.1, h.2, if_pos rfl, if_pos rfl]
    rcases own_lcs u v with g | g | g <;> rw [g.1, g.2] <;> decide
  · rw [h.1, h.2, if_neg (by decide : ¬ (-1 : Int32) = 0), if_neg (by decide : ¬ (1 : Int32) = 0)]
theorem own_xy {a b c d : Int64} (ha : ¬ a < 0) (hb : 0 < b) (hc : ¬ c < 0) (hd : 0 < d) : own_sign (own_cmp a b c d) = own_ref a b c d := by
  have hb' := (own_nl hb).1; have hd' := (own_nl hd).1
  unfold own_cmp own_ref own_lcu
  rw [own_same ha hd', own_same hc hb', own_flip, own_flip, own_refl]
  exact own_pk _ _ _ _
theorem own_yx {a b c d : Int64} (ha : ¬ a < 0) (hb : 0 < b) (hc : ¬ c < 0) (hd : 0 < d) : own_sign (own_cmp c d a b) = -own_ref a b c d := by
  have hb' := (own_nl hb).1; have hd' := (own_nl hd).1
  unfold own_cmp own_ref own_lcu
  rw [own_same ha hd', own_same hc hb', own_flip, own_flip, own_refl]
  rw [own_pk]
  exact own_ng _ _ _ _
theorem own_xx {a b : Int64} (ha : ¬ a < 0) (hb : 0 < b) : own_sign (own_cmp a b a b) = 0 := by
  unfold own_cmp own_lcu
  rw [own_lc2, if_pos rfl, own_lc2]; decide

theorem pn_0 : plainFor x = true := plainFor_of_name (by first | (simp [plainName, overriddenIn]; done) | decide +kernel)
theorem pd__I_I : parseMethodDescriptor "(I)I" = some ⟨[.int], some .int⟩ := by decide +kernel
theorem pd__JJ_V : parseMethodDescriptor "(JJ)V" = some ⟨[.long, .long], none⟩ := by decide +kernel
theorem pd__JJJJ_I : parseMethodDescriptor "(JJJJ)I" = some ⟨[.long, .long, .long, .long], some .int⟩ := by decide +kernel
theorem pd__Lcom_example_coarsen_coarsen_Fraction__I : parseMethodDescriptor "(Lcom/example/coarsen/coarsen/Fraction;)I" = some ⟨[(.object "com/example/coarsen/coarsen/Fraction")], some .int⟩ := by decide +kernel
theorem ef_con0 (m : MethodId) (q1 : Int64) (q2 : Int64) (q3 : Int64) (q4 : Int64) : entryFrame m #[(.long q1), (.long q2), (.long q3), (.long q4)] maxLocals = mkF m 0 #[.val (.long q1), .second, .val (.long q2), .second, .val (.long q3), .second, .val (.long q4), .second, .unset, .unset, .unset, .unset, .unset, .unset, .unset, .unset, .unset, .unset, .unset, .unset, .unset, .unset] [] := by first | (simp [entryFrame, mkF, argsToLocals, Value.category, maxLocals]; done) | rfl
set_option maxRecDepth 65536 in
set_option maxHeartbeats 40000000 in
theorem con0 (l : Launch) (Z : State) (a0 : Array Value) (hw : ∀ d ∈ tables_1, d.before a0 Z = true) (n0 : Nat) (h0 : Heap) (Z0 : n0 ≤ h0.size) (q1 : Int64) (q2 : Int64) (q3 : Int64) (q4 : Int64)  :
    Con l Z n0 x code maxLocals ret room_1 #[(.long q1), (.long q2), (.long q3), (.long q4)] h0 (Val fun w _ => w = .int 1) := by
  refine Con.of_run pn_0 (fun m => ef_con0 m q1 q2 q3 q4) ?_
  refine Run.lloadN at_0 rfl (pc' := 1) rfl ?_
  refine Run.ldc2J (v := (9223372036854775807 : Int64)) at_1 (hw _ (List.mem_of_getElem? (i := 0) rfl)) (pc' := 4) rfl ?_
  refine Run.land at_4 (pc' := 5) rfl ?_
  refine Run.lstore (l' := #[.val (.long q1), .second, .val (.long q2), .second, .val (.long q3), .second, .val (.long q4), .second, .val (.long (q1 &&& (9223372036854775807 : Int64))), .second, .unset, .unset, .unset, .unset, .unset, .unset, .unset, .unset, .unset, .unset, .unset, .unset]) at_5 rfl (pc' := 7) rfl ?_
  refine Run.lconst (1 : Int64) at_7 (by decide) (pc' := 8) rfl ?_
  refine Run.lloadN at_8 rfl (pc' := 9) rfl ?_
  refine Run.ldc2J (v := (9223372036854775807 : Int64)) at_9 (hw _ (List.mem_of_getElem? (i := 0) rfl)) (pc' := 12) rfl ?_
  refine Run.land at_12 (pc' := 13) rfl ?_
  refine Run.callS (k' := 0) (n' := 0) (as := [(.long (1 : Int64)), (.long (q2 &&& (9223372036854775807 : Int64)))]) (rest := []) (con_own_max l Z a0 hw n0 h0 Z0 (1 : Int64) (q2 &&& (9223372036854775807 : Int64)) ) at_13 (hw _ (List.mem_of_getElem? (i := 1) rfl)) (hw _ (List.mem_of_getElem? (i := 2) rfl)) (hw _ (List.mem_of_getElem? (i := 3) rfl)) (hw _ (List.mem_of_getElem? (i := 4) rfl)) (by decide) pd__JJ_J rfl rfl rfl (by decide) (by show (0 : Nat) + (4 + 11) + 0 ≤ _; decide) (by decide) (by decide) (by decide) (by decide) (pc' := 16) rfl ?_
  rintro _ _ ⟨_, rfl, rfl, rfl⟩
  show Run l Z n0 x.cls code maxLocals ret x.name room_1 _ 16 #[.val (.long q1), .second, .val (.long q2), .second, .val (.long q3), .second, .val (.long q4), .second, .val (.long (q1 &&& (9223372036854775807 : Int64))), .second, .unset, .unset, .unset, .unset, .unset, .unset, .unset, .unset, .unset, .unset, .unset, .unset] [(.long (own_max (1 : Int64) (q2 &&& (9223372036854775807 : Int64))))] h0 0 0
  refine Run.lstore (l' := #[.val (.long q1), .second, .val (.long q2), .second, .val (.long q3), .second, .val (.long q4), .second, .val (.long (q1 &&& (9223372036854775807 : Int64))), .second, .val (.long (own_max (1 : Int64) (q2 &&& (9223372036854775807 : Int64)))), .second, .unset, .unset, .unset, .unset, .unset, .unset, .unset, .unset, .unset, .unset]) at_16 rfl (pc' := 18) rfl ?_
  refine Run.lload at_18 rfl (pc' := 20) rfl ?_
  refine Run.ldc2J (v := (9223372036854775807 : Int64)) at_20 (hw _ (List.mem_of_getElem? (i := 0) rfl)) (pc' := 23) rfl ?_
  refine Run.land at_23 (pc' := 24) rfl ?_
  refine Run.lstore (l' := #[.val (.long q1), .second, .val (.long q2), .second, .val (.long q3), .second, .val (.long q4), .second, .val (.long (q1 &&& (9223372036854775807 : Int64))), .second, .val (.long (own_max (1 : Int64) (q2 &&& (9223372036854775807 : Int64)))), .second, .val (.long (q3 &&& (9223372036854775807 : Int64))), .second, .unset, .unset, .unset, .unset, .unset, .unset, .unset, .unset]) at_24 rfl (pc' := 26) rfl ?_
  refine Run.lconst (1 : Int64) at_26 (by decide) (pc' := 27) rfl ?_
  refine Run.lload at_27 rfl (pc' := 29) rfl ?_
  refine Run.ldc2J (v := (9223372036854775807 : Int64)) at_29 (hw _ (List.mem_of_getElem? (i := 0) rfl)) (pc' := 32) rfl ?_
  refine Run.land at_32 (pc' := 33) rfl ?_
  refine Run.callS (k' := 0) (n' := 0) (as := [(.long (1 : Int64)), (.long (q4 &&& (9223372036854775807 : Int64)))]) (rest := []) (con_own_max l Z a0 hw n0 h0 Z0 (1 : Int64) (q4 &&& (9223372036854775807 : Int64)) ) at_33 (hw _ (List.mem_of_getElem? (i := 1) rfl)) (hw _ (List.mem_of_getElem? (i := 2) rfl)) (hw _ (List.mem_of_getElem? (i := 3) rfl)) (hw _ (List.mem_of_getElem? (i := 4) rfl)) (by decide) pd__JJ_J rfl rfl rfl (by decide) (by show (0 : Nat) + (4 + 11) + 0 ≤ _; decide) (by decide) (by decide) (by decide) (by decide) (pc' := 36) rfl ?_
  rintro _ _ ⟨_, rfl, rfl, rfl⟩
  show Run l Z n0 x.cls code maxLocals ret x.name room_1 _ 36 #[.val (.long q1), .second, .val (.long q2), .second, .val (.long q3), .second, .val (.long q4), .second, .val (.long (q1 &&& (9223372036854775807 : Int64))), .second, .val (.long (own_max (1 : Int64) (q2 &&& (9223372036854775807 : Int64)))), .second, .val (.long (q3 &&& (9223372036854775807 : Int64))), .second, .unset, .unset, .unset, .unset, .unset, .unset, .unset, .unset] [(.long (own_max (1 : Int64) (q4 &&& (9223372036854775807 : Int64))))] h0 0 0
  refine Run.lstore (l' := #[.val (.long q1), .second, .val (.long q2), .second, .val (.long q3), .second, .val (.long q4), .second, .val (.long (q1 &&& (9223372036854775807 : Int64))), .second, .val (.long (own_max (1 : Int64) (q2 &&& (9223372036854775807 : Int64)))), .second, .val (.long (q3 &&& (9223372036854775807 : Int64))), .second, .val (.long (own_max (1 : Int64) (q4 &&& (9223372036854775807 : Int64)))), .second, .unset, .unset, .unset, .unset, .unset, .unset]) at_36 rfl (pc' := 38) rfl ?_
  have h_na := own_nn q1
  generalize (q1 &&& (9223372036854775807 : Int64)) = na at h_na ⊢
  have h_nb := own_pos q2
  generalize (own_max (1 : Int64) (q2 &&& (9223372036854775807 : Int64))) = nb at h_nb ⊢
  have h_nc := own_nn q3
  generalize (q3 &&& (9223372036854775807 : Int64)) = nc at h_nc ⊢
  have h_nd := own_pos q4
  generalize (own_max (1 : Int64) (q4 &&& (9223372036854775807 : Int64))) = nd at h_nd ⊢
  refine Run.newO (k' := 1) (n' := 2) at_38 (hw _ (List.mem_of_getElem? (i := 5) rfl)) (hw _ (List.mem_of_getElem? (i := 6) rfl)) (hw _ (List.mem_of_getElem? (i := 7) rfl)) (by decide) (by decide) (by decide) (by decide) (pc' := 41) rfl ?_
  intro h11 b11 g11 E11 X11 D11
  have ge_b11 : n0 ≤ b11 := by rw [g11]; exact Z0
  have bo_b11 : h0.size ≤ b11 := by rw [g11]; exact (Keep.refl h0 []).1
  have sz11 : n0 ≤ h11.size := Nat.le_trans Z0 E11.1
  have kp11 := Keep.ext (Keep.refl h0 []) E11
  have F_b11_numerator : Fld Z h11 b11 "com/example/coarsen/coarsen/Fraction" "numerator" "J" (.long (0 : Int64)) := D11 (Or.inr (hw _ (List.mem_of_getElem? (i := 20) rfl))) (ty := .long) (by decide)
  have F_b11_denominator : Fld Z h11 b11 "com/example/coarsen/coarsen/Fraction" "denominator" "J" (.long (0 : Int64)) := D11 (Or.inr (hw _ (List.mem_of_getElem? (i := 22) rfl))) (ty := .long) (by decide)
  refine Run.dup at_41 rfl (pc' := 42) rfl ?_
  refine Run.lload at_42 rfl (pc' := 44) rfl ?_
  refine Run.lload at_44 rfl (pc' := 46) rfl ?_
  refine Run.callN (k' := 1) (n' := 2) (a := b11) (as := [(.long na), (.long nb)]) (rest := [(.ref b11)]) (con_fr l Z a0 hw n0 h11 sz11 b11 na nb X11 F_b11_numerator F_b11_denominator ge_b11 h_na h_nb) rfl at_46 (hw _ (List.mem_of_getElem? (i := 8) rfl)) (hw _ (List.mem_of_getElem? (i := 9) rfl)) (hw _ (List.mem_of_getElem? (i := 7) rfl)) (hw _ (List.mem_of_getElem? (i := 10) rfl)) (by decide) pd__JJ_V rfl rfl rfl (by decide) (by show (1 : Nat) + (5 + 11) + 24 ≤ _; decide) (by decide) (by decide) (by decide) (by decide) (pc' := 49) rfl ?_
  rintro h12 ⟨K12, P12, Q12⟩
  show Run l Z n0 x.cls code maxLocals ret x.name room_1 _ 49 #[.val (.long q1), .second, .val (.long q2), .second, .val (.long q3), .second, .val (.long q4), .second, .val (.long na), .second, .val (.long nb), .second, .val (.long nc), .second, .val (.long nd), .second, .unset, .unset, .unset, .unset, .unset, .unset] [(.ref b11)] h12 1 2
  have E_b11_12 := X11.keep K12
  have sz12 : n0 ≤ h12.size := Nat.le_trans sz11 K12.1
  have kp12 := Keep.trans kp11 K12 (allS (Or.inr bo_b11) all0)
  refine Run.astore (l' := #[.val (.long q1), .second, .val (.long q2), .second, .val (.long q3), .second, .val (.long q4), .second, .val (.long na), .second, .val (.long nb), .second, .val (.long nc), .second, .val (.long nd), .second, .val (.ref b11), .unset, .unset, .unset, .unset, .unset]) at_49 rfl rfl (pc' := 51) rfl ?_
  refine Run.newO (k' := 2) (n' := 4) at_51 (hw _ (List.mem_of_getElem? (i := 5) rfl)) (hw _ (List.mem_of_getElem? (i := 6) rfl)) (hw _ (List.mem_of_getElem? (i := 7) rfl)) (by decide) (by decide) (by decide) (by decide) (pc' := 54) rfl ?_
  intro h13 b13 g13 E13 X13 D13
  have ge_b13 : n0 ≤ b13 := by rw [g13]; exact sz12
  have bo_b13 : h0.size ≤ b13 := by rw [g13]; exact kp12.1
  have ne_b11_b13 : b11 ≠ b13 := by rw [g13]; exact Nat.ne_of_lt E_b11_12.lt
  have E_b11_13 := E_b11_12.ext E13
  have F_b11_numerator_13 := P12.ext E13
  have F_b11_denominator_13 := Q12.ext E13
  have sz13 : n0 ≤ h13.size := Nat.le_trans sz12 E13.1
  have kp13 := Keep.ext kp12 E13
  have F_b13_numerator : Fld Z h13 b13 "com/example/coarsen/coarsen/Fraction" "numerator" "J" (.long (0 : Int64)) := D13 (Or.inr (hw _ (List.mem_of_getElem? (i := 20) rfl))) (ty := .long) (by decide)
  have F_b13_denominator : Fld Z h13 b13 "com/example/coarsen/coarsen/Fraction" "denominator" "J" (.long (0 : Int64)) := D13 (Or.inr (hw _ (List.mem_of_getElem? (i := 22) rfl))) (ty := .long) (by decide)
  refine Run.dup at_54 rfl (pc' := 55) rfl ?_
  refine Run.lload at_55 rfl (pc' := 57) rfl ?_
  refine Run.lload at_57 rfl (pc' := 59) rfl ?_
  refine Run.callN (k' := 2) (n' := 4) (a := b13) (as := [(.long nc), (.long nd)]) (rest := [(.ref b13)]) (con_fr l Z a0 hw n0 h13 sz13 b13 nc nd X13 F_b13_numerator F_b13_denominator ge_b13 h_nc h_nd) rfl at_59 (hw _ (List.mem_of_getElem? (i := 8) rfl)) (hw _ (List.mem_of_getElem? (i := 9) rfl)) (hw _ (List.mem_of_getElem? (i := 7) rfl)) (hw _ (List.mem_of_getElem? (i := 10) rfl)) (by decide) pd__JJ_V rfl rfl rfl (by decide) (by show (1 : Nat) + (5 + 11) + 24 ≤ _; decide) (by decide) (by decide) (by decide) (by decide) (pc' := 62) rfl ?_
  rintro h14 ⟨K14, P14, Q14⟩
  show Run l Z n0 x.cls code maxLocals ret x.name room_1 _ 62 #[.val (.long q1), .second, .val (.long q2), .second, .val (.long q3), .second, .val (.long q4), .second, .val (.long na), .second, .val (.long nb), .second, .val (.long nc), .second, .val (.long nd), .second, .val (.ref b11), .unset, .unset, .unset, .unset, .unset] [(.ref b13)] h14 2 4
  have E_b11_14 := E_b11_13.keep K14
  have F_b11_numerator_14 := F_b11_numerator_13.keep K14 (ninS ne_b11_b13 nin0)
  have F_b11_denominator_14 := F_b11_denominator_13.keep K14 (ninS ne_b11_b13 nin0)
  have E_b13_14 := X13.keep K14
  have sz14 : n0 ≤ h14.size := Nat.le_trans sz13 K14.1
  have kp14 := Keep.trans kp13 K14 (allS (Or.inr bo_b13) all0)
  refine Run.astore (l' := #[.val (.long q1), .second, .val (.long q2), .second, .val (.long q3), .second, .val (.long q4), .second, .val (.long na), .second, .val (.long nb), .second, .val (.long nc), .second, .val (.long nd), .second, .val (.ref b11), .val (.ref b13), .unset, .unset, .unset, .unset]) at_62 rfl rfl (pc' := 64) rfl ?_
  refine Run.lload at_64 rfl (pc' := 66) rfl ?_
  refine Run.lload at_66 rfl (pc' := 68) rfl ?_
  refine Run.lload at_68 rfl (pc' := 70) rfl ?_
  refine Run.lload at_70 rfl (pc' := 72) rfl ?_
  refine Run.callS (k' := 2) (n' := 4) (as := [(.long na), (.long nb), (.long nc), (.long nd)]) (rest := []) (con_own_ref l Z a0 hw n0 h14 sz14 na nb nc nd ) at_72 (hw _ (List.mem_of_getElem? (i := 23) rfl)) (hw _ (List.mem_of_getElem? (i := 24) rfl)) (hw _ (List.mem_of_getElem? (i := 25) rfl)) (hw _ (List.mem_of_getElem? (i := 26) rfl)) (by decide) pd__JJJJ_I rfl rfl rfl (by decide) (by show (0 : Nat) + (16 + 11) + 33 ≤ _; decide) (by decide) (by decide) (by decide) (by decide) (pc' := 75) rfl ?_
  rintro _ _ ⟨_, rfl, rfl, rfl⟩
  show Run l Z n0 x.cls code maxLocals ret x.name room_1 _ 75 #[.val (.long q1), .second, .val (.long q2), .second, .val (.long q3), .second, .val (.long q4), .second, .val (.long na), .second, .val (.long nb), .second, .val (.long nc), .second, .val (.long nd), .second, .val (.ref b11), .val (.ref b13), .unset, .unset, .unset, .unset] [(.int (own_ref na nb nc nd))] h14 2 4
  refine Run.istore (l' := #[.val (.long q1), .second, .val (.long q2), .second, .val (.long q3), .second, .val (.long q4), .second, .val (.long na), .second, .val (.long nb), .second, .val (.long nc), .second, .val (.long nd), .second, .val (.ref b11), .val (.ref b13), .val (.int (own_ref na nb nc nd)), .unset, .unset, .unset]) at_75 rfl (pc' := 77) rfl ?_
  refine Run.aload at_77 rfl rfl (pc' := 79) rfl ?_
  refine Run.aload at_79 rfl rfl (pc' := 81) rfl ?_
  refine Run.callV (k' := 2) (n' := 4) (a := b11) (as := [(.ref b13)]) (rest := []) (con_own_cmp l Z a0 hw n0 h14 sz14 b11 b13 na nb nc nd F_b11_numerator_14 F_b11_denominator_14 P14 Q14 ) E_b11_14 at_81 (hw _ (List.mem_of_getElem? (i := 32) rfl)) (hw _ (List.mem_of_getElem? (i := 33) rfl)) (fun s hZ => notFace_of_selects (args := #[]) (mvT hZ (hw _ (List.mem_of_getElem? (i := 35) rfl)))) (hw _ (List.mem_of_getElem? (i := 35) rfl)) (hw _ (List.mem_of_getElem? (i := 34) rfl)) (hw _ (List.mem_of_getElem? (i := 7) rfl)) (hw _ (List.mem_of_getElem? (i := 36) rfl)) (by decide) pd__Lcom_example_coarsen_coarsen_Fraction__I rfl rfl rfl (by decide) (by show (0 : Nat) + (7 + 11) + 31 ≤ _; decide) (by decide) (by decide) (by decide) (by decide) (pc' := 84) rfl ?_
  rintro _ _ ⟨_, rfl, rfl, rfl⟩
  show Run l Z n0 x.cls code maxLocals ret x.name room_1 _ 84 #[.val (.long q1), .second, .val (.long q2), .second, .val (.long q3), .second, .val (.long q4), .second, .val (.long na), .second, .val (.long nb), .second, .val (.long nc), .second, .val (.long nd), .second, .val (.ref b11), .val (.ref b13), .val (.int (own_ref na nb nc nd)), .unset, .unset, .unset] [(.int (own_cmp na nb nc nd))] h14 2 4
  refine Run.callS (k' := 2) (n' := 4) (as := [(.int (own_cmp na nb nc nd))]) (rest := []) (con_own_sign l Z a0 hw n0 h14 sz14 (own_cmp na nb nc nd) ) at_84 (hw _ (List.mem_of_getElem? (i := 50) rfl)) (hw _ (List.mem_of_getElem? (i := 51) rfl)) (hw _ (List.mem_of_getElem? (i := 25) rfl)) (hw _ (List.mem_of_getElem? (i := 52) rfl)) (by decide) pd__I_I rfl rfl rfl (by decide) (by show (0 : Nat) + (1 + 11) + 0 ≤ _; decide) (by decide) (by decide) (by decide) (by decide) (pc' := 87) rfl ?_
  rintro _ _ ⟨_, rfl, rfl, rfl⟩
  show Run l Z n0 x.cls code maxLocals ret x.name room_1 _ 87 #[.val (.long q1), .second, .val (.long q2), .second, .val (.long q3), .second, .val (.long q4), .second, .val (.long na), .second, .val (.long nb), .second, .val (.long nc), .second, .val (.long nd), .second, .val (.ref b11), .val (.ref b13), .val (.int (own_ref na nb nc nd)), .unset, .unset, .unset] [(.int (own_sign (own_cmp na nb nc nd)))] h14 2 4
  refine Run.istore (l' := #[.val (.long q1), .second, .val (.long q2), .second, .val (.long q3), .second, .val (.long q4), .second, .val (.long na), .second, .val (.long nb), .second, .val (.long nc), .second, .val (.long nd), .second, .val (.ref b11), .val (.ref b13), .val (.int (own_ref na nb nc nd)), .val (.int (own_sign (own_cmp na nb nc nd))), .unset, .unset]) at_87 rfl (pc' := 89) rfl ?_
  refine Run.aload at_89 rfl rfl (pc' := 91) rfl ?_
  refine Run.aload at_91 rfl rfl (pc' := 93) rfl ?_
  refine Run.callV (k' := 2) (n' := 4) (a := b13) (as := [(.ref b11)]) (rest := []) (con_own_cmp l Z a0 hw n0 h14 sz14 b13 b11 nc nd na nb P14 Q14 F_b11_numerator_14 F_b11_denominator_14 ) E_b13_14 at_93 (hw _ (List.mem_of_getElem? (i := 32) rfl)) (hw _ (List.mem_of_getElem? (i := 33) rfl)) (fun s hZ => notFace_of_selects (args := #[]) (mvT hZ (hw _ (List.mem_of_getElem? (i := 35) rfl)))) (hw _ (List.mem_of_getElem? (i := 35) rfl)) (hw _ (List.mem_of_getElem? (i := 34) rfl)) (hw _ (List.mem_of_getElem? (i := 7) rfl)) (hw _ (List.mem_of_getElem? (i := 36) rfl)) (by decide) pd__Lcom_example_coarsen_coarsen_Fraction__I rfl rfl rfl (by decide) (by show (0 : Nat) + (7 + 11) + 31 ≤ _; decide) (by decide) (by decide) (by decide) (by decide) (pc' := 96) rfl ?_
  rintro _ _ ⟨_, rfl, rfl, rfl⟩
  show Run l Z n0 x.cls code maxLocals ret x.name room_1 _ 96 #[.val (.long q1), .second, .val (.long q2), .second, .val (.long q3), .second, .val (.long q4), .second, .val (.long na), .second, .val (.long nb), .second, .val (.long nc), .second, .val (.long nd), .second, .val (.ref b11), .val (.ref b13), .val (.int (own_ref na nb nc nd)), .val (.int (own_sign (own_cmp na nb nc nd))), .unset, .unset] [(.int (own_cmp nc nd na nb))] h14 2 4
  refine Run.callS (k' := 2) (n' := 4) (as := [(.int (own_cmp nc nd na nb))]) (rest := []) (con_own_sign l Z a0 hw n0 h14 sz14 (own_cmp nc nd na nb) ) at_96 (hw _ (List.mem_of_getElem? (i := 50) rfl)) (hw _ (List.mem_of_getElem? (i := 51) rfl)) (hw _ (List.mem_of_getElem? (i := 25) rfl)) (hw _ (List.mem_of_getElem? (i := 52) rfl)) (by decide) pd__I_I rfl rfl rfl (by decide) (by show (0 : Nat) + (1 + 11) + 0 ≤ _; decide) (by decide) (by decide) (by decide) (by decide) (pc' := 99) rfl ?_
  rintro _ _ ⟨_, rfl, rfl, rfl⟩
  show Run l Z n0 x.cls code maxLocals ret x.name room_1 _ 99 #[.val (.long q1), .second, .val (.long q2), .second, .val (.long q3), .second, .val (.long q4), .second, .val (.long na), .second, .val (.long nb), .second, .val (.long nc), .second, .val (.long nd), .second, .val (.ref b11), .val (.ref b13), .val (.int (own_ref na nb nc nd)), .val (.int (own_sign (own_cmp na nb nc nd))), .unset, .unset] [(.int (own_sign (own_cmp nc nd na nb)))] h14 2 4
  refine Run.istore (l' := #[.val (.long q1), .second, .val (.long q2), .second, .val (.long q3), .second, .val (.long q4), .second, .val (.long na), .second, .val (.long nb), .second, .val (.long nc), .second, .val (.long nd), .second, .val (.ref b11), .val (.ref b13), .val (.int (own_ref na nb nc nd)), .val (.int (own_sign (own_cmp na nb nc nd))), .val (.int (own_sign (own_cmp nc nd na nb))), .unset]) at_99 rfl (pc' := 101) rfl ?_
  refine Run.aload at_101 rfl rfl (pc' := 103) rfl ?_
  refine Run.aload at_103 rfl rfl (pc' := 105) rfl ?_
  refine Run.callV (k' := 2) (n' := 4) (a := b11) (as := [(.ref b11)]) (rest := []) (con_own_cmp l Z a0 hw n0 h14 sz14 b11 b11 na nb na nb F_b11_numerator_14 F_b11_denominator_14 F_b11_numerator_14 F_b11_denominator_14 ) E_b11_14 at_105 (hw _ (List.mem_of_getElem? (i := 32) rfl)) (hw _ (List.mem_of_getElem? (i := 33) rfl)) (fun s hZ => notFace_of_selects (args := #[]) (mvT hZ (hw _ (List.mem_of_getElem? (i := 35) rfl)))) (hw _ (List.mem_of_getElem? (i := 35) rfl)) (hw _ (List.mem_of_getElem? (i := 34) rfl)) (hw _ (List.mem_of_getElem? (i := 7) rfl)) (hw _ (List.mem_of_getElem? (i := 36) rfl)) (by decide) pd__Lcom_example_coarsen_coarsen_Fraction__I rfl rfl rfl (by decide) (by show (0 : Nat) + (7 + 11) + 31 ≤ _; decide) (by decide) (by decide) (by decide) (by decide) (pc' := 108) rfl ?_
  rintro _ _ ⟨_, rfl, rfl, rfl⟩
  show Run l Z n0 x.cls code maxLocals ret x.name room_1 _ 108 #[.val (.long q1), .second, .val (.long q2), .second, .val (.long q3), .second, .val (.long q4), .second, .val (.long na), .second, .val (.long nb), .second, .val (.long nc), .second, .val (.long nd), .second, .val (.ref b11), .val (.ref b13), .val (.int (own_ref na nb nc nd)), .val (.int (own_sign (own_cmp na nb nc nd))), .val (.int (own_sign (own_cmp nc nd na nb))), .unset] [(.int (own_cmp na nb na nb))] h14 2 4
  refine Run.callS (k' := 2) (n' := 4) (as := [(.int (own_cmp na nb na nb))]) (rest := []) (con_own_sign l Z a0 hw n0 h14 sz14 (own_cmp na nb na nb) ) at_108 (hw _ (List.mem_of_getElem? (i := 50) rfl)) (hw _ (List.mem_of_getElem? (i := 51) rfl)) (hw _ (List.mem_of_getElem? (i := 25) rfl)) (hw _ (List.mem_of_getElem? (i := 52) rfl)) (by decide) pd__I_I rfl rfl rfl (by decide) (by show (0 : Nat) + (1 + 11) + 0 ≤ _; decide) (by decide) (by decide) (by decide) (by decide) (pc' := 111) rfl ?_
  rintro _ _ ⟨_, rfl, rfl, rfl⟩
  show Run l Z n0 x.cls code maxLocals ret x.name room_1 _ 111 #[.val (.long q1), .second, .val (.long q2), .second, .val (.long q3), .second, .val (.long q4), .second, .val (.long na), .second, .val (.long nb), .second, .val (.long nc), .second, .val (.long nd), .second, .val (.ref b11), .val (.ref b13), .val (.int (own_ref na nb nc nd)), .val (.int (own_sign (own_cmp na nb nc nd))), .val (.int (own_sign (own_cmp nc nd na nb))), .unset] [(.int (own_sign (own_cmp na nb na nb)))] h14 2 4
  refine Run.istore (l' := #[.val (.long q1), .second, .val (.long q2), .second, .val (.long q3), .second, .val (.long q4), .second, .val (.long na), .second, .val (.long nb), .second, .val (.long nc), .second, .val (.long nd), .second, .val (.ref b11), .val (.ref b13), .val (.int (own_ref na nb nc nd)), .val (.int (own_sign (own_cmp na nb nc nd))), .val (.int (own_sign (own_cmp nc nd na nb))), .val (.int (own_sign (own_cmp na nb na nb)))]) at_111 rfl (pc' := 113) rfl ?_
  refine Run.iload at_113 rfl (pc' := 115) rfl ?_
  refine Run.iload at_115 rfl (pc' := 117) rfl ?_
  refine Run.icmp_ne at_117 (by decide) (pc' := 137) (by decide) (pa := 120) rfl (fun hc117 => ?_) (fun hc117 => ?_)
  · -- pc 117 taken: ¬ (own_sign (own_cmp na nb nc nd)) = (own_ref na nb nc nd)
    exact absurd (own_xy h_na h_nb h_nc h_nd) hc117
  · -- pc 117 not taken: (own_sign (own_cmp na nb nc nd)) = (own_ref na nb nc nd)
    refine Run.iload at_120 rfl (pc' := 122) rfl ?_
    refine Run.iload at_122 rfl (pc' := 124) rfl ?_
    refine Run.ineg at_124 (pc' := 125) rfl ?_
    refine Run.icmp_ne at_125 (by decide) (pc' := 137) (by decide) (pa := 128) rfl (fun hc125 => ?_) (fun hc125 => ?_)
    · -- pc 125 taken: ¬ (own_sign (own_cmp nc nd na nb)) = (-(own_ref na nb nc nd))
      exact absurd (own_yx h_na h_nb h_nc h_nd) hc125
    · -- pc 125 not taken: (own_sign (own_cmp nc nd na nb)) = (-(own_ref na nb nc nd))
      refine Run.iload at_128 rfl (pc' := 130) rfl ?_
      refine Run.if_ne at_130 (by decide) (pc' := 137) (by decide) (pa := 133) rfl (fun hc130 => ?_) (fun hc130 => ?_)
      · -- pc 130 taken: ¬ (own_sign (own_cmp na nb na nb)) = (0 : Int32)
        exact absurd (own_xx h_na h_nb) hc130
      · -- pc 130 not taken: (own_sign (own_cmp na nb na nb)) = (0 : Int32)
        refine Run.iconst (1 : Int32) at_133 (by decide) (pc' := 134) rfl ?_
        refine Run.goto at_134 (by decide) (pc' := 138) (by decide) ?_
        exact Run.nreturn at_138 (ty := .boolean) rfl (by simp) (by decide) (by decide) ⟨_, rfl, rfl⟩
set_option maxRecDepth 65536 in
set_option maxHeartbeats 40000000 in
theorem comes_1 {Post : Tables → Env → Array Value → State → Outcome → State → Prop} (hpost : ∀ tb e args s v u, (limb_1_1.after args s (.returned v) u = true ∧ limb_1_2.after args s (.returned v) u = true ∧ True) → FrameEnd s (.returned v) u (Jvm.fieldLocs frame_1_writes args s ++ Jvm.arrayLocs frame_1_arrays args s ++ Jvm.staticLocs frame_1_statics s) 16 128 → Post tb e args s (.returned v) u) :
    ArmFor flags0 classFile x code maxLocals ret World_1 tables_1 room_1 Calls_1 rest_1 Pre_1 Post := by
  intro l hfl _ _ p e ha hc hk s m args below hf hA hF happ hP
  obtain ⟨hcalls, hrest, hpre⟩ := hP
  obtain ⟨-, -, -, hnamed, -, -, -, hat⟩ := (Spec.applies_iff hf).mp happ
  obtain ⟨hg, hn⟩ := and_e (Cond.before_iff.mp (show (Jvm.Cond.and given_1 narrow_1).before args s = true from hpre))
  obtain ⟨hcnt, g0⟩ := and_e hg
  obtain ⟨ga0, g1⟩ := and_e g0
  obtain ⟨ga1, g2⟩ := and_e g1
  obtain ⟨ga2, g3⟩ := and_e g2
  obtain ⟨w0, w1, w2, w3, rfl⟩ : ∃ w0 w1 w2 w3 : Value, args = #[w0, w1, w2, w3] := by
    have hs : args.size = 4 := by simpa [Cond.value, given_1] using hcnt
    obtain ⟨L⟩ := args
    match L, hs with
    | [w0, w1, w2, w3], _ => exact ⟨w0, w1, w2, w3, rfl⟩
  have hw := fun d (hd : d ∈ tables_1) => atoms_spec (ws := Jvm.Cond.code x code maxLocals ret :: tables_1) hat d (List.mem_cons_of_mem _ hd)
  have hfit : Fit s := fun {y c} hc i hi => by
    obtain ⟨ha, rfl⟩ := Array.getElem?_eq_some_iff.mp hc
    have q := List.all_eq_true.mp ((Array.all_eq_true_iff_forall_mem.mp hF) _ (Array.getElem_mem ha)) i (List.mem_range.mpr hi)
    simpa [Array.getElem?_eq_getElem hi] using q
  obtain ⟨i0, e0⟩ := isL_v ga0
  obtain rfl : w0 = (.long i0) := Option.some.inj e0
  obtain ⟨i1, e1⟩ := isL_v ga1
  obtain rfl : w1 = (.long i1) := Option.some.inj e1
  obtain ⟨i2, e2⟩ := isL_v ga2
  obtain rfl : w2 = (.long i2) := Option.some.inj e2
  obtain ⟨i3, e3⟩ := isL_v g3
  obtain rfl : w3 = (.long i3) := Option.some.inj e3
  obtain ⟨n, o, h1, h2, h3, _, L, rfl, ⟨⟨_, rfl, rfl⟩, N⟩, hq⟩ := con0 l s _ hw s.heap.size s.heap (Nat.le_refl _) i0 i1 i2 i3 tables_1 p e ha hc hk s m _ below hf ((Spec.applies_iff_loose hf).mp happ).1 ⟨rfl, State.Warmed39.refl s, rfl⟩ trivial
  refine ⟨n, _, h1, h2, h3, hpost _ _ _ _ _ _ ⟨Cond.after_iff.mpr rfl, Cond.after_iff.mpr (eq_i res_at (Term.int_eval (1)) rfl), trivial⟩ ⟨hq.1, hq.2.1, (hq.2.2.sift fun y hy => Or.inr (N y hy)).mono (by decide) (by decide)⟩⟩
theorem main_1_1 : Claimed_1_1 := comes_1 fun _ _ _ _ _ _ h hF => ⟨h.1, hF⟩
theorem main_1_2 : Claimed_1_2 := comes_1 fun _ _ _ _ _ _ h hF => ⟨h.2.1, hF⟩
end Jvm.Pilot.@@N@@
namespace Jvm.Pilot.@@N@@
open Jvm Jvm.ClassFile Sem Op Lib Jvm.Free Jvm.Stand Jvm.Pilot.@@N@@.Jvm.D
/-! MADE BY PROGRAM (witnessworld.py) out of the Statement's table words and the real class files: 16 classes; the members and pool entries that the words name. The judged class is class 1, her method 4. -/
namespace start1
open Jvm.ClassFile
def u (s : String) : CpInfo := .utf8 (stringToUtf16 s)
/-- a pool by its gaps: so many unusable entries, then the entry; so many at the end -/
def gap : Nat → List CpInfo → List CpInfo
  | 0, r => r
  | n + 1, r => .unusable :: gap n r
def poolList (es : List (Nat × CpInfo)) (last : Nat) : List CpInfo := es.foldr (fun e r => gap e.1 (e.2 :: r)) (gap last [])
def pool (es : List (Nat × CpInfo)) (last : Nat) : Array CpInfo := ⟨poolList es last⟩
def fileOf (pool : Array CpInfo) (this : Nat) (attrs : Array Attribute := #[]) (ms : Array MethodInfo := #[]) (fl : Nat := 33) (sup : Nat := 0) (ifs : Array Nat := #[]) (fds : Array FieldInfo := #[]) : ClassFile where
  minorVersion := 0
  majorVersion := 65
  constantPool := pool
  accessFlags := fl
  thisClass := this
  superClass := sup
  interfaces := ifs
  fields := fds
  methods := ms
  attributes := attrs
def plain (name : String) (sup : Option ClassId) : Class where
  name := name
  kind := .ordinary
  loader := none
  accessFlags := 33
  super := sup
  interfaces := #[]
  cf := none
  fields := #[]
  methods := #[]
  instanceTypes := #[]
  staticTypes := #[]
  resolved := #[]
  callSites := []
  init := .initialized
  statics := none
  mirror := none

def pool0 : Array CpInfo := pool [(5, u "<init>"), (0, u "()V"), (1, .class_ 10), (1, u "java/lang/Object")] 113

def k0c0 : Code := { maxStack := 0, maxLocals := 1, code := object_method_1_code, exceptionTable := #[], attributes := #[] }
def k0m0 : Method := { name := "<init>", desc := "()V", sig := { parameters := [], returnType := none }, accessFlags := 1, code := some k0c0 }
/-- java/lang/Object -/
def k0 : Class := { plain "java/lang/Object" none with
  accessFlags := 33
  interfaces := #[]
  cf := some (fileOf pool0 8 #[] #[{ accessFlags := 1, nameIndex := 5, descriptorIndex := 6, attributes := #[] }] 33 0 #[] #[])
  fields := #[]
  methods := #[k0m0]
  instanceTypes := #[]
  staticTypes := #[]
  resolved := Array.replicate 124 none
  statics := none }

def pool1 : Array CpInfo := pool [(2, .class_ 4), (1, u "java/lang/Object"), (0, u "<init>"), (0, u "()V"), (0, .long 4294967295), (1, .methodref 10 11), (0, .class_ 12), (0, .nameAndType 13 14), (0, u "com/example/coarsen/coarsen/FractionCompareToPinLaw"), (0, u "high"), (0, u "(JJ)J"), (2, .long 9223372036854775808), (1, .long 9223372036854775807), (1, .methodref 22 23), (0, .class_ 24), (0, .nameAndType 25 14), (0, u "java/lang/Math"), (0, u "max"), (0, .class_ 27), (0, u "com/example/coarsen/coarsen/Fraction"), (0, .methodref 26 29), (0, .nameAndType 5 30), (0, u "(JJ)V"), (0, .methodref 10 32), (0, .nameAndType 33 34), (0, u "ref"), (0, u "(JJJJ)I"), (0, .methodref 26 36), (0, .nameAndType 37 38), (0, u "compareTo"), (0, u "(Lcom/example/coarsen/coarsen/Fraction;)I"), (0, .methodref 10 40), (0, .nameAndType 41 42), (0, u "sign"), (0, u "(I)I"), (3, u "law"), (0, u "(JJJJ)Z")] 2

def k1m0 : Method := { name := "<init>", desc := "()V", sig := { parameters := [], returnType := none }, accessFlags := 2, code := none }
def k1c1 : Code := { maxStack := 6, maxLocals := 22, code := method_2_code, exceptionTable := #[], attributes := #[] }
def k1m1 : Method := { name := "high", desc := "(JJ)J", sig := { parameters := [.long, .long], returnType := some .long }, accessFlags := 10, code := some k1c1 }
def k1c2 : Code := { maxStack := 4, maxLocals := 16, code := method_3_code, exceptionTable := #[], attributes := #[] }
def k1m2 : Method := { name := "ref", desc := "(JJJJ)I", sig := { parameters := [.long, .long, .long, .long], returnType := some .int }, accessFlags := 10, code := some k1c2 }
def k1c3 : Code := { maxStack := 1, maxLocals := 1, code := method_4_code, exceptionTable := #[], attributes := #[] }
def k1m3 : Method := { name := "sign", desc := "(I)I", sig := { parameters := [.int], returnType := some .int }, accessFlags := 10, code := some k1c3 }
def k1c4 : Code := { maxStack := 8, maxLocals := 22, code := code, exceptionTable := #[], attributes := #[] }
def k1m4 : Method := { name := "law", desc := "(JJJJ)Z", sig := { parameters := [.long, .long, .long, .long], returnType := some .boolean }, accessFlags := 9, code := some k1c4 }
/-- com/example/coarsen/coarsen/FractionCompareToPinLaw -/
def k1 : Class := { plain "com/example/coarsen/coarsen/FractionCompareToPinLaw" (some 0) with
  accessFlags := 49
  interfaces := #[]
  cf := some (fileOf pool1 10 #[] #[{ accessFlags := 2, nameIndex := 5, descriptorIndex := 6, attributes := #[] }, { accessFlags := 10, nameIndex := 13, descriptorIndex := 14, attributes := #[] }, { accessFlags := 10, nameIndex := 33, descriptorIndex := 34, attributes := #[] }, { accessFlags := 10, nameIndex := 41, descriptorIndex := 42, attributes := #[] }, { accessFlags := 9, nameIndex := 46, descriptorIndex := 47, attributes := #[] }] 49 2 #[] #[])
  fields := #[]
  methods := #[k1m0, k1m1, k1m2, k1m3, k1m4]
  instanceTypes := #[]
  staticTypes := #[]
  resolved := Array.replicate 50 none
  statics := none }

def pool2 : Array CpInfo := pool [(1, .class_ 2), (0, u "java/lang/Math"), (1, .class_ 6), (1, u "java/lang/Object"), (0, u "<init>"), (0, u "()V"), (89, .class_ 100), (1, u "java/lang/Math$RandomNumberGeneratorHolder"), (20, u "(JJ)J"), (16, .long 4294967295), (3, u "multiplyHigh"), (29, u "negativeZeroFloatBits"), (0, u "J"), (2, u "negativeZeroDoubleBits"), (21, u "max"), (46, u "$assertionsDisabled"), (0, u "Z"), (91, u "twoToTheDoubleScaleDown"), (0, u "D"), (4, u "twoToTheDoubleScaleUp"), (9, u "E"), (3, u "PI"), (2, u "TAU"), (2, u "DEGREES_TO_RADIANS"), (0, u "RADIANS_TO_DEGREES")] 94

def k2m0 : Method := { name := "<init>", desc := "()V", sig := { parameters := [], returnType := none }, accessFlags := 2, code := none }
def k2c1 : Code := { maxStack := 6, maxLocals := 20, code := jdk_29_method_45_code, exceptionTable := #[], attributes := #[] }
def k2m1 : Method := { name := "multiplyHigh", desc := "(JJ)J", sig := { parameters := [.long, .long], returnType := some .long }, accessFlags := 9, code := some k2c1 }
def k2c2 : Code := { maxStack := 4, maxLocals := 4, code := jdk_29_method_66_code, exceptionTable := #[], attributes := #[] }
def k2m2 : Method := { name := "max", desc := "(JJ)J", sig := { parameters := [.long, .long], returnType := some .long }, accessFlags := 9, code := some k2c2 }
/-- java/lang/Math -/
def k2 : Class := { plain "java/lang/Math" (some 0) with
  accessFlags := 49
  interfaces := #[]
  cf := some (fileOf pool2 1 #[.nestMembers #[98]] #[{ accessFlags := 2, nameIndex := 7, descriptorIndex := 8, attributes := #[] }, { accessFlags := 9, nameIndex := 142, descriptorIndex := 121, attributes := #[] }, { accessFlags := 9, nameIndex := 198, descriptorIndex := 121, attributes := #[] }] 49 4 #[] #[{ accessFlags := 25, nameIndex := 354, descriptorIndex := 339, attributes := #[] }, { accessFlags := 25, nameIndex := 358, descriptorIndex := 339, attributes := #[] }, { accessFlags := 25, nameIndex := 361, descriptorIndex := 339, attributes := #[] }, { accessFlags := 26, nameIndex := 364, descriptorIndex := 339, attributes := #[] }, { accessFlags := 26, nameIndex := 365, descriptorIndex := 339, attributes := #[] }, { accessFlags := 26, nameIndex := 172, descriptorIndex := 173, attributes := #[] }, { accessFlags := 26, nameIndex := 176, descriptorIndex := 173, attributes := #[] }, { accessFlags := 8, nameIndex := 344, descriptorIndex := 339, attributes := #[] }, { accessFlags := 8, nameIndex := 338, descriptorIndex := 339, attributes := #[] }, { accessFlags := 4120, nameIndex := 245, descriptorIndex := 246, attributes := #[] }])
  fields := #[{ name := "E", type := .double, accessFlags := 25, slot := 0, constantValue := 0 }, { name := "PI", type := .double, accessFlags := 25, slot := 1, constantValue := 0 }, { name := "TAU", type := .double, accessFlags := 25, slot := 2, constantValue := 0 }, { name := "DEGREES_TO_RADIANS", type := .double, accessFlags := 26, slot := 3, constantValue := 0 }, { name := "RADIANS_TO_DEGREES", type := .double, accessFlags := 26, slot := 4, constantValue := 0 }, { name := "negativeZeroFloatBits", type := .long, accessFlags := 26, slot := 5, constantValue := 0 }, { name := "negativeZeroDoubleBits", type := .long, accessFlags := 26, slot := 6, constantValue := 0 }, { name := "twoToTheDoubleScaleUp", type := .double, accessFlags := 8, slot := 7, constantValue := 0 }, { name := "twoToTheDoubleScaleDown", type := .double, accessFlags := 8, slot := 8, constantValue := 0 }, { name := "$assertionsDisabled", type := .boolean, accessFlags := 4120, slot := 9, constantValue := 0 }]
  methods := #[k2m0, k2m1, k2m2]
  instanceTypes := #[]
  staticTypes := #[.double, .double, .double, .double, .double, .long, .long, .double, .double, .boolean]
  resolved := Array.replicate 460 none
  statics := none }

def pool3 : Array CpInfo := pool [(1, .methodref 2 3), (0, .class_ 4), (0, .nameAndType 5 6), (0, u "java/lang/Object"), (0, u "<init>"), (0, u "()V"), (0, .class_ 8), (0, u "java/lang/Record")] 13

def k3c0 : Code := { maxStack := 1, maxLocals := 1, code := jdk_30_method_1_code, exceptionTable := #[], attributes := #[] }
def k3m0 : Method := { name := "<init>", desc := "()V", sig := { parameters := [], returnType := none }, accessFlags := 4, code := some k3c0 }
/-- java/lang/Record -/
def k3 : Class := { plain "java/lang/Record" (some 0) with
  accessFlags := 1057
  interfaces := #[]
  cf := some (fileOf pool3 7 #[] #[{ accessFlags := 4, nameIndex := 5, descriptorIndex := 6, attributes := #[] }] 1057 2 #[] #[])
  fields := #[]
  methods := #[k3m0]
  instanceTypes := #[]
  staticTypes := #[]
  resolved := Array.replicate 22 none
  statics := none }

def pool4 : Array CpInfo := pool [(1, .class_ 2), (0, u "java/lang/Comparable"), (0, .class_ 4), (0, u "java/lang/Object")] 7

/-- java/lang/Comparable -/
def k4 : Class := { plain "java/lang/Comparable" (some 0) with
  accessFlags := 1537
  interfaces := #[]
  cf := some (fileOf pool4 1 #[] #[] 1537 3 #[] #[])
  fields := #[]
  methods := #[]
  instanceTypes := #[]
  staticTypes := #[]
  resolved := Array.replicate 12 none
  statics := none }

def pool5 : Array CpInfo := pool [(1, .methodref 2 3), (0, .class_ 4), (0, .nameAndType 5 6), (0, u "java/lang/Record"), (0, u "<init>"), (0, u "()V"), (9, .fieldref 17 18), (0, .class_ 19), (0, .nameAndType 20 21), (0, u "com/example/coarsen/coarsen/Fraction"), (0, u "numerator"), (0, u "J"), (0, .fieldref 17 23), (0, .nameAndType 24 21), (0, u "denominator"), (11, .class_ 38), (1, u "java/lang/Math"), (26, u "(JJ)V"), (0, .methodref 36 67), (0, .nameAndType 68 69), (0, u "multiplyHigh"), (0, u "(JJ)J"), (0, .methodref 71 72), (0, .class_ 73), (0, .nameAndType 74 75), (0, u "java/lang/Long"), (0, u "compare"), (0, u "(JJ)I"), (0, .methodref 71 77), (0, .nameAndType 78 75), (0, u "compareUnsigned"), (2, u "compareTo"), (0, u "(Lcom/example/coarsen/coarsen/Fraction;)I"), (11, .class_ 95), (0, u "java/lang/Comparable"), (0, u "MOST_DECIMALS"), (0, u "I")] 42

def k5c0 : Code := { maxStack := 6, maxLocals := 5, code := prog_3_method_1_code, exceptionTable := #[], attributes := #[] }
def k5m0 : Method := { name := "<init>", desc := "(JJ)V", sig := { parameters := [.long, .long], returnType := none }, accessFlags := 0, code := some k5c0 }
def k5c1 : Code := { maxStack := 6, maxLocals := 7, code := prog_3_method_3_code, exceptionTable := #[], attributes := #[] }
def k5m1 : Method := { name := "compareTo", desc := "(Lcom/example/coarsen/coarsen/Fraction;)I", sig := { parameters := [(.object "com/example/coarsen/coarsen/Fraction")], returnType := some .int }, accessFlags := 1, code := some k5c1 }
/-- com/example/coarsen/coarsen/Fraction -/
def k5 : Class := { plain "com/example/coarsen/coarsen/Fraction" (some 3) with
  accessFlags := 48
  interfaces := #[4]
  cf := some (fileOf pool5 17 #[] #[{ accessFlags := 0, nameIndex := 5, descriptorIndex := 65, attributes := #[] }, { accessFlags := 1, nameIndex := 81, descriptorIndex := 82, attributes := #[] }] 48 2 #[94] #[{ accessFlags := 18, nameIndex := 20, descriptorIndex := 21, attributes := #[] }, { accessFlags := 18, nameIndex := 24, descriptorIndex := 21, attributes := #[] }, { accessFlags := 24, nameIndex := 96, descriptorIndex := 97, attributes := #[] }])
  fields := #[{ name := "numerator", type := .long, accessFlags := 18, slot := 0, constantValue := 0 }, { name := "denominator", type := .long, accessFlags := 18, slot := 1, constantValue := 0 }, { name := "MOST_DECIMALS", type := .int, accessFlags := 24, slot := 0, constantValue := 0 }]
  methods := #[k5m0, k5m1]
  instanceTypes := #[.long, .long]
  staticTypes := #[.int]
  resolved := Array.replicate 140 none
  statics := none }

def pool6 : Array CpInfo := pool [(1, .class_ 2), (0, u "java/io/Serializable"), (0, .class_ 4), (0, u "java/lang/Object")] 2

/-- java/io/Serializable -/
def k6 : Class := { plain "java/io/Serializable" (some 0) with
  accessFlags := 1537
  interfaces := #[]
  cf := some (fileOf pool6 1 #[] #[] 1537 3 #[] #[])
  fields := #[]
  methods := #[]
  instanceTypes := #[]
  staticTypes := #[]
  resolved := Array.replicate 7 none
  statics := none }

def pool7 : Array CpInfo := pool [(2, .class_ 4), (1, u "java/lang/Object"), (0, u "<init>"), (0, u "()V"), (1, .class_ 10), (1, u "java/lang/Number"), (2, .class_ 14), (0, u "java/io/Serializable"), (0, u "serialVersionUID"), (0, u "J")] 20

def k7m0 : Method := { name := "<init>", desc := "()V", sig := { parameters := [], returnType := none }, accessFlags := 1, code := none }
/-- java/lang/Number -/
def k7 : Class := { plain "java/lang/Number" (some 0) with
  accessFlags := 1057
  interfaces := #[6]
  cf := some (fileOf pool7 8 #[] #[{ accessFlags := 1, nameIndex := 5, descriptorIndex := 6, attributes := #[] }] 1057 2 #[13] #[{ accessFlags := 26, nameIndex := 15, descriptorIndex := 16, attributes := #[] }])
  fields := #[{ name := "serialVersionUID", type := .long, accessFlags := 26, slot := 0, constantValue := 0 }]
  methods := #[k7m0]
  instanceTypes := #[]
  staticTypes := #[.long]
  resolved := Array.replicate 37 none
  statics := none }

def pool8 : Array CpInfo := pool [(1, .class_ 2), (0, u "java/lang/constant/Constable"), (0, .class_ 4), (0, u "java/lang/Object")] 6

/-- java/lang/constant/Constable -/
def k8 : Class := { plain "java/lang/constant/Constable" (some 0) with
  accessFlags := 1537
  interfaces := #[]
  cf := some (fileOf pool8 1 #[] #[] 1537 3 #[] #[])
  fields := #[]
  methods := #[]
  instanceTypes := #[]
  staticTypes := #[]
  resolved := Array.replicate 11 none
  statics := none }

def pool9 : Array CpInfo := pool [(1, .class_ 2), (0, u "java/lang/constant/ConstantDesc"), (0, .class_ 4), (0, u "java/lang/Object")] 32

/-- java/lang/constant/ConstantDesc -/
def k9 : Class := { plain "java/lang/constant/ConstantDesc" (some 0) with
  accessFlags := 1537
  interfaces := #[]
  cf := some (fileOf pool9 1 #[] #[] 1537 3 #[] #[])
  fields := #[]
  methods := #[]
  instanceTypes := #[]
  staticTypes := #[]
  resolved := Array.replicate 37 none
  statics := none }

def pool10 : Array CpInfo := pool [(1, .class_ 2), (0, u "java/lang/Long"), (165, .long 9223372036854775808), (66, .class_ 237), (1, u "java/lang/Long$LongCache"), (33, .class_ 272), (0, u "java/lang/Number"), (2, u "value"), (0, u "J"), (25, .methodref 1 303), (0, .nameAndType 304 305), (0, u "compare"), (0, u "(JJ)I"), (55, u "TYPE"), (0, u "Ljava/lang/Class;"), (0, .class_ 364), (0, u "java/lang/Comparable"), (0, .class_ 366), (0, u "java/lang/constant/Constable"), (0, .class_ 368), (0, u "java/lang/constant/ConstantDesc"), (0, u "MIN_VALUE"), (1, u "MAX_VALUE"), (4, u "SIZE"), (0, u "I"), (1, u "BYTES"), (1, u "serialVersionUID"), (87, u "compareUnsigned")] 54

def k10c0 : Code := { maxStack := 4, maxLocals := 4, code := jdk_35_method_42_code, exceptionTable := #[], attributes := #[] }
def k10m0 : Method := { name := "compare", desc := "(JJ)I", sig := { parameters := [.long, .long], returnType := some .int }, accessFlags := 9, code := some k10c0 }
def k10c1 : Code := { maxStack := 6, maxLocals := 4, code := jdk_35_method_43_code, exceptionTable := #[], attributes := #[] }
def k10m1 : Method := { name := "compareUnsigned", desc := "(JJ)I", sig := { parameters := [.long, .long], returnType := some .int }, accessFlags := 9, code := some k10c1 }
/-- java/lang/Long -/
def k10 : Class := { plain "java/lang/Long" (some 7) with
  accessFlags := 49
  interfaces := #[4, 8, 9]
  cf := some (fileOf pool10 1 #[.nestMembers #[235]] #[{ accessFlags := 9, nameIndex := 304, descriptorIndex := 305, attributes := #[] }, { accessFlags := 9, nameIndex := 469, descriptorIndex := 305, attributes := #[] }] 49 271 #[363, 365, 367] #[{ accessFlags := 25, nameIndex := 369, descriptorIndex := 276, attributes := #[] }, { accessFlags := 25, nameIndex := 371, descriptorIndex := 276, attributes := #[] }, { accessFlags := 25, nameIndex := 361, descriptorIndex := 362, attributes := #[] }, { accessFlags := 18, nameIndex := 275, descriptorIndex := 276, attributes := #[] }, { accessFlags := 25, nameIndex := 376, descriptorIndex := 377, attributes := #[] }, { accessFlags := 25, nameIndex := 379, descriptorIndex := 377, attributes := #[] }, { accessFlags := 26, nameIndex := 381, descriptorIndex := 276, attributes := #[] }])
  fields := #[{ name := "MIN_VALUE", type := .long, accessFlags := 25, slot := 0, constantValue := 0 }, { name := "MAX_VALUE", type := .long, accessFlags := 25, slot := 1, constantValue := 0 }, { name := "TYPE", type := (.object "java/lang/Class"), accessFlags := 25, slot := 2, constantValue := 0 }, { name := "value", type := .long, accessFlags := 18, slot := 0, constantValue := 0 }, { name := "SIZE", type := .int, accessFlags := 25, slot := 3, constantValue := 0 }, { name := "BYTES", type := .int, accessFlags := 25, slot := 4, constantValue := 0 }, { name := "serialVersionUID", type := .long, accessFlags := 26, slot := 5, constantValue := 0 }]
  methods := #[k10m0, k10m1]
  instanceTypes := #[.long]
  staticTypes := #[.long, .long, (.object "java/lang/Class"), .int, .int, .long]
  resolved := Array.replicate 524 none
  statics := none }

def pool11 : Array CpInfo := pool [(1, u "java/lang/Cloneable"), (0, .class_ 1), (0, u "java/lang/Object"), (0, .class_ 3)] 3

/-- java/lang/Cloneable -/
def k11 : Class := { plain "java/lang/Cloneable" (some 0) with
  accessFlags := 1537
  interfaces := #[]
  cf := some (fileOf pool11 2 #[] #[] 1537 4 #[] #[])
  fields := #[]
  methods := #[]
  instanceTypes := #[]
  staticTypes := #[]
  resolved := Array.replicate 8 none
  statics := none }

/-- the primitive byte -/
def k12 : Class := { plain "byte" none with kind := .primitive 'B', accessFlags := 0x411 }
/-- [B -/
def k13 : Class := { plain "[B" (some 0) with kind := .array 12 .byte, interfaces := #[11, 6], accessFlags := 1041 }

/-- the primitive int -/
def k14 : Class := { plain "int" none with kind := .primitive 'I', accessFlags := 0x411 }
/-- [I -/
def k15 : Class := { plain "[I" (some 0) with kind := .array 14 .int, interfaces := #[11, 6], accessFlags := 1041 }

def heap : Heap := #[]
def classes : Array Class := #[k0, k1, k2, k3, k4, k5, k6, k7, k8, k9, k10, k11, k12, k13, k14, k15]
def interned : List (Array UInt16 × Addr) := []
def slotsUsed : Nat := 0
def theMethod : MethodId := ⟨1, 4⟩
def args0 : Array Value := #[.long 5, .long 3, .long 7, .long 2]
def aboutOver (below : List Frame) : State where
  vm := { classes := classes, interned := interned.toArray }
  heap := heap
  slotsUsed := slotsUsed
  threads := #[{ frames := .invoking theMethod args0 :: below }]
def below0 : List Frame := [.native { method := ⟨0, 0⟩, args := #[] }]
def about1 : State := aboutOver below0
def p0 : Program := .bare "" "" ""
def e0 : Env := launch0.env 0 0 0
theorem w_frames : about1.frames = Frame.invoking theMethod args0 :: below0 := rfl
set_option maxRecDepth 65536 in
theorem w_args : argsFit about1.vm theMethod args0 = true := by decide +kernel
set_option maxRecDepth 65536 in
theorem w_heap : heapFits about1 = true := by decide +kernel
set_option maxRecDepth 65536 in
theorem w_runnable : about1.curStatus? = some .runnable := by decide +kernel
set_option maxRecDepth 65536 in
theorem w_alone : about1.alone = true := by decide +kernel
set_option maxRecDepth 65536 in
theorem w_named : about1.methodNamed? x = some theMethod := by decide +kernel
set_option maxRecDepth 65536 in
theorem w_hears : about1.hears theMethod below0 = true := by decide +kernel
set_option maxRecDepth 65536 in
theorem w_ripe : about1.ripe theMethod args0 below0 = true := by decide +kernel
theorem w_running : about1.status = .running := rfl
set_option maxRecDepth 65536 in
theorem w_room : about1.hasRoom e0.platform room_1 = true :=
  launch0.hasRoom_least _ room_1 (by decide +kernel) (by decide +kernel) (by decide +kernel) (by decide +kernel) (by decide +kernel) (by decide +kernel)
theorem allAtoms_all (ts : List Jvm.Cond) (a : Array Jvm.Value) (st : Jvm.State) : (allAtoms ts).before a st = ts.all (fun c => c.before a st) := by
  induction ts with
  | nil => rfl
  | cons c t ih =>
    show (Jvm.Cond.and c (allAtoms t)).before a st = _
    rw [Jvm.Cond.before_and, ih, List.all_cons]
def words1 : List Jvm.Cond := Jvm.Cond.code x code maxLocals ret :: tables_1
/-- a 'code' word, met by the world's own term for the bytes: nothing is compared byte by byte -/
theorem code_word {y : MethodName} {bytes : ByteArray} {mx : Nat} {rt : Option FieldType} {a : Array Value} {s : State} {m : MethodId} {meth : Method} {c : Code} (h1 : s.methodNamed? y = some m) (h2 : s.vm.method? m = some meth) (h3 : meth.code = some c) (h4 : c.code = bytes)
    (h5 : (c.maxLocals == mx && c.exceptionTable.isEmpty && decide (c.maxStack ≤ mostOperands) && decide (meth.sig.returnType = rt) && !meth.locks && decide (parseMethodDescriptor y.desc = some meth.sig)) = true) : (Jvm.Cond.code y bytes mx rt).before a s = true := by
  simp only [Bool.and_eq_true, beq_iff_eq, Bool.not_eq_true', decide_eq_true_eq] at h5
  obtain ⟨⟨⟨⟨⟨g1, g2⟩, g3⟩, g4⟩, g5⟩, g6⟩ := h5
  simp [Cond.before, Cond.holds, Cond.value, h1, h2, h3, h4, g1, g2, g3, g4, g5, g6]
def isCode : Jvm.Cond → Bool
  | .code _ _ _ _ => true
  | _ => false
theorem all_split {L : List Jvm.Cond} {P : Jvm.Cond → Bool} (h1 : L.all (fun c => isCode c || P c) = true) (h2 : ∀ c ∈ L.filter isCode, P c = true) : L.all P = true := by
  refine List.all_eq_true.mpr fun c hc => ?_
  have h := List.all_eq_true.mp h1 c hc
  rcases Bool.eq_false_or_eq_true (isCode c) with hi | hi
  · exact h2 c (List.mem_filter.mpr ⟨hc, hi⟩)
  · simpa [hi] using h
set_option maxRecDepth 65536 in
theorem w_c0 : (Jvm.Cond.code x code maxLocals ret).before args0 about1 = true := code_word (m := ⟨1, 4⟩) (meth := k1m4) (c := k1c4) (by decide +kernel) rfl rfl rfl (by decide +kernel)
set_option maxRecDepth 65536 in
theorem w_c1 : (Jvm.Cond.code ({ cls := "java/lang/Math", name := "max", desc := "(JJ)J" } : Jvm.MethodName) jdk_29_method_66_code (4 : Nat) (Option.some Jvm.ClassFile.FieldType.long)).before args0 about1 = true := code_word (m := ⟨2, 2⟩) (meth := k2m2) (c := k2c2) (by decide +kernel) rfl rfl rfl (by decide +kernel)
set_option maxRecDepth 65536 in
theorem w_c2 : (Jvm.Cond.code ({ cls := "com/example/coarsen/coarsen/Fraction", name := "<init>", desc := "(JJ)V" } : Jvm.MethodName) prog_3_method_1_code (5 : Nat) (Option.none : Option Jvm.ClassFile.FieldType)).before args0 about1 = true := code_word (m := ⟨5, 0⟩) (meth := k5m0) (c := k5c0) (by decide +kernel) rfl rfl rfl (by decide +kernel)
set_option maxRecDepth 65536 in
theorem w_c3 : (Jvm.Cond.code ({ cls := "java/lang/Record", name := "<init>", desc := "()V" } : Jvm.MethodName) jdk_30_method_1_code (1 : Nat) (Option.none : Option Jvm.ClassFile.FieldType)).before args0 about1 = true := code_word (m := ⟨3, 0⟩) (meth := k3m0) (c := k3c0) (by decide +kernel) rfl rfl rfl (by decide +kernel)
set_option maxRecDepth 65536 in
theorem w_c4 : (Jvm.Cond.code ({ cls := "java/lang/Object", name := "<init>", desc := "()V" } : Jvm.MethodName) object_method_1_code (1 : Nat) (Option.none : Option Jvm.ClassFile.FieldType)).before args0 about1 = true := code_word (m := ⟨0, 0⟩) (meth := k0m0) (c := k0c0) (by decide +kernel) rfl rfl rfl (by decide +kernel)
set_option maxRecDepth 65536 in
theorem w_c5 : (Jvm.Cond.code ({ cls := "com/example/coarsen/coarsen/FractionCompareToPinLaw", name := "ref", desc := "(JJJJ)I" } : Jvm.MethodName) method_3_code (16 : Nat) (Option.some Jvm.ClassFile.FieldType.int)).before args0 about1 = true := code_word (m := ⟨1, 2⟩) (meth := k1m2) (c := k1c2) (by decide +kernel) rfl rfl rfl (by decide +kernel)
set_option maxRecDepth 65536 in
theorem w_c6 : (Jvm.Cond.code ({ cls := "com/example/coarsen/coarsen/FractionCompareToPinLaw", name := "high", desc := "(JJ)J" } : Jvm.MethodName) method_2_code (22 : Nat) (Option.some Jvm.ClassFile.FieldType.long)).before args0 about1 = true := code_word (m := ⟨1, 1⟩) (meth := k1m1) (c := k1c1) (by decide +kernel) rfl rfl rfl (by decide +kernel)
set_option maxRecDepth 65536 in
theorem w_c7 : (Jvm.Cond.code ({ cls := "com/example/coarsen/coarsen/Fraction", name := "compareTo", desc := "(Lcom/example/coarsen/coarsen/Fraction;)I" } : Jvm.MethodName) prog_3_method_3_code (7 : Nat) (Option.some Jvm.ClassFile.FieldType.int)).before args0 about1 = true := code_word (m := ⟨5, 1⟩) (meth := k5m1) (c := k5c1) (by decide +kernel) rfl rfl rfl (by decide +kernel)
set_option maxRecDepth 65536 in
theorem w_c8 : (Jvm.Cond.code ({ cls := "java/lang/Math", name := "multiplyHigh", desc := "(JJ)J" } : Jvm.MethodName) jdk_29_method_45_code (20 : Nat) (Option.some Jvm.ClassFile.FieldType.long)).before args0 about1 = true := code_word (m := ⟨2, 1⟩) (meth := k2m1) (c := k2c1) (by decide +kernel) rfl rfl rfl (by decide +kernel)
set_option maxRecDepth 65536 in
theorem w_c9 : (Jvm.Cond.code ({ cls := "java/lang/Long", name := "compare", desc := "(JJ)I" } : Jvm.MethodName) jdk_35_method_42_code (4 : Nat) (Option.some Jvm.ClassFile.FieldType.int)).before args0 about1 = true := code_word (m := ⟨10, 0⟩) (meth := k10m0) (c := k10c0) (by decide +kernel) rfl rfl rfl (by decide +kernel)
set_option maxRecDepth 65536 in
theorem w_c10 : (Jvm.Cond.code ({ cls := "java/lang/Long", name := "compareUnsigned", desc := "(JJ)I" } : Jvm.MethodName) jdk_35_method_43_code (4 : Nat) (Option.some Jvm.ClassFile.FieldType.int)).before args0 about1 = true := code_word (m := ⟨10, 1⟩) (meth := k10m1) (c := k10c1) (by decide +kernel) rfl rfl rfl (by decide +kernel)
set_option maxRecDepth 65536 in
theorem w_c11 : (Jvm.Cond.code ({ cls := "com/example/coarsen/coarsen/FractionCompareToPinLaw", name := "sign", desc := "(I)I" } : Jvm.MethodName) method_4_code (1 : Nat) (Option.some Jvm.ClassFile.FieldType.int)).before args0 about1 = true := code_word (m := ⟨1, 3⟩) (meth := k1m3) (c := k1c3) (by decide +kernel) rfl rfl rfl (by decide +kernel)
def codes1 : List Jvm.Cond := [Jvm.Cond.code x code maxLocals ret, Jvm.Cond.code ({ cls := "java/lang/Math", name := "max", desc := "(JJ)J" } : Jvm.MethodName) jdk_29_method_66_code (4 : Nat) (Option.some Jvm.ClassFile.FieldType.long), Jvm.Cond.code ({ cls := "com/example/coarsen/coarsen/Fraction", name := "<init>", desc := "(JJ)V" } : Jvm.MethodName) prog_3_method_1_code (5 : Nat) (Option.none : Option Jvm.ClassFile.FieldType), Jvm.Cond.code ({ cls := "java/lang/Record", name := "<init>", desc := "()V" } : Jvm.MethodName) jdk_30_method_1_code (1 : Nat) (Option.none : Option Jvm.ClassFile.FieldType), Jvm.Cond.code ({ cls := "java/lang/Object", name := "<init>", desc := "()V" } : Jvm.MethodName) object_method_1_code (1 : Nat) (Option.none : Option Jvm.ClassFile.FieldType), Jvm.Cond.code ({ cls := "com/example/coarsen/coarsen/FractionCompareToPinLaw", name := "ref", desc := "(JJJJ)I" } : Jvm.MethodName) method_3_code (16 : Nat) (Option.some Jvm.ClassFile.FieldType.int), Jvm.Cond.code ({ cls := "com/example/coarsen/coarsen/FractionCompareToPinLaw", name := "high", desc := "(JJ)J" } : Jvm.MethodName) method_2_code (22 : Nat) (Option.some Jvm.ClassFile.FieldType.long), Jvm.Cond.code ({ cls := "com/example/coarsen/coarsen/Fraction", name := "compareTo", desc := "(Lcom/example/coarsen/coarsen/Fraction;)I" } : Jvm.MethodName) prog_3_method_3_code (7 : Nat) (Option.some Jvm.ClassFile.FieldType.int), Jvm.Cond.code ({ cls := "java/lang/Math", name := "multiplyHigh", desc := "(JJ)J" } : Jvm.MethodName) jdk_29_method_45_code (20 : Nat) (Option.some Jvm.ClassFile.FieldType.long), Jvm.Cond.code ({ cls := "java/lang/Long", name := "compare", desc := "(JJ)I" } : Jvm.MethodName) jdk_35_method_42_code (4 : Nat) (Option.some Jvm.ClassFile.FieldType.int), Jvm.Cond.code ({ cls := "java/lang/Long", name := "compareUnsigned", desc := "(JJ)I" } : Jvm.MethodName) jdk_35_method_43_code (4 : Nat) (Option.some Jvm.ClassFile.FieldType.int), Jvm.Cond.code ({ cls := "com/example/coarsen/coarsen/FractionCompareToPinLaw", name := "sign", desc := "(I)I" } : Jvm.MethodName) method_4_code (1 : Nat) (Option.some Jvm.ClassFile.FieldType.int)]
set_option maxRecDepth 65536 in
theorem codes_eq : words1.filter isCode = codes1 := rfl
theorem w_codes : ∀ c ∈ words1.filter isCode, c.before args0 about1 = true := by
  rw [codes_eq]
  intro c hc
  simp only [codes1, List.mem_cons, List.not_mem_nil, or_false] at hc
  rcases hc with rfl | rfl | rfl | rfl | rfl | rfl | rfl | rfl | rfl | rfl | rfl | rfl
  · exact w_c0
  · exact w_c1
  · exact w_c2
  · exact w_c3
  · exact w_c4
  · exact w_c5
  · exact w_c6
  · exact w_c7
  · exact w_c8
  · exact w_c9
  · exact w_c10
  · exact w_c11
set_option maxRecDepth 65536 in
theorem w_t1 : (words1.take 24).all (fun c => isCode c || c.before args0 about1) = true := by decide +kernel
set_option maxRecDepth 65536 in
theorem w_t2 : ((words1.drop 24).take 24).all (fun c => isCode c || c.before args0 about1) = true := by decide +kernel
set_option maxRecDepth 65536 in
theorem w_t3 : ((words1.drop 24).drop 24).all (fun c => isCode c || c.before args0 about1) = true := by decide +kernel
theorem w_tables : (allAtoms (Jvm.Cond.code x code maxLocals ret :: tables_1)).before args0 about1 = true := by
  rw [allAtoms_all]
  show words1.all (fun c => c.before args0 about1) = true
  refine all_split ?_ w_codes
  rw [← List.take_append_drop 24 words1, List.all_append, w_t1, ← List.take_append_drop 24 (words1.drop 24), List.all_append, w_t2, w_t3]
  rfl
set_option maxRecDepth 65536 in
theorem w_case : (Jvm.Cond.and given_1 narrow_1).before args0 about1 = true := by decide +kernel
theorem w_applies : (headSpec (Jvm.Cond.code x code maxLocals ret :: tables_1) room_1).applies x e0.platform about1 = true :=
  (Spec.applies_iff w_frames).mpr ⟨w_running, w_runnable, w_alone, w_named, w_hears, w_ripe, w_room, w_tables⟩
theorem atStart : AtStart classFile x code maxLocals ret World_1 tables_1 room_1 Calls_1 rest_1 Pre_1 launch0 p0 e0 about1 theMethod args0 below0 :=
  ⟨lists_1, trivial, launch0.admits_env _ _ _, launch0.least_env, fairChoices_fair.cas, fairChoices_fair.clock, w_frames, w_args, w_heap, w_applies, trivial, trivial, w_case⟩
end start1
theorem witness_1 : WitnessClaimed_1 := ⟨start1.p0, start1.e0, start1.about1, start1.theMethod, start1.args0, start1.below0, start1.atStart⟩
end Jvm.Pilot.@@N@@
