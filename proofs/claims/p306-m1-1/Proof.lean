import JvmDerived
import JvmDerived.Pilot.@@N@@Statement
import JvmDerived.Pilot.@@N@@Code
set_option linter.unusedVariables false
set_option linter.unusedSimpArgs false
@@BLOCK:LamKit.lean.txt@@
namespace Jvm.GoKit
open Sem ClassFile Op Lib Jvm.Stand Jvm.Free Jvm.LawKit Jvm.RoadKit
/-! my own layer: a body's run in continuation style, over the library's Stand laws -/
def Val (P : Value → Heap → Prop) (v : Option Value) (h : Heap) : Prop := ∃ w, v = some w ∧ P w h
def Vd (P : Heap → Prop) (v : Option Value) (h : Heap) : Prop := v = none ∧ P h
def PV (w : Value) (h0 : Heap) (w' : Value) (h : Heap) : Prop := w = w' ∧ h0 = h
def Ctx (Z : State) (own : String) (code : ByteArray) (maxL : Nat) (ret : Option FieldType) (nm : MethodName) (p : Program) (s : State) (m : MethodId) (meth : Method) (c : Code) : Prop :=
  p.tables.exec = Jvm.exec ∧ Z.Warmed39 s.vm ∧ s.vm.findClass own = some m.cls ∧ c.code = code ∧ c.maxLocals = maxL ∧ meth.sig.returnType = ret ∧ meth.locks = false ∧ meth.name = nm.name ∧ s.methodNamed? nm = some m
def Go (p : Program) (e : Env) (below : List Frame) (s : State) (n0 K N : Nat) (Q : Option Value → Heap → Prop) (S : State) : Prop :=
  ∃ s₂ v L, Steps p.tables e below S s₂ ∧ s₂.status = .running ∧ Ended s₂ below (.returned v) ∧ (Q v s₂.heap ∧ Fr n0 L) ∧ FrameEnd s (.returned v) s₂ L K N
def Run (l : Launch) (Z : State) (n0 : Nat) (own : String) (code : ByteArray) (maxL : Nat) (ret : Option FieldType) (nm : MethodName) (R : Room) (Q : Option Value → Heap → Prop) (pc : Nat) (Ls : Array Slot) (st : List Value) (h : Heap) (k n : Nat) : Prop :=
  ∀ (p : Program) (e : Env) (s : State) (m : MethodId) (args : Array Value) (below : List Frame) (meth : Method) (c : Code) (T : State) (locs : List Loc) (cells slots : Nat),
    Ctx Z own code maxL ret nm p s m meth c → Stand p l e R s m args below meth c T locs cells slots → T.heap = h → Fr n0 locs → cells ≤ k → slots ≤ n →
    Go p e below s n0 R.cells R.slots Q (T.setTop (mkF m pc Ls st))
def Con (l : Launch) (Z : State) (n0 : Nat) (y : MethodName) (bytes : ByteArray) (maxL : Nat) (ret : Option FieldType) (rm : Room) (as : Array Value) (h : Heap) (Q : Option Value → Heap → Prop) : Prop :=
  ∀ ws, MetFree l y (head1 (Cond.code y bytes maxL ret :: ws) rm) (fun a U => a = as ∧ Z.Warmed39 U.vm ∧ U.heap = h) (fun _ _ _ _ _ => True) (fun _ U o U' => ∃ v L, o = .returned v ∧ (Q v U'.heap ∧ Fr n0 L) ∧ FrameEnd U o U' L rm.cells rm.slots)
theorem Con.of_run {l : Launch} {Z : State} {n0 : Nat} {y : MethodName} {bytes : ByteArray} {maxL : Nat} {ret : Option FieldType} {rm : Room} {as : Array Value} {h : Heap} {Q : Option Value → Heap → Prop} {Ls : Array Slot}
    (hp : plainFor y = true) (he : ∀ m, entryFrame m as maxL = mkF m 0 Ls []) (run : Run l Z n0 y.cls bytes maxL ret y rm Q 0 Ls [] h 0 0) : Con l Z n0 y bytes maxL ret rm as h Q := by
  intro ws
  refine MetFree.of_bodySF hp hisR ?_
  intro p e s m args below meth c s₁ Bd hml0 hP hK
  obtain ⟨rfl, hZ, hh⟩ := hP
  obtain ⟨s₂, v, L, h1, h2, h3, h4, h5⟩ := run p e s m _ below meth c s₁ [] 0 0 ⟨Bd.exec, hZ, findClass_of_methodNamed Bd.named, Bd.bytes, hml0, Bd.returns, Bd.notSynchronized, (name_of_methodNamed Bd.named Bd.method).1, Bd.named⟩ (Stand.of_body Bd) (by rw [← hh, Bd.state]; rfl) (Fr.nil _) (Nat.zero_le _) (Nat.zero_le _)
  exact ⟨s₂, _, castTop (he m) h1, h2, h3, v, L, rfl, h4, h5⟩
theorem Con.mono {l : Launch} {Z : State} {n0 : Nat} {y : MethodName} {bytes : ByteArray} {maxL : Nat} {ret : Option FieldType} {rm : Room} {as : Array Value} {h : Heap} {Q Q' : Option Value → Heap → Prop}
    (H : Con l Z n0 y bytes maxL ret rm as h Q) (q : ∀ v h', Q v h' → Q' v h') : Con l Z n0 y bytes maxL ret rm as h Q' := by
  intro ws p e ha hc hk s m args below hf happ hP hK
  obtain ⟨n, o, h1, h2, h3, v, L, h4, h5, h6⟩ := H ws p e ha hc hk s m args below hf happ hP hK
  exact ⟨n, o, h1, h2, h3, v, L, h4, ⟨q _ _ h5.1, h5.2⟩, h6⟩
section Walk
variable {l : Launch} {Z : State} {n0 : Nat} {own : String} {code : ByteArray} {maxL : Nat} {ret : Option FieldType} {nm : MethodName} {R : Room} {Q : Option Value → Heap → Prop} {pc pc' : Nat} {Ls : Array Slot} {st : List Value} {h : Heap} {k n k' n' : Nat}
theorem Run.via {Ls' : Array Slot} {st' : List Value} (f : ∀ (p : Program) (e : Env) (s : State) (m : MethodId) (args : Array Value) (below : List Frame) (meth : Method) (c : Code) (T : State) (locs : List Loc) (cells slots : Nat),
      Ctx Z own code maxL ret nm p s m meth c → Stand p l e R s m args below meth c T locs cells slots → T.heap = h → ∃ T', Stand p l e R s m args below meth c T' locs cells slots ∧ T'.heap = h ∧ ∀ t, Steps p.tables e below (T'.setTop (mkF m pc' Ls' st')) t → Steps p.tables e below (T.setTop (mkF m pc Ls st)) t)
    (nxt : Run l Z n0 own code maxL ret nm R Q pc' Ls' st' h k n) : Run l Z n0 own code maxL ret nm R Q pc Ls st h k n := by
  intro p e s m args below meth c T locs cells slots hC X eT hF hk hn
  obtain ⟨T', X', e', stp⟩ := f p e s m args below meth c T locs cells slots hC X eT
  obtain ⟨s₂, v, L, g1, g2⟩ := nxt p e s m args below meth c T' locs cells slots hC X' e' hF hk hn
  exact ⟨s₂, v, L, stp _ g1, g2⟩
theorem Run.stp {Ls' : Array Slot} {st' : List Value} (f : ∀ (p : Program) (e : Env) (below : List Frame) (T : State) (m : MethodId) (c : Code) (t : State), At T m c below → p.tables.exec = Jvm.exec → c.code = code → Steps p.tables e below (T.setTop (mkF m pc' Ls' st')) t → Steps p.tables e below (T.setTop (mkF m pc Ls st)) t)
    (nxt : Run l Z n0 own code maxL ret nm R Q pc' Ls' st' h k n) : Run l Z n0 own code maxL ret nm R Q pc Ls st h k n :=
  Run.via (fun p e s m args below meth c T locs cells slots hC X eT => ⟨T, X, eT, fun t q => f p e below T m c t X.here hC.1 hC.2.2.2.1 q⟩) nxt
theorem Run.iloadN {x : Fin 4} {v : Int32} (hd : decode code pc = .ok (.iload_n x, 1)) (hl : Ls[x.val]? = some (.val (.int v))) (hp : pc + 1 = pc') (nxt : Run l Z n0 own code maxL ret nm R Q pc' Ls (.int v :: st) h k n) : Run l Z n0 own code maxL ret nm R Q pc Ls st h k n := by
  subst hp
  exact Run.stp (fun p e below T m c t hA hx hc q => XS.iloadN hA hx rfl (hb hc hd) hl q) nxt
theorem Run.iload {x : Nat} {v : Int32} (hd : decode code pc = .ok (.iload x, 2)) (hl : Ls[x]? = some (.val (.int v))) (hp : pc + 2 = pc') (nxt : Run l Z n0 own code maxL ret nm R Q pc' Ls (.int v :: st) h k n) : Run l Z n0 own code maxL ret nm R Q pc Ls st h k n := by
  subst hp
  exact Run.stp (fun p e below T m c t hA hx hc q => XS.iload hA hx rfl (hb hc hd) hl q) nxt
theorem Run.aloadN {x : Fin 4} {v : Value} (hd : decode code pc = .ok (.aload_n x, 1)) (hl : Ls[x.val]? = some (.val v)) (hv : v.isRef = true) (hp : pc + 1 = pc') (nxt : Run l Z n0 own code maxL ret nm R Q pc' Ls (v :: st) h k n) : Run l Z n0 own code maxL ret nm R Q pc Ls st h k n := by
  subst hp
  exact Run.stp (fun p e below T m c t hA hx hc q => XS.aloadN hA hx rfl (hb hc hd) hl hv q) nxt
theorem Run.aload {x : Nat} {v : Value} (hd : decode code pc = .ok (.aload x, 2)) (hl : Ls[x]? = some (.val v)) (hv : v.isRef = true) (hp : pc + 2 = pc') (nxt : Run l Z n0 own code maxL ret nm R Q pc' Ls (v :: st) h k n) : Run l Z n0 own code maxL ret nm R Q pc Ls st h k n := by
  subst hp
  exact Run.stp (fun p e below T m c t hA hx hc q => XS.aload hA hx rfl (hb hc hd) hl hv q) nxt
theorem Run.iconst {i : Int} (v : Int32) (hd : decode code pc = .ok (.iconst i, 1)) (hv : Int32.ofInt i = v) (hp : pc + 1 = pc') (nxt : Run l Z n0 own code maxL ret nm R Q pc' Ls (.int v :: st) h k n) : Run l Z n0 own code maxL ret nm R Q pc Ls st h k n := by
  subst hp
  exact Run.stp (fun p e below T m c t hA hx hc q => XT.iconstV hA hx rfl v (hb hc hd) hv q) nxt
theorem Run.bipush {i : Int} (v : Int32) (hd : decode code pc = .ok (.bipush i, 2)) (hv : (Int8.ofInt i).toInt32 = v) (hp : pc + 2 = pc') (nxt : Run l Z n0 own code maxL ret nm R Q pc' Ls (.int v :: st) h k n) : Run l Z n0 own code maxL ret nm R Q pc Ls st h k n := by
  subst hp
  exact Run.stp (fun p e below T m c t hA hx hc q => XT.bipushV hA hx rfl v (hb hc hd) hv q) nxt
theorem Run.sipush {i : Int} (v : Int32) (hd : decode code pc = .ok (.sipush i, 3)) (hv : (Int16.ofInt i).toInt32 = v) (hp : pc + 3 = pc') (nxt : Run l Z n0 own code maxL ret nm R Q pc' Ls (.int v :: st) h k n) : Run l Z n0 own code maxL ret nm R Q pc Ls st h k n := by
  subst hp
  exact Run.stp (fun p e below T m c t hA hx hc q => XT.sipushV hA hx rfl v (hb hc hd) hv q) nxt
theorem Run.aconst  (hd : decode code pc = .ok (.aconst_null, 1))  (hp : pc + 1 = pc') (nxt : Run l Z n0 own code maxL ret nm R Q pc' Ls (.null :: st) h k n) : Run l Z n0 own code maxL ret nm R Q pc Ls st h k n := by
  subst hp
  exact Run.stp (fun p e below T m c t hA hx hc q => XS.aconstNull hA hx rfl (hb hc hd) q) nxt
theorem Run.istoreN {x : Fin 4} {v : Int32} (l' : Array Slot) (hd : decode code pc = .ok (.istore_n x, 1)) (hl : storeLocals Ls x.val (.int v) = some l') (hp : pc + 1 = pc') (nxt : Run l Z n0 own code maxL ret nm R Q pc' l' st h k n) : Run l Z n0 own code maxL ret nm R Q pc Ls (.int v :: st) h k n := by
  subst hp
  exact Run.stp (fun p e below T m c t hA hx hc q => XS.istoreN hA hx rfl (hb hc hd) rfl hl q) nxt
theorem Run.istore {x : Nat} {v : Int32} (l' : Array Slot) (hd : decode code pc = .ok (.istore x, 2)) (hl : storeLocals Ls x (.int v) = some l') (hp : pc + 2 = pc') (nxt : Run l Z n0 own code maxL ret nm R Q pc' l' st h k n) : Run l Z n0 own code maxL ret nm R Q pc Ls (.int v :: st) h k n := by
  subst hp
  exact Run.stp (fun p e below T m c t hA hx hc q => XS.istore hA hx rfl (hb hc hd) rfl hl q) nxt
theorem Run.astoreN {x : Fin 4} {v : Value} (l' : Array Slot) (hd : decode code pc = .ok (.astore_n x, 1)) (hv : v.isRef = true) (hl : storeLocals Ls x.val v = some l') (hp : pc + 1 = pc') (nxt : Run l Z n0 own code maxL ret nm R Q pc' l' st h k n) : Run l Z n0 own code maxL ret nm R Q pc Ls (v :: st) h k n := by
  subst hp
  exact Run.stp (fun p e below T m c t hA hx hc q => XS.astoreN hA hx rfl (hb hc hd) rfl hv hl q) nxt
theorem Run.astore {x : Nat} {v : Value} (l' : Array Slot) (hd : decode code pc = .ok (.astore x, 2)) (hv : v.isRef = true) (hl : storeLocals Ls x v = some l') (hp : pc + 2 = pc') (nxt : Run l Z n0 own code maxL ret nm R Q pc' l' st h k n) : Run l Z n0 own code maxL ret nm R Q pc Ls (v :: st) h k n := by
  subst hp
  exact Run.stp (fun p e below T m c t hA hx hc q => XS.astore hA hx rfl (hb hc hd) rfl hv hl q) nxt
theorem Run.iinc {x : Nat} {i : Int} {u : Int32} (v : Int32) (l' : Array Slot) (hd : decode code pc = .ok (.iinc x i, 3)) (hv : Int32.ofInt i = v) (hg : Ls[x]? = some (.val (.int u))) (hl : storeLocals Ls x (.int (u + v)) = some l') (hp : pc + 3 = pc') (nxt : Run l Z n0 own code maxL ret nm R Q pc' l' st h k n) : Run l Z n0 own code maxL ret nm R Q pc Ls st h k n := by
  subst hp
  exact Run.stp (fun p e below T m c t hA hx hc q => XT.iincV hA hx rfl v (hb hc hd) hv hg hl q) nxt
theorem Run.iadd {x y : Int32} (hd : decode code pc = .ok (.iadd, 1))  (hp : pc + 1 = pc') (nxt : Run l Z n0 own code maxL ret nm R Q pc' Ls (.int (x + y) :: st) h k n) : Run l Z n0 own code maxL ret nm R Q pc Ls (.int y :: .int x :: st) h k n := by
  subst hp
  exact Run.stp (fun p e below T m c t hA hx hc q => XS.iadd hA hx rfl (hb hc hd) rfl q) nxt
theorem Run.isub {x y : Int32} (hd : decode code pc = .ok (.isub, 1))  (hp : pc + 1 = pc') (nxt : Run l Z n0 own code maxL ret nm R Q pc' Ls (.int (x - y) :: st) h k n) : Run l Z n0 own code maxL ret nm R Q pc Ls (.int y :: .int x :: st) h k n := by
  subst hp
  exact Run.stp (fun p e below T m c t hA hx hc q => XS.isub hA hx rfl (hb hc hd) rfl q) nxt
theorem Run.iand {x y : Int32} (hd : decode code pc = .ok (.iand, 1))  (hp : pc + 1 = pc') (nxt : Run l Z n0 own code maxL ret nm R Q pc' Ls (.int (x &&& y) :: st) h k n) : Run l Z n0 own code maxL ret nm R Q pc Ls (.int y :: .int x :: st) h k n := by
  subst hp
  exact Run.stp (fun p e below T m c t hA hx hc q => XS.iand hA hx rfl (hb hc hd) rfl q) nxt
theorem Run.ishr {x y : Int32} (hd : decode code pc = .ok (.ishr, 1))  (hp : pc + 1 = pc') (nxt : Run l Z n0 own code maxL ret nm R Q pc' Ls (.int (x >>> (y &&& 31)) :: st) h k n) : Run l Z n0 own code maxL ret nm R Q pc Ls (.int y :: .int x :: st) h k n := by
  subst hp
  exact Run.stp (fun p e below T m c t hA hx hc q => XT.ishr hA hx rfl (hb hc hd) rfl q) nxt
theorem Run.iushr {x y : Int32} (hd : decode code pc = .ok (.iushr, 1))  (hp : pc + 1 = pc') (nxt : Run l Z n0 own code maxL ret nm R Q pc' Ls (.int (XT.ushr x y) :: st) h k n) : Run l Z n0 own code maxL ret nm R Q pc Ls (.int y :: .int x :: st) h k n := by
  subst hp
  exact Run.stp (fun p e below T m c t hA hx hc q => XT.iushr hA hx rfl (hb hc hd) rfl q) nxt
theorem Run.i2b {x : Int32} (hd : decode code pc = .ok (.i2b, 1))  (hp : pc + 1 = pc') (nxt : Run l Z n0 own code maxL ret nm R Q pc' Ls (.int (nar .byte x) :: st) h k n) : Run l Z n0 own code maxL ret nm R Q pc Ls (.int x :: st) h k n := by
  subst hp
  exact Run.stp (fun p e below T m c t hA hx hc q => XT.i2b hA hx rfl (hb hc hd) rfl q) nxt
theorem Run.i2c {x : Int32} (hd : decode code pc = .ok (.i2c, 1))  (hp : pc + 1 = pc') (nxt : Run l Z n0 own code maxL ret nm R Q pc' Ls (.int (nar .char x) :: st) h k n) : Run l Z n0 own code maxL ret nm R Q pc Ls (.int x :: st) h k n := by
  subst hp
  exact Run.stp (fun p e below T m c t hA hx hc q => XT.i2c hA hx rfl (hb hc hd) rfl q) nxt
theorem Run.pop {x : Value} (hd : decode code pc = .ok (.pop, 1)) (hv : x.category = 1) (hp : pc + 1 = pc') (nxt : Run l Z n0 own code maxL ret nm R Q pc' Ls st h k n) : Run l Z n0 own code maxL ret nm R Q pc Ls (x :: st) h k n := by
  subst hp
  exact Run.stp (fun p e below T m c t hA hx hc q => XT.pop hA hx rfl (hb hc hd) rfl hv q) nxt
theorem Run.goto {o : Int} (hd : decode code pc = .ok (.goto o, 3)) (ho : 0 ≤ (pc : Int) + o) (hp : ((pc : Int) + o).toNat = pc') (nxt : Run l Z n0 own code maxL ret nm R Q pc' Ls st h k n) : Run l Z n0 own code maxL ret nm R Q pc Ls st h k n :=
  Run.stp (fun p e below T m c t hA hx hc q => XS.goto hA hx rfl rfl (hb hc hd) ho hp q) nxt
theorem Run.if_eq {x : Int32} {o : Int} {pa : Nat} (hd : decode code pc = .ok (.ifCond .eq o, 3)) (ho : 0 ≤ (pc : Int) + o) (hp : ((pc : Int) + o).toNat = pc') (hq : pc + 3 = pa)
    (yes : x = 0 → Run l Z n0 own code maxL ret nm R Q pc' Ls st h k n) (no : ¬ x = 0 → Run l Z n0 own code maxL ret nm R Q pa Ls st h k n) : Run l Z n0 own code maxL ret nm R Q pc Ls (.int x :: st) h k n := by
  subst hq
  by_cases hc : x = 0
  · exact Run.stp (fun p e below T m c t hA hx hb' q => XS.ifYes hA hx rfl rfl (hb hb' hd) rfl (XT.i0_eq_t hc) ho hp q) (yes hc)
  · exact Run.stp (fun p e below T m c t hA hx hb' q => XS.ifNo hA hx rfl (hb hb' hd) rfl (XT.i0_eq_f hc) q) (no hc)
theorem Run.icmp_eq {x y : Int32} {o : Int} {pa : Nat} (hd : decode code pc = .ok (.if_icmp .eq o, 3)) (ho : 0 ≤ (pc : Int) + o) (hp : ((pc : Int) + o).toNat = pc') (hq : pc + 3 = pa)
    (yes : x = y → Run l Z n0 own code maxL ret nm R Q pc' Ls st h k n) (no : ¬ x = y → Run l Z n0 own code maxL ret nm R Q pa Ls st h k n) : Run l Z n0 own code maxL ret nm R Q pc Ls (.int y :: .int x :: st) h k n := by
  subst hq
  by_cases hc : x = y
  · exact Run.stp (fun p e below T m c t hA hx hb' q => XS.icmpYes hA hx rfl rfl (hb hb' hd) rfl (XT.ii_eq_t hc) ho hp q) (yes hc)
  · exact Run.stp (fun p e below T m c t hA hx hb' q => XS.icmpNo hA hx rfl (hb hb' hd) rfl (XT.ii_eq_f hc) q) (no hc)
theorem Run.if_ne {x : Int32} {o : Int} {pa : Nat} (hd : decode code pc = .ok (.ifCond .ne o, 3)) (ho : 0 ≤ (pc : Int) + o) (hp : ((pc : Int) + o).toNat = pc') (hq : pc + 3 = pa)
    (yes : ¬ x = 0 → Run l Z n0 own code maxL ret nm R Q pc' Ls st h k n) (no : x = 0 → Run l Z n0 own code maxL ret nm R Q pa Ls st h k n) : Run l Z n0 own code maxL ret nm R Q pc Ls (.int x :: st) h k n := by
  subst hq
  by_cases hc : x = 0
  · exact Run.stp (fun p e below T m c t hA hx hb' q => XS.ifNo hA hx rfl (hb hb' hd) rfl (XT.i0_ne_f hc) q) (no (by simpa using hc))
  · exact Run.stp (fun p e below T m c t hA hx hb' q => XS.ifYes hA hx rfl rfl (hb hb' hd) rfl (XT.i0_ne_t hc) ho hp q) (yes hc)
theorem Run.icmp_ne {x y : Int32} {o : Int} {pa : Nat} (hd : decode code pc = .ok (.if_icmp .ne o, 3)) (ho : 0 ≤ (pc : Int) + o) (hp : ((pc : Int) + o).toNat = pc') (hq : pc + 3 = pa)
    (yes : ¬ x = y → Run l Z n0 own code maxL ret nm R Q pc' Ls st h k n) (no : x = y → Run l Z n0 own code maxL ret nm R Q pa Ls st h k n) : Run l Z n0 own code maxL ret nm R Q pc Ls (.int y :: .int x :: st) h k n := by
  subst hq
  by_cases hc : x = y
  · exact Run.stp (fun p e below T m c t hA hx hb' q => XS.icmpNo hA hx rfl (hb hb' hd) rfl (XT.ii_ne_f hc) q) (no (by simpa using hc))
  · exact Run.stp (fun p e below T m c t hA hx hb' q => XS.icmpYes hA hx rfl rfl (hb hb' hd) rfl (XT.ii_ne_t hc) ho hp q) (yes hc)
theorem Run.if_lt {x : Int32} {o : Int} {pa : Nat} (hd : decode code pc = .ok (.ifCond .lt o, 3)) (ho : 0 ≤ (pc : Int) + o) (hp : ((pc : Int) + o).toNat = pc') (hq : pc + 3 = pa)
    (yes : x < 0 → Run l Z n0 own code maxL ret nm R Q pc' Ls st h k n) (no : ¬ x < 0 → Run l Z n0 own code maxL ret nm R Q pa Ls st h k n) : Run l Z n0 own code maxL ret nm R Q pc Ls (.int x :: st) h k n := by
  subst hq
  by_cases hc : x < 0
  · exact Run.stp (fun p e below T m c t hA hx hb' q => XS.ifYes hA hx rfl rfl (hb hb' hd) rfl (XT.i0_lt_t hc) ho hp q) (yes hc)
  · exact Run.stp (fun p e below T m c t hA hx hb' q => XS.ifNo hA hx rfl (hb hb' hd) rfl (XT.i0_lt_f hc) q) (no hc)
theorem Run.icmp_lt {x y : Int32} {o : Int} {pa : Nat} (hd : decode code pc = .ok (.if_icmp .lt o, 3)) (ho : 0 ≤ (pc : Int) + o) (hp : ((pc : Int) + o).toNat = pc') (hq : pc + 3 = pa)
    (yes : x < y → Run l Z n0 own code maxL ret nm R Q pc' Ls st h k n) (no : ¬ x < y → Run l Z n0 own code maxL ret nm R Q pa Ls st h k n) : Run l Z n0 own code maxL ret nm R Q pc Ls (.int y :: .int x :: st) h k n := by
  subst hq
  by_cases hc : x < y
  · exact Run.stp (fun p e below T m c t hA hx hb' q => XS.icmpYes hA hx rfl rfl (hb hb' hd) rfl (XT.ii_lt_t hc) ho hp q) (yes hc)
  · exact Run.stp (fun p e below T m c t hA hx hb' q => XS.icmpNo hA hx rfl (hb hb' hd) rfl (XT.ii_lt_f hc) q) (no hc)
theorem Run.if_ge {x : Int32} {o : Int} {pa : Nat} (hd : decode code pc = .ok (.ifCond .ge o, 3)) (ho : 0 ≤ (pc : Int) + o) (hp : ((pc : Int) + o).toNat = pc') (hq : pc + 3 = pa)
    (yes : ¬ x < 0 → Run l Z n0 own code maxL ret nm R Q pc' Ls st h k n) (no : x < 0 → Run l Z n0 own code maxL ret nm R Q pa Ls st h k n) : Run l Z n0 own code maxL ret nm R Q pc Ls (.int x :: st) h k n := by
  subst hq
  by_cases hc : x < 0
  · exact Run.stp (fun p e below T m c t hA hx hb' q => XS.ifNo hA hx rfl (hb hb' hd) rfl (XT.i0_ge_f hc) q) (no (by simpa using hc))
  · exact Run.stp (fun p e below T m c t hA hx hb' q => XS.ifYes hA hx rfl rfl (hb hb' hd) rfl (XT.i0_ge_t hc) ho hp q) (yes hc)
theorem Run.icmp_ge {x y : Int32} {o : Int} {pa : Nat} (hd : decode code pc = .ok (.if_icmp .ge o, 3)) (ho : 0 ≤ (pc : Int) + o) (hp : ((pc : Int) + o).toNat = pc') (hq : pc + 3 = pa)
    (yes : ¬ x < y → Run l Z n0 own code maxL ret nm R Q pc' Ls st h k n) (no : x < y → Run l Z n0 own code maxL ret nm R Q pa Ls st h k n) : Run l Z n0 own code maxL ret nm R Q pc Ls (.int y :: .int x :: st) h k n := by
  subst hq
  by_cases hc : x < y
  · exact Run.stp (fun p e below T m c t hA hx hb' q => XS.icmpNo hA hx rfl (hb hb' hd) rfl (XT.ii_ge_f hc) q) (no (by simpa using hc))
  · exact Run.stp (fun p e below T m c t hA hx hb' q => XS.icmpYes hA hx rfl rfl (hb hb' hd) rfl (XT.ii_ge_t hc) ho hp q) (yes hc)
theorem Run.icmp_gt {x y : Int32} {o : Int} {pa : Nat} (hd : decode code pc = .ok (.if_icmp .gt o, 3)) (ho : 0 ≤ (pc : Int) + o) (hp : ((pc : Int) + o).toNat = pc') (hq : pc + 3 = pa)
    (yes : y < x → Run l Z n0 own code maxL ret nm R Q pc' Ls st h k n) (no : ¬ y < x → Run l Z n0 own code maxL ret nm R Q pa Ls st h k n) : Run l Z n0 own code maxL ret nm R Q pc Ls (.int y :: .int x :: st) h k n := by
  subst hq
  by_cases hc : y < x
  · exact Run.stp (fun p e below T m c t hA hx hb' q => XS.icmpYes hA hx rfl rfl (hb hb' hd) rfl (XT.ii_gt_t hc) ho hp q) (yes hc)
  · exact Run.stp (fun p e below T m c t hA hx hb' q => XS.icmpNo hA hx rfl (hb hb' hd) rfl (XT.ii_gt_f hc) q) (no hc)
theorem Run.icmp_le {x y : Int32} {o : Int} {pa : Nat} (hd : decode code pc = .ok (.if_icmp .le o, 3)) (ho : 0 ≤ (pc : Int) + o) (hp : ((pc : Int) + o).toNat = pc') (hq : pc + 3 = pa)
    (yes : ¬ y < x → Run l Z n0 own code maxL ret nm R Q pc' Ls st h k n) (no : y < x → Run l Z n0 own code maxL ret nm R Q pa Ls st h k n) : Run l Z n0 own code maxL ret nm R Q pc Ls (.int y :: .int x :: st) h k n := by
  subst hq
  by_cases hc : y < x
  · exact Run.stp (fun p e below T m c t hA hx hb' q => XS.icmpNo hA hx rfl (hb hb' hd) rfl (XT.ii_le_f hc) q) (no (by simpa using hc))
  · exact Run.stp (fun p e below T m c t hA hx hb' q => XS.icmpYes hA hx rfl rfl (hb hb' hd) rfl (XT.ii_le_t hc) ho hp q) (yes hc)
theorem Run.acmp_ne {x y : Value} {o : Int} {pa : Nat} (hd : decode code pc = .ok (.if_acmp .ne o, 3)) (hv : x.isRef = true) (hv' : y.isRef = true) (ho : 0 ≤ (pc : Int) + o) (hp : ((pc : Int) + o).toNat = pc') (hq : pc + 3 = pa)
    (yes : ¬ x = y → Run l Z n0 own code maxL ret nm R Q pc' Ls st h k n) (no : x = y → Run l Z n0 own code maxL ret nm R Q pa Ls st h k n) : Run l Z n0 own code maxL ret nm R Q pc Ls (y :: x :: st) h k n := by
  subst hq
  by_cases hc : x = y
  · exact Run.stp (fun p e below T m c t hA hx hb' q => XT.acmpNo hA hx rfl (hb hb' hd) rfl hv hv' (XT.aa_ne_f hc) q) (no (by simpa using hc))
  · exact Run.stp (fun p e below T m c t hA hx hb' q => XT.acmpYes hA hx rfl rfl (hb hb' hd) rfl hv hv' (XT.aa_ne_t hc) ho hp q) (yes hc)
theorem Run.ifnull {v : Value} {o : Int} {pa : Nat} (hd : decode code pc = .ok (.ifnull o, 3)) (hv : v.isRef = true) (ho : 0 ≤ (pc : Int) + o) (hp : ((pc : Int) + o).toNat = pc') (hq : pc + 3 = pa)
    (yes : v = .null → Run l Z n0 own code maxL ret nm R Q pc' Ls st h k n) (no : ¬ v = .null → Run l Z n0 own code maxL ret nm R Q pa Ls st h k n) : Run l Z n0 own code maxL ret nm R Q pc Ls (v :: st) h k n := by
  subst hq
  by_cases hc : v = .null
  · exact Run.stp (fun p e below T m c t hA hx hb' q => XT.nullYes hA hx rfl rfl (hb hb' hd) rfl hc ho hp q) (yes hc)
  · exact Run.stp (fun p e below T m c t hA hx hb' q => XT.nullNo hA hx rfl (hb hb' hd) rfl hv hc q) (no hc)
theorem Run.ifnonnull {v : Value} {o : Int} {pa : Nat} (hd : decode code pc = .ok (.ifnonnull o, 3)) (hv : v.isRef = true) (ho : 0 ≤ (pc : Int) + o) (hp : ((pc : Int) + o).toNat = pc') (hq : pc + 3 = pa)
    (yes : ¬ v = .null → Run l Z n0 own code maxL ret nm R Q pc' Ls st h k n) (no : v = .null → Run l Z n0 own code maxL ret nm R Q pa Ls st h k n) : Run l Z n0 own code maxL ret nm R Q pc Ls (v :: st) h k n := by
  subst hq
  by_cases hc : v = .null
  · exact Run.stp (fun p e below T m c t hA hx hb' q => XT.nonnullNo hA hx rfl (hb hb' hd) rfl hc q) (no hc)
  · exact Run.stp (fun p e below T m c t hA hx hb' q => XT.nonnullYes hA hx rfl rfl (hb hb' hd) rfl hv hc ho hp q) (yes hc)
/-! the pool's constants, fields, statics -/
theorem Run.getS {a0 : Array Value} {R0 O f d host : String} {i : Nat} {v : Value} (hd : decode code pc = .ok (.getstatic i, 3)) (w : (Cond.fieldLink own i R0 f d).before a0 Z = true ∨ (Cond.fieldLinkNest own i R0 f d host).before a0 Z = true) (via : Via Z R0 O f d) (F : Sta Z h O f d v) (hp : pc + 3 = pc') (nxt : Run l Z n0 own code maxL ret nm R Q pc' Ls (v :: st) h k n) : Run l Z n0 own code maxL ret nm R Q pc Ls st h k n := by
  subst hp
  exact Run.via (fun p e s m args below meth c T locs cells slots hC X eT => getS2 X hC.1 hC.2.1 hC.2.2.1 w via eT F (g := mkF m pc Ls st) rfl (hb hC.2.2.2.1 hd)) nxt
theorem Run.getF {a0 : Array Value} {R0 O f d host : String} {i : Nat} {a : Addr} {v : Value} (hd : decode code pc = .ok (.getfield i, 3)) (w : (Cond.fieldLink own i R0 f d).before a0 Z = true ∨ (Cond.fieldLinkNest own i R0 f d host).before a0 Z = true) (via : Via Z R0 O f d) (F : Fld Z h a O f d v) (hp : pc + 3 = pc') (nxt : Run l Z n0 own code maxL ret nm R Q pc' Ls (v :: st) h k n) : Run l Z n0 own code maxL ret nm R Q pc Ls (.ref a :: st) h k n := by
  subst hp
  exact Run.via (fun p e s m args below meth c T locs cells slots hC X eT => getF X hC.1 hC.2.1 hC.2.2.1 w via eT F (g := mkF m pc Ls (.ref a :: st)) rfl rfl (hb hC.2.2.2.1 hd)) nxt
/-! the returns -/
theorem Go.fin {p : Program} {e : Env} {s : State} {m : MethodId} {args : Array Value} {below : List Frame} {meth : Method} {c : Code} {T S : State} {locs : List Loc} {cells slots : Nat} {v : Option Value} (X : Stand p l e R s m args below meth c T locs cells slots) (hv : meth.sig.returnType = none → v = none) (hlk : meth.locks = false) (hF : Fr n0 locs) (hk : cells ≤ R.cells) (hn : slots ≤ R.slots) (hQ : Q v T.heap)
    (f : ∀ fs, (∀ (f : JFrame) (acts : List Action), f.method = m → f.locked = none → f.entered = [] → (doReturn e (T.setTop f) acts v).1 = T.setFrames fs) → Steps p.tables e below S (T.setFrames fs)) : Go p e below s n0 R.cells R.slots Q S := by
  obtain ⟨fs, hr, hrun, hended, hW, hsame⟩ := X.leave (v := v) hv hlk
  exact ⟨_, v, locs, f fs hr, hrun, hended, ⟨hQ, hF⟩, ⟨_, rfl⟩, hW, hsame.mono hk hn⟩
theorem Run.ireturn {z : Int32} (hd : decode code pc = .ok (.ireturn, 1)) (hret : ret = some .int) (hk : k ≤ R.cells) (hn : n ≤ R.slots) (hQ : Q (some (.int z)) h) : Run l Z n0 own code maxL ret nm R Q pc Ls (.int z :: st) h k n := by
  intro p e s m args below meth c T locs cells slots hC X eT hF hk' hn'
  subst eT
  have hr := hC.2.2.2.2.2.1
  exact Go.fin X (fun q => by rw [hr, hret] at q; cases q) hC.2.2.2.2.2.2.1 hF (Nat.le_trans hk' hk) (Nat.le_trans hn' hn) hQ (fun fs hl => retOut X hC.1 (hr.trans hret) rfl (Or.inl ⟨rfl, Or.inl rfl, z, rfl⟩) (hb hC.2.2.2.1 hd) hl)
theorem Run.nreturn {z : Int32} {ty : FieldType} (hd : decode code pc = .ok (.ireturn, 1)) (hret : ret = some ty) (ht : ty = .boolean ∨ ty = .byte ∨ ty = .char ∨ ty = .short) (hk : k ≤ R.cells) (hn : n ≤ R.slots) (hQ : Q (some (.int (nar ty z))) h) : Run l Z n0 own code maxL ret nm R Q pc Ls (.int z :: st) h k n := by
  intro p e s m args below meth c T locs cells slots hC X eT hF hk' hn'
  subst eT
  have hr := hC.2.2.2.2.2.1
  exact Go.fin X (fun q => by rw [hr, hret] at q; cases q) hC.2.2.2.2.2.2.1 hF (Nat.le_trans hk' hk) (Nat.le_trans hn' hn) hQ (fun fs hl => retN X hC.1 (hr.trans hret) ht (hb hC.2.2.2.1 hd) hl)
theorem go_narref {t : FieldType} {w : Value} (ht : t.isReference = true) (hw : w.isRef = true) : narrow t w = w := by
  cases t <;> first | rfl | (cases ht; done) | (cases w <;> first | rfl | cases hw)
theorem Run.areturn {w : Value} {ty : FieldType} (hd : decode code pc = .ok (.areturn, 1)) (hret : ret = some ty) (ht : ty.isReference = true) (hw : w.isRef = true) (hk : k ≤ R.cells) (hn : n ≤ R.slots) (hQ : Q (some w) h) : Run l Z n0 own code maxL ret nm R Q pc Ls (w :: st) h k n := by
  intro p e s m args below meth c T locs cells slots hC X eT hF hk' hn'
  subst eT
  have hr := hC.2.2.2.2.2.1
  exact Go.fin X (fun q => by rw [hr, hret] at q; cases q) hC.2.2.2.2.2.2.1 hF (Nat.le_trans hk' hk) (Nat.le_trans hn' hn) hQ (fun fs hl => retOut X hC.1 (hr.trans hret) (go_narref ht hw) (Or.inr (Or.inr (Or.inr (Or.inr ⟨rfl, ht, hw⟩)))) (hb hC.2.2.2.1 hd) hl)
theorem Run.vreturn (hd : decode code pc = .ok (.return_, 1)) (hret : ret = none) (hk : k ≤ R.cells) (hn : n ≤ R.slots) (hQ : Q none h) : Run l Z n0 own code maxL ret nm R Q pc Ls [] h k n := by
  intro p e s m args below meth c T locs cells slots hC X eT hF hk' hn'
  subst eT
  have hr := hC.2.2.2.2.2.1
  exact Go.fin X (fun _ => rfl) hC.2.2.2.2.2.2.1 hF (Nat.le_trans hk' hk) (Nat.le_trans hn' hn) hQ (fun fs hl => X.returnOut hC.1 (hr.trans hret) (hb hC.2.2.2.1 hd) hl)
/-! calls by a contract -/
theorem Run.callS {a0 : Array Value} {y : MethodName} {bytes : ByteArray} {mL : Nat} {rt : Option FieldType} {rm : Room} {as rest : List Value} {Qy : Option Value → Heap → Prop} {i : Nat} {ps : List FieldType} {rr : Option FieldType}
    (hC : Con l Z n0 y bytes mL rt rm as.toArray h Qy) (hd : decode code pc = .ok (.invokestatic i, 3)) (w1 : (Cond.methodLink own i y).before a0 Z = true) (w2 : (Cond.static y).before a0 Z = true) (w3 : (Cond.initialized y.cls).before a0 Z = true) (w4 : (Cond.code y bytes mL rt).before a0 Z = true)
    (hy : y.cls ≠ "java/lang/invoke/MethodHandle" ∧ y.cls ≠ "java/lang/invoke/VarHandle") (hds : parseMethodDescriptor y.desc = some ⟨ps, rr⟩) (hl : as.length = ps.length) (hst : st = as.reverse ++ rest) (hsz : Ls.size = maxL)
    (hf : rm.frames + 1 ≤ R.frames) (hlo : (rest.map fun v => v.category).sum + (mL + 11) + rm.locals ≤ R.locals) (hk : k + rm.cells ≤ k') (hk' : k' ≤ R.cells) (hn : n + rm.slots ≤ n') (hn' : n' ≤ R.slots) (hp : pc + 3 = pc')
    (nxt : ∀ v h', Qy v h' → Run l Z n0 own code maxL ret nm R Q pc' Ls (v.toList ++ rest) h' k' n') : Run l Z n0 own code maxL ret nm R Q pc Ls st h k n := by
  subst hp hst
  intro p e s m args below meth c T locs cells slots hX X eT hF hc hs
  obtain ⟨hx, hZ, hown, hby, hml, -⟩ := id hX
  obtain ⟨v, vm₁, ⟨B, L', cc, ss⟩, -, X', ⟨Lc, hQ, l1, y1, z1⟩, stp⟩ := Jvm.LawKit.callS X hx (y := y) hown (mvT hZ w1) (mvT hZ w2) (mvT hZ w3) (mvT hZ w4) hy (backOf (W := (rest.map fun v => v.category).sum) (Q := fun v h L => Qy v h ∧ Fr n0 L) (hC []) hZ w4 w3 hf hlo) (g := mkF m pc Ls (as.reverse ++ rest)) rfl (hsz.trans hml.symm) (argsL := as) (rest := rest) (lenOf hds hl) rfl (by show 2 * 0 + _ ≤ _; omega) (hb hby hd) (fun _ _ => ⟨rfl, eT, (by show cells + rm.cells ≤ R.cells; omega), (by show slots + rm.slots ≤ R.slots; omega)⟩)
  dsimp only [Pt.U, Pt.locs, Pt.cells, Pt.slots] at X' l1 y1 z1 stp hQ
  subst l1 y1 z1
  obtain ⟨s₂, v', L, g1, g2⟩ := nxt v _ hQ.1 p e s m args below meth c B _ _ _ hX X' rfl (Fr.app hF hQ.2) (by omega) (by omega)
  exact ⟨s₂, v', L, stp _ g1, g2⟩
theorem Run.callV {a0 : Array Value} {C : String} {y z : MethodName} {bytes : ByteArray} {mL : Nat} {rt : Option FieldType} {rm : Room} {a : Addr} {as rest : List Value} {Qy : Option Value → Heap → Prop} {i : Nat} {ps : List FieldType} {rr : Option FieldType}
    (hC : Con l Z n0 z bytes mL rt rm (.ref a :: as).toArray h Qy) (hE : Exa Z h a C) (hd : decode code pc = .ok (.invokevirtual i, 3)) (w1 : (Cond.methodLink own i y).before a0 Z = true) (w2 : (Cond.declares y).before a0 Z = true) (nf : ∀ (s : State), Z.Warmed39 s.vm → NotFace s y) (w3 : (Cond.selects C y z).before a0 Z = true) (w4 : (Cond.instanceMethod z).before a0 Z = true) (w5 : (Cond.initialized z.cls).before a0 Z = true) (w6 : (Cond.code z bytes mL rt).before a0 Z = true)
    (hy : y.cls ≠ "java/lang/invoke/MethodHandle" ∧ y.cls ≠ "java/lang/invoke/VarHandle") (hds : parseMethodDescriptor y.desc = some ⟨ps, rr⟩) (hl : as.length = ps.length) (hst : st = as.reverse ++ .ref a :: rest) (hsz : Ls.size = maxL)
    (hf : rm.frames + 1 ≤ R.frames) (hlo : (rest.map fun v => v.category).sum + (mL + 11) + rm.locals ≤ R.locals) (hk : k + rm.cells ≤ k') (hk' : k' ≤ R.cells) (hn : n + rm.slots ≤ n') (hn' : n' ≤ R.slots) (hp : pc + 3 = pc')
    (nxt : ∀ v h', Qy v h' → Run l Z n0 own code maxL ret nm R Q pc' Ls (v.toList ++ rest) h' k' n') : Run l Z n0 own code maxL ret nm R Q pc Ls st h k n := by
  subst hp hst
  intro p e s m args below meth c T locs cells slots hX X eT hF hc hs
  obtain ⟨hx, hZ, hown, hby, hml, -⟩ := id hX
  obtain ⟨cq, kq, qa, qb, qc⟩ := isOf hZ eT hE
  obtain ⟨v, vm₁, ⟨B, L', cc, ss⟩, -, X', ⟨Lc, hQ, l1, y1, z1⟩, stp⟩ := X.virtualBack hx (y := y) (z := z) hown (mvT hZ w1) (mvT hZ w2) (nf s hZ) (mvT hZ w3) (mvT hZ w4) hy (backOf (W := (rest.map fun v => v.category).sum) (Q := fun v h L => Qy v h ∧ Fr n0 L) (hC []) hZ w6 w5 hf hlo) qa qc (g := mkF m pc Ls (as.reverse ++ .ref a :: rest)) rfl (hsz.trans hml.symm) (Steps.refl _) (argsL := as) (rest := rest) (lenOf hds hl) rfl (by show 2 * 0 + _ ≤ _; omega) (hb hby hd) (fun _ _ => ⟨rfl, eT, (by show cells + rm.cells ≤ R.cells; omega), (by show slots + rm.slots ≤ R.slots; omega)⟩)
  dsimp only [Pt.U, Pt.locs, Pt.cells, Pt.slots] at X' l1 y1 z1 stp hQ
  subst l1 y1 z1
  obtain ⟨s₂, v', L, g1, g2⟩ := nxt v _ hQ.1 p e s m args below meth c B _ _ _ hX X' rfl (Fr.app hF hQ.2) (by omega) (by omega)
  exact ⟨s₂, v', L, stp.trans g1, g2⟩
theorem Run.callN {a0 : Array Value} {y : MethodName} {bytes : ByteArray} {mL : Nat} {rm : Room} {a : Addr} {as rest : List Value} {P : Heap → Prop} {i : Nat} {ps : List FieldType} {rr : Option FieldType}
    (hC : Con l Z n0 y bytes mL none rm (.ref a :: as).toArray h (Vd P)) (hy1 : y.name = "<init>") (hd : decode code pc = .ok (.invokespecial i, 3)) (w1 : (Cond.methodLink own i y).before a0 Z = true) (w2 : (Cond.instanceMethod y).before a0 Z = true) (w3 : (Cond.initialized y.cls).before a0 Z = true) (w4 : (Cond.code y bytes mL none).before a0 Z = true)
    (hy : y.cls ≠ "java/lang/invoke/MethodHandle" ∧ y.cls ≠ "java/lang/invoke/VarHandle") (hds : parseMethodDescriptor y.desc = some ⟨ps, rr⟩) (hl : as.length = ps.length) (hst : st = as.reverse ++ .ref a :: rest) (hsz : Ls.size = maxL)
    (hf : rm.frames + 1 ≤ R.frames) (hlo : (rest.map fun v => v.category).sum + (mL + 11) + rm.locals ≤ R.locals) (hk : k + rm.cells ≤ k') (hk' : k' ≤ R.cells) (hn : n + rm.slots ≤ n') (hn' : n' ≤ R.slots) (hp : pc + 3 = pc')
    (nxt : ∀ h', P h' → Run l Z n0 own code maxL ret nm R Q pc' Ls rest h' k' n') : Run l Z n0 own code maxL ret nm R Q pc Ls st h k n := by
  subst hp hst
  intro p e s m args below meth c T locs cells slots hX X eT hF hc hs
  obtain ⟨hx, hZ, hown, hby, hml, -⟩ := id hX
  obtain ⟨v, vm₁, ⟨B, L', cc, ss⟩, -, X', ⟨Lc, hQ, l1, y1, z1⟩, stp⟩ := X.specialBack hx (y := y) hy1 hown (mvT hZ w1) (mvT hZ w2) (mvT hZ w4) hy (backOf (W := (rest.map fun v => v.category).sum) (Q := fun v h L => Vd P v h ∧ Fr n0 L) (hC []) hZ w4 w3 hf hlo) (g := mkF m pc Ls (as.reverse ++ .ref a :: rest)) rfl (hsz.trans hml.symm) (Steps.refl _) (a := a) (argsL := as) (rest := rest) (lenOf hds hl) rfl (by show 2 * 0 + _ ≤ _; omega) (hb hby hd) (fun _ _ => ⟨rfl, eT, (by show cells + rm.cells ≤ R.cells; omega), (by show slots + rm.slots ≤ R.slots; omega)⟩)
  dsimp only [Pt.U, Pt.locs, Pt.cells, Pt.slots] at X' l1 y1 z1 stp hQ
  subst l1 y1 z1
  obtain ⟨⟨rfl, hP⟩, hL⟩ := hQ
  obtain ⟨s₂, v', L, g1, g2⟩ := nxt _ hP p e s m args below meth c B _ _ _ hX X' rfl (Fr.app hF hL) (by omega) (by omega)
  exact ⟨s₂, v', L, stp.trans g1, g2⟩
/-! the heap: new objects, fields written, arrays -/
theorem Run.wr {a : Addr} {sl : Nat} {v : Value} {Ls' : Array Slot} {st' : List Value} (f : ∀ (p : Program) (e : Env) (s : State) (m : MethodId) (args : Array Value) (below : List Frame) (meth : Method) (c : Code) (T : State) (locs : List Loc) (cells slots : Nat),
      Ctx Z own code maxL ret nm p s m meth c → Stand p l e R s m args below meth c T locs cells slots → T.heap = h → ∃ T' h', Stand p l e R s m args below meth c T' (locs ++ [⟨a, sl⟩]) cells slots ∧ T'.heap = h' ∧ Wr h h' a sl v ∧ ∀ t, Steps p.tables e below (T'.setTop (mkF m pc' Ls' st')) t → Steps p.tables e below (T.setTop (mkF m pc Ls st)) t)
    (ha : n0 ≤ a) (nxt : ∀ h', Wr h h' a sl v → Run l Z n0 own code maxL ret nm R Q pc' Ls' st' h' k n) : Run l Z n0 own code maxL ret nm R Q pc Ls st h k n := by
  intro p e s m args below meth c T locs cells slots hC X eT hF hk hn
  obtain ⟨T', h', X', e', W, stp⟩ := f p e s m args below meth c T locs cells slots hC X eT
  obtain ⟨s₂, v', L, g1, g2⟩ := nxt h' W p e s m args below meth c T' _ cells slots hC X' e' (Fr.snoc X' hF ha) hk hn
  exact ⟨s₂, v', L, stp _ g1, g2⟩
theorem Run.initO {a0 : Array Value} {i : Nat} {a : Addr} (hd : decode code pc = .ok (.invokespecial i, 3)) (w1 : (Cond.methodLink own i Lib.objectInit).before a0 Z = true) (w2 : (Cond.instanceMethod Lib.objectInit).before a0 Z = true) (w3 : (Cond.code Lib.objectInit ⟨#[0xb1]⟩ 1 none).before a0 Z = true)
    (hsz : Ls.size = maxL) (hf : 1 ≤ R.frames) (hl : (st.map fun v => v.category).sum + 12 ≤ R.locals) (hp : pc + 3 = pc') (nxt : Run l Z n0 own code maxL ret nm R Q pc' Ls st h k n) : Run l Z n0 own code maxL ret nm R Q pc Ls (.ref a :: st) h k n := by
  subst hp
  exact Run.via (fun p e s m args below meth c T locs cells slots hC X eT => initO X hC.1 hC.2.1 hC.2.2.1 w1 w2 w3 eT (g := mkF m pc Ls (.ref a :: st)) rfl (hsz.trans hC.2.2.2.2.1.symm) rfl (hb hC.2.2.2.1 hd) hf (W := (st.map fun v => v.category).sum) (by show 2 * 0 + _ ≤ _; omega) hl) nxt
theorem Run.putF {a0 : Array Value} {R0 O f d host C : String} {i sl : Nat} {ty : FieldType} {a : Addr} {v old : Value} (hd : decode code pc = .ok (.putfield i, 3)) (w : (Cond.fieldLink own i R0 f d).before a0 Z = true ∨ (Cond.fieldLinkNest own i R0 f d host).before a0 Z = true) (via : Via Z R0 O f d) (F : Fld Z h a O f d old) (E : Exa Z h a C)
    (L : (Cond.lays C O f d).before a0 Z = true ∨ ((Cond.laysFinal C O f d).before a0 Z = true ∧ own = O ∧ nm.name = "<init>")) (wi : (Cond.instantiable C sl).before a0 Z = true) (hty : parseFieldDescriptor d = some ty) (hnv : narrow ty v = v) (hfv : fits ty v = true) (ha : n0 ≤ a) (hp : pc + 3 = pc')
    (nxt : ∀ h', Wr h h' a (Jvm.RoadKit.slotOf Z O f d) v → Run l Z n0 own code maxL ret nm R Q pc' Ls st h' k n) : Run l Z n0 own code maxL ret nm R Q pc Ls (v :: .ref a :: st) h k n := by
  subst hp
  exact Run.wr (fun p e s m args below meth c T locs cells slots hC X eT => putF X hC.1 hC.2.1 hC.2.2.1 w via eT F E (L.imp id fun q => ⟨q.1, q.2.1, hC.2.2.2.2.2.2.2.1.trans q.2.2⟩) wi hty hnv hfv (g := mkF m pc Ls (v :: .ref a :: st)) rfl rfl (hb hC.2.2.2.1 hd)) ha nxt
theorem Run.putFN {a0 : Array Value} {R0 O f d C : String} {i sl : Nat} {ty : FieldType} {a : Addr} {v v' old : Value} (hd : decode code pc = .ok (.putfield i, 3)) (w : (Cond.fieldLink own i R0 f d).before a0 Z = true) (via : Via Z R0 O f d) (F : Fld Z h a O f d old) (E : Exa Z h a C)
    (L : (Cond.lays C O f d).before a0 Z = true ∨ ((Cond.laysFinal C O f d).before a0 Z = true ∧ own = O ∧ nm.name = "<init>")) (wi : (Cond.instantiable C sl).before a0 Z = true) (hty : parseFieldDescriptor d = some ty) (hnv : narrow ty v = v') (hfv : fits ty v' = true) (ha : n0 ≤ a) (hp : pc + 3 = pc')
    (nxt : ∀ h', Wr h h' a (Jvm.RoadKit.slotOf Z O f d) v' → Run l Z n0 own code maxL ret nm R Q pc' Ls st h' k n) : Run l Z n0 own code maxL ret nm R Q pc Ls (v :: .ref a :: st) h k n := by
  subst hp
  exact Run.wr (fun p e s m args below meth c T locs cells slots hC X eT => putFN X hC.1 hC.2.1 hC.2.2.1 w via eT F E (L.imp id fun q => ⟨q.1, q.2.1, hC.2.2.2.2.2.2.2.1.trans q.2.2⟩) wi hty hnv hfv (g := mkF m pc Ls (v :: .ref a :: st)) rfl rfl (hb hC.2.2.2.1 hd)) ha nxt
theorem Run.castY {a0 : Array Value} {K : String} {i : Nat} {a : Addr} (hd : decode code pc = .ok (.checkcast i, 3)) (w : (Cond.classLink own i K).before a0 Z = true) (F : Ins Z h a K true) (hp : pc + 3 = pc') (nxt : Run l Z n0 own code maxL ret nm R Q pc' Ls (.ref a :: st) h k n) : Run l Z n0 own code maxL ret nm R Q pc Ls (.ref a :: st) h k n := by
  subst hp
  exact Run.via (fun p e s m args below meth c T locs cells slots hC X eT => castY X hC.1 hC.2.1 hC.2.2.1 w eT F (g := mkF m pc Ls (.ref a :: st)) rfl rfl (hb hC.2.2.2.1 hd)) nxt
theorem Run.instY {a0 : Array Value} {K : String} {i : Nat} {a : Addr} (hd : decode code pc = .ok (.instanceof i, 3)) (w : (Cond.classLink own i K).before a0 Z = true) (F : Ins Z h a K true) (hp : pc + 3 = pc') (nxt : Run l Z n0 own code maxL ret nm R Q pc' Ls (.int 1 :: st) h k n) : Run l Z n0 own code maxL ret nm R Q pc Ls (.ref a :: st) h k n := by
  subst hp
  exact Run.via (fun p e s m args below meth c T locs cells slots hC X eT => instY X hC.1 hC.2.1 hC.2.2.1 w eT F (g := mkF m pc Ls (.ref a :: st)) rfl rfl (hb hC.2.2.2.1 hd)) nxt
def Ary (Z : State) (h : Heap) (a : Addr) (ty : FieldType) (vs : List Value) : Prop := ∃ c : Cell, Arr Z h a c ty ∧ c.slots.toList = vs
section Ar
variable {h' : Heap} {a b : Addr} {ty : FieldType} {vs : List Value} {sl : Nat} {v : Value} {ws : List Addr}
theorem Ary.lt (F : Ary Z h a ty vs) : a < h.size := by obtain ⟨c, A, -⟩ := F; exact A.lt
theorem Ary.ext (F : Ary Z h a ty vs) (E : Ext h h') : Ary Z h' a ty vs := by obtain ⟨c, A, r⟩ := F; exact ⟨c, A.ext E, r⟩
theorem Ary.other (F : Ary Z h b ty vs) (W : Wr h h' a sl v) (q : b ≠ a) : Ary Z h' b ty vs := by obtain ⟨c, A, r⟩ := F; exact ⟨c, A.other W q, r⟩
theorem Ary.keep (F : Ary Z h a ty vs) (K : Keep h h' ws) (q : a ∉ ws) : Ary Z h' a ty vs := by obtain ⟨c, A, r⟩ := F; exact ⟨c, ⟨K.2.1 a c A.1 q, A.2⟩, r⟩
theorem Ary.set (F : Ary Z h a ty vs) (W : Wr h h' a sl v) : Ary Z h' a ty (vs.set sl v) := by
  obtain ⟨c, A, r⟩ := F
  exact ⟨_, A.same W, by rw [← r]; simp [Cell.setSlot]⟩
theorem Ext.refl (h : Heap) : Ext h h := ⟨Nat.le_refl _, fun _ _ q => q⟩
theorem Ext.trans {h0 : Heap} (E : Ext h0 h) (E' : Ext h h') : Ext h0 h' := ⟨Nat.le_trans E.1 E'.1, fun a c q => E'.2 a c (E.2 a c q)⟩
theorem Ext.wr {h0 : Heap} (E : Ext h0 h) (W : Wr h h' a sl v) (q : h0.size ≤ a) : Ext h0 h' := by
  refine ⟨Nat.le_trans E.1 (Nat.le_of_eq W.size.symm), fun b c hb => ?_⟩
  obtain ⟨c', e1, -, -, -, e5, -⟩ := wr_at W (E.2 b c hb)
  have : b ≠ a := fun z => by subst z; exact absurd (Array.getElem?_eq_some_iff.mp hb).1 (Nat.not_lt.mpr q)
  rw [← e5 this]; exact e1
theorem Ext.keep {h0 : Heap} (E : Ext h0 h) (K : Keep h h' ws) (q : ∀ x ∈ ws, h0.size ≤ x) : Ext h0 h' :=
  ⟨Nat.le_trans E.1 K.1, fun b c hb => K.2.1 b c (E.2 b c hb) fun z => absurd (Array.getElem?_eq_some_iff.mp hb).1 (Nat.not_lt.mpr (q b z))⟩
theorem Keep.toExt (K : Keep h h' []) : Ext h h' := ⟨K.1, fun b c hb => K.2.1 b c hb nin0⟩
theorem nst_exa {C : String} (E : Exa Z h a C) : ∃ c : Cell, h[a]? = some c ∧ c.vm.isStatics = false := by obtain ⟨c, _, h1, -, -, h4, -⟩ := E; exact ⟨c, h1, h4⟩
theorem sta_keep {C f d : String} (F : Sta Z h C f d v) (K : Keep h h' ws) (q : ∀ x ∈ ws, ∃ c : Cell, h[x]? = some c ∧ c.vm.isStatics = false) : Sta Z h' C f d v := by
  obtain ⟨cf, i, k, f, st, cell, h1, h2, h3, h4, h5, h6, h7⟩ := F
  refine ⟨cf, i, k, f, st, cell, h1, h2, h3, h4, K.2.1 st cell h5 fun hx => ?_, h6, h7⟩
  obtain ⟨c, e1, e2⟩ := q st hx
  cases e1.symm.trans h5
  rw [h6] at e2; cases e2
theorem Keep.ofExt (E : Ext h h') : Keep h h' [] := (Keep.refl h []).ext E
theorem idxIn {c : Cell} {j : Int32} {i : Nat} (hj : j.toInt = (i : Int)) (hi : i < c.slots.size) : ¬ (j < 0 ∨ c.slots.size ≤ j.toNatClampNeg) ∧ j.toNatClampNeg = i := by
  have e : j.toNatClampNeg = i := by have : j.toNatClampNeg = j.toInt.toNat := rfl; rw [this, hj]; rfl
  refine ⟨fun q => ?_, e⟩
  rcases q with q | q
  · rw [Int32.lt_iff_toInt_lt, hj] at q; have : (0 : Int32).toInt = 0 := rfl; omega
  · omega
theorem sizeOf {c : Cell} (r : c.slots.toList = vs) : c.slots.size = vs.length := by rw [← r]; simp
theorem getOf {c : Cell} {i : Nat} (r : c.slots.toList = vs) (hv : vs[i]? = some v) : c.slots[i]? = some v := by rw [← r] at hv; simpa using hv
end Ar
theorem Run.alen {a : Addr} {ty : FieldType} {vs : List Value} {z : Int32} (hd : decode code pc = .ok (.arraylength, 1)) (A : Ary Z h a ty vs) (hz : vs.length.toInt32 = z) (hp : pc + 1 = pc') (nxt : Run l Z n0 own code maxL ret nm R Q pc' Ls (.int z :: st) h k n) : Run l Z n0 own code maxL ret nm R Q pc Ls (.ref a :: st) h k n := by
  subst hp hz
  obtain ⟨c0, A, r⟩ := A
  exact Run.via (fun p e s m args below meth c T locs cells slots hC X eT => ⟨T, X, eT, fun t q => X.arraylength hC.1 (by rw [eT]; exact A.1) (State.isArrayOf_alike hC.2.1.alike A.2.1) (g := mkF m pc Ls (.ref a :: st)) rfl rfl (hb hC.2.2.2.1 hd) t (by rw [sizeOf r]; exact q)⟩) nxt
theorem Run.caload {a : Addr} {vs : List Value} {j : Int32} {i : Nat} {v : Value} (hd : decode code pc = .ok (.caload, 1)) (A : Ary Z h a .char vs) (hj : j.toInt = (i : Int)) (hv : vs[i]? = some v) (hp : pc + 1 = pc') (nxt : Run l Z n0 own code maxL ret nm R Q pc' Ls (v :: st) h k n) : Run l Z n0 own code maxL ret nm R Q pc Ls (.int j :: .ref a :: st) h k n := by
  subst hp
  obtain ⟨c0, A, r⟩ := A
  obtain ⟨hin, e0⟩ := idxIn (c := c0) hj (by rw [sizeOf r]; exact (List.getElem?_eq_some_iff.mp hv).1)
  exact Run.via (fun p e s m args below meth c T locs cells slots hC X eT => ⟨T, X, eT, fun t q => X.caload hC.1 (by rw [eT]; exact A.1) (State.isArrayOf_alike hC.2.1.alike A.2.1) A.2.2 hin (by rw [e0]; exact getOf r hv) (g := mkF m pc Ls (.int j :: .ref a :: st)) rfl rfl (hb hC.2.2.2.1 hd) t q⟩) nxt
theorem Run.baload {a : Addr} {vs : List Value} {j : Int32} {i : Nat} {v : Value} (hd : decode code pc = .ok (.baload, 1)) (A : Ary Z h a .byte vs) (hj : j.toInt = (i : Int)) (hv : vs[i]? = some v) (hp : pc + 1 = pc') (nxt : Run l Z n0 own code maxL ret nm R Q pc' Ls (v :: st) h k n) : Run l Z n0 own code maxL ret nm R Q pc Ls (.int j :: .ref a :: st) h k n := by
  subst hp
  obtain ⟨c0, A, r⟩ := A
  obtain ⟨hin, e0⟩ := idxIn (c := c0) hj (by rw [sizeOf r]; exact (List.getElem?_eq_some_iff.mp hv).1)
  exact Run.via (fun p e s m args below meth c T locs cells slots hC X eT => ⟨T, X, eT, fun t q => X.baloadBytes hC.1 (by rw [eT]; exact A.1) (State.isArrayOf_alike hC.2.1.alike A.2.1) A.2.2 hin (by rw [e0]; exact getOf r hv) (g := mkF m pc Ls (.int j :: .ref a :: st)) rfl rfl (hb hC.2.2.2.1 hd) t q⟩) nxt
theorem Run.bastore {a : Addr} {vs : List Value} {j : Int32} {i : Nat} {x : Int32} (hd : decode code pc = .ok (.bastore, 1)) (A : Ary Z h a .byte vs) (hj : j.toInt = (i : Int)) (hi : i < vs.length) (ha : n0 ≤ a) (hp : pc + 1 = pc') (nxt : ∀ h', Wr h h' a i (.int (nar .byte x)) → Ary Z h' a .byte (vs.set i (.int (nar .byte x))) → Run l Z n0 own code maxL ret nm R Q pc' Ls st h' k n) : Run l Z n0 own code maxL ret nm R Q pc Ls (.int x :: .int j :: .ref a :: st) h k n := by
  subst hp
  have A' := A
  obtain ⟨c0, A, r⟩ := A
  obtain ⟨hin, e0⟩ := idxIn (c := c0) hj (by rw [sizeOf r]; exact hi)
  refine Run.wr (fun p e s m args below meth c T locs cells slots hC X eT => ?_) ha (fun h' W => nxt h' W (A'.set W))
  have q := stB X hC.1 hC.2.1 eT A hin (g := mkF m pc Ls (.int x :: .int j :: .ref a :: st)) rfl rfl (hb hC.2.2.2.1 hd)
  rw [e0] at q
  exact q
theorem Run.newP {a0 : Array Value} {aty : ArrayType} {ty : FieldType} {z : Int32} {cap m : Nat} {dv : Value} (hd : decode code pc = .ok (.newarray aty, 2)) (hty : newarray.typeOf aty = ty) (w : (Cond.arrayClass ty).before a0 Z = true) (hz : ¬ z < 0) (hcap : z.toNatClampNeg = m) (hm : m ≤ cap) (hdv : defaultValue ty = dv) (hcb : cap * 8 ≤ 536870912)
    (hk : k + 1 ≤ k') (hk' : k' ≤ R.cells) (hn : n + cap ≤ n') (hn' : n' ≤ R.slots) (hp : pc + 2 = pc')
    (nxt : ∀ h' a, a = h.size → Ext h h' → Ary Z h' a ty (List.replicate m dv) → Run l Z n0 own code maxL ret nm R Q pc' Ls (.ref a :: st) h' k' n') : Run l Z n0 own code maxL ret nm R Q pc Ls (.int z :: st) h k n := by
  subst hp hty hdv
  intro p e s m args below meth c T locs cells slots hC X eT hF hkk hnn
  obtain ⟨T', h', cA, X', e', E, A, stp⟩ := newP X hC.1 hC.2.1 w eT (g := mkF m pc Ls (.int z :: st)) rfl (hb hC.2.2.2.1 hd) rfl hz (by omega) hcb (by omega) (by omega)
  obtain ⟨s₂, v, L, g1, g2⟩ := nxt h' h.size rfl E ⟨_, A, by simp [newA, hcap]⟩ p e s m args below meth c T' locs _ _ hC X' e' hF (by omega) (by omega)
  exact ⟨s₂, v, L, stp _ g1, g2⟩
theorem Ary.toArv {h : Heap} {a : Addr} {ty : FieldType} {vs : List Value} {z : Int32} (dv : Value) (F : Ary Z h a ty vs) (hz : z.toInt = (vs.length : Int)) (hf : ∀ v ∈ vs, fits ty v = true) : ∃ kc, Arv Z h a kc ty z vs dv := by
  obtain ⟨c, A, r⟩ := F
  have hsz := sizeOf r
  have e : z.toNatClampNeg = vs.length := by have : z.toNatClampNeg = z.toInt.toNat := rfl; rw [this, hz]; rfl
  refine ⟨c.cls, c, A, rfl, by rw [e, hsz], ?_, fun j hj => ?_, fun j hj => ?_⟩
  · rw [Int32.lt_iff_toInt_lt, hz]; have : (0 : Int32).toInt = 0 := rfl; omega
  · have hj' : j < vs.length := by omega
    rw [getOf r (List.getElem?_eq_getElem hj')]
    simp [List.getD_eq_getElem?_getD, List.getElem?_eq_getElem hj']
  · have hj' : j < vs.length := by omega
    have q := hf _ (List.getElem_mem hj')
    simpa [List.getD_eq_getElem?_getD, List.getElem?_eq_getElem hj'] using q
theorem Ary.ofArv {h : Heap} {a : Addr} {ty : FieldType} {vs : List Value} {z : Int32} {dv : Value} {kc : ClassId} (F : Arv Z h a kc ty z vs dv) (hz : z.toInt = (vs.length : Int)) : Ary Z h a ty vs := by
  obtain ⟨c, A, -, S, -, H, -⟩ := F
  have e : z.toNatClampNeg = vs.length := by have : z.toNatClampNeg = z.toInt.toNat := rfl; rw [this, hz]; rfl
  refine ⟨c, A, List.ext_getElem? fun j => ?_⟩
  by_cases hj : j < vs.length
  · have q := H j (by omega)
    rw [Array.getElem?_toList, q]
    simp [List.getD_eq_getElem?_getD, List.getElem?_eq_getElem hj]
  · rw [List.getElem?_eq_none (l := c.slots.toList) (by rw [Array.length_toList]; omega), List.getElem?_eq_none (l := vs) (by omega)]
theorem Run.acopyG {a0 : Array Value} {ix i j m : Nat} {a b : Addr} {ty : FieldType} {vs us : List Value} {z z1 z' sp dp : Int32} (hd : decode code pc = .ok (.invokestatic ix, 3)) (w1 : (Cond.methodLink own ix Jvm.Stand.acN).before a0 Z = true) (w2 : (Cond.native Jvm.Stand.acN).before a0 Z = true) (w3 : (Cond.static Jvm.Stand.acN).before a0 Z = true) (w4 : (Cond.initialized "java/lang/System").before a0 Z = true)
    (A : Ary Z h a ty vs) (B : Ary Z h b ty us) (hk : refKind ty = false) (hz1 : z1.toInt = (vs.length : Int)) (hz' : z'.toInt = (us.length : Int)) (hz : z.toInt = (m : Int)) (hsp : sp.toInt = (i : Int)) (hdp : dp.toInt = (j : Int)) (hle : i + m ≤ vs.length) (hle' : j + m ≤ us.length) (fa : ∀ v ∈ vs, fits ty v = true) (fb : ∀ v ∈ us, fits ty v = true) (ge : n0 ≤ b)
    (hsz : Ls.size = maxL) (hf : 1 ≤ R.frames) (hl : (st.map fun v => v.category).sum + (nativeFrameWords "java/lang/System" "arraycopy" 5 + 11) ≤ R.locals) (hp : pc + 3 = pc')
    (nxt : ∀ h', Keep h h' [b] → Ary Z h' b ty (us.take j ++ (vs.drop i).take m ++ us.drop (j + m)) → Run l Z n0 own code maxL ret nm R Q pc' Ls st h' k n) : Run l Z n0 own code maxL ret nm R Q pc Ls (.int z :: .int dp :: .ref b :: .int sp :: .ref a :: st) h k n := by
  subst hp
  intro p e s m' args below meth c T locs cells slots hC X eT hF hkk hnn
  obtain ⟨k1, A1⟩ := A.toArv (z := z1) .null hz1 fa
  obtain ⟨k2, B1⟩ := B.toArv (z := z') .null hz' fb
  have cl : ∀ {x : Int32} {q : Nat}, x.toInt = (q : Int) → x.toNatClampNeg = q ∧ ¬ x < 0 := fun {x q} hx => ⟨by have : x.toNatClampNeg = x.toInt.toNat := rfl; rw [this, hx]; rfl, by rw [Int32.lt_iff_toInt_lt, hx]; have : (0 : Int32).toInt = 0 := rfl; omega⟩
  have e0 := cl hz; have e1 := cl hz1; have e2 := cl hz'; have e3 := cl hsp; have e4 := cl hdp
  have hus : (vs.drop i).take m = (List.range z.toNatClampNeg).map fun q => vs.getD (sp.toNatClampNeg + q) .null := by
    rw [e0.1, e3.1]
    apply List.ext_getElem?
    intro q
    by_cases hj : q < m
    · rw [List.getElem?_take_of_lt hj, List.getElem?_drop]; simp [hj, List.getD_eq_getElem?_getD, show i + q < vs.length by omega]
    · rw [List.getElem?_eq_none (by simp; omega), List.getElem?_eq_none (by simp; omega)]
  obtain ⟨T', h', L, X', e', N', K, B', stp⟩ := cpA X hC.1 hC.2.1 hC.2.2.1 w1 w2 w3 w4 eT A1 B1 (Or.inl ⟨rfl, hk⟩) e3.2 e4.2 e0.2 (by rw [e0.1, e1.1, e3.1]; exact hle) (by rw [e0.1, e2.1, e4.1]; exact hle') hus (by rw [e0.1, e4.1]; exact hle') hF ge (g := mkF m' pc Ls (.int z :: .int dp :: .ref b :: .int sp :: .ref a :: st)) rfl (hsz.trans hC.2.2.2.2.1.symm) rfl (hb hC.2.2.2.1 hd) hf (W := (st.map fun v => v.category).sum) (by show 2 * 0 + _ ≤ _; omega) hl
  rw [e4.1, e0.1] at B'
  have hB := Ary.ofArv B' (by rw [hz']; simp; omega)
  obtain ⟨s₂, v, L2, g1, g2⟩ := nxt h' K hB p e s m' args below meth c T' L cells slots hC X' e' N' hkk hnn
  exact ⟨s₂, v, L2, stp _ g1, g2⟩
end Walk
end Jvm.GoKit
namespace Jvm.GoKit
open Sem ClassFile Op Lib Jvm.Stand Jvm.Free Jvm.LawKit Jvm.RoadKit
/-! the wide twin: walks that may load String constants cold; vm: the tables as they stand but for what is warmed narrowly -/
def GoW (p : Program) (e : Env) (below : List Frame) (Z s : State) (EL : List (String × Nat)) (n0 K N : Nat) (Q : Option Value → Heap → Prop) (S : State) : Prop :=
  ∃ s₂ v L, Steps p.tables e below S s₂ ∧ s₂.status = .running ∧ Ended s₂ below (.returned v) ∧ (Q v s₂.heap ∧ Fr n0 L) ∧ CHr Z EL s.vm s.heap s₂.vm s₂.heap ∧ ReturnedEndW s (.returned v) s₂ L K N
def RunW (l : Launch) (Z : State) (EL : List (String × Nat)) (n0 : Nat) (own : String) (code : ByteArray) (maxL : Nat) (ret : Option FieldType) (nm : MethodName) (R : Room) (Q : Option Value → Heap → Prop) (pc : Nat) (Ls : Array Slot) (st : List Value) (h : Heap) (vm : Vm) (k n : Nat) : Prop :=
  ∀ (p : Program) (e : Env) (s : State) (m : MethodId) (args : Array Value) (below : List Frame) (meth : Method) (c : Code) (T : State) (locs : List Loc) (cells slots k0 : Nat),
    Ctx Z own code maxL ret nm p (s.setVm vm) m meth c → Stand p l e R (s.setVm vm) m args below meth c T locs cells slots → s.Since vm k0 → k0 ≤ h.size → CHr Z EL s.vm s.heap vm h → (∃ a0, EW Z a0 EL) → T.heap = h → Fr n0 locs → cells ≤ k → slots ≤ n →
    GoW p e below Z s EL n0 R.cells R.slots Q (T.setTop (mkF m pc Ls st))
def ConW (l : Launch) (Z : State) (EL : List (String × Nat)) (n0 : Nat) (y : MethodName) (bytes : ByteArray) (maxL : Nat) (ret : Option FieldType) (rm : Room) (as : Array Value) (h : Heap) (sf : List Addr) (Q : Option Value → Heap → Prop) : Prop :=
  ∀ ws, MetFree l y (head1 (Cond.code y bytes maxL ret :: ws) rm) (fun a U => a = as ∧ Z.Warmed39 U.vm ∧ U.heap = h ∧ CHv Z EL U.vm h ∧ ∀ x ∈ sf, Safe Z EL U.vm h x) (fun _ _ _ _ _ => True) (fun _ U o U' => ∃ v L, o = .returned v ∧ (Q v U'.heap ∧ Fr n0 L) ∧ CHr Z EL U.vm U.heap U'.vm U'.heap ∧ ReturnedEndW U o U' L rm.cells rm.slots)
theorem since_refl (s : State) : s.Since s.vm s.heap.size := ⟨State.Warmed39.refl s, fun j p hj hp => absurd (Array.getElem?_eq_some_iff.mp hp).1 (Nat.not_lt.mpr hj)⟩
theorem own_linkwords {l : Launch} {e : Env} (h : l.admits e) : e.platform.lambdaLinkWords = 3072 := by rw [h.platform]
section WalkW
variable {l : Launch} {Z : State} {EL : List (String × Nat)} {n0 : Nat} {own : String} {code : ByteArray} {maxL : Nat} {ret : Option FieldType} {nm : MethodName} {R : Room} {Q : Option Value → Heap → Prop} {pc pc' : Nat} {Ls : Array Slot} {st : List Value} {h : Heap} {vm : Vm} {k n k' n' : Nat}
theorem ConW.of_run {y : MethodName} {bytes : ByteArray} {rm : Room} {as : Array Value} {sf : List Addr} {a0 : Array Value} (hEL : EW Z a0 EL)
    (hp : plainFor y = true) (he : ∀ m, entryFrame m as maxL = mkF m 0 Ls []) (run : ∀ vm, Z.vm.Alike vm → (∀ x ∈ sf, Safe Z EL vm h x) → RunW l Z EL n0 y.cls bytes maxL ret y rm Q 0 Ls [] h vm 0 0) : ConW l Z EL n0 y bytes maxL ret rm as h sf Q := by
  intro ws
  refine MetFree.of_bodySF hp hisR ?_
  intro p e s m args below meth c s₁ Bd hml0 hP hK
  obtain ⟨rfl, hZ, hh, hC, hsf⟩ := hP
  have hh2 : s₁.heap = h := by rw [← hh, Bd.state]; rfl
  obtain ⟨s₂, v, L, h1, h2, h3, h4, h5, h6⟩ := run s.vm hZ.alike hsf p e s m _ below meth c s₁ [] 0 0 s.heap.size ⟨Bd.exec, hZ, findClass_of_methodNamed Bd.named, Bd.bytes, hml0, Bd.returns, Bd.notSynchronized, (name_of_methodNamed Bd.named Bd.method).1, Bd.named⟩ (Stand.of_body Bd) (since_refl s) (by rw [hh]; exact Nat.le_refl _) (by rw [hh]; exact CHr.refl hC) ⟨a0, hEL⟩ hh2 (Fr.nil _) (Nat.zero_le _) (Nat.zero_le _)
  exact ⟨s₂, _, castTop (he m) h1, h2, h3, v, L, rfl, h4, h5, h6⟩
theorem RunW.via {Ls' : Array Slot} {st' : List Value} (f : ∀ (p : Program) (e : Env) (s : State) (m : MethodId) (args : Array Value) (below : List Frame) (meth : Method) (c : Code) (T : State) (locs : List Loc) (cells slots : Nat),
      Ctx Z own code maxL ret nm p s m meth c → Stand p l e R s m args below meth c T locs cells slots → T.heap = h → ∃ T', Stand p l e R s m args below meth c T' locs cells slots ∧ T'.heap = h ∧ ∀ t, Steps p.tables e below (T'.setTop (mkF m pc' Ls' st')) t → Steps p.tables e below (T.setTop (mkF m pc Ls st)) t)
    (nxt : RunW l Z EL n0 own code maxL ret nm R Q pc' Ls' st' h vm k n) : RunW l Z EL n0 own code maxL ret nm R Q pc Ls st h vm k n := by
  intro p e s m args below meth c T locs cells slots k0 hC X hS hk0 hR hE eT hF hk hn
  obtain ⟨T', X', e', stp⟩ := f p e (s.setVm vm) m args below meth c T locs cells slots hC X eT
  obtain ⟨s₂, v, L, g1, g2⟩ := nxt p e s m args below meth c T' locs cells slots k0 hC X' hS hk0 hR hE e' hF hk hn
  exact ⟨s₂, v, L, stp _ g1, g2⟩
theorem RunW.stp {Ls' : Array Slot} {st' : List Value} (f : ∀ (p : Program) (e : Env) (below : List Frame) (T : State) (m : MethodId) (c : Code) (t : State), At T m c below → p.tables.exec = Jvm.exec → c.code = code → Steps p.tables e below (T.setTop (mkF m pc' Ls' st')) t → Steps p.tables e below (T.setTop (mkF m pc Ls st)) t)
    (nxt : RunW l Z EL n0 own code maxL ret nm R Q pc' Ls' st' h vm k n) : RunW l Z EL n0 own code maxL ret nm R Q pc Ls st h vm k n :=
  RunW.via (fun p e s m args below meth c T locs cells slots hC X eT => ⟨T, X, eT, fun t q => f p e below T m c t X.here hC.1 hC.2.2.2.1 q⟩) nxt
theorem RunW.alike (f : Z.vm.Alike vm → RunW l Z EL n0 own code maxL ret nm R Q pc Ls st h vm k n) : RunW l Z EL n0 own code maxL ret nm R Q pc Ls st h vm k n :=
  fun p e s m args below meth c T locs cells slots k0 hC X hS hk0 hR hE eT hF hk hn => f hC.2.1.alike p e s m args below meth c T locs cells slots k0 hC X hS hk0 hR hE eT hF hk hn

theorem RunW.iloadN {x : Fin 4} {v : Int32} (hd : decode code pc = .ok (.iload_n x, 1)) (hl : Ls[x.val]? = some (.val (.int v))) (hp : pc + 1 = pc') (nxt : RunW l Z EL n0 own code maxL ret nm R Q pc' Ls (.int v :: st) h vm k n) : RunW l Z EL n0 own code maxL ret nm R Q pc Ls st h vm k n := by
  subst hp
  exact RunW.stp (fun p e below T m c t hA hx hc q => XS.iloadN hA hx rfl (hb hc hd) hl q) nxt
theorem RunW.iload {x : Nat} {v : Int32} (hd : decode code pc = .ok (.iload x, 2)) (hl : Ls[x]? = some (.val (.int v))) (hp : pc + 2 = pc') (nxt : RunW l Z EL n0 own code maxL ret nm R Q pc' Ls (.int v :: st) h vm k n) : RunW l Z EL n0 own code maxL ret nm R Q pc Ls st h vm k n := by
  subst hp
  exact RunW.stp (fun p e below T m c t hA hx hc q => XS.iload hA hx rfl (hb hc hd) hl q) nxt
theorem RunW.aloadN {x : Fin 4} {v : Value} (hd : decode code pc = .ok (.aload_n x, 1)) (hl : Ls[x.val]? = some (.val v)) (hv : v.isRef = true) (hp : pc + 1 = pc') (nxt : RunW l Z EL n0 own code maxL ret nm R Q pc' Ls (v :: st) h vm k n) : RunW l Z EL n0 own code maxL ret nm R Q pc Ls st h vm k n := by
  subst hp
  exact RunW.stp (fun p e below T m c t hA hx hc q => XS.aloadN hA hx rfl (hb hc hd) hl hv q) nxt
theorem RunW.aload {x : Nat} {v : Value} (hd : decode code pc = .ok (.aload x, 2)) (hl : Ls[x]? = some (.val v)) (hv : v.isRef = true) (hp : pc + 2 = pc') (nxt : RunW l Z EL n0 own code maxL ret nm R Q pc' Ls (v :: st) h vm k n) : RunW l Z EL n0 own code maxL ret nm R Q pc Ls st h vm k n := by
  subst hp
  exact RunW.stp (fun p e below T m c t hA hx hc q => XS.aload hA hx rfl (hb hc hd) hl hv q) nxt
theorem RunW.iconst {i : Int} (v : Int32) (hd : decode code pc = .ok (.iconst i, 1)) (hv : Int32.ofInt i = v) (hp : pc + 1 = pc') (nxt : RunW l Z EL n0 own code maxL ret nm R Q pc' Ls (.int v :: st) h vm k n) : RunW l Z EL n0 own code maxL ret nm R Q pc Ls st h vm k n := by
  subst hp
  exact RunW.stp (fun p e below T m c t hA hx hc q => XT.iconstV hA hx rfl v (hb hc hd) hv q) nxt
theorem RunW.bipush {i : Int} (v : Int32) (hd : decode code pc = .ok (.bipush i, 2)) (hv : (Int8.ofInt i).toInt32 = v) (hp : pc + 2 = pc') (nxt : RunW l Z EL n0 own code maxL ret nm R Q pc' Ls (.int v :: st) h vm k n) : RunW l Z EL n0 own code maxL ret nm R Q pc Ls st h vm k n := by
  subst hp
  exact RunW.stp (fun p e below T m c t hA hx hc q => XT.bipushV hA hx rfl v (hb hc hd) hv q) nxt
theorem RunW.sipush {i : Int} (v : Int32) (hd : decode code pc = .ok (.sipush i, 3)) (hv : (Int16.ofInt i).toInt32 = v) (hp : pc + 3 = pc') (nxt : RunW l Z EL n0 own code maxL ret nm R Q pc' Ls (.int v :: st) h vm k n) : RunW l Z EL n0 own code maxL ret nm R Q pc Ls st h vm k n := by
  subst hp
  exact RunW.stp (fun p e below T m c t hA hx hc q => XT.sipushV hA hx rfl v (hb hc hd) hv q) nxt
theorem RunW.aconst  (hd : decode code pc = .ok (.aconst_null, 1))  (hp : pc + 1 = pc') (nxt : RunW l Z EL n0 own code maxL ret nm R Q pc' Ls (.null :: st) h vm k n) : RunW l Z EL n0 own code maxL ret nm R Q pc Ls st h vm k n := by
  subst hp
  exact RunW.stp (fun p e below T m c t hA hx hc q => XS.aconstNull hA hx rfl (hb hc hd) q) nxt
theorem RunW.istoreN {x : Fin 4} {v : Int32} (l' : Array Slot) (hd : decode code pc = .ok (.istore_n x, 1)) (hl : storeLocals Ls x.val (.int v) = some l') (hp : pc + 1 = pc') (nxt : RunW l Z EL n0 own code maxL ret nm R Q pc' l' st h vm k n) : RunW l Z EL n0 own code maxL ret nm R Q pc Ls (.int v :: st) h vm k n := by
  subst hp
  exact RunW.stp (fun p e below T m c t hA hx hc q => XS.istoreN hA hx rfl (hb hc hd) rfl hl q) nxt
theorem RunW.istore {x : Nat} {v : Int32} (l' : Array Slot) (hd : decode code pc = .ok (.istore x, 2)) (hl : storeLocals Ls x (.int v) = some l') (hp : pc + 2 = pc') (nxt : RunW l Z EL n0 own code maxL ret nm R Q pc' l' st h vm k n) : RunW l Z EL n0 own code maxL ret nm R Q pc Ls (.int v :: st) h vm k n := by
  subst hp
  exact RunW.stp (fun p e below T m c t hA hx hc q => XS.istore hA hx rfl (hb hc hd) rfl hl q) nxt
theorem RunW.astoreN {x : Fin 4} {v : Value} (l' : Array Slot) (hd : decode code pc = .ok (.astore_n x, 1)) (hv : v.isRef = true) (hl : storeLocals Ls x.val v = some l') (hp : pc + 1 = pc') (nxt : RunW l Z EL n0 own code maxL ret nm R Q pc' l' st h vm k n) : RunW l Z EL n0 own code maxL ret nm R Q pc Ls (v :: st) h vm k n := by
  subst hp
  exact RunW.stp (fun p e below T m c t hA hx hc q => XS.astoreN hA hx rfl (hb hc hd) rfl hv hl q) nxt
theorem RunW.astore {x : Nat} {v : Value} (l' : Array Slot) (hd : decode code pc = .ok (.astore x, 2)) (hv : v.isRef = true) (hl : storeLocals Ls x v = some l') (hp : pc + 2 = pc') (nxt : RunW l Z EL n0 own code maxL ret nm R Q pc' l' st h vm k n) : RunW l Z EL n0 own code maxL ret nm R Q pc Ls (v :: st) h vm k n := by
  subst hp
  exact RunW.stp (fun p e below T m c t hA hx hc q => XS.astore hA hx rfl (hb hc hd) rfl hv hl q) nxt
theorem RunW.iinc {x : Nat} {i : Int} {u : Int32} (v : Int32) (l' : Array Slot) (hd : decode code pc = .ok (.iinc x i, 3)) (hv : Int32.ofInt i = v) (hg : Ls[x]? = some (.val (.int u))) (hl : storeLocals Ls x (.int (u + v)) = some l') (hp : pc + 3 = pc') (nxt : RunW l Z EL n0 own code maxL ret nm R Q pc' l' st h vm k n) : RunW l Z EL n0 own code maxL ret nm R Q pc Ls st h vm k n := by
  subst hp
  exact RunW.stp (fun p e below T m c t hA hx hc q => XT.iincV hA hx rfl v (hb hc hd) hv hg hl q) nxt
theorem RunW.iadd {x y : Int32} (hd : decode code pc = .ok (.iadd, 1))  (hp : pc + 1 = pc') (nxt : RunW l Z EL n0 own code maxL ret nm R Q pc' Ls (.int (x + y) :: st) h vm k n) : RunW l Z EL n0 own code maxL ret nm R Q pc Ls (.int y :: .int x :: st) h vm k n := by
  subst hp
  exact RunW.stp (fun p e below T m c t hA hx hc q => XS.iadd hA hx rfl (hb hc hd) rfl q) nxt
theorem RunW.isub {x y : Int32} (hd : decode code pc = .ok (.isub, 1))  (hp : pc + 1 = pc') (nxt : RunW l Z EL n0 own code maxL ret nm R Q pc' Ls (.int (x - y) :: st) h vm k n) : RunW l Z EL n0 own code maxL ret nm R Q pc Ls (.int y :: .int x :: st) h vm k n := by
  subst hp
  exact RunW.stp (fun p e below T m c t hA hx hc q => XS.isub hA hx rfl (hb hc hd) rfl q) nxt
theorem RunW.imul {x y : Int32} (hd : decode code pc = .ok (.imul, 1))  (hp : pc + 1 = pc') (nxt : RunW l Z EL n0 own code maxL ret nm R Q pc' Ls (.int (x * y) :: st) h vm k n) : RunW l Z EL n0 own code maxL ret nm R Q pc Ls (.int y :: .int x :: st) h vm k n := by
  subst hp
  exact RunW.stp (fun p e below T m c t hA hx hc q => XS.imul hA hx rfl (hb hc hd) rfl q) nxt
theorem RunW.iand {x y : Int32} (hd : decode code pc = .ok (.iand, 1))  (hp : pc + 1 = pc') (nxt : RunW l Z EL n0 own code maxL ret nm R Q pc' Ls (.int (x &&& y) :: st) h vm k n) : RunW l Z EL n0 own code maxL ret nm R Q pc Ls (.int y :: .int x :: st) h vm k n := by
  subst hp
  exact RunW.stp (fun p e below T m c t hA hx hc q => XS.iand hA hx rfl (hb hc hd) rfl q) nxt
theorem RunW.iushr {x y : Int32} (hd : decode code pc = .ok (.iushr, 1))  (hp : pc + 1 = pc') (nxt : RunW l Z EL n0 own code maxL ret nm R Q pc' Ls (.int (XT.ushr x y) :: st) h vm k n) : RunW l Z EL n0 own code maxL ret nm R Q pc Ls (.int y :: .int x :: st) h vm k n := by
  subst hp
  exact RunW.stp (fun p e below T m c t hA hx hc q => XT.iushr hA hx rfl (hb hc hd) rfl q) nxt
theorem RunW.i2c {x : Int32} (hd : decode code pc = .ok (.i2c, 1))  (hp : pc + 1 = pc') (nxt : RunW l Z EL n0 own code maxL ret nm R Q pc' Ls (.int (nar .char x) :: st) h vm k n) : RunW l Z EL n0 own code maxL ret nm R Q pc Ls (.int x :: st) h vm k n := by
  subst hp
  exact RunW.stp (fun p e below T m c t hA hx hc q => XT.i2c hA hx rfl (hb hc hd) rfl q) nxt
theorem RunW.dup {x : Value} (hd : decode code pc = .ok (.dup, 1)) (hv : x.category = 1) (hp : pc + 1 = pc') (nxt : RunW l Z EL n0 own code maxL ret nm R Q pc' Ls (x :: x :: st) h vm k n) : RunW l Z EL n0 own code maxL ret nm R Q pc Ls (x :: st) h vm k n := by
  subst hp
  exact RunW.stp (fun p e below T m c t hA hx hc q => XS.dup hA hx rfl (hb hc hd) rfl hv q) nxt
theorem RunW.pop {x : Value} (hd : decode code pc = .ok (.pop, 1)) (hv : x.category = 1) (hp : pc + 1 = pc') (nxt : RunW l Z EL n0 own code maxL ret nm R Q pc' Ls st h vm k n) : RunW l Z EL n0 own code maxL ret nm R Q pc Ls (x :: st) h vm k n := by
  subst hp
  exact RunW.stp (fun p e below T m c t hA hx hc q => XT.pop hA hx rfl (hb hc hd) rfl hv q) nxt
theorem RunW.goto {o : Int} (hd : decode code pc = .ok (.goto o, 3)) (ho : 0 ≤ (pc : Int) + o) (hp : ((pc : Int) + o).toNat = pc') (nxt : RunW l Z EL n0 own code maxL ret nm R Q pc' Ls st h vm k n) : RunW l Z EL n0 own code maxL ret nm R Q pc Ls st h vm k n :=
  RunW.stp (fun p e below T m c t hA hx hc q => XS.goto hA hx rfl rfl (hb hc hd) ho hp q) nxt
theorem RunW.if_eq {x : Int32} {o : Int} {pa : Nat} (hd : decode code pc = .ok (.ifCond .eq o, 3)) (ho : 0 ≤ (pc : Int) + o) (hp : ((pc : Int) + o).toNat = pc') (hq : pc + 3 = pa)
    (yes : x = 0 → RunW l Z EL n0 own code maxL ret nm R Q pc' Ls st h vm k n) (no : ¬ x = 0 → RunW l Z EL n0 own code maxL ret nm R Q pa Ls st h vm k n) : RunW l Z EL n0 own code maxL ret nm R Q pc Ls (.int x :: st) h vm k n := by
  subst hq
  by_cases hc : x = 0
  · exact RunW.stp (fun p e below T m c t hA hx hb' q => XS.ifYes hA hx rfl rfl (hb hb' hd) rfl (XT.i0_eq_t hc) ho hp q) (yes hc)
  · exact RunW.stp (fun p e below T m c t hA hx hb' q => XS.ifNo hA hx rfl (hb hb' hd) rfl (XT.i0_eq_f hc) q) (no hc)
theorem RunW.icmp_eq {x y : Int32} {o : Int} {pa : Nat} (hd : decode code pc = .ok (.if_icmp .eq o, 3)) (ho : 0 ≤ (pc : Int) + o) (hp : ((pc : Int) + o).toNat = pc') (hq : pc + 3 = pa)
    (yes : x = y → RunW l Z EL n0 own code maxL ret nm R Q pc' Ls st h vm k n) (no : ¬ x = y → RunW l Z EL n0 own code maxL ret nm R Q pa Ls st h vm k n) : RunW l Z EL n0 own code maxL ret nm R Q pc Ls (.int y :: .int x :: st) h vm k n := by
  subst hq
  by_cases hc : x = y
  · exact RunW.stp (fun p e below T m c t hA hx hb' q => XS.icmpYes hA hx rfl rfl (hb hb' hd) rfl (XT.ii_eq_t hc) ho hp q) (yes hc)
  · exact RunW.stp (fun p e below T m c t hA hx hb' q => XS.icmpNo hA hx rfl (hb hb' hd) rfl (XT.ii_eq_f hc) q) (no hc)
theorem RunW.if_ne {x : Int32} {o : Int} {pa : Nat} (hd : decode code pc = .ok (.ifCond .ne o, 3)) (ho : 0 ≤ (pc : Int) + o) (hp : ((pc : Int) + o).toNat = pc') (hq : pc + 3 = pa)
    (yes : ¬ x = 0 → RunW l Z EL n0 own code maxL ret nm R Q pc' Ls st h vm k n) (no : x = 0 → RunW l Z EL n0 own code maxL ret nm R Q pa Ls st h vm k n) : RunW l Z EL n0 own code maxL ret nm R Q pc Ls (.int x :: st) h vm k n := by
  subst hq
  by_cases hc : x = 0
  · exact RunW.stp (fun p e below T m c t hA hx hb' q => XS.ifNo hA hx rfl (hb hb' hd) rfl (XT.i0_ne_f hc) q) (no (by simpa using hc))
  · exact RunW.stp (fun p e below T m c t hA hx hb' q => XS.ifYes hA hx rfl rfl (hb hb' hd) rfl (XT.i0_ne_t hc) ho hp q) (yes hc)
theorem RunW.icmp_ne {x y : Int32} {o : Int} {pa : Nat} (hd : decode code pc = .ok (.if_icmp .ne o, 3)) (ho : 0 ≤ (pc : Int) + o) (hp : ((pc : Int) + o).toNat = pc') (hq : pc + 3 = pa)
    (yes : ¬ x = y → RunW l Z EL n0 own code maxL ret nm R Q pc' Ls st h vm k n) (no : x = y → RunW l Z EL n0 own code maxL ret nm R Q pa Ls st h vm k n) : RunW l Z EL n0 own code maxL ret nm R Q pc Ls (.int y :: .int x :: st) h vm k n := by
  subst hq
  by_cases hc : x = y
  · exact RunW.stp (fun p e below T m c t hA hx hb' q => XS.icmpNo hA hx rfl (hb hb' hd) rfl (XT.ii_ne_f hc) q) (no (by simpa using hc))
  · exact RunW.stp (fun p e below T m c t hA hx hb' q => XS.icmpYes hA hx rfl rfl (hb hb' hd) rfl (XT.ii_ne_t hc) ho hp q) (yes hc)
theorem RunW.if_ge {x : Int32} {o : Int} {pa : Nat} (hd : decode code pc = .ok (.ifCond .ge o, 3)) (ho : 0 ≤ (pc : Int) + o) (hp : ((pc : Int) + o).toNat = pc') (hq : pc + 3 = pa)
    (yes : ¬ x < 0 → RunW l Z EL n0 own code maxL ret nm R Q pc' Ls st h vm k n) (no : x < 0 → RunW l Z EL n0 own code maxL ret nm R Q pa Ls st h vm k n) : RunW l Z EL n0 own code maxL ret nm R Q pc Ls (.int x :: st) h vm k n := by
  subst hq
  by_cases hc : x < 0
  · exact RunW.stp (fun p e below T m c t hA hx hb' q => XS.ifNo hA hx rfl (hb hb' hd) rfl (XT.i0_ge_f hc) q) (no (by simpa using hc))
  · exact RunW.stp (fun p e below T m c t hA hx hb' q => XS.ifYes hA hx rfl rfl (hb hb' hd) rfl (XT.i0_ge_t hc) ho hp q) (yes hc)
theorem RunW.icmp_ge {x y : Int32} {o : Int} {pa : Nat} (hd : decode code pc = .ok (.if_icmp .ge o, 3)) (ho : 0 ≤ (pc : Int) + o) (hp : ((pc : Int) + o).toNat = pc') (hq : pc + 3 = pa)
    (yes : ¬ x < y → RunW l Z EL n0 own code maxL ret nm R Q pc' Ls st h vm k n) (no : x < y → RunW l Z EL n0 own code maxL ret nm R Q pa Ls st h vm k n) : RunW l Z EL n0 own code maxL ret nm R Q pc Ls (.int y :: .int x :: st) h vm k n := by
  subst hq
  by_cases hc : x < y
  · exact RunW.stp (fun p e below T m c t hA hx hb' q => XS.icmpNo hA hx rfl (hb hb' hd) rfl (XT.ii_ge_f hc) q) (no (by simpa using hc))
  · exact RunW.stp (fun p e below T m c t hA hx hb' q => XS.icmpYes hA hx rfl rfl (hb hb' hd) rfl (XT.ii_ge_t hc) ho hp q) (yes hc)
theorem RunW.icmp_le {x y : Int32} {o : Int} {pa : Nat} (hd : decode code pc = .ok (.if_icmp .le o, 3)) (ho : 0 ≤ (pc : Int) + o) (hp : ((pc : Int) + o).toNat = pc') (hq : pc + 3 = pa)
    (yes : ¬ y < x → RunW l Z EL n0 own code maxL ret nm R Q pc' Ls st h vm k n) (no : y < x → RunW l Z EL n0 own code maxL ret nm R Q pa Ls st h vm k n) : RunW l Z EL n0 own code maxL ret nm R Q pc Ls (.int y :: .int x :: st) h vm k n := by
  subst hq
  by_cases hc : y < x
  · exact RunW.stp (fun p e below T m c t hA hx hb' q => XS.icmpNo hA hx rfl (hb hb' hd) rfl (XT.ii_le_f hc) q) (no (by simpa using hc))
  · exact RunW.stp (fun p e below T m c t hA hx hb' q => XS.icmpYes hA hx rfl rfl (hb hb' hd) rfl (XT.ii_le_t hc) ho hp q) (yes hc)
theorem RunW.getF {a0 : Array Value} {R0 O f d host : String} {i : Nat} {a : Addr} {v : Value} (hd : decode code pc = .ok (.getfield i, 3)) (w : (Cond.fieldLink own i R0 f d).before a0 Z = true ∨ (Cond.fieldLinkNest own i R0 f d host).before a0 Z = true) (via : Via Z R0 O f d) (F : Fld Z h a O f d v) (hp : pc + 3 = pc') (nxt : RunW l Z EL n0 own code maxL ret nm R Q pc' Ls (v :: st) h vm k n) : RunW l Z EL n0 own code maxL ret nm R Q pc Ls (.ref a :: st) h vm k n := by
  subst hp
  exact RunW.via (fun p e s m args below meth c T locs cells slots hC X eT => getF X hC.1 hC.2.1 hC.2.2.1 w via eT F (g := mkF m pc Ls (.ref a :: st)) rfl rfl (hb hC.2.2.2.1 hd)) nxt
theorem RunW.initO {a0 : Array Value} {i : Nat} {a : Addr} (hd : decode code pc = .ok (.invokespecial i, 3)) (w1 : (Cond.methodLink own i Lib.objectInit).before a0 Z = true) (w2 : (Cond.instanceMethod Lib.objectInit).before a0 Z = true) (w3 : (Cond.code Lib.objectInit ⟨#[0xb1]⟩ 1 none).before a0 Z = true)
    (hsz : Ls.size = maxL) (hf : 1 ≤ R.frames) (hl : (st.map fun v => v.category).sum + 12 ≤ R.locals) (hp : pc + 3 = pc') (nxt : RunW l Z EL n0 own code maxL ret nm R Q pc' Ls st h vm k n) : RunW l Z EL n0 own code maxL ret nm R Q pc Ls (.ref a :: st) h vm k n := by
  subst hp
  exact RunW.via (fun p e s m args below meth c T locs cells slots hC X eT => initO X hC.1 hC.2.1 hC.2.2.1 w1 w2 w3 eT (g := mkF m pc Ls (.ref a :: st)) rfl (hsz.trans hC.2.2.2.2.1.symm) rfl (hb hC.2.2.2.1 hd) hf (W := (st.map fun v => v.category).sum) (by show 2 * 0 + _ ≤ _; omega) hl) nxt
theorem RunW.castY {a0 : Array Value} {K : String} {i : Nat} {a : Addr} (hd : decode code pc = .ok (.checkcast i, 3)) (w : (Cond.classLink own i K).before a0 Z = true) (F : Ins Z h a K true) (hp : pc + 3 = pc') (nxt : RunW l Z EL n0 own code maxL ret nm R Q pc' Ls (.ref a :: st) h vm k n) : RunW l Z EL n0 own code maxL ret nm R Q pc Ls (.ref a :: st) h vm k n := by
  subst hp
  exact RunW.via (fun p e s m args below meth c T locs cells slots hC X eT => castY X hC.1 hC.2.1 hC.2.2.1 w eT F (g := mkF m pc Ls (.ref a :: st)) rfl rfl (hb hC.2.2.2.1 hd)) nxt
theorem GoW.fin {p : Program} {e : Env} {s : State} {m : MethodId} {args : Array Value} {below : List Frame} {meth : Method} {c : Code} {T S : State} {locs : List Loc} {cells slots k0 : Nat} {v : Option Value} (X : Stand p l e R (s.setVm vm) m args below meth c T locs cells slots) (hZ : Z.Warmed39 (s.setVm vm).vm) (hS : s.Since vm k0) (hk0 : k0 ≤ h.size) (hR : CHr Z EL s.vm s.heap vm h) (hE : ∃ a0, EW Z a0 EL) (eT : T.heap = h) (hv : meth.sig.returnType = none → v = none) (hlk : meth.locks = false) (hF : Fr n0 locs) (hk : cells ≤ R.cells) (hn : slots ≤ R.slots) (hQ : Q v h)
    (f : ∀ fs, (∀ (f : JFrame) (acts : List Action), f.method = m → f.locked = none → f.entered = [] → (doReturn e (T.setTop f) acts v).1 = T.setFrames fs) → Steps p.tables e below S (T.setFrames fs)) : GoW p e below Z s EL n0 R.cells R.slots Q S := by
  subst eT
  obtain ⟨a0, hE⟩ := hE
  have hRq := hR.trans (CHv.at X hZ hE hR.1)
  obtain ⟨fs, hr, hrun, hended, hW⟩ := X.leaveW hS hk0 (v := v) hv hlk
  exact ⟨_, v, locs, f fs hr, hrun, hended, ⟨hQ, hF⟩, hRq, hW.1, hW.2.1, hW.2.2.1, hW.2.2.2.mono hk hn⟩
theorem RunW.nreturn {z : Int32} {ty : FieldType} (hd : decode code pc = .ok (.ireturn, 1)) (hret : ret = some ty) (ht : ty = .boolean ∨ ty = .byte ∨ ty = .char ∨ ty = .short) (hk : k ≤ R.cells) (hn : n ≤ R.slots) (hQ : Q (some (.int (nar ty z))) h) : RunW l Z EL n0 own code maxL ret nm R Q pc Ls (.int z :: st) h vm k n := by
  intro p e s m args below meth c T locs cells slots k0 hC X hS hk0 hR hE eT hF hk' hn'
  have hr := hC.2.2.2.2.2.1
  exact GoW.fin X hC.2.1 hS hk0 hR hE eT (fun q => by rw [hr, hret] at q; cases q) hC.2.2.2.2.2.2.1 hF (Nat.le_trans hk' hk) (Nat.le_trans hn' hn) hQ (fun fs hl => retN X hC.1 (hr.trans hret) ht (hb hC.2.2.2.1 hd) hl)
theorem RunW.areturn {w : Value} {ty : FieldType} (hd : decode code pc = .ok (.areturn, 1)) (hret : ret = some ty) (ht : ty.isReference = true) (hw : w.isRef = true) (hk : k ≤ R.cells) (hn : n ≤ R.slots) (hQ : Q (some w) h) : RunW l Z EL n0 own code maxL ret nm R Q pc Ls (w :: st) h vm k n := by
  intro p e s m args below meth c T locs cells slots k0 hC X hS hk0 hR hE eT hF hk' hn'
  have hr := hC.2.2.2.2.2.1
  exact GoW.fin X hC.2.1 hS hk0 hR hE eT (fun q => by rw [hr, hret] at q; cases q) hC.2.2.2.2.2.2.1 hF (Nat.le_trans hk' hk) (Nat.le_trans hn' hn) hQ (fun fs hl => retOut X hC.1 (hr.trans hret) (go_narref ht hw) (Or.inr (Or.inr (Or.inr (Or.inr ⟨rfl, ht, hw⟩)))) (hb hC.2.2.2.1 hd) hl)
theorem RunW.vreturn  (hd : decode code pc = .ok (.return_, 1)) (hret : ret = none) (hk : k ≤ R.cells) (hn : n ≤ R.slots) (hQ : Q none h) : RunW l Z EL n0 own code maxL ret nm R Q pc Ls [] h vm k n := by
  intro p e s m args below meth c T locs cells slots k0 hC X hS hk0 hR hE eT hF hk' hn'
  have hr := hC.2.2.2.2.2.1
  exact GoW.fin X hC.2.1 hS hk0 hR hE eT (fun _ => rfl) hC.2.2.2.2.2.2.1 hF (Nat.le_trans hk' hk) (Nat.le_trans hn' hn) hQ (fun fs hl => X.returnOut hC.1 (hr.trans hret) (hb hC.2.2.2.1 hd) hl)

theorem RunW.wr {a : Addr} {sl : Nat} {v : Value} {Ls' : Array Slot} {st' : List Value} (f : ∀ (p : Program) (e : Env) (s : State) (m : MethodId) (args : Array Value) (below : List Frame) (meth : Method) (c : Code) (T : State) (locs : List Loc) (cells slots : Nat),
      Ctx Z own code maxL ret nm p s m meth c → Stand p l e R s m args below meth c T locs cells slots → T.heap = h → ∃ T' h', Stand p l e R s m args below meth c T' (locs ++ [⟨a, sl⟩]) cells slots ∧ T'.heap = h' ∧ Wr h h' a sl v ∧ ∀ t, Steps p.tables e below (T'.setTop (mkF m pc' Ls' st')) t → Steps p.tables e below (T.setTop (mkF m pc Ls st)) t)
    (ha : n0 ≤ a) (sa : Safe Z EL vm h a) (nxt : ∀ h', Wr h h' a sl v → CHr Z EL vm h vm h' → RunW l Z EL n0 own code maxL ret nm R Q pc' Ls' st' h' vm k n) : RunW l Z EL n0 own code maxL ret nm R Q pc Ls st h vm k n := by
  intro p e s m args below meth c T locs cells slots k0 hC X hS hk0 hR hE eT hF hk hn
  obtain ⟨T', h', X', e', W, stp⟩ := f p e (s.setVm vm) m args below meth c T locs cells slots hC X eT
  have c1 := CHr.wr W sa hR.1
  obtain ⟨s₂, v', L, g1, g2⟩ := nxt h' W c1 p e s m args below meth c T' _ cells slots k0 hC X' hS (by rw [W.size]; exact hk0) (hR.trans c1) hE e' (Fr.snoc X' hF ha) hk hn
  exact ⟨s₂, v', L, stp _ g1, g2⟩
theorem RunW.newO {a0 : Array Value} {C : String} {i sl : Nat} (hd : decode code pc = .ok (.new i, 3)) (w : (Cond.classLink own i C).before a0 Z = true) (wi : (Cond.instantiable C sl).before a0 Z = true) (wz : (Cond.initialized C).before a0 Z = true)
    (hk : k + 1 ≤ k') (hk' : k' ≤ R.cells) (hn : n + sl ≤ n') (hn' : n' ≤ R.slots) (hp : pc + 3 = pc')
    (nxt : ∀ h' a, a = h.size → Ext h h' → Exa Z h' a C → (∀ {O f d : String} {ty : FieldType}, Laid Z a0 C O f d → parseFieldDescriptor d = some ty → Fld Z h' a O f d (defaultValue ty)) → CHr Z EL vm h vm h' → Safe Z EL vm h' a → RunW l Z EL n0 own code maxL ret nm R Q pc' Ls (.ref a :: st) h' vm k' n') : RunW l Z EL n0 own code maxL ret nm R Q pc Ls st h vm k n := by
  subst hp
  intro p e s m args below meth c T locs cells slots k0 hC X hS hk0 hR hE eT hF hkk hnn
  obtain ⟨T', h', X', e', E, A, D, -, stp⟩ := newO X hC.1 hC.2.1 hC.2.2.1 w wi wz eT (g := mkF m pc Ls st) rfl (hb hC.2.2.2.1 hd) (by omega) (by omega)
  have c1 := CHr.ext E hR.1
  obtain ⟨s₂, v, L, g1, g2⟩ := nxt h' h.size rfl E A D c1 (Safe.ext E hR.1 (Safe.new (Nat.le_refl _))) p e s m args below meth c T' locs _ _ k0 hC X' hS (Nat.le_trans hk0 E.1) (hR.trans c1) hE e' hF (by omega) (by omega)
  exact ⟨s₂, v, L, stp _ g1, g2⟩
theorem RunW.newP {a0 : Array Value} {aty : ArrayType} {ty : FieldType} {z : Int32} {cap m : Nat} {dv : Value} (hd : decode code pc = .ok (.newarray aty, 2)) (hty : newarray.typeOf aty = ty) (w : (Cond.arrayClass ty).before a0 Z = true) (hz : ¬ z < 0) (hcap : z.toNatClampNeg = m) (hm : m ≤ cap) (hdv : defaultValue ty = dv) (hcb : cap * 8 ≤ 536870912)
    (hk : k + 1 ≤ k') (hk' : k' ≤ R.cells) (hn : n + cap ≤ n') (hn' : n' ≤ R.slots) (hp : pc + 2 = pc')
    (nxt : ∀ h' a, a = h.size → Ext h h' → Ary Z h' a ty (List.replicate m dv) → CHr Z EL vm h vm h' → Safe Z EL vm h' a → RunW l Z EL n0 own code maxL ret nm R Q pc' Ls (.ref a :: st) h' vm k' n') : RunW l Z EL n0 own code maxL ret nm R Q pc Ls (.int z :: st) h vm k n := by
  subst hp hty hdv
  intro p e s m' args below meth c T locs cells slots k0 hC X hS hk0 hR hE eT hF hkk hnn
  obtain ⟨T', h', cA, X', e', E, A, stp⟩ := newP X hC.1 hC.2.1 w eT (g := mkF m' pc Ls (.int z :: st)) rfl (hb hC.2.2.2.1 hd) rfl hz (by omega) hcb (by omega) (by omega)
  have c1 := CHr.ext E hR.1
  obtain ⟨s₂, v, L, g1, g2⟩ := nxt h' h.size rfl E ⟨_, A, by simp [newA, hcap]⟩ c1 (Safe.ext E hR.1 (Safe.new (Nat.le_refl _))) p e s m' args below meth c T' locs _ _ k0 hC X' hS (Nat.le_trans hk0 E.1) (hR.trans c1) hE e' hF (by omega) (by omega)
  exact ⟨s₂, v, L, stp _ g1, g2⟩
theorem RunW.putF {a0 : Array Value} {R0 O f d host C : String} {i sl : Nat} {ty : FieldType} {a : Addr} {v old : Value} (hd : decode code pc = .ok (.putfield i, 3)) (w : (Cond.fieldLink own i R0 f d).before a0 Z = true ∨ (Cond.fieldLinkNest own i R0 f d host).before a0 Z = true) (via : Via Z R0 O f d) (F : Fld Z h a O f d old) (E : Exa Z h a C)
    (L : (Cond.lays C O f d).before a0 Z = true ∨ ((Cond.laysFinal C O f d).before a0 Z = true ∧ own = O ∧ nm.name = "<init>")) (wi : (Cond.instantiable C sl).before a0 Z = true) (hty : parseFieldDescriptor d = some ty) (hnv : narrow ty v = v) (hfv : fits ty v = true) (ha : n0 ≤ a) (sa : Safe Z EL vm h a) (hp : pc + 3 = pc')
    (nxt : ∀ h', Wr h h' a (Jvm.RoadKit.slotOf Z O f d) v → CHr Z EL vm h vm h' → RunW l Z EL n0 own code maxL ret nm R Q pc' Ls st h' vm k n) : RunW l Z EL n0 own code maxL ret nm R Q pc Ls (v :: .ref a :: st) h vm k n := by
  subst hp
  exact RunW.wr (fun p e s m args below meth c T locs cells slots hC X eT => putF X hC.1 hC.2.1 hC.2.2.1 w via eT F E (L.imp id fun q => ⟨q.1, q.2.1, hC.2.2.2.2.2.2.2.1.trans q.2.2⟩) wi hty hnv hfv (g := mkF m pc Ls (v :: .ref a :: st)) rfl rfl (hb hC.2.2.2.1 hd)) ha sa nxt
theorem RunW.putFN {a0 : Array Value} {R0 O f d C : String} {i sl : Nat} {ty : FieldType} {a : Addr} {v v' old : Value} (hd : decode code pc = .ok (.putfield i, 3)) (w : (Cond.fieldLink own i R0 f d).before a0 Z = true) (via : Via Z R0 O f d) (F : Fld Z h a O f d old) (E : Exa Z h a C)
    (L : (Cond.lays C O f d).before a0 Z = true ∨ ((Cond.laysFinal C O f d).before a0 Z = true ∧ own = O ∧ nm.name = "<init>")) (wi : (Cond.instantiable C sl).before a0 Z = true) (hty : parseFieldDescriptor d = some ty) (hnv : narrow ty v = v') (hfv : fits ty v' = true) (ha : n0 ≤ a) (sa : Safe Z EL vm h a) (hp : pc + 3 = pc')
    (nxt : ∀ h', Wr h h' a (Jvm.RoadKit.slotOf Z O f d) v' → CHr Z EL vm h vm h' → RunW l Z EL n0 own code maxL ret nm R Q pc' Ls st h' vm k n) : RunW l Z EL n0 own code maxL ret nm R Q pc Ls (v :: .ref a :: st) h vm k n := by
  subst hp
  exact RunW.wr (fun p e s m args below meth c T locs cells slots hC X eT => putFN X hC.1 hC.2.1 hC.2.2.1 w via eT F E (L.imp id fun q => ⟨q.1, q.2.1, hC.2.2.2.2.2.2.2.1.trans q.2.2⟩) wi hty hnv hfv (g := mkF m pc Ls (v :: .ref a :: st)) rfl rfl (hb hC.2.2.2.1 hd)) ha sa nxt
theorem RunW.iastore {a : Addr} {vs : List Value} {j : Int32} {i : Nat} {x : Int32} (hd : decode code pc = .ok (.iastore, 1)) (A : Ary Z h a .int vs) (hj : j.toInt = (i : Int)) (hi : i < vs.length) (ha : n0 ≤ a) (sa : Safe Z EL vm h a) (hp : pc + 1 = pc') (nxt : ∀ h', Wr h h' a i (.int x) → CHr Z EL vm h vm h' → Ary Z h' a .int (vs.set i (.int x)) → RunW l Z EL n0 own code maxL ret nm R Q pc' Ls st h' vm k n) : RunW l Z EL n0 own code maxL ret nm R Q pc Ls (.int x :: .int j :: .ref a :: st) h vm k n := by
  subst hp
  have A' := A
  obtain ⟨c0, A, r⟩ := A
  obtain ⟨hin, e0⟩ := idxIn (c := c0) hj (by rw [sizeOf r]; exact hi)
  refine RunW.wr (fun p e s m args below meth c T locs cells slots hC X eT => ?_) ha sa (fun h' W c1 => nxt h' W c1 (A'.set W))
  have q := stI X hC.1 hC.2.1 eT A hin (g := mkF m pc Ls (.int x :: .int j :: .ref a :: st)) rfl rfl (hb hC.2.2.2.1 hd)
  rw [e0] at q
  exact q
theorem RunW.castore {a : Addr} {vs : List Value} {j : Int32} {i : Nat} {x : Int32} (hd : decode code pc = .ok (.castore, 1)) (A : Ary Z h a .char vs) (hj : j.toInt = (i : Int)) (hi : i < vs.length) (ha : n0 ≤ a) (sa : Safe Z EL vm h a) (hp : pc + 1 = pc') (nxt : ∀ h', Wr h h' a i (.int (nar .char x)) → CHr Z EL vm h vm h' → Ary Z h' a .char (vs.set i (.int (nar .char x))) → RunW l Z EL n0 own code maxL ret nm R Q pc' Ls st h' vm k n) : RunW l Z EL n0 own code maxL ret nm R Q pc Ls (.int x :: .int j :: .ref a :: st) h vm k n := by
  subst hp
  have A' := A
  obtain ⟨c0, A, r⟩ := A
  obtain ⟨hin, e0⟩ := idxIn (c := c0) hj (by rw [sizeOf r]; exact hi)
  refine RunW.wr (fun p e s m args below meth c T locs cells slots hC X eT => ?_) ha sa (fun h' W c1 => nxt h' W c1 (A'.set W))
  have q := stC X hC.1 hC.2.1 eT A hin (g := mkF m pc Ls (.int x :: .int j :: .ref a :: st)) rfl rfl (hb hC.2.2.2.1 hd)
  rw [e0] at q
  exact q
theorem backW {p : Program} {e : Env} {s : State} {args : Array Value} {below : List Frame} {a0 a1 : Array Value} {y : MethodName} {bytes : ByteArray} {mL : Nat} {rt : Option FieldType} {rm : Room} {len W : Nat} {as' : Array Value} {sf : List Addr} {Q : Option Value → Heap → List Loc → Prop}
    (hM : MetFree l y (head1 [Cond.code y bytes mL rt] rm) (fun a U => a = as' ∧ Z.Warmed39 U.vm ∧ U.heap = h ∧ CHv Z EL U.vm h ∧ ∀ x ∈ sf, Safe Z EL U.vm h x) (fun _ _ _ _ _ => True) (fun _ U o U' => ∃ v L, o = .returned v ∧ Q v U'.heap L ∧ CHr Z EL U.vm U.heap U'.vm U'.heap ∧ ReturnedEndW U o U' L rm.cells rm.slots))
    (hZ : Z.Warmed39 (s.setVm vm).vm) (wc : (Cond.code y bytes mL rt).before a0 Z = true) (wz : (Cond.initialized y.cls).before a0 Z = true) (hf : rm.frames + 1 ≤ R.frames) (hl : W + (mL + 11) + rm.locals ≤ R.locals) (hEL : EW Z a1 EL) (H : CHv Z EL vm h) (hsf : ∀ x ∈ sf, Safe Z EL vm h x) :
    BackS l R p e below (s.setVm vm) args y len W (fun A a => a = as' ∧ A.U.heap = h ∧ A.cells + rm.cells ≤ R.cells ∧ A.slots + rm.slots ≤ R.slots)
      (fun A _ v B => ∃ L, Q v B.U.heap L ∧ B.locs = A.locs ++ L ∧ B.cells = A.cells + rm.cells ∧ B.slots = A.slots + rm.slots ∧ CHr Z EL vm h B.U.vm B.U.heap) := by
  refine BackS.of_freeW (bytes := bytes) (maxL := mL) (ret := rt) (E := fun _ first o t L k n => k = rm.cells ∧ n = rm.slots ∧ (∃ v, o = .returned v ∧ Q v t.heap L) ∧ CHr Z EL first.vm first.heap t.vm t.heap) hM hf hl ?_ ?_ (fun _ _ _ _ _ _ _ _ _ => trivial) (fun _ _ _ _ ⟨v, L, h1, h2, h3, h4⟩ => ⟨L, _, _, h4, rfl, rfl, ⟨v, h1, h2⟩, h3⟩) ?_
  · intro m meth c A a Y hp
    have hU : Z.Warmed39 A.U.vm := wtrans (s := s.setVm vm) hZ Y.warmed
    exact ⟨by show (Cond.and _ .tt).before a A.U = true; rw [Cond.before_and, mv hU wc]; rfl, mv hU wc, mv hU wz, hp.2.2.1, hp.2.2.2⟩
  · intro m meth c A a g mk Y hp
    have c1 := CHv.at Y hZ hEL H
    refine ⟨hp.1, wtrans (s := s.setVm vm) hZ Y.warmed, hp.2.1, c1.1, fun x hx => ?_⟩
    exact fun B => by
      rcases c1.2.2 x B with q | q
      · exact hsf x hx q
      · obtain ⟨cell, q2⟩ := B.there
        exact absurd (Array.getElem?_eq_some_iff.mp q2).1 (Nat.not_lt.mpr q)
  · intro m meth c A a g mk v t L k n Y hp _ _ hq
    obtain ⟨e1, e2, ⟨v', e3, e4⟩, e5⟩ := hq
    cases e3; subst e1 e2
    refine ⟨L, e4, rfl, rfl, rfl, (CHv.at Y hZ hEL H).trans ?_⟩
    rw [← hp.2.1]; exact e5
theorem RunW.callS {a0 : Array Value} {y : MethodName} {bytes : ByteArray} {mL : Nat} {rt : Option FieldType} {rm : Room} {as rest : List Value} {Qy : Option Value → Heap → Prop} {i : Nat} {ps : List FieldType} {rr : Option FieldType}
    (hC : Con l Z n0 y bytes mL rt rm as.toArray h Qy) (hs : ∀ v h', Qy v h' → ∃ ws, Keep h h' ws ∧ ∀ x ∈ ws, Safe Z EL vm h x) (hd : decode code pc = .ok (.invokestatic i, 3)) (w1 : (Cond.methodLink own i y).before a0 Z = true) (w2 : (Cond.static y).before a0 Z = true) (w3 : (Cond.initialized y.cls).before a0 Z = true) (w4 : (Cond.code y bytes mL rt).before a0 Z = true)
    (hy : y.cls ≠ "java/lang/invoke/MethodHandle" ∧ y.cls ≠ "java/lang/invoke/VarHandle") (hds : parseMethodDescriptor y.desc = some ⟨ps, rr⟩) (hl : as.length = ps.length) (hst : st = as.reverse ++ rest) (hsz : Ls.size = maxL)
    (hf : rm.frames + 1 ≤ R.frames) (hlo : (rest.map fun v => v.category).sum + (mL + 11) + rm.locals ≤ R.locals) (hk : k + rm.cells ≤ k') (hk' : k' ≤ R.cells) (hn : n + rm.slots ≤ n') (hn' : n' ≤ R.slots) (hp : pc + 3 = pc')
    (nxt : ∀ v h', Qy v h' → CHr Z EL vm h vm h' → RunW l Z EL n0 own code maxL ret nm R Q pc' Ls (v.toList ++ rest) h' vm k' n') : RunW l Z EL n0 own code maxL ret nm R Q pc Ls st h vm k n := by
  subst hp hst
  intro p e s m args below meth c T locs cells slots k0 hX X hS hk0 hR hE eT hF hc hss
  obtain ⟨hx, hZ, hown, hby, hml, -⟩ := id hX
  obtain ⟨v, vm₁, ⟨B, L', cc, ss⟩, -, X', ⟨Lc, hQ, l1, y1, z1⟩, stp⟩ := Jvm.LawKit.callS X hx (y := y) hown (mvT hZ w1) (mvT hZ w2) (mvT hZ w3) (mvT hZ w4) hy (backOf (W := (rest.map fun v => v.category).sum) (Q := fun v h L => Qy v h ∧ Fr n0 L) (hC []) hZ w4 w3 hf hlo) (g := mkF m pc Ls (as.reverse ++ rest)) rfl (hsz.trans hml.symm) (argsL := as) (rest := rest) (lenOf hds hl) rfl (by show 2 * 0 + _ ≤ _; omega) (hb hby hd) (fun _ _ => ⟨rfl, eT, (by show cells + rm.cells ≤ R.cells; omega), (by show slots + rm.slots ≤ R.slots; omega)⟩)
  dsimp only [Pt.U, Pt.locs, Pt.cells, Pt.slots] at X' l1 y1 z1 stp hQ
  subst l1 y1 z1
  obtain ⟨ws, K, hsw⟩ := hs v _ hQ.1
  have c1 := CHr.keep K hsw hR.1
  obtain ⟨s₂, v', L, g1, g2⟩ := nxt v _ hQ.1 c1 p e s m args below meth c B _ _ _ k0 hX X' hS (Nat.le_trans hk0 K.1) (hR.trans c1) hE rfl (Fr.app hF hQ.2) (by omega) (by omega)
  exact ⟨s₂, v', L, stp _ g1, g2⟩
theorem RunW.callSW {a0 a1 : Array Value} {sf : List Addr} {y : MethodName} {bytes : ByteArray} {mL : Nat} {rt : Option FieldType} {rm : Room} {as rest : List Value} {Qy : Option Value → Heap → Prop} {i : Nat} {ps : List FieldType} {rr : Option FieldType}
    (hC : ConW l Z EL n0 y bytes mL rt rm as.toArray h sf Qy) (hsf : ∀ x ∈ sf, Safe Z EL vm h x) (hEL : EW Z a1 EL) (hd : decode code pc = .ok (.invokestatic i, 3)) (w1 : (Cond.methodLink own i y).before a0 Z = true) (w2 : (Cond.static y).before a0 Z = true) (w3 : (Cond.initialized y.cls).before a0 Z = true) (w4 : (Cond.code y bytes mL rt).before a0 Z = true)
    (hy : y.cls ≠ "java/lang/invoke/MethodHandle" ∧ y.cls ≠ "java/lang/invoke/VarHandle") (hds : parseMethodDescriptor y.desc = some ⟨ps, rr⟩) (hl : as.length = ps.length) (hst : st = as.reverse ++ rest) (hsz : Ls.size = maxL)
    (hf : rm.frames + 1 ≤ R.frames) (hlo : (rest.map fun v => v.category).sum + (mL + 11) + rm.locals ≤ R.locals) (hk : k + rm.cells ≤ k') (hk' : k' ≤ R.cells) (hn : n + rm.slots ≤ n') (hn' : n' ≤ R.slots) (hp : pc + 3 = pc')
    (nxt : ∀ v h' vm', Qy v h' → CHr Z EL vm h vm' h' → RunW l Z EL n0 own code maxL ret nm R Q pc' Ls (v.toList ++ rest) h' vm' k' n') : RunW l Z EL n0 own code maxL ret nm R Q pc Ls st h vm k n := by
  subst hp hst
  intro p e s m args below meth c T locs cells slots k0 hX X hS hk0 hR hE eT hF hc hss
  obtain ⟨hx, hZ, hown, hby, hml, hrt, hlk, hnm⟩ := id hX
  obtain ⟨v, vm₁, ⟨B, L', cc, ss⟩, -, X', hS2, hgr, ⟨Lc, hQ, l1, y1, z1, c1⟩, stp⟩ := callSS X hx (y := y) hown (mvT hZ w1) (mvT hZ w2) (mvT hZ w3) (mvT hZ w4) hy (backW (W := (rest.map fun v => v.category).sum) (Q := fun v h L => Qy v h ∧ Fr n0 L) (hC []) hZ w4 w3 hf hlo hEL hR.1 hsf) (g := mkF m pc Ls (as.reverse ++ rest)) rfl (hsz.trans hml.symm) (argsL := as) (rest := rest) (lenOf hds hl) rfl (by show 2 * 0 + _ ≤ _; omega) (hb hby hd) (fun _ _ => ⟨rfl, eT, (by show cells + rm.cells ≤ R.cells; omega), (by show slots + rm.slots ≤ R.slots; omega)⟩)
  dsimp only [Pt.U, Pt.locs, Pt.cells, Pt.slots] at X' hS2 hgr l1 y1 z1 stp hQ c1
  subst l1 y1 z1
  have hZ2 : Z.Warmed39 B.vm := State.Warmed39.trans (t := s.setVm vm) hZ hS2.1
  obtain ⟨s₂, v', L, g1, g2⟩ := nxt v _ B.vm hQ.1 c1 p e s m args below meth c B _ _ _ B.heap.size ⟨hx, hZ2, (by rw [show (s.setVm B.vm).vm = B.vm from rfl, hS2.1.alike.findClass]; exact hown), hby, hml, hrt, hlk, hnm.1, (State.methodNamed?_setVm (s := s.setVm vm) hS2.1.alike nm).trans hnm.2⟩ X' (hS.trans hS2 (by rw [← eT] at hk0; omega)) (Nat.le_refl _) (hR.trans c1) hE rfl (Fr.app hF hQ.2) (by omega) (by omega)
  exact ⟨s₂, v', L, stp.trans g1, g2⟩
theorem RunW.callV {a0 : Array Value} {C : String} {y z : MethodName} {bytes : ByteArray} {mL : Nat} {rt : Option FieldType} {rm : Room} {a : Addr} {as rest : List Value} {Qy : Option Value → Heap → Prop} {i : Nat} {ps : List FieldType} {rr : Option FieldType}
    (hC : Con l Z n0 z bytes mL rt rm (.ref a :: as).toArray h Qy) (hs : ∀ v h', Qy v h' → ∃ ws, Keep h h' ws ∧ ∀ x ∈ ws, Safe Z EL vm h x) (hX0 : Exa Z h a C) (hd : decode code pc = .ok (.invokevirtual i, 3)) (w1 : (Cond.methodLink own i y).before a0 Z = true) (w2 : (Cond.declares y).before a0 Z = true) (nf : ∀ (s : State), Z.Warmed39 s.vm → NotFace s y) (w3 : (Cond.selects C y z).before a0 Z = true) (w4 : (Cond.instanceMethod z).before a0 Z = true) (w5 : (Cond.initialized z.cls).before a0 Z = true) (w6 : (Cond.code z bytes mL rt).before a0 Z = true)
    (hy : y.cls ≠ "java/lang/invoke/MethodHandle" ∧ y.cls ≠ "java/lang/invoke/VarHandle") (hds : parseMethodDescriptor y.desc = some ⟨ps, rr⟩) (hl : as.length = ps.length) (hst : st = as.reverse ++ .ref a :: rest) (hsz : Ls.size = maxL)
    (hf : rm.frames + 1 ≤ R.frames) (hlo : (rest.map fun v => v.category).sum + (mL + 11) + rm.locals ≤ R.locals) (hk : k + rm.cells ≤ k') (hk' : k' ≤ R.cells) (hn : n + rm.slots ≤ n') (hn' : n' ≤ R.slots) (hp : pc + 3 = pc')
    (nxt : ∀ v h', Qy v h' → CHr Z EL vm h vm h' → RunW l Z EL n0 own code maxL ret nm R Q pc' Ls (v.toList ++ rest) h' vm k' n') : RunW l Z EL n0 own code maxL ret nm R Q pc Ls st h vm k n := by
  subst hp hst
  intro p e s m args below meth c T locs cells slots k0 hX X hS hk0 hR hE eT hF hc hss
  obtain ⟨hx, hZ, hown, hby, hml, -⟩ := id hX
  obtain ⟨cq, kq, qa, qb, qc⟩ := isOf hZ eT hX0
  obtain ⟨v, vm₁, ⟨B, L', cc, ss⟩, -, X', ⟨Lc, hQ, l1, y1, z1⟩, stp⟩ := X.virtualBack hx (y := y) (z := z) hown (mvT hZ w1) (mvT hZ w2) (nf (s.setVm vm) hZ) (mvT hZ w3) (mvT hZ w4) hy (backOf (W := (rest.map fun v => v.category).sum) (Q := fun v h L => Qy v h ∧ Fr n0 L) (hC []) hZ w6 w5 hf hlo) qa qc (g := mkF m pc Ls (as.reverse ++ .ref a :: rest)) rfl (hsz.trans hml.symm) (Steps.refl _) (argsL := as) (rest := rest) (lenOf hds hl) rfl (by show 2 * 0 + _ ≤ _; omega) (hb hby hd) (fun _ _ => ⟨rfl, eT, (by show cells + rm.cells ≤ R.cells; omega), (by show slots + rm.slots ≤ R.slots; omega)⟩)
  dsimp only [Pt.U, Pt.locs, Pt.cells, Pt.slots] at X' l1 y1 z1 stp hQ
  subst l1 y1 z1
  obtain ⟨ws, K, hsw⟩ := hs v _ hQ.1
  have c1 := CHr.keep K hsw hR.1
  obtain ⟨s₂, v', L, g1, g2⟩ := nxt v _ hQ.1 c1 p e s m args below meth c B _ _ _ k0 hX X' hS (Nat.le_trans hk0 K.1) (hR.trans c1) hE rfl (Fr.app hF hQ.2) (by omega) (by omega)
  exact ⟨s₂, v', L, stp.trans g1, g2⟩
theorem RunW.callVW {a0 a1 : Array Value} {sf : List Addr} {C : String} {y z : MethodName} {bytes : ByteArray} {mL : Nat} {rt : Option FieldType} {rm : Room} {a : Addr} {as rest : List Value} {Qy : Option Value → Heap → Prop} {i : Nat} {ps : List FieldType} {rr : Option FieldType}
    (hC : ConW l Z EL n0 z bytes mL rt rm (.ref a :: as).toArray h sf Qy) (hsf : ∀ x ∈ sf, Safe Z EL vm h x) (hEL : EW Z a1 EL) (hX0 : Exa Z h a C) (hd : decode code pc = .ok (.invokevirtual i, 3)) (w1 : (Cond.methodLink own i y).before a0 Z = true) (w2 : (Cond.declares y).before a0 Z = true) (nf : ∀ (s : State), Z.Warmed39 s.vm → NotFace s y) (w3 : (Cond.selects C y z).before a0 Z = true) (w4 : (Cond.instanceMethod z).before a0 Z = true) (w5 : (Cond.initialized z.cls).before a0 Z = true) (w6 : (Cond.code z bytes mL rt).before a0 Z = true)
    (hy : y.cls ≠ "java/lang/invoke/MethodHandle" ∧ y.cls ≠ "java/lang/invoke/VarHandle") (hds : parseMethodDescriptor y.desc = some ⟨ps, rr⟩) (hl : as.length = ps.length) (hst : st = as.reverse ++ .ref a :: rest) (hsz : Ls.size = maxL)
    (hf : rm.frames + 1 ≤ R.frames) (hlo : (rest.map fun v => v.category).sum + (mL + 11) + rm.locals ≤ R.locals) (hk : k + rm.cells ≤ k') (hk' : k' ≤ R.cells) (hn : n + rm.slots ≤ n') (hn' : n' ≤ R.slots) (hp : pc + 3 = pc')
    (nxt : ∀ v h' vm', Qy v h' → CHr Z EL vm h vm' h' → RunW l Z EL n0 own code maxL ret nm R Q pc' Ls (v.toList ++ rest) h' vm' k' n') : RunW l Z EL n0 own code maxL ret nm R Q pc Ls st h vm k n := by
  subst hp hst
  intro p e s m args below meth c T locs cells slots k0 hX X hS hk0 hR hE eT hF hc hss
  obtain ⟨hx, hZ, hown, hby, hml, hrt, hlk, hnm⟩ := id hX
  obtain ⟨cq, kq, qa, qb, qc⟩ := isOf hZ eT hX0
  obtain ⟨v, vm₁, ⟨B, L', cc, ss⟩, -, X', hS2, hgr, ⟨Lc, hQ, l1, y1, z1, c1⟩, stp⟩ := X.virtualBackS hx (y := y) (z := z) hown (mvT hZ w1) (mvT hZ w2) (nf (s.setVm vm) hZ) (mvT hZ w3) (mvT hZ w4) hy (backW (W := (rest.map fun v => v.category).sum) (Q := fun v h L => Qy v h ∧ Fr n0 L) (hC []) hZ w6 w5 hf hlo hEL hR.1 hsf) qa qc (g := mkF m pc Ls (as.reverse ++ .ref a :: rest)) rfl (hsz.trans hml.symm) (Steps.refl _) (argsL := as) (rest := rest) (lenOf hds hl) rfl (by show 2 * 0 + _ ≤ _; omega) (hb hby hd) (fun _ _ => ⟨rfl, eT, (by show cells + rm.cells ≤ R.cells; omega), (by show slots + rm.slots ≤ R.slots; omega)⟩)
  dsimp only [Pt.U, Pt.locs, Pt.cells, Pt.slots] at X' hS2 hgr l1 y1 z1 stp hQ c1
  subst l1 y1 z1
  have hZ2 : Z.Warmed39 B.vm := State.Warmed39.trans (t := s.setVm vm) hZ hS2.1
  obtain ⟨s₂, v', L, g1, g2⟩ := nxt v _ B.vm hQ.1 c1 p e s m args below meth c B _ _ _ B.heap.size ⟨hx, hZ2, (by rw [show (s.setVm B.vm).vm = B.vm from rfl, hS2.1.alike.findClass]; exact hown), hby, hml, hrt, hlk, hnm.1, (State.methodNamed?_setVm (s := s.setVm vm) hS2.1.alike nm).trans hnm.2⟩ X' (hS.trans hS2 (by rw [← eT] at hk0; omega)) (Nat.le_refl _) (hR.trans c1) hE rfl (Fr.app hF hQ.2) (by omega) (by omega)
  exact ⟨s₂, v', L, stp.trans g1, g2⟩
theorem RunW.callN {a0 : Array Value} {y : MethodName} {bytes : ByteArray} {mL : Nat} {rt : Option FieldType} {rm : Room} {a : Addr} {as rest : List Value} {Qy : Option Value → Heap → Prop} {i : Nat} {ps : List FieldType} {rr : Option FieldType}
    (hC : Con l Z n0 y bytes mL rt rm (.ref a :: as).toArray h Qy) (hs : ∀ v h', Qy v h' → ∃ ws, Keep h h' ws ∧ ∀ x ∈ ws, Safe Z EL vm h x) (hrt : rt = none) (hy1 : y.name = "<init>") (hd : decode code pc = .ok (.invokespecial i, 3)) (w1 : (Cond.methodLink own i y).before a0 Z = true) (w2 : (Cond.instanceMethod y).before a0 Z = true) (w3 : (Cond.initialized y.cls).before a0 Z = true) (w4 : (Cond.code y bytes mL rt).before a0 Z = true)
    (hy : y.cls ≠ "java/lang/invoke/MethodHandle" ∧ y.cls ≠ "java/lang/invoke/VarHandle") (hds : parseMethodDescriptor y.desc = some ⟨ps, rr⟩) (hl : as.length = ps.length) (hst : st = as.reverse ++ .ref a :: rest) (hsz : Ls.size = maxL)
    (hf : rm.frames + 1 ≤ R.frames) (hlo : (rest.map fun v => v.category).sum + (mL + 11) + rm.locals ≤ R.locals) (hk : k + rm.cells ≤ k') (hk' : k' ≤ R.cells) (hn : n + rm.slots ≤ n') (hn' : n' ≤ R.slots) (hp : pc + 3 = pc')
    (nxt : ∀ v h', Qy v h' → CHr Z EL vm h vm h' → RunW l Z EL n0 own code maxL ret nm R Q pc' Ls (v.toList ++ rest) h' vm k' n') : RunW l Z EL n0 own code maxL ret nm R Q pc Ls st h vm k n := by
  subst hp hst
  intro p e s m args below meth c T locs cells slots k0 hX X hS hk0 hR hE eT hF hc hss
  obtain ⟨hx, hZ, hown, hby, hml, -⟩ := id hX
  subst hrt
  obtain ⟨v, vm₁, ⟨B, L', cc, ss⟩, -, X', ⟨Lc, hQ, l1, y1, z1⟩, stp⟩ := X.specialBack hx (y := y) hy1 hown (mvT hZ w1) (mvT hZ w2) (mvT hZ w4) hy (backOf (W := (rest.map fun v => v.category).sum) (Q := fun v h L => Qy v h ∧ Fr n0 L) (hC []) hZ w4 w3 hf hlo) (g := mkF m pc Ls (as.reverse ++ .ref a :: rest)) rfl (hsz.trans hml.symm) (Steps.refl _) (a := a) (argsL := as) (rest := rest) (lenOf hds hl) rfl (by show 2 * 0 + _ ≤ _; omega) (hb hby hd) (fun _ _ => ⟨rfl, eT, (by show cells + rm.cells ≤ R.cells; omega), (by show slots + rm.slots ≤ R.slots; omega)⟩)
  dsimp only [Pt.U, Pt.locs, Pt.cells, Pt.slots] at X' l1 y1 z1 stp hQ
  subst l1 y1 z1
  obtain ⟨ws, K, hsw⟩ := hs v _ hQ.1
  have c1 := CHr.keep K hsw hR.1
  obtain ⟨s₂, v', L, g1, g2⟩ := nxt v _ hQ.1 c1 p e s m args below meth c B _ _ _ k0 hX X' hS (Nat.le_trans hk0 K.1) (hR.trans c1) hE rfl (Fr.app hF hQ.2) (by omega) (by omega)
  exact ⟨s₂, v', L, stp.trans g1, g2⟩
theorem RunW.callNW {a0 a1 : Array Value} {sf : List Addr} {y : MethodName} {bytes : ByteArray} {mL : Nat} {rt : Option FieldType} {rm : Room} {a : Addr} {as rest : List Value} {Qy : Option Value → Heap → Prop} {i : Nat} {ps : List FieldType} {rr : Option FieldType}
    (hC : ConW l Z EL n0 y bytes mL rt rm (.ref a :: as).toArray h sf Qy) (hsf : ∀ x ∈ sf, Safe Z EL vm h x) (hEL : EW Z a1 EL) (hrt : rt = none) (hy1 : y.name = "<init>") (hd : decode code pc = .ok (.invokespecial i, 3)) (w1 : (Cond.methodLink own i y).before a0 Z = true) (w2 : (Cond.instanceMethod y).before a0 Z = true) (w3 : (Cond.initialized y.cls).before a0 Z = true) (w4 : (Cond.code y bytes mL rt).before a0 Z = true)
    (hy : y.cls ≠ "java/lang/invoke/MethodHandle" ∧ y.cls ≠ "java/lang/invoke/VarHandle") (hds : parseMethodDescriptor y.desc = some ⟨ps, rr⟩) (hl : as.length = ps.length) (hst : st = as.reverse ++ .ref a :: rest) (hsz : Ls.size = maxL)
    (hf : rm.frames + 1 ≤ R.frames) (hlo : (rest.map fun v => v.category).sum + (mL + 11) + rm.locals ≤ R.locals) (hk : k + rm.cells ≤ k') (hk' : k' ≤ R.cells) (hn : n + rm.slots ≤ n') (hn' : n' ≤ R.slots) (hp : pc + 3 = pc')
    (nxt : ∀ v h' vm', Qy v h' → CHr Z EL vm h vm' h' → RunW l Z EL n0 own code maxL ret nm R Q pc' Ls (v.toList ++ rest) h' vm' k' n') : RunW l Z EL n0 own code maxL ret nm R Q pc Ls st h vm k n := by
  subst hp hst
  intro p e s m args below meth c T locs cells slots k0 hX X hS hk0 hR hE eT hF hc hss
  obtain ⟨hx, hZ, hown, hby, hml, hrtt, hlk, hnm⟩ := id hX
  subst hrt
  obtain ⟨v, vm₁, ⟨B, L', cc, ss⟩, -, X', hS2, hgr, ⟨Lc, hQ, l1, y1, z1, c1⟩, stp⟩ := X.specialBackS hx (y := y) hy1 hown (mvT hZ w1) (mvT hZ w2) (mvT hZ w4) hy (backW (W := (rest.map fun v => v.category).sum) (Q := fun v h L => Qy v h ∧ Fr n0 L) (hC []) hZ w4 w3 hf hlo hEL hR.1 hsf) (g := mkF m pc Ls (as.reverse ++ .ref a :: rest)) rfl (hsz.trans hml.symm) (Steps.refl _) (a := a) (argsL := as) (rest := rest) (lenOf hds hl) rfl (by show 2 * 0 + _ ≤ _; omega) (hb hby hd) (fun _ _ => ⟨rfl, eT, (by show cells + rm.cells ≤ R.cells; omega), (by show slots + rm.slots ≤ R.slots; omega)⟩)
  dsimp only [Pt.U, Pt.locs, Pt.cells, Pt.slots] at X' hS2 hgr l1 y1 z1 stp hQ c1
  subst l1 y1 z1
  have hZ2 : Z.Warmed39 B.vm := State.Warmed39.trans (t := s.setVm vm) hZ hS2.1
  obtain ⟨s₂, v', L, g1, g2⟩ := nxt v _ B.vm hQ.1 c1 p e s m args below meth c B _ _ _ B.heap.size ⟨hx, hZ2, (by rw [show (s.setVm B.vm).vm = B.vm from rfl, hS2.1.alike.findClass]; exact hown), hby, hml, hrtt, hlk, hnm.1, (State.methodNamed?_setVm (s := s.setVm vm) hS2.1.alike nm).trans hnm.2⟩ X' (hS.trans hS2 (by rw [← eT] at hk0; omega)) (Nat.le_refl _) (hR.trans c1) hE rfl (Fr.app hF hQ.2) (by omega) (by omega)
  exact ⟨s₂, v', L, stp.trans g1, g2⟩
theorem safeA {Z : State} {EL : List (String × Nat)} {vm : Vm} {h : Heap} {a : Addr} {ty : FieldType} {vs : List Value} (hal : Z.vm.Alike vm) (A : Ary Z h a ty vs) (ht : ty ≠ .byte) : Safe Z EL vm h a := by obtain ⟨cl, A1, -⟩ := A; exact Safe.arr hal A1 ht
theorem RunW.ldcT {a0 : Array Value} {i len : Nat} {text : String} {bs : List Value} {z : Int32} (hd : decode code pc = .ok (.ldc i, 2)) (w : (Cond.stringLink own i text).before a0 Z = true) (wS : ∀ a ∈ Bundle.stringAtoms, a.before a0 Z = true) (hEL : EW Z a0 EL) (hmem : (own, i) ∈ EL)
    (ht : (∀ c ∈ text.toList, c.toNat < 256) ∧ text.toList.map (fun c => Value.int (Jvm.Lit.byteI c.toNat.toUInt16)) = bs) (hz : z.toInt = (bs.length : Int)) (hln : 4 * text.toList.length ≤ len) (hbig : len ≤ 536870912) (hk : k + 2 ≤ k') (hk' : k' ≤ R.cells) (hn : n + (len + 4) ≤ n') (hn' : n' ≤ R.slots) (hp : pc + 2 = pc')
    (nxt : ∀ h' vm' a b, Ext h h' → CHr Z EL vm h vm' h' → Exa Z h' a "java/lang/String" → Fld Z h' a "java/lang/String" "coder" "B" (.int 0) → Fld Z h' a "java/lang/String" "value" "[B" (.ref b) → Ary Z h' b .byte bs → (∀ x, Safe Z EL vm' h' x → x ≠ a ∧ x ≠ b) → RunW l Z EL n0 own code maxL ret nm R Q pc' Ls (.ref a :: st) h' vm' k' n') : RunW l Z EL n0 own code maxL ret nm R Q pc Ls st h vm k n := by
  subst hp
  intro p e s m args below meth c T locs cells slots k0 hX X hS hk0 hR hE eT hF hc hss
  obtain ⟨hx, hZ, hown, hby, hml, hrt, hlk, hnm⟩ := id hX
  have e1 : z.toNatClampNeg = bs.length := by have : z.toNatClampNeg = z.toInt.toNat := rfl; rw [this, hz]; rfl
  have e2 : ¬ z < 0 := by rw [Int32.lt_iff_toInt_lt, hz]; have : (0 : Int32).toInt = 0 := rfl; omega
  obtain ⟨a, T', h', k1, b, kc, X', e', E, hS2, hk1, hZ2, hown2, E1, F1, F2, A, -, -, c1, -, hsf, stp⟩ := ldcCH X hx hZ hown w wS eT hS hk0 hEL hmem hR.1 ht e2 e1 (g := mkF m pc Ls st) rfl (hb hby hd) hln hbig (by omega) (by omega)
  obtain ⟨s₂, v', L, g1, g2⟩ := nxt h' T'.vm a b E c1 E1 F1 F2 (Ary.ofArv A hz) hsf p e s m args below meth c T' _ _ _ k1 ⟨hx, hZ2, hown2, hby, hml, hrt, hlk, hnm.1, (State.methodNamed?_setVm (s := s.setVm vm) ((show Z.vm.Alike vm from hZ.alike).symm.trans (show Z.vm.Alike T'.vm from hZ2.alike)) nm).trans hnm.2⟩ X' hS2 hk1 (hR.trans c1) hE e' hF (by omega) (by omega)
  exact ⟨s₂, v', L, stp _ g1, g2⟩
theorem RunW.lam {a0 : Array Value} {ix : Nat} {σ : Lambda.Shape} {vals rest : List Value} {tys : List FieldType} (hd : decode code pc = .ok (.invokedynamic ix, 5)) (w : (Cond.lambdaSite nm pc ix σ).before a0 Z = true) (wo : (Cond.instantiable "java/lang/Object" 0).before a0 Z = true) (hcap : σ.captured ≠ []) (hcl : σ.captured.length = vals.length)
    (hlay : ((σ.file own).bind (layoutFields · 0)).map (·.2.1) = some tys.toArray) (hnar : (tys.zip vals).map (fun x => narrow x.1 x.2) = vals) (hfit : ∀ (i : Nat) (v : Value), vals[i]? = some v → ∃ t, tys[i]? = some t ∧ fits t v = true)
    (hst : st = vals.reverse ++ rest) (hsz : Ls.size = maxL) (hwords : (st.map fun v => v.category).sum + 3072 ≤ R.locals) (hk : k + 1 ≤ k') (hk' : k' ≤ R.cells) (hn : n + vals.length ≤ n') (hn' : n' ≤ R.slots) (hp : pc + 5 = pc')
    (nxt : ∀ h', Ext h h' → Ins Z h' h.size σ.iface true → CHr Z EL vm h vm h' → RunW l Z EL n0 own code maxL ret nm R Q pc' Ls (.ref h.size :: rest) h' vm k' n') : RunW l Z EL n0 own code maxL ret nm R Q pc Ls st h vm k n := by
  subst hp
  intro p e s m args below meth c T locs cells slots k0 hX X hS hk0 hR hE eT hF hc hss
  obtain ⟨hx, hZ, hown, hby, hml, hrt, hlk, hnm⟩ := id hX
  obtain ⟨cK, one, hat⟩ := Cond.lambdaSite_spec w
  obtain ⟨m0, kz, cf, i0, p0, l0, hm0, hkz, hcf, hsh, -, hfind, hmade, hcall, hl0⟩ := State.lambdaAt?_spec hat
  obtain ⟨rfl, rfl⟩ : l0 = .makes cK ∧ one = none := by
    rcases hl0 with ⟨a, cell, -, -, z, -⟩ | ⟨z1, z2, -⟩
    · exact absurd z hcap
    · exact ⟨z1, z2⟩
  have hal : Z.vm.Alike (s.setVm vm).vm := hZ.alike
  have hmm : m0 = m := by
    have z := State.methodNamed?_setVm (s := Z) hal nm
    have z2 : (s.setVm vm).methodNamed? nm = Z.methodNamed? nm := z
    rw [hnm.2, hm0] at z2
    exact (Option.some.inj z2).symm
  subst hmm
  obtain ⟨k1, hk1, he1⟩ := hal.2.2 _ _ hkz
  obtain ⟨dk, hdk⟩ : ∃ dk, Z.vm.classes[m0.cls]? = some dk := ⟨_, hkz⟩
  have hname : dk.name = own := by
    obtain ⟨k2, z1, z2⟩ := Vm.findClass_spec (show Z.vm.findClass own = some m0.cls by rw [← hal.findClass]; exact hown)
    cases hdk.symm.trans z1; exact z2
  obtain ⟨kK, hkK, hit, hkind, -⟩ := Lambda.made_types hmade hdk wo (T := tys.toArray) (by rw [hname]; exact hlay)
  obtain ⟨kK1, hkK1, heK⟩ := hal.2.2 _ _ hkK
  have hty : kK1.instanceTypes = tys.toArray := by rw [heK]; exact hit
  have hkind1 : kK1.kind = .ordinary := by rw [heK]; exact hkind
  obtain ⟨bsm, nt, desc, sig, hcp, hnt, hsig0, hcaps⟩ := Lambda.shapeOf?_site hsh
  have hsig := parseLong_of_parse hsig0
  have hsl : ((kK1.instanceTypes.toList.zip vals).map fun x => narrow x.1 x.2) = vals := by rw [hty]; exact hnar
  have hlen : vals.length = sig.parameters.length := by rw [hcaps]; exact hcl.symm
  obtain ⟨X', stp⟩ := X.lambdaMakes hx (g := mkF m0 pc Ls st) rfl (hsz.trans hml.symm) (hb hby hd) (vals := vals) (rest := rest) hk1 (by rw [he1]; exact hfind) (by rw [he1]; exact hcf) hcp hnt hsig hlen hst hkK1
    (by rw [show e.platform.lambdaLinkWords = 3072 from own_linkwords X.admits]; show 2 * 0 + (st.map fun v => v.category).sum + 3072 ≤ R.locals; omega) (by omega) (by rw [hsl]; omega)
    (fun i v hv => by
      rw [hsl] at hv
      have hv' : vals[i]? = some v := by simpa using hv
      obtain ⟨t, ht, hf⟩ := hfit i v hv'
      have hkv : vm.classes[cK]? = some kK1 := hkK1
      simp [State.fitsSlot, State.slotType?, hkv, hkind1, hty, ht, hf])
  rw [hsl] at X' stp
  subst eT
  have E : Ext T.heap (T.pushCell { cls := cK, slots := vals.toArray, vm := .none }).heap := ext_of fun a q => by
    show (T.heap.push _)[a]? = _
    exact Array.getElem?_push_lt q |>.trans (Array.getElem?_eq_getElem q).symm
  have c1 := CHr.ext E hR.1
  obtain ⟨i2, hi2, hasg, -⟩ := State.lambdaCallable_spec hcall
  have hI : Ins Z (T.pushCell { cls := cK, slots := vals.toArray, vm := .none }).heap T.heap.size σ.iface true := ⟨{ cls := cK, slots := vals.toArray, vm := .none }, i2, (by show (T.heap.push _)[T.heap.size]? = _; simp), hi2, (by simp [hasg]; rfl)⟩
  obtain ⟨s₂, v', L, g1, g2⟩ := nxt _ E hI c1 p e s m0 args below meth c _ _ _ _ k0 hX X' hS (Nat.le_trans hk0 E.1) (hR.trans c1) hE rfl hF (by omega) (by simp only [List.size_toArray] at *; omega)
  exact ⟨s₂, v', L, stp _ g1, g2⟩

end WalkW
end Jvm.GoKit
namespace Jvm.Pilot.@@N@@
open Jvm Jvm.ClassFile Sem Op Lib Jvm.Free Jvm.Stand Jvm.LawKit Jvm.RoadKit Jvm.GoKit Bundle Jvm.Pilot.@@N@@.Jvm.D
theorem own_ofn {i : Nat} (h : i < 2 ^ 31) : (Int32.ofNat i).toInt = (i : Int) := toInt_of rfl h
theorem own_inc (i : Nat) : Int32.ofNat i + (1 : Int32) = Int32.ofNat (i + 1) := (inc_ofNat i).symm
theorem own_lt {i j : Nat} (hi : i < 2 ^ 31) (hj : j < 2 ^ 31) : Int32.ofNat i < Int32.ofNat j ↔ i < j := by rw [Int32.lt_iff_toInt_lt, own_ofn hi, own_ofn hj]; omega
theorem own_z : (0 : Int32).toInt = 0 := rfl
theorem own_eqi {x y : Int32} (h : x.toInt = y.toInt) : x = y := Int32.toInt_inj.mp h
theorem own_decl {Z : State} {a0 : Array Value} {y : MethodName} {bytes : ByteArray} {mL : Nat} {rt : Option FieldType} (h1 : (Cond.instanceMethod y).before a0 Z = true) (h2 : (Cond.code y bytes mL rt).before a0 Z = true) : (Cond.declares y).before a0 Z = true := by
  obtain ⟨mi, meth, hn, hm, hs, -⟩ := Cond.instanceMethod_spec h1
  obtain ⟨meth', c, hm', -, -, -, -, -, -, hsig⟩ := Cond.code_spec hn h2
  obtain rfl := Option.some.inj (hm.symm.trans hm')
  simp [Cond.before, Cond.holds, Cond.value, hn, hm, hs, hsig]
theorem own_selp {Z : State} {a0 : Array Value} {y : MethodName} {n : Nat} (hy : y.cls ≠ "java/lang/invoke/MethodHandle" ∧ y.cls ≠ "java/lang/invoke/VarHandle") (hins : (Cond.instantiable y.cls n).before a0 Z = true) (hpriv : (Cond.privateMethod y).before a0 Z = true) (hinst : (Cond.instanceMethod y).before a0 Z = true) : (Cond.selects y.cls y y).before a0 Z = true := by
  obtain ⟨c, k, hc, hk, -, hniab, -, -⟩ := Cond.instantiable_spec hins
  have hni : k.isInterface = false := (Bool.or_eq_false_iff.mp hniab).1
  obtain ⟨mk, methM, hnamed, hmethM, -, -⟩ := Cond.instanceMethod_spec hinst
  have hfound : Z.methodFound? y.cls y.name y.desc = some mk := State.methodFound?_of_named hnamed hy
  have hcls : mk.cls = c := Option.some.inj ((findClass_of_methodNamed hnamed).symm.trans hc)
  have hsel : selectMethod {} Z.vm c mk = .method mk := selectMethod_private hmethM (Cond.privateMethod_at hpriv mk methM hnamed hmethM)
  simp only [Cond.before, Cond.holds, Cond.value, hc, hfound, hnamed, hsel, hcls, hk]
  simp; exact hni
theorem own_xne {Z : State} {h : Heap} {a b : Addr} {C D : String} (E : Exa Z h a C) (F : Exa Z h b D) (hn : C ≠ D) : a ≠ b := fun e => by
  subst e
  obtain ⟨c1, k1, e1, f1, g1, -, -⟩ := E; obtain ⟨c2, k2, e2, f2, g2, -, -⟩ := F
  cases e1.symm.trans e2
  obtain ⟨q1, r1, t1⟩ := Vm.findClass_spec f1; obtain ⟨q2, r2, t2⟩ := Vm.findClass_spec f2
  cases r1.symm.trans r2
  exact hn (t1.symm.trans t2)
theorem own_ane {Z : State} {a0 : Array Value} {h : Heap} {a b : Addr} {C : String} {n : Nat} {ty : FieldType} {vs : List Value} (hi : (Cond.instantiable C n).before a0 Z = true) (A : Ary Z h a ty vs) (F : Exa Z h b C) : a ≠ b := fun e => by
  subst e
  obtain ⟨cl, ⟨A1, ⟨-, kA, hkA, compA, hkindA⟩, -⟩, -⟩ := A
  obtain ⟨c2, k2, e2, f2, g2, -, -⟩ := F
  cases A1.symm.trans e2
  obtain ⟨c, k, hc, hk, ho, -⟩ := Cond.instantiable_spec hi
  cases hc.symm.trans f2
  cases hk.symm.trans hkA
  rw [ho] at hkindA; cases hkindA
theorem own_insk {Z : State} {h h' : Heap} {a : Addr} {C : String} {bo : Bool} {ws : List Addr} (F : Ins Z h a C bo) (K : Keep h h' ws) : Ins Z h' a C bo := by
  obtain ⟨cell, k, h1, h2, h3⟩ := F
  obtain ⟨c', q, r1, r2, -⟩ := K.2.2 a cell h1
  exact ⟨c', k, q, h2, by rw [r1, r2]; exact h3⟩
def own_lat (cs : List Int32) : Prop := ∀ c ∈ cs, 0 ≤ c.toInt ∧ c.toInt ≤ 255
def own_by (cs : List Int32) : List Value := cs.map fun c => Value.int (nar .byte c)
theorem own_nbb (x : Int32) : nar .byte (nar .byte x) = nar .byte x := by simp [nar]
theorem own_ncc (x : Int32) : nar .char (nar .char x) = nar .char x := by simp only [nar, UInt32.toUInt32_toInt32, UInt16.toUInt16_toUInt32]
theorem own_pre {cs : List Int32} {i : Nat} {c : Int32} (h : cs[i]? = some c) (hi : i < cs.length) :
    ((own_by (cs.take i)) ++ List.replicate (cs.length - i) (Value.int (0 : Int32))).set i (Value.int (nar .byte c)) = own_by (cs.take (i + 1)) ++ List.replicate (cs.length - (i + 1)) (Value.int (0 : Int32)) := by
  have e1 : cs.length - i = (cs.length - (i + 1)) + 1 := by omega
  have e2 : cs[i] = c := by rw [List.getElem?_eq_getElem hi] at h; exact Option.some.inj h
  rw [e1, List.replicate_succ]
  have l1 : (own_by (cs.take i)).length = i := by simp [own_by]; omega
  rw [List.set_append_right _ _ (by omega), l1, Nat.sub_self, List.set_cons_zero, List.take_succ_eq_append_getElem hi]
  simp [own_by, e2]
theorem d10_0 : decode jdk_52_method_21_code 0 = .ok (.iconst 0, 1) := by decide +kernel
theorem d10_1 : decode jdk_52_method_21_code 1 = .ok (.istore 5, 2) := by decide +kernel
theorem d10_3 : decode jdk_52_method_21_code 3 = .ok (.iload 5, 2) := by decide +kernel
theorem d10_5 : decode jdk_52_method_21_code 5 = .ok (.iload 4, 2) := by decide +kernel
theorem d10_7 : decode jdk_52_method_21_code 7 = .ok (.if_icmp .ge 37, 3) := by decide +kernel
theorem d10_10 : decode jdk_52_method_21_code 10 = .ok (.aload_n 0, 1) := by decide +kernel
theorem d10_11 : decode jdk_52_method_21_code 11 = .ok (.iload_n 1, 1) := by decide +kernel
theorem d10_12 : decode jdk_52_method_21_code 12 = .ok (.caload, 1) := by decide +kernel
theorem d10_13 : decode jdk_52_method_21_code 13 = .ok (.istore 6, 2) := by decide +kernel
theorem d10_15 : decode jdk_52_method_21_code 15 = .ok (.iload 6, 2) := by decide +kernel
theorem d10_17 : decode jdk_52_method_21_code 17 = .ok (.sipush 255, 3) := by decide +kernel
theorem d10_20 : decode jdk_52_method_21_code 20 = .ok (.if_icmp .le 6, 3) := by decide +kernel
theorem d10_23 : decode jdk_52_method_21_code 23 = .ok (.iload 5, 2) := by decide +kernel
theorem d10_25 : decode jdk_52_method_21_code 25 = .ok (.ireturn, 1) := by decide +kernel
theorem d10_26 : decode jdk_52_method_21_code 26 = .ok (.aload_n 2, 1) := by decide +kernel
theorem d10_27 : decode jdk_52_method_21_code 27 = .ok (.iload_n 3, 1) := by decide +kernel
theorem d10_28 : decode jdk_52_method_21_code 28 = .ok (.iload 6, 2) := by decide +kernel
theorem d10_30 : decode jdk_52_method_21_code 30 = .ok (.i2b, 1) := by decide +kernel
theorem d10_31 : decode jdk_52_method_21_code 31 = .ok (.bastore, 1) := by decide +kernel
theorem d10_32 : decode jdk_52_method_21_code 32 = .ok (.iinc 1 1, 3) := by decide +kernel
theorem d10_35 : decode jdk_52_method_21_code 35 = .ok (.iinc 3 1, 3) := by decide +kernel
theorem d10_38 : decode jdk_52_method_21_code 38 = .ok (.iinc 5 1, 3) := by decide +kernel
theorem d10_41 : decode jdk_52_method_21_code 41 = .ok (.goto (-38), 3) := by decide +kernel
theorem d10_44 : decode jdk_52_method_21_code 44 = .ok (.iload 4, 2) := by decide +kernel
theorem d10_46 : decode jdk_52_method_21_code 46 = .ok (.ireturn, 1) := by decide +kernel
theorem pn_10 : plainFor (⟨"java/lang/StringUTF16", "compress", "([CI[BII)I"⟩ : MethodName) = true := plainFor_of_name (by first | (simp [plainName, overriddenIn]; done) | decide +kernel)
theorem ef_con_cmp5 (m : MethodId) (a : Addr) (b : Addr) (cs : List Int32)  : entryFrame m #[(.ref a), (.int (0 : Int32)), (.ref b), (.int (0 : Int32)), (.int (Int32.ofNat cs.length))] 7 = mkF m 0 #[.val (.ref a), .val (.int (0 : Int32)), .val (.ref b), .val (.int (0 : Int32)), .val (.int (Int32.ofNat cs.length)), .unset, .unset] [] := by first | (simp [entryFrame, mkF, argsToLocals, Value.category]; done) | rfl
set_option maxRecDepth 65536 in
set_option maxHeartbeats 40000000 in
theorem con_cmp5 (l : Launch) (Z : State) (a0 : Array Value) (hw : ∀ d ∈ tables_1, d.before a0 Z = true) (n0 : Nat) (h0 : Heap) (Z0 : n0 ≤ h0.size) (a : Addr) (b : Addr) (cs : List Int32) (AC : Ary Z h0 a .char (cs.map Value.int)) (AB : Ary Z h0 b .byte (List.replicate cs.length (.int (0 : Int32)))) (hab : a ≠ b) (gb : n0 ≤ b) (hn : cs.length < 2 ^ 31) (hlat : own_lat cs) :
    Con l Z n0 (⟨"java/lang/StringUTF16", "compress", "([CI[BII)I"⟩ : MethodName) jdk_52_method_21_code 7 (some .int) ({ frames := 0, cells := 0, slots := 0, locals := 0 } : Room) #[(.ref a), (.int (0 : Int32)), (.ref b), (.int (0 : Int32)), (.int (Int32.ofNat cs.length))] h0 (Val fun w h' => .int (Int32.ofNat cs.length) = w ∧ Keep h0 h' [b] ∧ Ary Z h' b .byte (own_by cs)) := by
  refine Con.of_run pn_10 (fun m => ef_con_cmp5 m a b cs ) ?_
  refine Run.iconst (0 : Int32) d10_0 (by decide) (pc' := 1) rfl ?_
  refine Run.istore (l' := #[.val (.ref a), .val (.int (0 : Int32)), .val (.ref b), .val (.int (0 : Int32)), .val (.int (Int32.ofNat cs.length)), .val (.int (0 : Int32)), .unset]) d10_1 rfl (pc' := 3) rfl ?_
  have loop : ∀ (t i : Nat), t + i = cs.length → i ≤ cs.length → ∀ (h : Heap) (s6 : Slot), One s6 → Ary Z h a .char (cs.map Value.int) → Ary Z h b .byte (own_by (cs.take i) ++ List.replicate (cs.length - i) (.int (0 : Int32))) → n0 ≤ h.size → Keep h0 h [b] → Run l Z n0 "java/lang/StringUTF16" jdk_52_method_21_code 7 (some .int) (⟨"java/lang/StringUTF16", "compress", "([CI[BII)I"⟩ : MethodName) ({ frames := 0, cells := 0, slots := 0, locals := 0 } : Room) (Val fun w h' => .int (Int32.ofNat cs.length) = w ∧ Keep h0 h' [b] ∧ Ary Z h' b .byte (own_by cs)) 3 #[.val (.ref a), .val (.int (Int32.ofNat i)), .val (.ref b), .val (.int (Int32.ofNat i)), .val (.int (Int32.ofNat cs.length)), .val (.int (Int32.ofNat i)), s6] [] h 0 0 := by
    intro t
    induction t with
    | zero =>
      intro i hti hile h s6 h_s6 ACi ABi szi kpi
      have hi : i = cs.length := by omega
      refine Run.iload d10_3 rfl (pc' := 5) rfl ?_
      refine Run.iload d10_5 rfl (pc' := 7) rfl ?_
      refine Run.icmp_ge d10_7 (by decide) (pc' := 44) (by decide) (pa := 10) rfl (fun hc7 => ?_) (fun hc7 => ?_)
      · refine Run.iload d10_44 rfl (pc' := 46) rfl ?_
        exact Run.ireturn d10_46 rfl (by decide) (by decide) ⟨_, rfl, rfl, kpi, (by subst hi; simpa [own_by] using ABi)⟩
      · exact absurd ((own_lt (by omega) (by omega)).mp hc7) (by omega)
    | succ t ih =>
      intro i hti hile h s6 h_s6 ACi ABi szi kpi
      have hil : i < cs.length := by omega
      obtain ⟨c, hci⟩ : ∃ c, cs[i]? = some c := ⟨_, List.getElem?_eq_getElem hil⟩
      refine Run.iload d10_3 rfl (pc' := 5) rfl ?_
      refine Run.iload d10_5 rfl (pc' := 7) rfl ?_
      refine Run.icmp_ge d10_7 (by decide) (pc' := 44) (by decide) (pa := 10) rfl (fun hc7 => ?_) (fun hc7 => ?_)
      · exact absurd ((own_lt (by omega) (by omega)).mpr hil) hc7
      · refine Run.aloadN d10_10 rfl rfl (pc' := 11) rfl ?_
        refine Run.iloadN d10_11 rfl (pc' := 12) rfl ?_
        refine Run.caload (i := i) (v := (.int c)) d10_12 ACi (own_ofn (by omega)) (by simp [hci]) (pc' := 13) rfl ?_
        refine Run.istore (l' := #[.val (.ref a), .val (.int (Int32.ofNat i)), .val (.ref b), .val (.int (Int32.ofNat i)), .val (.int (Int32.ofNat cs.length)), .val (.int (Int32.ofNat i)), .val (.int c)]) d10_13 (XS.store1 rfl h_s6 rfl) (pc' := 15) rfl ?_
        refine Run.iload d10_15 rfl (pc' := 17) rfl ?_
        refine Run.sipush (255 : Int32) d10_17 (by decide) (pc' := 20) rfl ?_
        refine Run.icmp_le d10_20 (by decide) (pc' := 26) (by decide) (pa := 23) rfl (fun hc20 => ?_) (fun hc20 => ?_)
        · refine Run.aloadN d10_26 rfl rfl (pc' := 27) rfl ?_
          refine Run.iloadN d10_27 rfl (pc' := 28) rfl ?_
          refine Run.iload d10_28 rfl (pc' := 30) rfl ?_
          refine Run.i2b d10_30 (pc' := 31) rfl ?_
          refine Run.bastore (i := i) d10_31 ABi (own_ofn (by omega)) (by simp [own_by]; omega) gb (pc' := 32) rfl ?_
          intro h11 W11 A11
          have A_a_11 := ACi.other W11 hab
          have sz11 : n0 ≤ h11.size := by rw [W11.size]; exact szi
          have kp11 := Keep.wr kpi W11 (Or.inl (List.mem_of_getElem? (i := 0) rfl))
          refine Run.iinc (1 : Int32) #[.val (.ref a), .val (.int ((Int32.ofNat i) + (1 : Int32))), .val (.ref b), .val (.int (Int32.ofNat i)), .val (.int (Int32.ofNat cs.length)), .val (.int (Int32.ofNat i)), .val (.int c)] d10_32 (by decide) rfl rfl (pc' := 35) rfl ?_
          refine Run.iinc (1 : Int32) #[.val (.ref a), .val (.int ((Int32.ofNat i) + (1 : Int32))), .val (.ref b), .val (.int ((Int32.ofNat i) + (1 : Int32))), .val (.int (Int32.ofNat cs.length)), .val (.int (Int32.ofNat i)), .val (.int c)] d10_35 (by decide) rfl rfl (pc' := 38) rfl ?_
          refine Run.iinc (1 : Int32) #[.val (.ref a), .val (.int ((Int32.ofNat i) + (1 : Int32))), .val (.ref b), .val (.int ((Int32.ofNat i) + (1 : Int32))), .val (.int (Int32.ofNat cs.length)), .val (.int ((Int32.ofNat i) + (1 : Int32))), .val (.int c)] d10_38 (by decide) rfl rfl (pc' := 41) rfl ?_
          refine Run.goto d10_41 (by decide) (pc' := 3) (by decide) ?_
          simp only [own_inc]
          exact ih (i + 1) (by omega) (by omega) h11 _ (Or.inr ⟨_, rfl, rfl⟩) A_a_11 (by have q := A11; rw [own_nbb] at q; rw [← own_pre hci hil]; exact q) sz11 kp11
        · exact absurd hc20 (by have := (hlat c (List.mem_of_getElem? hci)).2; rw [Int32.lt_iff_toInt_lt]; have h5 : (255 : Int32).toInt = 255 := rfl; omega)
  exact loop cs.length 0 (by omega) (by omega) h0 .unset (Or.inl rfl) AC (by simpa [own_by] using AB) Z0 (Keep.refl h0 [b])
theorem d9_0 : decode jdk_52_method_16_code 0 = .ok (.iload_n 2, 1) := by decide +kernel
theorem d9_1 : decode jdk_52_method_16_code 1 = .ok (.newarray .byte, 2) := by decide +kernel
theorem d9_3 : decode jdk_52_method_16_code 3 = .ok (.astore_n 3, 1) := by decide +kernel
theorem d9_4 : decode jdk_52_method_16_code 4 = .ok (.aload_n 0, 1) := by decide +kernel
theorem d9_5 : decode jdk_52_method_16_code 5 = .ok (.iload_n 1, 1) := by decide +kernel
theorem d9_6 : decode jdk_52_method_16_code 6 = .ok (.aload_n 3, 1) := by decide +kernel
theorem d9_7 : decode jdk_52_method_16_code 7 = .ok (.iconst 0, 1) := by decide +kernel
theorem d9_8 : decode jdk_52_method_16_code 8 = .ok (.iload_n 2, 1) := by decide +kernel
theorem d9_9 : decode jdk_52_method_16_code 9 = .ok (.invokestatic 115, 3) := by decide +kernel
theorem d9_12 : decode jdk_52_method_16_code 12 = .ok (.istore 4, 2) := by decide +kernel
theorem d9_14 : decode jdk_52_method_16_code 14 = .ok (.iload 4, 2) := by decide +kernel
theorem d9_16 : decode jdk_52_method_16_code 16 = .ok (.iload_n 2, 1) := by decide +kernel
theorem d9_17 : decode jdk_52_method_16_code 17 = .ok (.if_icmp .eq 40, 3) := by decide +kernel
theorem d9_57 : decode jdk_52_method_16_code 57 = .ok (.aload_n 3, 1) := by decide +kernel
theorem d9_58 : decode jdk_52_method_16_code 58 = .ok (.areturn, 1) := by decide +kernel
theorem pn_9 : plainFor (⟨"java/lang/StringUTF16", "compress", "([CII)[B"⟩ : MethodName) = true := plainFor_of_name (by first | (simp [plainName, overriddenIn]; done) | decide +kernel)
theorem pd___CI_BII_I : parseMethodDescriptor "([CI[BII)I" = some ⟨[(.array .char), .int, (.array .byte), .int, .int], some .int⟩ := by decide +kernel
theorem ef_con_cmp3 (m : MethodId) (a : Addr) (cs : List Int32)  : entryFrame m #[(.ref a), (.int (0 : Int32)), (.int (Int32.ofNat cs.length))] 6 = mkF m 0 #[.val (.ref a), .val (.int (0 : Int32)), .val (.int (Int32.ofNat cs.length)), .unset, .unset, .unset] [] := by first | (simp [entryFrame, mkF, argsToLocals, Value.category]; done) | rfl
set_option maxRecDepth 65536 in
set_option maxHeartbeats 40000000 in
theorem con_cmp3 (l : Launch) (Z : State) (a0 : Array Value) (hw : ∀ d ∈ tables_1, d.before a0 Z = true) (n0 : Nat) (h0 : Heap) (Z0 : n0 ≤ h0.size) (a : Addr) (cs : List Int32) (AC : Ary Z h0 a .char (cs.map Value.int)) (hn : cs.length ≤ 24) (hlat : own_lat cs) :
    Con l Z n0 (⟨"java/lang/StringUTF16", "compress", "([CII)[B"⟩ : MethodName) jdk_52_method_16_code 6 (some (.array .byte)) ({ frames := 1, cells := 1, slots := 24, locals := 18 } : Room) #[(.ref a), (.int (0 : Int32)), (.int (Int32.ofNat cs.length))] h0 (Val fun w h' => ∃ b, w = .ref b ∧ h0.size ≤ b ∧ Ext h0 h' ∧ Ary Z h' b .byte (own_by cs)) := by
  refine Con.of_run pn_9 (fun m => ef_con_cmp3 m a cs ) ?_
  refine Run.iloadN d9_0 rfl (pc' := 1) rfl ?_
  refine Run.newP (ty := .byte) (m := cs.length) (cap := 24) (dv := (.int (0 : Int32))) (k' := 1) (n' := 24) d9_1 rfl (hw _ (List.mem_of_getElem? (i := 3) rfl)) (by rw [Int32.lt_iff_toInt_lt, own_ofn (by omega)]; have h5 : (0 : Int32).toInt = 0 := rfl; omega) (clamp_of rfl (by omega)) hn rfl (by decide) (by decide) (by decide) (by decide) (by decide) (pc' := 3) rfl ?_
  intro h11 b11 g11 E11 A11
  have ge_b11 : n0 ≤ b11 := by rw [g11]; exact Z0
  have bo_b11 : h0.size ≤ b11 := by rw [g11]; exact (Keep.refl h0 []).1
  have ne_a_b11 : a ≠ b11 := by rw [g11]; exact Nat.ne_of_lt AC.lt
  have A_a_11 := AC.ext E11
  have sz11 : n0 ≤ h11.size := Nat.le_trans Z0 E11.1
  have kp11 := Keep.ext (Keep.refl h0 []) E11
  refine Run.astoreN (l' := #[.val (.ref a), .val (.int (0 : Int32)), .val (.int (Int32.ofNat cs.length)), .val (.ref b11), .unset, .unset]) d9_3 rfl rfl (pc' := 4) rfl ?_
  refine Run.aloadN d9_4 rfl rfl (pc' := 5) rfl ?_
  refine Run.iloadN d9_5 rfl (pc' := 6) rfl ?_
  refine Run.aloadN d9_6 rfl rfl (pc' := 7) rfl ?_
  refine Run.iconst (0 : Int32) d9_7 (by decide) (pc' := 8) rfl ?_
  refine Run.iloadN d9_8 rfl (pc' := 9) rfl ?_
  refine Run.callS (k' := 1) (n' := 24) (as := [(.ref a), (.int (0 : Int32)), (.ref b11), (.int (0 : Int32)), (.int (Int32.ofNat cs.length))]) (rest := []) (con_cmp5 l Z a0 hw n0 h11 sz11 a b11 cs A_a_11 A11 ne_a_b11 ge_b11 (by omega) hlat) d9_9 (hw _ (List.mem_of_getElem? (i := 49) rfl)) (hw _ (List.mem_of_getElem? (i := 50) rfl)) (hw _ (List.mem_of_getElem? (i := 47) rfl)) (hw _ (List.mem_of_getElem? (i := 51) rfl)) (by decide) pd___CI_BII_I rfl rfl rfl (by decide) (by show (0 : Nat) + (7 + 11) + 0 ≤ _; decide) (by decide) (by decide) (by decide) (by decide) (pc' := 12) rfl ?_
  rintro _ h12 ⟨_, rfl, ⟨rfl, K12, P12⟩⟩
  show Run l Z n0 "java/lang/StringUTF16" jdk_52_method_16_code 6 (some (.array .byte)) (⟨"java/lang/StringUTF16", "compress", "([CII)[B"⟩ : MethodName) ({ frames := 1, cells := 1, slots := 24, locals := 18 } : Room) _ 12 #[.val (.ref a), .val (.int (0 : Int32)), .val (.int (Int32.ofNat cs.length)), .val (.ref b11), .unset, .unset] [(.int (Int32.ofNat cs.length))] h12 1 24
  have A_a_12 := A_a_11.keep K12 (ninS ne_a_b11 nin0)
  have sz12 : n0 ≤ h12.size := Nat.le_trans sz11 K12.1
  have kp12 := Keep.trans kp11 K12 (allS (Or.inr bo_b11) all0)
  refine Run.istore (l' := #[.val (.ref a), .val (.int (0 : Int32)), .val (.int (Int32.ofNat cs.length)), .val (.ref b11), .val (.int (Int32.ofNat cs.length)), .unset]) d9_12 rfl (pc' := 14) rfl ?_
  refine Run.iload d9_14 rfl (pc' := 16) rfl ?_
  refine Run.iloadN d9_16 rfl (pc' := 17) rfl ?_
  refine Run.icmp_eq d9_17 (by decide) (pc' := 57) (by decide) (pa := 20) rfl (fun hc17 => ?_) (fun hc17 => ?_)
  · refine Run.aloadN d9_57 rfl rfl (pc' := 58) rfl ?_
    exact Run.areturn d9_58 (ty := (.array .byte)) rfl rfl rfl (by decide) (by decide) ⟨_, rfl, b11, rfl, bo_b11, Keep.toExt kp12, P12⟩
  · exact absurd rfl hc17
theorem d11_0 : decode jdk_52_method_15_code 0 = .ok (.iload_n 1, 1) := by decide +kernel
theorem d11_1 : decode jdk_52_method_15_code 1 = .ok (.aload_n 0, 1) := by decide +kernel
theorem d11_2 : decode jdk_52_method_15_code 2 = .ok (.arraylength, 1) := by decide +kernel
theorem d11_3 : decode jdk_52_method_15_code 3 = .ok (.isub, 1) := by decide +kernel
theorem d11_4 : decode jdk_52_method_15_code 4 = .ok (.bipush 31, 2) := by decide +kernel
theorem d11_6 : decode jdk_52_method_15_code 6 = .ok (.iushr, 1) := by decide +kernel
theorem d11_7 : decode jdk_52_method_15_code 7 = .ok (.i2b, 1) := by decide +kernel
theorem d11_8 : decode jdk_52_method_15_code 8 = .ok (.ireturn, 1) := by decide +kernel
theorem pn_11 : plainFor (⟨"java/lang/StringUTF16", "coderFromArrayLen", "([BI)B"⟩ : MethodName) = true := plainFor_of_name (by first | (simp [plainName, overriddenIn]; done) | decide +kernel)
theorem ef_con_cfal (m : MethodId) (a : Addr) (cs : List Int32)  : entryFrame m #[(.ref a), (.int (Int32.ofNat cs.length))] 2 = mkF m 0 #[.val (.ref a), .val (.int (Int32.ofNat cs.length))] [] := by first | (simp [entryFrame, mkF, argsToLocals, Value.category]; done) | rfl
set_option maxRecDepth 65536 in
set_option maxHeartbeats 40000000 in
theorem con_cfal (l : Launch) (Z : State) (a0 : Array Value) (hw : ∀ d ∈ tables_1, d.before a0 Z = true) (n0 : Nat) (h0 : Heap) (Z0 : n0 ≤ h0.size) (a : Addr) (cs : List Int32) (AB : Ary Z h0 a .byte (own_by cs)) :
    Con l Z n0 (⟨"java/lang/StringUTF16", "coderFromArrayLen", "([BI)B"⟩ : MethodName) jdk_52_method_15_code 2 (some .byte) ({ frames := 0, cells := 0, slots := 0, locals := 0 } : Room) #[(.ref a), (.int (Int32.ofNat cs.length))] h0 (Val (PV (.int (0 : Int32)) h0)) := by
  refine Con.of_run pn_11 (fun m => ef_con_cfal m a cs ) ?_
  refine Run.iloadN d11_0 rfl (pc' := 1) rfl ?_
  refine Run.aloadN d11_1 rfl rfl (pc' := 2) rfl ?_
  refine Run.alen (z := (Int32.ofNat cs.length)) d11_2 AB (by simp [own_by]) (pc' := 3) rfl ?_
  refine Run.isub d11_3 (pc' := 4) rfl ?_
  refine Run.bipush (31 : Int32) d11_4 (by decide) (pc' := 6) rfl ?_
  refine Run.iushr d11_6 (pc' := 7) rfl ?_
  refine Run.i2b d11_7 (pc' := 8) rfl ?_
  exact Run.nreturn d11_8 (ty := .byte) rfl (by simp) (by decide) (by decide) ⟨_, rfl, congrArg Value.int (by rw [Int32.sub_self]; decide), rfl⟩
theorem own_pos {cs : List Int32} (h : cs ≠ []) (h2 : cs.length < 2 ^ 31) : ¬ Int32.ofNat cs.length = (0 : Int32) := fun e => by
  have h1 := own_ofn h2; rw [e] at h1; have h5 : (0 : Int32).toInt = 0 := rfl; have := List.length_pos_iff.mpr h; omega
theorem d7_0 : decode jdk_42_method_149_code 0 = .ok (.aload_n 0, 1) := by decide +kernel
theorem d7_1 : decode jdk_42_method_149_code 1 = .ok (.invokespecial 1, 3) := by decide +kernel
theorem d7_4 : decode jdk_42_method_149_code 4 = .ok (.iload_n 3, 1) := by decide +kernel
theorem d7_5 : decode jdk_42_method_149_code 5 = .ok (.ifCond .ne 22, 3) := by decide +kernel
theorem d7_27 : decode jdk_42_method_149_code 27 = .ok (.getstatic 38, 3) := by decide +kernel
theorem d7_30 : decode jdk_42_method_149_code 30 = .ok (.ifCond .eq 28, 3) := by decide +kernel
theorem d7_33 : decode jdk_42_method_149_code 33 = .ok (.aload_n 1, 1) := by decide +kernel
theorem d7_34 : decode jdk_42_method_149_code 34 = .ok (.iload_n 2, 1) := by decide +kernel
theorem d7_35 : decode jdk_42_method_149_code 35 = .ok (.iload_n 3, 1) := by decide +kernel
theorem d7_36 : decode jdk_42_method_149_code 36 = .ok (.invokestatic 177, 3) := by decide +kernel
theorem d7_39 : decode jdk_42_method_149_code 39 = .ok (.astore 5, 2) := by decide +kernel
theorem d7_41 : decode jdk_42_method_149_code 41 = .ok (.aload_n 0, 1) := by decide +kernel
theorem d7_42 : decode jdk_42_method_149_code 42 = .ok (.aload 5, 2) := by decide +kernel
theorem d7_44 : decode jdk_42_method_149_code 44 = .ok (.iload_n 3, 1) := by decide +kernel
theorem d7_45 : decode jdk_42_method_149_code 45 = .ok (.invokestatic 47, 3) := by decide +kernel
theorem d7_48 : decode jdk_42_method_149_code 48 = .ok (.putfield 15, 3) := by decide +kernel
theorem d7_51 : decode jdk_42_method_149_code 51 = .ok (.aload_n 0, 1) := by decide +kernel
theorem d7_52 : decode jdk_42_method_149_code 52 = .ok (.aload 5, 2) := by decide +kernel
theorem d7_54 : decode jdk_42_method_149_code 54 = .ok (.putfield 9, 3) := by decide +kernel
theorem d7_57 : decode jdk_42_method_149_code 57 = .ok (.return_, 1) := by decide +kernel
theorem pn_7 : plainFor (⟨"java/lang/String", "<init>", "([CIILjava/lang/Void;)V"⟩ : MethodName) = true := plainFor_of_name (by first | (simp [plainName, overriddenIn]; done) | decide +kernel)
theorem pd___BI_B : parseMethodDescriptor "([BI)B" = some ⟨[(.array .byte), .int], some .byte⟩ := by decide +kernel
theorem pd___CII__B : parseMethodDescriptor "([CII)[B" = some ⟨[(.array .char), .int, .int], some (.array .byte)⟩ := by decide +kernel
theorem ef_con_si4 (m : MethodId) (t : Addr) (a : Addr) (cs : List Int32) (cz : Int32) (uv : Value) (uc : Value)  : entryFrame m #[(.ref t), (.ref a), (.int (0 : Int32)), (.int (Int32.ofNat cs.length)), .null] 6 = mkF m 0 #[.val (.ref t), .val (.ref a), .val (.int (0 : Int32)), .val (.int (Int32.ofNat cs.length)), .val .null, .unset] [] := by first | (simp [entryFrame, mkF, argsToLocals, Value.category]; done) | rfl
set_option maxRecDepth 65536 in
set_option maxHeartbeats 40000000 in
theorem con_si4 (l : Launch) (Z : State) (a0 : Array Value) (hw : ∀ d ∈ tables_1, d.before a0 Z = true) (n0 : Nat) (h0 : Heap) (Z0 : n0 ≤ h0.size) (t : Addr) (a : Addr) (cs : List Int32) (cz : Int32) (uv : Value) (uc : Value) (E1 : Exa Z h0 t "java/lang/String") (FV : Fld Z h0 t "java/lang/String" "value" "[B" uv) (FC : Fld Z h0 t "java/lang/String" "coder" "B" uc) (gt : n0 ≤ t) (AC : Ary Z h0 a .char (cs.map Value.int)) (hne : cs ≠ []) (hn : cs.length ≤ 24) (hlat : own_lat cs) (SZ : Sta Z h0 "java/lang/String" "COMPACT_STRINGS" "Z" (.int cz)) (hcz : ¬ cz = 0) (hta : t ≠ a) :
    Con l Z n0 (⟨"java/lang/String", "<init>", "([CIILjava/lang/Void;)V"⟩ : MethodName) jdk_42_method_149_code 6 none ({ frames := 2, cells := 1, slots := 24, locals := 35 } : Room) #[(.ref t), (.ref a), (.int (0 : Int32)), (.int (Int32.ofNat cs.length)), .null] h0 (Vd fun h' => ∃ b, h0.size ≤ b ∧ Keep h0 h' [t] ∧ Exa Z h' t "java/lang/String" ∧ Fld Z h' t "java/lang/String" "value" "[B" (.ref b) ∧ Fld Z h' t "java/lang/String" "coder" "B" (.int (0 : Int32)) ∧ Ary Z h' b .byte (own_by cs)) := by
  refine Con.of_run pn_7 (fun m => ef_con_si4 m t a cs cz uv uc ) ?_
  refine Run.aloadN d7_0 rfl rfl (pc' := 1) rfl ?_
  refine Run.initO d7_1 (hw _ (List.mem_of_getElem? (i := 42) rfl)) (hw _ (List.mem_of_getElem? (i := 43) rfl)) (hw _ (List.mem_of_getElem? (i := 44) rfl)) rfl (by decide) (by show (0 : Nat) + 12 ≤ _; decide) (pc' := 4) rfl ?_
  refine Run.iloadN d7_4 rfl (pc' := 5) rfl ?_
  refine Run.if_ne d7_5 (by decide) (pc' := 27) (by decide) (pa := 8) rfl (fun hc5 => ?_) (fun hc5 => ?_)
  · refine Run.getS d7_27 (host := "") (Or.inl (hw _ (List.mem_of_getElem? (i := 19) rfl))) Via.refl SZ (pc' := 30) rfl ?_
    refine Run.if_eq d7_30 (by decide) (pc' := 58) (by decide) (pa := 33) rfl (fun hc30 => ?_) (fun hc30 => ?_)
    · exact absurd hc30 hcz
    · refine Run.aloadN d7_33 rfl rfl (pc' := 34) rfl ?_
      refine Run.iloadN d7_34 rfl (pc' := 35) rfl ?_
      refine Run.iloadN d7_35 rfl (pc' := 36) rfl ?_
      refine Run.callS (k' := 1) (n' := 24) (as := [(.ref a), (.int (0 : Int32)), (.int (Int32.ofNat cs.length))]) (rest := []) (con_cmp3 l Z a0 hw n0 h0 Z0 a cs AC hn hlat) d7_36 (hw _ (List.mem_of_getElem? (i := 45) rfl)) (hw _ (List.mem_of_getElem? (i := 46) rfl)) (hw _ (List.mem_of_getElem? (i := 47) rfl)) (hw _ (List.mem_of_getElem? (i := 48) rfl)) (by decide) pd___CII__B rfl rfl rfl (by decide) (by show (0 : Nat) + (6 + 11) + 18 ≤ _; decide) (by decide) (by decide) (by decide) (by decide) (pc' := 39) rfl ?_
      rintro _ h11 ⟨_, rfl, ⟨b11, rfl, bw11, E11, P11⟩⟩
      show Run l Z n0 "java/lang/String" jdk_42_method_149_code 6 none (⟨"java/lang/String", "<init>", "([CIILjava/lang/Void;)V"⟩ : MethodName) ({ frames := 2, cells := 1, slots := 24, locals := 35 } : Room) _ 39 #[.val (.ref t), .val (.ref a), .val (.int (0 : Int32)), .val (.int (Int32.ofNat cs.length)), .val .null, .unset] [(.ref b11)] h11 1 24
      have ge_b11 : n0 ≤ b11 := Nat.le_trans Z0 bw11
      have bo_b11 : h0.size ≤ b11 := Nat.le_trans (Keep.refl h0 [t]).1 bw11
      have ne_t_b11 : t ≠ b11 := Nat.ne_of_lt (Nat.lt_of_lt_of_le E1.lt bw11)
      have ne_a_b11 : a ≠ b11 := Nat.ne_of_lt (Nat.lt_of_lt_of_le AC.lt bw11)
      have E_t_11 := E1.ext E11
      have F_t_value_11 := FV.ext E11
      have F_t_coder_11 := FC.ext E11
      have A_a_11 := AC.ext E11
      have S_javalangString_COMPACT_STRINGS_11 := SZ.ext E11
      have sz11 : n0 ≤ h11.size := Nat.le_trans Z0 E11.1
      have kp11 := Keep.ext (Keep.refl h0 [t]) E11
      refine Run.astore (l' := #[.val (.ref t), .val (.ref a), .val (.int (0 : Int32)), .val (.int (Int32.ofNat cs.length)), .val .null, .val (.ref b11)]) d7_39 rfl rfl (pc' := 41) rfl ?_
      refine Run.aloadN d7_41 rfl rfl (pc' := 42) rfl ?_
      refine Run.aload d7_42 rfl rfl (pc' := 44) rfl ?_
      refine Run.iloadN d7_44 rfl (pc' := 45) rfl ?_
      refine Run.callS (k' := 1) (n' := 24) (as := [(.ref b11), (.int (Int32.ofNat cs.length))]) (rest := [(.ref t)]) (con_cfal l Z a0 hw n0 h11 sz11  b11 cs P11) d7_45 (hw _ (List.mem_of_getElem? (i := 52) rfl)) (hw _ (List.mem_of_getElem? (i := 53) rfl)) (hw _ (List.mem_of_getElem? (i := 47) rfl)) (hw _ (List.mem_of_getElem? (i := 54) rfl)) (by decide) pd___BI_B rfl rfl rfl (by decide) (by show (1 : Nat) + (2 + 11) + 0 ≤ _; decide) (by decide) (by decide) (by decide) (by decide) (pc' := 48) rfl ?_
      rintro _ _ ⟨_, rfl, rfl, rfl⟩
      show Run l Z n0 "java/lang/String" jdk_42_method_149_code 6 none (⟨"java/lang/String", "<init>", "([CIILjava/lang/Void;)V"⟩ : MethodName) ({ frames := 2, cells := 1, slots := 24, locals := 35 } : Room) _ 48 #[.val (.ref t), .val (.ref a), .val (.int (0 : Int32)), .val (.int (Int32.ofNat cs.length)), .val .null, .val (.ref b11)] [(.int (0 : Int32)), (.ref t)] h11 1 24
      refine Run.putFN d7_48 (hw _ (List.mem_of_getElem? (i := 20) rfl)) Via.refl F_t_coder_11 E_t_11 (Or.inr ⟨(hw _ (List.mem_of_getElem? (i := 5) rfl)), rfl, rfl⟩) (hw _ (List.mem_of_getElem? (i := 2) rfl)) (ty := .byte) (v' := (.int (0 : Int32))) (by decide) rfl rfl gt (pc' := 51) rfl ?_
      intro h12 W12
      have Fw12 := F_t_coder_11.same W12
      have E_t_12 := E_t_11.wr W12
      have F_t_value_12 := F_t_value_11.other W12 (Or.inr (slot_ne (Or.inr (hw _ (List.mem_of_getElem? (i := 4) rfl))) (Or.inr (hw _ (List.mem_of_getElem? (i := 5) rfl))) (by decide) (t := (.array .byte)) (t' := .byte) (by decide) (by decide)))
      have A_a_12 := A_a_11.other W12 hta.symm
      have S_javalangString_COMPACT_STRINGS_12 := S_javalangString_COMPACT_STRINGS_11.wr W12
      have A_b11_12 := P11.other W12 (Ne.symm ne_t_b11)
      have sz12 : n0 ≤ h12.size := by rw [W12.size]; exact sz11
      have kp12 := Keep.wr kp11 W12 (Or.inl (List.mem_of_getElem? (i := 0) rfl))
      refine Run.aloadN d7_51 rfl rfl (pc' := 52) rfl ?_
      refine Run.aload d7_52 rfl rfl (pc' := 54) rfl ?_
      refine Run.putF d7_54 (host := "") (Or.inl (hw _ (List.mem_of_getElem? (i := 21) rfl))) Via.refl F_t_value_12 E_t_12 (Or.inr ⟨(hw _ (List.mem_of_getElem? (i := 4) rfl)), rfl, rfl⟩) (hw _ (List.mem_of_getElem? (i := 2) rfl)) (ty := (.array .byte)) (by decide) (go_narref rfl rfl) rfl gt (pc' := 57) rfl ?_
      intro h13 W13
      have Fw13 := F_t_value_12.same W13
      have E_t_13 := E_t_12.wr W13
      have A_a_13 := A_a_12.other W13 hta.symm
      have S_javalangString_COMPACT_STRINGS_13 := S_javalangString_COMPACT_STRINGS_12.wr W13
      have A_b11_13 := A_b11_12.other W13 (Ne.symm ne_t_b11)
      have F_t_coder_13 := Fw12.other W13 (Or.inr (slot_ne (Or.inr (hw _ (List.mem_of_getElem? (i := 5) rfl))) (Or.inr (hw _ (List.mem_of_getElem? (i := 4) rfl))) (by decide) (t := .byte) (t' := (.array .byte)) (by decide) (by decide)))
      have sz13 : n0 ≤ h13.size := by rw [W13.size]; exact sz12
      have kp13 := Keep.wr kp12 W13 (Or.inl (List.mem_of_getElem? (i := 0) rfl))
      exact Run.vreturn d7_57 rfl (by decide) (by decide) ⟨rfl, b11, bo_b11, kp13, E_t_13, Fw13, F_t_coder_13, A_b11_13⟩
  · exact absurd hc5 (own_pos hne (by omega))
theorem d6_0 : decode jdk_42_method_3_code 0 = .ok (.aload_n 0, 1) := by decide +kernel
theorem d6_1 : decode jdk_42_method_3_code 1 = .ok (.aload_n 1, 1) := by decide +kernel
theorem d6_2 : decode jdk_42_method_3_code 2 = .ok (.iconst 0, 1) := by decide +kernel
theorem d6_3 : decode jdk_42_method_3_code 3 = .ok (.aload_n 1, 1) := by decide +kernel
theorem d6_4 : decode jdk_42_method_3_code 4 = .ok (.arraylength, 1) := by decide +kernel
theorem d6_5 : decode jdk_42_method_3_code 5 = .ok (.aconst_null, 1) := by decide +kernel
theorem d6_6 : decode jdk_42_method_3_code 6 = .ok (.invokespecial 27, 3) := by decide +kernel
theorem d6_9 : decode jdk_42_method_3_code 9 = .ok (.return_, 1) := by decide +kernel
theorem pn_6 : plainFor (⟨"java/lang/String", "<init>", "([C)V"⟩ : MethodName) = true := plainFor_of_name (by first | (simp [plainName, overriddenIn]; done) | decide +kernel)
theorem pd___CIILjava_lang_Void__V : parseMethodDescriptor "([CIILjava/lang/Void;)V" = some ⟨[(.array .char), .int, .int, (.object "java/lang/Void")], none⟩ := by decide +kernel
theorem ef_con_si1 (m : MethodId) (t : Addr) (a : Addr) (cs : List Int32) (cz : Int32) (uv : Value) (uc : Value)  : entryFrame m #[(.ref t), (.ref a)] 2 = mkF m 0 #[.val (.ref t), .val (.ref a)] [] := by first | (simp [entryFrame, mkF, argsToLocals, Value.category]; done) | rfl
set_option maxRecDepth 65536 in
set_option maxHeartbeats 40000000 in
theorem con_si1 (l : Launch) (Z : State) (a0 : Array Value) (hw : ∀ d ∈ tables_1, d.before a0 Z = true) (n0 : Nat) (h0 : Heap) (Z0 : n0 ≤ h0.size) (t : Addr) (a : Addr) (cs : List Int32) (cz : Int32) (uv : Value) (uc : Value) (E1 : Exa Z h0 t "java/lang/String") (FV : Fld Z h0 t "java/lang/String" "value" "[B" uv) (FC : Fld Z h0 t "java/lang/String" "coder" "B" uc) (gt : n0 ≤ t) (AC : Ary Z h0 a .char (cs.map Value.int)) (hne : cs ≠ []) (hn : cs.length ≤ 24) (hlat : own_lat cs) (SZ : Sta Z h0 "java/lang/String" "COMPACT_STRINGS" "Z" (.int cz)) (hcz : ¬ cz = 0) (hta : t ≠ a) :
    Con l Z n0 (⟨"java/lang/String", "<init>", "([C)V"⟩ : MethodName) jdk_42_method_3_code 2 none ({ frames := 3, cells := 1, slots := 24, locals := 52 } : Room) #[(.ref t), (.ref a)] h0 (Vd fun h' => ∃ b, h0.size ≤ b ∧ Keep h0 h' [t] ∧ Exa Z h' t "java/lang/String" ∧ Fld Z h' t "java/lang/String" "value" "[B" (.ref b) ∧ Fld Z h' t "java/lang/String" "coder" "B" (.int (0 : Int32)) ∧ Ary Z h' b .byte (own_by cs)) := by
  refine Con.of_run pn_6 (fun m => ef_con_si1 m t a cs cz uv uc ) ?_
  refine Run.aloadN d6_0 rfl rfl (pc' := 1) rfl ?_
  refine Run.aloadN d6_1 rfl rfl (pc' := 2) rfl ?_
  refine Run.iconst (0 : Int32) d6_2 (by decide) (pc' := 3) rfl ?_
  refine Run.aloadN d6_3 rfl rfl (pc' := 4) rfl ?_
  refine Run.alen (z := (Int32.ofNat cs.length)) d6_4 AC (by simp) (pc' := 5) rfl ?_
  refine Run.aconst d6_5 (pc' := 6) rfl ?_
  refine Run.callN (k' := 1) (n' := 24) (a := t) (as := [(.ref a), (.int (0 : Int32)), (.int (Int32.ofNat cs.length)), .null]) (rest := []) (con_si4 l Z a0 hw n0 h0 Z0 t a cs cz uv uc E1 FV FC gt AC hne hn hlat SZ hcz (Ne.symm hta.symm)) rfl d6_6 (hw _ (List.mem_of_getElem? (i := 38) rfl)) (hw _ (List.mem_of_getElem? (i := 39) rfl)) (hw _ (List.mem_of_getElem? (i := 1) rfl)) (hw _ (List.mem_of_getElem? (i := 41) rfl)) (by decide) pd___CIILjava_lang_Void__V rfl rfl rfl (by decide) (by show (0 : Nat) + (6 + 11) + 35 ≤ _; decide) (by decide) (by decide) (by decide) (by decide) (pc' := 9) rfl ?_
  rintro h11 ⟨b11, bw11, K11, X11, FV11, FC11, P11⟩
  show Run l Z n0 "java/lang/String" jdk_42_method_3_code 2 none (⟨"java/lang/String", "<init>", "([C)V"⟩ : MethodName) ({ frames := 3, cells := 1, slots := 24, locals := 52 } : Room) _ 9 #[.val (.ref t), .val (.ref a)] [] h11 1 24
  have ge_b11 : n0 ≤ b11 := Nat.le_trans Z0 bw11
  have bo_b11 : h0.size ≤ b11 := Nat.le_trans (Keep.refl h0 [t]).1 bw11
  have ne_t_b11 : t ≠ b11 := Nat.ne_of_lt (Nat.lt_of_lt_of_le E1.lt bw11)
  have ne_a_b11 : a ≠ b11 := Nat.ne_of_lt (Nat.lt_of_lt_of_le AC.lt bw11)
  have E_t_11 := E1.keep K11
  have A_a_11 := AC.keep K11 (ninS hta.symm nin0)
  have S_javalangString_COMPACT_STRINGS_11 := sta_keep SZ K11 (allS (nst_exa E1) all0)
  have sz11 : n0 ≤ h11.size := Nat.le_trans Z0 K11.1
  have kp11 := Keep.trans (Keep.refl h0 [t]) K11 (allS (Or.inl (List.mem_of_getElem? (i := 0) rfl)) all0)
  exact Run.vreturn d6_9 rfl (by decide) (by decide) ⟨rfl, b11, bo_b11, kp11, X11, FV11, FC11, P11⟩
def own_chr (cs : List Int32) : Prop := ∀ c ∈ cs, 0 ≤ c.toInt ∧ c.toInt ≤ 65535
def own_b0 (c : Int32) : Int32 := nar .byte (c >>> ((0 : Int32) &&& 31))
def own_b1 (c : Int32) : Int32 := nar .byte (c >>> ((8 : Int32) &&& 31))
def own_u16 (cs : List Int32) : List Value := cs.flatMap fun c => [Value.int (own_b0 c), Value.int (own_b1 c)]
def own_pfx : List Int32 → Nat
  | [] => 0
  | c :: r => if (255 : Int32) < c then 0 else own_pfx r + 1
def own_enc (cs : List Int32) : List Value := if own_pfx cs = cs.length then own_by cs else own_u16 cs
def own_coder (cs : List Int32) : Int32 := if own_pfx cs = cs.length then 0 else 1
def own_gc (x y : Int32) : Int32 := nar .char (nar .char (((x &&& (255 : Int32)) <<< ((0 : Int32) &&& 31)) ||| ((y &&& (255 : Int32)) <<< ((8 : Int32) &&& 31))))
theorem own_pfx_le : ∀ r : List Int32, own_pfx r ≤ r.length
  | [] => Nat.le_refl _
  | c :: r => by unfold own_pfx; split; omega; have := own_pfx_le r; simp; omega
theorem own_pfx_end {cs : List Int32} {i : Nat} (h : cs.length ≤ i) : own_pfx (cs.drop i) = 0 := by rw [List.drop_eq_nil_of_le h]; rfl
theorem own_gD {cs : List Int32} {i : Nat} (h : i < cs.length) : cs.getD i 0 = cs[i] := by simp [List.getD_eq_getElem?_getD, h]
theorem own_pfx_at {cs : List Int32} {i : Nat} (h : i < cs.length) : own_pfx (cs.drop i) = if (255 : Int32) < cs.getD i 0 then 0 else own_pfx (cs.drop (i + 1)) + 1 := by
  rw [List.drop_eq_getElem_cons h, own_gD h]; rfl
theorem own_pfx_stop {cs : List Int32} (h : ¬ own_pfx cs = cs.length) : own_pfx cs < cs.length ∧ (255 : Int32) < cs.getD (own_pfx cs) 0 := by
  induction cs with
  | nil => exact absurd rfl h
  | cons c r ih =>
    unfold own_pfx at h ⊢
    split at h
    · rename_i q; rw [if_pos q]; exact ⟨by simp, q⟩
    · rename_i q; rw [if_neg q]
      obtain ⟨h1, h2⟩ := ih (fun e => h (by simp [e]))
      exact ⟨by simp; omega, by simpa [List.getD_cons_succ] using h2⟩
theorem own_u16_len (cs : List Int32) : (own_u16 cs).length = 2 * cs.length := by
  induction cs with
  | nil => rfl
  | cons c r ih => simp only [own_u16, List.flatMap_cons, List.length_append] at ih ⊢; rw [ih]; simp; omega
theorem own_u16_cons (c : Int32) (r : List Int32) : own_u16 (c :: r) = Value.int (own_b0 c) :: Value.int (own_b1 c) :: own_u16 r := by simp [own_u16]
theorem own_u16_get {cs : List Int32} {i : Nat} (h : i < cs.length) : (own_u16 cs)[2 * i]? = some (Value.int (own_b0 (cs.getD i 0))) ∧ (own_u16 cs)[2 * i + 1]? = some (Value.int (own_b1 (cs.getD i 0))) := by
  induction cs generalizing i with
  | nil => simp at h
  | cons c r ih =>
    rw [own_u16_cons]
    cases i with
    | zero => exact ⟨rfl, rfl⟩
    | succ i =>
      have := ih (i := i) (by simpa using h)
      rw [show 2 * (i + 1) = (2 * i + 1) + 1 by omega, List.getElem?_cons_succ, List.getElem?_cons_succ, List.getElem?_cons_succ, List.getElem?_cons_succ, List.getD_cons_succ]
      exact this
theorem own_u16_app (a b : List Int32) : own_u16 (a ++ b) = own_u16 a ++ own_u16 b := by simp [own_u16]
theorem own_by_get {cs : List Int32} {i : Nat} (h : i < cs.length) : (own_by cs)[i]? = some (Value.int (nar .byte (cs.getD i 0))) := by rw [own_gD h]; simp [own_by, h]
theorem own_u16_set {cs : List Int32} {i : Nat} (h : i < cs.length) :
    ((own_u16 (cs.take i) ++ List.replicate (2 * (cs.length - i)) (Value.int (0 : Int32))).set (2 * i) (Value.int (own_b0 (cs.getD i 0)))).set (2 * i + 1) (Value.int (own_b1 (cs.getD i 0))) = own_u16 (cs.take (i + 1)) ++ List.replicate (2 * (cs.length - (i + 1))) (Value.int (0 : Int32)) := by
  have e1 : 2 * (cs.length - i) = (2 * (cs.length - (i + 1)) + 1) + 1 := by omega
  have l1 : (own_u16 (cs.take i)).length = 2 * i := by rw [own_u16_len, List.length_take]; omega
  rw [e1, List.replicate_succ, List.replicate_succ, List.set_append_right _ _ (by omega), l1, Nat.sub_self, List.set_cons_zero, List.set_append_right _ _ (by omega), l1, show 2 * i + 1 - 2 * i = 1 by omega, List.set_cons_succ, List.set_cons_zero, List.take_succ_eq_append_getElem h, own_u16_app, own_gD h]
  simp [own_u16]
theorem own_by_set {cs : List Int32} {i : Nat} (h : i < cs.length) :
    ((own_by (cs.take i)) ++ List.replicate (cs.length - i) (Value.int (0 : Int32))).set i (Value.int (nar .byte (cs.getD i 0))) = own_by (cs.take (i + 1)) ++ List.replicate (cs.length - (i + 1)) (Value.int (0 : Int32)) := by
  have e1 : cs.length - i = (cs.length - (i + 1)) + 1 := by omega
  have l1 : (own_by (cs.take i)).length = i := by simp [own_by]; omega
  rw [e1, List.replicate_succ, List.set_append_right _ _ (by omega), l1, Nat.sub_self, List.set_cons_zero, List.take_succ_eq_append_getElem h, own_gD h]
  simp only [own_by, List.map_append, List.map_cons, List.map_nil, List.append_assoc, List.cons_append, List.nil_append]
theorem own_chrD {cs : List Int32} (h : own_chr cs) {i : Nat} (hi : i < cs.length) : 0 ≤ (cs.getD i 0).toInt ∧ (cs.getD i 0).toInt ≤ 65535 := by rw [own_gD hi]; exact h _ (List.getElem_mem hi)
theorem own_gcb {c : Int32} (h : 0 ≤ c.toInt ∧ c.toInt ≤ 65535) : own_gc (own_b0 c) (own_b1 c) = c := by
  apply Int32.toInt_inj.mp
  have s0 := c_ishr c 0 0 (by decide)
  have s1 := c_ishr c 8 8 (by decide)
  have b0 := c_i2b (c >>> ((0 : Int32) &&& 31))
  have b1 := c_i2b (c >>> ((8 : Int32) &&& 31))
  have m0 := c_mask (own_b0 c) 255 8 (by decide) (by decide)
  have m1 := c_mask (own_b1 c) 255 8 (by decide) (by decide)
  have l0 := c_ishl (own_b0 c &&& 255) 0 0 (by decide)
  have l1 := c_ishl (own_b1 c &&& 255) 8 8 (by decide)
  have r0 := rng32 ((own_b0 c &&& 255) <<< ((0 : Int32) &&& 31))
  have r1 := rng32 ((own_b1 c &&& 255) <<< ((8 : Int32) &&& 31))
  change ((own_b0 c).toInt - _) % 256 = 0 ∧ _ at b0
  change ((own_b1 c).toInt - _) % 256 = 0 ∧ _ at b1
  simp only [Nat.reducePow, Int.mul_one] at s0 s1 m0 m1 l0 l1
  have o := c_or' ((own_b0 c &&& 255) <<< ((0 : Int32) &&& 31)) ((own_b1 c &&& 255) <<< ((8 : Int32) &&& 31)) 8 (by decide) 256 (by decide) (by omega) (by omega) (by omega)
  unfold own_gc
  rw [own_ncc]
  have q := c_i2c (((own_b0 c &&& (255 : Int32)) <<< ((0 : Int32) &&& 31)) ||| ((own_b1 c &&& (255 : Int32)) <<< ((8 : Int32) &&& 31)))
  change ((nar .char _).toInt - _) % 65536 = 0 ∧ 0 ≤ (nar .char _).toInt ∧ (nar .char _).toInt < 65536 at q
  omega
theorem own_latc {c : Int32} (h0 : 0 ≤ c.toInt) (h : ¬ (255 : Int32) < c) : nar .char (nar .char (nar .byte c &&& (255 : Int32))) = c := by
  apply Int32.toInt_inj.mp
  rw [Int32.lt_iff_toInt_lt] at h; have e : (255 : Int32).toInt = 255 := rfl
  have b := c_i2b c; have m := c_mask (nar .byte c) 255 8 (by decide) (by decide); have q := c_i2c (nar .byte c &&& 255)
  change ((nar .byte c).toInt - _) % 256 = 0 ∧ _ at b
  change ((nar .char _).toInt - _) % 65536 = 0 ∧ 0 ≤ (nar .char _).toInt ∧ (nar .char _).toInt < 65536 at q
  simp only [Nat.reducePow] at m
  rw [own_ncc]; omega
theorem own_pfx_all {cs : List Int32} (h : own_pfx cs = cs.length) {i : Nat} (hi : i < cs.length) : ¬ (255 : Int32) < cs.getD i 0 := by
  induction cs generalizing i with
  | nil => simp at hi
  | cons c r ih =>
    unfold own_pfx at h
    split at h
    · simp at h
    · rename_i q
      cases i with
      | zero => simpa using q
      | succ i => rw [List.getD_cons_succ]; exact ih (by simpa using h) (by simpa using hi)
theorem own_shl1 {n : Nat} (h : n < 2 ^ 30) : Int32.ofNat n <<< ((1 : Int32) &&& 31) = Int32.ofNat (2 * n) := by
  apply Int32.toInt_inj.mp
  have a := c_ishl (Int32.ofNat n) 1 1 (by decide); have b := own_ofn (i := n) (by omega); have c := own_ofn (i := 2 * n) (by omega); have d := rng32 (Int32.ofNat n <<< ((1 : Int32) &&& 31))
  simp only [Nat.reducePow] at a; omega
theorem own_shr1 {n : Nat} (h : n < 2 ^ 30) : Int32.ofNat (2 * n) >>> ((1 : Int32) &&& 31) = Int32.ofNat n := by
  apply Int32.toInt_inj.mp
  have a := c_ishr (Int32.ofNat (2 * n)) 1 1 (by decide); have b := own_ofn (i := n) (by omega); have c := own_ofn (i := 2 * n) (by omega)
  simp only [Nat.reducePow] at a; omega
theorem own_shr0 (x : Int32) : x >>> ((0 : Int32) &&& 31) = x := by
  apply Int32.toInt_inj.mp
  have a := c_ishr x 0 0 (by decide)
  simp only [Nat.reducePow] at a; omega
theorem own_enc_len (cs : List Int32) : (own_enc cs).length = if own_pfx cs = cs.length then cs.length else 2 * cs.length := by
  unfold own_enc; split <;> simp [own_by, own_u16_len]
theorem own_cfl {cs : List Int32} (h : cs ≠ []) (hb : cs.length < 2 ^ 30) : nar .byte (nar .byte (XT.ushr (Int32.ofNat cs.length - Int32.ofNat (own_enc cs).length) (31 : Int32))) = own_coder cs := by
  have h1 := List.length_pos_iff.mpr h
  unfold own_coder
  rw [own_enc_len, own_nbb]
  split
  · rw [Int32.sub_self]; rfl
  · apply Int32.toInt_inj.mp
    have a := c_isub (Int32.ofNat cs.length) (Int32.ofNat (2 * cs.length)); have b := own_ofn (i := cs.length) (by omega); have c := own_ofn (i := 2 * cs.length) (by omega); have d := rng32 (Int32.ofNat cs.length - Int32.ofNat (2 * cs.length))
    have u := c_iushr (Int32.ofNat cs.length - Int32.ofNat (2 * cs.length)) 31 31 (by decide) (by decide)
    have v := c_i2b (XT.ushr (Int32.ofNat cs.length - Int32.ofNat (2 * cs.length)) (31 : Int32))
    change ((nar .byte _).toInt - _) % 256 = 0 ∧ -128 ≤ (nar .byte _).toInt ∧ (nar .byte _).toInt < 128 at v
    change (XT.ushr (Int32.ofNat cs.length - Int32.ofNat (2 * cs.length)) (31 : Int32)).toInt = _ at u
    have e : (1 : Int32).toInt = 1 := rfl
    simp only [Nat.reducePow] at u
    omega
theorem own_nge {n : Nat} (h : n < 2 ^ 31) : ¬ Int32.ofNat n < (0 : Int32) := by rw [Int32.lt_iff_toInt_lt, own_ofn h, own_z]; omega
theorem own_codb (cs : List Int32) : nar .byte (own_coder cs) = own_coder cs := by unfold own_coder; split <;> decide
def own_isl (cs : List Int32) : Int32 := if own_coder cs = 0 then 1 else 0
theorem own_cod0 {cs : List Int32} (h : own_coder cs = 0) : own_pfx cs = cs.length := by unfold own_coder at h; split at h; assumption; exact absurd h (by decide)
theorem own_cod1 {cs : List Int32} (h : ¬ own_coder cs = 0) : ¬ own_pfx cs = cs.length := fun e => h (by unfold own_coder; rw [if_pos e])
theorem own_isl0 {cs : List Int32} (h : own_isl cs = 0) : ¬ own_pfx cs = cs.length := by unfold own_isl at h; split at h; exact absurd h (by decide); rename_i q; exact own_cod1 q
theorem own_isl1 {cs : List Int32} (h : ¬ own_isl cs = 0) : own_pfx cs = cs.length := by unfold own_isl at h; split at h; rename_i q; exact own_cod0 q; exact absurd rfl h
theorem own_lenshr {cs : List Int32} (h : cs.length < 2 ^ 29) : Int32.ofNat (own_enc cs).length >>> (own_coder cs &&& 31) = Int32.ofNat cs.length := by
  rw [own_enc_len]; unfold own_coder; split
  · exact own_shr0 _
  · exact own_shr1 (by omega)
theorem own_encP {cs : List Int32} (h : own_pfx cs = cs.length) : own_enc cs = own_by cs := by unfold own_enc; rw [if_pos h]
theorem own_encN {cs : List Int32} (h : ¬ own_pfx cs = cs.length) : own_enc cs = own_u16 cs := by unfold own_enc; rw [if_neg h]
theorem d16_0 : decode jdk_42_method_152_code 0 = .ok (.getstatic 38, 3) := by decide +kernel
theorem d16_3 : decode jdk_42_method_152_code 3 = .ok (.ifCond .eq 10, 3) := by decide +kernel
theorem d16_6 : decode jdk_42_method_152_code 6 = .ok (.aload_n 0, 1) := by decide +kernel
theorem d16_7 : decode jdk_42_method_152_code 7 = .ok (.getfield 15, 3) := by decide +kernel
theorem d16_10 : decode jdk_42_method_152_code 10 = .ok (.goto 4, 3) := by decide +kernel
theorem d16_13 : decode jdk_42_method_152_code 13 = .ok (.iconst 1, 1) := by decide +kernel
theorem d16_14 : decode jdk_42_method_152_code 14 = .ok (.ireturn, 1) := by decide +kernel
theorem pn_16 : plainFor (⟨"java/lang/String", "coder", "()B"⟩ : MethodName) = true := plainFor_of_name (by first | (simp [plainName, overriddenIn]; done) | decide +kernel)
theorem ef_con_cod (m : MethodId) (t : Addr) (cs : List Int32) (cz : Int32)  : entryFrame m #[(.ref t)] 1 = mkF m 0 #[.val (.ref t)] [] := by first | (simp [entryFrame, mkF, argsToLocals, Value.category]; done) | rfl
set_option maxRecDepth 65536 in
set_option maxHeartbeats 40000000 in
theorem con_cod (l : Launch) (Z : State) (a0 : Array Value) (hw : ∀ d ∈ tables_1, d.before a0 Z = true) (n0 : Nat) (h0 : Heap) (Z0 : n0 ≤ h0.size) (t : Addr) (cs : List Int32) (cz : Int32) (od0 : Old Z n0 h0) (SZ : Sta Z Z.heap "java/lang/String" "COMPACT_STRINGS" "Z" (.int cz)) (hcz : ¬ cz = 0) (FC : Fld Z h0 t "java/lang/String" "coder" "B" (.int (own_coder cs))) :
    Con l Z n0 (⟨"java/lang/String", "coder", "()B"⟩ : MethodName) jdk_42_method_152_code 1 (some .byte) ({ frames := 0, cells := 0, slots := 0, locals := 0 } : Room) #[(.ref t)] h0 (Val (PV (.int (own_coder cs)) h0)) := by
  refine Con.of_run pn_16 (fun m => ef_con_cod m t cs cz ) ?_
  refine Run.getS d16_0 (host := "") (Or.inl (hw _ (List.mem_of_getElem? (i := 19) rfl))) Via.refl (SZ.ext od0.2) (pc' := 3) rfl ?_
  refine Run.if_eq d16_3 (by decide) (pc' := 13) (by decide) (pa := 6) rfl (fun hc3 => ?_) (fun hc3 => ?_)
  · exact absurd hc3 hcz
  · refine Run.aloadN d16_6 rfl rfl (pc' := 7) rfl ?_
    refine Run.getF d16_7 (host := "") (Or.inl (hw _ (List.mem_of_getElem? (i := 20) rfl))) Via.refl FC (pc' := 10) rfl ?_
    refine Run.goto d16_10 (by decide) (pc' := 14) (by decide) ?_
    exact Run.nreturn d16_14 (ty := .byte) rfl (by simp) (by decide) (by decide) ⟨_, rfl, congrArg Value.int (own_codb cs).symm, rfl⟩
theorem d15_0 : decode jdk_42_method_54_code 0 = .ok (.aload_n 0, 1) := by decide +kernel
theorem d15_1 : decode jdk_42_method_54_code 1 = .ok (.getfield 9, 3) := by decide +kernel
theorem d15_4 : decode jdk_42_method_54_code 4 = .ok (.arraylength, 1) := by decide +kernel
theorem d15_5 : decode jdk_42_method_54_code 5 = .ok (.aload_n 0, 1) := by decide +kernel
theorem d15_6 : decode jdk_42_method_54_code 6 = .ok (.invokevirtual 335, 3) := by decide +kernel
theorem d15_9 : decode jdk_42_method_54_code 9 = .ok (.ishr, 1) := by decide +kernel
theorem d15_10 : decode jdk_42_method_54_code 10 = .ok (.ireturn, 1) := by decide +kernel
theorem pn_15 : plainFor (⟨"java/lang/String", "length", "()I"⟩ : MethodName) = true := plainFor_of_name (by first | (simp [plainName, overriddenIn]; done) | decide +kernel)
theorem pd___B : parseMethodDescriptor "()B" = some ⟨[], some .byte⟩ := by decide +kernel
theorem ef_con_len (m : MethodId) (t b : Addr) (cs : List Int32) (cz : Int32)  : entryFrame m #[(.ref t)] 1 = mkF m 0 #[.val (.ref t)] [] := by first | (simp [entryFrame, mkF, argsToLocals, Value.category]; done) | rfl
set_option maxRecDepth 65536 in
set_option maxHeartbeats 40000000 in
theorem con_len (l : Launch) (Z : State) (a0 : Array Value) (hw : ∀ d ∈ tables_1, d.before a0 Z = true) (n0 : Nat) (h0 : Heap) (Z0 : n0 ≤ h0.size) (t b : Addr) (cs : List Int32) (cz : Int32) (od0 : Old Z n0 h0) (SZ : Sta Z Z.heap "java/lang/String" "COMPACT_STRINGS" "Z" (.int cz)) (hcz : ¬ cz = 0) (E1 : Exa Z h0 t "java/lang/String") (FV : Fld Z h0 t "java/lang/String" "value" "[B" (.ref b)) (FC : Fld Z h0 t "java/lang/String" "coder" "B" (.int (own_coder cs))) (AB : Ary Z h0 b .byte (own_enc cs)) (hn : cs.length ≤ 24) :
    Con l Z n0 (⟨"java/lang/String", "length", "()I"⟩ : MethodName) jdk_42_method_54_code 1 (some .int) ({ frames := 1, cells := 0, slots := 0, locals := 13 } : Room) #[(.ref t)] h0 (Val (PV (.int (Int32.ofNat cs.length)) h0)) := by
  refine Con.of_run pn_15 (fun m => ef_con_len m t b cs cz ) ?_
  refine Run.aloadN d15_0 rfl rfl (pc' := 1) rfl ?_
  refine Run.getF d15_1 (host := "") (Or.inl (hw _ (List.mem_of_getElem? (i := 21) rfl))) Via.refl FV (pc' := 4) rfl ?_
  refine Run.alen (z := (Int32.ofNat (own_enc cs).length)) d15_4 AB rfl (pc' := 5) rfl ?_
  refine Run.aloadN d15_5 rfl rfl (pc' := 6) rfl ?_
  refine Run.callV (k' := 0) (n' := 0) (a := t) (as := []) (rest := [(.int (Int32.ofNat (own_enc cs).length))]) (con_cod l Z a0 hw n0 h0 Z0 t cs cz od0 SZ hcz FC ) E1 d15_6 (hw _ (List.mem_of_getElem? (i := 80) rfl)) (hw _ (List.mem_of_getElem? (i := 81) rfl)) (fun s hZ => notFace_of_selects (args := #[]) (mvT hZ (hw _ (List.mem_of_getElem? (i := 83) rfl)))) (hw _ (List.mem_of_getElem? (i := 83) rfl)) (hw _ (List.mem_of_getElem? (i := 82) rfl)) (hw _ (List.mem_of_getElem? (i := 1) rfl)) (hw _ (List.mem_of_getElem? (i := 84) rfl)) (by decide) pd___B rfl rfl rfl (by decide) (by show (1 : Nat) + (1 + 11) + 0 ≤ _; decide) (by decide) (by decide) (by decide) (by decide) (pc' := 9) rfl ?_
  rintro _ _ ⟨_, rfl, rfl, rfl⟩
  show Run l Z n0 "java/lang/String" jdk_42_method_54_code 1 (some .int) (⟨"java/lang/String", "length", "()I"⟩ : MethodName) ({ frames := 1, cells := 0, slots := 0, locals := 13 } : Room) _ 9 #[.val (.ref t)] [(.int (own_coder cs)), (.int (Int32.ofNat (own_enc cs).length))] h0 0 0
  refine Run.ishr d15_9 (pc' := 10) rfl ?_
  exact Run.ireturn d15_10 rfl (by decide) (by decide) ⟨_, rfl, congrArg Value.int (own_lenshr (by omega)).symm, rfl⟩
theorem d5_0 : decode jdk_41_method_11_code 0 = .ok (.iload_n 0, 1) := by decide +kernel
theorem d5_1 : decode jdk_41_method_11_code 1 = .ok (.ifCond .lt 8, 3) := by decide +kernel
theorem d5_4 : decode jdk_41_method_11_code 4 = .ok (.iload_n 0, 1) := by decide +kernel
theorem d5_5 : decode jdk_41_method_11_code 5 = .ok (.iload_n 1, 1) := by decide +kernel
theorem d5_6 : decode jdk_41_method_11_code 6 = .ok (.if_icmp .lt 10, 3) := by decide +kernel
theorem d5_16 : decode jdk_41_method_11_code 16 = .ok (.iload_n 0, 1) := by decide +kernel
theorem d5_17 : decode jdk_41_method_11_code 17 = .ok (.ireturn, 1) := by decide +kernel
theorem pn_5 : plainFor (⟨"jdk/internal/util/Preconditions", "checkIndex", "(IILjava/util/function/BiFunction;)I"⟩ : MethodName) = true := plainFor_of_name (by first | (simp [plainName, overriddenIn]; done) | decide +kernel)
theorem ef_con_pci (m : MethodId) (i n : Int32) (u : Value) (hr_u : u.isRef = true) : entryFrame m #[(.int i), (.int n), u] 3 = mkF m 0 #[.val (.int i), .val (.int n), .val u] [] := by rcases XT.refc hr_u with rfl | ⟨r_u, rfl⟩ <;> first | (simp [entryFrame, mkF, argsToLocals, Value.category]; done) | rfl
set_option maxRecDepth 65536 in
set_option maxHeartbeats 40000000 in
theorem con_pci (l : Launch) (Z : State) (a0 : Array Value) (hw : ∀ d ∈ tables_1, d.before a0 Z = true) (n0 : Nat) (h0 : Heap) (Z0 : n0 ≤ h0.size) (i n : Int32) (u : Value) (hu : u.isRef = true) (g0 : ¬ i < 0) (g1 : i < n) :
    Con l Z n0 (⟨"jdk/internal/util/Preconditions", "checkIndex", "(IILjava/util/function/BiFunction;)I"⟩ : MethodName) jdk_41_method_11_code 3 (some .int) ({ frames := 0, cells := 0, slots := 0, locals := 0 } : Room) #[(.int i), (.int n), u] h0 (Val (PV (.int i) h0)) := by
  refine Con.of_run pn_5 (fun m => ef_con_pci m i n u hu) ?_
  refine Run.iloadN d5_0 rfl (pc' := 1) rfl ?_
  refine Run.if_lt d5_1 (by decide) (pc' := 9) (by decide) (pa := 4) rfl (fun hc1 => ?_) (fun hc1 => ?_)
  · exact absurd hc1 g0
  · refine Run.iloadN d5_4 rfl (pc' := 5) rfl ?_
    refine Run.iloadN d5_5 rfl (pc' := 6) rfl ?_
    refine Run.icmp_lt d5_6 (by decide) (pc' := 16) (by decide) (pa := 9) rfl (fun hc6 => ?_) (fun hc6 => ?_)
    · refine Run.iloadN d5_16 rfl (pc' := 17) rfl ?_
      exact Run.ireturn d5_17 rfl (by decide) (by decide) ⟨_, rfl, rfl, rfl⟩
    · exact absurd g1 hc6
theorem d4_0 : decode jdk_42_method_155_code 0 = .ok (.iload_n 0, 1) := by decide +kernel
theorem d4_1 : decode jdk_42_method_155_code 1 = .ok (.iload_n 1, 1) := by decide +kernel
theorem d4_2 : decode jdk_42_method_155_code 2 = .ok (.getstatic 1053, 3) := by decide +kernel
theorem d4_5 : decode jdk_42_method_155_code 5 = .ok (.invokestatic 1059, 3) := by decide +kernel
theorem d4_8 : decode jdk_42_method_155_code 8 = .ok (.pop, 1) := by decide +kernel
theorem d4_9 : decode jdk_42_method_155_code 9 = .ok (.return_, 1) := by decide +kernel
theorem pn_4 : plainFor (⟨"java/lang/String", "checkIndex", "(II)V"⟩ : MethodName) = true := plainFor_of_name (by first | (simp [plainName, overriddenIn]; done) | decide +kernel)
theorem pd__IILjava_util_function_BiFunction__I : parseMethodDescriptor "(IILjava/util/function/BiFunction;)I" = some ⟨[.int, .int, (.object "java/util/function/BiFunction")], some .int⟩ := by decide +kernel
theorem ef_con_sci (m : MethodId) (i n : Int32) (fm : Value)  : entryFrame m #[(.int i), (.int n)] 2 = mkF m 0 #[.val (.int i), .val (.int n)] [] := by first | (simp [entryFrame, mkF, argsToLocals, Value.category]; done) | rfl
set_option maxRecDepth 65536 in
set_option maxHeartbeats 40000000 in
theorem con_sci (l : Launch) (Z : State) (a0 : Array Value) (hw : ∀ d ∈ tables_1, d.before a0 Z = true) (n0 : Nat) (h0 : Heap) (Z0 : n0 ≤ h0.size) (i n : Int32) (fm : Value) (od0 : Old Z n0 h0) (SF : Sta Z Z.heap "jdk/internal/util/Preconditions" "SIOOBE_FORMATTER" "Ljava/util/function/BiFunction;" fm) (hfm : fm.isRef = true) (g0 : ¬ i < 0) (g1 : i < n) :
    Con l Z n0 (⟨"java/lang/String", "checkIndex", "(II)V"⟩ : MethodName) jdk_42_method_155_code 2 none ({ frames := 1, cells := 0, slots := 0, locals := 14 } : Room) #[(.int i), (.int n)] h0 (Vd fun h' => h0 = h') := by
  refine Con.of_run pn_4 (fun m => ef_con_sci m i n fm ) ?_
  refine Run.iloadN d4_0 rfl (pc' := 1) rfl ?_
  refine Run.iloadN d4_1 rfl (pc' := 2) rfl ?_
  refine Run.getS d4_2 (host := "") (Or.inl (hw _ (List.mem_of_getElem? (i := 29) rfl))) Via.refl (SF.ext od0.2) (pc' := 5) rfl ?_
  refine Run.callS (k' := 0) (n' := 0) (as := [(.int i), (.int n), fm]) (rest := []) (con_pci l Z a0 hw n0 h0 Z0 i n fm hfm g0 g1 ) d4_5 (hw _ (List.mem_of_getElem? (i := 31) rfl)) (hw _ (List.mem_of_getElem? (i := 32) rfl)) (hw _ (List.mem_of_getElem? (i := 30) rfl)) (hw _ (List.mem_of_getElem? (i := 33) rfl)) (by decide) pd__IILjava_util_function_BiFunction__I rfl rfl rfl (by decide) (by show (0 : Nat) + (3 + 11) + 0 ≤ _; decide) (by decide) (by decide) (by decide) (by decide) (pc' := 8) rfl ?_
  rintro _ _ ⟨_, rfl, rfl, rfl⟩
  show Run l Z n0 "java/lang/String" jdk_42_method_155_code 2 none (⟨"java/lang/String", "checkIndex", "(II)V"⟩ : MethodName) ({ frames := 1, cells := 0, slots := 0, locals := 14 } : Room) _ 8 #[.val (.int i), .val (.int n)] [(.int i)] h0 0 0
  refine Run.pop d4_8 rfl (pc' := 9) rfl ?_
  exact Run.vreturn d4_9 rfl (by decide) (by decide) ⟨rfl, rfl⟩
theorem d2_0 : decode jdk_42_method_154_code 0 = .ok (.getstatic 38, 3) := by decide +kernel
theorem d2_3 : decode jdk_42_method_154_code 3 = .ok (.ifCond .eq 14, 3) := by decide +kernel
theorem d2_6 : decode jdk_42_method_154_code 6 = .ok (.aload_n 0, 1) := by decide +kernel
theorem d2_7 : decode jdk_42_method_154_code 7 = .ok (.getfield 15, 3) := by decide +kernel
theorem d2_10 : decode jdk_42_method_154_code 10 = .ok (.ifCond .ne 7, 3) := by decide +kernel
theorem d2_13 : decode jdk_42_method_154_code 13 = .ok (.iconst 1, 1) := by decide +kernel
theorem d2_14 : decode jdk_42_method_154_code 14 = .ok (.goto 4, 3) := by decide +kernel
theorem d2_17 : decode jdk_42_method_154_code 17 = .ok (.iconst 0, 1) := by decide +kernel
theorem d2_18 : decode jdk_42_method_154_code 18 = .ok (.ireturn, 1) := by decide +kernel
theorem pn_2 : plainFor (⟨"java/lang/String", "isLatin1", "()Z"⟩ : MethodName) = true := plainFor_of_name (by first | (simp [plainName, overriddenIn]; done) | decide +kernel)
theorem ef_con_isl (m : MethodId) (t : Addr) (cs : List Int32) (cz : Int32)  : entryFrame m #[(.ref t)] 1 = mkF m 0 #[.val (.ref t)] [] := by first | (simp [entryFrame, mkF, argsToLocals, Value.category]; done) | rfl
set_option maxRecDepth 65536 in
set_option maxHeartbeats 40000000 in
theorem con_isl (l : Launch) (Z : State) (a0 : Array Value) (hw : ∀ d ∈ tables_1, d.before a0 Z = true) (n0 : Nat) (h0 : Heap) (Z0 : n0 ≤ h0.size) (t : Addr) (cs : List Int32) (cz : Int32) (od0 : Old Z n0 h0) (SZ : Sta Z Z.heap "java/lang/String" "COMPACT_STRINGS" "Z" (.int cz)) (hcz : ¬ cz = 0) (FC : Fld Z h0 t "java/lang/String" "coder" "B" (.int (own_coder cs))) :
    Con l Z n0 (⟨"java/lang/String", "isLatin1", "()Z"⟩ : MethodName) jdk_42_method_154_code 1 (some .boolean) ({ frames := 0, cells := 0, slots := 0, locals := 0 } : Room) #[(.ref t)] h0 (Val (PV (.int (own_isl cs)) h0)) := by
  refine Con.of_run pn_2 (fun m => ef_con_isl m t cs cz ) ?_
  refine Run.getS d2_0 (host := "") (Or.inl (hw _ (List.mem_of_getElem? (i := 19) rfl))) Via.refl (SZ.ext od0.2) (pc' := 3) rfl ?_
  refine Run.if_eq d2_3 (by decide) (pc' := 17) (by decide) (pa := 6) rfl (fun hc3 => ?_) (fun hc3 => ?_)
  · exact absurd hc3 hcz
  · refine Run.aloadN d2_6 rfl rfl (pc' := 7) rfl ?_
    refine Run.getF d2_7 (host := "") (Or.inl (hw _ (List.mem_of_getElem? (i := 20) rfl))) Via.refl FC (pc' := 10) rfl ?_
    refine Run.if_ne d2_10 (by decide) (pc' := 17) (by decide) (pa := 13) rfl (fun hc10 => ?_) (fun hc10 => ?_)
    · refine Run.iconst (0 : Int32) d2_17 (by decide) (pc' := 18) rfl ?_
      exact Run.nreturn d2_18 (ty := .boolean) rfl (by simp) (by decide) (by decide) ⟨_, rfl, congrArg Value.int (by unfold own_isl; rw [if_neg hc10] <;> rfl), rfl⟩
    · refine Run.iconst (1 : Int32) d2_13 (by decide) (pc' := 14) rfl ?_
      refine Run.goto d2_14 (by decide) (pc' := 18) (by decide) ?_
      exact Run.nreturn d2_18 (ty := .boolean) rfl (by simp) (by decide) (by decide) ⟨_, rfl, congrArg Value.int (by unfold own_isl; rw [if_pos hc10] <;> rfl), rfl⟩
theorem d3_0 : decode jdk_43_method_2_code 0 = .ok (.iload_n 1, 1) := by decide +kernel
theorem d3_1 : decode jdk_43_method_2_code 1 = .ok (.aload_n 0, 1) := by decide +kernel
theorem d3_2 : decode jdk_43_method_2_code 2 = .ok (.arraylength, 1) := by decide +kernel
theorem d3_3 : decode jdk_43_method_2_code 3 = .ok (.invokestatic 9, 3) := by decide +kernel
theorem d3_6 : decode jdk_43_method_2_code 6 = .ok (.aload_n 0, 1) := by decide +kernel
theorem d3_7 : decode jdk_43_method_2_code 7 = .ok (.iload_n 1, 1) := by decide +kernel
theorem d3_8 : decode jdk_43_method_2_code 8 = .ok (.baload, 1) := by decide +kernel
theorem d3_9 : decode jdk_43_method_2_code 9 = .ok (.sipush 255, 3) := by decide +kernel
theorem d3_12 : decode jdk_43_method_2_code 12 = .ok (.iand, 1) := by decide +kernel
theorem d3_13 : decode jdk_43_method_2_code 13 = .ok (.i2c, 1) := by decide +kernel
theorem d3_14 : decode jdk_43_method_2_code 14 = .ok (.ireturn, 1) := by decide +kernel
theorem pn_3 : plainFor (⟨"java/lang/StringLatin1", "charAt", "([BI)C"⟩ : MethodName) = true := plainFor_of_name (by first | (simp [plainName, overriddenIn]; done) | decide +kernel)
theorem pd__II_V : parseMethodDescriptor "(II)V" = some ⟨[.int, .int], none⟩ := by decide +kernel
theorem ef_con_lca (m : MethodId) (b : Addr) (cs : List Int32) (i : Nat) (fm : Value)  : entryFrame m #[(.ref b), (.int (Int32.ofNat i))] 2 = mkF m 0 #[.val (.ref b), .val (.int (Int32.ofNat i))] [] := by first | (simp [entryFrame, mkF, argsToLocals, Value.category]; done) | rfl
set_option maxRecDepth 65536 in
set_option maxHeartbeats 40000000 in
theorem con_lca (l : Launch) (Z : State) (a0 : Array Value) (hw : ∀ d ∈ tables_1, d.before a0 Z = true) (n0 : Nat) (h0 : Heap) (Z0 : n0 ≤ h0.size) (b : Addr) (cs : List Int32) (i : Nat) (fm : Value) (od0 : Old Z n0 h0) (SF : Sta Z Z.heap "jdk/internal/util/Preconditions" "SIOOBE_FORMATTER" "Ljava/util/function/BiFunction;" fm) (hfm : fm.isRef = true) (AB : Ary Z h0 b .byte (own_by cs)) (hp : own_pfx cs = cs.length) (hi : i < cs.length) (hn : cs.length ≤ 24) (hch : own_chr cs) :
    Con l Z n0 (⟨"java/lang/StringLatin1", "charAt", "([BI)C"⟩ : MethodName) jdk_43_method_2_code 2 (some .char) ({ frames := 2, cells := 0, slots := 0, locals := 27 } : Room) #[(.ref b), (.int (Int32.ofNat i))] h0 (Val (PV (.int (cs.getD i 0)) h0)) := by
  refine Con.of_run pn_3 (fun m => ef_con_lca m b cs i fm ) ?_
  refine Run.iloadN d3_0 rfl (pc' := 1) rfl ?_
  refine Run.aloadN d3_1 rfl rfl (pc' := 2) rfl ?_
  refine Run.alen (z := (Int32.ofNat cs.length)) d3_2 AB (by rw [show (own_by cs).length = cs.length by simp [own_by]] <;> rfl) (pc' := 3) rfl ?_
  refine Run.callS (k' := 0) (n' := 0) (as := [(.int (Int32.ofNat i)), (.int (Int32.ofNat cs.length))]) (rest := []) (con_sci l Z a0 hw n0 h0 Z0 (Int32.ofNat i) (Int32.ofNat cs.length) fm od0 SF hfm (own_nge (by omega)) ((own_lt (by omega) (by omega)).mpr (by omega))) d3_3 (hw _ (List.mem_of_getElem? (i := 26) rfl)) (hw _ (List.mem_of_getElem? (i := 27) rfl)) (hw _ (List.mem_of_getElem? (i := 1) rfl)) (hw _ (List.mem_of_getElem? (i := 28) rfl)) (by decide) pd__II_V rfl rfl rfl (by decide) (by show (0 : Nat) + (2 + 11) + 14 ≤ _; decide) (by decide) (by decide) (by decide) (by decide) (pc' := 6) rfl ?_
  rintro _ _ ⟨rfl, rfl⟩
  show Run l Z n0 "java/lang/StringLatin1" jdk_43_method_2_code 2 (some .char) (⟨"java/lang/StringLatin1", "charAt", "([BI)C"⟩ : MethodName) ({ frames := 2, cells := 0, slots := 0, locals := 27 } : Room) _ 6 #[.val (.ref b), .val (.int (Int32.ofNat i))] [] h0 0 0
  refine Run.aloadN d3_6 rfl rfl (pc' := 7) rfl ?_
  refine Run.iloadN d3_7 rfl (pc' := 8) rfl ?_
  refine Run.baload (i := i) (v := (.int (nar .byte (cs.getD i 0)))) d3_8 AB (own_ofn (by omega)) (own_by_get hi) (pc' := 9) rfl ?_
  refine Run.sipush (255 : Int32) d3_9 (by decide) (pc' := 12) rfl ?_
  refine Run.iand d3_12 (pc' := 13) rfl ?_
  refine Run.i2c d3_13 (pc' := 14) rfl ?_
  exact Run.nreturn d3_14 (ty := .char) rfl (by simp) (by decide) (by decide) ⟨_, rfl, congrArg Value.int (own_latc (own_chrD hch hi).1 (own_pfx_all hp hi)).symm, rfl⟩
theorem own_ncr {c : Int32} (h : 0 ≤ c.toInt ∧ c.toInt ≤ 65535) : nar .char c = c := by
  apply Int32.toInt_inj.mp
  have q := c_i2c c
  change ((nar .char _).toInt - _) % 65536 = 0 ∧ 0 ≤ (nar .char _).toInt ∧ (nar .char _).toInt < 65536 at q
  omega
theorem d1_0 : decode jdk_42_method_56_code 0 = .ok (.aload_n 0, 1) := by decide +kernel
theorem d1_1 : decode jdk_42_method_56_code 1 = .ok (.invokevirtual 492, 3) := by decide +kernel
theorem d1_4 : decode jdk_42_method_56_code 4 = .ok (.ifCond .eq 12, 3) := by decide +kernel
theorem d1_7 : decode jdk_42_method_56_code 7 = .ok (.aload_n 0, 1) := by decide +kernel
theorem d1_8 : decode jdk_42_method_56_code 8 = .ok (.getfield 9, 3) := by decide +kernel
theorem d1_11 : decode jdk_42_method_56_code 11 = .ok (.iload_n 1, 1) := by decide +kernel
theorem d1_12 : decode jdk_42_method_56_code 12 = .ok (.invokestatic 495, 3) := by decide +kernel
theorem d1_15 : decode jdk_42_method_56_code 15 = .ok (.ireturn, 1) := by decide +kernel
theorem d1_16 : decode jdk_42_method_56_code 16 = .ok (.aload_n 0, 1) := by decide +kernel
theorem d1_17 : decode jdk_42_method_56_code 17 = .ok (.getfield 9, 3) := by decide +kernel
theorem d1_20 : decode jdk_42_method_56_code 20 = .ok (.iload_n 1, 1) := by decide +kernel
theorem d1_21 : decode jdk_42_method_56_code 21 = .ok (.invokestatic 498, 3) := by decide +kernel
theorem d1_24 : decode jdk_42_method_56_code 24 = .ok (.ireturn, 1) := by decide +kernel
theorem pn_1 : plainFor (⟨"java/lang/String", "charAt", "(I)C"⟩ : MethodName) = true := plainFor_of_name (by first | (simp [plainName, overriddenIn]; done) | decide +kernel)
theorem pd___Z : parseMethodDescriptor "()Z" = some ⟨[], some .boolean⟩ := by decide +kernel
theorem pd___BI_C : parseMethodDescriptor "([BI)C" = some ⟨[(.array .byte), .int], some .char⟩ := by decide +kernel
theorem ef_con_cha (m : MethodId) (t b : Addr) (cs : List Int32) (i : Nat) (cz : Int32) (fm : Value)  : entryFrame m #[(.ref t), (.int (Int32.ofNat i))] 2 = mkF m 0 #[.val (.ref t), .val (.int (Int32.ofNat i))] [] := by first | (simp [entryFrame, mkF, argsToLocals, Value.category]; done) | rfl
set_option maxRecDepth 65536 in
set_option maxHeartbeats 40000000 in
theorem con_cha (l : Launch) (Z : State) (a0 : Array Value) (hw : ∀ d ∈ tables_1, d.before a0 Z = true) (n0 : Nat) (h0 : Heap) (Z0 : n0 ≤ h0.size) (t b : Addr) (cs : List Int32) (i : Nat) (cz : Int32) (fm : Value) (od0 : Old Z n0 h0) (SF : Sta Z Z.heap "jdk/internal/util/Preconditions" "SIOOBE_FORMATTER" "Ljava/util/function/BiFunction;" fm) (hfm : fm.isRef = true) (SZ : Sta Z Z.heap "java/lang/String" "COMPACT_STRINGS" "Z" (.int cz)) (hcz : ¬ cz = 0) (E1 : Exa Z h0 t "java/lang/String") (FV : Fld Z h0 t "java/lang/String" "value" "[B" (.ref b)) (FC : Fld Z h0 t "java/lang/String" "coder" "B" (.int (own_coder cs))) (AB : Ary Z h0 b .byte (own_enc cs)) (hp : own_pfx cs = cs.length) (hi : i < cs.length) (hn : cs.length ≤ 24) (hch : own_chr cs) :
    Con l Z n0 (⟨"java/lang/String", "charAt", "(I)C"⟩ : MethodName) jdk_42_method_56_code 2 (some .char) ({ frames := 3, cells := 0, slots := 0, locals := 40 } : Room) #[(.ref t), (.int (Int32.ofNat i))] h0 (Val (PV (.int (cs.getD i 0)) h0)) := by
  refine Con.of_run pn_1 (fun m => ef_con_cha m t b cs i cz fm ) ?_
  refine Run.aloadN d1_0 rfl rfl (pc' := 1) rfl ?_
  refine Run.callV (k' := 0) (n' := 0) (a := t) (as := []) (rest := []) (con_isl l Z a0 hw n0 h0 Z0 t cs cz od0 SZ hcz FC ) E1 d1_1 (hw _ (List.mem_of_getElem? (i := 14) rfl)) (hw _ (List.mem_of_getElem? (i := 15) rfl)) (fun s hZ => notFace_of_selects (args := #[]) (mvT hZ (hw _ (List.mem_of_getElem? (i := 17) rfl)))) (hw _ (List.mem_of_getElem? (i := 17) rfl)) (hw _ (List.mem_of_getElem? (i := 16) rfl)) (hw _ (List.mem_of_getElem? (i := 1) rfl)) (hw _ (List.mem_of_getElem? (i := 18) rfl)) (by decide) pd___Z rfl rfl rfl (by decide) (by show (0 : Nat) + (1 + 11) + 0 ≤ _; decide) (by decide) (by decide) (by decide) (by decide) (pc' := 4) rfl ?_
  rintro _ _ ⟨_, rfl, rfl, rfl⟩
  show Run l Z n0 "java/lang/String" jdk_42_method_56_code 2 (some .char) (⟨"java/lang/String", "charAt", "(I)C"⟩ : MethodName) ({ frames := 3, cells := 0, slots := 0, locals := 40 } : Room) _ 4 #[.val (.ref t), .val (.int (Int32.ofNat i))] [(.int (own_isl cs))] h0 0 0
  refine Run.if_eq d1_4 (by decide) (pc' := 16) (by decide) (pa := 7) rfl (fun hc4 => ?_) (fun hc4 => ?_)
  · exact absurd hp (own_isl0 hc4)
  · refine Run.aloadN d1_7 rfl rfl (pc' := 8) rfl ?_
    refine Run.getF d1_8 (host := "") (Or.inl (hw _ (List.mem_of_getElem? (i := 21) rfl))) Via.refl FV (pc' := 11) rfl ?_
    refine Run.iloadN d1_11 rfl (pc' := 12) rfl ?_
    refine Run.callS (k' := 0) (n' := 0) (as := [(.ref b), (.int (Int32.ofNat i))]) (rest := []) (con_lca l Z a0 hw n0 h0 Z0  b cs i fm od0 SF hfm (own_encP (own_isl1 hc4) ▸ AB) (own_isl1 hc4) hi hn hch) d1_12 (hw _ (List.mem_of_getElem? (i := 22) rfl)) (hw _ (List.mem_of_getElem? (i := 23) rfl)) (hw _ (List.mem_of_getElem? (i := 24) rfl)) (hw _ (List.mem_of_getElem? (i := 25) rfl)) (by decide) pd___BI_C rfl rfl rfl (by decide) (by show (0 : Nat) + (2 + 11) + 27 ≤ _; decide) (by decide) (by decide) (by decide) (by decide) (pc' := 15) rfl ?_
    rintro _ _ ⟨_, rfl, rfl, rfl⟩
    show Run l Z n0 "java/lang/String" jdk_42_method_56_code 2 (some .char) (⟨"java/lang/String", "charAt", "(I)C"⟩ : MethodName) ({ frames := 3, cells := 0, slots := 0, locals := 40 } : Room) _ 15 #[.val (.ref t), .val (.int (Int32.ofNat i))] [(.int (cs.getD i 0))] h0 0 0
    exact Run.nreturn d1_15 (ty := .char) rfl (by simp) (by decide) (by decide) ⟨_, rfl, congrArg Value.int (own_ncr (own_chrD hch hi)).symm, rfl⟩
def own_emp (cs : List Int32) : Int32 := if cs.length = 0 then 1 else 0
theorem own_el0 (cs : List Int32) : (own_enc cs).length = 0 ↔ cs.length = 0 := by rw [own_enc_len]; split <;> omega
theorem own_em1 {cs : List Int32} (hb : cs.length < 2 ^ 29) (h : Int32.ofNat (own_enc cs).length = (0 : Int32)) : own_emp cs = nar .boolean 1 := by
  have e := own_enc_len cs
  have h1 := own_ofn (i := (own_enc cs).length) (by rw [e]; split <;> omega); rw [h, own_z] at h1
  unfold own_emp; rw [if_pos ((own_el0 cs).mp (by omega))]; rfl
theorem own_em0 {cs : List Int32} (hb : cs.length < 2 ^ 29) (h : ¬ Int32.ofNat (own_enc cs).length = (0 : Int32)) : own_emp cs = nar .boolean 0 := by
  unfold own_emp; rw [if_neg (fun z => h (by rw [(own_el0 cs).mpr z]; rfl))]; rfl
theorem d46_0 : decode jdk_42_method_55_code 0 = .ok (.aload_n 0, 1) := by decide +kernel
theorem d46_1 : decode jdk_42_method_55_code 1 = .ok (.getfield 9, 3) := by decide +kernel
theorem d46_4 : decode jdk_42_method_55_code 4 = .ok (.arraylength, 1) := by decide +kernel
theorem d46_5 : decode jdk_42_method_55_code 5 = .ok (.ifCond .ne 7, 3) := by decide +kernel
theorem d46_8 : decode jdk_42_method_55_code 8 = .ok (.iconst 1, 1) := by decide +kernel
theorem d46_9 : decode jdk_42_method_55_code 9 = .ok (.goto 4, 3) := by decide +kernel
theorem d46_12 : decode jdk_42_method_55_code 12 = .ok (.iconst 0, 1) := by decide +kernel
theorem d46_13 : decode jdk_42_method_55_code 13 = .ok (.ireturn, 1) := by decide +kernel
theorem pn_46 : plainFor (⟨"java/lang/String", "isEmpty", "()Z"⟩ : MethodName) = true := plainFor_of_name (by first | (simp [plainName, overriddenIn]; done) | decide +kernel)
theorem ef_con_emp (m : MethodId) (t b : Addr) (cs : List Int32)  : entryFrame m #[(.ref t)] 1 = mkF m 0 #[.val (.ref t)] [] := by first | (simp [entryFrame, mkF, argsToLocals, Value.category]; done) | rfl
set_option maxRecDepth 65536 in
set_option maxHeartbeats 40000000 in
theorem con_emp (l : Launch) (Z : State) (a0 : Array Value) (hw : ∀ d ∈ tables_1, d.before a0 Z = true) (n0 : Nat) (h0 : Heap) (Z0 : n0 ≤ h0.size) (t b : Addr) (cs : List Int32) (FV : Fld Z h0 t "java/lang/String" "value" "[B" (.ref b)) (AB : Ary Z h0 b .byte (own_enc cs)) (hn : cs.length ≤ 24) :
    Con l Z n0 (⟨"java/lang/String", "isEmpty", "()Z"⟩ : MethodName) jdk_42_method_55_code 1 (some .boolean) ({ frames := 0, cells := 0, slots := 0, locals := 0 } : Room) #[(.ref t)] h0 (Val (PV (.int (own_emp cs)) h0)) := by
  refine Con.of_run pn_46 (fun m => ef_con_emp m t b cs ) ?_
  refine Run.aloadN d46_0 rfl rfl (pc' := 1) rfl ?_
  refine Run.getF d46_1 (host := "") (Or.inl (hw _ (List.mem_of_getElem? (i := 21) rfl))) Via.refl FV (pc' := 4) rfl ?_
  refine Run.alen (z := (Int32.ofNat (own_enc cs).length)) d46_4 AB rfl (pc' := 5) rfl ?_
  refine Run.if_ne d46_5 (by decide) (pc' := 12) (by decide) (pa := 8) rfl (fun hc5 => ?_) (fun hc5 => ?_)
  · refine Run.iconst (0 : Int32) d46_12 (by decide) (pc' := 13) rfl ?_
    exact Run.nreturn d46_13 (ty := .boolean) rfl (by simp) (by decide) (by decide) ⟨_, rfl, congrArg Value.int (own_em0 (by omega) hc5), rfl⟩
  · refine Run.iconst (1 : Int32) d46_8 (by decide) (pc' := 9) rfl ?_
    refine Run.goto d46_9 (by decide) (pc' := 13) (by decide) ?_
    exact Run.nreturn d46_13 (ty := .boolean) rfl (by simp) (by decide) (by decide) ⟨_, rfl, congrArg Value.int (own_em1 (by omega) hc5), rfl⟩
theorem own_fldI {Z : State} {h : Heap} {a : Addr} {C n d : String} {v w : Value} (F : Fld Z h a C n d v) (G : Fld Z h a C n d w) : v = w := by
  by_cases q : v = w
  · exact q
  · exact absurd rfl (Fld.ne F G q)
theorem own_aryI {Z : State} {h : Heap} {a : Addr} {ty ty' : FieldType} {vs ws : List Value} (A : Ary Z h a ty vs) (B : Ary Z h a ty' ws) : vs = ws := by
  obtain ⟨c, A1, r⟩ := A; obtain ⟨c', B1, r'⟩ := B
  have e : c = c' := Option.some.inj (A1.1.symm.trans B1.1)
  subst e; exact r.symm.trans r'
theorem own_extD {cs ds : List Int32} (hl : cs.length = ds.length) (h : ∀ i, i < cs.length → cs.getD i 0 = ds.getD i 0) : cs = ds := by
  apply List.ext_getElem hl
  intro i h1 h2; have := h i h1; rwa [own_gD h1, own_gD h2] at this
theorem own_inj {cs ds : List Int32} (hc : own_chr cs) (hd : own_chr ds) (h1 : own_coder cs = own_coder ds) (h2 : own_enc cs = own_enc ds) : cs = ds := by
  by_cases p : own_coder cs = 0
  · have pc := own_cod0 p; have pd := own_cod0 (h1 ▸ p)
    rw [own_encP pc, own_encP pd] at h2
    have hl : cs.length = ds.length := by have := congrArg List.length h2; simpa [own_by] using this
    refine own_extD hl fun i hi => ?_
    have e := own_by_get hi; rw [h2, own_by_get (hl ▸ hi)] at e
    have e2 : nar .byte (ds.getD i 0) = nar .byte (cs.getD i 0) := by injection e with e; injection e
    rw [← own_latc (own_chrD hc hi).1 (own_pfx_all pc hi), ← e2, own_latc (own_chrD hd (hl ▸ hi)).1 (own_pfx_all pd (hl ▸ hi))]
  · have pc := own_cod1 p; have pd := own_cod1 (h1 ▸ p)
    rw [own_encN pc, own_encN pd] at h2
    have hl : cs.length = ds.length := by have := congrArg List.length h2; rw [own_u16_len, own_u16_len] at this; omega
    refine own_extD hl fun i hi => ?_
    have e := own_u16_get hi; rw [h2] at e; have e' := own_u16_get (hl ▸ hi : i < ds.length)
    have e0 : own_b0 (ds.getD i 0) = own_b0 (cs.getD i 0) := by have z := e'.1.symm.trans e.1; injection z with z; injection z
    have e1 : own_b1 (ds.getD i 0) = own_b1 (cs.getD i 0) := by have z := e'.2.symm.trans e.2; injection z with z; injection z
    rw [← own_gcb (own_chrD hc hi), ← e0, ← e1, own_gcb (own_chrD hd (hl ▸ hi))]
def own_encI (cs : List Int32) : List Int32 := if own_pfx cs = cs.length then cs.map (fun c => nar .byte c) else cs.flatMap fun c => [own_b0 c, own_b1 c]
theorem own_encM (cs : List Int32) : own_enc cs = (own_encI cs).map Value.int := by
  unfold own_enc own_encI; split
  · simp [own_by]
  · simp [own_u16, List.map_flatMap]
theorem own_encIl (cs : List Int32) : (own_encI cs).length ≤ 2 * cs.length := by
  have := own_enc_len cs; rw [own_encM, List.length_map] at this; rw [this]; split <;> omega
def own_leq (xs ys : List Int32) : Int32 := if xs = ys then 1 else 0
def own_eq (cs ds : List Int32) : Int32 := if cs = ds then 1 else 0
theorem own_gm2 {xs : List Int32} {i : Nat} (h : i < xs.length) : (xs.map Value.int)[i]? = some (Value.int (xs.getD i 0)) := by simp [List.getD_eq_getElem?_getD, h]
theorem own_leq0 {cs ds : List Int32} (h : own_leq (own_encI cs) (own_encI ds) = 0) : own_eq cs ds = 0 := by
  unfold own_eq; split
  · rename_i e; rw [e] at h; unfold own_leq at h; rw [if_pos rfl] at h; exact absurd h (by decide)
  · rfl
theorem own_leq1 {cs ds : List Int32} (hc : own_chr cs) (hd : own_chr ds) (h1 : own_coder cs = own_coder ds) (h : ¬ own_leq (own_encI cs) (own_encI ds) = 0) : own_eq cs ds = 1 := by
  unfold own_leq at h; split at h
  · rename_i e; have : own_enc cs = own_enc ds := by rw [own_encM, own_encM, e]
    unfold own_eq; rw [if_pos (own_inj hc hd h1 this)]
  · exact absurd rfl h
theorem own_ofe {a b : Nat} (ha : a < 2 ^ 31) (hb : b < 2 ^ 31) (h : Int32.ofNat a = Int32.ofNat b) : a = b := by
  have h1 := own_ofn ha; have h2 := own_ofn hb; rw [h] at h1; omega
theorem d48_0 : decode jdk_43_method_13_code 0 = .ok (.aload_n 0, 1) := by decide +kernel
theorem d48_1 : decode jdk_43_method_13_code 1 = .ok (.arraylength, 1) := by decide +kernel
theorem d48_2 : decode jdk_43_method_13_code 2 = .ok (.aload_n 1, 1) := by decide +kernel
theorem d48_3 : decode jdk_43_method_13_code 3 = .ok (.arraylength, 1) := by decide +kernel
theorem d48_4 : decode jdk_43_method_13_code 4 = .ok (.if_icmp .ne 30, 3) := by decide +kernel
theorem d48_7 : decode jdk_43_method_13_code 7 = .ok (.iconst 0, 1) := by decide +kernel
theorem d48_8 : decode jdk_43_method_13_code 8 = .ok (.istore_n 2, 1) := by decide +kernel
theorem d48_9 : decode jdk_43_method_13_code 9 = .ok (.iload_n 2, 1) := by decide +kernel
theorem d48_10 : decode jdk_43_method_13_code 10 = .ok (.aload_n 0, 1) := by decide +kernel
theorem d48_11 : decode jdk_43_method_13_code 11 = .ok (.arraylength, 1) := by decide +kernel
theorem d48_12 : decode jdk_43_method_13_code 12 = .ok (.if_icmp .ge 20, 3) := by decide +kernel
theorem d48_15 : decode jdk_43_method_13_code 15 = .ok (.aload_n 0, 1) := by decide +kernel
theorem d48_16 : decode jdk_43_method_13_code 16 = .ok (.iload_n 2, 1) := by decide +kernel
theorem d48_17 : decode jdk_43_method_13_code 17 = .ok (.baload, 1) := by decide +kernel
theorem d48_18 : decode jdk_43_method_13_code 18 = .ok (.aload_n 1, 1) := by decide +kernel
theorem d48_19 : decode jdk_43_method_13_code 19 = .ok (.iload_n 2, 1) := by decide +kernel
theorem d48_20 : decode jdk_43_method_13_code 20 = .ok (.baload, 1) := by decide +kernel
theorem d48_21 : decode jdk_43_method_13_code 21 = .ok (.if_icmp .eq 5, 3) := by decide +kernel
theorem d48_24 : decode jdk_43_method_13_code 24 = .ok (.iconst 0, 1) := by decide +kernel
theorem d48_25 : decode jdk_43_method_13_code 25 = .ok (.ireturn, 1) := by decide +kernel
theorem d48_26 : decode jdk_43_method_13_code 26 = .ok (.iinc 2 1, 3) := by decide +kernel
theorem d48_29 : decode jdk_43_method_13_code 29 = .ok (.goto (-20), 3) := by decide +kernel
theorem d48_32 : decode jdk_43_method_13_code 32 = .ok (.iconst 1, 1) := by decide +kernel
theorem d48_33 : decode jdk_43_method_13_code 33 = .ok (.ireturn, 1) := by decide +kernel
theorem d48_34 : decode jdk_43_method_13_code 34 = .ok (.iconst 0, 1) := by decide +kernel
theorem d48_35 : decode jdk_43_method_13_code 35 = .ok (.ireturn, 1) := by decide +kernel
theorem pn_48 : plainFor (⟨"java/lang/StringLatin1", "equals", "([B[B)Z"⟩ : MethodName) = true := plainFor_of_name (by first | (simp [plainName, overriddenIn]; done) | decide +kernel)
theorem ef_con_leq (m : MethodId) (b d : Addr) (xs ys : List Int32)  : entryFrame m #[(.ref b), (.ref d)] 3 = mkF m 0 #[.val (.ref b), .val (.ref d), .unset] [] := by first | (simp [entryFrame, mkF, argsToLocals, Value.category]; done) | rfl
set_option maxRecDepth 65536 in
set_option maxHeartbeats 40000000 in
theorem con_leq (l : Launch) (Z : State) (a0 : Array Value) (hw : ∀ d ∈ tables_1, d.before a0 Z = true) (n0 : Nat) (h0 : Heap) (Z0 : n0 ≤ h0.size) (b d : Addr) (xs ys : List Int32) (AX : Ary Z h0 b .byte (xs.map Value.int)) (AY : Ary Z h0 d .byte (ys.map Value.int)) (hx : xs.length < 2 ^ 30) (hy : ys.length < 2 ^ 30) :
    Con l Z n0 (⟨"java/lang/StringLatin1", "equals", "([B[B)Z"⟩ : MethodName) jdk_43_method_13_code 3 (some .boolean) ({ frames := 0, cells := 0, slots := 0, locals := 0 } : Room) #[(.ref b), (.ref d)] h0 (Val (PV (.int (own_leq xs ys)) h0)) := by
  refine Con.of_run pn_48 (fun m => ef_con_leq m b d xs ys ) ?_
  refine Run.aloadN d48_0 rfl rfl (pc' := 1) rfl ?_
  refine Run.alen (z := (Int32.ofNat xs.length)) d48_1 AX (by rw [List.length_map] <;> rfl) (pc' := 2) rfl ?_
  refine Run.aloadN d48_2 rfl rfl (pc' := 3) rfl ?_
  refine Run.alen (z := (Int32.ofNat ys.length)) d48_3 AY (by rw [List.length_map] <;> rfl) (pc' := 4) rfl ?_
  refine Run.icmp_ne d48_4 (by decide) (pc' := 34) (by decide) (pa := 7) rfl (fun hc4 => ?_) (fun hc4 => ?_)
  · refine Run.iconst (0 : Int32) d48_34 (by decide) (pc' := 35) rfl ?_
    exact Run.nreturn d48_35 (ty := .boolean) rfl (by simp) (by decide) (by decide) ⟨_, rfl, congrArg Value.int (by unfold own_leq; rw [if_neg (fun e => hc4 (by rw [e]))]; rfl), rfl⟩
  · refine Run.iconst (0 : Int32) d48_7 (by decide) (pc' := 8) rfl ?_
    refine Run.istoreN (l' := #[.val (.ref b), .val (.ref d), .val (.int (0 : Int32))]) d48_8 rfl (pc' := 9) rfl ?_
    have hle : xs.length = ys.length := own_ofe (by omega) (by omega) hc4
    have loop : ∀ t_ i : Nat, t_ + i = xs.length → (∀ j, j < i → xs.getD j 0 = ys.getD j 0) → Run l Z n0 "java/lang/StringLatin1" jdk_43_method_13_code 3 (some .boolean) (⟨"java/lang/StringLatin1", "equals", "([B[B)Z"⟩ : MethodName) ({ frames := 0, cells := 0, slots := 0, locals := 0 } : Room) (Val (PV (.int (own_leq xs ys)) h0)) 9 #[.val (.ref b), .val (.ref d), .val (.int (Int32.ofNat i))] [] h0 0 0 := by
      intro t_
      induction t_ with
      | zero =>
        intro i hti hpr
        refine Run.iloadN d48_9 rfl (pc' := 10) rfl ?_
        refine Run.aloadN d48_10 rfl rfl (pc' := 11) rfl ?_
        refine Run.alen (z := (Int32.ofNat xs.length)) d48_11 AX (by rw [List.length_map] <;> rfl) (pc' := 12) rfl ?_
        refine Run.icmp_ge d48_12 (by decide) (pc' := 32) (by decide) (pa := 15) rfl (fun hc12 => ?_) (fun hc12 => ?_)
        · refine Run.iconst (1 : Int32) d48_32 (by decide) (pc' := 33) rfl ?_
          exact Run.nreturn d48_33 (ty := .boolean) rfl (by simp) (by decide) (by decide) ⟨_, rfl, congrArg Value.int (by unfold own_leq; rw [if_pos (own_extD hle (fun j hj => hpr j (by omega)))]; rfl), rfl⟩
        · exact absurd ((own_lt (by omega) (by omega)).mp hc12) (by omega)
      | succ t_ ih =>
        intro i hti hpr
        refine Run.iloadN d48_9 rfl (pc' := 10) rfl ?_
        refine Run.aloadN d48_10 rfl rfl (pc' := 11) rfl ?_
        refine Run.alen (z := (Int32.ofNat xs.length)) d48_11 AX (by rw [List.length_map] <;> rfl) (pc' := 12) rfl ?_
        refine Run.icmp_ge d48_12 (by decide) (pc' := 32) (by decide) (pa := 15) rfl (fun hc12 => ?_) (fun hc12 => ?_)
        · exact absurd ((own_lt (by omega) (by omega)).mpr (by omega)) hc12
        · refine Run.aloadN d48_15 rfl rfl (pc' := 16) rfl ?_
          refine Run.iloadN d48_16 rfl (pc' := 17) rfl ?_
          refine Run.baload (i := i) (v := (.int (xs.getD i 0))) d48_17 AX (own_ofn (by omega)) (own_gm2 (by omega)) (pc' := 18) rfl ?_
          refine Run.aloadN d48_18 rfl rfl (pc' := 19) rfl ?_
          refine Run.iloadN d48_19 rfl (pc' := 20) rfl ?_
          refine Run.baload (i := i) (v := (.int (ys.getD i 0))) d48_20 AY (own_ofn (by omega)) (own_gm2 (by omega)) (pc' := 21) rfl ?_
          refine Run.icmp_eq d48_21 (by decide) (pc' := 26) (by decide) (pa := 24) rfl (fun hc21 => ?_) (fun hc21 => ?_)
          · refine Run.iinc (1 : Int32) #[.val (.ref b), .val (.ref d), .val (.int ((Int32.ofNat i) + (1 : Int32)))] d48_26 (by decide) rfl rfl (pc' := 29) rfl ?_
            refine Run.goto d48_29 (by decide) (pc' := 9) (by decide) ?_
            rw [own_inc]
            exact ih (i + 1) (by omega) (fun j hj => by by_cases z : j = i; rw [z]; exact hc21; exact hpr j (by omega))
          · refine Run.iconst (0 : Int32) d48_24 (by decide) (pc' := 25) rfl ?_
            exact Run.nreturn d48_25 (ty := .boolean) rfl (by simp) (by decide) (by decide) ⟨_, rfl, congrArg Value.int (by unfold own_leq; rw [if_neg (fun e => hc21 (by rw [e]))]; rfl), rfl⟩
    exact loop xs.length 0 (by omega) (fun j hj => absurd hj (Nat.not_lt_zero j))
theorem own_neq {cs ds : List Int32} (h : ¬ own_coder cs = own_coder ds) : own_eq cs ds = 0 := by unfold own_eq; rw [if_neg (fun e => h (by rw [e]))]
theorem own_same {Z : State} {h : Heap} {t u b d : Addr} {cs ds : List Int32} (hc : own_chr cs) (hd : own_chr ds) (e : (Value.ref t) = (Value.ref u)) (F1 : Fld Z h t "java/lang/String" "value" "[B" (.ref b)) (F2 : Fld Z h u "java/lang/String" "value" "[B" (.ref d)) (G1 : Fld Z h t "java/lang/String" "coder" "B" (.int (own_coder cs))) (G2 : Fld Z h u "java/lang/String" "coder" "B" (.int (own_coder ds))) (A1 : Ary Z h b .byte (own_enc cs)) (A2 : Ary Z h d .byte (own_enc ds)) : own_eq cs ds = 1 := by
  obtain rfl : t = u := by injection e
  have e1 := own_fldI F1 F2; have e2 := own_fldI G1 G2
  obtain rfl : b = d := by injection e1
  have e3 : own_coder cs = own_coder ds := by injection e2
  unfold own_eq; rw [if_pos (own_inj hc hd e3 (own_aryI A1 A2))]
theorem d47_0 : decode jdk_42_method_66_code 0 = .ok (.aload_n 0, 1) := by decide +kernel
theorem d47_1 : decode jdk_42_method_66_code 1 = .ok (.aload_n 1, 1) := by decide +kernel
theorem d47_2 : decode jdk_42_method_66_code 2 = .ok (.if_acmp .ne 5, 3) := by decide +kernel
theorem d47_5 : decode jdk_42_method_66_code 5 = .ok (.iconst 1, 1) := by decide +kernel
theorem d47_6 : decode jdk_42_method_66_code 6 = .ok (.ireturn, 1) := by decide +kernel
theorem d47_7 : decode jdk_42_method_66_code 7 = .ok (.aload_n 1, 1) := by decide +kernel
theorem d47_8 : decode jdk_42_method_66_code 8 = .ok (.instanceof 10, 3) := by decide +kernel
theorem d47_11 : decode jdk_42_method_66_code 11 = .ok (.ifCond .eq 43, 3) := by decide +kernel
theorem d47_14 : decode jdk_42_method_66_code 14 = .ok (.aload_n 1, 1) := by decide +kernel
theorem d47_15 : decode jdk_42_method_66_code 15 = .ok (.checkcast 10, 3) := by decide +kernel
theorem d47_18 : decode jdk_42_method_66_code 18 = .ok (.astore_n 2, 1) := by decide +kernel
theorem d47_19 : decode jdk_42_method_66_code 19 = .ok (.getstatic 38, 3) := by decide +kernel
theorem d47_22 : decode jdk_42_method_66_code 22 = .ok (.ifCond .eq 14, 3) := by decide +kernel
theorem d47_25 : decode jdk_42_method_66_code 25 = .ok (.aload_n 0, 1) := by decide +kernel
theorem d47_26 : decode jdk_42_method_66_code 26 = .ok (.getfield 15, 3) := by decide +kernel
theorem d47_29 : decode jdk_42_method_66_code 29 = .ok (.aload_n 2, 1) := by decide +kernel
theorem d47_30 : decode jdk_42_method_66_code 30 = .ok (.getfield 15, 3) := by decide +kernel
theorem d47_33 : decode jdk_42_method_66_code 33 = .ok (.if_icmp .ne 21, 3) := by decide +kernel
theorem d47_36 : decode jdk_42_method_66_code 36 = .ok (.aload_n 0, 1) := by decide +kernel
theorem d47_37 : decode jdk_42_method_66_code 37 = .ok (.getfield 9, 3) := by decide +kernel
theorem d47_40 : decode jdk_42_method_66_code 40 = .ok (.aload_n 2, 1) := by decide +kernel
theorem d47_41 : decode jdk_42_method_66_code 41 = .ok (.getfield 9, 3) := by decide +kernel
theorem d47_44 : decode jdk_42_method_66_code 44 = .ok (.invokestatic 541, 3) := by decide +kernel
theorem d47_47 : decode jdk_42_method_66_code 47 = .ok (.ifCond .eq 7, 3) := by decide +kernel
theorem d47_50 : decode jdk_42_method_66_code 50 = .ok (.iconst 1, 1) := by decide +kernel
theorem d47_51 : decode jdk_42_method_66_code 51 = .ok (.goto 4, 3) := by decide +kernel
theorem d47_54 : decode jdk_42_method_66_code 54 = .ok (.iconst 0, 1) := by decide +kernel
theorem d47_55 : decode jdk_42_method_66_code 55 = .ok (.ireturn, 1) := by decide +kernel
theorem pn_47 : plainFor (⟨"java/lang/String", "equals", "(Ljava/lang/Object;)Z"⟩ : MethodName) = true := plainFor_of_name (by first | (simp [plainName, overriddenIn]; done) | decide +kernel)
theorem pd___B_B_Z : parseMethodDescriptor "([B[B)Z" = some ⟨[(.array .byte), (.array .byte)], some .boolean⟩ := by decide +kernel
theorem ef_con_seq (m : MethodId) (t b u d : Addr) (cs ds : List Int32) (cz : Int32)  : entryFrame m #[(.ref t), (.ref u)] 3 = mkF m 0 #[.val (.ref t), .val (.ref u), .unset] [] := by first | (simp [entryFrame, mkF, argsToLocals, Value.category]; done) | rfl
set_option maxRecDepth 65536 in
set_option maxHeartbeats 40000000 in
theorem con_seq (l : Launch) (Z : State) (a0 : Array Value) (hw : ∀ d ∈ tables_1, d.before a0 Z = true) (n0 : Nat) (h0 : Heap) (Z0 : n0 ≤ h0.size) (t b u d : Addr) (cs ds : List Int32) (cz : Int32) (od0 : Old Z n0 h0) (SZ : Sta Z Z.heap "java/lang/String" "COMPACT_STRINGS" "Z" (.int cz)) (hcz : ¬ cz = 0) (E1 : Exa Z h0 t "java/lang/String") (FV : Fld Z h0 t "java/lang/String" "value" "[B" (.ref b)) (FC : Fld Z h0 t "java/lang/String" "coder" "B" (.int (own_coder cs))) (AB : Ary Z h0 b .byte (own_enc cs)) (E2 : Exa Z h0 u "java/lang/String") (FV2 : Fld Z h0 u "java/lang/String" "value" "[B" (.ref d)) (FC2 : Fld Z h0 u "java/lang/String" "coder" "B" (.int (own_coder ds))) (AB2 : Ary Z h0 d .byte (own_enc ds)) (hn : cs.length ≤ 24) (hch : own_chr cs) (hn2 : ds.length ≤ 24) (hch2 : own_chr ds) :
    Con l Z n0 (⟨"java/lang/String", "equals", "(Ljava/lang/Object;)Z"⟩ : MethodName) jdk_42_method_66_code 3 (some .boolean) ({ frames := 1, cells := 0, slots := 0, locals := 14 } : Room) #[(.ref t), (.ref u)] h0 (Val (PV (.int (own_eq cs ds)) h0)) := by
  refine Con.of_run pn_47 (fun m => ef_con_seq m t b u d cs ds cz ) ?_
  refine Run.aloadN d47_0 rfl rfl (pc' := 1) rfl ?_
  refine Run.aloadN d47_1 rfl rfl (pc' := 2) rfl ?_
  refine Run.acmp_ne d47_2 rfl rfl (by decide) (pc' := 7) (by decide) (pa := 5) rfl (fun hc2 => ?_) (fun hc2 => ?_)
  · refine Run.aloadN d47_7 rfl rfl (pc' := 8) rfl ?_
    refine Run.instY d47_8 (hw _ (List.mem_of_getElem? (i := 252) rfl)) (Ins.self E2) (pc' := 11) rfl ?_
    refine Run.if_eq d47_11 (by decide) (pc' := 54) (by decide) (pa := 14) rfl (fun hc11 => ?_) (fun hc11 => ?_)
    · exact absurd hc11 (by decide)
    · refine Run.aloadN d47_14 rfl rfl (pc' := 15) rfl ?_
      refine Run.castY d47_15 (hw _ (List.mem_of_getElem? (i := 252) rfl)) (Ins.self E2) (pc' := 18) rfl ?_
      refine Run.astoreN (l' := #[.val (.ref t), .val (.ref u), .val (.ref u)]) d47_18 rfl rfl (pc' := 19) rfl ?_
      refine Run.getS d47_19 (host := "") (Or.inl (hw _ (List.mem_of_getElem? (i := 19) rfl))) Via.refl (SZ.ext od0.2) (pc' := 22) rfl ?_
      refine Run.if_eq d47_22 (by decide) (pc' := 36) (by decide) (pa := 25) rfl (fun hc22 => ?_) (fun hc22 => ?_)
      · exact absurd hc22 hcz
      · refine Run.aloadN d47_25 rfl rfl (pc' := 26) rfl ?_
        refine Run.getF d47_26 (host := "") (Or.inl (hw _ (List.mem_of_getElem? (i := 20) rfl))) Via.refl FC (pc' := 29) rfl ?_
        refine Run.aloadN d47_29 rfl rfl (pc' := 30) rfl ?_
        refine Run.getF d47_30 (host := "") (Or.inl (hw _ (List.mem_of_getElem? (i := 20) rfl))) Via.refl FC2 (pc' := 33) rfl ?_
        refine Run.icmp_ne d47_33 (by decide) (pc' := 54) (by decide) (pa := 36) rfl (fun hc33 => ?_) (fun hc33 => ?_)
        · refine Run.iconst (0 : Int32) d47_54 (by decide) (pc' := 55) rfl ?_
          exact Run.nreturn d47_55 (ty := .boolean) rfl (by simp) (by decide) (by decide) ⟨_, rfl, congrArg Value.int (by rw [own_neq hc33]; rfl), rfl⟩
        · refine Run.aloadN d47_36 rfl rfl (pc' := 37) rfl ?_
          refine Run.getF d47_37 (host := "") (Or.inl (hw _ (List.mem_of_getElem? (i := 21) rfl))) Via.refl FV (pc' := 40) rfl ?_
          refine Run.aloadN d47_40 rfl rfl (pc' := 41) rfl ?_
          refine Run.getF d47_41 (host := "") (Or.inl (hw _ (List.mem_of_getElem? (i := 21) rfl))) Via.refl FV2 (pc' := 44) rfl ?_
          refine Run.callS (k' := 0) (n' := 0) (as := [(.ref b), (.ref d)]) (rest := []) (con_leq l Z a0 hw n0 h0 Z0  b d (own_encI cs) (own_encI ds) (own_encM cs ▸ AB) (own_encM ds ▸ AB2) (by have := own_encIl cs; omega) (by have := own_encIl ds; omega)) d47_44 (hw _ (List.mem_of_getElem? (i := 253) rfl)) (hw _ (List.mem_of_getElem? (i := 254) rfl)) (hw _ (List.mem_of_getElem? (i := 24) rfl)) (hw _ (List.mem_of_getElem? (i := 255) rfl)) (by decide) pd___B_B_Z rfl rfl rfl (by decide) (by show (0 : Nat) + (3 + 11) + 0 ≤ _; decide) (by decide) (by decide) (by decide) (by decide) (pc' := 47) rfl ?_
          rintro _ _ ⟨_, rfl, rfl, rfl⟩
          show Run l Z n0 "java/lang/String" jdk_42_method_66_code 3 (some .boolean) (⟨"java/lang/String", "equals", "(Ljava/lang/Object;)Z"⟩ : MethodName) ({ frames := 1, cells := 0, slots := 0, locals := 14 } : Room) _ 47 #[.val (.ref t), .val (.ref u), .val (.ref u)] [(.int (own_leq (own_encI cs) (own_encI ds)))] h0 0 0
          refine Run.if_eq d47_47 (by decide) (pc' := 54) (by decide) (pa := 50) rfl (fun hc47 => ?_) (fun hc47 => ?_)
          · refine Run.iconst (0 : Int32) d47_54 (by decide) (pc' := 55) rfl ?_
            exact Run.nreturn d47_55 (ty := .boolean) rfl (by simp) (by decide) (by decide) ⟨_, rfl, congrArg Value.int (by rw [own_leq0 hc47]; rfl), rfl⟩
          · refine Run.iconst (1 : Int32) d47_50 (by decide) (pc' := 51) rfl ?_
            refine Run.goto d47_51 (by decide) (pc' := 55) (by decide) ?_
            exact Run.nreturn d47_55 (ty := .boolean) rfl (by simp) (by decide) (by decide) ⟨_, rfl, congrArg Value.int (by rw [own_leq1 hch hch2 hc33 hc47]; rfl), rfl⟩
  · refine Run.iconst (1 : Int32) d47_5 (by decide) (pc' := 6) rfl ?_
    exact Run.nreturn d47_6 (ty := .boolean) rfl (by simp) (by decide) (by decide) ⟨_, rfl, congrArg Value.int (by rw [own_same hch hch2 hc2 FV FV2 FC FC2 AB AB2]; rfl), rfl⟩
theorem own_addn (a b : Nat) : Int32.ofNat a + Int32.ofNat b = Int32.ofNat (a + b) := (Int32.ofNat_add a b).symm
theorem own_subn {a b : Nat} (h : b ≤ a) (ha : a < 2 ^ 30) : Int32.ofNat a - Int32.ofNat b = Int32.ofNat (a - b) := by
  apply own_eqi
  have h1 := own_ofn (i := a) (by omega); have h2 := own_ofn (i := b) (by omega); have h3 := c_isub (Int32.ofNat a) (Int32.ofNat b); have h4 := rng32 (Int32.ofNat a - Int32.ofNat b)
  rw [own_ofn (by omega)]; omega
theorem own_swc {n m f : Nat} (hn : n < 2 ^ 30) (hm : m < 2 ^ 30) (hf : f < 2 ^ 30) : (Int32.ofNat n - Int32.ofNat m < Int32.ofNat f) ↔ n < f + m := by
  rw [Int32.lt_iff_toInt_lt]
  have h1 := own_ofn (i := n) (by omega); have h2 := own_ofn (i := m) (by omega); have h3 := c_isub (Int32.ofNat n) (Int32.ofNat m); have h4 := rng32 (Int32.ofNat n - Int32.ofNat m); have h5 := own_ofn (i := f) (by omega)
  omega
theorem own_czc {cs ds : List Int32} (h : own_pfx cs = cs.length) (h2 : own_pfx ds = ds.length) : own_coder cs = own_coder ds := by unfold own_coder; rw [if_pos h, if_pos h2]
theorem own_cz1 {cs : List Int32} (h : own_pfx cs = cs.length) : ¬ own_coder cs = 1 := by unfold own_coder; rw [if_pos h]; decide
theorem own_encl {cs : List Int32} (h : own_pfx cs = cs.length) : (own_enc cs).length = cs.length := by rw [own_enc_len, if_pos h]
theorem own_byl (cs : List Int32) : (own_by cs).length = cs.length := by simp [own_by]
def own_canI (p1 : Int32) : Int32 := (if p1 < (0 : Int32) then (0 : Int32) else (if (255 : Int32) < p1 then (0 : Int32) else (1 : Int32)))
theorem d26_0 : decode jdk_43_method_4_code 0 = .ok (.iload_n 0, 1) := by decide +kernel
theorem d26_1 : decode jdk_43_method_4_code 1 = .ok (.ifCond .lt 14, 3) := by decide +kernel
theorem d26_4 : decode jdk_43_method_4_code 4 = .ok (.iload_n 0, 1) := by decide +kernel
theorem d26_5 : decode jdk_43_method_4_code 5 = .ok (.sipush 255, 3) := by decide +kernel
theorem d26_8 : decode jdk_43_method_4_code 8 = .ok (.if_icmp .gt 7, 3) := by decide +kernel
theorem d26_11 : decode jdk_43_method_4_code 11 = .ok (.iconst 1, 1) := by decide +kernel
theorem d26_12 : decode jdk_43_method_4_code 12 = .ok (.goto 4, 3) := by decide +kernel
theorem d26_15 : decode jdk_43_method_4_code 15 = .ok (.iconst 0, 1) := by decide +kernel
theorem d26_16 : decode jdk_43_method_4_code 16 = .ok (.ireturn, 1) := by decide +kernel
theorem pn_26 : plainFor (⟨"java/lang/StringLatin1", "canEncode", "(I)Z"⟩ : MethodName) = true := plainFor_of_name (by first | (simp [plainName, overriddenIn]; done) | decide +kernel)
theorem ef_con_own_canI (m : MethodId) (p1 : Int32)  : entryFrame m #[(.int p1)] 1 = mkF m 0 #[.val (.int p1)] [] := by first | (simp [entryFrame, mkF, argsToLocals, Value.category]; done) | rfl
set_option maxRecDepth 65536 in
set_option maxHeartbeats 40000000 in
theorem con_own_canI (l : Launch) (Z : State) (a0 : Array Value) (hw : ∀ d ∈ tables_1, d.before a0 Z = true) (n0 : Nat) (h0 : Heap) (Z0 : n0 ≤ h0.size) (p1 : Int32)  :
    Con l Z n0 (⟨"java/lang/StringLatin1", "canEncode", "(I)Z"⟩ : MethodName) jdk_43_method_4_code 1 (some .boolean) ({ frames := 0, cells := 0, slots := 0, locals := 0 } : Room) #[(.int p1)] h0 (Val (PV (.int (own_canI p1)) h0)) := by
  refine Con.of_run pn_26 (fun m => ef_con_own_canI m p1 ) ?_
  refine Run.iloadN d26_0 rfl (pc' := 1) rfl ?_
  refine Run.if_lt d26_1 (by decide) (pc' := 15) (by decide) (pa := 4) rfl (fun hc1 => ?_) (fun hc1 => ?_)
  · refine Run.iconst (0 : Int32) d26_15 (by decide) (pc' := 16) rfl ?_
    exact Run.nreturn d26_16 (ty := .boolean) rfl (by simp) (by decide) (by decide) ⟨_, rfl, congrArg Value.int (by unfold own_canI; rw [if_pos hc1] <;> rfl), rfl⟩
  · refine Run.iloadN d26_4 rfl (pc' := 5) rfl ?_
    refine Run.sipush (255 : Int32) d26_5 (by decide) (pc' := 8) rfl ?_
    refine Run.icmp_gt d26_8 (by decide) (pc' := 15) (by decide) (pa := 11) rfl (fun hc8 => ?_) (fun hc8 => ?_)
    · refine Run.iconst (0 : Int32) d26_15 (by decide) (pc' := 16) rfl ?_
      exact Run.nreturn d26_16 (ty := .boolean) rfl (by simp) (by decide) (by decide) ⟨_, rfl, congrArg Value.int (by unfold own_canI; rw [if_neg hc1, if_pos hc8] <;> rfl), rfl⟩
    · refine Run.iconst (1 : Int32) d26_11 (by decide) (pc' := 12) rfl ?_
      refine Run.goto d26_12 (by decide) (pc' := 16) (by decide) ?_
      exact Run.nreturn d26_16 (ty := .boolean) rfl (by simp) (by decide) (by decide) ⟨_, rfl, congrArg Value.int (by unfold own_canI; rw [if_neg hc1, if_neg hc8] <;> rfl), rfl⟩
def own_max (p1 : Int32) (p2 : Int32) : Int32 := (if p1 < p2 then p2 else p1)
theorem d27_0 : decode jdk_29_method_65_code 0 = .ok (.iload_n 0, 1) := by decide +kernel
theorem d27_1 : decode jdk_29_method_65_code 1 = .ok (.iload_n 1, 1) := by decide +kernel
theorem d27_2 : decode jdk_29_method_65_code 2 = .ok (.if_icmp .lt 7, 3) := by decide +kernel
theorem d27_5 : decode jdk_29_method_65_code 5 = .ok (.iload_n 0, 1) := by decide +kernel
theorem d27_6 : decode jdk_29_method_65_code 6 = .ok (.goto 4, 3) := by decide +kernel
theorem d27_9 : decode jdk_29_method_65_code 9 = .ok (.iload_n 1, 1) := by decide +kernel
theorem d27_10 : decode jdk_29_method_65_code 10 = .ok (.ireturn, 1) := by decide +kernel
theorem pn_27 : plainFor (⟨"java/lang/Math", "max", "(II)I"⟩ : MethodName) = true := by decide +kernel
theorem ef_con_own_max (m : MethodId) (p1 : Int32) (p2 : Int32)  : entryFrame m #[(.int p1), (.int p2)] 2 = mkF m 0 #[.val (.int p1), .val (.int p2)] [] := by first | (simp [entryFrame, mkF, argsToLocals, Value.category]; done) | rfl
set_option maxRecDepth 65536 in
set_option maxHeartbeats 40000000 in
theorem con_own_max (l : Launch) (Z : State) (a0 : Array Value) (hw : ∀ d ∈ tables_1, d.before a0 Z = true) (n0 : Nat) (h0 : Heap) (Z0 : n0 ≤ h0.size) (p1 : Int32) (p2 : Int32)  :
    Con l Z n0 (⟨"java/lang/Math", "max", "(II)I"⟩ : MethodName) jdk_29_method_65_code 2 (some .int) ({ frames := 0, cells := 0, slots := 0, locals := 0 } : Room) #[(.int p1), (.int p2)] h0 (Val (PV (.int (own_max p1 p2)) h0)) := by
  refine Con.of_run pn_27 (fun m => ef_con_own_max m p1 p2 ) ?_
  refine Run.iloadN d27_0 rfl (pc' := 1) rfl ?_
  refine Run.iloadN d27_1 rfl (pc' := 2) rfl ?_
  refine Run.icmp_lt d27_2 (by decide) (pc' := 9) (by decide) (pa := 5) rfl (fun hc2 => ?_) (fun hc2 => ?_)
  · refine Run.iloadN d27_9 rfl (pc' := 10) rfl ?_
    exact Run.ireturn d27_10 rfl (by decide) (by decide) ⟨_, rfl, congrArg Value.int (by unfold own_max; rw [if_pos hc2] <;> rfl), rfl⟩
  · refine Run.iloadN d27_5 rfl (pc' := 6) rfl ?_
    refine Run.goto d27_6 (by decide) (pc' := 10) (by decide) ?_
    exact Run.ireturn d27_10 rfl (by decide) (by decide) ⟨_, rfl, congrArg Value.int (by unfold own_max; rw [if_neg hc2] <;> rfl), rfl⟩
def own_min (p1 : Int32) (p2 : Int32) : Int32 := (if p2 < p1 then p2 else p1)
theorem d28_0 : decode jdk_29_method_69_code 0 = .ok (.iload_n 0, 1) := by decide +kernel
theorem d28_1 : decode jdk_29_method_69_code 1 = .ok (.iload_n 1, 1) := by decide +kernel
theorem d28_2 : decode jdk_29_method_69_code 2 = .ok (.if_icmp .gt 7, 3) := by decide +kernel
theorem d28_5 : decode jdk_29_method_69_code 5 = .ok (.iload_n 0, 1) := by decide +kernel
theorem d28_6 : decode jdk_29_method_69_code 6 = .ok (.goto 4, 3) := by decide +kernel
theorem d28_9 : decode jdk_29_method_69_code 9 = .ok (.iload_n 1, 1) := by decide +kernel
theorem d28_10 : decode jdk_29_method_69_code 10 = .ok (.ireturn, 1) := by decide +kernel
theorem pn_28 : plainFor (⟨"java/lang/Math", "min", "(II)I"⟩ : MethodName) = true := by decide +kernel
theorem ef_con_own_min (m : MethodId) (p1 : Int32) (p2 : Int32)  : entryFrame m #[(.int p1), (.int p2)] 2 = mkF m 0 #[.val (.int p1), .val (.int p2)] [] := by first | (simp [entryFrame, mkF, argsToLocals, Value.category]; done) | rfl
set_option maxRecDepth 65536 in
set_option maxHeartbeats 40000000 in
theorem con_own_min (l : Launch) (Z : State) (a0 : Array Value) (hw : ∀ d ∈ tables_1, d.before a0 Z = true) (n0 : Nat) (h0 : Heap) (Z0 : n0 ≤ h0.size) (p1 : Int32) (p2 : Int32)  :
    Con l Z n0 (⟨"java/lang/Math", "min", "(II)I"⟩ : MethodName) jdk_29_method_69_code 2 (some .int) ({ frames := 0, cells := 0, slots := 0, locals := 0 } : Room) #[(.int p1), (.int p2)] h0 (Val (PV (.int (own_min p1 p2)) h0)) := by
  refine Con.of_run pn_28 (fun m => ef_con_own_min m p1 p2 ) ?_
  refine Run.iloadN d28_0 rfl (pc' := 1) rfl ?_
  refine Run.iloadN d28_1 rfl (pc' := 2) rfl ?_
  refine Run.icmp_gt d28_2 (by decide) (pc' := 9) (by decide) (pa := 5) rfl (fun hc2 => ?_) (fun hc2 => ?_)
  · refine Run.iloadN d28_9 rfl (pc' := 10) rfl ?_
    exact Run.ireturn d28_10 rfl (by decide) (by decide) ⟨_, rfl, congrArg Value.int (by unfold own_min; rw [if_pos hc2] <;> rfl), rfl⟩
  · refine Run.iloadN d28_5 rfl (pc' := 6) rfl ?_
    refine Run.goto d28_6 (by decide) (pc' := 10) (by decide) ?_
    exact Run.ireturn d28_10 rfl (by decide) (by decide) ⟨_, rfl, congrArg Value.int (by unfold own_min; rw [if_neg hc2] <;> rfl), rfl⟩
def own_ixF (cs : List Int32) (ch : Int32) : Nat → Nat → Int32
  | 0, _ => -1
  | t + 1, i => if cs.getD i 0 = ch then Int32.ofNat i else own_ixF cs ch t (i + 1)
def own_ixf (cs : List Int32) (ch : Int32) (f : Nat) : Int32 := own_ixF cs ch (cs.length - f) f
theorem own_ixn {cs : List Int32} {ch : Int32} {f : Nat} (h : ¬ Int32.ofNat f < Int32.ofNat cs.length) (hb : cs.length < 2 ^ 31) (hf : f < 2 ^ 31) : own_ixf cs ch f = -1 := by
  have e : cs.length - f = 0 := Nat.sub_eq_zero_of_le (Nat.le_of_not_lt fun z => h ((own_lt hf hb).mpr z))
  unfold own_ixf; rw [e]; rfl
theorem own_mm (n : Nat) : own_min (Int32.ofNat n) (Int32.ofNat n) = Int32.ofNat n := by unfold own_min; split <;> rfl
theorem own_mx0 {n : Nat} (h : n < 2 ^ 31) : own_max (Int32.ofNat n) (0 : Int32) = Int32.ofNat n := by
  unfold own_max; split
  · rename_i q; exact absurd q (own_nge h)
  · rfl
theorem own_nbe {x y : Int32} (hx : 0 ≤ x.toInt) (hx2 : ¬ (255 : Int32) < x) (hy : 0 ≤ y.toInt) (hy2 : ¬ (255 : Int32) < y) : nar .byte x = nar .byte y ↔ x = y :=
  ⟨fun h => by rw [← own_latc hx hx2, h, own_latc hy hy2], fun h => by rw [h]⟩
theorem own_canIch {ch : Int32} (gc : 0 ≤ ch.toInt) (gc2 : ¬ (255 : Int32) < ch) : ¬ own_canI ch = 0 := by
  have h1 : ¬ ch < 0 := by rw [Int32.lt_iff_toInt_lt, own_z]; omega
  simp [own_canI, h1, gc2]
theorem d29_0 : decode jdk_43_method_23_code 0 = .ok (.iload_n 1, 1) := by decide +kernel
theorem d29_1 : decode jdk_43_method_23_code 1 = .ok (.i2b, 1) := by decide +kernel
theorem d29_2 : decode jdk_43_method_23_code 2 = .ok (.istore 4, 2) := by decide +kernel
theorem d29_4 : decode jdk_43_method_23_code 4 = .ok (.iload_n 2, 1) := by decide +kernel
theorem d29_5 : decode jdk_43_method_23_code 5 = .ok (.istore 5, 2) := by decide +kernel
theorem d29_7 : decode jdk_43_method_23_code 7 = .ok (.iload 5, 2) := by decide +kernel
theorem d29_9 : decode jdk_43_method_23_code 9 = .ok (.iload_n 3, 1) := by decide +kernel
theorem d29_10 : decode jdk_43_method_23_code 10 = .ok (.if_icmp .ge 21, 3) := by decide +kernel
theorem d29_13 : decode jdk_43_method_23_code 13 = .ok (.aload_n 0, 1) := by decide +kernel
theorem d29_14 : decode jdk_43_method_23_code 14 = .ok (.iload 5, 2) := by decide +kernel
theorem d29_16 : decode jdk_43_method_23_code 16 = .ok (.baload, 1) := by decide +kernel
theorem d29_17 : decode jdk_43_method_23_code 17 = .ok (.iload 4, 2) := by decide +kernel
theorem d29_19 : decode jdk_43_method_23_code 19 = .ok (.if_icmp .ne 6, 3) := by decide +kernel
theorem d29_22 : decode jdk_43_method_23_code 22 = .ok (.iload 5, 2) := by decide +kernel
theorem d29_24 : decode jdk_43_method_23_code 24 = .ok (.ireturn, 1) := by decide +kernel
theorem d29_25 : decode jdk_43_method_23_code 25 = .ok (.iinc 5 1, 3) := by decide +kernel
theorem d29_28 : decode jdk_43_method_23_code 28 = .ok (.goto (-21), 3) := by decide +kernel
theorem d29_31 : decode jdk_43_method_23_code 31 = .ok (.iconst (-1), 1) := by decide +kernel
theorem d29_32 : decode jdk_43_method_23_code 32 = .ok (.ireturn, 1) := by decide +kernel
theorem pn_29 : plainFor (⟨"java/lang/StringLatin1", "indexOfChar", "([BIII)I"⟩ : MethodName) = true := plainFor_of_name (by first | (simp [plainName, overriddenIn]; done) | decide +kernel)
theorem ef_con_lic (m : MethodId) (b : Addr) (cs : List Int32) (ch : Int32) (f : Nat)  : entryFrame m #[(.ref b), (.int ch), (.int (Int32.ofNat f)), (.int (Int32.ofNat cs.length))] 6 = mkF m 0 #[.val (.ref b), .val (.int ch), .val (.int (Int32.ofNat f)), .val (.int (Int32.ofNat cs.length)), .unset, .unset] [] := by first | (simp [entryFrame, mkF, argsToLocals, Value.category]; done) | rfl
set_option maxRecDepth 65536 in
set_option maxHeartbeats 40000000 in
theorem con_lic (l : Launch) (Z : State) (a0 : Array Value) (hw : ∀ d ∈ tables_1, d.before a0 Z = true) (n0 : Nat) (h0 : Heap) (Z0 : n0 ≤ h0.size) (b : Addr) (cs : List Int32) (ch : Int32) (f : Nat) (hp : own_pfx cs = cs.length) (AB : Ary Z h0 b .byte (own_by cs)) (hf : f ≤ cs.length) (hn : cs.length ≤ 24) (hch : own_chr cs) (gc : 0 ≤ ch.toInt) (gc2 : ¬ (255 : Int32) < ch) :
    Con l Z n0 (⟨"java/lang/StringLatin1", "indexOfChar", "([BIII)I"⟩ : MethodName) jdk_43_method_23_code 6 (some .int) ({ frames := 0, cells := 0, slots := 0, locals := 0 } : Room) #[(.ref b), (.int ch), (.int (Int32.ofNat f)), (.int (Int32.ofNat cs.length))] h0 (Val (PV (.int (own_ixf cs ch f)) h0)) := by
  refine Con.of_run pn_29 (fun m => ef_con_lic m b cs ch f ) ?_
  refine Run.iloadN d29_0 rfl (pc' := 1) rfl ?_
  refine Run.i2b d29_1 (pc' := 2) rfl ?_
  refine Run.istore (l' := #[.val (.ref b), .val (.int ch), .val (.int (Int32.ofNat f)), .val (.int (Int32.ofNat cs.length)), .val (.int (nar .byte ch)), .unset]) d29_2 rfl (pc' := 4) rfl ?_
  refine Run.iloadN d29_4 rfl (pc' := 5) rfl ?_
  refine Run.istore (l' := #[.val (.ref b), .val (.int ch), .val (.int (Int32.ofNat f)), .val (.int (Int32.ofNat cs.length)), .val (.int (nar .byte ch)), .val (.int (Int32.ofNat f))]) d29_5 rfl (pc' := 7) rfl ?_
  have loop : ∀ t_ i : Nat, t_ + i = cs.length → own_ixF cs ch t_ i = own_ixf cs ch f → Run l Z n0 "java/lang/StringLatin1" jdk_43_method_23_code 6 (some .int) (⟨"java/lang/StringLatin1", "indexOfChar", "([BIII)I"⟩ : MethodName) ({ frames := 0, cells := 0, slots := 0, locals := 0 } : Room) (Val (PV (.int (own_ixf cs ch f)) h0)) 7 #[.val (.ref b), .val (.int ch), .val (.int (Int32.ofNat f)), .val (.int (Int32.ofNat cs.length)), .val (.int (nar .byte ch)), .val (.int (Int32.ofNat i))] [] h0 0 0 := by
    intro t_
    induction t_ with
    | zero =>
      intro i hti hr
      refine Run.iload d29_7 rfl (pc' := 9) rfl ?_
      refine Run.iloadN d29_9 rfl (pc' := 10) rfl ?_
      refine Run.icmp_ge d29_10 (by decide) (pc' := 31) (by decide) (pa := 13) rfl (fun hc10 => ?_) (fun hc10 => ?_)
      · refine Run.iconst (-1 : Int32) d29_31 (by decide) (pc' := 32) rfl ?_
        exact Run.ireturn d29_32 rfl (by decide) (by decide) ⟨_, rfl, congrArg Value.int (by rw [← hr]; rfl), rfl⟩
      · exact absurd ((own_lt (by omega) (by omega)).mp hc10) (by omega)
    | succ t_ ih =>
      intro i hti hr
      have hil : i < cs.length := by omega
      refine Run.iload d29_7 rfl (pc' := 9) rfl ?_
      refine Run.iloadN d29_9 rfl (pc' := 10) rfl ?_
      refine Run.icmp_ge d29_10 (by decide) (pc' := 31) (by decide) (pa := 13) rfl (fun hc10 => ?_) (fun hc10 => ?_)
      · exact absurd ((own_lt (by omega) (by omega)).mpr (by omega)) hc10
      · refine Run.aloadN d29_13 rfl rfl (pc' := 14) rfl ?_
        refine Run.iload d29_14 rfl (pc' := 16) rfl ?_
        refine Run.baload (i := i) (v := (.int (nar .byte (cs.getD i 0)))) d29_16 AB (own_ofn (by omega)) (own_by_get hil) (pc' := 17) rfl ?_
        refine Run.iload d29_17 rfl (pc' := 19) rfl ?_
        refine Run.icmp_ne d29_19 (by decide) (pc' := 25) (by decide) (pa := 22) rfl (fun hc19 => ?_) (fun hc19 => ?_)
        · refine Run.iinc (1 : Int32) #[.val (.ref b), .val (.int ch), .val (.int (Int32.ofNat f)), .val (.int (Int32.ofNat cs.length)), .val (.int (nar .byte ch)), .val (.int ((Int32.ofNat i) + (1 : Int32)))] d29_25 (by decide) rfl rfl (pc' := 28) rfl ?_
          refine Run.goto d29_28 (by decide) (pc' := 7) (by decide) ?_
          rw [own_inc]
          exact ih (i + 1) (by omega) (by rw [← hr]; exact (if_neg (fun z => hc19 ((own_nbe (own_chrD hch hil).1 (own_pfx_all hp hil) gc gc2).mpr z))).symm)
        · refine Run.iload d29_22 rfl (pc' := 24) rfl ?_
          exact Run.ireturn d29_24 rfl (by decide) (by decide) ⟨_, rfl, congrArg Value.int (by rw [← hr]; exact if_pos ((own_nbe (own_chrD hch hil).1 (own_pfx_all hp hil) gc gc2).mp hc19)), rfl⟩
  exact loop (cs.length - f) f (by omega) rfl
theorem d25_0 : decode jdk_43_method_22_code 0 = .ok (.iload_n 1, 1) := by decide +kernel
theorem d25_1 : decode jdk_43_method_22_code 1 = .ok (.invokestatic 88, 3) := by decide +kernel
theorem d25_4 : decode jdk_43_method_22_code 4 = .ok (.ifCond .ne 5, 3) := by decide +kernel
theorem d25_9 : decode jdk_43_method_22_code 9 = .ok (.iload_n 2, 1) := by decide +kernel
theorem d25_10 : decode jdk_43_method_22_code 10 = .ok (.iconst 0, 1) := by decide +kernel
theorem d25_11 : decode jdk_43_method_22_code 11 = .ok (.invokestatic 92, 3) := by decide +kernel
theorem d25_14 : decode jdk_43_method_22_code 14 = .ok (.istore_n 2, 1) := by decide +kernel
theorem d25_15 : decode jdk_43_method_22_code 15 = .ok (.iload_n 3, 1) := by decide +kernel
theorem d25_16 : decode jdk_43_method_22_code 16 = .ok (.aload_n 0, 1) := by decide +kernel
theorem d25_17 : decode jdk_43_method_22_code 17 = .ok (.arraylength, 1) := by decide +kernel
theorem d25_18 : decode jdk_43_method_22_code 18 = .ok (.invokestatic 38, 3) := by decide +kernel
theorem d25_21 : decode jdk_43_method_22_code 21 = .ok (.istore_n 3, 1) := by decide +kernel
theorem d25_22 : decode jdk_43_method_22_code 22 = .ok (.iload_n 2, 1) := by decide +kernel
theorem d25_23 : decode jdk_43_method_22_code 23 = .ok (.iload_n 3, 1) := by decide +kernel
theorem d25_24 : decode jdk_43_method_22_code 24 = .ok (.if_icmp .lt 5, 3) := by decide +kernel
theorem d25_27 : decode jdk_43_method_22_code 27 = .ok (.iconst (-1), 1) := by decide +kernel
theorem d25_28 : decode jdk_43_method_22_code 28 = .ok (.ireturn, 1) := by decide +kernel
theorem d25_29 : decode jdk_43_method_22_code 29 = .ok (.aload_n 0, 1) := by decide +kernel
theorem d25_30 : decode jdk_43_method_22_code 30 = .ok (.iload_n 1, 1) := by decide +kernel
theorem d25_31 : decode jdk_43_method_22_code 31 = .ok (.iload_n 2, 1) := by decide +kernel
theorem d25_32 : decode jdk_43_method_22_code 32 = .ok (.iload_n 3, 1) := by decide +kernel
theorem d25_33 : decode jdk_43_method_22_code 33 = .ok (.invokestatic 95, 3) := by decide +kernel
theorem d25_36 : decode jdk_43_method_22_code 36 = .ok (.ireturn, 1) := by decide +kernel
theorem pn_25 : plainFor (⟨"java/lang/StringLatin1", "indexOf", "([BIII)I"⟩ : MethodName) = true := plainFor_of_name (by first | (simp [plainName, overriddenIn]; done) | decide +kernel)
theorem pd__I_Z : parseMethodDescriptor "(I)Z" = some ⟨[.int], some .boolean⟩ := by decide +kernel
theorem pd__II_I : parseMethodDescriptor "(II)I" = some ⟨[.int, .int], some .int⟩ := by decide +kernel
theorem pd___BIII_I : parseMethodDescriptor "([BIII)I" = some ⟨[(.array .byte), .int, .int, .int], some .int⟩ := by decide +kernel
theorem ef_con_lio (m : MethodId) (b : Addr) (cs : List Int32) (ch : Int32) (f : Nat)  : entryFrame m #[(.ref b), (.int ch), (.int (Int32.ofNat f)), (.int (Int32.ofNat cs.length))] 4 = mkF m 0 #[.val (.ref b), .val (.int ch), .val (.int (Int32.ofNat f)), .val (.int (Int32.ofNat cs.length))] [] := by first | (simp [entryFrame, mkF, argsToLocals, Value.category]; done) | rfl
set_option maxRecDepth 65536 in
set_option maxHeartbeats 40000000 in
theorem con_lio (l : Launch) (Z : State) (a0 : Array Value) (hw : ∀ d ∈ tables_1, d.before a0 Z = true) (n0 : Nat) (h0 : Heap) (Z0 : n0 ≤ h0.size) (b : Addr) (cs : List Int32) (ch : Int32) (f : Nat) (hp : own_pfx cs = cs.length) (AB : Ary Z h0 b .byte (own_by cs)) (hf : f < 2 ^ 29) (hn : cs.length ≤ 24) (hch : own_chr cs) (gc : 0 ≤ ch.toInt) (gc2 : ¬ (255 : Int32) < ch) :
    Con l Z n0 (⟨"java/lang/StringLatin1", "indexOf", "([BIII)I"⟩ : MethodName) jdk_43_method_22_code 4 (some .int) ({ frames := 1, cells := 0, slots := 0, locals := 17 } : Room) #[(.ref b), (.int ch), (.int (Int32.ofNat f)), (.int (Int32.ofNat cs.length))] h0 (Val (PV (.int (own_ixf cs ch f)) h0)) := by
  refine Con.of_run pn_25 (fun m => ef_con_lio m b cs ch f ) ?_
  refine Run.iloadN d25_0 rfl (pc' := 1) rfl ?_
  refine Run.callS (k' := 0) (n' := 0) (as := [(.int ch)]) (rest := []) (con_own_canI l Z a0 hw n0 h0 Z0 ch ) d25_1 (hw _ (List.mem_of_getElem? (i := 132) rfl)) (hw _ (List.mem_of_getElem? (i := 133) rfl)) (hw _ (List.mem_of_getElem? (i := 24) rfl)) (hw _ (List.mem_of_getElem? (i := 134) rfl)) (by decide) pd__I_Z rfl rfl rfl (by decide) (by show (0 : Nat) + (1 + 11) + 0 ≤ _; decide) (by decide) (by decide) (by decide) (by decide) (pc' := 4) rfl ?_
  rintro _ _ ⟨_, rfl, rfl, rfl⟩
  show Run l Z n0 "java/lang/StringLatin1" jdk_43_method_22_code 4 (some .int) (⟨"java/lang/StringLatin1", "indexOf", "([BIII)I"⟩ : MethodName) ({ frames := 1, cells := 0, slots := 0, locals := 17 } : Room) _ 4 #[.val (.ref b), .val (.int ch), .val (.int (Int32.ofNat f)), .val (.int (Int32.ofNat cs.length))] [(.int (own_canI ch))] h0 0 0
  refine Run.if_ne d25_4 (by decide) (pc' := 9) (by decide) (pa := 7) rfl (fun hc4 => ?_) (fun hc4 => ?_)
  · refine Run.iloadN d25_9 rfl (pc' := 10) rfl ?_
    refine Run.iconst (0 : Int32) d25_10 (by decide) (pc' := 11) rfl ?_
    refine Run.callS (k' := 0) (n' := 0) (as := [(.int (Int32.ofNat f)), (.int (0 : Int32))]) (rest := []) (con_own_max l Z a0 hw n0 h0 Z0 (Int32.ofNat f) (0 : Int32) ) d25_11 (hw _ (List.mem_of_getElem? (i := 135) rfl)) (hw _ (List.mem_of_getElem? (i := 136) rfl)) (hw _ (List.mem_of_getElem? (i := 137) rfl)) (hw _ (List.mem_of_getElem? (i := 138) rfl)) (by decide) pd__II_I rfl rfl rfl (by decide) (by show (0 : Nat) + (2 + 11) + 0 ≤ _; decide) (by decide) (by decide) (by decide) (by decide) (pc' := 14) rfl ?_
    rintro _ _ ⟨_, rfl, rfl, rfl⟩
    show Run l Z n0 "java/lang/StringLatin1" jdk_43_method_22_code 4 (some .int) (⟨"java/lang/StringLatin1", "indexOf", "([BIII)I"⟩ : MethodName) ({ frames := 1, cells := 0, slots := 0, locals := 17 } : Room) _ 14 #[.val (.ref b), .val (.int ch), .val (.int (Int32.ofNat f)), .val (.int (Int32.ofNat cs.length))] [(.int (own_max (Int32.ofNat f) (0 : Int32)))] h0 0 0
    rw [own_mx0 (by omega)]
    refine Run.istoreN (l' := #[.val (.ref b), .val (.int ch), .val (.int (Int32.ofNat f)), .val (.int (Int32.ofNat cs.length))]) d25_14 rfl (pc' := 15) rfl ?_
    refine Run.iloadN d25_15 rfl (pc' := 16) rfl ?_
    refine Run.aloadN d25_16 rfl rfl (pc' := 17) rfl ?_
    refine Run.alen (z := (Int32.ofNat cs.length)) d25_17 AB (by rw [own_byl] <;> rfl) (pc' := 18) rfl ?_
    refine Run.callS (k' := 0) (n' := 0) (as := [(.int (Int32.ofNat cs.length)), (.int (Int32.ofNat cs.length))]) (rest := []) (con_own_min l Z a0 hw n0 h0 Z0 (Int32.ofNat cs.length) (Int32.ofNat cs.length) ) d25_18 (hw _ (List.mem_of_getElem? (i := 139) rfl)) (hw _ (List.mem_of_getElem? (i := 140) rfl)) (hw _ (List.mem_of_getElem? (i := 137) rfl)) (hw _ (List.mem_of_getElem? (i := 141) rfl)) (by decide) pd__II_I rfl rfl rfl (by decide) (by show (0 : Nat) + (2 + 11) + 0 ≤ _; decide) (by decide) (by decide) (by decide) (by decide) (pc' := 21) rfl ?_
    rintro _ _ ⟨_, rfl, rfl, rfl⟩
    show Run l Z n0 "java/lang/StringLatin1" jdk_43_method_22_code 4 (some .int) (⟨"java/lang/StringLatin1", "indexOf", "([BIII)I"⟩ : MethodName) ({ frames := 1, cells := 0, slots := 0, locals := 17 } : Room) _ 21 #[.val (.ref b), .val (.int ch), .val (.int (Int32.ofNat f)), .val (.int (Int32.ofNat cs.length))] [(.int (own_min (Int32.ofNat cs.length) (Int32.ofNat cs.length)))] h0 0 0
    rw [own_mm]
    refine Run.istoreN (l' := #[.val (.ref b), .val (.int ch), .val (.int (Int32.ofNat f)), .val (.int (Int32.ofNat cs.length))]) d25_21 rfl (pc' := 22) rfl ?_
    refine Run.iloadN d25_22 rfl (pc' := 23) rfl ?_
    refine Run.iloadN d25_23 rfl (pc' := 24) rfl ?_
    refine Run.icmp_lt d25_24 (by decide) (pc' := 29) (by decide) (pa := 27) rfl (fun hc24 => ?_) (fun hc24 => ?_)
    · refine Run.aloadN d25_29 rfl rfl (pc' := 30) rfl ?_
      refine Run.iloadN d25_30 rfl (pc' := 31) rfl ?_
      refine Run.iloadN d25_31 rfl (pc' := 32) rfl ?_
      refine Run.iloadN d25_32 rfl (pc' := 33) rfl ?_
      refine Run.callS (k' := 0) (n' := 0) (as := [(.ref b), (.int ch), (.int (Int32.ofNat f)), (.int (Int32.ofNat cs.length))]) (rest := []) (con_lic l Z a0 hw n0 h0 Z0  b cs ch f hp AB (Nat.le_of_lt ((own_lt (by omega) (by omega)).mp hc24)) hn hch gc gc2) d25_33 (hw _ (List.mem_of_getElem? (i := 142) rfl)) (hw _ (List.mem_of_getElem? (i := 143) rfl)) (hw _ (List.mem_of_getElem? (i := 24) rfl)) (hw _ (List.mem_of_getElem? (i := 144) rfl)) (by decide) pd___BIII_I rfl rfl rfl (by decide) (by show (0 : Nat) + (6 + 11) + 0 ≤ _; decide) (by decide) (by decide) (by decide) (by decide) (pc' := 36) rfl ?_
      rintro _ _ ⟨_, rfl, rfl, rfl⟩
      show Run l Z n0 "java/lang/StringLatin1" jdk_43_method_22_code 4 (some .int) (⟨"java/lang/StringLatin1", "indexOf", "([BIII)I"⟩ : MethodName) ({ frames := 1, cells := 0, slots := 0, locals := 17 } : Room) _ 36 #[.val (.ref b), .val (.int ch), .val (.int (Int32.ofNat f)), .val (.int (Int32.ofNat cs.length))] [(.int (own_ixf cs ch f))] h0 0 0
      exact Run.ireturn d25_36 rfl (by decide) (by decide) ⟨_, rfl, rfl, rfl⟩
    · refine Run.iconst (-1 : Int32) d25_27 (by decide) (pc' := 28) rfl ?_
      exact Run.ireturn d25_28 rfl (by decide) (by decide) ⟨_, rfl, congrArg Value.int (own_ixn hc24 (by omega) (by omega)), rfl⟩
  · exact absurd hc4 (own_canIch gc gc2)
theorem d24_0 : decode jdk_42_method_80_code 0 = .ok (.aload_n 0, 1) := by decide +kernel
theorem d24_1 : decode jdk_42_method_80_code 1 = .ok (.invokevirtual 492, 3) := by decide +kernel
theorem d24_4 : decode jdk_42_method_80_code 4 = .ok (.ifCond .eq 19, 3) := by decide +kernel
theorem d24_7 : decode jdk_42_method_80_code 7 = .ok (.aload_n 0, 1) := by decide +kernel
theorem d24_8 : decode jdk_42_method_80_code 8 = .ok (.getfield 9, 3) := by decide +kernel
theorem d24_11 : decode jdk_42_method_80_code 11 = .ok (.iload_n 1, 1) := by decide +kernel
theorem d24_12 : decode jdk_42_method_80_code 12 = .ok (.iload_n 2, 1) := by decide +kernel
theorem d24_13 : decode jdk_42_method_80_code 13 = .ok (.aload_n 0, 1) := by decide +kernel
theorem d24_14 : decode jdk_42_method_80_code 14 = .ok (.invokevirtual 505, 3) := by decide +kernel
theorem d24_17 : decode jdk_42_method_80_code 17 = .ok (.invokestatic 637, 3) := by decide +kernel
theorem d24_20 : decode jdk_42_method_80_code 20 = .ok (.goto 16, 3) := by decide +kernel
theorem d24_23 : decode jdk_42_method_80_code 23 = .ok (.aload_n 0, 1) := by decide +kernel
theorem d24_24 : decode jdk_42_method_80_code 24 = .ok (.getfield 9, 3) := by decide +kernel
theorem d24_27 : decode jdk_42_method_80_code 27 = .ok (.iload_n 1, 1) := by decide +kernel
theorem d24_28 : decode jdk_42_method_80_code 28 = .ok (.iload_n 2, 1) := by decide +kernel
theorem d24_29 : decode jdk_42_method_80_code 29 = .ok (.aload_n 0, 1) := by decide +kernel
theorem d24_30 : decode jdk_42_method_80_code 30 = .ok (.invokevirtual 505, 3) := by decide +kernel
theorem d24_33 : decode jdk_42_method_80_code 33 = .ok (.invokestatic 640, 3) := by decide +kernel
theorem d24_36 : decode jdk_42_method_80_code 36 = .ok (.ireturn, 1) := by decide +kernel
theorem pn_24 : plainFor (⟨"java/lang/String", "indexOf", "(II)I"⟩ : MethodName) = true := plainFor_of_name (by first | (simp [plainName, overriddenIn]; done) | decide +kernel)
theorem pd___I : parseMethodDescriptor "()I" = some ⟨[], some .int⟩ := by decide +kernel
theorem ef_con_ixi (m : MethodId) (t b : Addr) (cs : List Int32) (ch : Int32) (f : Nat) (cz : Int32)  : entryFrame m #[(.ref t), (.int ch), (.int (Int32.ofNat f))] 3 = mkF m 0 #[.val (.ref t), .val (.int ch), .val (.int (Int32.ofNat f))] [] := by first | (simp [entryFrame, mkF, argsToLocals, Value.category]; done) | rfl
set_option maxRecDepth 65536 in
set_option maxHeartbeats 40000000 in
theorem con_ixi (l : Launch) (Z : State) (a0 : Array Value) (hw : ∀ d ∈ tables_1, d.before a0 Z = true) (n0 : Nat) (h0 : Heap) (Z0 : n0 ≤ h0.size) (t b : Addr) (cs : List Int32) (ch : Int32) (f : Nat) (cz : Int32) (od0 : Old Z n0 h0) (SZ : Sta Z Z.heap "java/lang/String" "COMPACT_STRINGS" "Z" (.int cz)) (hcz : ¬ cz = 0) (E1 : Exa Z h0 t "java/lang/String") (FV : Fld Z h0 t "java/lang/String" "value" "[B" (.ref b)) (FC : Fld Z h0 t "java/lang/String" "coder" "B" (.int (own_coder cs))) (AB : Ary Z h0 b .byte (own_enc cs)) (hp : own_pfx cs = cs.length) (hf : f < 2 ^ 29) (hn : cs.length ≤ 24) (hch : own_chr cs) (gc : 0 ≤ ch.toInt) (gc2 : ¬ (255 : Int32) < ch) :
    Con l Z n0 (⟨"java/lang/String", "indexOf", "(II)I"⟩ : MethodName) jdk_42_method_80_code 3 (some .int) ({ frames := 2, cells := 0, slots := 0, locals := 32 } : Room) #[(.ref t), (.int ch), (.int (Int32.ofNat f))] h0 (Val (PV (.int (own_ixf cs ch f)) h0)) := by
  refine Con.of_run pn_24 (fun m => ef_con_ixi m t b cs ch f cz ) ?_
  refine Run.aloadN d24_0 rfl rfl (pc' := 1) rfl ?_
  refine Run.callV (k' := 0) (n' := 0) (a := t) (as := []) (rest := []) (con_isl l Z a0 hw n0 h0 Z0 t cs cz od0 SZ hcz FC ) E1 d24_1 (hw _ (List.mem_of_getElem? (i := 14) rfl)) (hw _ (List.mem_of_getElem? (i := 15) rfl)) (fun s hZ => notFace_of_selects (args := #[]) (mvT hZ (hw _ (List.mem_of_getElem? (i := 17) rfl)))) (hw _ (List.mem_of_getElem? (i := 17) rfl)) (hw _ (List.mem_of_getElem? (i := 16) rfl)) (hw _ (List.mem_of_getElem? (i := 1) rfl)) (hw _ (List.mem_of_getElem? (i := 18) rfl)) (by decide) pd___Z rfl rfl rfl (by decide) (by show (0 : Nat) + (1 + 11) + 0 ≤ _; decide) (by decide) (by decide) (by decide) (by decide) (pc' := 4) rfl ?_
  rintro _ _ ⟨_, rfl, rfl, rfl⟩
  show Run l Z n0 "java/lang/String" jdk_42_method_80_code 3 (some .int) (⟨"java/lang/String", "indexOf", "(II)I"⟩ : MethodName) ({ frames := 2, cells := 0, slots := 0, locals := 32 } : Room) _ 4 #[.val (.ref t), .val (.int ch), .val (.int (Int32.ofNat f))] [(.int (own_isl cs))] h0 0 0
  refine Run.if_eq d24_4 (by decide) (pc' := 23) (by decide) (pa := 7) rfl (fun hc4 => ?_) (fun hc4 => ?_)
  · exact absurd hp (own_isl0 hc4)
  · refine Run.aloadN d24_7 rfl rfl (pc' := 8) rfl ?_
    refine Run.getF d24_8 (host := "") (Or.inl (hw _ (List.mem_of_getElem? (i := 21) rfl))) Via.refl FV (pc' := 11) rfl ?_
    refine Run.iloadN d24_11 rfl (pc' := 12) rfl ?_
    refine Run.iloadN d24_12 rfl (pc' := 13) rfl ?_
    refine Run.aloadN d24_13 rfl rfl (pc' := 14) rfl ?_
    refine Run.callV (k' := 0) (n' := 0) (a := t) (as := []) (rest := [(.int (Int32.ofNat f)), (.int ch), (.ref b)]) (con_len l Z a0 hw n0 h0 Z0 t b cs cz od0 SZ hcz E1 FV FC AB hn) E1 d24_14 (hw _ (List.mem_of_getElem? (i := 75) rfl)) (hw _ (List.mem_of_getElem? (i := 76) rfl)) (fun s hZ => notFace_of_selects (args := #[]) (mvT hZ (hw _ (List.mem_of_getElem? (i := 78) rfl)))) (hw _ (List.mem_of_getElem? (i := 78) rfl)) (hw _ (List.mem_of_getElem? (i := 77) rfl)) (hw _ (List.mem_of_getElem? (i := 1) rfl)) (hw _ (List.mem_of_getElem? (i := 79) rfl)) (by decide) pd___I rfl rfl rfl (by decide) (by show (3 : Nat) + (1 + 11) + 13 ≤ _; decide) (by decide) (by decide) (by decide) (by decide) (pc' := 17) rfl ?_
    rintro _ _ ⟨_, rfl, rfl, rfl⟩
    show Run l Z n0 "java/lang/String" jdk_42_method_80_code 3 (some .int) (⟨"java/lang/String", "indexOf", "(II)I"⟩ : MethodName) ({ frames := 2, cells := 0, slots := 0, locals := 32 } : Room) _ 17 #[.val (.ref t), .val (.int ch), .val (.int (Int32.ofNat f))] [(.int (Int32.ofNat cs.length)), (.int (Int32.ofNat f)), (.int ch), (.ref b)] h0 0 0
    refine Run.callS (k' := 0) (n' := 0) (as := [(.ref b), (.int ch), (.int (Int32.ofNat f)), (.int (Int32.ofNat cs.length))]) (rest := []) (con_lio l Z a0 hw n0 h0 Z0  b cs ch f hp (own_encP hp ▸ AB) hf hn hch gc gc2) d24_17 (hw _ (List.mem_of_getElem? (i := 129) rfl)) (hw _ (List.mem_of_getElem? (i := 130) rfl)) (hw _ (List.mem_of_getElem? (i := 24) rfl)) (hw _ (List.mem_of_getElem? (i := 131) rfl)) (by decide) pd___BIII_I rfl rfl rfl (by decide) (by show (0 : Nat) + (4 + 11) + 17 ≤ _; decide) (by decide) (by decide) (by decide) (by decide) (pc' := 20) rfl ?_
    rintro _ _ ⟨_, rfl, rfl, rfl⟩
    show Run l Z n0 "java/lang/String" jdk_42_method_80_code 3 (some .int) (⟨"java/lang/String", "indexOf", "(II)I"⟩ : MethodName) ({ frames := 2, cells := 0, slots := 0, locals := 32 } : Room) _ 20 #[.val (.ref t), .val (.int ch), .val (.int (Int32.ofNat f))] [(.int (own_ixf cs ch f))] h0 0 0
    refine Run.goto d24_20 (by decide) (pc' := 36) (by decide) ?_
    exact Run.ireturn d24_36 rfl (by decide) (by decide) ⟨_, rfl, rfl, rfl⟩
def own_mis (cs ds : List Int32) (f : Nat) : Nat → Nat → Int32
  | 0, _ => -1
  | t + 1, i => if cs.getD (f + i) 0 = ds.getD i 0 then own_mis cs ds f t (i + 1) else Int32.ofNat i
def own_sw (cs ds : List Int32) (f : Nat) : Int32 := if cs.length < f + ds.length then 0 else if own_mis cs ds f ds.length 0 < 0 then 1 else 0
theorem d17_0 : decode jdk_48_method_14_code 0 = .ok (.iconst 0, 1) := by decide +kernel
theorem d17_1 : decode jdk_48_method_14_code 1 = .ok (.istore 5, 2) := by decide +kernel
theorem d17_3 : decode jdk_48_method_14_code 3 = .ok (.iload 4, 2) := by decide +kernel
theorem d17_5 : decode jdk_48_method_14_code 5 = .ok (.bipush 7, 2) := by decide +kernel
theorem d17_7 : decode jdk_48_method_14_code 7 = .ok (.if_icmp .le 63, 3) := by decide +kernel
theorem d17_70 : decode jdk_48_method_14_code 70 = .ok (.iload 5, 2) := by decide +kernel
theorem d17_72 : decode jdk_48_method_14_code 72 = .ok (.iload 4, 2) := by decide +kernel
theorem d17_74 : decode jdk_48_method_14_code 74 = .ok (.if_icmp .ge 27, 3) := by decide +kernel
theorem d17_77 : decode jdk_48_method_14_code 77 = .ok (.aload_n 0, 1) := by decide +kernel
theorem d17_78 : decode jdk_48_method_14_code 78 = .ok (.iload_n 1, 1) := by decide +kernel
theorem d17_79 : decode jdk_48_method_14_code 79 = .ok (.iload 5, 2) := by decide +kernel
theorem d17_81 : decode jdk_48_method_14_code 81 = .ok (.iadd, 1) := by decide +kernel
theorem d17_82 : decode jdk_48_method_14_code 82 = .ok (.baload, 1) := by decide +kernel
theorem d17_83 : decode jdk_48_method_14_code 83 = .ok (.aload_n 2, 1) := by decide +kernel
theorem d17_84 : decode jdk_48_method_14_code 84 = .ok (.iload_n 3, 1) := by decide +kernel
theorem d17_85 : decode jdk_48_method_14_code 85 = .ok (.iload 5, 2) := by decide +kernel
theorem d17_87 : decode jdk_48_method_14_code 87 = .ok (.iadd, 1) := by decide +kernel
theorem d17_88 : decode jdk_48_method_14_code 88 = .ok (.baload, 1) := by decide +kernel
theorem d17_89 : decode jdk_48_method_14_code 89 = .ok (.if_icmp .eq 6, 3) := by decide +kernel
theorem d17_92 : decode jdk_48_method_14_code 92 = .ok (.iload 5, 2) := by decide +kernel
theorem d17_94 : decode jdk_48_method_14_code 94 = .ok (.ireturn, 1) := by decide +kernel
theorem d17_95 : decode jdk_48_method_14_code 95 = .ok (.iinc 5 1, 3) := by decide +kernel
theorem d17_98 : decode jdk_48_method_14_code 98 = .ok (.goto (-28), 3) := by decide +kernel
theorem d17_101 : decode jdk_48_method_14_code 101 = .ok (.iconst (-1), 1) := by decide +kernel
theorem d17_102 : decode jdk_48_method_14_code 102 = .ok (.ireturn, 1) := by decide +kernel
theorem pn_17 : plainFor (⟨"jdk/internal/util/ArraysSupport", "mismatch", "([BI[BII)I"⟩ : MethodName) = true := plainFor_of_name (by first | (simp [plainName, overriddenIn]; done) | decide +kernel)
theorem ef_con_mis (m : MethodId) (b d : Addr) (cs ds : List Int32) (f : Nat)  : entryFrame m #[(.ref b), (.int (Int32.ofNat f)), (.ref d), (.int (0 : Int32)), (.int (Int32.ofNat ds.length))] 8 = mkF m 0 #[.val (.ref b), .val (.int (Int32.ofNat f)), .val (.ref d), .val (.int (0 : Int32)), .val (.int (Int32.ofNat ds.length)), .unset, .unset, .unset] [] := by first | (simp [entryFrame, mkF, argsToLocals, Value.category]; done) | rfl
set_option maxRecDepth 65536 in
set_option maxHeartbeats 40000000 in
theorem con_mis (l : Launch) (Z : State) (a0 : Array Value) (hw : ∀ d ∈ tables_1, d.before a0 Z = true) (n0 : Nat) (h0 : Heap) (Z0 : n0 ≤ h0.size) (b d : Addr) (cs ds : List Int32) (f : Nat) (AX : Ary Z h0 b .byte (own_by cs)) (AY : Ary Z h0 d .byte (own_by ds)) (hf : f + ds.length ≤ cs.length) (h7 : ds.length ≤ 7) (hn : cs.length ≤ 24) (hp : own_pfx cs = cs.length) (hch : own_chr cs) (hp2 : own_pfx ds = ds.length) (hch2 : own_chr ds) :
    Con l Z n0 (⟨"jdk/internal/util/ArraysSupport", "mismatch", "([BI[BII)I"⟩ : MethodName) jdk_48_method_14_code 8 (some .int) ({ frames := 0, cells := 0, slots := 0, locals := 0 } : Room) #[(.ref b), (.int (Int32.ofNat f)), (.ref d), (.int (0 : Int32)), (.int (Int32.ofNat ds.length))] h0 (Val (PV (.int (own_mis cs ds f ds.length 0)) h0)) := by
  refine Con.of_run pn_17 (fun m => ef_con_mis m b d cs ds f ) ?_
  refine Run.iconst (0 : Int32) d17_0 (by decide) (pc' := 1) rfl ?_
  refine Run.istore (l' := #[.val (.ref b), .val (.int (Int32.ofNat f)), .val (.ref d), .val (.int (0 : Int32)), .val (.int (Int32.ofNat ds.length)), .val (.int (0 : Int32)), .unset, .unset]) d17_1 rfl (pc' := 3) rfl ?_
  refine Run.iload d17_3 rfl (pc' := 5) rfl ?_
  refine Run.bipush (7 : Int32) d17_5 (by decide) (pc' := 7) rfl ?_
  refine Run.icmp_le d17_7 (by decide) (pc' := 70) (by decide) (pa := 10) rfl (fun hc7 => ?_) (fun hc7 => ?_)
  · have loop : ∀ t_ i : Nat, t_ + i = ds.length → own_mis cs ds f t_ i = own_mis cs ds f ds.length 0 → Run l Z n0 "jdk/internal/util/ArraysSupport" jdk_48_method_14_code 8 (some .int) (⟨"jdk/internal/util/ArraysSupport", "mismatch", "([BI[BII)I"⟩ : MethodName) ({ frames := 0, cells := 0, slots := 0, locals := 0 } : Room) (Val (PV (.int (own_mis cs ds f ds.length 0)) h0)) 70 #[.val (.ref b), .val (.int (Int32.ofNat f)), .val (.ref d), .val (.int (0 : Int32)), .val (.int (Int32.ofNat ds.length)), .val (.int (Int32.ofNat i)), .unset, .unset] [] h0 0 0 := by
      intro t_
      induction t_ with
      | zero =>
        intro i hti hr
        refine Run.iload d17_70 rfl (pc' := 72) rfl ?_
        refine Run.iload d17_72 rfl (pc' := 74) rfl ?_
        refine Run.icmp_ge d17_74 (by decide) (pc' := 101) (by decide) (pa := 77) rfl (fun hc74 => ?_) (fun hc74 => ?_)
        · refine Run.iconst (-1 : Int32) d17_101 (by decide) (pc' := 102) rfl ?_
          exact Run.ireturn d17_102 rfl (by decide) (by decide) ⟨_, rfl, congrArg Value.int (by rw [← hr]; rfl), rfl⟩
        · exact absurd ((own_lt (by omega) (by omega)).mp hc74) (by omega)
      | succ t_ ih =>
        intro i hti hr
        have hil : i < ds.length := by omega
        have hil2 : f + i < cs.length := by omega
        refine Run.iload d17_70 rfl (pc' := 72) rfl ?_
        refine Run.iload d17_72 rfl (pc' := 74) rfl ?_
        refine Run.icmp_ge d17_74 (by decide) (pc' := 101) (by decide) (pa := 77) rfl (fun hc74 => ?_) (fun hc74 => ?_)
        · exact absurd ((own_lt (by omega) (by omega)).mpr (by omega)) hc74
        · refine Run.aloadN d17_77 rfl rfl (pc' := 78) rfl ?_
          refine Run.iloadN d17_78 rfl (pc' := 79) rfl ?_
          refine Run.iload d17_79 rfl (pc' := 81) rfl ?_
          refine Run.iadd d17_81 (pc' := 82) rfl ?_
          rw [own_addn f i]
          refine Run.baload (i := (f + i)) (v := (.int (nar .byte (cs.getD (f + i) 0)))) d17_82 AX (own_ofn (by omega)) (own_by_get hil2) (pc' := 83) rfl ?_
          refine Run.aloadN d17_83 rfl rfl (pc' := 84) rfl ?_
          refine Run.iloadN d17_84 rfl (pc' := 85) rfl ?_
          refine Run.iload d17_85 rfl (pc' := 87) rfl ?_
          refine Run.iadd d17_87 (pc' := 88) rfl ?_
          rw [show (0 : Int32) + Int32.ofNat i = Int32.ofNat i from Int32.zero_add _]
          refine Run.baload (i := i) (v := (.int (nar .byte (ds.getD i 0)))) d17_88 AY (own_ofn (by omega)) (own_by_get hil) (pc' := 89) rfl ?_
          refine Run.icmp_eq d17_89 (by decide) (pc' := 95) (by decide) (pa := 92) rfl (fun hc89 => ?_) (fun hc89 => ?_)
          · refine Run.iinc (1 : Int32) #[.val (.ref b), .val (.int (Int32.ofNat f)), .val (.ref d), .val (.int (0 : Int32)), .val (.int (Int32.ofNat ds.length)), .val (.int ((Int32.ofNat i) + (1 : Int32))), .unset, .unset] d17_95 (by decide) rfl rfl (pc' := 98) rfl ?_
            refine Run.goto d17_98 (by decide) (pc' := 70) (by decide) ?_
            rw [own_inc]
            exact ih (i + 1) (by omega) (by rw [← hr]; exact (if_pos ((own_nbe (own_chrD hch hil2).1 (own_pfx_all hp hil2) (own_chrD hch2 hil).1 (own_pfx_all hp2 hil)).mp hc89)).symm)
          · refine Run.iload d17_92 rfl (pc' := 94) rfl ?_
            exact Run.ireturn d17_94 rfl (by decide) (by decide) ⟨_, rfl, congrArg Value.int (by rw [← hr]; exact if_neg (fun z => hc89 ((own_nbe (own_chrD hch hil2).1 (own_pfx_all hp hil2) (own_chrD hch2 hil).1 (own_pfx_all hp2 hil)).mpr z))), rfl⟩
    exact loop ds.length 0 (by omega) rfl
  · exact absurd ((own_lt (i := 7) (by decide) (by omega)).mp hc7) (by omega)
theorem d14_0 : decode jdk_42_method_75_code 0 = .ok (.iload_n 2, 1) := by decide +kernel
theorem d14_1 : decode jdk_42_method_75_code 1 = .ok (.ifCond .lt 16, 3) := by decide +kernel
theorem d14_4 : decode jdk_42_method_75_code 4 = .ok (.iload_n 2, 1) := by decide +kernel
theorem d14_5 : decode jdk_42_method_75_code 5 = .ok (.aload_n 0, 1) := by decide +kernel
theorem d14_6 : decode jdk_42_method_75_code 6 = .ok (.invokevirtual 505, 3) := by decide +kernel
theorem d14_9 : decode jdk_42_method_75_code 9 = .ok (.aload_n 1, 1) := by decide +kernel
theorem d14_10 : decode jdk_42_method_75_code 10 = .ok (.invokevirtual 505, 3) := by decide +kernel
theorem d14_13 : decode jdk_42_method_75_code 13 = .ok (.isub, 1) := by decide +kernel
theorem d14_14 : decode jdk_42_method_75_code 14 = .ok (.if_icmp .le 5, 3) := by decide +kernel
theorem d14_17 : decode jdk_42_method_75_code 17 = .ok (.iconst 0, 1) := by decide +kernel
theorem d14_18 : decode jdk_42_method_75_code 18 = .ok (.ireturn, 1) := by decide +kernel
theorem d14_19 : decode jdk_42_method_75_code 19 = .ok (.aload_n 0, 1) := by decide +kernel
theorem d14_20 : decode jdk_42_method_75_code 20 = .ok (.getfield 9, 3) := by decide +kernel
theorem d14_23 : decode jdk_42_method_75_code 23 = .ok (.astore_n 3, 1) := by decide +kernel
theorem d14_24 : decode jdk_42_method_75_code 24 = .ok (.aload_n 1, 1) := by decide +kernel
theorem d14_25 : decode jdk_42_method_75_code 25 = .ok (.getfield 9, 3) := by decide +kernel
theorem d14_28 : decode jdk_42_method_75_code 28 = .ok (.astore 4, 2) := by decide +kernel
theorem d14_30 : decode jdk_42_method_75_code 30 = .ok (.iconst 0, 1) := by decide +kernel
theorem d14_31 : decode jdk_42_method_75_code 31 = .ok (.istore 5, 2) := by decide +kernel
theorem d14_33 : decode jdk_42_method_75_code 33 = .ok (.aload 4, 2) := by decide +kernel
theorem d14_35 : decode jdk_42_method_75_code 35 = .ok (.arraylength, 1) := by decide +kernel
theorem d14_36 : decode jdk_42_method_75_code 36 = .ok (.istore 6, 2) := by decide +kernel
theorem d14_38 : decode jdk_42_method_75_code 38 = .ok (.aload_n 0, 1) := by decide +kernel
theorem d14_39 : decode jdk_42_method_75_code 39 = .ok (.invokevirtual 335, 3) := by decide +kernel
theorem d14_42 : decode jdk_42_method_75_code 42 = .ok (.istore 7, 2) := by decide +kernel
theorem d14_44 : decode jdk_42_method_75_code 44 = .ok (.iload 7, 2) := by decide +kernel
theorem d14_46 : decode jdk_42_method_75_code 46 = .ok (.aload_n 1, 1) := by decide +kernel
theorem d14_47 : decode jdk_42_method_75_code 47 = .ok (.invokevirtual 335, 3) := by decide +kernel
theorem d14_50 : decode jdk_42_method_75_code 50 = .ok (.if_icmp .ne 32, 3) := by decide +kernel
theorem d14_53 : decode jdk_42_method_75_code 53 = .ok (.iload 7, 2) := by decide +kernel
theorem d14_55 : decode jdk_42_method_75_code 55 = .ok (.iconst 1, 1) := by decide +kernel
theorem d14_56 : decode jdk_42_method_75_code 56 = .ok (.if_icmp .ne 7, 3) := by decide +kernel
theorem d14_59 : decode jdk_42_method_75_code 59 = .ok (.iload_n 2, 1) := by decide +kernel
theorem d14_60 : decode jdk_42_method_75_code 60 = .ok (.iconst 1, 1) := by decide +kernel
theorem d14_61 : decode jdk_42_method_75_code 61 = .ok (.ishl, 1) := by decide +kernel
theorem d14_62 : decode jdk_42_method_75_code 62 = .ok (.istore_n 2, 1) := by decide +kernel
theorem d14_63 : decode jdk_42_method_75_code 63 = .ok (.aload_n 3, 1) := by decide +kernel
theorem d14_64 : decode jdk_42_method_75_code 64 = .ok (.iload_n 2, 1) := by decide +kernel
theorem d14_65 : decode jdk_42_method_75_code 65 = .ok (.aload 4, 2) := by decide +kernel
theorem d14_67 : decode jdk_42_method_75_code 67 = .ok (.iconst 0, 1) := by decide +kernel
theorem d14_68 : decode jdk_42_method_75_code 68 = .ok (.iload 6, 2) := by decide +kernel
theorem d14_70 : decode jdk_42_method_75_code 70 = .ok (.invokestatic 607, 3) := by decide +kernel
theorem d14_73 : decode jdk_42_method_75_code 73 = .ok (.ifCond .ge 7, 3) := by decide +kernel
theorem d14_76 : decode jdk_42_method_75_code 76 = .ok (.iconst 1, 1) := by decide +kernel
theorem d14_77 : decode jdk_42_method_75_code 77 = .ok (.goto 4, 3) := by decide +kernel
theorem d14_80 : decode jdk_42_method_75_code 80 = .ok (.iconst 0, 1) := by decide +kernel
theorem d14_81 : decode jdk_42_method_75_code 81 = .ok (.ireturn, 1) := by decide +kernel
theorem pn_14 : plainFor (⟨"java/lang/String", "startsWith", "(Ljava/lang/String;I)Z"⟩ : MethodName) = true := plainFor_of_name (by first | (simp [plainName, overriddenIn]; done) | decide +kernel)
theorem pd___BI_BII_I : parseMethodDescriptor "([BI[BII)I" = some ⟨[(.array .byte), .int, (.array .byte), .int, .int], some .int⟩ := by decide +kernel
theorem ef_con_swi (m : MethodId) (t b u d : Addr) (cs ds : List Int32) (f : Nat) (cz : Int32)  : entryFrame m #[(.ref t), (.ref u), (.int (Int32.ofNat f))] 8 = mkF m 0 #[.val (.ref t), .val (.ref u), .val (.int (Int32.ofNat f)), .unset, .unset, .unset, .unset, .unset] [] := by first | (simp [entryFrame, mkF, argsToLocals, Value.category]; done) | rfl
set_option maxRecDepth 65536 in
set_option maxHeartbeats 40000000 in
theorem con_swi (l : Launch) (Z : State) (a0 : Array Value) (hw : ∀ d ∈ tables_1, d.before a0 Z = true) (n0 : Nat) (h0 : Heap) (Z0 : n0 ≤ h0.size) (t b u d : Addr) (cs ds : List Int32) (f : Nat) (cz : Int32) (od0 : Old Z n0 h0) (SZ : Sta Z Z.heap "java/lang/String" "COMPACT_STRINGS" "Z" (.int cz)) (hcz : ¬ cz = 0) (E1 : Exa Z h0 t "java/lang/String") (FV : Fld Z h0 t "java/lang/String" "value" "[B" (.ref b)) (FC : Fld Z h0 t "java/lang/String" "coder" "B" (.int (own_coder cs))) (AB : Ary Z h0 b .byte (own_enc cs)) (E2 : Exa Z h0 u "java/lang/String") (FV2 : Fld Z h0 u "java/lang/String" "value" "[B" (.ref d)) (FC2 : Fld Z h0 u "java/lang/String" "coder" "B" (.int (own_coder ds))) (AB2 : Ary Z h0 d .byte (own_enc ds)) (hf : f < 2 ^ 29) (h7 : ds.length ≤ 7) (hn : cs.length ≤ 24) (hp : own_pfx cs = cs.length) (hch : own_chr cs) (hp2 : own_pfx ds = ds.length) (hch2 : own_chr ds) :
    Con l Z n0 (⟨"java/lang/String", "startsWith", "(Ljava/lang/String;I)Z"⟩ : MethodName) jdk_42_method_75_code 8 (some .boolean) ({ frames := 2, cells := 0, slots := 0, locals := 27 } : Room) #[(.ref t), (.ref u), (.int (Int32.ofNat f))] h0 (Val (PV (.int (own_sw cs ds f)) h0)) := by
  refine Con.of_run pn_14 (fun m => ef_con_swi m t b u d cs ds f cz ) ?_
  refine Run.iloadN d14_0 rfl (pc' := 1) rfl ?_
  refine Run.if_lt d14_1 (by decide) (pc' := 17) (by decide) (pa := 4) rfl (fun hc1 => ?_) (fun hc1 => ?_)
  · exact absurd hc1 (own_nge (by omega))
  · refine Run.iloadN d14_4 rfl (pc' := 5) rfl ?_
    refine Run.aloadN d14_5 rfl rfl (pc' := 6) rfl ?_
    refine Run.callV (k' := 0) (n' := 0) (a := t) (as := []) (rest := [(.int (Int32.ofNat f))]) (con_len l Z a0 hw n0 h0 Z0 t b cs cz od0 SZ hcz E1 FV FC AB hn) E1 d14_6 (hw _ (List.mem_of_getElem? (i := 75) rfl)) (hw _ (List.mem_of_getElem? (i := 76) rfl)) (fun s hZ => notFace_of_selects (args := #[]) (mvT hZ (hw _ (List.mem_of_getElem? (i := 78) rfl)))) (hw _ (List.mem_of_getElem? (i := 78) rfl)) (hw _ (List.mem_of_getElem? (i := 77) rfl)) (hw _ (List.mem_of_getElem? (i := 1) rfl)) (hw _ (List.mem_of_getElem? (i := 79) rfl)) (by decide) pd___I rfl rfl rfl (by decide) (by show (1 : Nat) + (1 + 11) + 13 ≤ _; decide) (by decide) (by decide) (by decide) (by decide) (pc' := 9) rfl ?_
    rintro _ _ ⟨_, rfl, rfl, rfl⟩
    show Run l Z n0 "java/lang/String" jdk_42_method_75_code 8 (some .boolean) (⟨"java/lang/String", "startsWith", "(Ljava/lang/String;I)Z"⟩ : MethodName) ({ frames := 2, cells := 0, slots := 0, locals := 27 } : Room) _ 9 #[.val (.ref t), .val (.ref u), .val (.int (Int32.ofNat f)), .unset, .unset, .unset, .unset, .unset] [(.int (Int32.ofNat cs.length)), (.int (Int32.ofNat f))] h0 0 0
    refine Run.aloadN d14_9 rfl rfl (pc' := 10) rfl ?_
    refine Run.callV (k' := 0) (n' := 0) (a := u) (as := []) (rest := [(.int (Int32.ofNat cs.length)), (.int (Int32.ofNat f))]) (con_len l Z a0 hw n0 h0 Z0 u d ds cz od0 SZ hcz E2 FV2 FC2 AB2 (by omega)) E2 d14_10 (hw _ (List.mem_of_getElem? (i := 75) rfl)) (hw _ (List.mem_of_getElem? (i := 76) rfl)) (fun s hZ => notFace_of_selects (args := #[]) (mvT hZ (hw _ (List.mem_of_getElem? (i := 78) rfl)))) (hw _ (List.mem_of_getElem? (i := 78) rfl)) (hw _ (List.mem_of_getElem? (i := 77) rfl)) (hw _ (List.mem_of_getElem? (i := 1) rfl)) (hw _ (List.mem_of_getElem? (i := 79) rfl)) (by decide) pd___I rfl rfl rfl (by decide) (by show (2 : Nat) + (1 + 11) + 13 ≤ _; decide) (by decide) (by decide) (by decide) (by decide) (pc' := 13) rfl ?_
    rintro _ _ ⟨_, rfl, rfl, rfl⟩
    show Run l Z n0 "java/lang/String" jdk_42_method_75_code 8 (some .boolean) (⟨"java/lang/String", "startsWith", "(Ljava/lang/String;I)Z"⟩ : MethodName) ({ frames := 2, cells := 0, slots := 0, locals := 27 } : Room) _ 13 #[.val (.ref t), .val (.ref u), .val (.int (Int32.ofNat f)), .unset, .unset, .unset, .unset, .unset] [(.int (Int32.ofNat ds.length)), (.int (Int32.ofNat cs.length)), (.int (Int32.ofNat f))] h0 0 0
    refine Run.isub d14_13 (pc' := 14) rfl ?_
    refine Run.icmp_le d14_14 (by decide) (pc' := 19) (by decide) (pa := 17) rfl (fun hc14 => ?_) (fun hc14 => ?_)
    · refine Run.aloadN d14_19 rfl rfl (pc' := 20) rfl ?_
      refine Run.getF d14_20 (host := "") (Or.inl (hw _ (List.mem_of_getElem? (i := 21) rfl))) Via.refl FV (pc' := 23) rfl ?_
      refine Run.astoreN (l' := #[.val (.ref t), .val (.ref u), .val (.int (Int32.ofNat f)), .val (.ref b), .unset, .unset, .unset, .unset]) d14_23 rfl rfl (pc' := 24) rfl ?_
      refine Run.aloadN d14_24 rfl rfl (pc' := 25) rfl ?_
      refine Run.getF d14_25 (host := "") (Or.inl (hw _ (List.mem_of_getElem? (i := 21) rfl))) Via.refl FV2 (pc' := 28) rfl ?_
      refine Run.astore (l' := #[.val (.ref t), .val (.ref u), .val (.int (Int32.ofNat f)), .val (.ref b), .val (.ref d), .unset, .unset, .unset]) d14_28 rfl rfl (pc' := 30) rfl ?_
      refine Run.iconst (0 : Int32) d14_30 (by decide) (pc' := 31) rfl ?_
      refine Run.istore (l' := #[.val (.ref t), .val (.ref u), .val (.int (Int32.ofNat f)), .val (.ref b), .val (.ref d), .val (.int (0 : Int32)), .unset, .unset]) d14_31 rfl (pc' := 33) rfl ?_
      refine Run.aload d14_33 rfl rfl (pc' := 35) rfl ?_
      refine Run.alen (z := (Int32.ofNat ds.length)) d14_35 AB2 (by rw [own_encl hp2] <;> rfl) (pc' := 36) rfl ?_
      refine Run.istore (l' := #[.val (.ref t), .val (.ref u), .val (.int (Int32.ofNat f)), .val (.ref b), .val (.ref d), .val (.int (0 : Int32)), .val (.int (Int32.ofNat ds.length)), .unset]) d14_36 rfl (pc' := 38) rfl ?_
      refine Run.aloadN d14_38 rfl rfl (pc' := 39) rfl ?_
      refine Run.callV (k' := 0) (n' := 0) (a := t) (as := []) (rest := []) (con_cod l Z a0 hw n0 h0 Z0 t cs cz od0 SZ hcz FC ) E1 d14_39 (hw _ (List.mem_of_getElem? (i := 80) rfl)) (hw _ (List.mem_of_getElem? (i := 81) rfl)) (fun s hZ => notFace_of_selects (args := #[]) (mvT hZ (hw _ (List.mem_of_getElem? (i := 83) rfl)))) (hw _ (List.mem_of_getElem? (i := 83) rfl)) (hw _ (List.mem_of_getElem? (i := 82) rfl)) (hw _ (List.mem_of_getElem? (i := 1) rfl)) (hw _ (List.mem_of_getElem? (i := 84) rfl)) (by decide) pd___B rfl rfl rfl (by decide) (by show (0 : Nat) + (1 + 11) + 0 ≤ _; decide) (by decide) (by decide) (by decide) (by decide) (pc' := 42) rfl ?_
      rintro _ _ ⟨_, rfl, rfl, rfl⟩
      show Run l Z n0 "java/lang/String" jdk_42_method_75_code 8 (some .boolean) (⟨"java/lang/String", "startsWith", "(Ljava/lang/String;I)Z"⟩ : MethodName) ({ frames := 2, cells := 0, slots := 0, locals := 27 } : Room) _ 42 #[.val (.ref t), .val (.ref u), .val (.int (Int32.ofNat f)), .val (.ref b), .val (.ref d), .val (.int (0 : Int32)), .val (.int (Int32.ofNat ds.length)), .unset] [(.int (own_coder cs))] h0 0 0
      refine Run.istore (l' := #[.val (.ref t), .val (.ref u), .val (.int (Int32.ofNat f)), .val (.ref b), .val (.ref d), .val (.int (0 : Int32)), .val (.int (Int32.ofNat ds.length)), .val (.int (own_coder cs))]) d14_42 rfl (pc' := 44) rfl ?_
      refine Run.iload d14_44 rfl (pc' := 46) rfl ?_
      refine Run.aloadN d14_46 rfl rfl (pc' := 47) rfl ?_
      refine Run.callV (k' := 0) (n' := 0) (a := u) (as := []) (rest := [(.int (own_coder cs))]) (con_cod l Z a0 hw n0 h0 Z0 u ds cz od0 SZ hcz FC2 ) E2 d14_47 (hw _ (List.mem_of_getElem? (i := 80) rfl)) (hw _ (List.mem_of_getElem? (i := 81) rfl)) (fun s hZ => notFace_of_selects (args := #[]) (mvT hZ (hw _ (List.mem_of_getElem? (i := 83) rfl)))) (hw _ (List.mem_of_getElem? (i := 83) rfl)) (hw _ (List.mem_of_getElem? (i := 82) rfl)) (hw _ (List.mem_of_getElem? (i := 1) rfl)) (hw _ (List.mem_of_getElem? (i := 84) rfl)) (by decide) pd___B rfl rfl rfl (by decide) (by show (1 : Nat) + (1 + 11) + 0 ≤ _; decide) (by decide) (by decide) (by decide) (by decide) (pc' := 50) rfl ?_
      rintro _ _ ⟨_, rfl, rfl, rfl⟩
      show Run l Z n0 "java/lang/String" jdk_42_method_75_code 8 (some .boolean) (⟨"java/lang/String", "startsWith", "(Ljava/lang/String;I)Z"⟩ : MethodName) ({ frames := 2, cells := 0, slots := 0, locals := 27 } : Room) _ 50 #[.val (.ref t), .val (.ref u), .val (.int (Int32.ofNat f)), .val (.ref b), .val (.ref d), .val (.int (0 : Int32)), .val (.int (Int32.ofNat ds.length)), .val (.int (own_coder cs))] [(.int (own_coder ds)), (.int (own_coder cs))] h0 0 0
      refine Run.icmp_ne d14_50 (by decide) (pc' := 82) (by decide) (pa := 53) rfl (fun hc50 => ?_) (fun hc50 => ?_)
      · exact absurd (own_czc hp hp2) hc50
      · refine Run.iload d14_53 rfl (pc' := 55) rfl ?_
        refine Run.iconst (1 : Int32) d14_55 (by decide) (pc' := 56) rfl ?_
        refine Run.icmp_ne d14_56 (by decide) (pc' := 63) (by decide) (pa := 59) rfl (fun hc56 => ?_) (fun hc56 => ?_)
        · refine Run.aloadN d14_63 rfl rfl (pc' := 64) rfl ?_
          refine Run.iloadN d14_64 rfl (pc' := 65) rfl ?_
          refine Run.aload d14_65 rfl rfl (pc' := 67) rfl ?_
          refine Run.iconst (0 : Int32) d14_67 (by decide) (pc' := 68) rfl ?_
          refine Run.iload d14_68 rfl (pc' := 70) rfl ?_
          refine Run.callS (k' := 0) (n' := 0) (as := [(.ref b), (.int (Int32.ofNat f)), (.ref d), (.int (0 : Int32)), (.int (Int32.ofNat ds.length))]) (rest := []) (con_mis l Z a0 hw n0 h0 Z0  b d cs ds f (own_encP hp ▸ AB) (own_encP hp2 ▸ AB2) (Nat.le_of_not_lt (fun z => hc14 ((own_swc (by omega) (by omega) (by omega)).mpr z))) h7 hn hp hch hp2 hch2) d14_70 (hw _ (List.mem_of_getElem? (i := 85) rfl)) (hw _ (List.mem_of_getElem? (i := 86) rfl)) (hw _ (List.mem_of_getElem? (i := 87) rfl)) (hw _ (List.mem_of_getElem? (i := 88) rfl)) (by decide) pd___BI_BII_I rfl rfl rfl (by decide) (by show (0 : Nat) + (8 + 11) + 0 ≤ _; decide) (by decide) (by decide) (by decide) (by decide) (pc' := 73) rfl ?_
          rintro _ _ ⟨_, rfl, rfl, rfl⟩
          show Run l Z n0 "java/lang/String" jdk_42_method_75_code 8 (some .boolean) (⟨"java/lang/String", "startsWith", "(Ljava/lang/String;I)Z"⟩ : MethodName) ({ frames := 2, cells := 0, slots := 0, locals := 27 } : Room) _ 73 #[.val (.ref t), .val (.ref u), .val (.int (Int32.ofNat f)), .val (.ref b), .val (.ref d), .val (.int (0 : Int32)), .val (.int (Int32.ofNat ds.length)), .val (.int (own_coder cs))] [(.int (own_mis cs ds f ds.length 0))] h0 0 0
          refine Run.if_ge d14_73 (by decide) (pc' := 80) (by decide) (pa := 76) rfl (fun hc73 => ?_) (fun hc73 => ?_)
          · refine Run.iconst (0 : Int32) d14_80 (by decide) (pc' := 81) rfl ?_
            exact Run.nreturn d14_81 (ty := .boolean) rfl (by simp) (by decide) (by decide) ⟨_, rfl, congrArg Value.int (by unfold own_sw; rw [if_neg (fun z => hc14 ((own_swc (by omega) (by omega) (by omega)).mpr z)), if_neg hc73]; rfl), rfl⟩
          · refine Run.iconst (1 : Int32) d14_76 (by decide) (pc' := 77) rfl ?_
            refine Run.goto d14_77 (by decide) (pc' := 81) (by decide) ?_
            exact Run.nreturn d14_81 (ty := .boolean) rfl (by simp) (by decide) (by decide) ⟨_, rfl, congrArg Value.int (by unfold own_sw; rw [if_neg (fun z => hc14 ((own_swc (by omega) (by omega) (by omega)).mpr z)), if_pos hc73]; rfl), rfl⟩
        · exact absurd hc56 (own_cz1 hp)
    · refine Run.iconst (0 : Int32) d14_17 (by decide) (pc' := 18) rfl ?_
      exact Run.nreturn d14_18 (ty := .boolean) rfl (by simp) (by decide) (by decide) ⟨_, rfl, congrArg Value.int (by unfold own_sw; rw [if_pos ((own_swc (by omega) (by omega) (by omega)).mp hc14)]; rfl), rfl⟩
theorem own_swn (cs ds : List Int32) (f : Nat) : nar .boolean (own_sw cs ds f) = own_sw cs ds f := by
  unfold own_sw
  repeat' split
  all_goals rfl
theorem d13_0 : decode jdk_42_method_76_code 0 = .ok (.aload_n 0, 1) := by decide +kernel
theorem d13_1 : decode jdk_42_method_76_code 1 = .ok (.aload_n 1, 1) := by decide +kernel
theorem d13_2 : decode jdk_42_method_76_code 2 = .ok (.iconst 0, 1) := by decide +kernel
theorem d13_3 : decode jdk_42_method_76_code 3 = .ok (.invokevirtual 624, 3) := by decide +kernel
theorem d13_6 : decode jdk_42_method_76_code 6 = .ok (.ireturn, 1) := by decide +kernel
theorem pn_13 : plainFor (⟨"java/lang/String", "startsWith", "(Ljava/lang/String;)Z"⟩ : MethodName) = true := plainFor_of_name (by first | (simp [plainName, overriddenIn]; done) | decide +kernel)
theorem pd__Ljava_lang_String_I_Z : parseMethodDescriptor "(Ljava/lang/String;I)Z" = some ⟨[(.object "java/lang/String"), .int], some .boolean⟩ := by decide +kernel
theorem ef_con_sws (m : MethodId) (t b u d : Addr) (cs ds : List Int32) (cz : Int32)  : entryFrame m #[(.ref t), (.ref u)] 2 = mkF m 0 #[.val (.ref t), .val (.ref u)] [] := by first | (simp [entryFrame, mkF, argsToLocals, Value.category]; done) | rfl
set_option maxRecDepth 65536 in
set_option maxHeartbeats 40000000 in
theorem con_sws (l : Launch) (Z : State) (a0 : Array Value) (hw : ∀ d ∈ tables_1, d.before a0 Z = true) (n0 : Nat) (h0 : Heap) (Z0 : n0 ≤ h0.size) (t b u d : Addr) (cs ds : List Int32) (cz : Int32) (od0 : Old Z n0 h0) (SZ : Sta Z Z.heap "java/lang/String" "COMPACT_STRINGS" "Z" (.int cz)) (hcz : ¬ cz = 0) (E1 : Exa Z h0 t "java/lang/String") (FV : Fld Z h0 t "java/lang/String" "value" "[B" (.ref b)) (FC : Fld Z h0 t "java/lang/String" "coder" "B" (.int (own_coder cs))) (AB : Ary Z h0 b .byte (own_enc cs)) (E2 : Exa Z h0 u "java/lang/String") (FV2 : Fld Z h0 u "java/lang/String" "value" "[B" (.ref d)) (FC2 : Fld Z h0 u "java/lang/String" "coder" "B" (.int (own_coder ds))) (AB2 : Ary Z h0 d .byte (own_enc ds)) (h7 : ds.length ≤ 7) (hn : cs.length ≤ 24) (hp : own_pfx cs = cs.length) (hch : own_chr cs) (hp2 : own_pfx ds = ds.length) (hch2 : own_chr ds) :
    Con l Z n0 (⟨"java/lang/String", "startsWith", "(Ljava/lang/String;)Z"⟩ : MethodName) jdk_42_method_76_code 2 (some .boolean) ({ frames := 3, cells := 0, slots := 0, locals := 46 } : Room) #[(.ref t), (.ref u)] h0 (Val (PV (.int (own_sw cs ds 0)) h0)) := by
  refine Con.of_run pn_13 (fun m => ef_con_sws m t b u d cs ds cz ) ?_
  refine Run.aloadN d13_0 rfl rfl (pc' := 1) rfl ?_
  refine Run.aloadN d13_1 rfl rfl (pc' := 2) rfl ?_
  refine Run.iconst (0 : Int32) d13_2 (by decide) (pc' := 3) rfl ?_
  refine Run.callV (k' := 0) (n' := 0) (a := t) (as := [(.ref u), (.int (0 : Int32))]) (rest := []) (con_swi l Z a0 hw n0 h0 Z0 t b u d cs ds 0 cz od0 SZ hcz E1 FV FC AB E2 FV2 FC2 AB2 (by decide) h7 hn hp hch hp2 hch2) E1 d13_3 (hw _ (List.mem_of_getElem? (i := 70) rfl)) (hw _ (List.mem_of_getElem? (i := 71) rfl)) (fun s hZ => notFace_of_selects (args := #[]) (mvT hZ (hw _ (List.mem_of_getElem? (i := 73) rfl)))) (hw _ (List.mem_of_getElem? (i := 73) rfl)) (hw _ (List.mem_of_getElem? (i := 72) rfl)) (hw _ (List.mem_of_getElem? (i := 1) rfl)) (hw _ (List.mem_of_getElem? (i := 74) rfl)) (by decide) pd__Ljava_lang_String_I_Z rfl rfl rfl (by decide) (by show (0 : Nat) + (8 + 11) + 27 ≤ _; decide) (by decide) (by decide) (by decide) (by decide) (pc' := 6) rfl ?_
  rintro _ _ ⟨_, rfl, rfl, rfl⟩
  show Run l Z n0 "java/lang/String" jdk_42_method_76_code 2 (some .boolean) (⟨"java/lang/String", "startsWith", "(Ljava/lang/String;)Z"⟩ : MethodName) ({ frames := 3, cells := 0, slots := 0, locals := 46 } : Room) _ 6 #[.val (.ref t), .val (.ref u)] [(.int (own_sw cs ds 0))] h0 0 0
  exact Run.nreturn d13_6 (ty := .boolean) rfl (by simp) (by decide) (by decide) ⟨_, rfl, congrArg Value.int (own_swn ..).symm, rfl⟩
theorem d45_0 : decode jdk_42_method_151_code 0 = .ok (.aload_n 0, 1) := by decide +kernel
theorem d45_1 : decode jdk_42_method_151_code 1 = .ok (.invokespecial 1, 3) := by decide +kernel
theorem d45_4 : decode jdk_42_method_151_code 4 = .ok (.aload_n 0, 1) := by decide +kernel
theorem d45_5 : decode jdk_42_method_151_code 5 = .ok (.aload_n 1, 1) := by decide +kernel
theorem d45_6 : decode jdk_42_method_151_code 6 = .ok (.putfield 9, 3) := by decide +kernel
theorem d45_9 : decode jdk_42_method_151_code 9 = .ok (.aload_n 0, 1) := by decide +kernel
theorem d45_10 : decode jdk_42_method_151_code 10 = .ok (.iload_n 2, 1) := by decide +kernel
theorem d45_11 : decode jdk_42_method_151_code 11 = .ok (.putfield 15, 3) := by decide +kernel
theorem d45_14 : decode jdk_42_method_151_code 14 = .ok (.return_, 1) := by decide +kernel
theorem pn_45 : plainFor (⟨"java/lang/String", "<init>", "([BB)V"⟩ : MethodName) = true := plainFor_of_name (by first | (simp [plainName, overriddenIn]; done) | decide +kernel)
theorem ef_con_ibb (m : MethodId) (t a : Addr) (k : Int32) (uv uc : Value)  : entryFrame m #[(.ref t), (.ref a), (.int k)] 3 = mkF m 0 #[.val (.ref t), .val (.ref a), .val (.int k)] [] := by first | (simp [entryFrame, mkF, argsToLocals, Value.category]; done) | rfl
set_option maxRecDepth 65536 in
set_option maxHeartbeats 40000000 in
theorem con_ibb (l : Launch) (Z : State) (a0 : Array Value) (hw : ∀ d ∈ tables_1, d.before a0 Z = true) (n0 : Nat) (h0 : Heap) (Z0 : n0 ≤ h0.size) (t a : Addr) (k : Int32) (uv uc : Value) (E1 : Exa Z h0 t "java/lang/String") (FV : Fld Z h0 t "java/lang/String" "value" "[B" uv) (FC : Fld Z h0 t "java/lang/String" "coder" "B" uc) (gt : n0 ≤ t) (hk1 : narrow .byte (.int k) = .int k) (hk2 : fits .byte (.int k) = true) :
    Con l Z n0 (⟨"java/lang/String", "<init>", "([BB)V"⟩ : MethodName) jdk_42_method_151_code 3 none ({ frames := 1, cells := 0, slots := 0, locals := 12 } : Room) #[(.ref t), (.ref a), (.int k)] h0 (Vd fun h' => Keep h0 h' [t] ∧ Fld Z h' t "java/lang/String" "value" "[B" (.ref a) ∧ Fld Z h' t "java/lang/String" "coder" "B" (.int k)) := by
  refine Con.of_run pn_45 (fun m => ef_con_ibb m t a k uv uc ) ?_
  refine Run.aloadN d45_0 rfl rfl (pc' := 1) rfl ?_
  refine Run.initO d45_1 (hw _ (List.mem_of_getElem? (i := 42) rfl)) (hw _ (List.mem_of_getElem? (i := 43) rfl)) (hw _ (List.mem_of_getElem? (i := 44) rfl)) rfl (by decide) (by show (0 : Nat) + 12 ≤ _; decide) (pc' := 4) rfl ?_
  refine Run.aloadN d45_4 rfl rfl (pc' := 5) rfl ?_
  refine Run.aloadN d45_5 rfl rfl (pc' := 6) rfl ?_
  refine Run.putF d45_6 (host := "") (Or.inl (hw _ (List.mem_of_getElem? (i := 21) rfl))) Via.refl FV E1 (Or.inr ⟨(hw _ (List.mem_of_getElem? (i := 4) rfl)), rfl, rfl⟩) (hw _ (List.mem_of_getElem? (i := 2) rfl)) (ty := (.array .byte)) (by decide) (go_narref rfl rfl) rfl gt (pc' := 9) rfl ?_
  intro h11 W11
  have Fw11 := FV.same W11
  have E_t_11 := E1.wr W11
  have F_t_coder_11 := FC.other W11 (Or.inr (slot_ne (Or.inr (hw _ (List.mem_of_getElem? (i := 5) rfl))) (Or.inr (hw _ (List.mem_of_getElem? (i := 4) rfl))) (by decide) (t := .byte) (t' := (.array .byte)) (by decide) (by decide)))
  have sz11 : n0 ≤ h11.size := by rw [W11.size]; exact Z0
  have kp11 := Keep.wr (Keep.refl h0 [t]) W11 (Or.inl (List.mem_of_getElem? (i := 0) rfl))
  refine Run.aloadN d45_9 rfl rfl (pc' := 10) rfl ?_
  refine Run.iloadN d45_10 rfl (pc' := 11) rfl ?_
  refine Run.putFN d45_11 (hw _ (List.mem_of_getElem? (i := 20) rfl)) Via.refl F_t_coder_11 E_t_11 (Or.inr ⟨(hw _ (List.mem_of_getElem? (i := 5) rfl)), rfl, rfl⟩) (hw _ (List.mem_of_getElem? (i := 2) rfl)) (ty := .byte) (v' := (.int k)) (by decide) hk1 hk2 gt (pc' := 14) rfl ?_
  intro h12 W12
  have Fw12 := F_t_coder_11.same W12
  have E_t_12 := E_t_11.wr W12
  have F_t_value_12 := Fw11.other W12 (Or.inr (slot_ne (Or.inr (hw _ (List.mem_of_getElem? (i := 4) rfl))) (Or.inr (hw _ (List.mem_of_getElem? (i := 5) rfl))) (by decide) (t := (.array .byte)) (t' := .byte) (by decide) (by decide)))
  have sz12 : n0 ≤ h12.size := by rw [W12.size]; exact sz11
  have kp12 := Keep.wr kp11 W12 (Or.inl (List.mem_of_getElem? (i := 0) rfl))
  exact Run.vreturn d45_14 rfl (by decide) (by decide) ⟨rfl, kp12, F_t_value_12, Fw12⟩
def own_EL : List (String × Nat) := [("com/example/wireform/wireform/text/MessageReaderHasNextPinLaw", 7), ("com/example/wireform/wireform/text/MessageReader", 15), ("com/example/wireform/wireform/text/Lines", 18), ("com/example/wireform/wireform/text/LineView", 22), ("com/example/wireform/wireform/text/MessageReader", 92), ("com/example/wireform/wireform/text/FinHeader", 56), ("com/example/wireform/wireform/text/MessageReader", 73), ("java/lang/StringLatin1", 151)]
theorem own_EW {Z : State} {a0 : Array Value} (hw : ∀ d ∈ tables_1, d.before a0 Z = true) : EW Z a0 own_EL := EW.cons (hw _ (List.mem_of_getElem? (i := 0) rfl)) (by decide) (EW.cons (hw _ (List.mem_of_getElem? (i := 64) rfl)) (by decide) (EW.cons (hw _ (List.mem_of_getElem? (i := 111) rfl)) (by decide) (EW.cons (hw _ (List.mem_of_getElem? (i := 172) rfl)) (by decide) (EW.cons (hw _ (List.mem_of_getElem? (i := 246) rfl)) (by decide) (EW.cons (hw _ (List.mem_of_getElem? (i := 262) rfl)) (by decide) (EW.cons (hw _ (List.mem_of_getElem? (i := 264) rfl)) (by decide) (EW.cons (hw _ (List.mem_of_getElem? (i := 270) rfl)) (by decide) (EW.nil))))))))
theorem own_wS {Z : State} {a0 : Array Value} (hw : ∀ d ∈ tables_1, d.before a0 Z = true) : ∀ a ∈ Bundle.stringAtoms, a.before a0 Z = true := by
  intro d hd
  simp only [Bundle.stringAtoms, List.mem_cons, List.not_mem_nil, or_false] at hd
  rcases hd with rfl | rfl | rfl | rfl | rfl | rfl | rfl
  · exact (hw _ (List.mem_of_getElem? (i := 1) rfl))
  · exact (hw _ (List.mem_of_getElem? (i := 2) rfl))
  · exact (hw _ (List.mem_of_getElem? (i := 3) rfl))
  · exact (hw _ (List.mem_of_getElem? (i := 4) rfl))
  · exact (hw _ (List.mem_of_getElem? (i := 5) rfl))
  · exact (hw _ (List.mem_of_getElem? (i := 6) rfl))
  · exact (hw _ (List.mem_of_getElem? (i := 7) rfl))
theorem own_heldc {tb : Tables} {e : Env} {args : Array Value} {s : State} (h : Calls_1 tb e args s) : ∀ p ∈ own_EL, Jvm.Lit.constHeld s p.1 p.2 := by
  intro p hp
  refine h.1 p ?_
  have : ∀ p ∈ own_EL, p ∈ consts_1 := by decide
  exact this p hp
theorem own_fitb1 (c : Int32) : fits .byte (.int (nar .byte c)) = true := fits_nar_byte c
def own_sub (cs : List Int32) (s e : Nat) : List Int32 := (cs.drop s).take (e - s)
theorem own_subl {cs : List Int32} {s e : Nat} (h : e ≤ cs.length) : (own_sub cs s e).length = e - s := by unfold own_sub; rw [List.length_take, List.length_drop]; omega
theorem own_subq {cs : List Int32} {s e : Nat} (h : own_chr cs) : own_chr (own_sub cs s e) := fun c hc => h c (List.mem_of_mem_drop (List.mem_of_mem_take hc))
theorem own_pfxi {cs : List Int32} (h : ∀ c ∈ cs, ¬ (255 : Int32) < c) : own_pfx cs = cs.length := by
  induction cs with
  | nil => rfl
  | cons c r ih => show (if (255 : Int32) < c then 0 else own_pfx r + 1) = r.length + 1; rw [if_neg (h c (List.mem_cons_self ..)), ih (fun d hd => h d (List.mem_cons_of_mem _ hd))]
theorem own_pfxa {cs : List Int32} (h : own_pfx cs = cs.length) : ∀ c ∈ cs, ¬ (255 : Int32) < c := fun c hc => by
  obtain ⟨i, hi, e⟩ := List.getElem_of_mem hc
  have := own_pfx_all h hi; rwa [own_gD hi, e] at this
theorem own_subp {cs : List Int32} {s e : Nat} (h : own_pfx cs = cs.length) : own_pfx (own_sub cs s e) = (own_sub cs s e).length := own_pfxi fun c hc => own_pfxa h c (List.mem_of_mem_drop (List.mem_of_mem_take hc))
theorem own_suba (cs : List Int32) : own_sub cs 0 cs.length = cs := by unfold own_sub; simp
theorem own_sub0 (cs : List Int32) (s : Nat) : own_sub cs s s = [] := by unfold own_sub; simp
theorem own_bysub (cs : List Int32) (s e : Nat) : ((own_by cs).drop s).take (e - s) = own_by (own_sub cs s e) := by unfold own_by own_sub; rw [List.map_take, List.map_drop]
theorem own_fitB (xs : List Int32) : ∀ v ∈ own_by xs, fits .byte v = true := by
  intro v hv; unfold own_by at hv; rw [List.mem_map] at hv; obtain ⟨c, -, rfl⟩ := hv
  exact own_fitb1 c
theorem own_minS {a b : Nat} (h : b ≤ a) (ha : a < 2 ^ 30) : own_min (Int32.ofNat a) (Int32.ofNat b) = Int32.ofNat b := by
  unfold own_min; split
  · rfl
  · rename_i q; have : ¬ b < a := fun z => q ((own_lt (by omega) (by omega)).mpr z)
    rw [show a = b by omega]
theorem d40_0 : decode jdk_41_method_12_code 0 = .ok (.iload_n 0, 1) := by decide +kernel
theorem d40_1 : decode jdk_41_method_12_code 1 = .ok (.ifCond .lt 13, 3) := by decide +kernel
theorem d40_4 : decode jdk_41_method_12_code 4 = .ok (.iload_n 0, 1) := by decide +kernel
theorem d40_5 : decode jdk_41_method_12_code 5 = .ok (.iload_n 1, 1) := by decide +kernel
theorem d40_6 : decode jdk_41_method_12_code 6 = .ok (.if_icmp .gt 8, 3) := by decide +kernel
theorem d40_9 : decode jdk_41_method_12_code 9 = .ok (.iload_n 1, 1) := by decide +kernel
theorem d40_10 : decode jdk_41_method_12_code 10 = .ok (.iload_n 2, 1) := by decide +kernel
theorem d40_11 : decode jdk_41_method_12_code 11 = .ok (.if_icmp .le 11, 3) := by decide +kernel
theorem d40_22 : decode jdk_41_method_12_code 22 = .ok (.iload_n 0, 1) := by decide +kernel
theorem d40_23 : decode jdk_41_method_12_code 23 = .ok (.ireturn, 1) := by decide +kernel
theorem pn_40 : plainFor (⟨"jdk/internal/util/Preconditions", "checkFromToIndex", "(IIILjava/util/function/BiFunction;)I"⟩ : MethodName) = true := plainFor_of_name (by first | (simp [plainName, overriddenIn]; done) | decide +kernel)
theorem ef_con_cft (m : MethodId) (s e n : Nat) (u : Value) (hr_u : u.isRef = true) : entryFrame m #[(.int (Int32.ofNat s)), (.int (Int32.ofNat e)), (.int (Int32.ofNat n)), u] 4 = mkF m 0 #[.val (.int (Int32.ofNat s)), .val (.int (Int32.ofNat e)), .val (.int (Int32.ofNat n)), .val u] [] := by rcases XT.refc hr_u with rfl | ⟨r_u, rfl⟩ <;> first | (simp [entryFrame, mkF, argsToLocals, Value.category]; done) | rfl
set_option maxRecDepth 65536 in
set_option maxHeartbeats 40000000 in
theorem con_cft (l : Launch) (Z : State) (a0 : Array Value) (hw : ∀ d ∈ tables_1, d.before a0 Z = true) (n0 : Nat) (h0 : Heap) (Z0 : n0 ≤ h0.size) (s e n : Nat) (u : Value) (hu : u.isRef = true) (hse : s ≤ e) (hen : e ≤ n) (hn : n ≤ 24) :
    Con l Z n0 (⟨"jdk/internal/util/Preconditions", "checkFromToIndex", "(IIILjava/util/function/BiFunction;)I"⟩ : MethodName) jdk_41_method_12_code 4 (some .int) ({ frames := 0, cells := 0, slots := 0, locals := 0 } : Room) #[(.int (Int32.ofNat s)), (.int (Int32.ofNat e)), (.int (Int32.ofNat n)), u] h0 (Val (PV (.int (Int32.ofNat s)) h0)) := by
  refine Con.of_run pn_40 (fun m => ef_con_cft m s e n u hu) ?_
  refine Run.iloadN d40_0 rfl (pc' := 1) rfl ?_
  refine Run.if_lt d40_1 (by decide) (pc' := 14) (by decide) (pa := 4) rfl (fun hc1 => ?_) (fun hc1 => ?_)
  · exact absurd hc1 (own_nge (by omega))
  · refine Run.iloadN d40_4 rfl (pc' := 5) rfl ?_
    refine Run.iloadN d40_5 rfl (pc' := 6) rfl ?_
    refine Run.icmp_gt d40_6 (by decide) (pc' := 14) (by decide) (pa := 9) rfl (fun hc6 => ?_) (fun hc6 => ?_)
    · exact absurd ((own_lt (by omega) (by omega)).mp hc6) (by omega)
    · refine Run.iloadN d40_9 rfl (pc' := 10) rfl ?_
      refine Run.iloadN d40_10 rfl (pc' := 11) rfl ?_
      refine Run.icmp_le d40_11 (by decide) (pc' := 22) (by decide) (pa := 14) rfl (fun hc11 => ?_) (fun hc11 => ?_)
      · refine Run.iloadN d40_22 rfl (pc' := 23) rfl ?_
        exact Run.ireturn d40_23 rfl (by decide) (by decide) ⟨_, rfl, rfl, rfl⟩
      · exact absurd ((own_lt (by omega) (by omega)).mp hc11) (by omega)
theorem d39_0 : decode jdk_42_method_158_code 0 = .ok (.iload_n 0, 1) := by decide +kernel
theorem d39_1 : decode jdk_42_method_158_code 1 = .ok (.iload_n 1, 1) := by decide +kernel
theorem d39_2 : decode jdk_42_method_158_code 2 = .ok (.iload_n 2, 1) := by decide +kernel
theorem d39_3 : decode jdk_42_method_158_code 3 = .ok (.getstatic 1053, 3) := by decide +kernel
theorem d39_6 : decode jdk_42_method_158_code 6 = .ok (.invokestatic 1062, 3) := by decide +kernel
theorem d39_9 : decode jdk_42_method_158_code 9 = .ok (.pop, 1) := by decide +kernel
theorem d39_10 : decode jdk_42_method_158_code 10 = .ok (.return_, 1) := by decide +kernel
theorem pn_39 : plainFor (⟨"java/lang/String", "checkBoundsBeginEnd", "(III)V"⟩ : MethodName) = true := plainFor_of_name (by first | (simp [plainName, overriddenIn]; done) | decide +kernel)
theorem pd__IIILjava_util_function_BiFunction__I : parseMethodDescriptor "(IIILjava/util/function/BiFunction;)I" = some ⟨[.int, .int, .int, (.object "java/util/function/BiFunction")], some .int⟩ := by decide +kernel
theorem ef_con_cbe (m : MethodId) (s e n : Nat) (fm : Value)  : entryFrame m #[(.int (Int32.ofNat s)), (.int (Int32.ofNat e)), (.int (Int32.ofNat n))] 3 = mkF m 0 #[.val (.int (Int32.ofNat s)), .val (.int (Int32.ofNat e)), .val (.int (Int32.ofNat n))] [] := by first | (simp [entryFrame, mkF, argsToLocals, Value.category]; done) | rfl
set_option maxRecDepth 65536 in
set_option maxHeartbeats 40000000 in
theorem con_cbe (l : Launch) (Z : State) (a0 : Array Value) (hw : ∀ d ∈ tables_1, d.before a0 Z = true) (n0 : Nat) (h0 : Heap) (Z0 : n0 ≤ h0.size) (s e n : Nat) (fm : Value) (od0 : Old Z n0 h0) (SF : Sta Z Z.heap "jdk/internal/util/Preconditions" "SIOOBE_FORMATTER" "Ljava/util/function/BiFunction;" fm) (hfm : fm.isRef = true) (hse : s ≤ e) (hen : e ≤ n) (hn : n ≤ 24) :
    Con l Z n0 (⟨"java/lang/String", "checkBoundsBeginEnd", "(III)V"⟩ : MethodName) jdk_42_method_158_code 3 none ({ frames := 1, cells := 0, slots := 0, locals := 15 } : Room) #[(.int (Int32.ofNat s)), (.int (Int32.ofNat e)), (.int (Int32.ofNat n))] h0 (Vd fun h' => h0 = h') := by
  refine Con.of_run pn_39 (fun m => ef_con_cbe m s e n fm ) ?_
  refine Run.iloadN d39_0 rfl (pc' := 1) rfl ?_
  refine Run.iloadN d39_1 rfl (pc' := 2) rfl ?_
  refine Run.iloadN d39_2 rfl (pc' := 3) rfl ?_
  refine Run.getS d39_3 (host := "") (Or.inl (hw _ (List.mem_of_getElem? (i := 29) rfl))) Via.refl (SF.ext od0.2) (pc' := 6) rfl ?_
  refine Run.callS (k' := 0) (n' := 0) (as := [(.int (Int32.ofNat s)), (.int (Int32.ofNat e)), (.int (Int32.ofNat n)), fm]) (rest := []) (con_cft l Z a0 hw n0 h0 Z0 s e n fm hfm hse hen hn ) d39_6 (hw _ (List.mem_of_getElem? (i := 216) rfl)) (hw _ (List.mem_of_getElem? (i := 217) rfl)) (hw _ (List.mem_of_getElem? (i := 30) rfl)) (hw _ (List.mem_of_getElem? (i := 218) rfl)) (by decide) pd__IIILjava_util_function_BiFunction__I rfl rfl rfl (by decide) (by show (0 : Nat) + (4 + 11) + 0 ≤ _; decide) (by decide) (by decide) (by decide) (by decide) (pc' := 9) rfl ?_
  rintro _ _ ⟨_, rfl, rfl, rfl⟩
  show Run l Z n0 "java/lang/String" jdk_42_method_158_code 3 none (⟨"java/lang/String", "checkBoundsBeginEnd", "(III)V"⟩ : MethodName) ({ frames := 1, cells := 0, slots := 0, locals := 15 } : Room) _ 9 #[.val (.int (Int32.ofNat s)), .val (.int (Int32.ofNat e)), .val (.int (Int32.ofNat n))] [(.int (Int32.ofNat s))] h0 0 0
  refine Run.pop d39_9 rfl (pc' := 10) rfl ?_
  exact Run.vreturn d39_10 rfl (by decide) (by decide) ⟨rfl, rfl⟩
theorem d44_0 : decode jdk_65_method_131_code 0 = .ok (.iload_n 1, 1) := by decide +kernel
theorem d44_1 : decode jdk_65_method_131_code 1 = .ok (.iload_n 0, 1) := by decide +kernel
theorem d44_2 : decode jdk_65_method_131_code 2 = .ok (.if_icmp .ge 35, 3) := by decide +kernel
theorem d44_37 : decode jdk_65_method_131_code 37 = .ok (.return_, 1) := by decide +kernel
theorem pn_44 : plainFor (⟨"java/util/Arrays", "checkLength", "(II)V"⟩ : MethodName) = true := plainFor_of_name (by first | (simp [plainName, overriddenIn]; done) | decide +kernel)
theorem ef_con_ckl (m : MethodId) (s e : Nat)  : entryFrame m #[(.int (Int32.ofNat s)), (.int (Int32.ofNat e))] 2 = mkF m 0 #[.val (.int (Int32.ofNat s)), .val (.int (Int32.ofNat e))] [] := by first | (simp [entryFrame, mkF, argsToLocals, Value.category]; done) | rfl
set_option maxRecDepth 65536 in
set_option maxHeartbeats 40000000 in
theorem con_ckl (l : Launch) (Z : State) (a0 : Array Value) (hw : ∀ d ∈ tables_1, d.before a0 Z = true) (n0 : Nat) (h0 : Heap) (Z0 : n0 ≤ h0.size) (s e : Nat) (hse : s ≤ e) (hn : e ≤ 24) :
    Con l Z n0 (⟨"java/util/Arrays", "checkLength", "(II)V"⟩ : MethodName) jdk_65_method_131_code 2 none ({ frames := 0, cells := 0, slots := 0, locals := 0 } : Room) #[(.int (Int32.ofNat s)), (.int (Int32.ofNat e))] h0 (Vd fun h' => h0 = h') := by
  refine Con.of_run pn_44 (fun m => ef_con_ckl m s e ) ?_
  refine Run.iloadN d44_0 rfl (pc' := 1) rfl ?_
  refine Run.iloadN d44_1 rfl (pc' := 2) rfl ?_
  refine Run.icmp_ge d44_2 (by decide) (pc' := 37) (by decide) (pa := 5) rfl (fun hc2 => ?_) (fun hc2 => ?_)
  · exact Run.vreturn d44_37 rfl (by decide) (by decide) ⟨rfl, rfl⟩
  · exact absurd ((own_lt (by omega) (by omega)).mp hc2) (by omega)
theorem d43_0 : decode jdk_65_method_133_code 0 = .ok (.iload_n 1, 1) := by decide +kernel
theorem d43_1 : decode jdk_65_method_133_code 1 = .ok (.iload_n 2, 1) := by decide +kernel
theorem d43_2 : decode jdk_65_method_133_code 2 = .ok (.invokestatic 343, 3) := by decide +kernel
theorem d43_5 : decode jdk_65_method_133_code 5 = .ok (.iload_n 2, 1) := by decide +kernel
theorem d43_6 : decode jdk_65_method_133_code 6 = .ok (.iload_n 1, 1) := by decide +kernel
theorem d43_7 : decode jdk_65_method_133_code 7 = .ok (.isub, 1) := by decide +kernel
theorem d43_8 : decode jdk_65_method_133_code 8 = .ok (.istore_n 3, 1) := by decide +kernel
theorem d43_9 : decode jdk_65_method_133_code 9 = .ok (.iload_n 3, 1) := by decide +kernel
theorem d43_10 : decode jdk_65_method_133_code 10 = .ok (.newarray .byte, 2) := by decide +kernel
theorem d43_12 : decode jdk_65_method_133_code 12 = .ok (.astore 4, 2) := by decide +kernel
theorem d43_14 : decode jdk_65_method_133_code 14 = .ok (.aload_n 0, 1) := by decide +kernel
theorem d43_15 : decode jdk_65_method_133_code 15 = .ok (.iload_n 1, 1) := by decide +kernel
theorem d43_16 : decode jdk_65_method_133_code 16 = .ok (.aload 4, 2) := by decide +kernel
theorem d43_18 : decode jdk_65_method_133_code 18 = .ok (.iconst 0, 1) := by decide +kernel
theorem d43_19 : decode jdk_65_method_133_code 19 = .ok (.aload_n 0, 1) := by decide +kernel
theorem d43_20 : decode jdk_65_method_133_code 20 = .ok (.arraylength, 1) := by decide +kernel
theorem d43_21 : decode jdk_65_method_133_code 21 = .ok (.iload_n 1, 1) := by decide +kernel
theorem d43_22 : decode jdk_65_method_133_code 22 = .ok (.isub, 1) := by decide +kernel
theorem d43_23 : decode jdk_65_method_133_code 23 = .ok (.iload_n 3, 1) := by decide +kernel
theorem d43_24 : decode jdk_65_method_133_code 24 = .ok (.invokestatic 304, 3) := by decide +kernel
theorem d43_27 : decode jdk_65_method_133_code 27 = .ok (.invokestatic 150, 3) := by decide +kernel
theorem d43_30 : decode jdk_65_method_133_code 30 = .ok (.aload 4, 2) := by decide +kernel
theorem d43_32 : decode jdk_65_method_133_code 32 = .ok (.areturn, 1) := by decide +kernel
theorem pn_43 : plainFor (⟨"java/util/Arrays", "copyOfRangeByte", "([BII)[B"⟩ : MethodName) = true := plainFor_of_name (by first | (simp [plainName, overriddenIn]; done) | decide +kernel)
theorem ef_con_crb (m : MethodId) (a : Addr) (cs : List Int32) (s e : Nat)  : entryFrame m #[(.ref a), (.int (Int32.ofNat s)), (.int (Int32.ofNat e))] 5 = mkF m 0 #[.val (.ref a), .val (.int (Int32.ofNat s)), .val (.int (Int32.ofNat e)), .unset, .unset] [] := by first | (simp [entryFrame, mkF, argsToLocals, Value.category]; done) | rfl
set_option maxRecDepth 65536 in
set_option maxHeartbeats 40000000 in
theorem con_crb (l : Launch) (Z : State) (a0 : Array Value) (hw : ∀ d ∈ tables_1, d.before a0 Z = true) (n0 : Nat) (h0 : Heap) (Z0 : n0 ≤ h0.size) (a : Addr) (cs : List Int32) (s e : Nat) (AB : Ary Z h0 a .byte (own_by cs)) (hse : s ≤ e) (hen : e ≤ cs.length) (hn : cs.length ≤ 24) :
    Con l Z n0 (⟨"java/util/Arrays", "copyOfRangeByte", "([BII)[B"⟩ : MethodName) jdk_65_method_133_code 5 (some (.array .byte)) ({ frames := 1, cells := 1, slots := 24, locals := 30 } : Room) #[(.ref a), (.int (Int32.ofNat s)), (.int (Int32.ofNat e))] h0 (Val fun w h' => ∃ b, w = .ref b ∧ h0.size ≤ b ∧ Ext h0 h' ∧ Ary Z h' b .byte (own_by (own_sub cs s e))) := by
  refine Con.of_run pn_43 (fun m => ef_con_crb m a cs s e ) ?_
  refine Run.iloadN d43_0 rfl (pc' := 1) rfl ?_
  refine Run.iloadN d43_1 rfl (pc' := 2) rfl ?_
  refine Run.callS (k' := 0) (n' := 0) (as := [(.int (Int32.ofNat s)), (.int (Int32.ofNat e))]) (rest := []) (con_ckl l Z a0 hw n0 h0 Z0 s e hse (by omega)) d43_2 (hw _ (List.mem_of_getElem? (i := 230) rfl)) (hw _ (List.mem_of_getElem? (i := 231) rfl)) (hw _ (List.mem_of_getElem? (i := 225) rfl)) (hw _ (List.mem_of_getElem? (i := 232) rfl)) (by decide) pd__II_V rfl rfl rfl (by decide) (by show (0 : Nat) + (2 + 11) + 0 ≤ _; decide) (by decide) (by decide) (by decide) (by decide) (pc' := 5) rfl ?_
  rintro _ _ ⟨rfl, rfl⟩
  show Run l Z n0 "java/util/Arrays" jdk_65_method_133_code 5 (some (.array .byte)) (⟨"java/util/Arrays", "copyOfRangeByte", "([BII)[B"⟩ : MethodName) ({ frames := 1, cells := 1, slots := 24, locals := 30 } : Room) _ 5 #[.val (.ref a), .val (.int (Int32.ofNat s)), .val (.int (Int32.ofNat e)), .unset, .unset] [] h0 0 0
  refine Run.iloadN d43_5 rfl (pc' := 6) rfl ?_
  refine Run.iloadN d43_6 rfl (pc' := 7) rfl ?_
  refine Run.isub d43_7 (pc' := 8) rfl ?_
  rw [own_subn hse (by omega)]
  refine Run.istoreN (l' := #[.val (.ref a), .val (.int (Int32.ofNat s)), .val (.int (Int32.ofNat e)), .val (.int (Int32.ofNat (e - s))), .unset]) d43_8 rfl (pc' := 9) rfl ?_
  refine Run.iloadN d43_9 rfl (pc' := 10) rfl ?_
  refine Run.newP (ty := .byte) (m := (e - s)) (cap := 24) (dv := (.int (0 : Int32))) (k' := 1) (n' := 24) d43_10 rfl (hw _ (List.mem_of_getElem? (i := 3) rfl)) (own_nge (by omega)) (clamp_of rfl (by omega)) (by omega) rfl (by decide) (by decide) (by decide) (by decide) (by decide) (pc' := 12) rfl ?_
  intro h12 b12 g12 E12 A12
  have ge_b12 : n0 ≤ b12 := by rw [g12]; exact Z0
  have bo_b12 : h0.size ≤ b12 := by rw [g12]; exact (Keep.refl h0 []).1
  have ne_a_b12 : a ≠ b12 := by rw [g12]; exact Nat.ne_of_lt AB.lt
  have A_a_12 := AB.ext E12
  have sz12 : n0 ≤ h12.size := Nat.le_trans Z0 E12.1
  have kp12 := Keep.ext (Keep.refl h0 []) E12
  refine Run.astore (l' := #[.val (.ref a), .val (.int (Int32.ofNat s)), .val (.int (Int32.ofNat e)), .val (.int (Int32.ofNat (e - s))), .val (.ref b12)]) d43_12 rfl rfl (pc' := 14) rfl ?_
  refine Run.aloadN d43_14 rfl rfl (pc' := 15) rfl ?_
  refine Run.iloadN d43_15 rfl (pc' := 16) rfl ?_
  refine Run.aload d43_16 rfl rfl (pc' := 18) rfl ?_
  refine Run.iconst (0 : Int32) d43_18 (by decide) (pc' := 19) rfl ?_
  refine Run.aloadN d43_19 rfl rfl (pc' := 20) rfl ?_
  refine Run.alen (z := (Int32.ofNat cs.length)) d43_20 A_a_12 (by rw [own_byl] <;> rfl) (pc' := 21) rfl ?_
  refine Run.iloadN d43_21 rfl (pc' := 22) rfl ?_
  refine Run.isub d43_22 (pc' := 23) rfl ?_
  rw [own_subn (show s ≤ cs.length by omega) (by omega)]
  refine Run.iloadN d43_23 rfl (pc' := 24) rfl ?_
  refine Run.callS (k' := 1) (n' := 24) (as := [(.int (Int32.ofNat (cs.length - s))), (.int (Int32.ofNat (e - s)))]) (rest := [(.int (0 : Int32)), (.ref b12), (.int (Int32.ofNat s)), (.ref a)]) (con_own_min l Z a0 hw n0 h12 sz12 (Int32.ofNat (cs.length - s)) (Int32.ofNat (e - s)) ) d43_24 (hw _ (List.mem_of_getElem? (i := 233) rfl)) (hw _ (List.mem_of_getElem? (i := 140) rfl)) (hw _ (List.mem_of_getElem? (i := 137) rfl)) (hw _ (List.mem_of_getElem? (i := 141) rfl)) (by decide) pd__II_I rfl rfl rfl (by decide) (by show (4 : Nat) + (2 + 11) + 0 ≤ _; decide) (by decide) (by decide) (by decide) (by decide) (pc' := 27) rfl ?_
  rintro _ _ ⟨_, rfl, rfl, rfl⟩
  show Run l Z n0 "java/util/Arrays" jdk_65_method_133_code 5 (some (.array .byte)) (⟨"java/util/Arrays", "copyOfRangeByte", "([BII)[B"⟩ : MethodName) ({ frames := 1, cells := 1, slots := 24, locals := 30 } : Room) _ 27 #[.val (.ref a), .val (.int (Int32.ofNat s)), .val (.int (Int32.ofNat e)), .val (.int (Int32.ofNat (e - s))), .val (.ref b12)] [(.int (own_min (Int32.ofNat (cs.length - s)) (Int32.ofNat (e - s)))), (.int (0 : Int32)), (.ref b12), (.int (Int32.ofNat s)), (.ref a)] h12 1 24
  rw [own_minS (by omega) (by omega)]
  refine Run.acopyG (i := s) (j := 0) (m := e - s) (z1 := Int32.ofNat cs.length) (z' := Int32.ofNat (e - s)) d43_27 (hw _ (List.mem_of_getElem? (i := 234) rfl)) (hw _ (List.mem_of_getElem? (i := 237) rfl)) (hw _ (List.mem_of_getElem? (i := 235) rfl)) (hw _ (List.mem_of_getElem? (i := 236) rfl)) A_a_12 A12 rfl (by rw [own_byl]; exact own_ofn (by omega)) (by rw [List.length_replicate]; exact own_ofn (by omega)) (own_ofn (by omega)) (own_ofn (by omega)) rfl (by rw [own_byl]; omega) (by rw [List.length_replicate]; omega) (own_fitB cs) (fun v hv => by rw [List.eq_of_mem_replicate hv]; rfl) ge_b12 rfl (by decide) (by decide) (pc' := 30) rfl ?_
  intro h13 K13 P13
  have Q13 : Ary Z h13 b12 .byte (own_by (own_sub cs s e)) := by have z := P13; rw [own_bysub] at z; simpa using z
  have A_a_13 := A_a_12.keep K13 (ninS ne_a_b12 nin0)
  have sz13 : n0 ≤ h13.size := Nat.le_trans sz12 K13.1
  have kp13 := Keep.trans kp12 K13 (allS (Or.inr bo_b12) all0)
  refine Run.aload d43_30 rfl rfl (pc' := 32) rfl ?_
  exact Run.areturn d43_32 (ty := (.array .byte)) rfl rfl rfl (by decide) (by decide) ⟨_, rfl, b12, rfl, bo_b12, Keep.toExt kp13, Q13⟩
theorem own_of0 {n : Nat} (hn : n < 2 ^ 31) (h : Int32.ofNat n = 0) : n = 0 := by have h1 := own_ofn hn; rw [h, own_z] at h1; omega
theorem d42_0 : decode jdk_65_method_132_code 0 = .ok (.iload_n 1, 1) := by decide +kernel
theorem d42_1 : decode jdk_65_method_132_code 1 = .ok (.ifCond .ne 9, 3) := by decide +kernel
theorem d42_4 : decode jdk_65_method_132_code 4 = .ok (.iload_n 2, 1) := by decide +kernel
theorem d42_5 : decode jdk_65_method_132_code 5 = .ok (.aload_n 0, 1) := by decide +kernel
theorem d42_6 : decode jdk_65_method_132_code 6 = .ok (.arraylength, 1) := by decide +kernel
theorem d42_7 : decode jdk_65_method_132_code 7 = .ok (.if_icmp .eq 10, 3) := by decide +kernel
theorem d42_10 : decode jdk_65_method_132_code 10 = .ok (.aload_n 0, 1) := by decide +kernel
theorem d42_11 : decode jdk_65_method_132_code 11 = .ok (.iload_n 1, 1) := by decide +kernel
theorem d42_12 : decode jdk_65_method_132_code 12 = .ok (.iload_n 2, 1) := by decide +kernel
theorem d42_13 : decode jdk_65_method_132_code 13 = .ok (.invokestatic 339, 3) := by decide +kernel
theorem d42_16 : decode jdk_65_method_132_code 16 = .ok (.areturn, 1) := by decide +kernel
theorem pn_42 : plainFor (⟨"java/util/Arrays", "copyOfRange", "([BII)[B"⟩ : MethodName) = true := plainFor_of_name (by first | (simp [plainName, overriddenIn]; done) | decide +kernel)
theorem pd___BII__B : parseMethodDescriptor "([BII)[B" = some ⟨[(.array .byte), .int, .int], some (.array .byte)⟩ := by decide +kernel
theorem ef_con_cor (m : MethodId) (a : Addr) (cs : List Int32) (s e : Nat)  : entryFrame m #[(.ref a), (.int (Int32.ofNat s)), (.int (Int32.ofNat e))] 3 = mkF m 0 #[.val (.ref a), .val (.int (Int32.ofNat s)), .val (.int (Int32.ofNat e))] [] := by first | (simp [entryFrame, mkF, argsToLocals, Value.category]; done) | rfl
set_option maxRecDepth 65536 in
set_option maxHeartbeats 40000000 in
theorem con_cor (l : Launch) (Z : State) (a0 : Array Value) (hw : ∀ d ∈ tables_1, d.before a0 Z = true) (n0 : Nat) (h0 : Heap) (Z0 : n0 ≤ h0.size) (a : Addr) (cs : List Int32) (s e : Nat) (AB : Ary Z h0 a .byte (own_by cs)) (hse : s ≤ e) (hen : e ≤ cs.length) (hn : cs.length ≤ 24) (hno : ¬ (s = 0 ∧ e = cs.length)) :
    Con l Z n0 (⟨"java/util/Arrays", "copyOfRange", "([BII)[B"⟩ : MethodName) jdk_65_method_132_code 3 (some (.array .byte)) ({ frames := 2, cells := 1, slots := 24, locals := 46 } : Room) #[(.ref a), (.int (Int32.ofNat s)), (.int (Int32.ofNat e))] h0 (Val fun w h' => ∃ b, w = .ref b ∧ h0.size ≤ b ∧ Ext h0 h' ∧ Ary Z h' b .byte (own_by (own_sub cs s e))) := by
  refine Con.of_run pn_42 (fun m => ef_con_cor m a cs s e ) ?_
  refine Run.iloadN d42_0 rfl (pc' := 1) rfl ?_
  refine Run.if_ne d42_1 (by decide) (pc' := 10) (by decide) (pa := 4) rfl (fun hc1 => ?_) (fun hc1 => ?_)
  · refine Run.aloadN d42_10 rfl rfl (pc' := 11) rfl ?_
    refine Run.iloadN d42_11 rfl (pc' := 12) rfl ?_
    refine Run.iloadN d42_12 rfl (pc' := 13) rfl ?_
    refine Run.callS (k' := 1) (n' := 24) (as := [(.ref a), (.int (Int32.ofNat s)), (.int (Int32.ofNat e))]) (rest := []) (con_crb l Z a0 hw n0 h0 Z0 a cs s e AB hse hen hn) d42_13 (hw _ (List.mem_of_getElem? (i := 227) rfl)) (hw _ (List.mem_of_getElem? (i := 228) rfl)) (hw _ (List.mem_of_getElem? (i := 225) rfl)) (hw _ (List.mem_of_getElem? (i := 229) rfl)) (by decide) pd___BII__B rfl rfl rfl (by decide) (by show (0 : Nat) + (5 + 11) + 30 ≤ _; decide) (by decide) (by decide) (by decide) (by decide) (pc' := 16) rfl ?_
    rintro _ h11 ⟨_, rfl, ⟨b11, rfl, bw11, E11, P11⟩⟩
    show Run l Z n0 "java/util/Arrays" jdk_65_method_132_code 3 (some (.array .byte)) (⟨"java/util/Arrays", "copyOfRange", "([BII)[B"⟩ : MethodName) ({ frames := 2, cells := 1, slots := 24, locals := 46 } : Room) _ 16 #[.val (.ref a), .val (.int (Int32.ofNat s)), .val (.int (Int32.ofNat e))] [(.ref b11)] h11 1 24
    have ge_b11 : n0 ≤ b11 := Nat.le_trans Z0 bw11
    have bo_b11 : h0.size ≤ b11 := Nat.le_trans (Keep.refl h0 []).1 bw11
    have ne_a_b11 : a ≠ b11 := Nat.ne_of_lt (Nat.lt_of_lt_of_le AB.lt bw11)
    have A_a_11 := AB.ext E11
    have sz11 : n0 ≤ h11.size := Nat.le_trans Z0 E11.1
    have kp11 := Keep.ext (Keep.refl h0 []) E11
    exact Run.areturn d42_16 (ty := (.array .byte)) rfl rfl rfl (by decide) (by decide) ⟨_, rfl, b11, rfl, bo_b11, Keep.toExt kp11, P11⟩
  · refine Run.iloadN d42_4 rfl (pc' := 5) rfl ?_
    refine Run.aloadN d42_5 rfl rfl (pc' := 6) rfl ?_
    refine Run.alen (z := (Int32.ofNat cs.length)) d42_6 AB (by rw [own_byl] <;> rfl) (pc' := 7) rfl ?_
    refine Run.icmp_eq d42_7 (by decide) (pc' := 17) (by decide) (pa := 10) rfl (fun hc7 => ?_) (fun hc7 => ?_)
    · exact absurd ⟨own_of0 (by omega) hc1, own_ofe (by omega) (by omega) hc7⟩ hno
    · refine Run.aloadN d42_10 rfl rfl (pc' := 11) rfl ?_
      refine Run.iloadN d42_11 rfl (pc' := 12) rfl ?_
      refine Run.iloadN d42_12 rfl (pc' := 13) rfl ?_
      refine Run.callS (k' := 1) (n' := 24) (as := [(.ref a), (.int (Int32.ofNat s)), (.int (Int32.ofNat e))]) (rest := []) (con_crb l Z a0 hw n0 h0 Z0 a cs s e AB hse hen hn) d42_13 (hw _ (List.mem_of_getElem? (i := 227) rfl)) (hw _ (List.mem_of_getElem? (i := 228) rfl)) (hw _ (List.mem_of_getElem? (i := 225) rfl)) (hw _ (List.mem_of_getElem? (i := 229) rfl)) (by decide) pd___BII__B rfl rfl rfl (by decide) (by show (0 : Nat) + (5 + 11) + 30 ≤ _; decide) (by decide) (by decide) (by decide) (by decide) (pc' := 16) rfl ?_
      rintro _ h12 ⟨_, rfl, ⟨b12, rfl, bw12, E12, P12⟩⟩
      show Run l Z n0 "java/util/Arrays" jdk_65_method_132_code 3 (some (.array .byte)) (⟨"java/util/Arrays", "copyOfRange", "([BII)[B"⟩ : MethodName) ({ frames := 2, cells := 1, slots := 24, locals := 46 } : Room) _ 16 #[.val (.ref a), .val (.int (Int32.ofNat s)), .val (.int (Int32.ofNat e))] [(.ref b12)] h12 1 24
      have ge_b12 : n0 ≤ b12 := Nat.le_trans Z0 bw12
      have bo_b12 : h0.size ≤ b12 := Nat.le_trans (Keep.refl h0 []).1 bw12
      have ne_a_b12 : a ≠ b12 := Nat.ne_of_lt (Nat.lt_of_lt_of_le AB.lt bw12)
      have A_a_12 := AB.ext E12
      have sz12 : n0 ≤ h12.size := Nat.le_trans Z0 E12.1
      have kp12 := Keep.ext (Keep.refl h0 []) E12
      exact Run.areturn d42_16 (ty := (.array .byte)) rfl rfl rfl (by decide) (by decide) ⟨_, rfl, b12, rfl, bo_b12, Keep.toExt kp12, P12⟩
theorem d41_0 : decode jdk_43_method_47_code 0 = .ok (.iload_n 2, 1) := by decide +kernel
theorem d41_1 : decode jdk_43_method_47_code 1 = .ok (.ifCond .ne 6, 3) := by decide +kernel
theorem d41_4 : decode jdk_43_method_47_code 4 = .ok (.ldc 151, 2) := by decide +kernel
theorem d41_6 : decode jdk_43_method_47_code 6 = .ok (.areturn, 1) := by decide +kernel
theorem d41_7 : decode jdk_43_method_47_code 7 = .ok (.new 1, 3) := by decide +kernel
theorem d41_10 : decode jdk_43_method_47_code 10 = .ok (.dup, 1) := by decide +kernel
theorem d41_11 : decode jdk_43_method_47_code 11 = .ok (.aload_n 0, 1) := by decide +kernel
theorem d41_12 : decode jdk_43_method_47_code 12 = .ok (.iload_n 1, 1) := by decide +kernel
theorem d41_13 : decode jdk_43_method_47_code 13 = .ok (.iload_n 1, 1) := by decide +kernel
theorem d41_14 : decode jdk_43_method_47_code 14 = .ok (.iload_n 2, 1) := by decide +kernel
theorem d41_15 : decode jdk_43_method_47_code 15 = .ok (.iadd, 1) := by decide +kernel
theorem d41_16 : decode jdk_43_method_47_code 16 = .ok (.invokestatic 232, 3) := by decide +kernel
theorem d41_19 : decode jdk_43_method_47_code 19 = .ok (.iconst 0, 1) := by decide +kernel
theorem d41_20 : decode jdk_43_method_47_code 20 = .ok (.invokespecial 112, 3) := by decide +kernel
theorem d41_23 : decode jdk_43_method_47_code 23 = .ok (.areturn, 1) := by decide +kernel
theorem pn_41 : plainFor (⟨"java/lang/StringLatin1", "newString", "([BII)Ljava/lang/String;"⟩ : MethodName) = true := plainFor_of_name (by first | (simp [plainName, overriddenIn]; done) | decide +kernel)
theorem pd___BB_V : parseMethodDescriptor "([BB)V" = some ⟨[(.array .byte), .byte], none⟩ := by decide +kernel
theorem ef_con_nst (m : MethodId) (a : Addr) (cs : List Int32) (s e : Nat)  : entryFrame m #[(.ref a), (.int (Int32.ofNat s)), (.int (Int32.ofNat (e - s)))] 3 = mkF m 0 #[.val (.ref a), .val (.int (Int32.ofNat s)), .val (.int (Int32.ofNat (e - s)))] [] := by first | (simp [entryFrame, mkF, argsToLocals, Value.category]; done) | rfl
set_option maxRecDepth 65536 in
set_option maxHeartbeats 40000000 in
theorem con_nst (l : Launch) (Z : State) (a0 : Array Value) (hw : ∀ d ∈ tables_1, d.before a0 Z = true) (n0 : Nat) (h0 : Heap) (Z0 : n0 ≤ h0.size) (a : Addr) (cs : List Int32) (s e : Nat) (AB : Ary Z h0 a .byte (own_by cs)) (hse : s ≤ e) (hen : e ≤ cs.length) (hn : cs.length ≤ 24) (hno : ¬ (s = 0 ∧ e = cs.length)) (hp : own_pfx cs = cs.length) :
    ConW l Z own_EL n0 (⟨"java/lang/StringLatin1", "newString", "([BII)Ljava/lang/String;"⟩ : MethodName) jdk_43_method_47_code 3 (some (.object "java/lang/String")) ({ frames := 3, cells := 2, slots := 28, locals := 62 } : Room) #[(.ref a), (.int (Int32.ofNat s)), (.int (Int32.ofNat (e - s)))] h0 [] (Val fun w h' => ∃ t b, w = .ref t ∧ Ext h0 h' ∧ Exa Z h' t "java/lang/String" ∧ Fld Z h' t "java/lang/String" "value" "[B" (.ref b) ∧ Fld Z h' t "java/lang/String" "coder" "B" (.int (own_coder (own_sub cs s e))) ∧ Ary Z h' b .byte (own_enc (own_sub cs s e))) := by
  refine ConW.of_run (own_EW hw) pn_41 (fun m => ef_con_nst m a cs s e ) ?_
  intro vm hal hsf
  refine RunW.iloadN d41_0 rfl (pc' := 1) rfl ?_
  refine RunW.if_ne d41_1 (by decide) (pc' := 7) (by decide) (pa := 4) rfl (fun hc1 => ?_) (fun hc1 => ?_)
  · refine RunW.newO (k' := 1) (n' := 4) d41_7 (hw _ (List.mem_of_getElem? (i := 222) rfl)) (hw _ (List.mem_of_getElem? (i := 2) rfl)) (hw _ (List.mem_of_getElem? (i := 1) rfl)) (by decide) (by decide) (by decide) (by decide) (pc' := 10) rfl ?_
    intro h11 b11 g11 E11 X11 D11 c11 sf11
    have ge_b11 : n0 ≤ b11 := by rw [g11]; exact Z0
    have bo_b11 : h0.size ≤ b11 := by rw [g11]; exact (Keep.refl h0 []).1
    have ne_a_b11 : a ≠ b11 := by rw [g11]; exact Nat.ne_of_lt AB.lt
    have A_a_11 := AB.ext E11
    have sz11 : n0 ≤ h11.size := Nat.le_trans Z0 E11.1
    have kp11 := Keep.ext (Keep.refl h0 []) E11
    have F_b11_value : Fld Z h11 b11 "java/lang/String" "value" "[B" .null := D11 (Or.inr (hw _ (List.mem_of_getElem? (i := 4) rfl))) (ty := (.array .byte)) (by decide)
    have F_b11_coder : Fld Z h11 b11 "java/lang/String" "coder" "B" (.int (0 : Int32)) := D11 (Or.inr (hw _ (List.mem_of_getElem? (i := 5) rfl))) (ty := .byte) (by decide)
    refine RunW.dup d41_10 rfl (pc' := 11) rfl ?_
    refine RunW.aloadN d41_11 rfl rfl (pc' := 12) rfl ?_
    refine RunW.iloadN d41_12 rfl (pc' := 13) rfl ?_
    refine RunW.iloadN d41_13 rfl (pc' := 14) rfl ?_
    refine RunW.iloadN d41_14 rfl (pc' := 15) rfl ?_
    refine RunW.iadd d41_15 (pc' := 16) rfl ?_
    rw [own_addn, show s + (e - s) = e by omega]
    refine RunW.callS (k' := 2) (n' := 28) (as := [(.ref a), (.int (Int32.ofNat s)), (.int (Int32.ofNat e))]) (rest := [(.ref b11), (.ref b11)]) (con_cor l Z a0 hw n0 h11 sz11 a cs s e A_a_11 hse hen hn hno) (by rintro _ _ ⟨_, rfl, ⟨b_, rfl, bw_, E_, P_⟩⟩; exact ⟨[], Keep.ofExt E_, all0⟩) d41_16 (hw _ (List.mem_of_getElem? (i := 223) rfl)) (hw _ (List.mem_of_getElem? (i := 224) rfl)) (hw _ (List.mem_of_getElem? (i := 225) rfl)) (hw _ (List.mem_of_getElem? (i := 226) rfl)) (by decide) pd___BII__B rfl rfl rfl (by decide) (by show (2 : Nat) + (3 + 11) + 46 ≤ _; decide) (by decide) (by decide) (by decide) (by decide) (pc' := 19) rfl ?_
    rintro _ h12 ⟨_, rfl, ⟨b12, rfl, bw12, E12, P12⟩⟩ c12
    show RunW l Z own_EL n0 "java/lang/StringLatin1" jdk_43_method_47_code 3 (some (.object "java/lang/String")) (⟨"java/lang/StringLatin1", "newString", "([BII)Ljava/lang/String;"⟩ : MethodName) ({ frames := 3, cells := 2, slots := 28, locals := 62 } : Room) _ 19 #[.val (.ref a), .val (.int (Int32.ofNat s)), .val (.int (Int32.ofNat (e - s)))] [(.ref b12), (.ref b11), (.ref b11)] h12 vm 2 28
    have ge_b12 : n0 ≤ b12 := Nat.le_trans sz11 bw12
    have bo_b12 : h0.size ≤ b12 := Nat.le_trans kp11.1 bw12
    have ne_a_b12 : a ≠ b12 := Nat.ne_of_lt (Nat.lt_of_lt_of_le A_a_11.lt bw12)
    have ne_b11_b12 : b11 ≠ b12 := Nat.ne_of_lt (Nat.lt_of_lt_of_le X11.lt bw12)
    have A_a_12 := A_a_11.ext E12
    have E_b11_12 := X11.ext E12
    have Z_b11_12 := CHr.safe c12 X11.lt sf11
    have F_b11_value_12 := F_b11_value.ext E12
    have F_b11_coder_12 := F_b11_coder.ext E12
    have sz12 : n0 ≤ h12.size := Nat.le_trans sz11 E12.1
    have kp12 := Keep.ext kp11 E12
    refine RunW.iconst (0 : Int32) d41_19 (by decide) (pc' := 20) rfl ?_
    refine RunW.callN (k' := 2) (n' := 28) (a := b11) (as := [(.ref b12), (.int (0 : Int32))]) (rest := [(.ref b11)]) (con_ibb l Z a0 hw n0 h12 sz12 b11 b12 (0 : Int32) .null (.int (0 : Int32)) E_b11_12 F_b11_value_12 F_b11_coder_12 ge_b11 rfl rfl) (by rintro _ _ ⟨rfl, ⟨K_, P_, R_⟩⟩; exact ⟨[b11], K_, (allS Z_b11_12 all0)⟩) rfl rfl d41_20 (hw _ (List.mem_of_getElem? (i := 238) rfl)) (hw _ (List.mem_of_getElem? (i := 239) rfl)) (hw _ (List.mem_of_getElem? (i := 1) rfl)) (hw _ (List.mem_of_getElem? (i := 240) rfl)) (by decide) pd___BB_V rfl rfl rfl (by decide) (by show (1 : Nat) + (3 + 11) + 12 ≤ _; decide) (by decide) (by decide) (by decide) (by decide) (pc' := 23) rfl ?_
    rintro _ h13 ⟨rfl, ⟨K13, P13, R13⟩⟩ c13
    show RunW l Z own_EL n0 "java/lang/StringLatin1" jdk_43_method_47_code 3 (some (.object "java/lang/String")) (⟨"java/lang/StringLatin1", "newString", "([BII)Ljava/lang/String;"⟩ : MethodName) ({ frames := 3, cells := 2, slots := 28, locals := 62 } : Room) _ 23 #[.val (.ref a), .val (.int (Int32.ofNat s)), .val (.int (Int32.ofNat (e - s)))] [(.ref b11)] h13 vm 2 28
    have A_a_13 := A_a_12.keep K13 (ninS ne_a_b11 nin0)
    have E_b11_13 := E_b11_12.keep K13
    have Z_b11_13 := CHr.safe c13 E_b11_12.lt Z_b11_12
    have A_b12_13 := P12.keep K13 (ninS (Ne.symm ne_b11_b12) nin0)
    have sz13 : n0 ≤ h13.size := Nat.le_trans sz12 K13.1
    have kp13 := Keep.trans kp12 K13 (allS (Or.inr bo_b11) all0)
    have FCl14 : Fld Z h13 b11 "java/lang/String" "coder" "B" (.int (own_coder (own_sub cs s e))) := by rw [show own_coder (own_sub cs s e) = 0 by unfold own_coder; rw [if_pos (own_subp hp)]]; exact R13
    have ABl14 : Ary Z h13 b12 .byte (own_enc (own_sub cs s e)) := by rw [own_encP (own_subp hp)]; exact A_b12_13
    exact RunW.areturn d41_23 (ty := (.object "java/lang/String")) rfl rfl rfl (by decide) (by decide) ⟨_, rfl, b11, b12, rfl, Keep.toExt kp13, E_b11_13, P13, FCl14, ABl14⟩
  · refine RunW.ldcT (len := 0) (z := (0 : Int32)) (bs := []) (k' := 2) (n' := 4) d41_4 (hw _ (List.mem_of_getElem? (i := 270) rfl)) (own_wS hw) (own_EW hw) (List.mem_of_getElem? (i := 7) rfl) (by decide) (by decide) (by decide) (by decide) (by decide) (by decide) (by decide) (by decide) (pc' := 6) rfl ?_
    intro h15 vm15 a15 b15 E15 c15 X15 FC15 FV15 A15 ns15
    have A_a_15 := AB.ext E15
    have sz15 : n0 ≤ h15.size := Nat.le_trans Z0 E15.1
    have kp15 := Keep.ext (Keep.refl h0 []) E15
    have hz0 : own_sub cs s e = [] := by rw [show e = s by have := own_of0 (n := e - s) (by omega) (hc1); omega]; exact own_sub0 cs s
    have FCl16 : Fld Z h15 a15 "java/lang/String" "coder" "B" (.int (own_coder (own_sub cs s e))) := by rw [show own_coder (own_sub cs s e) = 0 by rw [hz0]; decide]; exact FC15
    have ABl16 : Ary Z h15 b15 .byte (own_enc (own_sub cs s e)) := by rw [show own_enc (own_sub cs s e) = [] by rw [hz0]; rfl]; exact A15
    exact RunW.areturn d41_6 (ty := (.object "java/lang/String")) rfl rfl rfl (by decide) (by decide) ⟨_, rfl, a15, b15, rfl, Keep.toExt kp15, X15, FV15, FCl16, ABl16⟩
theorem d38_0 : decode jdk_42_method_92_code 0 = .ok (.aload_n 0, 1) := by decide +kernel
theorem d38_1 : decode jdk_42_method_92_code 1 = .ok (.invokevirtual 505, 3) := by decide +kernel
theorem d38_4 : decode jdk_42_method_92_code 4 = .ok (.istore_n 3, 1) := by decide +kernel
theorem d38_5 : decode jdk_42_method_92_code 5 = .ok (.iload_n 1, 1) := by decide +kernel
theorem d38_6 : decode jdk_42_method_92_code 6 = .ok (.iload_n 2, 1) := by decide +kernel
theorem d38_7 : decode jdk_42_method_92_code 7 = .ok (.iload_n 3, 1) := by decide +kernel
theorem d38_8 : decode jdk_42_method_92_code 8 = .ok (.invokestatic 521, 3) := by decide +kernel
theorem d38_11 : decode jdk_42_method_92_code 11 = .ok (.iload_n 1, 1) := by decide +kernel
theorem d38_12 : decode jdk_42_method_92_code 12 = .ok (.ifCond .ne 10, 3) := by decide +kernel
theorem d38_15 : decode jdk_42_method_92_code 15 = .ok (.iload_n 2, 1) := by decide +kernel
theorem d38_16 : decode jdk_42_method_92_code 16 = .ok (.iload_n 3, 1) := by decide +kernel
theorem d38_17 : decode jdk_42_method_92_code 17 = .ok (.if_icmp .ne 5, 3) := by decide +kernel
theorem d38_20 : decode jdk_42_method_92_code 20 = .ok (.aload_n 0, 1) := by decide +kernel
theorem d38_21 : decode jdk_42_method_92_code 21 = .ok (.areturn, 1) := by decide +kernel
theorem d38_22 : decode jdk_42_method_92_code 22 = .ok (.iload_n 2, 1) := by decide +kernel
theorem d38_23 : decode jdk_42_method_92_code 23 = .ok (.iload_n 1, 1) := by decide +kernel
theorem d38_24 : decode jdk_42_method_92_code 24 = .ok (.isub, 1) := by decide +kernel
theorem d38_25 : decode jdk_42_method_92_code 25 = .ok (.istore 4, 2) := by decide +kernel
theorem d38_27 : decode jdk_42_method_92_code 27 = .ok (.aload_n 0, 1) := by decide +kernel
theorem d38_28 : decode jdk_42_method_92_code 28 = .ok (.invokevirtual 492, 3) := by decide +kernel
theorem d38_31 : decode jdk_42_method_92_code 31 = .ok (.ifCond .eq 16, 3) := by decide +kernel
theorem d38_34 : decode jdk_42_method_92_code 34 = .ok (.aload_n 0, 1) := by decide +kernel
theorem d38_35 : decode jdk_42_method_92_code 35 = .ok (.getfield 9, 3) := by decide +kernel
theorem d38_38 : decode jdk_42_method_92_code 38 = .ok (.iload_n 1, 1) := by decide +kernel
theorem d38_39 : decode jdk_42_method_92_code 39 = .ok (.iload 4, 2) := by decide +kernel
theorem d38_41 : decode jdk_42_method_92_code 41 = .ok (.invokestatic 685, 3) := by decide +kernel
theorem d38_44 : decode jdk_42_method_92_code 44 = .ok (.goto 13, 3) := by decide +kernel
theorem d38_57 : decode jdk_42_method_92_code 57 = .ok (.areturn, 1) := by decide +kernel
theorem pn_38 : plainFor (⟨"java/lang/String", "substring", "(II)Ljava/lang/String;"⟩ : MethodName) = true := plainFor_of_name (by first | (simp [plainName, overriddenIn]; done) | decide +kernel)
theorem pd__III_V : parseMethodDescriptor "(III)V" = some ⟨[.int, .int, .int], none⟩ := by decide +kernel
theorem pd___BII_Ljava_lang_String_ : parseMethodDescriptor "([BII)Ljava/lang/String;" = some ⟨[(.array .byte), .int, .int], some (.object "java/lang/String")⟩ := by decide +kernel
theorem ef_con_sbs (m : MethodId) (t b : Addr) (cs : List Int32) (s e : Nat) (fm : Value) (cz : Int32)  : entryFrame m #[(.ref t), (.int (Int32.ofNat s)), (.int (Int32.ofNat e))] 5 = mkF m 0 #[.val (.ref t), .val (.int (Int32.ofNat s)), .val (.int (Int32.ofNat e)), .unset, .unset] [] := by first | (simp [entryFrame, mkF, argsToLocals, Value.category]; done) | rfl
set_option maxRecDepth 65536 in
set_option maxHeartbeats 40000000 in
theorem con_sbs (l : Launch) (Z : State) (a0 : Array Value) (hw : ∀ d ∈ tables_1, d.before a0 Z = true) (n0 : Nat) (h0 : Heap) (Z0 : n0 ≤ h0.size) (t b : Addr) (cs : List Int32) (s e : Nat) (fm : Value) (cz : Int32) (od0 : Old Z n0 h0) (SF : Sta Z Z.heap "jdk/internal/util/Preconditions" "SIOOBE_FORMATTER" "Ljava/util/function/BiFunction;" fm) (hfm : fm.isRef = true) (SZ : Sta Z Z.heap "java/lang/String" "COMPACT_STRINGS" "Z" (.int cz)) (hcz : ¬ cz = 0) (E1 : Exa Z h0 t "java/lang/String") (FV : Fld Z h0 t "java/lang/String" "value" "[B" (.ref b)) (FC : Fld Z h0 t "java/lang/String" "coder" "B" (.int (own_coder cs))) (AB : Ary Z h0 b .byte (own_enc cs)) (hse : s ≤ e) (hen : e ≤ cs.length) (hn : cs.length ≤ 24) (hp : own_pfx cs = cs.length) :
    ConW l Z own_EL n0 (⟨"java/lang/String", "substring", "(II)Ljava/lang/String;"⟩ : MethodName) jdk_42_method_92_code 5 (some (.object "java/lang/String")) ({ frames := 4, cells := 2, slots := 28, locals := 76 } : Room) #[(.ref t), (.int (Int32.ofNat s)), (.int (Int32.ofNat e))] h0 [] (Val fun w h' => ∃ t b, w = .ref t ∧ Ext h0 h' ∧ Exa Z h' t "java/lang/String" ∧ Fld Z h' t "java/lang/String" "value" "[B" (.ref b) ∧ Fld Z h' t "java/lang/String" "coder" "B" (.int (own_coder (own_sub cs s e))) ∧ Ary Z h' b .byte (own_enc (own_sub cs s e))) := by
  refine ConW.of_run (own_EW hw) pn_38 (fun m => ef_con_sbs m t b cs s e fm cz ) ?_
  intro vm hal hsf
  refine RunW.aloadN d38_0 rfl rfl (pc' := 1) rfl ?_
  refine RunW.callV (k' := 0) (n' := 0) (a := t) (as := []) (rest := []) (con_len l Z a0 hw n0 h0 Z0 t b cs cz od0 SZ hcz E1 FV FC AB hn) (by rintro _ _ ⟨_, -, -, rfl⟩; exact ⟨[], Keep.refl _ _, all0⟩) E1 d38_1 (hw _ (List.mem_of_getElem? (i := 75) rfl)) (hw _ (List.mem_of_getElem? (i := 76) rfl)) (fun s hZ => notFace_of_selects (args := #[]) (mvT hZ (hw _ (List.mem_of_getElem? (i := 78) rfl)))) (hw _ (List.mem_of_getElem? (i := 78) rfl)) (hw _ (List.mem_of_getElem? (i := 77) rfl)) (hw _ (List.mem_of_getElem? (i := 1) rfl)) (hw _ (List.mem_of_getElem? (i := 79) rfl)) (by decide) pd___I rfl rfl rfl (by decide) (by show (0 : Nat) + (1 + 11) + 13 ≤ _; decide) (by decide) (by decide) (by decide) (by decide) (pc' := 4) rfl ?_
  rintro _ _ ⟨_, rfl, rfl, rfl⟩ -
  show RunW l Z own_EL n0 "java/lang/String" jdk_42_method_92_code 5 (some (.object "java/lang/String")) (⟨"java/lang/String", "substring", "(II)Ljava/lang/String;"⟩ : MethodName) ({ frames := 4, cells := 2, slots := 28, locals := 76 } : Room) _ 4 #[.val (.ref t), .val (.int (Int32.ofNat s)), .val (.int (Int32.ofNat e)), .unset, .unset] [(.int (Int32.ofNat cs.length))] h0 vm 0 0
  refine RunW.istoreN (l' := #[.val (.ref t), .val (.int (Int32.ofNat s)), .val (.int (Int32.ofNat e)), .val (.int (Int32.ofNat cs.length)), .unset]) d38_4 rfl (pc' := 5) rfl ?_
  refine RunW.iloadN d38_5 rfl (pc' := 6) rfl ?_
  refine RunW.iloadN d38_6 rfl (pc' := 7) rfl ?_
  refine RunW.iloadN d38_7 rfl (pc' := 8) rfl ?_
  refine RunW.callS (k' := 0) (n' := 0) (as := [(.int (Int32.ofNat s)), (.int (Int32.ofNat e)), (.int (Int32.ofNat cs.length))]) (rest := []) (con_cbe l Z a0 hw n0 h0 Z0 s e cs.length fm od0 SF hfm hse hen hn) (by rintro _ _ ⟨rfl, rfl⟩; exact ⟨[], Keep.refl _ _, all0⟩) d38_8 (hw _ (List.mem_of_getElem? (i := 213) rfl)) (hw _ (List.mem_of_getElem? (i := 214) rfl)) (hw _ (List.mem_of_getElem? (i := 1) rfl)) (hw _ (List.mem_of_getElem? (i := 215) rfl)) (by decide) pd__III_V rfl rfl rfl (by decide) (by show (0 : Nat) + (3 + 11) + 15 ≤ _; decide) (by decide) (by decide) (by decide) (by decide) (pc' := 11) rfl ?_
  rintro _ _ ⟨rfl, rfl⟩ c11
  show RunW l Z own_EL n0 "java/lang/String" jdk_42_method_92_code 5 (some (.object "java/lang/String")) (⟨"java/lang/String", "substring", "(II)Ljava/lang/String;"⟩ : MethodName) ({ frames := 4, cells := 2, slots := 28, locals := 76 } : Room) _ 11 #[.val (.ref t), .val (.int (Int32.ofNat s)), .val (.int (Int32.ofNat e)), .val (.int (Int32.ofNat cs.length)), .unset] [] h0 vm 0 0
  refine RunW.iloadN d38_11 rfl (pc' := 12) rfl ?_
  refine RunW.if_ne d38_12 (by decide) (pc' := 22) (by decide) (pa := 15) rfl (fun hc12 => ?_) (fun hc12 => ?_)
  · refine RunW.iloadN d38_22 rfl (pc' := 23) rfl ?_
    refine RunW.iloadN d38_23 rfl (pc' := 24) rfl ?_
    refine RunW.isub d38_24 (pc' := 25) rfl ?_
    rw [own_subn hse (by omega)]
    refine RunW.istore (l' := #[.val (.ref t), .val (.int (Int32.ofNat s)), .val (.int (Int32.ofNat e)), .val (.int (Int32.ofNat cs.length)), .val (.int (Int32.ofNat (e - s)))]) d38_25 rfl (pc' := 27) rfl ?_
    refine RunW.aloadN d38_27 rfl rfl (pc' := 28) rfl ?_
    refine RunW.callV (k' := 0) (n' := 0) (a := t) (as := []) (rest := []) (con_isl l Z a0 hw n0 h0 Z0 t cs cz od0 SZ hcz FC ) (by rintro _ _ ⟨_, -, -, rfl⟩; exact ⟨[], Keep.refl _ _, all0⟩) E1 d38_28 (hw _ (List.mem_of_getElem? (i := 14) rfl)) (hw _ (List.mem_of_getElem? (i := 15) rfl)) (fun s hZ => notFace_of_selects (args := #[]) (mvT hZ (hw _ (List.mem_of_getElem? (i := 17) rfl)))) (hw _ (List.mem_of_getElem? (i := 17) rfl)) (hw _ (List.mem_of_getElem? (i := 16) rfl)) (hw _ (List.mem_of_getElem? (i := 1) rfl)) (hw _ (List.mem_of_getElem? (i := 18) rfl)) (by decide) pd___Z rfl rfl rfl (by decide) (by show (0 : Nat) + (1 + 11) + 0 ≤ _; decide) (by decide) (by decide) (by decide) (by decide) (pc' := 31) rfl ?_
    rintro _ _ ⟨_, rfl, rfl, rfl⟩ -
    show RunW l Z own_EL n0 "java/lang/String" jdk_42_method_92_code 5 (some (.object "java/lang/String")) (⟨"java/lang/String", "substring", "(II)Ljava/lang/String;"⟩ : MethodName) ({ frames := 4, cells := 2, slots := 28, locals := 76 } : Room) _ 31 #[.val (.ref t), .val (.int (Int32.ofNat s)), .val (.int (Int32.ofNat e)), .val (.int (Int32.ofNat cs.length)), .val (.int (Int32.ofNat (e - s)))] [(.int (own_isl cs))] h0 vm 0 0
    refine RunW.if_eq d38_31 (by decide) (pc' := 47) (by decide) (pa := 34) rfl (fun hc31 => ?_) (fun hc31 => ?_)
    · exact absurd hp (own_isl0 hc31)
    · refine RunW.aloadN d38_34 rfl rfl (pc' := 35) rfl ?_
      refine RunW.getF d38_35 (host := "") (Or.inl (hw _ (List.mem_of_getElem? (i := 21) rfl))) Via.refl FV (pc' := 38) rfl ?_
      refine RunW.iloadN d38_38 rfl (pc' := 39) rfl ?_
      refine RunW.iload d38_39 rfl (pc' := 41) rfl ?_
      refine RunW.callSW (k' := 2) (n' := 28) (as := [(.ref b), (.int (Int32.ofNat s)), (.int (Int32.ofNat (e - s)))]) (rest := []) (con_nst l Z a0 hw n0 h0 Z0 b cs s e (own_encP hp ▸ AB) hse hen hn (fun z => hc12 (by rw [z.1]; rfl)) hp) all0 (own_EW hw) d38_41 (hw _ (List.mem_of_getElem? (i := 219) rfl)) (hw _ (List.mem_of_getElem? (i := 220) rfl)) (hw _ (List.mem_of_getElem? (i := 24) rfl)) (hw _ (List.mem_of_getElem? (i := 221) rfl)) (by decide) pd___BII_Ljava_lang_String_ rfl rfl rfl (by decide) (by show (0 : Nat) + (3 + 11) + 62 ≤ _; decide) (by decide) (by decide) (by decide) (by decide) (pc' := 44) rfl ?_
      rintro _ h12 vm12 ⟨_, rfl, ⟨t12, b12, rfl, E12, X12, FV12, FC12, P12⟩⟩ c12
      show RunW l Z own_EL n0 "java/lang/String" jdk_42_method_92_code 5 (some (.object "java/lang/String")) (⟨"java/lang/String", "substring", "(II)Ljava/lang/String;"⟩ : MethodName) ({ frames := 4, cells := 2, slots := 28, locals := 76 } : Room) _ 44 #[.val (.ref t), .val (.int (Int32.ofNat s)), .val (.int (Int32.ofNat e)), .val (.int (Int32.ofNat cs.length)), .val (.int (Int32.ofNat (e - s)))] [(.ref t12)] h12 vm12 2 28
      have E_t_12 := E1.ext E12
      have F_t_value_12 := FV.ext E12
      have F_t_coder_12 := FC.ext E12
      have A_b_12 := AB.ext E12
      have sz12 : n0 ≤ h12.size := Nat.le_trans Z0 E12.1
      have kp12 := Keep.ext (Keep.refl h0 []) E12
      have od12 := od0.ext E12
      refine RunW.goto d38_44 (by decide) (pc' := 57) (by decide) ?_
      exact RunW.areturn d38_57 (ty := (.object "java/lang/String")) rfl rfl rfl (by decide) (by decide) ⟨_, rfl, t12, b12, rfl, Keep.toExt kp12, X12, FV12, FC12, P12⟩
  · refine RunW.iloadN d38_15 rfl (pc' := 16) rfl ?_
    refine RunW.iloadN d38_16 rfl (pc' := 17) rfl ?_
    refine RunW.icmp_ne d38_17 (by decide) (pc' := 22) (by decide) (pa := 20) rfl (fun hc17 => ?_) (fun hc17 => ?_)
    · refine RunW.iloadN d38_22 rfl (pc' := 23) rfl ?_
      refine RunW.iloadN d38_23 rfl (pc' := 24) rfl ?_
      refine RunW.isub d38_24 (pc' := 25) rfl ?_
      rw [own_subn hse (by omega)]
      refine RunW.istore (l' := #[.val (.ref t), .val (.int (Int32.ofNat s)), .val (.int (Int32.ofNat e)), .val (.int (Int32.ofNat cs.length)), .val (.int (Int32.ofNat (e - s)))]) d38_25 rfl (pc' := 27) rfl ?_
      refine RunW.aloadN d38_27 rfl rfl (pc' := 28) rfl ?_
      refine RunW.callV (k' := 0) (n' := 0) (a := t) (as := []) (rest := []) (con_isl l Z a0 hw n0 h0 Z0 t cs cz od0 SZ hcz FC ) (by rintro _ _ ⟨_, -, -, rfl⟩; exact ⟨[], Keep.refl _ _, all0⟩) E1 d38_28 (hw _ (List.mem_of_getElem? (i := 14) rfl)) (hw _ (List.mem_of_getElem? (i := 15) rfl)) (fun s hZ => notFace_of_selects (args := #[]) (mvT hZ (hw _ (List.mem_of_getElem? (i := 17) rfl)))) (hw _ (List.mem_of_getElem? (i := 17) rfl)) (hw _ (List.mem_of_getElem? (i := 16) rfl)) (hw _ (List.mem_of_getElem? (i := 1) rfl)) (hw _ (List.mem_of_getElem? (i := 18) rfl)) (by decide) pd___Z rfl rfl rfl (by decide) (by show (0 : Nat) + (1 + 11) + 0 ≤ _; decide) (by decide) (by decide) (by decide) (by decide) (pc' := 31) rfl ?_
      rintro _ _ ⟨_, rfl, rfl, rfl⟩ -
      show RunW l Z own_EL n0 "java/lang/String" jdk_42_method_92_code 5 (some (.object "java/lang/String")) (⟨"java/lang/String", "substring", "(II)Ljava/lang/String;"⟩ : MethodName) ({ frames := 4, cells := 2, slots := 28, locals := 76 } : Room) _ 31 #[.val (.ref t), .val (.int (Int32.ofNat s)), .val (.int (Int32.ofNat e)), .val (.int (Int32.ofNat cs.length)), .val (.int (Int32.ofNat (e - s)))] [(.int (own_isl cs))] h0 vm 0 0
      refine RunW.if_eq d38_31 (by decide) (pc' := 47) (by decide) (pa := 34) rfl (fun hc31 => ?_) (fun hc31 => ?_)
      · exact absurd hp (own_isl0 hc31)
      · refine RunW.aloadN d38_34 rfl rfl (pc' := 35) rfl ?_
        refine RunW.getF d38_35 (host := "") (Or.inl (hw _ (List.mem_of_getElem? (i := 21) rfl))) Via.refl FV (pc' := 38) rfl ?_
        refine RunW.iloadN d38_38 rfl (pc' := 39) rfl ?_
        refine RunW.iload d38_39 rfl (pc' := 41) rfl ?_
        refine RunW.callSW (k' := 2) (n' := 28) (as := [(.ref b), (.int (Int32.ofNat s)), (.int (Int32.ofNat (e - s)))]) (rest := []) (con_nst l Z a0 hw n0 h0 Z0 b cs s e (own_encP hp ▸ AB) hse hen hn (fun z => hc17 (by rw [z.2])) hp) all0 (own_EW hw) d38_41 (hw _ (List.mem_of_getElem? (i := 219) rfl)) (hw _ (List.mem_of_getElem? (i := 220) rfl)) (hw _ (List.mem_of_getElem? (i := 24) rfl)) (hw _ (List.mem_of_getElem? (i := 221) rfl)) (by decide) pd___BII_Ljava_lang_String_ rfl rfl rfl (by decide) (by show (0 : Nat) + (3 + 11) + 62 ≤ _; decide) (by decide) (by decide) (by decide) (by decide) (pc' := 44) rfl ?_
        rintro _ h13 vm13 ⟨_, rfl, ⟨t13, b13, rfl, E13, X13, FV13, FC13, P13⟩⟩ c13
        show RunW l Z own_EL n0 "java/lang/String" jdk_42_method_92_code 5 (some (.object "java/lang/String")) (⟨"java/lang/String", "substring", "(II)Ljava/lang/String;"⟩ : MethodName) ({ frames := 4, cells := 2, slots := 28, locals := 76 } : Room) _ 44 #[.val (.ref t), .val (.int (Int32.ofNat s)), .val (.int (Int32.ofNat e)), .val (.int (Int32.ofNat cs.length)), .val (.int (Int32.ofNat (e - s)))] [(.ref t13)] h13 vm13 2 28
        have E_t_13 := E1.ext E13
        have F_t_value_13 := FV.ext E13
        have F_t_coder_13 := FC.ext E13
        have A_b_13 := AB.ext E13
        have sz13 : n0 ≤ h13.size := Nat.le_trans Z0 E13.1
        have kp13 := Keep.ext (Keep.refl h0 []) E13
        have od13 := od0.ext E13
        refine RunW.goto d38_44 (by decide) (pc' := 57) (by decide) ?_
        exact RunW.areturn d38_57 (ty := (.object "java/lang/String")) rfl rfl rfl (by decide) (by decide) ⟨_, rfl, t13, b13, rfl, Keep.toExt kp13, X13, FV13, FC13, P13⟩
    · refine RunW.aloadN d38_20 rfl rfl (pc' := 21) rfl ?_
      have hall : own_sub cs s e = cs := by rw [own_of0 (n := s) (by omega) (hc12), own_ofe (by omega) (by omega) (hc17)]; exact own_suba cs
      skip
      exact RunW.areturn d38_21 (ty := (.object "java/lang/String")) rfl rfl rfl (by decide) (by decide) ⟨_, rfl, t, b, rfl, Keep.toExt (Keep.refl h0 []), by rw [hall]; exact ⟨E1, FV, FC, AB⟩⟩
def km_ln : List Nat → Nat
  | [] => 0
  | c :: r => if c = 0 then 0 else km_ln r + 1
def km_le (K : List Nat) (p : Nat) : Nat := p + km_ln (K.drop p)
def km_e (K : List Nat) (s e : Nat) : Nat := if e < K.length ∧ s < e ∧ K.getD (e - 1) 9 = 1 then e - 1 else e
def km_no (K : List Nat) : Nat → Nat → Option (Nat × Nat) × Nat
  | 0, p => (none, p)
  | t + 1, p => if p < K.length then (if km_e K p (km_le K p) = p then km_no K t (km_le K p + 1) else if km_e K p (km_le K p) = p + 1 ∧ K.getD p 9 = 2 then km_no K t (km_le K p + 1) else (some (p, km_e K p (km_le K p)), km_le K p + 1)) else (none, p)
def km_nc (K : List Nat) : Nat → Nat → Nat
  | 0, _ => 0
  | t + 1, p => if p < K.length then (if km_e K p (km_le K p) = p then 2 + km_nc K t (km_le K p + 1) else if km_e K p (km_le K p) = p + 1 ∧ K.getD p 9 = 2 then 4 + km_nc K t (km_le K p + 1) else 4) else 0
def km_sc (K : List Nat) : Nat → Nat → Nat × Nat
  | 0, p => (p, K.length)
  | t + 1, p => if p < K.length then (if K.getD p 9 = 3 ∧ K.getD (p + 1) 9 = 4 then (km_le K p + 1, p) else if K.getD p 9 = 2 ∧ km_e K p (km_le K p) = p + 1 then (km_le K p + 1, p) else km_sc K t (km_le K p + 1)) else (p, K.length)
def km_spc (K : List Nat) (p : Nat) : Nat := if K.getD p 9 = 2 then 6 else 2
def km_scc (K : List Nat) : Nat → Nat → Nat
  | 0, _ => 0
  | t + 1, p => if p < K.length then (if K.getD p 9 = 3 ∧ K.getD (p + 1) 9 = 4 then 2 else 2 + km_spc K p + (if K.getD p 9 = 2 ∧ km_e K p (km_le K p) = p + 1 then 0 else km_scc K t (km_le K p + 1))) else 0
/-- the classes K of a text cs: 0 LF, 1 CR, 2 $, 3 -, 4 }, as far as the reader asks -/
def own_rel (cs : List Int32) (K : List Nat) : Prop := K.length = cs.length ∧ ∀ i, i < cs.length → (cs.getD i 0 = 10 ↔ K.getD i 9 = 0) ∧ (cs.getD i 0 = 36 ↔ K.getD i 9 = 2) ∧ (i + 1 < cs.length → (cs.getD i 0 = 13 ↔ K.getD i 9 = 1) ∧ ((cs.getD i 0 = 45 ∧ cs.getD (i + 1) 0 = 125) ↔ (K.getD i 9 = 3 ∧ K.getD (i + 1) 9 = 4)))
theorem km_ln_le : ∀ r : List Nat, km_ln r ≤ r.length
  | [] => Nat.le_refl _
  | c :: r => by unfold km_ln; split; omega; have := km_ln_le r; simp; omega
theorem km_le_bd {K : List Nat} {p : Nat} (h : p ≤ K.length) : p ≤ km_le K p ∧ km_le K p ≤ K.length := by
  unfold km_le; have := km_ln_le (K.drop p); rw [List.length_drop] at this; omega
theorem km_gD {K : List Nat} {i : Nat} (h : i < K.length) : K.getD i 9 = K[i] := by simp [List.getD_eq_getElem?_getD, h]
theorem km_gO {K : List Nat} {i : Nat} (h : K.length ≤ i) : K.getD i 9 = 9 := by simp [List.getD_eq_getElem?_getD, h]
theorem own_leF {cs : List Int32} {K : List Nat} (hK : own_rel cs K) : ∀ t p, t + p = cs.length → own_ixF cs 10 t p = if km_le K p < cs.length then Int32.ofNat (km_le K p) else -1
  | 0, p, h => by
    have e : K.drop p = [] := List.drop_eq_nil_of_le (by rw [hK.1]; omega)
    rw [if_neg (by unfold km_le; omega)]; rfl
  | t + 1, p, h => by
    have hp : p < cs.length := by omega
    have hd : K.drop p = K[p]'(by rw [hK.1]; exact hp) :: K.drop (p + 1) := List.drop_eq_getElem_cons _
    have hk := (hK.2 p hp).1; rw [km_gD (by rw [hK.1]; exact hp)] at hk
    show (if cs.getD p 0 = 10 then Int32.ofNat p else own_ixF cs 10 t (p + 1)) = _
    by_cases q : cs.getD p 0 = 10
    · have : km_le K p = p := by unfold km_le; rw [hd]; unfold km_ln; rw [if_pos (hk.mp q)]; rfl
      rw [if_pos q, this, if_pos hp]
    · have : km_le K p = km_le K (p + 1) := by unfold km_le; rw [hd]; conv => lhs; unfold km_ln
                                               rw [if_neg (fun z => q (hk.mpr z))]; omega
      rw [if_neg q, this, own_leF hK t (p + 1) (by omega)]
theorem own_le1 {cs : List Int32} {K : List Nat} (hK : own_rel cs K) {p : Nat} (hp : p ≤ cs.length) (hb : cs.length < 2 ^ 29) (h : ¬ own_ixf cs 10 p < 0) : own_ixf cs 10 p = Int32.ofNat (km_le K p) := by
  unfold own_ixf at h ⊢; rw [own_leF hK _ _ (by omega)] at h ⊢
  split at h
  · rename_i q; rw [if_pos q]
  · exact absurd (by decide) h
theorem own_le2 {cs : List Int32} {K : List Nat} (hK : own_rel cs K) {p : Nat} (hp : p ≤ cs.length) (hb : cs.length < 2 ^ 29) (h : own_ixf cs 10 p < 0) : cs.length = km_le K p := by
  unfold own_ixf at h; rw [own_leF hK _ _ (by omega)] at h
  split at h
  · rename_i q; exact absurd h (own_nge (by omega))
  · rename_i q; have := km_le_bd (K := K) (p := p) (by rw [hK.1]; exact hp); rw [hK.1] at this; omega
theorem own_sb1 {e : Nat} (h : 0 < e) (h2 : e < 2 ^ 30) : Int32.ofNat e - (1 : Int32) = Int32.ofNat (e - 1) := own_subn (b := 1) (by omega) h2
theorem km_e_bd {K : List Nat} {s e : Nat} (h : s ≤ e) : s ≤ km_e K s e ∧ km_e K s e ≤ e := by unfold km_e; split <;> omega
theorem own_em {cs : List Int32} {s e : Nat} (he : e ≤ cs.length) (hs : s ≤ e) : own_emp (own_sub cs s e) = if e = s then 1 else 0 := by
  unfold own_emp; rw [own_subl he]
  by_cases q : e = s
  · rw [if_pos q, if_pos (by omega)]
  · rw [if_neg q, if_neg (by omega)]
theorem own_sub1 {cs : List Int32} {s e : Nat} (he : e ≤ cs.length) (hs : s ≤ e) : own_sub cs s e = [36] ↔ e = s + 1 ∧ cs.getD s 0 = 36 := by
  constructor
  · intro h
    have hl := congrArg List.length h; rw [own_subl he] at hl
    have e1 : e = s + 1 := by simp at hl; omega
    refine ⟨e1, ?_⟩
    unfold own_sub at h; rw [List.drop_eq_getElem_cons (show s < cs.length by omega), show e - s = 1 by omega] at h
    rw [own_gD (by omega)]; rw [List.take_succ_cons, List.take_zero] at h; injection h
  · rintro ⟨rfl, h2⟩
    unfold own_sub; rw [List.drop_eq_getElem_cons (show s < cs.length by omega), show s + 1 - s = 1 by omega, ← own_gD (show s < cs.length by omega), h2]; rfl
theorem own_dol {cs : List Int32} {K : List Nat} (hK : own_rel cs K) {s e : Nat} (he : e ≤ cs.length) (hs : s ≤ e) (hlt : s < cs.length) : own_eq (own_sub cs s e) [36] = if e = s + 1 ∧ K.getD s 9 = 2 then 1 else 0 := by
  unfold own_eq
  have := (hK.2 s hlt).2.1
  by_cases q : e = s + 1 ∧ K.getD s 9 = 2
  · rw [if_pos q, if_pos ((own_sub1 he hs).mpr ⟨q.1, this.mpr q.2⟩)]
  · rw [if_neg q, if_neg (fun z => q (by have w := (own_sub1 he hs).mp z; exact ⟨w.1, this.mp w.2⟩))]
theorem own_sw1 {cs : List Int32} {K : List Nat} (hK : own_rel cs K) {p : Nat} (hp : p < cs.length) : own_sw cs [36] p = if K.getD p 9 = 2 then 1 else 0 := by
  unfold own_sw; rw [if_neg (by simp; omega)]
  have := (hK.2 p hp).2.1
  show (if (if cs.getD p 0 = 36 then (-1 : Int32) else Int32.ofNat 0) < 0 then (1 : Int32) else 0) = _
  by_cases q : K.getD p 9 = 2
  · rw [if_pos q, if_pos (by rw [if_pos (this.mpr q)]; decide)]
  · rw [if_neg q, if_neg (by rw [if_neg (fun z => q (this.mp z))]; decide)]
theorem own_sw2 {cs : List Int32} {K : List Nat} (hK : own_rel cs K) {p : Nat} (hp : p < cs.length) : own_sw cs [45, 125] p = if K.getD p 9 = 3 ∧ K.getD (p + 1) 9 = 4 then 1 else 0 := by
  unfold own_sw
  by_cases hl : cs.length < p + [(45 : Int32), 125].length
  · rw [if_pos hl, if_neg (fun z => by have := km_gO (K := K) (i := p + 1) (by rw [hK.1]; simp at hl; omega); rw [this] at z; exact absurd z.2 (by decide))]
  · rw [if_neg hl]
    have := ((hK.2 p hp).2.2 (by simp at hl; omega)).2
    show (if (if cs.getD p 0 = 45 then (if cs.getD (p + 1) 0 = 125 then (-1 : Int32) else Int32.ofNat 1) else Int32.ofNat 0) < 0 then (1 : Int32) else 0) = _
    by_cases q : K.getD p 9 = 3 ∧ K.getD (p + 1) 9 = 4
    · have w := this.mpr q
      rw [if_pos q, if_pos (by rw [if_pos w.1, if_pos w.2]; decide)]
    · rw [if_neg q, if_neg]
      by_cases q1 : cs.getD p 0 = 45
      · rw [if_pos q1, if_neg (fun z => q (this.mp ⟨q1, z⟩))]; decide
      · rw [if_neg q1]; decide
theorem km_nc0 {K : List Nat} {t p : Nat} (h : p < K.length) (q : km_e K p (km_le K p) = p) : km_nc K (t + 1) p = 2 + km_nc K t (km_le K p + 1) ∧ km_no K (t + 1) p = km_no K t (km_le K p + 1) := by
  constructor
  · conv => lhs; unfold km_nc
    rw [if_pos h, if_pos q]
  · conv => lhs; unfold km_no
    rw [if_pos h, if_pos q]
theorem km_nc1 {K : List Nat} {t p : Nat} (h : p < K.length) (q : ¬ km_e K p (km_le K p) = p) (r : km_e K p (km_le K p) = p + 1 ∧ K.getD p 9 = 2) : km_nc K (t + 1) p = 4 + km_nc K t (km_le K p + 1) ∧ km_no K (t + 1) p = km_no K t (km_le K p + 1) := by
  constructor
  · conv => lhs; unfold km_nc
    rw [if_pos h, if_neg q, if_pos r]
  · conv => lhs; unfold km_no
    rw [if_pos h, if_neg q, if_pos r]
theorem km_nc2 {K : List Nat} {t p : Nat} (h : p < K.length) (q : ¬ km_e K p (km_le K p) = p) (r : ¬ (km_e K p (km_le K p) = p + 1 ∧ K.getD p 9 = 2)) : km_nc K (t + 1) p = 4 ∧ km_no K (t + 1) p = (some (p, km_e K p (km_le K p)), km_le K p + 1) := by
  constructor
  · conv => lhs; unfold km_nc
    rw [if_pos h, if_neg q, if_neg r]
  · conv => lhs; unfold km_no
    rw [if_pos h, if_neg q, if_neg r]
theorem km_no0 {K : List Nat} {t p : Nat} (h : ¬ p < K.length) : km_no K t p = (none, p) := by
  cases t with
  | zero => rfl
  | succ t =>
    conv => lhs; unfold km_no
    rw [if_neg h]
theorem km_nc_ge {K : List Nat} {t p : Nat} (h : p < K.length) : 2 ≤ km_nc K (t + 1) p ∧ (¬ km_e K p (km_le K p) = p → 4 ≤ km_nc K (t + 1) p) := by
  by_cases q : km_e K p (km_le K p) = p
  · have := (km_nc0 (t := t) h q).1; exact ⟨by omega, fun z => absurd q z⟩
  · by_cases r : km_e K p (km_le K p) = p + 1 ∧ K.getD p 9 = 2
    · have := (km_nc1 (t := t) h q r).1; exact ⟨by omega, fun _ => by omega⟩
    · have := (km_nc2 (t := t) h q r).1; exact ⟨by omega, fun _ => by omega⟩
theorem own_emT {cs : List Int32} {s e : Nat} (he : e ≤ cs.length) (hs : s ≤ e) (h : ¬ own_emp (own_sub cs s e) = 0) : e = s := by
  rw [own_em he hs] at h; split at h; assumption; exact absurd rfl h
theorem own_emF {cs : List Int32} {s e : Nat} (he : e ≤ cs.length) (hs : s ≤ e) (h : own_emp (own_sub cs s e) = 0) : ¬ e = s := fun z => by
  rw [own_em he hs, if_pos z] at h; exact absurd h (by decide)
theorem own_dolT {cs : List Int32} {K : List Nat} (hK : own_rel cs K) {s e : Nat} (he : e ≤ cs.length) (hs : s ≤ e) (hlt : s < cs.length) (h : ¬ own_eq (own_sub cs s e) [36] = 0) : e = s + 1 ∧ K.getD s 9 = 2 := by
  rw [own_dol hK he hs hlt] at h; split at h; assumption; exact absurd rfl h
theorem own_dolF {cs : List Int32} {K : List Nat} (hK : own_rel cs K) {s e : Nat} (he : e ≤ cs.length) (hs : s ≤ e) (hlt : s < cs.length) (h : own_eq (own_sub cs s e) [36] = 0) : ¬ (e = s + 1 ∧ K.getD s 9 = 2) := fun z => by
  rw [own_dol hK he hs hlt, if_pos z] at h; exact absurd h (by decide)
theorem own_sw1T {cs : List Int32} {K : List Nat} (hK : own_rel cs K) {p : Nat} (hp : p < cs.length) (h : ¬ own_sw cs [36] p = 0) : K.getD p 9 = 2 := by
  rw [own_sw1 hK hp] at h; split at h; assumption; exact absurd rfl h
theorem own_sw1F {cs : List Int32} {K : List Nat} (hK : own_rel cs K) {p : Nat} (hp : p < cs.length) (h : own_sw cs [36] p = 0) : ¬ K.getD p 9 = 2 := fun z => by
  rw [own_sw1 hK hp, if_pos z] at h; exact absurd h (by decide)
theorem own_sw2T {cs : List Int32} {K : List Nat} (hK : own_rel cs K) {p : Nat} (hp : p < cs.length) (h : ¬ own_sw cs [45, 125] p = 0) : K.getD p 9 = 3 ∧ K.getD (p + 1) 9 = 4 := by
  rw [own_sw2 hK hp] at h; split at h; assumption; exact absurd rfl h
theorem own_sw2F {cs : List Int32} {K : List Nat} (hK : own_rel cs K) {p : Nat} (hp : p < cs.length) (h : own_sw cs [45, 125] p = 0) : ¬ (K.getD p 9 = 3 ∧ K.getD (p + 1) 9 = 4) := fun z => by
  rw [own_sw2 hK hp, if_pos z] at h; exact absurd h (by decide)
theorem km_sp2 (K : List Nat) (p : Nat) : 2 ≤ km_spc K p := by unfold km_spc; split <;> omega
theorem own_d1c : own_coder [(36 : Int32)] = 0 := by decide
theorem own_d1e : own_enc [(36 : Int32)] = [.int (36 : Int32)] := by unfold own_enc; rw [if_pos (by decide)]; rfl
theorem own_d1q : own_chr [(36 : Int32)] := by intro c hc; simp only [List.mem_cons, List.not_mem_nil, or_false] at hc; subst hc; decide
theorem own_d1p : own_pfx [(36 : Int32)] = [(36 : Int32)].length := by decide
def km_cn (K : List Nat) (e : Nat) : Nat → Nat → Nat
  | 0, _ => 0
  | t + 1, i => if i < e then km_cn K e t (km_le K i + 1) + 1 else 0
theorem km_cn0 {K : List Nat} {e t i : Nat} (h : ¬ i < e) : km_cn K e t i = 0 := by
  cases t with
  | zero => rfl
  | succ t =>
    conv => lhs; unfold km_cn
    rw [if_neg h]
theorem km_cnS {K : List Nat} {e t i : Nat} (h : i < e) : km_cn K e (t + 1) i = km_cn K e t (km_le K i + 1) + 1 := by
  conv => lhs; unfold km_cn
  rw [if_pos h]
theorem km_cn_le {K : List Nat} {e : Nat} : ∀ t i, km_cn K e t i ≤ e - i
  | 0, i => Nat.zero_le _
  | t + 1, i => by
    by_cases h : i < e
    · rw [km_cnS h]; have := km_cn_le (K := K) (e := e) t (km_le K i + 1); have : i ≤ km_le K i := by unfold km_le; omega
      omega
    · rw [km_cn0 h]; omega
theorem km_cnI {K : List Nat} {e f i t : Nat} (h : km_cn K e f i = t + 1) : ∃ g, f = g + 1 ∧ i < e ∧ km_cn K e g (km_le K i + 1) = t := by
  cases f with
  | zero => exact absurd h (by show ¬ 0 = t + 1; omega)
  | succ g =>
    by_cases q : i < e
    · rw [km_cnS q] at h; exact ⟨g, rfl, q, by omega⟩
    · rw [km_cn0 q] at h; omega
theorem km_s0 {K : List Nat} {t p : Nat} (h : p < K.length) (q : K.getD p 9 = 3 ∧ K.getD (p + 1) 9 = 4) : km_scc K (t + 1) p = 2 ∧ km_sc K (t + 1) p = (km_le K p + 1, p) := by
  constructor
  · conv => lhs; unfold km_scc
    rw [if_pos h, if_pos q]
  · conv => lhs; unfold km_sc
    rw [if_pos h, if_pos q]
theorem km_s1 {K : List Nat} {t p : Nat} (h : p < K.length) (q : ¬ (K.getD p 9 = 3 ∧ K.getD (p + 1) 9 = 4)) (r : K.getD p 9 = 2 ∧ km_e K p (km_le K p) = p + 1) : km_scc K (t + 1) p = 2 + km_spc K p ∧ km_sc K (t + 1) p = (km_le K p + 1, p) := by
  constructor
  · conv => lhs; unfold km_scc
    rw [if_pos h, if_neg q, if_pos r]; rfl
  · conv => lhs; unfold km_sc
    rw [if_pos h, if_neg q, if_pos r]
theorem km_s2 {K : List Nat} {t p : Nat} (h : p < K.length) (q : ¬ (K.getD p 9 = 3 ∧ K.getD (p + 1) 9 = 4)) (r : ¬ (K.getD p 9 = 2 ∧ km_e K p (km_le K p) = p + 1)) : km_scc K (t + 1) p = 2 + km_spc K p + km_scc K t (km_le K p + 1) ∧ km_sc K (t + 1) p = km_sc K t (km_le K p + 1) := by
  constructor
  · conv => lhs; unfold km_scc
    rw [if_pos h, if_neg q, if_neg r]
  · conv => lhs; unfold km_sc
    rw [if_pos h, if_neg q, if_neg r]
theorem km_s9 {K : List Nat} {t p : Nat} (h : ¬ p < K.length) : km_sc K t p = (p, K.length) ∧ km_scc K t p = 0 := by
  cases t with
  | zero => exact ⟨rfl, rfl⟩
  | succ t =>
    constructor
    · conv => lhs; unfold km_sc
      rw [if_neg h]
    · conv => lhs; unfold km_scc
      rw [if_neg h]
theorem km_sge {K : List Nat} {t p : Nat} (h : p < K.length) : 2 ≤ km_scc K (t + 1) p ∧ (¬ (K.getD p 9 = 3 ∧ K.getD (p + 1) 9 = 4) → 2 + km_spc K p ≤ km_scc K (t + 1) p) := by
  by_cases q : K.getD p 9 = 3 ∧ K.getD (p + 1) 9 = 4
  · have := (km_s0 (t := t) h q).1; exact ⟨by omega, fun z => absurd q z⟩
  · by_cases r : K.getD p 9 = 2 ∧ km_e K p (km_le K p) = p + 1
    · have := (km_s1 (t := t) h q r).1; exact ⟨by omega, fun _ => by omega⟩
    · have := (km_s2 (t := t) h q r).1; exact ⟨by omega, fun _ => by omega⟩
theorem own_ite0 {P : Prop} [Decidable P] (h : (if P then (1 : Int32) else 0) = 0) : ¬ P := fun z => by rw [if_pos z] at h; exact absurd h (by decide)
theorem own_ite1 {P : Prop} [Decidable P] (h : ¬ (if P then (1 : Int32) else 0) = 0) : P := by split at h; assumption; exact absurd rfl h
theorem own_m1c : own_coder [(45 : Int32), (125 : Int32)] = 0 := by decide
theorem own_m1e : own_enc [(45 : Int32), (125 : Int32)] = [.int (45 : Int32), .int (125 : Int32)] := by unfold own_enc; rw [if_pos (by decide)]; rfl
theorem own_m1q : own_chr [(45 : Int32), (125 : Int32)] := by intro c hc; simp only [List.mem_cons, List.not_mem_nil, or_false] at hc; rcases hc with rfl | rfl <;> decide
theorem own_m1p : own_pfx [(45 : Int32), (125 : Int32)] = [(45 : Int32), (125 : Int32)].length := by decide
theorem own_p1c : own_coder [(123 : Int32), (49 : Int32), (58 : Int32)] = 0 := by decide
theorem own_p1e : own_enc [(123 : Int32), (49 : Int32), (58 : Int32)] = [.int (123 : Int32), .int (49 : Int32), .int (58 : Int32)] := by unfold own_enc; rw [if_pos (by decide)]; rfl
theorem own_p1q : own_chr [(123 : Int32), (49 : Int32), (58 : Int32)] := by intro c hc; simp only [List.mem_cons, List.not_mem_nil, or_false] at hc; rcases hc with rfl | rfl | rfl <;> decide
theorem own_p1p : own_pfx [(123 : Int32), (49 : Int32), (58 : Int32)] = [(123 : Int32), (49 : Int32), (58 : Int32)].length := by decide
theorem d23_0 : decode prog_54_method_8_code 0 = .ok (.aload_n 0, 1) := by decide +kernel
theorem d23_1 : decode prog_54_method_8_code 1 = .ok (.bipush 10, 2) := by decide +kernel
theorem d23_3 : decode prog_54_method_8_code 3 = .ok (.iload_n 1, 1) := by decide +kernel
theorem d23_4 : decode prog_54_method_8_code 4 = .ok (.invokevirtual 63, 3) := by decide +kernel
theorem d23_7 : decode prog_54_method_8_code 7 = .ok (.istore_n 2, 1) := by decide +kernel
theorem d23_8 : decode prog_54_method_8_code 8 = .ok (.iload_n 2, 1) := by decide +kernel
theorem d23_9 : decode prog_54_method_8_code 9 = .ok (.ifCond .ge 10, 3) := by decide +kernel
theorem d23_12 : decode prog_54_method_8_code 12 = .ok (.aload_n 0, 1) := by decide +kernel
theorem d23_13 : decode prog_54_method_8_code 13 = .ok (.invokevirtual 26, 3) := by decide +kernel
theorem d23_16 : decode prog_54_method_8_code 16 = .ok (.goto 4, 3) := by decide +kernel
theorem d23_19 : decode prog_54_method_8_code 19 = .ok (.iload_n 2, 1) := by decide +kernel
theorem d23_20 : decode prog_54_method_8_code 20 = .ok (.ireturn, 1) := by decide +kernel
theorem pn_23 : plainFor (⟨"com/example/wireform/wireform/text/Lines", "lineEnd", "(Ljava/lang/String;I)I"⟩ : MethodName) = true := plainFor_of_name (by first | (simp [plainName, overriddenIn]; done) | decide +kernel)
theorem ef_con_lnd (m : MethodId) (t b : Addr) (cs : List Int32) (K : List Nat) (p : Nat) (cz : Int32)  : entryFrame m #[(.ref t), (.int (Int32.ofNat p))] 3 = mkF m 0 #[.val (.ref t), .val (.int (Int32.ofNat p)), .unset] [] := by first | (simp [entryFrame, mkF, argsToLocals, Value.category]; done) | rfl
set_option maxRecDepth 65536 in
set_option maxHeartbeats 40000000 in
theorem con_lnd (l : Launch) (Z : State) (a0 : Array Value) (hw : ∀ d ∈ tables_1, d.before a0 Z = true) (n0 : Nat) (h0 : Heap) (Z0 : n0 ≤ h0.size) (t b : Addr) (cs : List Int32) (K : List Nat) (p : Nat) (cz : Int32) (od0 : Old Z n0 h0) (SZ : Sta Z Z.heap "java/lang/String" "COMPACT_STRINGS" "Z" (.int cz)) (hcz : ¬ cz = 0) (E1 : Exa Z h0 t "java/lang/String") (FV : Fld Z h0 t "java/lang/String" "value" "[B" (.ref b)) (FC : Fld Z h0 t "java/lang/String" "coder" "B" (.int (own_coder cs))) (AB : Ary Z h0 b .byte (own_enc cs)) (hp : own_pfx cs = cs.length) (hn : cs.length ≤ 15) (hch : own_chr cs) (hK : own_rel cs K) (hpl : p ≤ cs.length) :
    Con l Z n0 (⟨"com/example/wireform/wireform/text/Lines", "lineEnd", "(Ljava/lang/String;I)I"⟩ : MethodName) prog_54_method_8_code 3 (some .int) ({ frames := 3, cells := 0, slots := 0, locals := 46 } : Room) #[(.ref t), (.int (Int32.ofNat p))] h0 (Val (PV (.int (Int32.ofNat (km_le K p))) h0)) := by
  refine Con.of_run pn_23 (fun m => ef_con_lnd m t b cs K p cz ) ?_
  refine Run.aloadN d23_0 rfl rfl (pc' := 1) rfl ?_
  refine Run.bipush (10 : Int32) d23_1 (by decide) (pc' := 3) rfl ?_
  refine Run.iloadN d23_3 rfl (pc' := 4) rfl ?_
  refine Run.callV (k' := 0) (n' := 0) (a := t) (as := [(.int (10 : Int32)), (.int (Int32.ofNat p))]) (rest := []) (con_ixi l Z a0 hw n0 h0 Z0 t b cs (10 : Int32) p cz od0 SZ hcz E1 FV FC AB hp (by omega) (by omega) hch (by decide) (by decide)) E1 d23_4 (hw _ (List.mem_of_getElem? (i := 124) rfl)) (hw _ (List.mem_of_getElem? (i := 125) rfl)) (fun s hZ => notFace_of_selects (args := #[]) (mvT hZ (hw _ (List.mem_of_getElem? (i := 127) rfl)))) (hw _ (List.mem_of_getElem? (i := 127) rfl)) (hw _ (List.mem_of_getElem? (i := 126) rfl)) (hw _ (List.mem_of_getElem? (i := 1) rfl)) (hw _ (List.mem_of_getElem? (i := 128) rfl)) (by decide) pd__II_I rfl rfl rfl (by decide) (by show (0 : Nat) + (3 + 11) + 32 ≤ _; decide) (by decide) (by decide) (by decide) (by decide) (pc' := 7) rfl ?_
  rintro _ _ ⟨_, rfl, rfl, rfl⟩
  show Run l Z n0 "com/example/wireform/wireform/text/Lines" prog_54_method_8_code 3 (some .int) (⟨"com/example/wireform/wireform/text/Lines", "lineEnd", "(Ljava/lang/String;I)I"⟩ : MethodName) ({ frames := 3, cells := 0, slots := 0, locals := 46 } : Room) _ 7 #[.val (.ref t), .val (.int (Int32.ofNat p)), .unset] [(.int (own_ixf cs (10 : Int32) p))] h0 0 0
  refine Run.istoreN (l' := #[.val (.ref t), .val (.int (Int32.ofNat p)), .val (.int (own_ixf cs (10 : Int32) p))]) d23_7 rfl (pc' := 8) rfl ?_
  refine Run.iloadN d23_8 rfl (pc' := 9) rfl ?_
  refine Run.if_ge d23_9 (by decide) (pc' := 19) (by decide) (pa := 12) rfl (fun hc9 => ?_) (fun hc9 => ?_)
  · refine Run.iloadN d23_19 rfl (pc' := 20) rfl ?_
    exact Run.ireturn d23_20 rfl (by decide) (by decide) ⟨_, rfl, congrArg Value.int ((own_le1 hK hpl (by omega) hc9).symm), rfl⟩
  · refine Run.aloadN d23_12 rfl rfl (pc' := 13) rfl ?_
    refine Run.callV (k' := 0) (n' := 0) (a := t) (as := []) (rest := []) (con_len l Z a0 hw n0 h0 Z0 t b cs cz od0 SZ hcz E1 FV FC AB (by omega)) E1 d23_13 (hw _ (List.mem_of_getElem? (i := 117) rfl)) (hw _ (List.mem_of_getElem? (i := 76) rfl)) (fun s hZ => notFace_of_selects (args := #[]) (mvT hZ (hw _ (List.mem_of_getElem? (i := 78) rfl)))) (hw _ (List.mem_of_getElem? (i := 78) rfl)) (hw _ (List.mem_of_getElem? (i := 77) rfl)) (hw _ (List.mem_of_getElem? (i := 1) rfl)) (hw _ (List.mem_of_getElem? (i := 79) rfl)) (by decide) pd___I rfl rfl rfl (by decide) (by show (0 : Nat) + (1 + 11) + 13 ≤ _; decide) (by decide) (by decide) (by decide) (by decide) (pc' := 16) rfl ?_
    rintro _ _ ⟨_, rfl, rfl, rfl⟩
    show Run l Z n0 "com/example/wireform/wireform/text/Lines" prog_54_method_8_code 3 (some .int) (⟨"com/example/wireform/wireform/text/Lines", "lineEnd", "(Ljava/lang/String;I)I"⟩ : MethodName) ({ frames := 3, cells := 0, slots := 0, locals := 46 } : Room) _ 16 #[.val (.ref t), .val (.int (Int32.ofNat p)), .val (.int (own_ixf cs (10 : Int32) p))] [(.int (Int32.ofNat cs.length))] h0 0 0
    refine Run.goto d23_16 (by decide) (pc' := 20) (by decide) ?_
    exact Run.ireturn d23_20 rfl (by decide) (by decide) ⟨_, rfl, congrArg Value.int (by rw [← own_le2 hK hpl (by omega) hc9]), rfl⟩
theorem d37_0 : decode prog_54_method_9_code 0 = .ok (.iload_n 2, 1) := by decide +kernel
theorem d37_1 : decode prog_54_method_9_code 1 = .ok (.aload_n 0, 1) := by decide +kernel
theorem d37_2 : decode prog_54_method_9_code 2 = .ok (.invokevirtual 26, 3) := by decide +kernel
theorem d37_5 : decode prog_54_method_9_code 5 = .ok (.if_icmp .ge 24, 3) := by decide +kernel
theorem d37_8 : decode prog_54_method_9_code 8 = .ok (.iload_n 2, 1) := by decide +kernel
theorem d37_9 : decode prog_54_method_9_code 9 = .ok (.iload_n 1, 1) := by decide +kernel
theorem d37_10 : decode prog_54_method_9_code 10 = .ok (.if_icmp .le 19, 3) := by decide +kernel
theorem d37_13 : decode prog_54_method_9_code 13 = .ok (.aload_n 0, 1) := by decide +kernel
theorem d37_14 : decode prog_54_method_9_code 14 = .ok (.iload_n 2, 1) := by decide +kernel
theorem d37_15 : decode prog_54_method_9_code 15 = .ok (.iconst 1, 1) := by decide +kernel
theorem d37_16 : decode prog_54_method_9_code 16 = .ok (.isub, 1) := by decide +kernel
theorem d37_17 : decode prog_54_method_9_code 17 = .ok (.invokevirtual 67, 3) := by decide +kernel
theorem d37_20 : decode prog_54_method_9_code 20 = .ok (.bipush 13, 2) := by decide +kernel
theorem d37_22 : decode prog_54_method_9_code 22 = .ok (.if_icmp .ne 7, 3) := by decide +kernel
theorem d37_25 : decode prog_54_method_9_code 25 = .ok (.iconst 1, 1) := by decide +kernel
theorem d37_26 : decode prog_54_method_9_code 26 = .ok (.goto 4, 3) := by decide +kernel
theorem d37_29 : decode prog_54_method_9_code 29 = .ok (.iconst 0, 1) := by decide +kernel
theorem d37_30 : decode prog_54_method_9_code 30 = .ok (.istore_n 3, 1) := by decide +kernel
theorem d37_31 : decode prog_54_method_9_code 31 = .ok (.aload_n 0, 1) := by decide +kernel
theorem d37_32 : decode prog_54_method_9_code 32 = .ok (.iload_n 1, 1) := by decide +kernel
theorem d37_33 : decode prog_54_method_9_code 33 = .ok (.iload_n 3, 1) := by decide +kernel
theorem d37_34 : decode prog_54_method_9_code 34 = .ok (.ifCond .eq 9, 3) := by decide +kernel
theorem d37_37 : decode prog_54_method_9_code 37 = .ok (.iload_n 2, 1) := by decide +kernel
theorem d37_38 : decode prog_54_method_9_code 38 = .ok (.iconst 1, 1) := by decide +kernel
theorem d37_39 : decode prog_54_method_9_code 39 = .ok (.isub, 1) := by decide +kernel
theorem d37_40 : decode prog_54_method_9_code 40 = .ok (.goto 4, 3) := by decide +kernel
theorem d37_43 : decode prog_54_method_9_code 43 = .ok (.iload_n 2, 1) := by decide +kernel
theorem d37_44 : decode prog_54_method_9_code 44 = .ok (.invokevirtual 71, 3) := by decide +kernel
theorem d37_47 : decode prog_54_method_9_code 47 = .ok (.areturn, 1) := by decide +kernel
theorem pn_37 : plainFor (⟨"com/example/wireform/wireform/text/Lines", "lineText", "(Ljava/lang/String;II)Ljava/lang/String;"⟩ : MethodName) = true := plainFor_of_name (by first | (simp [plainName, overriddenIn]; done) | decide +kernel)
theorem pd__I_C : parseMethodDescriptor "(I)C" = some ⟨[.int], some .char⟩ := by decide +kernel
theorem pd__II_Ljava_lang_String_ : parseMethodDescriptor "(II)Ljava/lang/String;" = some ⟨[.int, .int], some (.object "java/lang/String")⟩ := by decide +kernel
theorem ef_con_ltx (m : MethodId) (t b : Addr) (cs : List Int32) (K : List Nat) (s e : Nat) (fm : Value) (cz : Int32)  : entryFrame m #[(.ref t), (.int (Int32.ofNat s)), (.int (Int32.ofNat e))] 4 = mkF m 0 #[.val (.ref t), .val (.int (Int32.ofNat s)), .val (.int (Int32.ofNat e)), .unset] [] := by first | (simp [entryFrame, mkF, argsToLocals, Value.category]; done) | rfl
set_option maxRecDepth 65536 in
set_option maxHeartbeats 40000000 in
theorem con_ltx (l : Launch) (Z : State) (a0 : Array Value) (hw : ∀ d ∈ tables_1, d.before a0 Z = true) (n0 : Nat) (h0 : Heap) (Z0 : n0 ≤ h0.size) (t b : Addr) (cs : List Int32) (K : List Nat) (s e : Nat) (fm : Value) (cz : Int32) (od0 : Old Z n0 h0) (SF : Sta Z Z.heap "jdk/internal/util/Preconditions" "SIOOBE_FORMATTER" "Ljava/util/function/BiFunction;" fm) (hfm : fm.isRef = true) (SZ : Sta Z Z.heap "java/lang/String" "COMPACT_STRINGS" "Z" (.int cz)) (hcz : ¬ cz = 0) (E1 : Exa Z h0 t "java/lang/String") (FV : Fld Z h0 t "java/lang/String" "value" "[B" (.ref b)) (FC : Fld Z h0 t "java/lang/String" "coder" "B" (.int (own_coder cs))) (AB : Ary Z h0 b .byte (own_enc cs)) (hp : own_pfx cs = cs.length) (hn : cs.length ≤ 15) (hch : own_chr cs) (hK : own_rel cs K) (hse : s ≤ e) (hen : e ≤ cs.length) :
    ConW l Z own_EL n0 (⟨"com/example/wireform/wireform/text/Lines", "lineText", "(Ljava/lang/String;II)Ljava/lang/String;"⟩ : MethodName) prog_54_method_9_code 4 (some (.object "java/lang/String")) ({ frames := 5, cells := 2, slots := 28, locals := 92 } : Room) #[(.ref t), (.int (Int32.ofNat s)), (.int (Int32.ofNat e))] h0 [] (Val fun w h' => ∃ t b, w = .ref t ∧ Ext h0 h' ∧ Exa Z h' t "java/lang/String" ∧ Fld Z h' t "java/lang/String" "value" "[B" (.ref b) ∧ Fld Z h' t "java/lang/String" "coder" "B" (.int (own_coder (own_sub cs s (km_e K s e)))) ∧ Ary Z h' b .byte (own_enc (own_sub cs s (km_e K s e)))) := by
  refine ConW.of_run (own_EW hw) pn_37 (fun m => ef_con_ltx m t b cs K s e fm cz ) ?_
  intro vm hal hsf
  refine RunW.iloadN d37_0 rfl (pc' := 1) rfl ?_
  refine RunW.aloadN d37_1 rfl rfl (pc' := 2) rfl ?_
  refine RunW.callV (k' := 0) (n' := 0) (a := t) (as := []) (rest := [(.int (Int32.ofNat e))]) (con_len l Z a0 hw n0 h0 Z0 t b cs cz od0 SZ hcz E1 FV FC AB (by omega)) (by rintro _ _ ⟨_, -, -, rfl⟩; exact ⟨[], Keep.refl _ _, all0⟩) E1 d37_2 (hw _ (List.mem_of_getElem? (i := 117) rfl)) (hw _ (List.mem_of_getElem? (i := 76) rfl)) (fun s hZ => notFace_of_selects (args := #[]) (mvT hZ (hw _ (List.mem_of_getElem? (i := 78) rfl)))) (hw _ (List.mem_of_getElem? (i := 78) rfl)) (hw _ (List.mem_of_getElem? (i := 77) rfl)) (hw _ (List.mem_of_getElem? (i := 1) rfl)) (hw _ (List.mem_of_getElem? (i := 79) rfl)) (by decide) pd___I rfl rfl rfl (by decide) (by show (1 : Nat) + (1 + 11) + 13 ≤ _; decide) (by decide) (by decide) (by decide) (by decide) (pc' := 5) rfl ?_
  rintro _ _ ⟨_, rfl, rfl, rfl⟩ -
  show RunW l Z own_EL n0 "com/example/wireform/wireform/text/Lines" prog_54_method_9_code 4 (some (.object "java/lang/String")) (⟨"com/example/wireform/wireform/text/Lines", "lineText", "(Ljava/lang/String;II)Ljava/lang/String;"⟩ : MethodName) ({ frames := 5, cells := 2, slots := 28, locals := 92 } : Room) _ 5 #[.val (.ref t), .val (.int (Int32.ofNat s)), .val (.int (Int32.ofNat e)), .unset] [(.int (Int32.ofNat cs.length)), (.int (Int32.ofNat e))] h0 vm 0 0
  refine RunW.icmp_ge d37_5 (by decide) (pc' := 29) (by decide) (pa := 8) rfl (fun hc5 => ?_) (fun hc5 => ?_)
  · refine RunW.iconst (0 : Int32) d37_29 (by decide) (pc' := 30) rfl ?_
    refine RunW.istoreN (l' := #[.val (.ref t), .val (.int (Int32.ofNat s)), .val (.int (Int32.ofNat e)), .val (.int (0 : Int32))]) d37_30 rfl (pc' := 31) rfl ?_
    refine RunW.aloadN d37_31 rfl rfl (pc' := 32) rfl ?_
    refine RunW.iloadN d37_32 rfl (pc' := 33) rfl ?_
    refine RunW.iloadN d37_33 rfl (pc' := 34) rfl ?_
    refine RunW.if_eq d37_34 (by decide) (pc' := 43) (by decide) (pa := 37) rfl (fun hc34 => ?_) (fun hc34 => ?_)
    · refine RunW.iloadN d37_43 rfl (pc' := 44) rfl ?_
      refine RunW.callVW (k' := 2) (n' := 28) (a := t) (as := [(.int (Int32.ofNat s)), (.int (Int32.ofNat e))]) (rest := []) (con_sbs l Z a0 hw n0 h0 Z0 t b cs s e fm cz od0 SF hfm SZ hcz E1 FV FC AB (by omega) (by omega) (by omega) hp) all0 (own_EW hw) E1 d37_44 (hw _ (List.mem_of_getElem? (i := 208) rfl)) (hw _ (List.mem_of_getElem? (i := 209) rfl)) (fun s hZ => notFace_of_selects (args := #[]) (mvT hZ (hw _ (List.mem_of_getElem? (i := 211) rfl)))) (hw _ (List.mem_of_getElem? (i := 211) rfl)) (hw _ (List.mem_of_getElem? (i := 210) rfl)) (hw _ (List.mem_of_getElem? (i := 1) rfl)) (hw _ (List.mem_of_getElem? (i := 212) rfl)) (by decide) pd__II_Ljava_lang_String_ rfl rfl rfl (by decide) (by show (0 : Nat) + (5 + 11) + 76 ≤ _; decide) (by decide) (by decide) (by decide) (by decide) (pc' := 47) rfl ?_
      rintro _ h11 vm11 ⟨_, rfl, ⟨t11, b11, rfl, E11, X11, FV11, FC11, P11⟩⟩ c11
      show RunW l Z own_EL n0 "com/example/wireform/wireform/text/Lines" prog_54_method_9_code 4 (some (.object "java/lang/String")) (⟨"com/example/wireform/wireform/text/Lines", "lineText", "(Ljava/lang/String;II)Ljava/lang/String;"⟩ : MethodName) ({ frames := 5, cells := 2, slots := 28, locals := 92 } : Room) _ 47 #[.val (.ref t), .val (.int (Int32.ofNat s)), .val (.int (Int32.ofNat e)), .val (.int (0 : Int32))] [(.ref t11)] h11 vm11 2 28
      have E_t_11 := E1.ext E11
      have F_t_value_11 := FV.ext E11
      have F_t_coder_11 := FC.ext E11
      have A_b_11 := AB.ext E11
      have sz11 : n0 ≤ h11.size := Nat.le_trans Z0 E11.1
      have kp11 := Keep.ext (Keep.refl h0 []) E11
      have od11 := od0.ext E11
      have hz : km_e K s e = e := by unfold km_e; rw [hK.1]; exact if_neg (fun z => hc5 ((own_lt (by omega) (by omega)).mpr z.1))
      exact RunW.areturn d37_47 (ty := (.object "java/lang/String")) rfl rfl rfl (by decide) (by decide) ⟨_, rfl, t11, b11, rfl, Keep.toExt kp11, by rw [hz]; exact ⟨X11, FV11, FC11, P11⟩⟩
    · exact absurd hc34 (by decide)
  · have he2 : e < cs.length := (own_lt (by omega) (by omega)).mp hc5
    refine RunW.iloadN d37_8 rfl (pc' := 9) rfl ?_
    refine RunW.iloadN d37_9 rfl (pc' := 10) rfl ?_
    refine RunW.icmp_le d37_10 (by decide) (pc' := 29) (by decide) (pa := 13) rfl (fun hc10 => ?_) (fun hc10 => ?_)
    · refine RunW.iconst (0 : Int32) d37_29 (by decide) (pc' := 30) rfl ?_
      refine RunW.istoreN (l' := #[.val (.ref t), .val (.int (Int32.ofNat s)), .val (.int (Int32.ofNat e)), .val (.int (0 : Int32))]) d37_30 rfl (pc' := 31) rfl ?_
      refine RunW.aloadN d37_31 rfl rfl (pc' := 32) rfl ?_
      refine RunW.iloadN d37_32 rfl (pc' := 33) rfl ?_
      refine RunW.iloadN d37_33 rfl (pc' := 34) rfl ?_
      refine RunW.if_eq d37_34 (by decide) (pc' := 43) (by decide) (pa := 37) rfl (fun hc34 => ?_) (fun hc34 => ?_)
      · refine RunW.iloadN d37_43 rfl (pc' := 44) rfl ?_
        refine RunW.callVW (k' := 2) (n' := 28) (a := t) (as := [(.int (Int32.ofNat s)), (.int (Int32.ofNat e))]) (rest := []) (con_sbs l Z a0 hw n0 h0 Z0 t b cs s e fm cz od0 SF hfm SZ hcz E1 FV FC AB (by omega) (by omega) (by omega) hp) all0 (own_EW hw) E1 d37_44 (hw _ (List.mem_of_getElem? (i := 208) rfl)) (hw _ (List.mem_of_getElem? (i := 209) rfl)) (fun s hZ => notFace_of_selects (args := #[]) (mvT hZ (hw _ (List.mem_of_getElem? (i := 211) rfl)))) (hw _ (List.mem_of_getElem? (i := 211) rfl)) (hw _ (List.mem_of_getElem? (i := 210) rfl)) (hw _ (List.mem_of_getElem? (i := 1) rfl)) (hw _ (List.mem_of_getElem? (i := 212) rfl)) (by decide) pd__II_Ljava_lang_String_ rfl rfl rfl (by decide) (by show (0 : Nat) + (5 + 11) + 76 ≤ _; decide) (by decide) (by decide) (by decide) (by decide) (pc' := 47) rfl ?_
        rintro _ h12 vm12 ⟨_, rfl, ⟨t12, b12, rfl, E12, X12, FV12, FC12, P12⟩⟩ c12
        show RunW l Z own_EL n0 "com/example/wireform/wireform/text/Lines" prog_54_method_9_code 4 (some (.object "java/lang/String")) (⟨"com/example/wireform/wireform/text/Lines", "lineText", "(Ljava/lang/String;II)Ljava/lang/String;"⟩ : MethodName) ({ frames := 5, cells := 2, slots := 28, locals := 92 } : Room) _ 47 #[.val (.ref t), .val (.int (Int32.ofNat s)), .val (.int (Int32.ofNat e)), .val (.int (0 : Int32))] [(.ref t12)] h12 vm12 2 28
        have E_t_12 := E1.ext E12
        have F_t_value_12 := FV.ext E12
        have F_t_coder_12 := FC.ext E12
        have A_b_12 := AB.ext E12
        have sz12 : n0 ≤ h12.size := Nat.le_trans Z0 E12.1
        have kp12 := Keep.ext (Keep.refl h0 []) E12
        have od12 := od0.ext E12
        have hz : km_e K s e = e := by unfold km_e; rw [hK.1]; exact if_neg (fun z => hc10 ((own_lt (by omega) (by omega)).mpr z.2.1))
        exact RunW.areturn d37_47 (ty := (.object "java/lang/String")) rfl rfl rfl (by decide) (by decide) ⟨_, rfl, t12, b12, rfl, Keep.toExt kp12, by rw [hz]; exact ⟨X12, FV12, FC12, P12⟩⟩
      · exact absurd hc34 (by decide)
    · have hse2 : s < e := (own_lt (by omega) (by omega)).mp hc10
      refine RunW.aloadN d37_13 rfl rfl (pc' := 14) rfl ?_
      refine RunW.iloadN d37_14 rfl (pc' := 15) rfl ?_
      refine RunW.iconst (1 : Int32) d37_15 (by decide) (pc' := 16) rfl ?_
      refine RunW.isub d37_16 (pc' := 17) rfl ?_
      rw [own_sb1 (by omega) (by omega)]
      refine RunW.callV (k' := 0) (n' := 0) (a := t) (as := [(.int (Int32.ofNat (e - 1)))]) (rest := []) (con_cha l Z a0 hw n0 h0 Z0 t b cs (e - 1) cz fm od0 SF hfm  SZ hcz E1 FV FC AB hp (by omega) (by omega) hch) (by rintro _ _ ⟨_, -, -, rfl⟩; exact ⟨[], Keep.refl _ _, all0⟩) E1 d37_17 (hw _ (List.mem_of_getElem? (i := 207) rfl)) (hw _ (List.mem_of_getElem? (i := 10) rfl)) (fun s hZ => notFace_of_selects (args := #[]) (mvT hZ (hw _ (List.mem_of_getElem? (i := 12) rfl)))) (hw _ (List.mem_of_getElem? (i := 12) rfl)) (hw _ (List.mem_of_getElem? (i := 11) rfl)) (hw _ (List.mem_of_getElem? (i := 1) rfl)) (hw _ (List.mem_of_getElem? (i := 13) rfl)) (by decide) pd__I_C rfl rfl rfl (by decide) (by show (0 : Nat) + (2 + 11) + 40 ≤ _; decide) (by decide) (by decide) (by decide) (by decide) (pc' := 20) rfl ?_
      rintro _ _ ⟨_, rfl, rfl, rfl⟩ -
      show RunW l Z own_EL n0 "com/example/wireform/wireform/text/Lines" prog_54_method_9_code 4 (some (.object "java/lang/String")) (⟨"com/example/wireform/wireform/text/Lines", "lineText", "(Ljava/lang/String;II)Ljava/lang/String;"⟩ : MethodName) ({ frames := 5, cells := 2, slots := 28, locals := 92 } : Room) _ 20 #[.val (.ref t), .val (.int (Int32.ofNat s)), .val (.int (Int32.ofNat e)), .unset] [(.int (cs.getD (e - 1) 0))] h0 vm 0 0
      refine RunW.bipush (13 : Int32) d37_20 (by decide) (pc' := 22) rfl ?_
      refine RunW.icmp_ne d37_22 (by decide) (pc' := 29) (by decide) (pa := 25) rfl (fun hc22 => ?_) (fun hc22 => ?_)
      · refine RunW.iconst (0 : Int32) d37_29 (by decide) (pc' := 30) rfl ?_
        refine RunW.istoreN (l' := #[.val (.ref t), .val (.int (Int32.ofNat s)), .val (.int (Int32.ofNat e)), .val (.int (0 : Int32))]) d37_30 rfl (pc' := 31) rfl ?_
        refine RunW.aloadN d37_31 rfl rfl (pc' := 32) rfl ?_
        refine RunW.iloadN d37_32 rfl (pc' := 33) rfl ?_
        refine RunW.iloadN d37_33 rfl (pc' := 34) rfl ?_
        refine RunW.if_eq d37_34 (by decide) (pc' := 43) (by decide) (pa := 37) rfl (fun hc34 => ?_) (fun hc34 => ?_)
        · refine RunW.iloadN d37_43 rfl (pc' := 44) rfl ?_
          refine RunW.callVW (k' := 2) (n' := 28) (a := t) (as := [(.int (Int32.ofNat s)), (.int (Int32.ofNat e))]) (rest := []) (con_sbs l Z a0 hw n0 h0 Z0 t b cs s e fm cz od0 SF hfm SZ hcz E1 FV FC AB (by omega) (by omega) (by omega) hp) all0 (own_EW hw) E1 d37_44 (hw _ (List.mem_of_getElem? (i := 208) rfl)) (hw _ (List.mem_of_getElem? (i := 209) rfl)) (fun s hZ => notFace_of_selects (args := #[]) (mvT hZ (hw _ (List.mem_of_getElem? (i := 211) rfl)))) (hw _ (List.mem_of_getElem? (i := 211) rfl)) (hw _ (List.mem_of_getElem? (i := 210) rfl)) (hw _ (List.mem_of_getElem? (i := 1) rfl)) (hw _ (List.mem_of_getElem? (i := 212) rfl)) (by decide) pd__II_Ljava_lang_String_ rfl rfl rfl (by decide) (by show (0 : Nat) + (5 + 11) + 76 ≤ _; decide) (by decide) (by decide) (by decide) (by decide) (pc' := 47) rfl ?_
          rintro _ h13 vm13 ⟨_, rfl, ⟨t13, b13, rfl, E13, X13, FV13, FC13, P13⟩⟩ c13
          show RunW l Z own_EL n0 "com/example/wireform/wireform/text/Lines" prog_54_method_9_code 4 (some (.object "java/lang/String")) (⟨"com/example/wireform/wireform/text/Lines", "lineText", "(Ljava/lang/String;II)Ljava/lang/String;"⟩ : MethodName) ({ frames := 5, cells := 2, slots := 28, locals := 92 } : Room) _ 47 #[.val (.ref t), .val (.int (Int32.ofNat s)), .val (.int (Int32.ofNat e)), .val (.int (0 : Int32))] [(.ref t13)] h13 vm13 2 28
          have E_t_13 := E1.ext E13
          have F_t_value_13 := FV.ext E13
          have F_t_coder_13 := FC.ext E13
          have A_b_13 := AB.ext E13
          have sz13 : n0 ≤ h13.size := Nat.le_trans Z0 E13.1
          have kp13 := Keep.ext (Keep.refl h0 []) E13
          have od13 := od0.ext E13
          have hz : km_e K s e = e := by unfold km_e; rw [hK.1]; exact if_neg (fun z => hc22 (((hK.2 (e - 1) (by omega)).2.2 (by omega)).1.mpr z.2.2))
          exact RunW.areturn d37_47 (ty := (.object "java/lang/String")) rfl rfl rfl (by decide) (by decide) ⟨_, rfl, t13, b13, rfl, Keep.toExt kp13, by rw [hz]; exact ⟨X13, FV13, FC13, P13⟩⟩
        · exact absurd hc34 (by decide)
      · refine RunW.iconst (1 : Int32) d37_25 (by decide) (pc' := 26) rfl ?_
        refine RunW.goto d37_26 (by decide) (pc' := 30) (by decide) ?_
        refine RunW.istoreN (l' := #[.val (.ref t), .val (.int (Int32.ofNat s)), .val (.int (Int32.ofNat e)), .val (.int (1 : Int32))]) d37_30 rfl (pc' := 31) rfl ?_
        refine RunW.aloadN d37_31 rfl rfl (pc' := 32) rfl ?_
        refine RunW.iloadN d37_32 rfl (pc' := 33) rfl ?_
        refine RunW.iloadN d37_33 rfl (pc' := 34) rfl ?_
        refine RunW.if_eq d37_34 (by decide) (pc' := 43) (by decide) (pa := 37) rfl (fun hc34 => ?_) (fun hc34 => ?_)
        · exact absurd hc34 (by decide)
        · refine RunW.iloadN d37_37 rfl (pc' := 38) rfl ?_
          refine RunW.iconst (1 : Int32) d37_38 (by decide) (pc' := 39) rfl ?_
          refine RunW.isub d37_39 (pc' := 40) rfl ?_
          rw [own_sb1 (by omega) (by omega)]
          refine RunW.goto d37_40 (by decide) (pc' := 44) (by decide) ?_
          refine RunW.callVW (k' := 2) (n' := 28) (a := t) (as := [(.int (Int32.ofNat s)), (.int (Int32.ofNat (e - 1)))]) (rest := []) (con_sbs l Z a0 hw n0 h0 Z0 t b cs s (e - 1) fm cz od0 SF hfm SZ hcz E1 FV FC AB (by omega) (by omega) (by omega) hp) all0 (own_EW hw) E1 d37_44 (hw _ (List.mem_of_getElem? (i := 208) rfl)) (hw _ (List.mem_of_getElem? (i := 209) rfl)) (fun s hZ => notFace_of_selects (args := #[]) (mvT hZ (hw _ (List.mem_of_getElem? (i := 211) rfl)))) (hw _ (List.mem_of_getElem? (i := 211) rfl)) (hw _ (List.mem_of_getElem? (i := 210) rfl)) (hw _ (List.mem_of_getElem? (i := 1) rfl)) (hw _ (List.mem_of_getElem? (i := 212) rfl)) (by decide) pd__II_Ljava_lang_String_ rfl rfl rfl (by decide) (by show (0 : Nat) + (5 + 11) + 76 ≤ _; decide) (by decide) (by decide) (by decide) (by decide) (pc' := 47) rfl ?_
          rintro _ h14 vm14 ⟨_, rfl, ⟨t14, b14, rfl, E14, X14, FV14, FC14, P14⟩⟩ c14
          show RunW l Z own_EL n0 "com/example/wireform/wireform/text/Lines" prog_54_method_9_code 4 (some (.object "java/lang/String")) (⟨"com/example/wireform/wireform/text/Lines", "lineText", "(Ljava/lang/String;II)Ljava/lang/String;"⟩ : MethodName) ({ frames := 5, cells := 2, slots := 28, locals := 92 } : Room) _ 47 #[.val (.ref t), .val (.int (Int32.ofNat s)), .val (.int (Int32.ofNat e)), .val (.int (1 : Int32))] [(.ref t14)] h14 vm14 2 28
          have E_t_14 := E1.ext E14
          have F_t_value_14 := FV.ext E14
          have F_t_coder_14 := FC.ext E14
          have A_b_14 := AB.ext E14
          have sz14 : n0 ≤ h14.size := Nat.le_trans Z0 E14.1
          have kp14 := Keep.ext (Keep.refl h0 []) E14
          have od14 := od0.ext E14
          have hz : km_e K s e = e - 1 := by unfold km_e; rw [hK.1]; exact if_pos ⟨he2, hse2, ((hK.2 (e - 1) (by omega)).2.2 (by omega)).1.mp hc22⟩
          exact RunW.areturn d37_47 (ty := (.object "java/lang/String")) rfl rfl rfl (by decide) (by decide) ⟨_, rfl, t14, b14, rfl, Keep.toExt kp14, by rw [hz]; exact ⟨X14, FV14, FC14, P14⟩⟩
theorem d50_0 : decode prog_58_method_5_code 0 = .ok (.aload_n 0, 1) := by decide +kernel
theorem d50_1 : decode prog_58_method_5_code 1 = .ok (.getfield 7, 3) := by decide +kernel
theorem d50_4 : decode prog_58_method_5_code 4 = .ok (.ldc 92, 2) := by decide +kernel
theorem d50_6 : decode prog_58_method_5_code 6 = .ok (.iload_n 1, 1) := by decide +kernel
theorem d50_7 : decode prog_58_method_5_code 7 = .ok (.invokevirtual 75, 3) := by decide +kernel
theorem d50_10 : decode prog_58_method_5_code 10 = .ok (.ifCond .eq 24, 3) := by decide +kernel
theorem d50_13 : decode prog_58_method_5_code 13 = .ok (.aload_n 0, 1) := by decide +kernel
theorem d50_14 : decode prog_58_method_5_code 14 = .ok (.getfield 7, 3) := by decide +kernel
theorem d50_17 : decode prog_58_method_5_code 17 = .ok (.iload_n 1, 1) := by decide +kernel
theorem d50_18 : decode prog_58_method_5_code 18 = .ok (.iload_n 2, 1) := by decide +kernel
theorem d50_19 : decode prog_58_method_5_code 19 = .ok (.invokestatic 85, 3) := by decide +kernel
theorem d50_22 : decode prog_58_method_5_code 22 = .ok (.ldc 92, 2) := by decide +kernel
theorem d50_24 : decode prog_58_method_5_code 24 = .ok (.invokevirtual 94, 3) := by decide +kernel
theorem d50_27 : decode prog_58_method_5_code 27 = .ok (.ifCond .eq 7, 3) := by decide +kernel
theorem d50_30 : decode prog_58_method_5_code 30 = .ok (.iconst 1, 1) := by decide +kernel
theorem d50_31 : decode prog_58_method_5_code 31 = .ok (.goto 4, 3) := by decide +kernel
theorem d50_34 : decode prog_58_method_5_code 34 = .ok (.iconst 0, 1) := by decide +kernel
theorem d50_35 : decode prog_58_method_5_code 35 = .ok (.ireturn, 1) := by decide +kernel
theorem pn_50 : plainFor (⟨"com/example/wireform/wireform/text/MessageReader", "isSeparator", "(II)Z"⟩ : MethodName) = true := plainFor_of_name (by first | (simp [plainName, overriddenIn]; done) | decide +kernel)
theorem pd__Ljava_lang_Object__Z : parseMethodDescriptor "(Ljava/lang/Object;)Z" = some ⟨[(.object "java/lang/Object")], some .boolean⟩ := by decide +kernel
theorem pd__Ljava_lang_String_II_Ljava_lang_String_ : parseMethodDescriptor "(Ljava/lang/String;II)Ljava/lang/String;" = some ⟨[(.object "java/lang/String"), .int, .int], some (.object "java/lang/String")⟩ := by decide +kernel
theorem ef_con_sep (m : MethodId) (r t b : Addr) (cs : List Int32) (K : List Nat) (p e : Nat) (fm : Value) (cz : Int32)  : entryFrame m #[(.ref r), (.int (Int32.ofNat p)), (.int (Int32.ofNat e))] 3 = mkF m 0 #[.val (.ref r), .val (.int (Int32.ofNat p)), .val (.int (Int32.ofNat e))] [] := by first | (simp [entryFrame, mkF, argsToLocals, Value.category]; done) | rfl
set_option maxRecDepth 65536 in
set_option maxHeartbeats 40000000 in
theorem con_sep (l : Launch) (Z : State) (a0 : Array Value) (hw : ∀ d ∈ tables_1, d.before a0 Z = true) (n0 : Nat) (h0 : Heap) (Z0 : n0 ≤ h0.size) (r t b : Addr) (cs : List Int32) (K : List Nat) (p e : Nat) (fm : Value) (cz : Int32) (od0 : Old Z n0 h0) (SF : Sta Z Z.heap "jdk/internal/util/Preconditions" "SIOOBE_FORMATTER" "Ljava/util/function/BiFunction;" fm) (hfm : fm.isRef = true) (SZ : Sta Z Z.heap "java/lang/String" "COMPACT_STRINGS" "Z" (.int cz)) (hcz : ¬ cz = 0) (E1 : Exa Z h0 t "java/lang/String") (FV : Fld Z h0 t "java/lang/String" "value" "[B" (.ref b)) (FC : Fld Z h0 t "java/lang/String" "coder" "B" (.int (own_coder cs))) (AB : Ary Z h0 b .byte (own_enc cs)) (hp : own_pfx cs = cs.length) (hn : cs.length ≤ 15) (hch : own_chr cs) (hK : own_rel cs K) (FT : Fld Z h0 r "com/example/wireform/wireform/text/MessageReader" "text" "Ljava/lang/String;" (.ref t)) (hpl : p < cs.length) (hpe : p ≤ e) (hen : e ≤ cs.length) :
    ConW l Z own_EL n0 (⟨"com/example/wireform/wireform/text/MessageReader", "isSeparator", "(II)Z"⟩ : MethodName) prog_58_method_5_code 3 (some .boolean) ({ frames := 6, cells := (km_spc K p), slots := (100 * (km_spc K p)), locals := 107 } : Room) #[(.ref r), (.int (Int32.ofNat p)), (.int (Int32.ofNat e))] h0 [] (Val fun w h' => .int (if K.getD p 9 = 2 ∧ km_e K p e = p + 1 then (1 : Int32) else 0) = w ∧ Ext h0 h') := by
  refine ConW.of_run (own_EW hw) pn_50 (fun m => ef_con_sep m r t b cs K p e fm cz ) ?_
  intro vm hal hsf
  have hb2 := km_sp2 K p
  refine RunW.aloadN d50_0 rfl rfl (pc' := 1) rfl ?_
  refine RunW.getF d50_1 (host := "") (Or.inl (hw _ (List.mem_of_getElem? (i := 62) rfl))) Via.refl FT (pc' := 4) rfl ?_
  refine RunW.ldcT (len := 4) (z := (1 : Int32)) (bs := [(.int (36 : Int32))]) (k' := (0 + 2)) (n' := (100 * (0 + 2))) d50_4 (hw _ (List.mem_of_getElem? (i := 246) rfl)) (own_wS hw) (own_EW hw) (List.mem_of_getElem? (i := 4) rfl) (by decide) (by decide) (by decide) (by decide) (by show (0 + 0) + 2 ≤ (0 + 2); omega) (by show (0 + 2) ≤ km_spc K p; omega) (by show 100 * (0 + 0) + 8 ≤ 100 * (0 + 2); omega) (by show 100 * (0 + 2) ≤ 100 * km_spc K p; omega) (pc' := 6) rfl ?_
  intro h11 vm11 a11 b11 E11 c11 X11 FC11 FV11 A11 ns11
  have E_t_11 := E1.ext E11
  have F_t_value_11 := FV.ext E11
  have F_t_coder_11 := FC.ext E11
  have A_b_11 := AB.ext E11
  have F_r_text_11 := FT.ext E11
  have sz11 : n0 ≤ h11.size := Nat.le_trans Z0 E11.1
  have kp11 := Keep.ext (Keep.refl h0 []) E11
  have od11 := od0.ext E11
  have FCl12 : Fld Z h11 a11 "java/lang/String" "coder" "B" (.int (own_coder [(36 : Int32)])) := by rw [own_d1c]; exact FC11
  have ABl12 : Ary Z h11 b11 .byte (own_enc [(36 : Int32)]) := by rw [own_d1e]; exact A11
  refine RunW.iloadN d50_6 rfl (pc' := 7) rfl ?_
  refine RunW.callV (k' := (0 + 2)) (n' := (100 * (0 + 2))) (a := t) (as := [(.ref a11), (.int (Int32.ofNat p))]) (rest := []) (con_swi l Z a0 hw n0 h11 sz11 t b a11 b11 cs [(36 : Int32)] p cz od11 SZ hcz E_t_11 F_t_value_11 F_t_coder_11 A_b_11 X11 FV11 FCl12 ABl12 (by omega) (by decide) (by omega) hp hch own_d1p own_d1q) (by rintro _ _ ⟨_, -, -, rfl⟩; exact ⟨[], Keep.refl _ _, all0⟩) E_t_11 d50_7 (hw _ (List.mem_of_getElem? (i := 265) rfl)) (hw _ (List.mem_of_getElem? (i := 71) rfl)) (fun s hZ => notFace_of_selects (args := #[]) (mvT hZ (hw _ (List.mem_of_getElem? (i := 73) rfl)))) (hw _ (List.mem_of_getElem? (i := 73) rfl)) (hw _ (List.mem_of_getElem? (i := 72) rfl)) (hw _ (List.mem_of_getElem? (i := 1) rfl)) (hw _ (List.mem_of_getElem? (i := 74) rfl)) (by decide) pd__Ljava_lang_String_I_Z rfl rfl rfl (by show (2 : Nat) + 1 ≤ 6; decide) (by show (0 : Nat) + (8 + 11) + 27 ≤ 107; decide) (by show (0 + 2) + 0 ≤ (0 + 2); omega) (by show (0 + 2) ≤ km_spc K p; omega) (by show 100 * (0 + 2) + 0 ≤ 100 * (0 + 2); omega) (by show 100 * (0 + 2) ≤ 100 * km_spc K p; omega) (pc' := 10) rfl ?_
  rintro _ _ ⟨_, rfl, rfl, rfl⟩ -
  show RunW l Z own_EL n0 "com/example/wireform/wireform/text/MessageReader" prog_58_method_5_code 3 (some .boolean) (⟨"com/example/wireform/wireform/text/MessageReader", "isSeparator", "(II)Z"⟩ : MethodName) ({ frames := 6, cells := (km_spc K p), slots := (100 * (km_spc K p)), locals := 107 } : Room) _ 10 #[.val (.ref r), .val (.int (Int32.ofNat p)), .val (.int (Int32.ofNat e))] [(.int (own_sw cs [(36 : Int32)] p))] h11 vm11 (0 + 2) (100 * (0 + 2))
  refine RunW.if_eq d50_10 (by decide) (pc' := 34) (by decide) (pa := 13) rfl (fun hc10 => ?_) (fun hc10 => ?_)
  · refine RunW.iconst (0 : Int32) d50_34 (by decide) (pc' := 35) rfl ?_
    exact RunW.nreturn d50_35 (ty := .boolean) rfl (by simp) (by show (0 + 2) ≤ km_spc K p; omega) (by show 100 * (0 + 2) ≤ 100 * km_spc K p; omega) ⟨_, rfl, congrArg Value.int (by rw [if_neg (fun z => own_sw1F hK hpl hc10 z.1)]; rfl), Keep.toExt kp11⟩
  · have hd2 := own_sw1T hK hpl hc10
    have hb6 : km_spc K p = 6 := if_pos hd2
    refine RunW.aloadN d50_13 rfl rfl (pc' := 14) rfl ?_
    refine RunW.getF d50_14 (host := "") (Or.inl (hw _ (List.mem_of_getElem? (i := 62) rfl))) Via.refl F_r_text_11 (pc' := 17) rfl ?_
    refine RunW.iloadN d50_17 rfl (pc' := 18) rfl ?_
    refine RunW.iloadN d50_18 rfl (pc' := 19) rfl ?_
    refine RunW.callSW (k' := (0 + 4)) (n' := (100 * (0 + 4))) (as := [(.ref t), (.int (Int32.ofNat p)), (.int (Int32.ofNat e))]) (rest := []) (con_ltx l Z a0 hw n0 h11 sz11 t b cs K p e fm cz od11 SF hfm SZ hcz E_t_11 F_t_value_11 F_t_coder_11 A_b_11 hp hn hch hK hpe hen) all0 (own_EW hw) d50_19 (hw _ (List.mem_of_getElem? (i := 204) rfl)) (hw _ (List.mem_of_getElem? (i := 205) rfl)) (hw _ (List.mem_of_getElem? (i := 109) rfl)) (hw _ (List.mem_of_getElem? (i := 206) rfl)) (by decide) pd__Ljava_lang_String_II_Ljava_lang_String_ rfl rfl rfl (by show (5 : Nat) + 1 ≤ 6; decide) (by show (0 : Nat) + (4 + 11) + 92 ≤ 107; decide) (by show (0 + 2) + 2 ≤ (0 + 4); omega) (by show (0 + 4) ≤ km_spc K p; omega) (by show 100 * (0 + 2) + 28 ≤ 100 * (0 + 4); omega) (by show 100 * (0 + 4) ≤ 100 * km_spc K p; omega) (pc' := 22) rfl ?_
    rintro _ h13 vm13 ⟨_, rfl, ⟨t13, b13, rfl, E13, X13, FV13, FC13, P13⟩⟩ c13
    show RunW l Z own_EL n0 "com/example/wireform/wireform/text/MessageReader" prog_58_method_5_code 3 (some .boolean) (⟨"com/example/wireform/wireform/text/MessageReader", "isSeparator", "(II)Z"⟩ : MethodName) ({ frames := 6, cells := (km_spc K p), slots := (100 * (km_spc K p)), locals := 107 } : Room) _ 22 #[.val (.ref r), .val (.int (Int32.ofNat p)), .val (.int (Int32.ofNat e))] [(.ref t13)] h13 vm13 (0 + 4) (100 * (0 + 4))
    have E_t_13 := E_t_11.ext E13
    have F_t_value_13 := F_t_value_11.ext E13
    have F_t_coder_13 := F_t_coder_11.ext E13
    have A_b_13 := A_b_11.ext E13
    have F_r_text_13 := F_r_text_11.ext E13
    have E_a11_13 := X11.ext E13
    have F_a11_coder_13 := FCl12.ext E13
    have F_a11_value_13 := FV11.ext E13
    have A_b11_13 := ABl12.ext E13
    have sz13 : n0 ≤ h13.size := Nat.le_trans sz11 E13.1
    have kp13 := Keep.ext kp11 E13
    have od13 := od11.ext E13
    refine RunW.ldcT (len := 4) (z := (1 : Int32)) (bs := [(.int (36 : Int32))]) (k' := (0 + 6)) (n' := (100 * (0 + 6))) d50_22 (hw _ (List.mem_of_getElem? (i := 246) rfl)) (own_wS hw) (own_EW hw) (List.mem_of_getElem? (i := 4) rfl) (by decide) (by decide) (by decide) (by decide) (by show (0 + 4) + 2 ≤ (0 + 6); omega) (by show (0 + 6) ≤ km_spc K p; omega) (by show 100 * (0 + 4) + 8 ≤ 100 * (0 + 6); omega) (by show 100 * (0 + 6) ≤ 100 * km_spc K p; omega) (pc' := 24) rfl ?_
    intro h14 vm14 a14 b14 E14 c14 X14 FC14 FV14 A14 ns14
    have E_t_14 := E_t_13.ext E14
    have F_t_value_14 := F_t_value_13.ext E14
    have F_t_coder_14 := F_t_coder_13.ext E14
    have A_b_14 := A_b_13.ext E14
    have F_r_text_14 := F_r_text_13.ext E14
    have E_a11_14 := E_a11_13.ext E14
    have F_a11_coder_14 := F_a11_coder_13.ext E14
    have F_a11_value_14 := F_a11_value_13.ext E14
    have A_b11_14 := A_b11_13.ext E14
    have E_t13_14 := X13.ext E14
    have F_t13_value_14 := FV13.ext E14
    have F_t13_coder_14 := FC13.ext E14
    have A_b13_14 := P13.ext E14
    have sz14 : n0 ≤ h14.size := Nat.le_trans sz13 E14.1
    have kp14 := Keep.ext kp13 E14
    have od14 := od13.ext E14
    have FCl15 : Fld Z h14 a14 "java/lang/String" "coder" "B" (.int (own_coder [(36 : Int32)])) := by rw [own_d1c]; exact FC14
    have ABl15 : Ary Z h14 b14 .byte (own_enc [(36 : Int32)]) := by rw [own_d1e]; exact A14
    refine RunW.callV (k' := (0 + 6)) (n' := (100 * (0 + 6))) (a := t13) (as := [(.ref a14)]) (rest := []) (con_seq l Z a0 hw n0 h14 sz14 t13 b13 a14 b14 (own_sub cs p (km_e K p e)) [(36 : Int32)] cz od14 SZ hcz E_t13_14 F_t13_value_14 F_t13_coder_14 A_b13_14 X14 FV14 FCl15 ABl15 (by rw [own_subl (by have := km_e_bd (K := K) hpe; omega)]; have := km_e_bd (K := K) hpe; omega) (own_subq hch) (by decide) own_d1q) (by rintro _ _ ⟨_, -, -, rfl⟩; exact ⟨[], Keep.refl _ _, all0⟩) E_t13_14 d50_24 (hw _ (List.mem_of_getElem? (i := 247) rfl)) (hw _ (List.mem_of_getElem? (i := 248) rfl)) (fun s hZ => notFace_of_selects (args := #[]) (mvT hZ (hw _ (List.mem_of_getElem? (i := 250) rfl)))) (hw _ (List.mem_of_getElem? (i := 250) rfl)) (hw _ (List.mem_of_getElem? (i := 249) rfl)) (hw _ (List.mem_of_getElem? (i := 1) rfl)) (hw _ (List.mem_of_getElem? (i := 251) rfl)) (by decide) pd__Ljava_lang_Object__Z rfl rfl rfl (by show (1 : Nat) + 1 ≤ 6; decide) (by show (0 : Nat) + (3 + 11) + 14 ≤ 107; decide) (by show (0 + 6) + 0 ≤ (0 + 6); omega) (by show (0 + 6) ≤ km_spc K p; omega) (by show 100 * (0 + 6) + 0 ≤ 100 * (0 + 6); omega) (by show 100 * (0 + 6) ≤ 100 * km_spc K p; omega) (pc' := 27) rfl ?_
    rintro _ _ ⟨_, rfl, rfl, rfl⟩ -
    show RunW l Z own_EL n0 "com/example/wireform/wireform/text/MessageReader" prog_58_method_5_code 3 (some .boolean) (⟨"com/example/wireform/wireform/text/MessageReader", "isSeparator", "(II)Z"⟩ : MethodName) ({ frames := 6, cells := (km_spc K p), slots := (100 * (km_spc K p)), locals := 107 } : Room) _ 27 #[.val (.ref r), .val (.int (Int32.ofNat p)), .val (.int (Int32.ofNat e))] [(.int (own_eq (own_sub cs p (km_e K p e)) [(36 : Int32)]))] h14 vm14 (0 + 6) (100 * (0 + 6))
    refine RunW.if_eq d50_27 (by decide) (pc' := 34) (by decide) (pa := 30) rfl (fun hc27 => ?_) (fun hc27 => ?_)
    · refine RunW.iconst (0 : Int32) d50_34 (by decide) (pc' := 35) rfl ?_
      exact RunW.nreturn d50_35 (ty := .boolean) rfl (by simp) (by show (0 + 6) ≤ km_spc K p; omega) (by show 100 * (0 + 6) ≤ 100 * km_spc K p; omega) ⟨_, rfl, congrArg Value.int (by rw [if_neg (fun z => own_dolF hK (by have := km_e_bd (K := K) hpe; omega) (km_e_bd hpe).1 hpl hc27 ⟨z.2, z.1⟩)]; rfl), Keep.toExt kp14⟩
    · refine RunW.iconst (1 : Int32) d50_30 (by decide) (pc' := 31) rfl ?_
      refine RunW.goto d50_31 (by decide) (pc' := 35) (by decide) ?_
      exact RunW.nreturn d50_35 (ty := .boolean) rfl (by simp) (by show (0 + 6) ≤ km_spc K p; omega) (by show 100 * (0 + 6) ≤ 100 * km_spc K p; omega) ⟨_, rfl, congrArg Value.int (by rw [if_pos ⟨(own_dolT hK (by have := km_e_bd (K := K) hpe; omega) (km_e_bd hpe).1 hpl hc27).2, (own_dolT hK (by have := km_e_bd (K := K) hpe; omega) (km_e_bd hpe).1 hpl hc27).1⟩]; rfl), Keep.toExt kp14⟩
theorem d36_0 : decode prog_58_method_4_code 0 = .ok (.aload_n 0, 1) := by decide +kernel
theorem d36_1 : decode prog_58_method_4_code 1 = .ok (.getfield 61, 3) := by decide +kernel
theorem d36_4 : decode prog_58_method_4_code 4 = .ok (.aload_n 0, 1) := by decide +kernel
theorem d36_5 : decode prog_58_method_4_code 5 = .ok (.getfield 7, 3) := by decide +kernel
theorem d36_8 : decode prog_58_method_4_code 8 = .ok (.invokevirtual 65, 3) := by decide +kernel
theorem d36_11 : decode prog_58_method_4_code 11 = .ok (.if_icmp .ge 56, 3) := by decide +kernel
theorem d36_14 : decode prog_58_method_4_code 14 = .ok (.aload_n 0, 1) := by decide +kernel
theorem d36_15 : decode prog_58_method_4_code 15 = .ok (.getfield 7, 3) := by decide +kernel
theorem d36_18 : decode prog_58_method_4_code 18 = .ok (.aload_n 0, 1) := by decide +kernel
theorem d36_19 : decode prog_58_method_4_code 19 = .ok (.getfield 61, 3) := by decide +kernel
theorem d36_22 : decode prog_58_method_4_code 22 = .ok (.invokestatic 69, 3) := by decide +kernel
theorem d36_25 : decode prog_58_method_4_code 25 = .ok (.istore_n 1, 1) := by decide +kernel
theorem d36_26 : decode prog_58_method_4_code 26 = .ok (.aload_n 0, 1) := by decide +kernel
theorem d36_27 : decode prog_58_method_4_code 27 = .ok (.getfield 7, 3) := by decide +kernel
theorem d36_30 : decode prog_58_method_4_code 30 = .ok (.aload_n 0, 1) := by decide +kernel
theorem d36_31 : decode prog_58_method_4_code 31 = .ok (.getfield 61, 3) := by decide +kernel
theorem d36_34 : decode prog_58_method_4_code 34 = .ok (.iload_n 1, 1) := by decide +kernel
theorem d36_35 : decode prog_58_method_4_code 35 = .ok (.invokestatic 85, 3) := by decide +kernel
theorem d36_38 : decode prog_58_method_4_code 38 = .ok (.astore_n 2, 1) := by decide +kernel
theorem d36_39 : decode prog_58_method_4_code 39 = .ok (.aload_n 0, 1) := by decide +kernel
theorem d36_40 : decode prog_58_method_4_code 40 = .ok (.iload_n 1, 1) := by decide +kernel
theorem d36_41 : decode prog_58_method_4_code 41 = .ok (.iconst 1, 1) := by decide +kernel
theorem d36_42 : decode prog_58_method_4_code 42 = .ok (.iadd, 1) := by decide +kernel
theorem d36_43 : decode prog_58_method_4_code 43 = .ok (.putfield 61, 3) := by decide +kernel
theorem d36_46 : decode prog_58_method_4_code 46 = .ok (.aload_n 2, 1) := by decide +kernel
theorem d36_47 : decode prog_58_method_4_code 47 = .ok (.invokevirtual 89, 3) := by decide +kernel
theorem d36_50 : decode prog_58_method_4_code 50 = .ok (.ifCond .ne 14, 3) := by decide +kernel
theorem d36_53 : decode prog_58_method_4_code 53 = .ok (.aload_n 2, 1) := by decide +kernel
theorem d36_54 : decode prog_58_method_4_code 54 = .ok (.ldc 92, 2) := by decide +kernel
theorem d36_56 : decode prog_58_method_4_code 56 = .ok (.invokevirtual 94, 3) := by decide +kernel
theorem d36_59 : decode prog_58_method_4_code 59 = .ok (.ifCond .ne 5, 3) := by decide +kernel
theorem d36_62 : decode prog_58_method_4_code 62 = .ok (.aload_n 2, 1) := by decide +kernel
theorem d36_63 : decode prog_58_method_4_code 63 = .ok (.areturn, 1) := by decide +kernel
theorem d36_64 : decode prog_58_method_4_code 64 = .ok (.goto (-64), 3) := by decide +kernel
theorem d36_67 : decode prog_58_method_4_code 67 = .ok (.aconst_null, 1) := by decide +kernel
theorem d36_68 : decode prog_58_method_4_code 68 = .ok (.areturn, 1) := by decide +kernel
theorem pn_36 : plainFor (⟨"com/example/wireform/wireform/text/MessageReader", "nextOpening", "()Ljava/lang/String;"⟩ : MethodName) = true := plainFor_of_name (by first | (simp [plainName, overriddenIn]; done) | decide +kernel)
theorem pd__Ljava_lang_String_I_I : parseMethodDescriptor "(Ljava/lang/String;I)I" = some ⟨[(.object "java/lang/String"), .int], some .int⟩ := by decide +kernel
theorem ef_con_nop (m : MethodId) (r t b : Addr) (cs : List Int32) (K : List Nat) (fu p : Nat) (vf vb vo : Value) (fm : Value) (cz : Int32)  : entryFrame m #[(.ref r)] 3 = mkF m 0 #[.val (.ref r), .unset, .unset] [] := by first | (simp [entryFrame, mkF, argsToLocals, Value.category]; done) | rfl
set_option maxRecDepth 65536 in
set_option maxHeartbeats 40000000 in
theorem con_nop (l : Launch) (Z : State) (a0 : Array Value) (hw : ∀ d ∈ tables_1, d.before a0 Z = true) (n0 : Nat) (h0 : Heap) (Z0 : n0 ≤ h0.size) (r t b : Addr) (cs : List Int32) (K : List Nat) (fu p : Nat) (vf vb vo : Value) (fm : Value) (cz : Int32) (od0 : Old Z n0 h0) (SF : Sta Z Z.heap "jdk/internal/util/Preconditions" "SIOOBE_FORMATTER" "Ljava/util/function/BiFunction;" fm) (hfm : fm.isRef = true) (SZ : Sta Z Z.heap "java/lang/String" "COMPACT_STRINGS" "Z" (.int cz)) (hcz : ¬ cz = 0) (E1 : Exa Z h0 t "java/lang/String") (FV : Fld Z h0 t "java/lang/String" "value" "[B" (.ref b)) (FC : Fld Z h0 t "java/lang/String" "coder" "B" (.int (own_coder cs))) (AB : Ary Z h0 b .byte (own_enc cs)) (hp : own_pfx cs = cs.length) (hn : cs.length ≤ 15) (hch : own_chr cs) (hK : own_rel cs K) (ER : Exa Z h0 r "com/example/wireform/wireform/text/MessageReader") (gr : n0 ≤ r) (R_text : Fld Z h0 r "com/example/wireform/wireform/text/MessageReader" "text" "Ljava/lang/String;" (.ref t)) (R_fin : Fld Z h0 r "com/example/wireform/wireform/text/MessageReader" "fin" "Z" vf) (R_bare : Fld Z h0 r "com/example/wireform/wireform/text/MessageReader" "bare" "Z" vb) (R_opening : Fld Z h0 r "com/example/wireform/wireform/text/MessageReader" "opening" "Ljava/lang/String;" vo) (R_position : Fld Z h0 r "com/example/wireform/wireform/text/MessageReader" "position" "I" (.int (Int32.ofNat p))) (htr : t ≠ r) (hbr : b ≠ r) (hpl : p ≤ cs.length + 1) (hfu : cs.length < fu + p) :
    ConW l Z own_EL n0 (⟨"com/example/wireform/wireform/text/MessageReader", "nextOpening", "()Ljava/lang/String;"⟩ : MethodName) prog_58_method_4_code 3 (some (.object "java/lang/String")) ({ frames := 6, cells := (km_nc K fu p), slots := (100 * (km_nc K fu p)), locals := 107 } : Room) #[(.ref r)] h0 [] (Val fun w h' => ∃ o p', km_no K fu p = (o, p') ∧ Keep h0 h' [r] ∧ Exa Z h' r "com/example/wireform/wireform/text/MessageReader" ∧ Fld Z h' r "com/example/wireform/wireform/text/MessageReader" "text" "Ljava/lang/String;" (.ref t) ∧ Fld Z h' r "com/example/wireform/wireform/text/MessageReader" "fin" "Z" vf ∧ Fld Z h' r "com/example/wireform/wireform/text/MessageReader" "bare" "Z" vb ∧ Fld Z h' r "com/example/wireform/wireform/text/MessageReader" "opening" "Ljava/lang/String;" vo ∧ Fld Z h' r "com/example/wireform/wireform/text/MessageReader" "position" "I" (.int (Int32.ofNat p')) ∧ Exa Z h' t "java/lang/String" ∧ Fld Z h' t "java/lang/String" "value" "[B" (.ref b) ∧ Fld Z h' t "java/lang/String" "coder" "B" (.int (own_coder cs)) ∧ Ary Z h' b .byte (own_enc cs) ∧ ((o = none ∧ w = .null) ∨ ∃ s e u d, o = some (s, e) ∧ w = .ref u ∧ Exa Z h' u "java/lang/String" ∧ Fld Z h' u "java/lang/String" "value" "[B" (.ref d) ∧ Fld Z h' u "java/lang/String" "coder" "B" (.int (own_coder (own_sub cs s e))) ∧ Ary Z h' d .byte (own_enc (own_sub cs s e)))) := by
  refine ConW.of_run (own_EW hw) pn_36 (fun m => ef_con_nop m r t b cs K fu p vf vb vo fm cz ) ?_
  intro vm hal hsf
  have loop : ∀ (t_ p_ : Nat) (hh : Heap) (vh : Vm) (kb : Nat) (s1 s2 : Slot), cs.length < t_ + p_ → p_ ≤ cs.length + 1 → km_no K t_ p_ = km_no K fu p → kb + km_nc K t_ p_ = km_nc K fu p → One s1 → One s2 → n0 ≤ hh.size → Keep h0 hh [r] → Old Z n0 hh → Exa Z hh r "com/example/wireform/wireform/text/MessageReader" → Fld Z hh r "com/example/wireform/wireform/text/MessageReader" "text" "Ljava/lang/String;" (.ref t) → Fld Z hh r "com/example/wireform/wireform/text/MessageReader" "fin" "Z" vf → Fld Z hh r "com/example/wireform/wireform/text/MessageReader" "bare" "Z" vb → Fld Z hh r "com/example/wireform/wireform/text/MessageReader" "opening" "Ljava/lang/String;" vo → Fld Z hh r "com/example/wireform/wireform/text/MessageReader" "position" "I" (.int (Int32.ofNat p_)) → Exa Z hh t "java/lang/String" → Fld Z hh t "java/lang/String" "value" "[B" (.ref b) → Fld Z hh t "java/lang/String" "coder" "B" (.int (own_coder cs)) → Ary Z hh b .byte (own_enc cs) → RunW l Z own_EL n0 "com/example/wireform/wireform/text/MessageReader" prog_58_method_4_code 3 (some (.object "java/lang/String")) (⟨"com/example/wireform/wireform/text/MessageReader", "nextOpening", "()Ljava/lang/String;"⟩ : MethodName) ({ frames := 6, cells := (km_nc K fu p), slots := (100 * (km_nc K fu p)), locals := 107 } : Room) (Val fun w h' => ∃ o p', km_no K fu p = (o, p') ∧ Keep h0 h' [r] ∧ Exa Z h' r "com/example/wireform/wireform/text/MessageReader" ∧ Fld Z h' r "com/example/wireform/wireform/text/MessageReader" "text" "Ljava/lang/String;" (.ref t) ∧ Fld Z h' r "com/example/wireform/wireform/text/MessageReader" "fin" "Z" vf ∧ Fld Z h' r "com/example/wireform/wireform/text/MessageReader" "bare" "Z" vb ∧ Fld Z h' r "com/example/wireform/wireform/text/MessageReader" "opening" "Ljava/lang/String;" vo ∧ Fld Z h' r "com/example/wireform/wireform/text/MessageReader" "position" "I" (.int (Int32.ofNat p')) ∧ Exa Z h' t "java/lang/String" ∧ Fld Z h' t "java/lang/String" "value" "[B" (.ref b) ∧ Fld Z h' t "java/lang/String" "coder" "B" (.int (own_coder cs)) ∧ Ary Z h' b .byte (own_enc cs) ∧ ((o = none ∧ w = .null) ∨ ∃ s e u d, o = some (s, e) ∧ w = .ref u ∧ Exa Z h' u "java/lang/String" ∧ Fld Z h' u "java/lang/String" "value" "[B" (.ref d) ∧ Fld Z h' u "java/lang/String" "coder" "B" (.int (own_coder (own_sub cs s e))) ∧ Ary Z h' d .byte (own_enc (own_sub cs s e)))) 0 #[.val (.ref r), s1, s2] [] hh vh kb (100 * kb) := by
    intro t_
    induction t_ with
    | zero =>
      intro p_ hh vh kb s1 s2 hfu_ hpl1 hres hkb h_s1 h_s2 szh kph odh ERh Rh_text Rh_fin Rh_bare Rh_opening Rh_position E1h FVh FCh ABh
      have hKl := hK.1
      show RunW l Z own_EL n0 "com/example/wireform/wireform/text/MessageReader" prog_58_method_4_code 3 (some (.object "java/lang/String")) (⟨"com/example/wireform/wireform/text/MessageReader", "nextOpening", "()Ljava/lang/String;"⟩ : MethodName) ({ frames := 6, cells := (km_nc K fu p), slots := (100 * (km_nc K fu p)), locals := 107 } : Room) (Val fun w h' => ∃ o p', km_no K fu p = (o, p') ∧ Keep h0 h' [r] ∧ Exa Z h' r "com/example/wireform/wireform/text/MessageReader" ∧ Fld Z h' r "com/example/wireform/wireform/text/MessageReader" "text" "Ljava/lang/String;" (.ref t) ∧ Fld Z h' r "com/example/wireform/wireform/text/MessageReader" "fin" "Z" vf ∧ Fld Z h' r "com/example/wireform/wireform/text/MessageReader" "bare" "Z" vb ∧ Fld Z h' r "com/example/wireform/wireform/text/MessageReader" "opening" "Ljava/lang/String;" vo ∧ Fld Z h' r "com/example/wireform/wireform/text/MessageReader" "position" "I" (.int (Int32.ofNat p')) ∧ Exa Z h' t "java/lang/String" ∧ Fld Z h' t "java/lang/String" "value" "[B" (.ref b) ∧ Fld Z h' t "java/lang/String" "coder" "B" (.int (own_coder cs)) ∧ Ary Z h' b .byte (own_enc cs) ∧ ((o = none ∧ w = .null) ∨ ∃ s e u d, o = some (s, e) ∧ w = .ref u ∧ Exa Z h' u "java/lang/String" ∧ Fld Z h' u "java/lang/String" "value" "[B" (.ref d) ∧ Fld Z h' u "java/lang/String" "coder" "B" (.int (own_coder (own_sub cs s e))) ∧ Ary Z h' d .byte (own_enc (own_sub cs s e)))) 0 #[.val (.ref r), s1, s2] [] hh vh (kb + 0) (100 * (kb + 0))
      refine RunW.aloadN d36_0 rfl rfl (pc' := 1) rfl ?_
      refine RunW.getF d36_1 (host := "") (Or.inl (hw _ (List.mem_of_getElem? (i := 200) rfl))) Via.refl Rh_position (pc' := 4) rfl ?_
      refine RunW.aloadN d36_4 rfl rfl (pc' := 5) rfl ?_
      refine RunW.getF d36_5 (host := "") (Or.inl (hw _ (List.mem_of_getElem? (i := 62) rfl))) Via.refl Rh_text (pc' := 8) rfl ?_
      refine RunW.callV (k' := (kb + 0)) (n' := (100 * (kb + 0))) (a := t) (as := []) (rest := [(.int (Int32.ofNat p_))]) (con_len l Z a0 hw n0 hh szh t b cs cz odh SZ hcz E1h FVh FCh ABh (by omega)) (by rintro _ _ ⟨_, -, -, rfl⟩; exact ⟨[], Keep.refl _ _, all0⟩) E1h d36_8 (hw _ (List.mem_of_getElem? (i := 202) rfl)) (hw _ (List.mem_of_getElem? (i := 76) rfl)) (fun s hZ => notFace_of_selects (args := #[]) (mvT hZ (hw _ (List.mem_of_getElem? (i := 78) rfl)))) (hw _ (List.mem_of_getElem? (i := 78) rfl)) (hw _ (List.mem_of_getElem? (i := 77) rfl)) (hw _ (List.mem_of_getElem? (i := 1) rfl)) (hw _ (List.mem_of_getElem? (i := 79) rfl)) (by decide) pd___I rfl rfl rfl (by show (1 : Nat) + 1 ≤ 6; decide) (by show (1 : Nat) + (1 + 11) + 13 ≤ 107; decide) (by show (kb + 0) + 0 ≤ (kb + 0); omega) (by show (kb + 0) ≤ km_nc K fu p; omega) (by show 100 * (kb + 0) + 0 ≤ 100 * (kb + 0); omega) (by show 100 * (kb + 0) ≤ 100 * km_nc K fu p; omega) (pc' := 11) rfl ?_
      rintro _ _ ⟨_, rfl, rfl, rfl⟩ -
      show RunW l Z own_EL n0 "com/example/wireform/wireform/text/MessageReader" prog_58_method_4_code 3 (some (.object "java/lang/String")) (⟨"com/example/wireform/wireform/text/MessageReader", "nextOpening", "()Ljava/lang/String;"⟩ : MethodName) ({ frames := 6, cells := (km_nc K fu p), slots := (100 * (km_nc K fu p)), locals := 107 } : Room) _ 11 #[.val (.ref r), s1, s2] [(.int (Int32.ofNat cs.length)), (.int (Int32.ofNat p_))] hh vh (kb + 0) (100 * (kb + 0))
      refine RunW.icmp_ge d36_11 (by decide) (pc' := 67) (by decide) (pa := 14) rfl (fun hc11 => ?_) (fun hc11 => ?_)
      · refine RunW.aconst d36_67 (pc' := 68) rfl ?_
        exact RunW.areturn d36_68 (ty := (.object "java/lang/String")) rfl rfl rfl (by show (kb + 0) ≤ km_nc K fu p; omega) (by show 100 * (kb + 0) ≤ 100 * km_nc K fu p; omega) ⟨_, rfl, none, p_, by rw [← hres]; exact km_no0 (fun z => hc11 ((own_lt (by omega) (by omega)).mpr (by omega))), kph, ERh, Rh_text, Rh_fin, Rh_bare, Rh_opening, Rh_position, E1h, FVh, FCh, ABh, Or.inl ⟨rfl, rfl⟩⟩
      · exact absurd ((own_lt (by omega) (by omega)).mp hc11) (by omega)
    | succ t_ ih =>
      intro p_ hh vh kb s1 s2 hfu_ hpl1 hres hkb h_s1 h_s2 szh kph odh ERh Rh_text Rh_fin Rh_bare Rh_opening Rh_position E1h FVh FCh ABh
      have hKl := hK.1
      show RunW l Z own_EL n0 "com/example/wireform/wireform/text/MessageReader" prog_58_method_4_code 3 (some (.object "java/lang/String")) (⟨"com/example/wireform/wireform/text/MessageReader", "nextOpening", "()Ljava/lang/String;"⟩ : MethodName) ({ frames := 6, cells := (km_nc K fu p), slots := (100 * (km_nc K fu p)), locals := 107 } : Room) (Val fun w h' => ∃ o p', km_no K fu p = (o, p') ∧ Keep h0 h' [r] ∧ Exa Z h' r "com/example/wireform/wireform/text/MessageReader" ∧ Fld Z h' r "com/example/wireform/wireform/text/MessageReader" "text" "Ljava/lang/String;" (.ref t) ∧ Fld Z h' r "com/example/wireform/wireform/text/MessageReader" "fin" "Z" vf ∧ Fld Z h' r "com/example/wireform/wireform/text/MessageReader" "bare" "Z" vb ∧ Fld Z h' r "com/example/wireform/wireform/text/MessageReader" "opening" "Ljava/lang/String;" vo ∧ Fld Z h' r "com/example/wireform/wireform/text/MessageReader" "position" "I" (.int (Int32.ofNat p')) ∧ Exa Z h' t "java/lang/String" ∧ Fld Z h' t "java/lang/String" "value" "[B" (.ref b) ∧ Fld Z h' t "java/lang/String" "coder" "B" (.int (own_coder cs)) ∧ Ary Z h' b .byte (own_enc cs) ∧ ((o = none ∧ w = .null) ∨ ∃ s e u d, o = some (s, e) ∧ w = .ref u ∧ Exa Z h' u "java/lang/String" ∧ Fld Z h' u "java/lang/String" "value" "[B" (.ref d) ∧ Fld Z h' u "java/lang/String" "coder" "B" (.int (own_coder (own_sub cs s e))) ∧ Ary Z h' d .byte (own_enc (own_sub cs s e)))) 0 #[.val (.ref r), s1, s2] [] hh vh (kb + 0) (100 * (kb + 0))
      refine RunW.aloadN d36_0 rfl rfl (pc' := 1) rfl ?_
      refine RunW.getF d36_1 (host := "") (Or.inl (hw _ (List.mem_of_getElem? (i := 200) rfl))) Via.refl Rh_position (pc' := 4) rfl ?_
      refine RunW.aloadN d36_4 rfl rfl (pc' := 5) rfl ?_
      refine RunW.getF d36_5 (host := "") (Or.inl (hw _ (List.mem_of_getElem? (i := 62) rfl))) Via.refl Rh_text (pc' := 8) rfl ?_
      refine RunW.callV (k' := (kb + 0)) (n' := (100 * (kb + 0))) (a := t) (as := []) (rest := [(.int (Int32.ofNat p_))]) (con_len l Z a0 hw n0 hh szh t b cs cz odh SZ hcz E1h FVh FCh ABh (by omega)) (by rintro _ _ ⟨_, -, -, rfl⟩; exact ⟨[], Keep.refl _ _, all0⟩) E1h d36_8 (hw _ (List.mem_of_getElem? (i := 202) rfl)) (hw _ (List.mem_of_getElem? (i := 76) rfl)) (fun s hZ => notFace_of_selects (args := #[]) (mvT hZ (hw _ (List.mem_of_getElem? (i := 78) rfl)))) (hw _ (List.mem_of_getElem? (i := 78) rfl)) (hw _ (List.mem_of_getElem? (i := 77) rfl)) (hw _ (List.mem_of_getElem? (i := 1) rfl)) (hw _ (List.mem_of_getElem? (i := 79) rfl)) (by decide) pd___I rfl rfl rfl (by show (1 : Nat) + 1 ≤ 6; decide) (by show (1 : Nat) + (1 + 11) + 13 ≤ 107; decide) (by show (kb + 0) + 0 ≤ (kb + 0); omega) (by show (kb + 0) ≤ km_nc K fu p; omega) (by show 100 * (kb + 0) + 0 ≤ 100 * (kb + 0); omega) (by show 100 * (kb + 0) ≤ 100 * km_nc K fu p; omega) (pc' := 11) rfl ?_
      rintro _ _ ⟨_, rfl, rfl, rfl⟩ -
      show RunW l Z own_EL n0 "com/example/wireform/wireform/text/MessageReader" prog_58_method_4_code 3 (some (.object "java/lang/String")) (⟨"com/example/wireform/wireform/text/MessageReader", "nextOpening", "()Ljava/lang/String;"⟩ : MethodName) ({ frames := 6, cells := (km_nc K fu p), slots := (100 * (km_nc K fu p)), locals := 107 } : Room) _ 11 #[.val (.ref r), s1, s2] [(.int (Int32.ofNat cs.length)), (.int (Int32.ofNat p_))] hh vh (kb + 0) (100 * (kb + 0))
      refine RunW.icmp_ge d36_11 (by decide) (pc' := 67) (by decide) (pa := 14) rfl (fun hc11 => ?_) (fun hc11 => ?_)
      · refine RunW.aconst d36_67 (pc' := 68) rfl ?_
        exact RunW.areturn d36_68 (ty := (.object "java/lang/String")) rfl rfl rfl (by show (kb + 0) ≤ km_nc K fu p; omega) (by show 100 * (kb + 0) ≤ 100 * km_nc K fu p; omega) ⟨_, rfl, none, p_, by rw [← hres]; exact km_no0 (fun z => hc11 ((own_lt (by omega) (by omega)).mpr (by omega))), kph, ERh, Rh_text, Rh_fin, Rh_bare, Rh_opening, Rh_position, E1h, FVh, FCh, ABh, Or.inl ⟨rfl, rfl⟩⟩
      · have hpl : p_ < cs.length := (own_lt (by omega) (by omega)).mp hc11
        have hpK : p_ < K.length := by omega
        have hbd := km_le_bd (K := K) (p := p_) (by omega)
        have hed := km_e_bd (K := K) hbd.1
        have hel : km_e K p_ (km_le K p_) ≤ cs.length := by omega
        have hse := hed.1
        have hge := km_nc_ge (t := t_) hpK
        refine RunW.aloadN d36_14 rfl rfl (pc' := 15) rfl ?_
        refine RunW.getF d36_15 (host := "") (Or.inl (hw _ (List.mem_of_getElem? (i := 62) rfl))) Via.refl Rh_text (pc' := 18) rfl ?_
        refine RunW.aloadN d36_18 rfl rfl (pc' := 19) rfl ?_
        refine RunW.getF d36_19 (host := "") (Or.inl (hw _ (List.mem_of_getElem? (i := 200) rfl))) Via.refl Rh_position (pc' := 22) rfl ?_
        refine RunW.callS (k' := (kb + 0)) (n' := (100 * (kb + 0))) (as := [(.ref t), (.int (Int32.ofNat p_))]) (rest := []) (con_lnd l Z a0 hw n0 hh szh t b cs K p_ cz odh SZ hcz E1h FVh FCh ABh hp hn hch hK (by omega) ) (by rintro _ _ ⟨_, -, -, rfl⟩; exact ⟨[], Keep.refl _ _, all0⟩) d36_22 (hw _ (List.mem_of_getElem? (i := 203) rfl)) (hw _ (List.mem_of_getElem? (i := 122) rfl)) (hw _ (List.mem_of_getElem? (i := 109) rfl)) (hw _ (List.mem_of_getElem? (i := 123) rfl)) (by decide) pd__Ljava_lang_String_I_I rfl rfl rfl (by show (3 : Nat) + 1 ≤ 6; decide) (by show (0 : Nat) + (3 + 11) + 46 ≤ 107; decide) (by show (kb + 0) + 0 ≤ (kb + 0); omega) (by show (kb + 0) ≤ km_nc K fu p; omega) (by show 100 * (kb + 0) + 0 ≤ 100 * (kb + 0); omega) (by show 100 * (kb + 0) ≤ 100 * km_nc K fu p; omega) (pc' := 25) rfl ?_
        rintro _ _ ⟨_, rfl, rfl, rfl⟩ -
        show RunW l Z own_EL n0 "com/example/wireform/wireform/text/MessageReader" prog_58_method_4_code 3 (some (.object "java/lang/String")) (⟨"com/example/wireform/wireform/text/MessageReader", "nextOpening", "()Ljava/lang/String;"⟩ : MethodName) ({ frames := 6, cells := (km_nc K fu p), slots := (100 * (km_nc K fu p)), locals := 107 } : Room) _ 25 #[.val (.ref r), s1, s2] [(.int (Int32.ofNat (km_le K p_)))] hh vh (kb + 0) (100 * (kb + 0))
        refine RunW.istoreN (l' := #[.val (.ref r), .val (.int (Int32.ofNat (km_le K p_))), s2]) d36_25 (XS.store1 rfl h_s1 rfl) (pc' := 26) rfl ?_
        refine RunW.aloadN d36_26 rfl rfl (pc' := 27) rfl ?_
        refine RunW.getF d36_27 (host := "") (Or.inl (hw _ (List.mem_of_getElem? (i := 62) rfl))) Via.refl Rh_text (pc' := 30) rfl ?_
        refine RunW.aloadN d36_30 rfl rfl (pc' := 31) rfl ?_
        refine RunW.getF d36_31 (host := "") (Or.inl (hw _ (List.mem_of_getElem? (i := 200) rfl))) Via.refl Rh_position (pc' := 34) rfl ?_
        refine RunW.iloadN d36_34 rfl (pc' := 35) rfl ?_
        refine RunW.callSW (k' := (kb + 2)) (n' := (100 * (kb + 2))) (as := [(.ref t), (.int (Int32.ofNat p_)), (.int (Int32.ofNat (km_le K p_)))]) (rest := []) (con_ltx l Z a0 hw n0 hh szh t b cs K p_ (km_le K p_) fm cz odh SF hfm SZ hcz E1h FVh FCh ABh hp hn hch hK hbd.1 (by omega)) all0 (own_EW hw) d36_35 (hw _ (List.mem_of_getElem? (i := 204) rfl)) (hw _ (List.mem_of_getElem? (i := 205) rfl)) (hw _ (List.mem_of_getElem? (i := 109) rfl)) (hw _ (List.mem_of_getElem? (i := 206) rfl)) (by decide) pd__Ljava_lang_String_II_Ljava_lang_String_ rfl rfl rfl (by show (5 : Nat) + 1 ≤ 6; decide) (by show (0 : Nat) + (4 + 11) + 92 ≤ 107; decide) (by show (kb + 0) + 2 ≤ (kb + 2); omega) (by show (kb + 2) ≤ km_nc K fu p; omega) (by show 100 * (kb + 0) + 28 ≤ 100 * (kb + 2); omega) (by show 100 * (kb + 2) ≤ 100 * km_nc K fu p; omega) (pc' := 38) rfl ?_
        rintro _ h11 vm11 ⟨_, rfl, ⟨t11, b11, rfl, E11, X11, FV11, FC11, P11⟩⟩ c11
        show RunW l Z own_EL n0 "com/example/wireform/wireform/text/MessageReader" prog_58_method_4_code 3 (some (.object "java/lang/String")) (⟨"com/example/wireform/wireform/text/MessageReader", "nextOpening", "()Ljava/lang/String;"⟩ : MethodName) ({ frames := 6, cells := (km_nc K fu p), slots := (100 * (km_nc K fu p)), locals := 107 } : Room) _ 38 #[.val (.ref r), .val (.int (Int32.ofNat (km_le K p_))), s2] [(.ref t11)] h11 vm11 (kb + 2) (100 * (kb + 2))
        have E_r_11 := ERh.ext E11
        have F_r_text_11 := Rh_text.ext E11
        have F_r_fin_11 := Rh_fin.ext E11
        have F_r_bare_11 := Rh_bare.ext E11
        have F_r_opening_11 := Rh_opening.ext E11
        have F_r_position_11 := Rh_position.ext E11
        have E_t_11 := E1h.ext E11
        have F_t_value_11 := FVh.ext E11
        have F_t_coder_11 := FCh.ext E11
        have A_b_11 := ABh.ext E11
        have sz11 : n0 ≤ h11.size := Nat.le_trans szh E11.1
        have kp11 := Keep.ext kph E11
        have od11 := odh.ext E11
        refine RunW.astoreN (l' := #[.val (.ref r), .val (.int (Int32.ofNat (km_le K p_))), .val (.ref t11)]) d36_38 rfl (XS.store1 rfl h_s2 rfl) (pc' := 39) rfl ?_
        refine RunW.aloadN d36_39 rfl rfl (pc' := 40) rfl ?_
        refine RunW.iloadN d36_40 rfl (pc' := 41) rfl ?_
        refine RunW.iconst (1 : Int32) d36_41 (by decide) (pc' := 42) rfl ?_
        refine RunW.iadd d36_42 (pc' := 43) rfl ?_
        rw [own_inc]
        refine RunW.alike fun al13 => ?_
        refine RunW.putF d36_43 (host := "") (Or.inl (hw _ (List.mem_of_getElem? (i := 200) rfl))) Via.refl F_r_position_11 E_r_11 (Or.inl (hw _ (List.mem_of_getElem? (i := 201) rfl))) (hw _ (List.mem_of_getElem? (i := 56) rfl)) (ty := .int) (by decide) rfl rfl gr (Safe.exa al13 E_r_11 (by decide) (by decide)) (pc' := 46) rfl ?_
        intro h12 W12 c12
        have Fw12 := F_r_position_11.same W12
        have E_r_12 := E_r_11.wr W12
        have F_r_text_12 := F_r_text_11.other W12 (Or.inr (slot_ne (Or.inr (hw _ (List.mem_of_getElem? (i := 63) rfl))) (Or.inl (hw _ (List.mem_of_getElem? (i := 201) rfl))) (by decide) (t := (.object "java/lang/String")) (t' := .int) (by decide) (by decide)))
        have F_r_fin_12 := F_r_fin_11.other W12 (Or.inr (slot_ne (Or.inr (hw _ (List.mem_of_getElem? (i := 90) rfl))) (Or.inl (hw _ (List.mem_of_getElem? (i := 201) rfl))) (by decide) (t := .boolean) (t' := .int) (by decide) (by decide)))
        have F_r_bare_12 := F_r_bare_11.other W12 (Or.inr (slot_ne (Or.inl (hw _ (List.mem_of_getElem? (i := 92) rfl))) (Or.inl (hw _ (List.mem_of_getElem? (i := 201) rfl))) (by decide) (t := .boolean) (t' := .int) (by decide) (by decide)))
        have F_r_opening_12 := F_r_opening_11.other W12 (Or.inr (slot_ne (Or.inl (hw _ (List.mem_of_getElem? (i := 257) rfl))) (Or.inl (hw _ (List.mem_of_getElem? (i := 201) rfl))) (by decide) (t := (.object "java/lang/String")) (t' := .int) (by decide) (by decide)))
        have E_t_12 := E_t_11.wr W12
        have F_t_value_12 := F_t_value_11.other W12 (Or.inl htr)
        have F_t_coder_12 := F_t_coder_11.other W12 (Or.inl htr)
        have A_b_12 := A_b_11.other W12 hbr
        have E_t11_12 := X11.wr W12
        have F_t11_value_12 := FV11.other W12 (Or.inl (own_xne X11 E_r_11 (by decide)))
        have F_t11_coder_12 := FC11.other W12 (Or.inl (own_xne X11 E_r_11 (by decide)))
        have A_b11_12 := P11.other W12 (own_ane (hw _ (List.mem_of_getElem? (i := 56) rfl)) P11 E_r_11)
        have sz12 : n0 ≤ h12.size := by rw [W12.size]; exact sz11
        have kp12 := Keep.wr kp11 W12 (Or.inl (List.mem_of_getElem? (i := 0) rfl))
        have od12 := od11.wr W12 gr
        refine RunW.aloadN d36_46 rfl rfl (pc' := 47) rfl ?_
        refine RunW.callV (k' := (kb + 2)) (n' := (100 * (kb + 2))) (a := t11) (as := []) (rest := []) (con_emp l Z a0 hw n0 h12 sz12 t11 b11 (own_sub cs p_ (km_e K p_ (km_le K p_))) F_t11_value_12 A_b11_12 (by rw [own_subl hel]; omega)) (by rintro _ _ ⟨_, -, -, rfl⟩; exact ⟨[], Keep.refl _ _, all0⟩) E_t11_12 d36_47 (hw _ (List.mem_of_getElem? (i := 241) rfl)) (hw _ (List.mem_of_getElem? (i := 242) rfl)) (fun s hZ => notFace_of_selects (args := #[]) (mvT hZ (hw _ (List.mem_of_getElem? (i := 244) rfl)))) (hw _ (List.mem_of_getElem? (i := 244) rfl)) (hw _ (List.mem_of_getElem? (i := 243) rfl)) (hw _ (List.mem_of_getElem? (i := 1) rfl)) (hw _ (List.mem_of_getElem? (i := 245) rfl)) (by decide) pd___Z rfl rfl rfl (by show (0 : Nat) + 1 ≤ 6; decide) (by show (0 : Nat) + (1 + 11) + 0 ≤ 107; decide) (by show (kb + 2) + 0 ≤ (kb + 2); omega) (by show (kb + 2) ≤ km_nc K fu p; omega) (by show 100 * (kb + 2) + 0 ≤ 100 * (kb + 2); omega) (by show 100 * (kb + 2) ≤ 100 * km_nc K fu p; omega) (pc' := 50) rfl ?_
        rintro _ _ ⟨_, rfl, rfl, rfl⟩ -
        show RunW l Z own_EL n0 "com/example/wireform/wireform/text/MessageReader" prog_58_method_4_code 3 (some (.object "java/lang/String")) (⟨"com/example/wireform/wireform/text/MessageReader", "nextOpening", "()Ljava/lang/String;"⟩ : MethodName) ({ frames := 6, cells := (km_nc K fu p), slots := (100 * (km_nc K fu p)), locals := 107 } : Room) _ 50 #[.val (.ref r), .val (.int (Int32.ofNat (km_le K p_))), .val (.ref t11)] [(.int (own_emp (own_sub cs p_ (km_e K p_ (km_le K p_)))))] h12 vm11 (kb + 2) (100 * (kb + 2))
        refine RunW.if_ne d36_50 (by decide) (pc' := 64) (by decide) (pa := 53) rfl (fun hc50 => ?_) (fun hc50 => ?_)
        · refine RunW.goto d36_64 (by decide) (pc' := 0) (by decide) ?_
          have hcst := km_nc0 (t := t_) hpK (own_emT hel hse hc50)
          exact ih (km_le K p_ + 1) h12 vm11 (kb + 2) _ _ (by omega) (by omega) (by rw [← hres]; exact hcst.2.symm) (by have := hcst.1; omega) (Or.inr ⟨_, rfl, rfl⟩) (Or.inr ⟨_, rfl, rfl⟩) sz12 kp12 od12 E_r_12 F_r_text_12 F_r_fin_12 F_r_bare_12 F_r_opening_12 Fw12 E_t_12 F_t_value_12 F_t_coder_12 A_b_12
        · have hge4 := hge.2 (own_emF hel hse hc50)
          refine RunW.aloadN d36_53 rfl rfl (pc' := 54) rfl ?_
          refine RunW.ldcT (len := 4) (z := (1 : Int32)) (bs := [(.int (36 : Int32))]) (k' := (kb + 4)) (n' := (100 * (kb + 4))) d36_54 (hw _ (List.mem_of_getElem? (i := 246) rfl)) (own_wS hw) (own_EW hw) (List.mem_of_getElem? (i := 4) rfl) (by decide) (by decide) (by decide) (by decide) (by show (kb + 2) + 2 ≤ (kb + 4); omega) (by show (kb + 4) ≤ km_nc K fu p; omega) (by show 100 * (kb + 2) + 8 ≤ 100 * (kb + 4); omega) (by show 100 * (kb + 4) ≤ 100 * km_nc K fu p; omega) (pc' := 56) rfl ?_
          intro h14 vm14 a14 b14 E14 c14 X14 FC14 FV14 A14 ns14
          have E_r_14 := E_r_12.ext E14
          have F_r_text_14 := F_r_text_12.ext E14
          have F_r_fin_14 := F_r_fin_12.ext E14
          have F_r_bare_14 := F_r_bare_12.ext E14
          have F_r_opening_14 := F_r_opening_12.ext E14
          have E_t_14 := E_t_12.ext E14
          have F_t_value_14 := F_t_value_12.ext E14
          have F_t_coder_14 := F_t_coder_12.ext E14
          have A_b_14 := A_b_12.ext E14
          have E_t11_14 := E_t11_12.ext E14
          have F_t11_value_14 := F_t11_value_12.ext E14
          have F_t11_coder_14 := F_t11_coder_12.ext E14
          have A_b11_14 := A_b11_12.ext E14
          have F_r_position_14 := Fw12.ext E14
          have sz14 : n0 ≤ h14.size := Nat.le_trans sz12 E14.1
          have kp14 := Keep.ext kp12 E14
          have od14 := od12.ext E14
          have FCl15 : Fld Z h14 a14 "java/lang/String" "coder" "B" (.int (own_coder [(36 : Int32)])) := by rw [own_d1c]; exact FC14
          have ABl15 : Ary Z h14 b14 .byte (own_enc [(36 : Int32)]) := by rw [own_d1e]; exact A14
          refine RunW.callV (k' := (kb + 4)) (n' := (100 * (kb + 4))) (a := t11) (as := [(.ref a14)]) (rest := []) (con_seq l Z a0 hw n0 h14 sz14 t11 b11 a14 b14 (own_sub cs p_ (km_e K p_ (km_le K p_))) [(36 : Int32)] cz od14 SZ hcz E_t11_14 F_t11_value_14 F_t11_coder_14 A_b11_14 X14 FV14 FCl15 ABl15 (by rw [own_subl hel]; omega) (own_subq hch) (by decide) own_d1q) (by rintro _ _ ⟨_, -, -, rfl⟩; exact ⟨[], Keep.refl _ _, all0⟩) E_t11_14 d36_56 (hw _ (List.mem_of_getElem? (i := 247) rfl)) (hw _ (List.mem_of_getElem? (i := 248) rfl)) (fun s hZ => notFace_of_selects (args := #[]) (mvT hZ (hw _ (List.mem_of_getElem? (i := 250) rfl)))) (hw _ (List.mem_of_getElem? (i := 250) rfl)) (hw _ (List.mem_of_getElem? (i := 249) rfl)) (hw _ (List.mem_of_getElem? (i := 1) rfl)) (hw _ (List.mem_of_getElem? (i := 251) rfl)) (by decide) pd__Ljava_lang_Object__Z rfl rfl rfl (by show (1 : Nat) + 1 ≤ 6; decide) (by show (0 : Nat) + (3 + 11) + 14 ≤ 107; decide) (by show (kb + 4) + 0 ≤ (kb + 4); omega) (by show (kb + 4) ≤ km_nc K fu p; omega) (by show 100 * (kb + 4) + 0 ≤ 100 * (kb + 4); omega) (by show 100 * (kb + 4) ≤ 100 * km_nc K fu p; omega) (pc' := 59) rfl ?_
          rintro _ _ ⟨_, rfl, rfl, rfl⟩ -
          show RunW l Z own_EL n0 "com/example/wireform/wireform/text/MessageReader" prog_58_method_4_code 3 (some (.object "java/lang/String")) (⟨"com/example/wireform/wireform/text/MessageReader", "nextOpening", "()Ljava/lang/String;"⟩ : MethodName) ({ frames := 6, cells := (km_nc K fu p), slots := (100 * (km_nc K fu p)), locals := 107 } : Room) _ 59 #[.val (.ref r), .val (.int (Int32.ofNat (km_le K p_))), .val (.ref t11)] [(.int (own_eq (own_sub cs p_ (km_e K p_ (km_le K p_))) [(36 : Int32)]))] h14 vm14 (kb + 4) (100 * (kb + 4))
          refine RunW.if_ne d36_59 (by decide) (pc' := 64) (by decide) (pa := 62) rfl (fun hc59 => ?_) (fun hc59 => ?_)
          · refine RunW.goto d36_64 (by decide) (pc' := 0) (by decide) ?_
            have hcst := km_nc1 (t := t_) hpK (own_emF hel hse hc50) (own_dolT hK hel hse hpl hc59)
            exact ih (km_le K p_ + 1) h14 vm14 (kb + 4) _ _ (by omega) (by omega) (by rw [← hres]; exact hcst.2.symm) (by have := hcst.1; omega) (Or.inr ⟨_, rfl, rfl⟩) (Or.inr ⟨_, rfl, rfl⟩) sz14 kp14 od14 E_r_14 F_r_text_14 F_r_fin_14 F_r_bare_14 F_r_opening_14 F_r_position_14 E_t_14 F_t_value_14 F_t_coder_14 A_b_14
          · refine RunW.aloadN d36_62 rfl rfl (pc' := 63) rfl ?_
            exact RunW.areturn d36_63 (ty := (.object "java/lang/String")) rfl rfl rfl (by show (kb + 4) ≤ km_nc K fu p; omega) (by show 100 * (kb + 4) ≤ 100 * km_nc K fu p; omega) ⟨_, rfl, some (p_, km_e K p_ (km_le K p_)), km_le K p_ + 1, by rw [← hres]; exact (km_nc2 hpK (own_emF hel hse hc50) (own_dolF hK hel hse hpl hc59)).2, kp14, E_r_14, F_r_text_14, F_r_fin_14, F_r_bare_14, F_r_opening_14, F_r_position_14, E_t_14, F_t_value_14, F_t_coder_14, A_b_14, Or.inr ⟨_, _, t11, b11, rfl, rfl, E_t11_14, F_t11_value_14, F_t11_coder_14, A_b11_14⟩⟩
  exact loop fu p h0 vm 0 .unset .unset (by omega) hpl rfl (by omega) (Or.inl rfl) (Or.inl rfl) Z0 (Keep.refl h0 [r]) od0 ER R_text R_fin R_bare R_opening R_position E1 FV FC AB
theorem d21_0 : decode jdk_31_method_11_code 0 = .ok (.aload_n 0, 1) := by decide +kernel
theorem d21_1 : decode jdk_31_method_11_code 1 = .ok (.ifnonnull 12, 3) := by decide +kernel
theorem d21_13 : decode jdk_31_method_11_code 13 = .ok (.aload_n 0, 1) := by decide +kernel
theorem d21_14 : decode jdk_31_method_11_code 14 = .ok (.areturn, 1) := by decide +kernel
theorem pn_21 : plainFor (⟨"java/util/Objects", "requireNonNull", "(Ljava/lang/Object;Ljava/lang/String;)Ljava/lang/Object;"⟩ : MethodName) = true := plainFor_of_name (by first | (simp [plainName, overriddenIn]; done) | decide +kernel)
theorem ef_con_rnn (m : MethodId) (a1 a2 : Addr)  : entryFrame m #[(.ref a1), (.ref a2)] 2 = mkF m 0 #[.val (.ref a1), .val (.ref a2)] [] := by first | (simp [entryFrame, mkF, argsToLocals, Value.category]; done) | rfl
set_option maxRecDepth 65536 in
set_option maxHeartbeats 40000000 in
theorem con_rnn (l : Launch) (Z : State) (a0 : Array Value) (hw : ∀ d ∈ tables_1, d.before a0 Z = true) (n0 : Nat) (h0 : Heap) (Z0 : n0 ≤ h0.size) (a1 a2 : Addr)  :
    Con l Z n0 (⟨"java/util/Objects", "requireNonNull", "(Ljava/lang/Object;Ljava/lang/String;)Ljava/lang/Object;"⟩ : MethodName) jdk_31_method_11_code 2 (some (.object "java/lang/Object")) ({ frames := 0, cells := 0, slots := 0, locals := 0 } : Room) #[(.ref a1), (.ref a2)] h0 (Val (PV (.ref a1) h0)) := by
  refine Con.of_run pn_21 (fun m => ef_con_rnn m a1 a2 ) ?_
  refine Run.aloadN d21_0 rfl rfl (pc' := 1) rfl ?_
  refine Run.ifnonnull d21_1 rfl (by decide) (pc' := 13) (by decide) (pa := 4) rfl (fun hc1 => ?_) (fun hc1 => ?_)
  · refine Run.aloadN d21_13 rfl rfl (pc' := 14) rfl ?_
    exact Run.areturn d21_14 (ty := (.object "java/lang/Object")) rfl rfl rfl (by decide) (by decide) ⟨_, rfl, rfl, rfl⟩
  · exact absurd hc1 (by simp)
theorem d34_0 : decode jdk_30_method_1_code 0 = .ok (.aload_n 0, 1) := by decide +kernel
theorem d34_1 : decode jdk_30_method_1_code 1 = .ok (.invokespecial 1, 3) := by decide +kernel
theorem d34_4 : decode jdk_30_method_1_code 4 = .ok (.return_, 1) := by decide +kernel
theorem pn_34 : plainFor (⟨"java/lang/Record", "<init>", "()V"⟩ : MethodName) = true := plainFor_of_name (by first | (simp [plainName, overriddenIn]; done) | decide +kernel)
theorem ef_con_rec (m : MethodId) (a1 : Addr)  : entryFrame m #[(.ref a1)] 1 = mkF m 0 #[.val (.ref a1)] [] := by first | (simp [entryFrame, mkF, argsToLocals, Value.category]; done) | rfl
set_option maxRecDepth 65536 in
set_option maxHeartbeats 40000000 in
theorem con_rec (l : Launch) (Z : State) (a0 : Array Value) (hw : ∀ d ∈ tables_1, d.before a0 Z = true) (n0 : Nat) (h0 : Heap) (Z0 : n0 ≤ h0.size) (a1 : Addr)  :
    Con l Z n0 (⟨"java/lang/Record", "<init>", "()V"⟩ : MethodName) jdk_30_method_1_code 1 none ({ frames := 1, cells := 0, slots := 0, locals := 12 } : Room) #[(.ref a1)] h0 (Vd fun h' => h0 = h') := by
  refine Con.of_run pn_34 (fun m => ef_con_rec m a1 ) ?_
  refine Run.aloadN d34_0 rfl rfl (pc' := 1) rfl ?_
  refine Run.initO d34_1 (hw _ (List.mem_of_getElem? (i := 185) rfl)) (hw _ (List.mem_of_getElem? (i := 43) rfl)) (hw _ (List.mem_of_getElem? (i := 44) rfl)) rfl (by decide) (by show (0 : Nat) + 12 ≤ _; decide) (pc' := 4) rfl ?_
  exact Run.vreturn d34_4 rfl (by decide) (by decide) ⟨rfl, rfl⟩
theorem d32_0 : decode jdk_22_method_1_code 0 = .ok (.aload_n 0, 1) := by decide +kernel
theorem d32_1 : decode jdk_22_method_1_code 1 = .ok (.invokespecial 1, 3) := by decide +kernel
theorem d32_4 : decode jdk_22_method_1_code 4 = .ok (.return_, 1) := by decide +kernel
theorem pn_32 : plainFor (⟨"java/util/AbstractCollection", "<init>", "()V"⟩ : MethodName) = true := plainFor_of_name (by first | (simp [plainName, overriddenIn]; done) | decide +kernel)
theorem ef_con_aco (m : MethodId) (a1 : Addr)  : entryFrame m #[(.ref a1)] 1 = mkF m 0 #[.val (.ref a1)] [] := by first | (simp [entryFrame, mkF, argsToLocals, Value.category]; done) | rfl
set_option maxRecDepth 65536 in
set_option maxHeartbeats 40000000 in
theorem con_aco (l : Launch) (Z : State) (a0 : Array Value) (hw : ∀ d ∈ tables_1, d.before a0 Z = true) (n0 : Nat) (h0 : Heap) (Z0 : n0 ≤ h0.size) (a1 : Addr)  :
    Con l Z n0 (⟨"java/util/AbstractCollection", "<init>", "()V"⟩ : MethodName) jdk_22_method_1_code 1 none ({ frames := 1, cells := 0, slots := 0, locals := 12 } : Room) #[(.ref a1)] h0 (Vd fun h' => h0 = h') := by
  refine Con.of_run pn_32 (fun m => ef_con_aco m a1 ) ?_
  refine Run.aloadN d32_0 rfl rfl (pc' := 1) rfl ?_
  refine Run.initO d32_1 (hw _ (List.mem_of_getElem? (i := 167) rfl)) (hw _ (List.mem_of_getElem? (i := 43) rfl)) (hw _ (List.mem_of_getElem? (i := 44) rfl)) rfl (by decide) (by show (0 : Nat) + 12 ≤ _; decide) (pc' := 4) rfl ?_
  exact Run.vreturn d32_4 rfl (by decide) (by decide) ⟨rfl, rfl⟩
theorem d31_0 : decode jdk_39_method_1_code 0 = .ok (.aload_n 0, 1) := by decide +kernel
theorem d31_1 : decode jdk_39_method_1_code 1 = .ok (.invokespecial 1, 3) := by decide +kernel
theorem d31_4 : decode jdk_39_method_1_code 4 = .ok (.aload_n 0, 1) := by decide +kernel
theorem d31_5 : decode jdk_39_method_1_code 5 = .ok (.iconst 0, 1) := by decide +kernel
theorem d31_6 : decode jdk_39_method_1_code 6 = .ok (.putfield 7, 3) := by decide +kernel
theorem d31_9 : decode jdk_39_method_1_code 9 = .ok (.return_, 1) := by decide +kernel
theorem pn_31 : plainFor (⟨"java/util/AbstractList", "<init>", "()V"⟩ : MethodName) = true := plainFor_of_name (by first | (simp [plainName, overriddenIn]; done) | decide +kernel)
theorem pd___V : parseMethodDescriptor "()V" = some ⟨[], none⟩ := by decide +kernel
theorem ef_con_ali (m : MethodId) (v : Addr)  : entryFrame m #[(.ref v)] 1 = mkF m 0 #[.val (.ref v)] [] := by first | (simp [entryFrame, mkF, argsToLocals, Value.category]; done) | rfl
set_option maxRecDepth 65536 in
set_option maxHeartbeats 40000000 in
theorem con_ali (l : Launch) (Z : State) (a0 : Array Value) (hw : ∀ d ∈ tables_1, d.before a0 Z = true) (n0 : Nat) (h0 : Heap) (Z0 : n0 ≤ h0.size) (v : Addr) (EV : Exa Z h0 v "com/example/wireform/wireform/text/LineView") (gv : n0 ≤ v) (Gm : Fld Z h0 v "java/util/AbstractList" "modCount" "I" (.int (0 : Int32))) (Gs : Fld Z h0 v "com/example/wireform/wireform/text/LineView" "size" "I" (.int (0 : Int32))) (Gt : Fld Z h0 v "com/example/wireform/wireform/text/LineView" "texts" "Ljava/util/function/IntFunction;" .null) :
    Con l Z n0 (⟨"java/util/AbstractList", "<init>", "()V"⟩ : MethodName) jdk_39_method_1_code 1 none ({ frames := 2, cells := 0, slots := 0, locals := 24 } : Room) #[(.ref v)] h0 (Vd fun h' => Keep h0 h' [v] ∧ Exa Z h' v "com/example/wireform/wireform/text/LineView" ∧ Fld Z h' v "com/example/wireform/wireform/text/LineView" "size" "I" (.int (0 : Int32)) ∧ Fld Z h' v "com/example/wireform/wireform/text/LineView" "texts" "Ljava/util/function/IntFunction;" .null) := by
  refine Con.of_run pn_31 (fun m => ef_con_ali m v ) ?_
  refine Run.aloadN d31_0 rfl rfl (pc' := 1) rfl ?_
  refine Run.callN (k' := 0) (n' := 0) (a := v) (as := []) (rest := []) (con_aco l Z a0 hw n0 h0 Z0 v) rfl d31_1 (hw _ (List.mem_of_getElem? (i := 161) rfl)) (hw _ (List.mem_of_getElem? (i := 162) rfl)) (hw _ (List.mem_of_getElem? (i := 165) rfl)) (hw _ (List.mem_of_getElem? (i := 166) rfl)) (by decide) pd___V rfl rfl rfl (by decide) (by show (0 : Nat) + (1 + 11) + 12 ≤ _; decide) (by decide) (by decide) (by decide) (by decide) (pc' := 4) rfl ?_
  rintro _ rfl
  show Run l Z n0 "java/util/AbstractList" jdk_39_method_1_code 1 none (⟨"java/util/AbstractList", "<init>", "()V"⟩ : MethodName) ({ frames := 2, cells := 0, slots := 0, locals := 24 } : Room) _ 4 #[.val (.ref v)] [] h0 0 0
  refine Run.aloadN d31_4 rfl rfl (pc' := 5) rfl ?_
  refine Run.iconst (0 : Int32) d31_5 (by decide) (pc' := 6) rfl ?_
  refine Run.putF d31_6 (host := "") (Or.inl (hw _ (List.mem_of_getElem? (i := 168) rfl))) Via.refl Gm EV (Or.inl (hw _ (List.mem_of_getElem? (i := 169) rfl))) (hw _ (List.mem_of_getElem? (i := 147) rfl)) (ty := .int) (by decide) rfl rfl gv (pc' := 9) rfl ?_
  intro h12 W12
  have Fw12 := Gm.same W12
  have E_v_12 := EV.wr W12
  have F_v_size_12 := Gs.other W12 (Or.inr (slot_ne (Or.inr (hw _ (List.mem_of_getElem? (i := 171) rfl))) (Or.inl (hw _ (List.mem_of_getElem? (i := 169) rfl))) (by decide) (t := .int) (t' := .int) (by decide) (by decide)))
  have F_v_texts_12 := Gt.other W12 (Or.inr (slot_ne (Or.inr (hw _ (List.mem_of_getElem? (i := 176) rfl))) (Or.inl (hw _ (List.mem_of_getElem? (i := 169) rfl))) (by decide) (t := (.object "java/util/function/IntFunction")) (t' := .int) (by decide) (by decide)))
  have sz12 : n0 ≤ h12.size := by rw [W12.size]; exact Z0
  have kp12 := Keep.wr (Keep.refl h0 [v]) W12 (Or.inl (List.mem_of_getElem? (i := 0) rfl))
  exact Run.vreturn d31_9 rfl (by decide) (by decide) ⟨rfl, kp12, E_v_12, F_v_size_12, F_v_texts_12⟩
theorem d30_0 : decode prog_53_method_1_code 0 = .ok (.aload_n 0, 1) := by decide +kernel
theorem d30_1 : decode prog_53_method_1_code 1 = .ok (.invokespecial 1, 3) := by decide +kernel
theorem d30_4 : decode prog_53_method_1_code 4 = .ok (.iload_n 1, 1) := by decide +kernel
theorem d30_5 : decode prog_53_method_1_code 5 = .ok (.ifCond .ge 17, 3) := by decide +kernel
theorem d30_22 : decode prog_53_method_1_code 22 = .ok (.aload_n 0, 1) := by decide +kernel
theorem d30_23 : decode prog_53_method_1_code 23 = .ok (.iload_n 1, 1) := by decide +kernel
theorem d30_24 : decode prog_53_method_1_code 24 = .ok (.putfield 16, 3) := by decide +kernel
theorem d30_27 : decode prog_53_method_1_code 27 = .ok (.aload_n 0, 1) := by decide +kernel
theorem d30_28 : decode prog_53_method_1_code 28 = .ok (.aload_n 2, 1) := by decide +kernel
theorem d30_29 : decode prog_53_method_1_code 29 = .ok (.ldc 22, 2) := by decide +kernel
theorem d30_31 : decode prog_53_method_1_code 31 = .ok (.invokestatic 24, 3) := by decide +kernel
theorem d30_34 : decode prog_53_method_1_code 34 = .ok (.checkcast 30, 3) := by decide +kernel
theorem d30_37 : decode prog_53_method_1_code 37 = .ok (.putfield 32, 3) := by decide +kernel
theorem d30_40 : decode prog_53_method_1_code 40 = .ok (.return_, 1) := by decide +kernel
theorem pn_30 : plainFor (⟨"com/example/wireform/wireform/text/LineView", "<init>", "(ILjava/util/function/IntFunction;)V"⟩ : MethodName) = true := plainFor_of_name (by first | (simp [plainName, overriddenIn]; done) | decide +kernel)
theorem pd__Ljava_lang_Object_Ljava_lang_String__Ljava_lang_Object_ : parseMethodDescriptor "(Ljava/lang/Object;Ljava/lang/String;)Ljava/lang/Object;" = some ⟨[(.object "java/lang/Object"), (.object "java/lang/String")], some (.object "java/lang/Object")⟩ := by decide +kernel
theorem ef_con_lvi (m : MethodId) (v f : Addr) (z : Nat)  : entryFrame m #[(.ref v), (.int (Int32.ofNat z)), (.ref f)] 3 = mkF m 0 #[.val (.ref v), .val (.int (Int32.ofNat z)), .val (.ref f)] [] := by first | (simp [entryFrame, mkF, argsToLocals, Value.category]; done) | rfl
set_option maxRecDepth 65536 in
set_option maxHeartbeats 40000000 in
theorem con_lvi (l : Launch) (Z : State) (a0 : Array Value) (hw : ∀ d ∈ tables_1, d.before a0 Z = true) (n0 : Nat) (h0 : Heap) (Z0 : n0 ≤ h0.size) (v f : Addr) (z : Nat) (EV : Exa Z h0 v "com/example/wireform/wireform/text/LineView") (gv : n0 ≤ v) (Gm : Fld Z h0 v "java/util/AbstractList" "modCount" "I" (.int (0 : Int32))) (Gs : Fld Z h0 v "com/example/wireform/wireform/text/LineView" "size" "I" (.int (0 : Int32))) (Gt : Fld Z h0 v "com/example/wireform/wireform/text/LineView" "texts" "Ljava/util/function/IntFunction;" .null) (IF : Ins Z h0 f "java/util/function/IntFunction" true) (hz : z ≤ 99) :
    ConW l Z own_EL n0 (⟨"com/example/wireform/wireform/text/LineView", "<init>", "(ILjava/util/function/IntFunction;)V"⟩ : MethodName) prog_53_method_1_code 3 none ({ frames := 3, cells := 2, slots := 24, locals := 36 } : Room) #[(.ref v), (.int (Int32.ofNat z)), (.ref f)] h0 [] (Vd fun h' => Keep h0 h' [v] ∧ Exa Z h' v "com/example/wireform/wireform/text/LineView") := by
  refine ConW.of_run (own_EW hw) pn_30 (fun m => ef_con_lvi m v f z ) ?_
  intro vm hal hsf
  refine RunW.aloadN d30_0 rfl rfl (pc' := 1) rfl ?_
  refine RunW.callN (k' := 0) (n' := 0) (a := v) (as := []) (rest := []) (con_ali l Z a0 hw n0 h0 Z0 v EV gv Gm Gs Gt) (by rintro _ _ ⟨rfl, ⟨K_, X_, P_, R_⟩⟩; exact ⟨[v], K_, (allS (Safe.exa hal EV (by decide) (by decide)) all0)⟩) rfl rfl d30_1 (hw _ (List.mem_of_getElem? (i := 156) rfl)) (hw _ (List.mem_of_getElem? (i := 157) rfl)) (hw _ (List.mem_of_getElem? (i := 159) rfl)) (hw _ (List.mem_of_getElem? (i := 160) rfl)) (by decide) pd___V rfl rfl rfl (by decide) (by show (0 : Nat) + (1 + 11) + 24 ≤ _; decide) (by decide) (by decide) (by decide) (by decide) (pc' := 4) rfl ?_
  rintro _ h11 ⟨rfl, ⟨K11, X11, P11, R11⟩⟩ c11
  show RunW l Z own_EL n0 "com/example/wireform/wireform/text/LineView" prog_53_method_1_code 3 none (⟨"com/example/wireform/wireform/text/LineView", "<init>", "(ILjava/util/function/IntFunction;)V"⟩ : MethodName) ({ frames := 3, cells := 2, slots := 24, locals := 36 } : Room) _ 4 #[.val (.ref v), .val (.int (Int32.ofNat z)), .val (.ref f)] [] h11 vm 0 0
  have E_v_11 := EV.keep K11
  have I_f_11 := own_insk IF K11
  have sz11 : n0 ≤ h11.size := Nat.le_trans Z0 K11.1
  have kp11 := Keep.trans (Keep.refl h0 [v]) K11 (allS (Or.inl (List.mem_of_getElem? (i := 0) rfl)) all0)
  refine RunW.iloadN d30_4 rfl (pc' := 5) rfl ?_
  refine RunW.if_ge d30_5 (by decide) (pc' := 22) (by decide) (pa := 8) rfl (fun hc5 => ?_) (fun hc5 => ?_)
  · refine RunW.aloadN d30_22 rfl rfl (pc' := 23) rfl ?_
    refine RunW.iloadN d30_23 rfl (pc' := 24) rfl ?_
    refine RunW.putF d30_24 (host := "") (Or.inl (hw _ (List.mem_of_getElem? (i := 170) rfl))) Via.refl P11 X11 (Or.inr ⟨(hw _ (List.mem_of_getElem? (i := 171) rfl)), rfl, rfl⟩) (hw _ (List.mem_of_getElem? (i := 147) rfl)) (ty := .int) (by decide) rfl rfl gv (Safe.exa hal X11 (by decide) (by decide)) (pc' := 27) rfl ?_
    intro h12 W12 c12
    have Fw12 := P11.same W12
    have E_v_12 := X11.wr W12
    have I_f_12 := I_f_11.wr W12
    have F_v_texts_12 := R11.other W12 (Or.inr (slot_ne (Or.inr (hw _ (List.mem_of_getElem? (i := 176) rfl))) (Or.inr (hw _ (List.mem_of_getElem? (i := 171) rfl))) (by decide) (t := (.object "java/util/function/IntFunction")) (t' := .int) (by decide) (by decide)))
    have sz12 : n0 ≤ h12.size := by rw [W12.size]; exact sz11
    have kp12 := Keep.wr kp11 W12 (Or.inl (List.mem_of_getElem? (i := 0) rfl))
    refine RunW.aloadN d30_27 rfl rfl (pc' := 28) rfl ?_
    refine RunW.aloadN d30_28 rfl rfl (pc' := 29) rfl ?_
    refine RunW.ldcT (len := 20) (z := (5 : Int32)) (bs := [(.int (116 : Int32)), (.int (101 : Int32)), (.int (120 : Int32)), (.int (116 : Int32)), (.int (115 : Int32))]) (k' := 2) (n' := 24) d30_29 (hw _ (List.mem_of_getElem? (i := 172) rfl)) (own_wS hw) (own_EW hw) (List.mem_of_getElem? (i := 3) rfl) (by decide) (by decide) (by decide) (by decide) (by decide) (by decide) (by decide) (by decide) (pc' := 31) rfl ?_
    intro h13 vm13 a13 b13 E13 c13 X13 FC13 FV13 A13 ns13
    have E_v_13 := E_v_12.ext E13
    have I_f_13 := I_f_12.ext E13
    have F_v_texts_13 := F_v_texts_12.ext E13
    have F_v_size_13 := Fw12.ext E13
    have sz13 : n0 ≤ h13.size := Nat.le_trans sz12 E13.1
    have kp13 := Keep.ext kp12 E13
    refine RunW.callS (k' := 2) (n' := 24) (as := [(.ref f), (.ref a13)]) (rest := [(.ref v)]) (con_rnn l Z a0 hw n0 h13 sz13 f a13 ) (by rintro _ _ ⟨_, -, -, rfl⟩; exact ⟨[], Keep.refl _ _, all0⟩) d30_31 (hw _ (List.mem_of_getElem? (i := 173) rfl)) (hw _ (List.mem_of_getElem? (i := 113) rfl)) (hw _ (List.mem_of_getElem? (i := 114) rfl)) (hw _ (List.mem_of_getElem? (i := 115) rfl)) (by decide) pd__Ljava_lang_Object_Ljava_lang_String__Ljava_lang_Object_ rfl rfl rfl (by decide) (by show (1 : Nat) + (2 + 11) + 0 ≤ _; decide) (by decide) (by decide) (by decide) (by decide) (pc' := 34) rfl ?_
    rintro _ _ ⟨_, rfl, rfl, rfl⟩ -
    show RunW l Z own_EL n0 "com/example/wireform/wireform/text/LineView" prog_53_method_1_code 3 none (⟨"com/example/wireform/wireform/text/LineView", "<init>", "(ILjava/util/function/IntFunction;)V"⟩ : MethodName) ({ frames := 3, cells := 2, slots := 24, locals := 36 } : Room) _ 34 #[.val (.ref v), .val (.int (Int32.ofNat z)), .val (.ref f)] [(.ref f), (.ref v)] h13 vm13 2 24
    refine RunW.castY d30_34 (hw _ (List.mem_of_getElem? (i := 174) rfl)) I_f_13 (pc' := 37) rfl ?_
    refine RunW.alike fun al15 => ?_
    refine RunW.putF d30_37 (host := "") (Or.inl (hw _ (List.mem_of_getElem? (i := 175) rfl))) Via.refl F_v_texts_13 E_v_13 (Or.inr ⟨(hw _ (List.mem_of_getElem? (i := 176) rfl)), rfl, rfl⟩) (hw _ (List.mem_of_getElem? (i := 147) rfl)) (ty := (.object "java/util/function/IntFunction")) (by decide) (go_narref rfl rfl) rfl gv (Safe.exa al15 E_v_13 (by decide) (by decide)) (pc' := 40) rfl ?_
    intro h14 W14 c14
    have Fw14 := F_v_texts_13.same W14
    have E_v_14 := E_v_13.wr W14
    have I_f_14 := I_f_13.wr W14
    have F_v_size_14 := F_v_size_13.other W14 (Or.inr (slot_ne (Or.inr (hw _ (List.mem_of_getElem? (i := 171) rfl))) (Or.inr (hw _ (List.mem_of_getElem? (i := 176) rfl))) (by decide) (t := .int) (t' := (.object "java/util/function/IntFunction")) (by decide) (by decide)))
    have E_a13_14 := X13.wr W14
    have F_a13_coder_14 := FC13.other W14 (Or.inl (own_xne X13 E_v_13 (by decide)))
    have F_a13_value_14 := FV13.other W14 (Or.inl (own_xne X13 E_v_13 (by decide)))
    have A_b13_14 := A13.other W14 (own_ane (hw _ (List.mem_of_getElem? (i := 147) rfl)) A13 E_v_13)
    have sz14 : n0 ≤ h14.size := by rw [W14.size]; exact sz13
    have kp14 := Keep.wr kp13 W14 (Or.inl (List.mem_of_getElem? (i := 0) rfl))
    exact RunW.vreturn d30_40 rfl (by decide) (by decide) ⟨rfl, kp14, E_v_14⟩
  · exact absurd hc5 (own_nge (by omega))
theorem d33_0 : decode prog_57_method_1_code 0 = .ok (.aload_n 0, 1) := by decide +kernel
theorem d33_1 : decode prog_57_method_1_code 1 = .ok (.invokespecial 1, 3) := by decide +kernel
theorem d33_4 : decode prog_57_method_1_code 4 = .ok (.aload_n 1, 1) := by decide +kernel
theorem d33_5 : decode prog_57_method_1_code 5 = .ok (.instanceof 7, 3) := by decide +kernel
theorem d33_8 : decode prog_57_method_1_code 8 = .ok (.ifCond .eq 7, 3) := by decide +kernel
theorem d33_11 : decode prog_57_method_1_code 11 = .ok (.aload_n 1, 1) := by decide +kernel
theorem d33_12 : decode prog_57_method_1_code 12 = .ok (.goto 7, 3) := by decide +kernel
theorem d33_15 : decode prog_57_method_1_code 15 = .ok (.aload_n 1, 1) := by decide +kernel
theorem d33_19 : decode prog_57_method_1_code 19 = .ok (.astore_n 1, 1) := by decide +kernel
theorem d33_20 : decode prog_57_method_1_code 20 = .ok (.aload_n 0, 1) := by decide +kernel
theorem d33_21 : decode prog_57_method_1_code 21 = .ok (.aload_n 1, 1) := by decide +kernel
theorem d33_22 : decode prog_57_method_1_code 22 = .ok (.putfield 15, 3) := by decide +kernel
theorem d33_25 : decode prog_57_method_1_code 25 = .ok (.aload_n 0, 1) := by decide +kernel
theorem d33_26 : decode prog_57_method_1_code 26 = .ok (.aload_n 2, 1) := by decide +kernel
theorem d33_27 : decode prog_57_method_1_code 27 = .ok (.putfield 21, 3) := by decide +kernel
theorem d33_30 : decode prog_57_method_1_code 30 = .ok (.return_, 1) := by decide +kernel
theorem pn_33 : plainFor (⟨"com/example/wireform/wireform/text/Message", "<init>", "(Ljava/util/List;Lcom/example/wireform/wireform/text/FinHeader;)V"⟩ : MethodName) = true := plainFor_of_name (by first | (simp [plainName, overriddenIn]; done) | decide +kernel)
theorem ef_con_msi (m : MethodId) (v g : Addr)  : entryFrame m #[(.ref v), (.ref g), .null] 3 = mkF m 0 #[.val (.ref v), .val (.ref g), .val .null] [] := by first | (simp [entryFrame, mkF, argsToLocals, Value.category]; done) | rfl
set_option maxRecDepth 65536 in
set_option maxHeartbeats 40000000 in
theorem con_msi (l : Launch) (Z : State) (a0 : Array Value) (hw : ∀ d ∈ tables_1, d.before a0 Z = true) (n0 : Nat) (h0 : Heap) (Z0 : n0 ≤ h0.size) (v g : Addr) (EV : Exa Z h0 v "com/example/wireform/wireform/text/Message") (gv : n0 ≤ v) (EG : Exa Z h0 g "com/example/wireform/wireform/text/LineView") (Gl : Fld Z h0 v "com/example/wireform/wireform/text/Message" "lines" "Ljava/util/List;" .null) (Gh : Fld Z h0 v "com/example/wireform/wireform/text/Message" "header" "Lcom/example/wireform/wireform/text/FinHeader;" .null) :
    Con l Z n0 (⟨"com/example/wireform/wireform/text/Message", "<init>", "(Ljava/util/List;Lcom/example/wireform/wireform/text/FinHeader;)V"⟩ : MethodName) prog_57_method_1_code 3 none ({ frames := 2, cells := 0, slots := 0, locals := 24 } : Room) #[(.ref v), (.ref g), .null] h0 (Vd fun h' => Keep h0 h' [v]) := by
  refine Con.of_run pn_33 (fun m => ef_con_msi m v g ) ?_
  refine Run.aloadN d33_0 rfl rfl (pc' := 1) rfl ?_
  refine Run.callN (k' := 0) (n' := 0) (a := v) (as := []) (rest := []) (con_rec l Z a0 hw n0 h0 Z0 v) rfl d33_1 (hw _ (List.mem_of_getElem? (i := 180) rfl)) (hw _ (List.mem_of_getElem? (i := 181) rfl)) (hw _ (List.mem_of_getElem? (i := 183) rfl)) (hw _ (List.mem_of_getElem? (i := 184) rfl)) (by decide) pd___V rfl rfl rfl (by decide) (by show (0 : Nat) + (1 + 11) + 12 ≤ _; decide) (by decide) (by decide) (by decide) (by decide) (pc' := 4) rfl ?_
  rintro _ rfl
  show Run l Z n0 "com/example/wireform/wireform/text/Message" prog_57_method_1_code 3 none (⟨"com/example/wireform/wireform/text/Message", "<init>", "(Ljava/util/List;Lcom/example/wireform/wireform/text/FinHeader;)V"⟩ : MethodName) ({ frames := 2, cells := 0, slots := 0, locals := 24 } : Room) _ 4 #[.val (.ref v), .val (.ref g), .val .null] [] h0 0 0
  refine Run.aloadN d33_4 rfl rfl (pc' := 5) rfl ?_
  refine Run.instY d33_5 (hw _ (List.mem_of_getElem? (i := 186) rfl)) (Ins.self EG) (pc' := 8) rfl ?_
  refine Run.if_eq d33_8 (by decide) (pc' := 15) (by decide) (pa := 11) rfl (fun hc8 => ?_) (fun hc8 => ?_)
  · exact absurd hc8 (by decide)
  · refine Run.aloadN d33_11 rfl rfl (pc' := 12) rfl ?_
    refine Run.goto d33_12 (by decide) (pc' := 19) (by decide) ?_
    refine Run.astoreN (l' := #[.val (.ref v), .val (.ref g), .val .null]) d33_19 rfl rfl (pc' := 20) rfl ?_
    refine Run.aloadN d33_20 rfl rfl (pc' := 21) rfl ?_
    refine Run.aloadN d33_21 rfl rfl (pc' := 22) rfl ?_
    refine Run.putF d33_22 (host := "") (Or.inl (hw _ (List.mem_of_getElem? (i := 188) rfl))) Via.refl Gl EV (Or.inr ⟨(hw _ (List.mem_of_getElem? (i := 189) rfl)), rfl, rfl⟩) (hw _ (List.mem_of_getElem? (i := 105) rfl)) (ty := (.object "java/util/List")) (by decide) (go_narref rfl rfl) rfl gv (pc' := 25) rfl ?_
    intro h12 W12
    have Fw12 := Gl.same W12
    have E_v_12 := EV.wr W12
    have E_g_12 := EG.wr W12
    have F_v_header_12 := Gh.other W12 (Or.inr (slot_ne (Or.inr (hw _ (List.mem_of_getElem? (i := 191) rfl))) (Or.inr (hw _ (List.mem_of_getElem? (i := 189) rfl))) (by decide) (t := (.object "com/example/wireform/wireform/text/FinHeader")) (t' := (.object "java/util/List")) (by decide) (by decide)))
    have sz12 : n0 ≤ h12.size := by rw [W12.size]; exact Z0
    have kp12 := Keep.wr (Keep.refl h0 [v]) W12 (Or.inl (List.mem_of_getElem? (i := 0) rfl))
    refine Run.aloadN d33_25 rfl rfl (pc' := 26) rfl ?_
    refine Run.aloadN d33_26 rfl rfl (pc' := 27) rfl ?_
    refine Run.putF d33_27 (host := "") (Or.inl (hw _ (List.mem_of_getElem? (i := 190) rfl))) Via.refl F_v_header_12 E_v_12 (Or.inr ⟨(hw _ (List.mem_of_getElem? (i := 191) rfl)), rfl, rfl⟩) (hw _ (List.mem_of_getElem? (i := 105) rfl)) (ty := (.object "com/example/wireform/wireform/text/FinHeader")) (by decide) (go_narref rfl rfl) rfl gv (pc' := 30) rfl ?_
    intro h13 W13
    have Fw13 := F_v_header_12.same W13
    have E_v_13 := E_v_12.wr W13
    have E_g_13 := E_g_12.wr W13
    have F_v_lines_13 := Fw12.other W13 (Or.inr (slot_ne (Or.inr (hw _ (List.mem_of_getElem? (i := 189) rfl))) (Or.inr (hw _ (List.mem_of_getElem? (i := 191) rfl))) (by decide) (t := (.object "java/util/List")) (t' := (.object "com/example/wireform/wireform/text/FinHeader")) (by decide) (by decide)))
    have sz13 : n0 ≤ h13.size := by rw [W13.size]; exact sz12
    have kp13 := Keep.wr kp12 W13 (Or.inl (List.mem_of_getElem? (i := 0) rfl))
    exact Run.vreturn d33_30 rfl (by decide) (by decide) ⟨rfl, kp13⟩
theorem own_f1c : own_coder [(123 : Int32), (49 : Int32), (58 : Int32), (70 : Int32), (48 : Int32), (49 : Int32)] = 0 := by decide
theorem own_f1e : own_enc [(123 : Int32), (49 : Int32), (58 : Int32), (70 : Int32), (48 : Int32), (49 : Int32)] = [.int (123 : Int32), .int (49 : Int32), .int (58 : Int32), .int (70 : Int32), .int (48 : Int32), .int (49 : Int32)] := by unfold own_enc; rw [if_pos (by decide)]; rfl
theorem own_f1p : own_pfx [(123 : Int32), (49 : Int32), (58 : Int32), (70 : Int32), (48 : Int32), (49 : Int32)] = List.length [(123 : Int32), (49 : Int32), (58 : Int32), (70 : Int32), (48 : Int32), (49 : Int32)] := by decide
theorem own_f1q : own_chr [(123 : Int32), (49 : Int32), (58 : Int32), (70 : Int32), (48 : Int32), (49 : Int32)] := by intro c hc; simp only [List.mem_cons, List.not_mem_nil, or_false] at hc; rcases hc with rfl | rfl | rfl | rfl | rfl | rfl <;> decide
theorem own_f1s {cs : List Int32} (h : cs.length ≤ 5) : own_sw cs [(123 : Int32), (49 : Int32), (58 : Int32), (70 : Int32), (48 : Int32), (49 : Int32)] 0 = 0 := by unfold own_sw; rw [if_pos (by show cs.length < 0 + 6; omega)]
theorem d49_0 : decode prog_50_method_2_code 0 = .ok (.aload_n 0, 1) := by decide +kernel
theorem d49_1 : decode prog_50_method_2_code 1 = .ok (.ldc 56, 2) := by decide +kernel
theorem d49_3 : decode prog_50_method_2_code 3 = .ok (.invokevirtual 58, 3) := by decide +kernel
theorem d49_6 : decode prog_50_method_2_code 6 = .ok (.ifCond .eq 93, 3) := by decide +kernel
theorem d49_99 : decode prog_50_method_2_code 99 = .ok (.aconst_null, 1) := by decide +kernel
theorem d49_100 : decode prog_50_method_2_code 100 = .ok (.areturn, 1) := by decide +kernel
theorem pn_49 : plainFor (⟨"com/example/wireform/wireform/text/FinHeader", "read", "(Ljava/lang/String;)Lcom/example/wireform/wireform/text/FinHeader;"⟩ : MethodName) = true := plainFor_of_name (by first | (simp [plainName, overriddenIn]; done) | decide +kernel)
theorem pd__Ljava_lang_String__Z : parseMethodDescriptor "(Ljava/lang/String;)Z" = some ⟨[(.object "java/lang/String")], some .boolean⟩ := by decide +kernel
theorem ef_con_fhr (m : MethodId) (t b : Addr) (cs : List Int32) (cz : Int32)  : entryFrame m #[(.ref t)] 2 = mkF m 0 #[.val (.ref t), .unset] [] := by first | (simp [entryFrame, mkF, argsToLocals, Value.category]; done) | rfl
set_option maxRecDepth 65536 in
set_option maxHeartbeats 40000000 in
theorem con_fhr (l : Launch) (Z : State) (a0 : Array Value) (hw : ∀ d ∈ tables_1, d.before a0 Z = true) (n0 : Nat) (h0 : Heap) (Z0 : n0 ≤ h0.size) (t b : Addr) (cs : List Int32) (cz : Int32) (od0 : Old Z n0 h0) (SZ : Sta Z Z.heap "java/lang/String" "COMPACT_STRINGS" "Z" (.int cz)) (hcz : ¬ cz = 0) (E1 : Exa Z h0 t "java/lang/String") (FV : Fld Z h0 t "java/lang/String" "value" "[B" (.ref b)) (FC : Fld Z h0 t "java/lang/String" "coder" "B" (.int (own_coder cs))) (AB : Ary Z h0 b .byte (own_enc cs)) (hp : own_pfx cs = cs.length) (hch : own_chr cs) (h5 : cs.length ≤ 5) :
    ConW l Z own_EL n0 (⟨"com/example/wireform/wireform/text/FinHeader", "read", "(Ljava/lang/String;)Lcom/example/wireform/wireform/text/FinHeader;"⟩ : MethodName) prog_50_method_2_code 2 (some (.object "com/example/wireform/wireform/text/FinHeader")) ({ frames := 4, cells := 2, slots := 28, locals := 59 } : Room) #[(.ref t)] h0 [] (Val fun w h' => .null = w ∧ Ext h0 h') := by
  refine ConW.of_run (own_EW hw) pn_49 (fun m => ef_con_fhr m t b cs cz ) ?_
  intro vm hal hsf
  refine RunW.aloadN d49_0 rfl rfl (pc' := 1) rfl ?_
  refine RunW.ldcT (len := 24) (z := (6 : Int32)) (bs := [(.int (123 : Int32)), (.int (49 : Int32)), (.int (58 : Int32)), (.int (70 : Int32)), (.int (48 : Int32)), (.int (49 : Int32))]) (k' := 2) (n' := 28) d49_1 (hw _ (List.mem_of_getElem? (i := 262) rfl)) (own_wS hw) (own_EW hw) (List.mem_of_getElem? (i := 5) rfl) (by decide) (by decide) (by decide) (by decide) (by decide) (by decide) (by decide) (by decide) (pc' := 3) rfl ?_
  intro h11 vm11 a11 b11 E11 c11 X11 FC11 FV11 A11 ns11
  have E_t_11 := E1.ext E11
  have F_t_value_11 := FV.ext E11
  have F_t_coder_11 := FC.ext E11
  have A_b_11 := AB.ext E11
  have sz11 : n0 ≤ h11.size := Nat.le_trans Z0 E11.1
  have kp11 := Keep.ext (Keep.refl h0 []) E11
  have od11 := od0.ext E11
  have FCl12 : Fld Z h11 a11 "java/lang/String" "coder" "B" (.int (own_coder [(123 : Int32), (49 : Int32), (58 : Int32), (70 : Int32), (48 : Int32), (49 : Int32)])) := by rw [own_f1c]; exact FC11
  have ABl12 : Ary Z h11 b11 .byte (own_enc [(123 : Int32), (49 : Int32), (58 : Int32), (70 : Int32), (48 : Int32), (49 : Int32)]) := by rw [own_f1e]; exact A11
  refine RunW.callV (k' := 2) (n' := 28) (a := t) (as := [(.ref a11)]) (rest := []) (con_sws l Z a0 hw n0 h11 sz11 t b a11 b11 cs [(123 : Int32), (49 : Int32), (58 : Int32), (70 : Int32), (48 : Int32), (49 : Int32)]  cz od11 SZ hcz E_t_11 F_t_value_11 F_t_coder_11 A_b_11 X11 FV11 FCl12 ABl12 (by decide) (by omega) hp hch own_f1p own_f1q) (by rintro _ _ ⟨_, -, -, rfl⟩; exact ⟨[], Keep.refl _ _, all0⟩) E_t_11 d49_3 (hw _ (List.mem_of_getElem? (i := 263) rfl)) (hw _ (List.mem_of_getElem? (i := 66) rfl)) (fun s hZ => notFace_of_selects (args := #[]) (mvT hZ (hw _ (List.mem_of_getElem? (i := 68) rfl)))) (hw _ (List.mem_of_getElem? (i := 68) rfl)) (hw _ (List.mem_of_getElem? (i := 67) rfl)) (hw _ (List.mem_of_getElem? (i := 1) rfl)) (hw _ (List.mem_of_getElem? (i := 69) rfl)) (by decide) pd__Ljava_lang_String__Z rfl rfl rfl (by decide) (by show (0 : Nat) + (2 + 11) + 46 ≤ _; decide) (by decide) (by decide) (by decide) (by decide) (pc' := 6) rfl ?_
  rintro _ _ ⟨_, rfl, rfl, rfl⟩ -
  show RunW l Z own_EL n0 "com/example/wireform/wireform/text/FinHeader" prog_50_method_2_code 2 (some (.object "com/example/wireform/wireform/text/FinHeader")) (⟨"com/example/wireform/wireform/text/FinHeader", "read", "(Ljava/lang/String;)Lcom/example/wireform/wireform/text/FinHeader;"⟩ : MethodName) ({ frames := 4, cells := 2, slots := 28, locals := 59 } : Room) _ 6 #[.val (.ref t), .unset] [(.int (own_sw cs [(123 : Int32), (49 : Int32), (58 : Int32), (70 : Int32), (48 : Int32), (49 : Int32)] 0))] h11 vm11 2 28
  refine RunW.if_eq d49_6 (by decide) (pc' := 99) (by decide) (pa := 9) rfl (fun hc6 => ?_) (fun hc6 => ?_)
  · refine RunW.aconst d49_99 (pc' := 100) rfl ?_
    exact RunW.areturn d49_100 (ty := (.object "com/example/wireform/wireform/text/FinHeader")) rfl rfl rfl (by decide) (by decide) ⟨_, rfl, rfl, Keep.toExt kp11⟩
  · exact absurd (own_f1s h5) hc6
theorem d18_0 : decode prog_58_method_2_code 0 = .ok (.aload_n 0, 1) := by decide +kernel
theorem d18_1 : decode prog_58_method_2_code 1 = .ok (.getfield 23, 3) := by decide +kernel
theorem d18_4 : decode prog_58_method_2_code 4 = .ok (.ifCond .eq 18, 3) := by decide +kernel
theorem d18_7 : decode prog_58_method_2_code 7 = .ok (.aload_n 0, 1) := by decide +kernel
theorem d18_8 : decode prog_58_method_2_code 8 = .ok (.getfield 34, 3) := by decide +kernel
theorem d18_11 : decode prog_58_method_2_code 11 = .ok (.ifnull 7, 3) := by decide +kernel
theorem d18_14 : decode prog_58_method_2_code 14 = .ok (.iconst 1, 1) := by decide +kernel
theorem d18_15 : decode prog_58_method_2_code 15 = .ok (.goto 11, 3) := by decide +kernel
theorem d18_18 : decode prog_58_method_2_code 18 = .ok (.iconst 0, 1) := by decide +kernel
theorem d18_19 : decode prog_58_method_2_code 19 = .ok (.goto 7, 3) := by decide +kernel
theorem d18_22 : decode prog_58_method_2_code 22 = .ok (.aload_n 0, 1) := by decide +kernel
theorem d18_23 : decode prog_58_method_2_code 23 = .ok (.getfield 27, 3) := by decide +kernel
theorem d18_26 : decode prog_58_method_2_code 26 = .ok (.ireturn, 1) := by decide +kernel
theorem pn_18 : plainFor (⟨"com/example/wireform/wireform/text/MessageReader", "hasNext", "()Z"⟩ : MethodName) = true := plainFor_of_name (by first | (simp [plainName, overriddenIn]; done) | decide +kernel)
theorem ef_con_hn1 (m : MethodId) (r o : Addr)  : entryFrame m #[(.ref r)] 1 = mkF m 0 #[.val (.ref r)] [] := by first | (simp [entryFrame, mkF, argsToLocals, Value.category]; done) | rfl
set_option maxRecDepth 65536 in
set_option maxHeartbeats 40000000 in
theorem con_hn1 (l : Launch) (Z : State) (a0 : Array Value) (hw : ∀ d ∈ tables_1, d.before a0 Z = true) (n0 : Nat) (h0 : Heap) (Z0 : n0 ≤ h0.size) (r o : Addr) (Rf : Fld Z h0 r "com/example/wireform/wireform/text/MessageReader" "fin" "Z" (.int (1 : Int32))) (Ro : Fld Z h0 r "com/example/wireform/wireform/text/MessageReader" "opening" "Ljava/lang/String;" (.ref o)) :
    Con l Z n0 (⟨"com/example/wireform/wireform/text/MessageReader", "hasNext", "()Z"⟩ : MethodName) prog_58_method_2_code 1 (some .boolean) ({ frames := 0, cells := 0, slots := 0, locals := 0 } : Room) #[(.ref r)] h0 (Val (PV (.int (1 : Int32)) h0)) := by
  refine Con.of_run pn_18 (fun m => ef_con_hn1 m r o ) ?_
  refine Run.aloadN d18_0 rfl rfl (pc' := 1) rfl ?_
  refine Run.getF d18_1 (host := "") (Or.inl (hw _ (List.mem_of_getElem? (i := 89) rfl))) Via.refl Rf (pc' := 4) rfl ?_
  refine Run.if_eq d18_4 (by decide) (pc' := 22) (by decide) (pa := 7) rfl (fun hc4 => ?_) (fun hc4 => ?_)
  · exact absurd hc4 (by decide)
  · refine Run.aloadN d18_7 rfl rfl (pc' := 8) rfl ?_
    refine Run.getF d18_8 (host := "") (Or.inl (hw _ (List.mem_of_getElem? (i := 256) rfl))) Via.refl Ro (pc' := 11) rfl ?_
    refine Run.ifnull d18_11 rfl (by decide) (pc' := 18) (by decide) (pa := 14) rfl (fun hc11 => ?_) (fun hc11 => ?_)
    · exact absurd hc11 (by simp)
    · refine Run.iconst (1 : Int32) d18_14 (by decide) (pc' := 15) rfl ?_
      refine Run.goto d18_15 (by decide) (pc' := 26) (by decide) ?_
      exact Run.nreturn d18_26 (ty := .boolean) rfl (by simp) (by decide) (by decide) ⟨_, rfl, rfl, rfl⟩
theorem ef_con_hn0 (m : MethodId) (r : Addr)  : entryFrame m #[(.ref r)] 1 = mkF m 0 #[.val (.ref r)] [] := by first | (simp [entryFrame, mkF, argsToLocals, Value.category]; done) | rfl
set_option maxRecDepth 65536 in
set_option maxHeartbeats 40000000 in
theorem con_hn0 (l : Launch) (Z : State) (a0 : Array Value) (hw : ∀ d ∈ tables_1, d.before a0 Z = true) (n0 : Nat) (h0 : Heap) (Z0 : n0 ≤ h0.size) (r : Addr) (Rf : Fld Z h0 r "com/example/wireform/wireform/text/MessageReader" "fin" "Z" (.int (1 : Int32))) (Ro : Fld Z h0 r "com/example/wireform/wireform/text/MessageReader" "opening" "Ljava/lang/String;" .null) :
    Con l Z n0 (⟨"com/example/wireform/wireform/text/MessageReader", "hasNext", "()Z"⟩ : MethodName) prog_58_method_2_code 1 (some .boolean) ({ frames := 0, cells := 0, slots := 0, locals := 0 } : Room) #[(.ref r)] h0 (Val (PV (.int (0 : Int32)) h0)) := by
  refine Con.of_run pn_18 (fun m => ef_con_hn0 m r ) ?_
  refine Run.aloadN d18_0 rfl rfl (pc' := 1) rfl ?_
  refine Run.getF d18_1 (host := "") (Or.inl (hw _ (List.mem_of_getElem? (i := 89) rfl))) Via.refl Rf (pc' := 4) rfl ?_
  refine Run.if_eq d18_4 (by decide) (pc' := 22) (by decide) (pa := 7) rfl (fun hc4 => ?_) (fun hc4 => ?_)
  · exact absurd hc4 (by decide)
  · refine Run.aloadN d18_7 rfl rfl (pc' := 8) rfl ?_
    refine Run.getF d18_8 (host := "") (Or.inl (hw _ (List.mem_of_getElem? (i := 256) rfl))) Via.refl Ro (pc' := 11) rfl ?_
    refine Run.ifnull d18_11 rfl (by decide) (pc' := 18) (by decide) (pa := 14) rfl (fun hc11 => ?_) (fun hc11 => ?_)
    · refine Run.iconst (0 : Int32) d18_18 (by decide) (pc' := 19) rfl ?_
      refine Run.goto d18_19 (by decide) (pc' := 26) (by decide) ?_
      exact Run.nreturn d18_26 (ty := .boolean) rfl (by simp) (by decide) (by decide) ⟨_, rfl, rfl, rfl⟩
    · exact absurd rfl hc11
theorem ef_con_hnb (m : MethodId) (r : Addr) (vb : Int32)  : entryFrame m #[(.ref r)] 1 = mkF m 0 #[.val (.ref r)] [] := by first | (simp [entryFrame, mkF, argsToLocals, Value.category]; done) | rfl
set_option maxRecDepth 65536 in
set_option maxHeartbeats 40000000 in
theorem con_hnb (l : Launch) (Z : State) (a0 : Array Value) (hw : ∀ d ∈ tables_1, d.before a0 Z = true) (n0 : Nat) (h0 : Heap) (Z0 : n0 ≤ h0.size) (r : Addr) (vb : Int32) (Rf : Fld Z h0 r "com/example/wireform/wireform/text/MessageReader" "fin" "Z" (.int (0 : Int32))) (Rb : Fld Z h0 r "com/example/wireform/wireform/text/MessageReader" "bare" "Z" (.int vb)) (hvb : nar .boolean vb = vb) :
    Con l Z n0 (⟨"com/example/wireform/wireform/text/MessageReader", "hasNext", "()Z"⟩ : MethodName) prog_58_method_2_code 1 (some .boolean) ({ frames := 0, cells := 0, slots := 0, locals := 0 } : Room) #[(.ref r)] h0 (Val (PV (.int vb) h0)) := by
  refine Con.of_run pn_18 (fun m => ef_con_hnb m r vb ) ?_
  refine Run.aloadN d18_0 rfl rfl (pc' := 1) rfl ?_
  refine Run.getF d18_1 (host := "") (Or.inl (hw _ (List.mem_of_getElem? (i := 89) rfl))) Via.refl Rf (pc' := 4) rfl ?_
  refine Run.if_eq d18_4 (by decide) (pc' := 22) (by decide) (pa := 7) rfl (fun hc4 => ?_) (fun hc4 => ?_)
  · refine Run.aloadN d18_22 rfl rfl (pc' := 23) rfl ?_
    refine Run.getF d18_23 (host := "") (Or.inl (hw _ (List.mem_of_getElem? (i := 91) rfl))) Via.refl Rb (pc' := 26) rfl ?_
    exact Run.nreturn d18_26 (ty := .boolean) rfl (by simp) (by decide) (by decide) ⟨_, rfl, congrArg Value.int hvb.symm, rfl⟩
  · exact absurd hc4 (by decide)
set_option maxRecDepth 65536 in
theorem own_lay : ((((Lambda.Shape.mk "java/util/function/IntFunction" "apply" (MethodDescriptor.mk ([FieldType.int] : List FieldType) (Option.some (FieldType.object "java/lang/Object"))) ([(FieldType.object "java/lang/String"), (FieldType.array FieldType.int)] : List FieldType) 6 "com/example/wireform/wireform/text/Lines" "lambda$split$0" (MethodDescriptor.mk ([(FieldType.object "java/lang/String"), (FieldType.array FieldType.int), FieldType.int] : List FieldType) (Option.some (FieldType.object "java/lang/String"))) false (MethodDescriptor.mk ([FieldType.int] : List FieldType) (Option.some (FieldType.object "java/lang/String")))) : Lambda.Shape).file "com/example/wireform/wireform/text/Lines").bind (layoutFields · 0)).map (·.2.1) = some [FieldType.object "java/lang/String", .array .int].toArray := by decide +kernel
theorem own_lfit {t a : Addr} : ∀ (i : Nat) (v : Value), [Value.ref t, .ref a][i]? = some v → ∃ ty, [FieldType.object "java/lang/String", .array .int][i]? = some ty ∧ fits ty v = true
  | 0, v, h => ⟨_, rfl, by cases h; rfl⟩
  | 1, v, h => ⟨_, rfl, by cases h; rfl⟩
  | i + 2, v, h => by simp at h
theorem d22_0 : decode prog_54_method_4_code 0 = .ok (.iconst 0, 1) := by decide +kernel
theorem d22_1 : decode prog_54_method_4_code 1 = .ok (.istore_n 3, 1) := by decide +kernel
theorem d22_2 : decode prog_54_method_4_code 2 = .ok (.iload_n 1, 1) := by decide +kernel
theorem d22_3 : decode prog_54_method_4_code 3 = .ok (.istore 4, 2) := by decide +kernel
theorem d22_5 : decode prog_54_method_4_code 5 = .ok (.iload 4, 2) := by decide +kernel
theorem d22_7 : decode prog_54_method_4_code 7 = .ok (.iload_n 2, 1) := by decide +kernel
theorem d22_8 : decode prog_54_method_4_code 8 = .ok (.if_icmp .ge 19, 3) := by decide +kernel
theorem d22_11 : decode prog_54_method_4_code 11 = .ok (.iinc 3 1, 3) := by decide +kernel
theorem d22_14 : decode prog_54_method_4_code 14 = .ok (.aload_n 0, 1) := by decide +kernel
theorem d22_15 : decode prog_54_method_4_code 15 = .ok (.iload 4, 2) := by decide +kernel
theorem d22_17 : decode prog_54_method_4_code 17 = .ok (.invokestatic 36, 3) := by decide +kernel
theorem d22_20 : decode prog_54_method_4_code 20 = .ok (.iconst 1, 1) := by decide +kernel
theorem d22_21 : decode prog_54_method_4_code 21 = .ok (.iadd, 1) := by decide +kernel
theorem d22_22 : decode prog_54_method_4_code 22 = .ok (.istore 4, 2) := by decide +kernel
theorem d22_24 : decode prog_54_method_4_code 24 = .ok (.goto (-19), 3) := by decide +kernel
theorem d22_27 : decode prog_54_method_4_code 27 = .ok (.iload_n 3, 1) := by decide +kernel
theorem d22_28 : decode prog_54_method_4_code 28 = .ok (.newarray .int, 2) := by decide +kernel
theorem d22_30 : decode prog_54_method_4_code 30 = .ok (.astore 4, 2) := by decide +kernel
theorem d22_32 : decode prog_54_method_4_code 32 = .ok (.iload_n 1, 1) := by decide +kernel
theorem d22_33 : decode prog_54_method_4_code 33 = .ok (.istore 5, 2) := by decide +kernel
theorem d22_35 : decode prog_54_method_4_code 35 = .ok (.iconst 0, 1) := by decide +kernel
theorem d22_36 : decode prog_54_method_4_code 36 = .ok (.istore 6, 2) := by decide +kernel
theorem d22_38 : decode prog_54_method_4_code 38 = .ok (.iload 6, 2) := by decide +kernel
theorem d22_40 : decode prog_54_method_4_code 40 = .ok (.iload_n 3, 1) := by decide +kernel
theorem d22_41 : decode prog_54_method_4_code 41 = .ok (.if_icmp .ge 26, 3) := by decide +kernel
theorem d22_44 : decode prog_54_method_4_code 44 = .ok (.aload 4, 2) := by decide +kernel
theorem d22_46 : decode prog_54_method_4_code 46 = .ok (.iload 6, 2) := by decide +kernel
theorem d22_48 : decode prog_54_method_4_code 48 = .ok (.iload 5, 2) := by decide +kernel
theorem d22_50 : decode prog_54_method_4_code 50 = .ok (.iastore, 1) := by decide +kernel
theorem d22_51 : decode prog_54_method_4_code 51 = .ok (.aload_n 0, 1) := by decide +kernel
theorem d22_52 : decode prog_54_method_4_code 52 = .ok (.iload 5, 2) := by decide +kernel
theorem d22_54 : decode prog_54_method_4_code 54 = .ok (.invokestatic 36, 3) := by decide +kernel
theorem d22_57 : decode prog_54_method_4_code 57 = .ok (.iconst 1, 1) := by decide +kernel
theorem d22_58 : decode prog_54_method_4_code 58 = .ok (.iadd, 1) := by decide +kernel
theorem d22_59 : decode prog_54_method_4_code 59 = .ok (.istore 5, 2) := by decide +kernel
theorem d22_61 : decode prog_54_method_4_code 61 = .ok (.iinc 6 1, 3) := by decide +kernel
theorem d22_64 : decode prog_54_method_4_code 64 = .ok (.goto (-26), 3) := by decide +kernel
theorem d22_67 : decode prog_54_method_4_code 67 = .ok (.new 40, 3) := by decide +kernel
theorem d22_70 : decode prog_54_method_4_code 70 = .ok (.dup, 1) := by decide +kernel
theorem d22_71 : decode prog_54_method_4_code 71 = .ok (.iload_n 3, 1) := by decide +kernel
theorem d22_72 : decode prog_54_method_4_code 72 = .ok (.aload_n 0, 1) := by decide +kernel
theorem d22_73 : decode prog_54_method_4_code 73 = .ok (.aload 4, 2) := by decide +kernel
theorem d22_75 : decode prog_54_method_4_code 75 = .ok (.invokedynamic 42, 5) := by decide +kernel
theorem d22_80 : decode prog_54_method_4_code 80 = .ok (.invokespecial 46, 3) := by decide +kernel
theorem d22_83 : decode prog_54_method_4_code 83 = .ok (.areturn, 1) := by decide +kernel
theorem pn_22 : plainFor (⟨"com/example/wireform/wireform/text/Lines", "split", "(Ljava/lang/String;II)Ljava/util/List;"⟩ : MethodName) = true := plainFor_of_name (by first | (simp [plainName, overriddenIn]; done) | decide +kernel)
theorem pd__ILjava_util_function_IntFunction__V : parseMethodDescriptor "(ILjava/util/function/IntFunction;)V" = some ⟨[.int, (.object "java/util/function/IntFunction")], none⟩ := by decide +kernel
theorem ef_con_spl (m : MethodId) (t b : Addr) (cs : List Int32) (K : List Nat) (s e : Nat) (cz : Int32)  : entryFrame m #[(.ref t), (.int (Int32.ofNat s)), (.int (Int32.ofNat e))] 7 = mkF m 0 #[.val (.ref t), .val (.int (Int32.ofNat s)), .val (.int (Int32.ofNat e)), .unset, .unset, .unset, .unset] [] := by first | (simp [entryFrame, mkF, argsToLocals, Value.category]; done) | rfl
set_option maxRecDepth 65536 in
set_option maxHeartbeats 40000000 in
theorem con_spl (l : Launch) (Z : State) (a0 : Array Value) (hw : ∀ d ∈ tables_1, d.before a0 Z = true) (n0 : Nat) (h0 : Heap) (Z0 : n0 ≤ h0.size) (t b : Addr) (cs : List Int32) (K : List Nat) (s e : Nat) (cz : Int32) (od0 : Old Z n0 h0) (SZ : Sta Z Z.heap "java/lang/String" "COMPACT_STRINGS" "Z" (.int cz)) (hcz : ¬ cz = 0) (E1 : Exa Z h0 t "java/lang/String") (FV : Fld Z h0 t "java/lang/String" "value" "[B" (.ref b)) (FC : Fld Z h0 t "java/lang/String" "coder" "B" (.int (own_coder cs))) (AB : Ary Z h0 b .byte (own_enc cs)) (hp : own_pfx cs = cs.length) (hn : cs.length ≤ 15) (hch : own_chr cs) (hK : own_rel cs K) (hsl : s ≤ cs.length + 1) (hen : e ≤ cs.length) :
    ConW l Z own_EL n0 (⟨"com/example/wireform/wireform/text/Lines", "split", "(Ljava/lang/String;II)Ljava/util/List;"⟩ : MethodName) prog_54_method_4_code 7 (some (.object "java/util/List")) ({ frames := 4, cells := 5, slots := 45, locals := 3085 } : Room) #[(.ref t), (.int (Int32.ofNat s)), (.int (Int32.ofNat e))] h0 [] (Val fun w h' => ∃ v, w = .ref v ∧ Ext h0 h' ∧ Exa Z h' v "com/example/wireform/wireform/text/LineView") := by
  refine ConW.of_run (own_EW hw) pn_22 (fun m => ef_con_spl m t b cs K s e cz ) ?_
  intro vm hal hsf
  refine RunW.iconst (0 : Int32) d22_0 (by decide) (pc' := 1) rfl ?_
  refine RunW.istoreN (l' := #[.val (.ref t), .val (.int (Int32.ofNat s)), .val (.int (Int32.ofNat e)), .val (.int (0 : Int32)), .unset, .unset, .unset]) d22_1 rfl (pc' := 2) rfl ?_
  refine RunW.iloadN d22_2 rfl (pc' := 3) rfl ?_
  refine RunW.istore (l' := #[.val (.ref t), .val (.int (Int32.ofNat s)), .val (.int (Int32.ofNat e)), .val (.int (0 : Int32)), .val (.int (Int32.ofNat s)), .unset, .unset]) d22_3 rfl (pc' := 5) rfl ?_
  have hKl := hK.1
  have hcb := km_cn_le (K := K) (e := e) 17 s
  have rest : ∀ s4 : Slot, One s4 → RunW l Z own_EL n0 "com/example/wireform/wireform/text/Lines" prog_54_method_4_code 7 (some (.object "java/util/List")) (⟨"com/example/wireform/wireform/text/Lines", "split", "(Ljava/lang/String;II)Ljava/util/List;"⟩ : MethodName) ({ frames := 4, cells := 5, slots := 45, locals := 3085 } : Room) (Val fun w h' => ∃ v, w = .ref v ∧ Ext h0 h' ∧ Exa Z h' v "com/example/wireform/wireform/text/LineView") 27 #[.val (.ref t), .val (.int (Int32.ofNat s)), .val (.int (Int32.ofNat e)), .val (.int (Int32.ofNat (km_cn K e 17 s))), s4, .unset, .unset] [] h0 vm 0 0 := by
    intro s4 h_s4
    refine RunW.iloadN d22_27 rfl (pc' := 28) rfl ?_
    refine RunW.newP (ty := .int) (m := (km_cn K e 17 s)) (cap := 16) (dv := (.int (0 : Int32))) (k' := 1) (n' := 16) d22_28 rfl (hw _ (List.mem_of_getElem? (i := 145) rfl)) (own_nge (by omega)) (clamp_of rfl (by omega)) (by omega) rfl (by decide) (by decide) (by decide) (by decide) (by decide) (pc' := 30) rfl ?_
    intro h11 b11 g11 E11 A11 c11 sf11
    have ge_b11 : n0 ≤ b11 := by rw [g11]; exact Z0
    have bo_b11 : h0.size ≤ b11 := by rw [g11]; exact (Keep.refl h0 []).1
    have ne_t_b11 : t ≠ b11 := by rw [g11]; exact Nat.ne_of_lt E1.lt
    have ne_b_b11 : b ≠ b11 := by rw [g11]; exact Nat.ne_of_lt AB.lt
    have E_t_11 := E1.ext E11
    have F_t_value_11 := FV.ext E11
    have F_t_coder_11 := FC.ext E11
    have A_b_11 := AB.ext E11
    have sz11 : n0 ≤ h11.size := Nat.le_trans Z0 E11.1
    have kp11 := Keep.ext (Keep.refl h0 []) E11
    have od11 := od0.ext E11
    refine RunW.astore (l' := #[.val (.ref t), .val (.int (Int32.ofNat s)), .val (.int (Int32.ofNat e)), .val (.int (Int32.ofNat (km_cn K e 17 s))), .val (.ref b11), .unset, .unset]) d22_30 rfl (XS.store1 rfl h_s4 rfl) (pc' := 32) rfl ?_
    refine RunW.iloadN d22_32 rfl (pc' := 33) rfl ?_
    refine RunW.istore (l' := #[.val (.ref t), .val (.int (Int32.ofNat s)), .val (.int (Int32.ofNat e)), .val (.int (Int32.ofNat (km_cn K e 17 s))), .val (.ref b11), .val (.int (Int32.ofNat s)), .unset]) d22_33 rfl (pc' := 35) rfl ?_
    refine RunW.iconst (0 : Int32) d22_35 (by decide) (pc' := 36) rfl ?_
    refine RunW.istore (l' := #[.val (.ref t), .val (.int (Int32.ofNat s)), .val (.int (Int32.ofNat e)), .val (.int (Int32.ofNat (km_cn K e 17 s))), .val (.ref b11), .val (.int (Int32.ofNat s)), .val (.int (0 : Int32))]) d22_36 rfl (pc' := 38) rfl ?_
    have loop2 : ∀ (t_ i j f_ : Nat) (hh : Heap) (ll : List Value), t_ + j = (km_cn K e 17 s) → km_cn K e f_ i = t_ → i ≤ cs.length + 1 → ll.length = (km_cn K e 17 s) → n0 ≤ hh.size → Keep h0 hh [] → Old Z n0 hh → Exa Z hh t "java/lang/String" → Fld Z hh t "java/lang/String" "value" "[B" (.ref b) → Fld Z hh t "java/lang/String" "coder" "B" (.int (own_coder cs)) → Ary Z hh b .byte (own_enc cs) → Ary Z hh b11 .int ll → RunW l Z own_EL n0 "com/example/wireform/wireform/text/Lines" prog_54_method_4_code 7 (some (.object "java/util/List")) (⟨"com/example/wireform/wireform/text/Lines", "split", "(Ljava/lang/String;II)Ljava/util/List;"⟩ : MethodName) ({ frames := 4, cells := 5, slots := 45, locals := 3085 } : Room) (Val fun w h' => ∃ v, w = .ref v ∧ Ext h0 h' ∧ Exa Z h' v "com/example/wireform/wireform/text/LineView") 38 #[.val (.ref t), .val (.int (Int32.ofNat s)), .val (.int (Int32.ofNat e)), .val (.int (Int32.ofNat (km_cn K e 17 s))), .val (.ref b11), .val (.int (Int32.ofNat i)), .val (.int (Int32.ofNat j))] [] hh vm 1 16 := by
      intro t_
      induction t_ with
      | zero =>
        intro i j f_ hh ll htj hcn hil hll szh kph odh E1h FVh FCh ABh ARh
        refine RunW.iload d22_38 rfl (pc' := 40) rfl ?_
        refine RunW.iloadN d22_40 rfl (pc' := 41) rfl ?_
        refine RunW.icmp_ge d22_41 (by decide) (pc' := 67) (by decide) (pa := 44) rfl (fun hc41 => ?_) (fun hc41 => ?_)
        · refine RunW.newO (k' := 2) (n' := 19) d22_67 (hw _ (List.mem_of_getElem? (i := 146) rfl)) (hw _ (List.mem_of_getElem? (i := 147) rfl)) (hw _ (List.mem_of_getElem? (i := 148) rfl)) (by decide) (by decide) (by decide) (by decide) (pc' := 70) rfl ?_
          intro h12 b12 g12 E12 X12 D12 c12 sf12
          have ge_b12 : n0 ≤ b12 := by rw [g12]; exact szh
          have bo_b12 : h0.size ≤ b12 := by rw [g12]; exact kph.1
          have ne_t_b12 : t ≠ b12 := by rw [g12]; exact Nat.ne_of_lt E1h.lt
          have ne_b_b12 : b ≠ b12 := by rw [g12]; exact Nat.ne_of_lt ABh.lt
          have ne_b11_b12 : b11 ≠ b12 := by rw [g12]; exact Nat.ne_of_lt ARh.lt
          have E_t_12 := E1h.ext E12
          have F_t_value_12 := FVh.ext E12
          have F_t_coder_12 := FCh.ext E12
          have A_b_12 := ABh.ext E12
          have A_b11_12 := ARh.ext E12
          have sz12 : n0 ≤ h12.size := Nat.le_trans szh E12.1
          have kp12 := Keep.ext kph E12
          have od12 := odh.ext E12
          have F_b12_modCount : Fld Z h12 b12 "java/util/AbstractList" "modCount" "I" (.int (0 : Int32)) := D12 (Or.inl (hw _ (List.mem_of_getElem? (i := 169) rfl))) (ty := .int) (by decide)
          have F_b12_size : Fld Z h12 b12 "com/example/wireform/wireform/text/LineView" "size" "I" (.int (0 : Int32)) := D12 (Or.inr (hw _ (List.mem_of_getElem? (i := 171) rfl))) (ty := .int) (by decide)
          have F_b12_texts : Fld Z h12 b12 "com/example/wireform/wireform/text/LineView" "texts" "Ljava/util/function/IntFunction;" .null := D12 (Or.inr (hw _ (List.mem_of_getElem? (i := 176) rfl))) (ty := (.object "java/util/function/IntFunction")) (by decide)
          refine RunW.dup d22_70 rfl (pc' := 71) rfl ?_
          refine RunW.iloadN d22_71 rfl (pc' := 72) rfl ?_
          refine RunW.aloadN d22_72 rfl rfl (pc' := 73) rfl ?_
          refine RunW.aload d22_73 rfl rfl (pc' := 75) rfl ?_
          refine RunW.lam (vals := [(.ref t), (.ref b11)]) (rest := [(.int (Int32.ofNat (km_cn K e 17 s))), (.ref b12), (.ref b12)]) (tys := [.object "java/lang/String", .array .int]) (k' := 3) (n' := 21) d22_75 (hw _ (List.mem_of_getElem? (i := 149) rfl)) (hw _ (List.mem_of_getElem? (i := 152) rfl)) (by decide) rfl own_lay rfl own_lfit rfl rfl (by show 5 + 3072 ≤ _; decide) (by decide) (by decide) (by show 19 + 2 ≤ 21; decide) (by decide) (pc' := 80) rfl ?_
          intro h13 E13 I13 c13
          obtain ⟨f13, e13⟩ : ∃ x, x = Array.size h12 := ⟨_, rfl⟩
          rw [← e13] at I13 ⊢
          have E_t_13 := E_t_12.ext E13
          have F_t_value_13 := F_t_value_12.ext E13
          have F_t_coder_13 := F_t_coder_12.ext E13
          have A_b_13 := A_b_12.ext E13
          have A_b11_13 := A_b11_12.ext E13
          have E_b12_13 := X12.ext E13
          have Z_b12_13 := CHr.safe c13 X12.lt sf12
          have F_b12_modCount_13 := F_b12_modCount.ext E13
          have F_b12_size_13 := F_b12_size.ext E13
          have F_b12_texts_13 := F_b12_texts.ext E13
          have sz13 : n0 ≤ h13.size := Nat.le_trans sz12 E13.1
          have kp13 := Keep.ext kp12 E13
          have od13 := od12.ext E13
          show RunW l Z own_EL n0 "com/example/wireform/wireform/text/Lines" prog_54_method_4_code 7 (some (.object "java/util/List")) (⟨"com/example/wireform/wireform/text/Lines", "split", "(Ljava/lang/String;II)Ljava/util/List;"⟩ : MethodName) ({ frames := 4, cells := 5, slots := 45, locals := 3085 } : Room) _ 80 #[.val (.ref t), .val (.int (Int32.ofNat s)), .val (.int (Int32.ofNat e)), .val (.int (Int32.ofNat (km_cn K e 17 s))), .val (.ref b11), .val (.int (Int32.ofNat i)), .val (.int (Int32.ofNat j))] [(.ref f13), (.int (Int32.ofNat (km_cn K e 17 s))), (.ref b12), (.ref b12)] h13 vm 3 21
          refine RunW.callNW (k' := 5) (n' := 45) (a := b12) (as := [(.int (Int32.ofNat (km_cn K e 17 s))), (.ref f13)]) (rest := [(.ref b12)]) (con_lvi l Z a0 hw n0 h13 sz13 b12 f13 (km_cn K e 17 s) E_b12_13 ge_b12 F_b12_modCount_13 F_b12_size_13 F_b12_texts_13 I13 (by omega)) all0 (own_EW hw) rfl rfl d22_80 (hw _ (List.mem_of_getElem? (i := 153) rfl)) (hw _ (List.mem_of_getElem? (i := 154) rfl)) (hw _ (List.mem_of_getElem? (i := 148) rfl)) (hw _ (List.mem_of_getElem? (i := 155) rfl)) (by decide) pd__ILjava_util_function_IntFunction__V rfl rfl rfl (by decide) (by show (1 : Nat) + (3 + 11) + 36 ≤ _; decide) (by decide) (by decide) (by decide) (by decide) (pc' := 83) rfl ?_
          rintro _ h14 vm14 ⟨rfl, ⟨K14, X14⟩⟩ c14
          show RunW l Z own_EL n0 "com/example/wireform/wireform/text/Lines" prog_54_method_4_code 7 (some (.object "java/util/List")) (⟨"com/example/wireform/wireform/text/Lines", "split", "(Ljava/lang/String;II)Ljava/util/List;"⟩ : MethodName) ({ frames := 4, cells := 5, slots := 45, locals := 3085 } : Room) _ 83 #[.val (.ref t), .val (.int (Int32.ofNat s)), .val (.int (Int32.ofNat e)), .val (.int (Int32.ofNat (km_cn K e 17 s))), .val (.ref b11), .val (.int (Int32.ofNat i)), .val (.int (Int32.ofNat j))] [(.ref b12)] h14 vm14 5 45
          have E_t_14 := E_t_13.keep K14
          have F_t_value_14 := F_t_value_13.keep K14 (ninS ne_t_b12 nin0)
          have F_t_coder_14 := F_t_coder_13.keep K14 (ninS ne_t_b12 nin0)
          have A_b_14 := A_b_13.keep K14 (ninS ne_b_b12 nin0)
          have A_b11_14 := A_b11_13.keep K14 (ninS ne_b11_b12 nin0)
          have E_b12_14 := E_b12_13.keep K14
          have Z_b12_14 := CHr.safe c14 E_b12_13.lt Z_b12_13
          have I_f13_14 := own_insk I13 K14
          have sz14 : n0 ≤ h14.size := Nat.le_trans sz13 K14.1
          have kp14 := Keep.trans kp13 K14 (allS (Or.inr bo_b12) all0)
          have od14 := od13.keep K14 (allS ge_b12 all0)
          exact RunW.areturn d22_83 (ty := (.object "java/util/List")) rfl rfl rfl (by decide) (by decide) ⟨_, rfl, b12, rfl, Keep.toExt kp14, X14⟩
        · exact absurd ((own_lt (by omega) (by omega)).mp hc41) (by omega)
      | succ t_ ih =>
        intro i j f_ hh ll htj hcn hil hll szh kph odh E1h FVh FCh ABh ARh
        obtain ⟨g_, rfl, hie, hg2⟩ := km_cnI hcn
        refine RunW.iload d22_38 rfl (pc' := 40) rfl ?_
        refine RunW.iloadN d22_40 rfl (pc' := 41) rfl ?_
        refine RunW.icmp_ge d22_41 (by decide) (pc' := 67) (by decide) (pa := 44) rfl (fun hc41 => ?_) (fun hc41 => ?_)
        · exact absurd ((own_lt (by omega) (by omega)).mpr (by omega)) hc41
        · refine RunW.aload d22_44 rfl rfl (pc' := 46) rfl ?_
          refine RunW.iload d22_46 rfl (pc' := 48) rfl ?_
          refine RunW.iload d22_48 rfl (pc' := 50) rfl ?_
          refine RunW.iastore (i := j) d22_50 ARh (own_ofn (by omega)) (by omega) ge_b11 (safeA hal ARh (by simp)) (pc' := 51) rfl ?_
          intro h15 W15 c15 A15
          have E_t_15 := E1h.wr W15
          have F_t_value_15 := FVh.other W15 (Or.inl ne_t_b11)
          have F_t_coder_15 := FCh.other W15 (Or.inl ne_t_b11)
          have A_b_15 := ABh.other W15 ne_b_b11
          have sz15 : n0 ≤ h15.size := by rw [W15.size]; exact szh
          have kp15 := Keep.wr kph W15 (Or.inr bo_b11)
          have od15 := odh.wr W15 ge_b11
          refine RunW.aloadN d22_51 rfl rfl (pc' := 52) rfl ?_
          refine RunW.iload d22_52 rfl (pc' := 54) rfl ?_
          refine RunW.callS (k' := 1) (n' := 16) (as := [(.ref t), (.int (Int32.ofNat i))]) (rest := []) (con_lnd l Z a0 hw n0 h15 sz15 t b cs K i cz od15 SZ hcz E_t_15 F_t_value_15 F_t_coder_15 A_b_15 hp hn hch hK (by omega) ) (by rintro _ _ ⟨_, -, -, rfl⟩; exact ⟨[], Keep.refl _ _, all0⟩) d22_54 (hw _ (List.mem_of_getElem? (i := 121) rfl)) (hw _ (List.mem_of_getElem? (i := 122) rfl)) (hw _ (List.mem_of_getElem? (i := 109) rfl)) (hw _ (List.mem_of_getElem? (i := 123) rfl)) (by decide) pd__Ljava_lang_String_I_I rfl rfl rfl (by decide) (by show (0 : Nat) + (3 + 11) + 46 ≤ _; decide) (by decide) (by decide) (by decide) (by decide) (pc' := 57) rfl ?_
          rintro _ _ ⟨_, rfl, rfl, rfl⟩ -
          show RunW l Z own_EL n0 "com/example/wireform/wireform/text/Lines" prog_54_method_4_code 7 (some (.object "java/util/List")) (⟨"com/example/wireform/wireform/text/Lines", "split", "(Ljava/lang/String;II)Ljava/util/List;"⟩ : MethodName) ({ frames := 4, cells := 5, slots := 45, locals := 3085 } : Room) _ 57 #[.val (.ref t), .val (.int (Int32.ofNat s)), .val (.int (Int32.ofNat e)), .val (.int (Int32.ofNat (km_cn K e 17 s))), .val (.ref b11), .val (.int (Int32.ofNat i)), .val (.int (Int32.ofNat j))] [(.int (Int32.ofNat (km_le K i)))] h15 vm 1 16
          refine RunW.iconst (1 : Int32) d22_57 (by decide) (pc' := 58) rfl ?_
          refine RunW.iadd d22_58 (pc' := 59) rfl ?_
          rw [own_inc (km_le K i)]
          refine RunW.istore (l' := #[.val (.ref t), .val (.int (Int32.ofNat s)), .val (.int (Int32.ofNat e)), .val (.int (Int32.ofNat (km_cn K e 17 s))), .val (.ref b11), .val (.int (Int32.ofNat ((km_le K i) + 1))), .val (.int (Int32.ofNat j))]) d22_59 rfl (pc' := 61) rfl ?_
          refine RunW.iinc (1 : Int32) #[.val (.ref t), .val (.int (Int32.ofNat s)), .val (.int (Int32.ofNat e)), .val (.int (Int32.ofNat (km_cn K e 17 s))), .val (.ref b11), .val (.int (Int32.ofNat ((km_le K i) + 1))), .val (.int ((Int32.ofNat j) + (1 : Int32)))] d22_61 (by decide) rfl rfl (pc' := 64) rfl ?_
          refine RunW.goto d22_64 (by decide) (pc' := 38) (by decide) ?_
          rw [own_inc j]
          exact ih (km_le K i + 1) (j + 1) g_ h15 _ (by omega) hg2 (by have := km_le_bd (K := K) (p := i) (by omega); omega) (by rw [List.length_set]; exact hll) sz15 kp15 od15 E_t_15 F_t_value_15 F_t_coder_15 A_b_15 A15
    exact loop2 (km_cn K e 17 s) s 0 17 h11 _ (by omega) rfl hsl (by simp) sz11 kp11 od11 E_t_11 F_t_value_11 F_t_coder_11 A_b_11 A11
  have loop : ∀ (t_ i j : Nat), e < t_ + i → j + km_cn K e t_ i = (km_cn K e 17 s) → i ≤ cs.length + 1 → RunW l Z own_EL n0 "com/example/wireform/wireform/text/Lines" prog_54_method_4_code 7 (some (.object "java/util/List")) (⟨"com/example/wireform/wireform/text/Lines", "split", "(Ljava/lang/String;II)Ljava/util/List;"⟩ : MethodName) ({ frames := 4, cells := 5, slots := 45, locals := 3085 } : Room) (Val fun w h' => ∃ v, w = .ref v ∧ Ext h0 h' ∧ Exa Z h' v "com/example/wireform/wireform/text/LineView") 5 #[.val (.ref t), .val (.int (Int32.ofNat s)), .val (.int (Int32.ofNat e)), .val (.int (Int32.ofNat j)), .val (.int (Int32.ofNat i)), .unset, .unset] [] h0 vm 0 0 := by
    intro t_
    induction t_ with
    | zero =>
      intro i j hfu hj hil
      refine RunW.iload d22_5 rfl (pc' := 7) rfl ?_
      refine RunW.iloadN d22_7 rfl (pc' := 8) rfl ?_
      refine RunW.icmp_ge d22_8 (by decide) (pc' := 27) (by decide) (pa := 11) rfl (fun hc8 => ?_) (fun hc8 => ?_)
      · have hje : j = (km_cn K e 17 s) := by have := km_cn0 (K := K) (t := 0) (fun z => hc8 ((own_lt (i := i) (j := e) (by omega) (by omega)).mpr z)); omega
        rw [hje]
        exact rest _ (Or.inr ⟨_, rfl, rfl⟩)
      · exact absurd ((own_lt (by omega) (by omega)).mp hc8) (by omega)
    | succ t_ ih =>
      intro i j hfu hj hil
      refine RunW.iload d22_5 rfl (pc' := 7) rfl ?_
      refine RunW.iloadN d22_7 rfl (pc' := 8) rfl ?_
      refine RunW.icmp_ge d22_8 (by decide) (pc' := 27) (by decide) (pa := 11) rfl (fun hc8 => ?_) (fun hc8 => ?_)
      · have hje : j = (km_cn K e 17 s) := by have := km_cn0 (K := K) (t := t_ + 1) (fun z => hc8 ((own_lt (i := i) (j := e) (by omega) (by omega)).mpr z)); omega
        rw [hje]
        exact rest _ (Or.inr ⟨_, rfl, rfl⟩)
      · have hie : i < e := (own_lt (by omega) (by omega)).mp hc8
        refine RunW.iinc (1 : Int32) #[.val (.ref t), .val (.int (Int32.ofNat s)), .val (.int (Int32.ofNat e)), .val (.int ((Int32.ofNat j) + (1 : Int32))), .val (.int (Int32.ofNat i)), .unset, .unset] d22_11 (by decide) rfl rfl (pc' := 14) rfl ?_
        refine RunW.aloadN d22_14 rfl rfl (pc' := 15) rfl ?_
        refine RunW.iload d22_15 rfl (pc' := 17) rfl ?_
        refine RunW.callS (k' := 0) (n' := 0) (as := [(.ref t), (.int (Int32.ofNat i))]) (rest := []) (con_lnd l Z a0 hw n0 h0 Z0 t b cs K i cz od0 SZ hcz E1 FV FC AB hp hn hch hK (by omega) ) (by rintro _ _ ⟨_, -, -, rfl⟩; exact ⟨[], Keep.refl _ _, all0⟩) d22_17 (hw _ (List.mem_of_getElem? (i := 121) rfl)) (hw _ (List.mem_of_getElem? (i := 122) rfl)) (hw _ (List.mem_of_getElem? (i := 109) rfl)) (hw _ (List.mem_of_getElem? (i := 123) rfl)) (by decide) pd__Ljava_lang_String_I_I rfl rfl rfl (by decide) (by show (0 : Nat) + (3 + 11) + 46 ≤ _; decide) (by decide) (by decide) (by decide) (by decide) (pc' := 20) rfl ?_
        rintro _ _ ⟨_, rfl, rfl, rfl⟩ -
        show RunW l Z own_EL n0 "com/example/wireform/wireform/text/Lines" prog_54_method_4_code 7 (some (.object "java/util/List")) (⟨"com/example/wireform/wireform/text/Lines", "split", "(Ljava/lang/String;II)Ljava/util/List;"⟩ : MethodName) ({ frames := 4, cells := 5, slots := 45, locals := 3085 } : Room) _ 20 #[.val (.ref t), .val (.int (Int32.ofNat s)), .val (.int (Int32.ofNat e)), .val (.int ((Int32.ofNat j) + (1 : Int32))), .val (.int (Int32.ofNat i)), .unset, .unset] [(.int (Int32.ofNat (km_le K i)))] h0 vm 0 0
        refine RunW.iconst (1 : Int32) d22_20 (by decide) (pc' := 21) rfl ?_
        refine RunW.iadd d22_21 (pc' := 22) rfl ?_
        rw [own_inc (km_le K i)]
        refine RunW.istore (l' := #[.val (.ref t), .val (.int (Int32.ofNat s)), .val (.int (Int32.ofNat e)), .val (.int ((Int32.ofNat j) + (1 : Int32))), .val (.int (Int32.ofNat ((km_le K i) + 1))), .unset, .unset]) d22_22 rfl (pc' := 24) rfl ?_
        refine RunW.goto d22_24 (by decide) (pc' := 5) (by decide) ?_
        rw [own_inc j]
        exact ih (km_le K i + 1) (j + 1) (by have := km_le_bd (K := K) (p := i) (by omega); omega) (by have := km_cnS (K := K) (t := t_) hie; omega) (by have := km_le_bd (K := K) (p := i) (by omega); omega)
  exact loop 17 s 0 (by omega) (by omega) hsl
theorem d20_0 : decode prog_54_method_3_code 0 = .ok (.aload_n 0, 1) := by decide +kernel
theorem d20_1 : decode prog_54_method_3_code 1 = .ok (.ldc 18, 2) := by decide +kernel
theorem d20_3 : decode prog_54_method_3_code 3 = .ok (.invokestatic 20, 3) := by decide +kernel
theorem d20_6 : decode prog_54_method_3_code 6 = .ok (.checkcast 7, 3) := by decide +kernel
theorem d20_9 : decode prog_54_method_3_code 9 = .ok (.iconst 0, 1) := by decide +kernel
theorem d20_10 : decode prog_54_method_3_code 10 = .ok (.aload_n 0, 1) := by decide +kernel
theorem d20_11 : decode prog_54_method_3_code 11 = .ok (.invokevirtual 26, 3) := by decide +kernel
theorem d20_14 : decode prog_54_method_3_code 14 = .ok (.invokestatic 30, 3) := by decide +kernel
theorem d20_17 : decode prog_54_method_3_code 17 = .ok (.areturn, 1) := by decide +kernel
theorem pn_20 : plainFor (⟨"com/example/wireform/wireform/text/Lines", "split", "(Ljava/lang/String;)Ljava/util/List;"⟩ : MethodName) = true := plainFor_of_name (by first | (simp [plainName, overriddenIn]; done) | decide +kernel)
theorem pd__Ljava_lang_String_II_Ljava_util_List_ : parseMethodDescriptor "(Ljava/lang/String;II)Ljava/util/List;" = some ⟨[(.object "java/lang/String"), .int, .int], some (.object "java/util/List")⟩ := by decide +kernel
theorem ef_con_sp1 (m : MethodId) (t b : Addr) (cs : List Int32) (K : List Nat) (cz : Int32)  : entryFrame m #[(.ref t)] 1 = mkF m 0 #[.val (.ref t)] [] := by first | (simp [entryFrame, mkF, argsToLocals, Value.category]; done) | rfl
set_option maxRecDepth 65536 in
set_option maxHeartbeats 40000000 in
theorem con_sp1 (l : Launch) (Z : State) (a0 : Array Value) (hw : ∀ d ∈ tables_1, d.before a0 Z = true) (n0 : Nat) (h0 : Heap) (Z0 : n0 ≤ h0.size) (t b : Addr) (cs : List Int32) (K : List Nat) (cz : Int32) (od0 : Old Z n0 h0) (SZ : Sta Z Z.heap "java/lang/String" "COMPACT_STRINGS" "Z" (.int cz)) (hcz : ¬ cz = 0) (E1 : Exa Z h0 t "java/lang/String") (FV : Fld Z h0 t "java/lang/String" "value" "[B" (.ref b)) (FC : Fld Z h0 t "java/lang/String" "coder" "B" (.int (own_coder cs))) (AB : Ary Z h0 b .byte (own_enc cs)) (hp : own_pfx cs = cs.length) (hn : cs.length ≤ 15) (hch : own_chr cs) (hK : own_rel cs K) :
    ConW l Z own_EL n0 (⟨"com/example/wireform/wireform/text/Lines", "split", "(Ljava/lang/String;)Ljava/util/List;"⟩ : MethodName) prog_54_method_3_code 1 (some (.object "java/util/List")) ({ frames := 5, cells := 7, slots := 65, locals := 3103 } : Room) #[(.ref t)] h0 [] (Val fun w h' => ∃ v, w = .ref v ∧ Ext h0 h' ∧ Exa Z h' v "com/example/wireform/wireform/text/LineView") := by
  refine ConW.of_run (own_EW hw) pn_20 (fun m => ef_con_sp1 m t b cs K cz ) ?_
  intro vm hal hsf
  refine RunW.aloadN d20_0 rfl rfl (pc' := 1) rfl ?_
  refine RunW.ldcT (len := 16) (z := (4 : Int32)) (bs := [(.int (116 : Int32)), (.int (101 : Int32)), (.int (120 : Int32)), (.int (116 : Int32))]) (k' := 2) (n' := 20) d20_1 (hw _ (List.mem_of_getElem? (i := 111) rfl)) (own_wS hw) (own_EW hw) (List.mem_of_getElem? (i := 2) rfl) (by decide) (by decide) (by decide) (by decide) (by decide) (by decide) (by decide) (by decide) (pc' := 3) rfl ?_
  intro h11 vm11 a11 b11 E11 c11 X11 FC11 FV11 A11 ns11
  have E_t_11 := E1.ext E11
  have F_t_value_11 := FV.ext E11
  have F_t_coder_11 := FC.ext E11
  have A_b_11 := AB.ext E11
  have sz11 : n0 ≤ h11.size := Nat.le_trans Z0 E11.1
  have kp11 := Keep.ext (Keep.refl h0 []) E11
  have od11 := od0.ext E11
  refine RunW.callS (k' := 2) (n' := 20) (as := [(.ref t), (.ref a11)]) (rest := []) (con_rnn l Z a0 hw n0 h11 sz11 t a11 ) (by rintro _ _ ⟨_, -, -, rfl⟩; exact ⟨[], Keep.refl _ _, all0⟩) d20_3 (hw _ (List.mem_of_getElem? (i := 112) rfl)) (hw _ (List.mem_of_getElem? (i := 113) rfl)) (hw _ (List.mem_of_getElem? (i := 114) rfl)) (hw _ (List.mem_of_getElem? (i := 115) rfl)) (by decide) pd__Ljava_lang_Object_Ljava_lang_String__Ljava_lang_Object_ rfl rfl rfl (by decide) (by show (0 : Nat) + (2 + 11) + 0 ≤ _; decide) (by decide) (by decide) (by decide) (by decide) (pc' := 6) rfl ?_
  rintro _ _ ⟨_, rfl, rfl, rfl⟩ -
  show RunW l Z own_EL n0 "com/example/wireform/wireform/text/Lines" prog_54_method_3_code 1 (some (.object "java/util/List")) (⟨"com/example/wireform/wireform/text/Lines", "split", "(Ljava/lang/String;)Ljava/util/List;"⟩ : MethodName) ({ frames := 5, cells := 7, slots := 65, locals := 3103 } : Room) _ 6 #[.val (.ref t)] [(.ref t)] h11 vm11 2 20
  refine RunW.castY d20_6 (hw _ (List.mem_of_getElem? (i := 116) rfl)) (Ins.self E_t_11) (pc' := 9) rfl ?_
  refine RunW.iconst (0 : Int32) d20_9 (by decide) (pc' := 10) rfl ?_
  refine RunW.aloadN d20_10 rfl rfl (pc' := 11) rfl ?_
  refine RunW.callV (k' := 2) (n' := 20) (a := t) (as := []) (rest := [(.int (0 : Int32)), (.ref t)]) (con_len l Z a0 hw n0 h11 sz11 t b cs cz od11 SZ hcz E_t_11 F_t_value_11 F_t_coder_11 A_b_11 (by omega)) (by rintro _ _ ⟨_, -, -, rfl⟩; exact ⟨[], Keep.refl _ _, all0⟩) E_t_11 d20_11 (hw _ (List.mem_of_getElem? (i := 117) rfl)) (hw _ (List.mem_of_getElem? (i := 76) rfl)) (fun s hZ => notFace_of_selects (args := #[]) (mvT hZ (hw _ (List.mem_of_getElem? (i := 78) rfl)))) (hw _ (List.mem_of_getElem? (i := 78) rfl)) (hw _ (List.mem_of_getElem? (i := 77) rfl)) (hw _ (List.mem_of_getElem? (i := 1) rfl)) (hw _ (List.mem_of_getElem? (i := 79) rfl)) (by decide) pd___I rfl rfl rfl (by decide) (by show (2 : Nat) + (1 + 11) + 13 ≤ _; decide) (by decide) (by decide) (by decide) (by decide) (pc' := 14) rfl ?_
  rintro _ _ ⟨_, rfl, rfl, rfl⟩ -
  show RunW l Z own_EL n0 "com/example/wireform/wireform/text/Lines" prog_54_method_3_code 1 (some (.object "java/util/List")) (⟨"com/example/wireform/wireform/text/Lines", "split", "(Ljava/lang/String;)Ljava/util/List;"⟩ : MethodName) ({ frames := 5, cells := 7, slots := 65, locals := 3103 } : Room) _ 14 #[.val (.ref t)] [(.int (Int32.ofNat cs.length)), (.int (0 : Int32)), (.ref t)] h11 vm11 2 20
  refine RunW.callSW (k' := 7) (n' := 65) (as := [(.ref t), (.int (Int32.ofNat 0)), (.int (Int32.ofNat cs.length))]) (rest := []) (con_spl l Z a0 hw n0 h11 sz11 t b cs K 0 cs.length cz od11 SZ hcz E_t_11 F_t_value_11 F_t_coder_11 A_b_11 hp hn hch hK (by omega) (by omega)) all0 (own_EW hw) d20_14 (hw _ (List.mem_of_getElem? (i := 118) rfl)) (hw _ (List.mem_of_getElem? (i := 119) rfl)) (hw _ (List.mem_of_getElem? (i := 109) rfl)) (hw _ (List.mem_of_getElem? (i := 120) rfl)) (by decide) pd__Ljava_lang_String_II_Ljava_util_List_ rfl rfl rfl (by decide) (by show (0 : Nat) + (7 + 11) + 3085 ≤ _; decide) (by decide) (by decide) (by decide) (by decide) (pc' := 17) rfl ?_
  rintro _ h12 vm12 ⟨_, rfl, ⟨v12, rfl, E12, X12⟩⟩ c12
  show RunW l Z own_EL n0 "com/example/wireform/wireform/text/Lines" prog_54_method_3_code 1 (some (.object "java/util/List")) (⟨"com/example/wireform/wireform/text/Lines", "split", "(Ljava/lang/String;)Ljava/util/List;"⟩ : MethodName) ({ frames := 5, cells := 7, slots := 65, locals := 3103 } : Room) _ 17 #[.val (.ref t)] [(.ref v12)] h12 vm12 7 65
  have E_t_12 := E_t_11.ext E12
  have F_t_value_12 := F_t_value_11.ext E12
  have F_t_coder_12 := F_t_coder_11.ext E12
  have A_b_12 := A_b_11.ext E12
  have E_a11_12 := X11.ext E12
  have F_a11_coder_12 := FC11.ext E12
  have F_a11_value_12 := FV11.ext E12
  have A_b11_12 := A11.ext E12
  have sz12 : n0 ≤ h12.size := Nat.le_trans sz11 E12.1
  have kp12 := Keep.ext kp11 E12
  have od12 := od11.ext E12
  exact RunW.areturn d20_17 (ty := (.object "java/util/List")) rfl rfl rfl (by decide) (by decide) ⟨_, rfl, v12, rfl, Keep.toExt kp12, X12⟩
theorem d19_0 : decode prog_58_method_3_code 0 = .ok (.aload_n 0, 1) := by decide +kernel
theorem d19_1 : decode prog_58_method_3_code 1 = .ok (.invokevirtual 37, 3) := by decide +kernel
theorem d19_4 : decode prog_58_method_3_code 4 = .ok (.ifCond .ne 11, 3) := by decide +kernel
theorem d19_15 : decode prog_58_method_3_code 15 = .ok (.aload_n 0, 1) := by decide +kernel
theorem d19_16 : decode prog_58_method_3_code 16 = .ok (.getfield 23, 3) := by decide +kernel
theorem d19_19 : decode prog_58_method_3_code 19 = .ok (.ifCond .ne 24, 3) := by decide +kernel
theorem d19_22 : decode prog_58_method_3_code 22 = .ok (.aload_n 0, 1) := by decide +kernel
theorem d19_23 : decode prog_58_method_3_code 23 = .ok (.iconst 0, 1) := by decide +kernel
theorem d19_24 : decode prog_58_method_3_code 24 = .ok (.putfield 27, 3) := by decide +kernel
theorem d19_27 : decode prog_58_method_3_code 27 = .ok (.new 44, 3) := by decide +kernel
theorem d19_30 : decode prog_58_method_3_code 30 = .ok (.dup, 1) := by decide +kernel
theorem d19_31 : decode prog_58_method_3_code 31 = .ok (.aload_n 0, 1) := by decide +kernel
theorem d19_32 : decode prog_58_method_3_code 32 = .ok (.getfield 7, 3) := by decide +kernel
theorem d19_35 : decode prog_58_method_3_code 35 = .ok (.invokestatic 46, 3) := by decide +kernel
theorem d19_38 : decode prog_58_method_3_code 38 = .ok (.aconst_null, 1) := by decide +kernel
theorem d19_39 : decode prog_58_method_3_code 39 = .ok (.invokespecial 52, 3) := by decide +kernel
theorem d19_42 : decode prog_58_method_3_code 42 = .ok (.areturn, 1) := by decide +kernel
theorem d19_43 : decode prog_58_method_3_code 43 = .ok (.aload_n 0, 1) := by decide +kernel
theorem d19_44 : decode prog_58_method_3_code 44 = .ok (.getfield 34, 3) := by decide +kernel
theorem d19_47 : decode prog_58_method_3_code 47 = .ok (.invokestatic 55, 3) := by decide +kernel
theorem d19_50 : decode prog_58_method_3_code 50 = .ok (.astore_n 1, 1) := by decide +kernel
theorem d19_51 : decode prog_58_method_3_code 51 = .ok (.aload_n 0, 1) := by decide +kernel
theorem d19_52 : decode prog_58_method_3_code 52 = .ok (.getfield 61, 3) := by decide +kernel
theorem d19_55 : decode prog_58_method_3_code 55 = .ok (.istore_n 2, 1) := by decide +kernel
theorem d19_56 : decode prog_58_method_3_code 56 = .ok (.aload_n 0, 1) := by decide +kernel
theorem d19_57 : decode prog_58_method_3_code 57 = .ok (.getfield 7, 3) := by decide +kernel
theorem d19_60 : decode prog_58_method_3_code 60 = .ok (.invokevirtual 65, 3) := by decide +kernel
theorem d19_63 : decode prog_58_method_3_code 63 = .ok (.istore_n 3, 1) := by decide +kernel
theorem d19_64 : decode prog_58_method_3_code 64 = .ok (.aload_n 0, 1) := by decide +kernel
theorem d19_65 : decode prog_58_method_3_code 65 = .ok (.getfield 61, 3) := by decide +kernel
theorem d19_68 : decode prog_58_method_3_code 68 = .ok (.aload_n 0, 1) := by decide +kernel
theorem d19_69 : decode prog_58_method_3_code 69 = .ok (.getfield 7, 3) := by decide +kernel
theorem d19_72 : decode prog_58_method_3_code 72 = .ok (.invokevirtual 65, 3) := by decide +kernel
theorem d19_75 : decode prog_58_method_3_code 75 = .ok (.if_icmp .ge 62, 3) := by decide +kernel
theorem d19_78 : decode prog_58_method_3_code 78 = .ok (.aload_n 0, 1) := by decide +kernel
theorem d19_79 : decode prog_58_method_3_code 79 = .ok (.getfield 61, 3) := by decide +kernel
theorem d19_82 : decode prog_58_method_3_code 82 = .ok (.istore 4, 2) := by decide +kernel
theorem d19_84 : decode prog_58_method_3_code 84 = .ok (.aload_n 0, 1) := by decide +kernel
theorem d19_85 : decode prog_58_method_3_code 85 = .ok (.getfield 7, 3) := by decide +kernel
theorem d19_88 : decode prog_58_method_3_code 88 = .ok (.iload 4, 2) := by decide +kernel
theorem d19_90 : decode prog_58_method_3_code 90 = .ok (.invokestatic 69, 3) := by decide +kernel
theorem d19_93 : decode prog_58_method_3_code 93 = .ok (.istore 5, 2) := by decide +kernel
theorem d19_95 : decode prog_58_method_3_code 95 = .ok (.aload_n 0, 1) := by decide +kernel
theorem d19_96 : decode prog_58_method_3_code 96 = .ok (.iload 5, 2) := by decide +kernel
theorem d19_98 : decode prog_58_method_3_code 98 = .ok (.iconst 1, 1) := by decide +kernel
theorem d19_99 : decode prog_58_method_3_code 99 = .ok (.iadd, 1) := by decide +kernel
theorem d19_100 : decode prog_58_method_3_code 100 = .ok (.putfield 61, 3) := by decide +kernel
theorem d19_103 : decode prog_58_method_3_code 103 = .ok (.aload_n 0, 1) := by decide +kernel
theorem d19_104 : decode prog_58_method_3_code 104 = .ok (.getfield 7, 3) := by decide +kernel
theorem d19_107 : decode prog_58_method_3_code 107 = .ok (.ldc 73, 2) := by decide +kernel
theorem d19_109 : decode prog_58_method_3_code 109 = .ok (.iload 4, 2) := by decide +kernel
theorem d19_111 : decode prog_58_method_3_code 111 = .ok (.invokevirtual 75, 3) := by decide +kernel
theorem d19_114 : decode prog_58_method_3_code 114 = .ok (.ifCond .ne 14, 3) := by decide +kernel
theorem d19_117 : decode prog_58_method_3_code 117 = .ok (.aload_n 0, 1) := by decide +kernel
theorem d19_118 : decode prog_58_method_3_code 118 = .ok (.iload 4, 2) := by decide +kernel
theorem d19_120 : decode prog_58_method_3_code 120 = .ok (.iload 5, 2) := by decide +kernel
theorem d19_122 : decode prog_58_method_3_code 122 = .ok (.invokevirtual 78, 3) := by decide +kernel
theorem d19_125 : decode prog_58_method_3_code 125 = .ok (.ifCond .eq 9, 3) := by decide +kernel
theorem d19_128 : decode prog_58_method_3_code 128 = .ok (.iload 4, 2) := by decide +kernel
theorem d19_130 : decode prog_58_method_3_code 130 = .ok (.istore_n 3, 1) := by decide +kernel
theorem d19_131 : decode prog_58_method_3_code 131 = .ok (.goto 6, 3) := by decide +kernel
theorem d19_134 : decode prog_58_method_3_code 134 = .ok (.goto (-70), 3) := by decide +kernel
theorem d19_137 : decode prog_58_method_3_code 137 = .ok (.aload_n 0, 1) := by decide +kernel
theorem d19_138 : decode prog_58_method_3_code 138 = .ok (.aload_n 0, 1) := by decide +kernel
theorem d19_139 : decode prog_58_method_3_code 139 = .ok (.invokevirtual 30, 3) := by decide +kernel
theorem d19_142 : decode prog_58_method_3_code 142 = .ok (.putfield 34, 3) := by decide +kernel
theorem d19_145 : decode prog_58_method_3_code 145 = .ok (.new 44, 3) := by decide +kernel
theorem d19_148 : decode prog_58_method_3_code 148 = .ok (.dup, 1) := by decide +kernel
theorem d19_149 : decode prog_58_method_3_code 149 = .ok (.aload_n 0, 1) := by decide +kernel
theorem d19_150 : decode prog_58_method_3_code 150 = .ok (.getfield 7, 3) := by decide +kernel
theorem d19_153 : decode prog_58_method_3_code 153 = .ok (.iload_n 2, 1) := by decide +kernel
theorem d19_154 : decode prog_58_method_3_code 154 = .ok (.iload_n 3, 1) := by decide +kernel
theorem d19_155 : decode prog_58_method_3_code 155 = .ok (.invokestatic 82, 3) := by decide +kernel
theorem d19_158 : decode prog_58_method_3_code 158 = .ok (.aload_n 1, 1) := by decide +kernel
theorem d19_159 : decode prog_58_method_3_code 159 = .ok (.invokespecial 52, 3) := by decide +kernel
theorem d19_162 : decode prog_58_method_3_code 162 = .ok (.areturn, 1) := by decide +kernel
theorem pn_19 : plainFor (⟨"com/example/wireform/wireform/text/MessageReader", "next", "()Lcom/example/wireform/wireform/text/Message;"⟩ : MethodName) = true := plainFor_of_name (by first | (simp [plainName, overriddenIn]; done) | decide +kernel)
theorem pd___Ljava_lang_String_ : parseMethodDescriptor "()Ljava/lang/String;" = some ⟨[], some (.object "java/lang/String")⟩ := by decide +kernel
theorem pd__II_Z : parseMethodDescriptor "(II)Z" = some ⟨[.int, .int], some .boolean⟩ := by decide +kernel
theorem pd__Ljava_lang_String__Lcom_example_wireform_wireform_text_FinHeader_ : parseMethodDescriptor "(Ljava/lang/String;)Lcom/example/wireform/wireform/text/FinHeader;" = some ⟨[(.object "java/lang/String")], some (.object "com/example/wireform/wireform/text/FinHeader")⟩ := by decide +kernel
theorem pd__Ljava_util_List_Lcom_example_wireform_wireform_text_FinHeader__V : parseMethodDescriptor "(Ljava/util/List;Lcom/example/wireform/wireform/text/FinHeader;)V" = some ⟨[(.object "java/util/List"), (.object "com/example/wireform/wireform/text/FinHeader")], none⟩ := by decide +kernel
theorem ef_con_nxt (m : MethodId) (r t b o d : Addr) (cs os : List Int32) (K : List Nat) (p : Nat) (vb : Value) (fm : Value) (cz : Int32)  : entryFrame m #[(.ref r)] 6 = mkF m 0 #[.val (.ref r), .unset, .unset, .unset, .unset, .unset] [] := by first | (simp [entryFrame, mkF, argsToLocals, Value.category]; done) | rfl
set_option maxRecDepth 65536 in
set_option maxHeartbeats 40000000 in
theorem con_nxt (l : Launch) (Z : State) (a0 : Array Value) (hw : ∀ d ∈ tables_1, d.before a0 Z = true) (n0 : Nat) (h0 : Heap) (Z0 : n0 ≤ h0.size) (r t b o d : Addr) (cs os : List Int32) (K : List Nat) (p : Nat) (vb : Value) (fm : Value) (cz : Int32) (od0 : Old Z n0 h0) (SF : Sta Z Z.heap "jdk/internal/util/Preconditions" "SIOOBE_FORMATTER" "Ljava/util/function/BiFunction;" fm) (hfm : fm.isRef = true) (SZ : Sta Z Z.heap "java/lang/String" "COMPACT_STRINGS" "Z" (.int cz)) (hcz : ¬ cz = 0) (E1 : Exa Z h0 t "java/lang/String") (FV : Fld Z h0 t "java/lang/String" "value" "[B" (.ref b)) (FC : Fld Z h0 t "java/lang/String" "coder" "B" (.int (own_coder cs))) (AB : Ary Z h0 b .byte (own_enc cs)) (hp : own_pfx cs = cs.length) (hn : cs.length ≤ 15) (hch : own_chr cs) (hK : own_rel cs K) (ER : Exa Z h0 r "com/example/wireform/wireform/text/MessageReader") (gr : n0 ≤ r) (R_text : Fld Z h0 r "com/example/wireform/wireform/text/MessageReader" "text" "Ljava/lang/String;" (.ref t)) (R_fin : Fld Z h0 r "com/example/wireform/wireform/text/MessageReader" "fin" "Z" (.int (1 : Int32))) (R_bare : Fld Z h0 r "com/example/wireform/wireform/text/MessageReader" "bare" "Z" vb) (R_opening : Fld Z h0 r "com/example/wireform/wireform/text/MessageReader" "opening" "Ljava/lang/String;" (.ref o)) (R_position : Fld Z h0 r "com/example/wireform/wireform/text/MessageReader" "position" "I" (.int (Int32.ofNat p))) (htr : t ≠ r) (hbr : b ≠ r) (hpl : p ≤ cs.length + 1) (E3 : Exa Z h0 o "java/lang/String") (FV3 : Fld Z h0 o "java/lang/String" "value" "[B" (.ref d)) (FC3 : Fld Z h0 o "java/lang/String" "coder" "B" (.int (own_coder os))) (AB3 : Ary Z h0 d .byte (own_enc os)) (hp3 : own_pfx os = os.length) (hch3 : own_chr os) (h5 : os.length ≤ 5) :
    ConW l Z own_EL n0 (⟨"com/example/wireform/wireform/text/MessageReader", "next", "()Lcom/example/wireform/wireform/text/Message;"⟩ : MethodName) prog_58_method_3_code 6 (some (.object "com/example/wireform/wireform/text/Message")) ({ frames := 7, cells := (8 + km_scc K 17 p + km_nc K 17 (km_sc K 17 p).1), slots := (100 * (8 + km_scc K 17 p + km_nc K 17 (km_sc K 17 p).1)), locals := 3105 } : Room) #[(.ref r)] h0 [] (Val fun w h' => ∃ x, w = .ref x ∧ ∃ o p', km_no K 17 (km_sc K 17 p).1 = (o, p') ∧ Keep h0 h' [r] ∧ Exa Z h' r "com/example/wireform/wireform/text/MessageReader" ∧ Fld Z h' r "com/example/wireform/wireform/text/MessageReader" "text" "Ljava/lang/String;" (.ref t) ∧ Fld Z h' r "com/example/wireform/wireform/text/MessageReader" "fin" "Z" (.int (1 : Int32)) ∧ Fld Z h' r "com/example/wireform/wireform/text/MessageReader" "bare" "Z" vb ∧ Fld Z h' r "com/example/wireform/wireform/text/MessageReader" "position" "I" (.int (Int32.ofNat p')) ∧ Exa Z h' t "java/lang/String" ∧ Fld Z h' t "java/lang/String" "value" "[B" (.ref b) ∧ Fld Z h' t "java/lang/String" "coder" "B" (.int (own_coder cs)) ∧ Ary Z h' b .byte (own_enc cs) ∧ ((o = none ∧ Fld Z h' r "com/example/wireform/wireform/text/MessageReader" "opening" "Ljava/lang/String;" .null) ∨ ∃ s e u d, o = some (s, e) ∧ Fld Z h' r "com/example/wireform/wireform/text/MessageReader" "opening" "Ljava/lang/String;" (.ref u) ∧ Exa Z h' u "java/lang/String" ∧ Fld Z h' u "java/lang/String" "value" "[B" (.ref d) ∧ Fld Z h' u "java/lang/String" "coder" "B" (.int (own_coder (own_sub cs s e))) ∧ Ary Z h' d .byte (own_enc (own_sub cs s e)))) := by
  refine ConW.of_run (own_EW hw) pn_19 (fun m => ef_con_nxt m r t b o d cs os K p vb fm cz ) ?_
  intro vm hal hsf
  refine RunW.aloadN d19_0 rfl rfl (pc' := 1) rfl ?_
  refine RunW.callV (k' := (0 + 0)) (n' := (100 * (0 + 0))) (a := r) (as := []) (rest := []) (con_hn1 l Z a0 hw n0 h0 Z0 r o R_fin R_opening ) (by rintro _ _ ⟨_, -, -, rfl⟩; exact ⟨[], Keep.refl _ _, all0⟩) ER d19_1 (hw _ (List.mem_of_getElem? (i := 103) rfl)) (hw _ (List.mem_of_getElem? (i := 94) rfl)) (fun s hZ => notFace_of_selects (args := #[]) (mvT hZ (hw _ (List.mem_of_getElem? (i := 96) rfl)))) (hw _ (List.mem_of_getElem? (i := 96) rfl)) (hw _ (List.mem_of_getElem? (i := 95) rfl)) (hw _ (List.mem_of_getElem? (i := 57) rfl)) (hw _ (List.mem_of_getElem? (i := 97) rfl)) (by decide) pd___Z rfl rfl rfl (by show (0 : Nat) + 1 ≤ 7; decide) (by show (0 : Nat) + (1 + 11) + 0 ≤ 3105; decide) (by show (0 + 0) + 0 ≤ (0 + 0); omega) (by show (0 + 0) ≤ 8 + km_scc K 17 p + km_nc K 17 (km_sc K 17 p).1; omega) (by show 100 * (0 + 0) + 0 ≤ 100 * (0 + 0); omega) (by show 100 * (0 + 0) ≤ 100 * (8 + km_scc K 17 p + km_nc K 17 (km_sc K 17 p).1); omega) (pc' := 4) rfl ?_
  rintro _ _ ⟨_, rfl, rfl, rfl⟩ -
  show RunW l Z own_EL n0 "com/example/wireform/wireform/text/MessageReader" prog_58_method_3_code 6 (some (.object "com/example/wireform/wireform/text/Message")) (⟨"com/example/wireform/wireform/text/MessageReader", "next", "()Lcom/example/wireform/wireform/text/Message;"⟩ : MethodName) ({ frames := 7, cells := (8 + km_scc K 17 p + km_nc K 17 (km_sc K 17 p).1), slots := (100 * (8 + km_scc K 17 p + km_nc K 17 (km_sc K 17 p).1)), locals := 3105 } : Room) _ 4 #[.val (.ref r), .unset, .unset, .unset, .unset, .unset] [(.int (1 : Int32))] h0 vm (0 + 0) (100 * (0 + 0))
  refine RunW.if_ne d19_4 (by decide) (pc' := 15) (by decide) (pa := 7) rfl (fun hc4 => ?_) (fun hc4 => ?_)
  · refine RunW.aloadN d19_15 rfl rfl (pc' := 16) rfl ?_
    refine RunW.getF d19_16 (host := "") (Or.inl (hw _ (List.mem_of_getElem? (i := 89) rfl))) Via.refl R_fin (pc' := 19) rfl ?_
    refine RunW.if_ne d19_19 (by decide) (pc' := 43) (by decide) (pa := 22) rfl (fun hc19 => ?_) (fun hc19 => ?_)
    · refine RunW.aloadN d19_43 rfl rfl (pc' := 44) rfl ?_
      refine RunW.getF d19_44 (host := "") (Or.inl (hw _ (List.mem_of_getElem? (i := 256) rfl))) Via.refl R_opening (pc' := 47) rfl ?_
      refine RunW.callSW (k' := (0 + 2)) (n' := (100 * (0 + 2))) (as := [(.ref o)]) (rest := []) (con_fhr l Z a0 hw n0 h0 Z0 o d os cz od0 SZ hcz E3 FV3 FC3 AB3 hp3 hch3 h5) all0 (own_EW hw) d19_47 (hw _ (List.mem_of_getElem? (i := 258) rfl)) (hw _ (List.mem_of_getElem? (i := 259) rfl)) (hw _ (List.mem_of_getElem? (i := 260) rfl)) (hw _ (List.mem_of_getElem? (i := 261) rfl)) (by decide) pd__Ljava_lang_String__Lcom_example_wireform_wireform_text_FinHeader_ rfl rfl rfl (by show (4 : Nat) + 1 ≤ 7; decide) (by show (0 : Nat) + (2 + 11) + 59 ≤ 3105; decide) (by show (0 + 0) + 2 ≤ (0 + 2); omega) (by show (0 + 2) ≤ 8 + km_scc K 17 p + km_nc K 17 (km_sc K 17 p).1; omega) (by show 100 * (0 + 0) + 28 ≤ 100 * (0 + 2); omega) (by show 100 * (0 + 2) ≤ 100 * (8 + km_scc K 17 p + km_nc K 17 (km_sc K 17 p).1); omega) (pc' := 50) rfl ?_
      rintro _ h11 vm11 ⟨_, rfl, ⟨rfl, E11⟩⟩ c11
      show RunW l Z own_EL n0 "com/example/wireform/wireform/text/MessageReader" prog_58_method_3_code 6 (some (.object "com/example/wireform/wireform/text/Message")) (⟨"com/example/wireform/wireform/text/MessageReader", "next", "()Lcom/example/wireform/wireform/text/Message;"⟩ : MethodName) ({ frames := 7, cells := (8 + km_scc K 17 p + km_nc K 17 (km_sc K 17 p).1), slots := (100 * (8 + km_scc K 17 p + km_nc K 17 (km_sc K 17 p).1)), locals := 3105 } : Room) _ 50 #[.val (.ref r), .unset, .unset, .unset, .unset, .unset] [.null] h11 vm11 (0 + 2) (100 * (0 + 2))
      have E_t_11 := E1.ext E11
      have F_t_value_11 := FV.ext E11
      have F_t_coder_11 := FC.ext E11
      have A_b_11 := AB.ext E11
      have E_r_11 := ER.ext E11
      have F_r_text_11 := R_text.ext E11
      have F_r_fin_11 := R_fin.ext E11
      have F_r_bare_11 := R_bare.ext E11
      have F_r_opening_11 := R_opening.ext E11
      have F_r_position_11 := R_position.ext E11
      have E_o_11 := E3.ext E11
      have F_o_value_11 := FV3.ext E11
      have F_o_coder_11 := FC3.ext E11
      have A_d_11 := AB3.ext E11
      have sz11 : n0 ≤ h11.size := Nat.le_trans Z0 E11.1
      have kp11 := Keep.ext (Keep.refl h0 [r]) E11
      have od11 := od0.ext E11
      refine RunW.astoreN (l' := #[.val (.ref r), .val .null, .unset, .unset, .unset, .unset]) d19_50 rfl rfl (pc' := 51) rfl ?_
      refine RunW.aloadN d19_51 rfl rfl (pc' := 52) rfl ?_
      refine RunW.getF d19_52 (host := "") (Or.inl (hw _ (List.mem_of_getElem? (i := 200) rfl))) Via.refl F_r_position_11 (pc' := 55) rfl ?_
      refine RunW.istoreN (l' := #[.val (.ref r), .val .null, .val (.int (Int32.ofNat p)), .unset, .unset, .unset]) d19_55 rfl (pc' := 56) rfl ?_
      refine RunW.aloadN d19_56 rfl rfl (pc' := 57) rfl ?_
      refine RunW.getF d19_57 (host := "") (Or.inl (hw _ (List.mem_of_getElem? (i := 62) rfl))) Via.refl F_r_text_11 (pc' := 60) rfl ?_
      refine RunW.callV (k' := (0 + 2)) (n' := (100 * (0 + 2))) (a := t) (as := []) (rest := []) (con_len l Z a0 hw n0 h11 sz11 t b cs cz od11 SZ hcz E_t_11 F_t_value_11 F_t_coder_11 A_b_11 (by omega)) (by rintro _ _ ⟨_, -, -, rfl⟩; exact ⟨[], Keep.refl _ _, all0⟩) E_t_11 d19_60 (hw _ (List.mem_of_getElem? (i := 202) rfl)) (hw _ (List.mem_of_getElem? (i := 76) rfl)) (fun s hZ => notFace_of_selects (args := #[]) (mvT hZ (hw _ (List.mem_of_getElem? (i := 78) rfl)))) (hw _ (List.mem_of_getElem? (i := 78) rfl)) (hw _ (List.mem_of_getElem? (i := 77) rfl)) (hw _ (List.mem_of_getElem? (i := 1) rfl)) (hw _ (List.mem_of_getElem? (i := 79) rfl)) (by decide) pd___I rfl rfl rfl (by show (1 : Nat) + 1 ≤ 7; decide) (by show (0 : Nat) + (1 + 11) + 13 ≤ 3105; decide) (by show (0 + 2) + 0 ≤ (0 + 2); omega) (by show (0 + 2) ≤ 8 + km_scc K 17 p + km_nc K 17 (km_sc K 17 p).1; omega) (by show 100 * (0 + 2) + 0 ≤ 100 * (0 + 2); omega) (by show 100 * (0 + 2) ≤ 100 * (8 + km_scc K 17 p + km_nc K 17 (km_sc K 17 p).1); omega) (pc' := 63) rfl ?_
      rintro _ _ ⟨_, rfl, rfl, rfl⟩ -
      show RunW l Z own_EL n0 "com/example/wireform/wireform/text/MessageReader" prog_58_method_3_code 6 (some (.object "com/example/wireform/wireform/text/Message")) (⟨"com/example/wireform/wireform/text/MessageReader", "next", "()Lcom/example/wireform/wireform/text/Message;"⟩ : MethodName) ({ frames := 7, cells := (8 + km_scc K 17 p + km_nc K 17 (km_sc K 17 p).1), slots := (100 * (8 + km_scc K 17 p + km_nc K 17 (km_sc K 17 p).1)), locals := 3105 } : Room) _ 63 #[.val (.ref r), .val .null, .val (.int (Int32.ofNat p)), .unset, .unset, .unset] [(.int (Int32.ofNat cs.length))] h11 vm11 (0 + 2) (100 * (0 + 2))
      refine RunW.istoreN (l' := #[.val (.ref r), .val .null, .val (.int (Int32.ofNat p)), .val (.int (Int32.ofNat cs.length)), .unset, .unset]) d19_63 rfl (pc' := 64) rfl ?_
      have hKl := hK.1
      have rest : ∀ (e3 pe : Nat) (hh : Heap) (vh : Vm) (kb : Nat) (s4 s5 : Slot), e3 ≤ cs.length → pe ≤ cs.length + 1 → (km_sc K 17 p).1 = pe → kb + 6 + km_nc K 17 pe = 8 + km_scc K 17 p + km_nc K 17 (km_sc K 17 p).1 → One s4 → One s5 → n0 ≤ hh.size → Keep h0 hh [r] → Old Z n0 hh → Exa Z hh r "com/example/wireform/wireform/text/MessageReader" → Fld Z hh r "com/example/wireform/wireform/text/MessageReader" "text" "Ljava/lang/String;" (.ref t) → Fld Z hh r "com/example/wireform/wireform/text/MessageReader" "fin" "Z" (.int (1 : Int32)) → Fld Z hh r "com/example/wireform/wireform/text/MessageReader" "bare" "Z" vb → Fld Z hh r "com/example/wireform/wireform/text/MessageReader" "opening" "Ljava/lang/String;" (.ref o) → Fld Z hh r "com/example/wireform/wireform/text/MessageReader" "position" "I" (.int (Int32.ofNat pe)) → Exa Z hh t "java/lang/String" → Fld Z hh t "java/lang/String" "value" "[B" (.ref b) → Fld Z hh t "java/lang/String" "coder" "B" (.int (own_coder cs)) → Ary Z hh b .byte (own_enc cs) → RunW l Z own_EL n0 "com/example/wireform/wireform/text/MessageReader" prog_58_method_3_code 6 (some (.object "com/example/wireform/wireform/text/Message")) (⟨"com/example/wireform/wireform/text/MessageReader", "next", "()Lcom/example/wireform/wireform/text/Message;"⟩ : MethodName) ({ frames := 7, cells := (8 + km_scc K 17 p + km_nc K 17 (km_sc K 17 p).1), slots := (100 * (8 + km_scc K 17 p + km_nc K 17 (km_sc K 17 p).1)), locals := 3105 } : Room) (Val fun w h' => ∃ x, w = .ref x ∧ ∃ o p', km_no K 17 (km_sc K 17 p).1 = (o, p') ∧ Keep h0 h' [r] ∧ Exa Z h' r "com/example/wireform/wireform/text/MessageReader" ∧ Fld Z h' r "com/example/wireform/wireform/text/MessageReader" "text" "Ljava/lang/String;" (.ref t) ∧ Fld Z h' r "com/example/wireform/wireform/text/MessageReader" "fin" "Z" (.int (1 : Int32)) ∧ Fld Z h' r "com/example/wireform/wireform/text/MessageReader" "bare" "Z" vb ∧ Fld Z h' r "com/example/wireform/wireform/text/MessageReader" "position" "I" (.int (Int32.ofNat p')) ∧ Exa Z h' t "java/lang/String" ∧ Fld Z h' t "java/lang/String" "value" "[B" (.ref b) ∧ Fld Z h' t "java/lang/String" "coder" "B" (.int (own_coder cs)) ∧ Ary Z h' b .byte (own_enc cs) ∧ ((o = none ∧ Fld Z h' r "com/example/wireform/wireform/text/MessageReader" "opening" "Ljava/lang/String;" .null) ∨ ∃ s e u d, o = some (s, e) ∧ Fld Z h' r "com/example/wireform/wireform/text/MessageReader" "opening" "Ljava/lang/String;" (.ref u) ∧ Exa Z h' u "java/lang/String" ∧ Fld Z h' u "java/lang/String" "value" "[B" (.ref d) ∧ Fld Z h' u "java/lang/String" "coder" "B" (.int (own_coder (own_sub cs s e))) ∧ Ary Z h' d .byte (own_enc (own_sub cs s e)))) 137 #[.val (.ref r), .val .null, .val (.int (Int32.ofNat p)), .val (.int (Int32.ofNat e3)), s4, s5] [] hh vh kb (100 * kb) := by
        intro e3 pe hh vh kb s4 s5 he3 hpe hsc hkb h_s4 h_s5 szh kph odh ERh Rh_text Rh_fin Rh_bare Rh_opening Rh_position E1h FVh FCh ABh
        show RunW l Z own_EL n0 "com/example/wireform/wireform/text/MessageReader" prog_58_method_3_code 6 (some (.object "com/example/wireform/wireform/text/Message")) (⟨"com/example/wireform/wireform/text/MessageReader", "next", "()Lcom/example/wireform/wireform/text/Message;"⟩ : MethodName) ({ frames := 7, cells := (8 + km_scc K 17 p + km_nc K 17 (km_sc K 17 p).1), slots := (100 * (8 + km_scc K 17 p + km_nc K 17 (km_sc K 17 p).1)), locals := 3105 } : Room) (Val fun w h' => ∃ x, w = .ref x ∧ ∃ o p', km_no K 17 (km_sc K 17 p).1 = (o, p') ∧ Keep h0 h' [r] ∧ Exa Z h' r "com/example/wireform/wireform/text/MessageReader" ∧ Fld Z h' r "com/example/wireform/wireform/text/MessageReader" "text" "Ljava/lang/String;" (.ref t) ∧ Fld Z h' r "com/example/wireform/wireform/text/MessageReader" "fin" "Z" (.int (1 : Int32)) ∧ Fld Z h' r "com/example/wireform/wireform/text/MessageReader" "bare" "Z" vb ∧ Fld Z h' r "com/example/wireform/wireform/text/MessageReader" "position" "I" (.int (Int32.ofNat p')) ∧ Exa Z h' t "java/lang/String" ∧ Fld Z h' t "java/lang/String" "value" "[B" (.ref b) ∧ Fld Z h' t "java/lang/String" "coder" "B" (.int (own_coder cs)) ∧ Ary Z h' b .byte (own_enc cs) ∧ ((o = none ∧ Fld Z h' r "com/example/wireform/wireform/text/MessageReader" "opening" "Ljava/lang/String;" .null) ∨ ∃ s e u d, o = some (s, e) ∧ Fld Z h' r "com/example/wireform/wireform/text/MessageReader" "opening" "Ljava/lang/String;" (.ref u) ∧ Exa Z h' u "java/lang/String" ∧ Fld Z h' u "java/lang/String" "value" "[B" (.ref d) ∧ Fld Z h' u "java/lang/String" "coder" "B" (.int (own_coder (own_sub cs s e))) ∧ Ary Z h' d .byte (own_enc (own_sub cs s e)))) 137 #[.val (.ref r), .val .null, .val (.int (Int32.ofNat p)), .val (.int (Int32.ofNat e3)), s4, s5] [] hh vh (kb + 0) (100 * (kb + 0))
        refine RunW.aloadN d19_137 rfl rfl (pc' := 138) rfl ?_
        refine RunW.aloadN d19_138 rfl rfl (pc' := 139) rfl ?_
        refine RunW.callVW (k' := ((kb + 0) + (km_nc K 17 pe))) (n' := (100 * ((kb + 0) + (km_nc K 17 pe)))) (a := r) (as := []) (rest := [(.ref r)]) (con_nop l Z a0 hw n0 hh szh r t b cs K 17 pe (.int (1 : Int32)) vb (.ref o) fm cz odh SF hfm SZ hcz E1h FVh FCh ABh hp hn hch hK ERh gr Rh_text Rh_fin Rh_bare Rh_opening Rh_position htr hbr (by omega) (by omega)) all0 (own_EW hw) ERh d19_139 (hw _ (List.mem_of_getElem? (i := 196) rfl)) (own_decl (hw _ (List.mem_of_getElem? (i := 197) rfl)) (hw _ (List.mem_of_getElem? (i := 199) rfl))) (fun s hZ => notFace_of_selects (args := #[]) (mvT hZ (own_selp (by decide) (hw _ (List.mem_of_getElem? (i := 56) rfl)) (hw _ (List.mem_of_getElem? (i := 198) rfl)) (hw _ (List.mem_of_getElem? (i := 197) rfl))))) (own_selp (by decide) (hw _ (List.mem_of_getElem? (i := 56) rfl)) (hw _ (List.mem_of_getElem? (i := 198) rfl)) (hw _ (List.mem_of_getElem? (i := 197) rfl))) (hw _ (List.mem_of_getElem? (i := 197) rfl)) (hw _ (List.mem_of_getElem? (i := 57) rfl)) (hw _ (List.mem_of_getElem? (i := 199) rfl)) (by decide) pd___Ljava_lang_String_ rfl rfl rfl (by show (6 : Nat) + 1 ≤ 7; decide) (by show (1 : Nat) + (3 + 11) + 107 ≤ 3105; decide) (by show (kb + 0) + (km_nc K 17 pe) ≤ ((kb + 0) + (km_nc K 17 pe)); omega) (by show ((kb + 0) + (km_nc K 17 pe)) ≤ 8 + km_scc K 17 p + km_nc K 17 (km_sc K 17 p).1; omega) (by show 100 * (kb + 0) + (100 * (km_nc K 17 pe)) ≤ 100 * ((kb + 0) + (km_nc K 17 pe)); omega) (by show 100 * ((kb + 0) + (km_nc K 17 pe)) ≤ 100 * (8 + km_scc K 17 p + km_nc K 17 (km_sc K 17 p).1); omega) (pc' := 142) rfl ?_
        rintro _ h12 vm12 ⟨w12, rfl, ⟨oo12, pp12, hno12, K12, X12, Qtext_12, Qfin_12, Qbare_12, Qopening_12, Qp_12, XT12, VT12, CT12, AT12, hor12⟩⟩ c12
        show RunW l Z own_EL n0 "com/example/wireform/wireform/text/MessageReader" prog_58_method_3_code 6 (some (.object "com/example/wireform/wireform/text/Message")) (⟨"com/example/wireform/wireform/text/MessageReader", "next", "()Lcom/example/wireform/wireform/text/Message;"⟩ : MethodName) ({ frames := 7, cells := (8 + km_scc K 17 p + km_nc K 17 (km_sc K 17 p).1), slots := (100 * (8 + km_scc K 17 p + km_nc K 17 (km_sc K 17 p).1)), locals := 3105 } : Room) _ 142 #[.val (.ref r), .val .null, .val (.int (Int32.ofNat p)), .val (.int (Int32.ofNat e3)), s4, s5] [w12, (.ref r)] h12 vm12 ((kb + 0) + (km_nc K 17 pe)) (100 * ((kb + 0) + (km_nc K 17 pe)))
        have E_r_12 := ERh.keep K12
        have E_t_12 := E1h.keep K12
        have F_t_value_12 := FVh.keep K12 (ninS htr nin0)
        have F_t_coder_12 := FCh.keep K12 (ninS htr nin0)
        have A_b_12 := ABh.keep K12 (ninS hbr nin0)
        have sz12 : n0 ≤ h12.size := Nat.le_trans szh K12.1
        have kp12 := Keep.trans kph K12 (allS (Or.inl (List.mem_of_getElem? (i := 0) rfl)) all0)
        have od12 := odh.keep K12 (allS gr all0)
        rcases hor12 with ⟨ho12, rfl⟩ | ⟨ss12, se12, u12, d12, ho12, rfl, XU12, VU12, CU12, AU12⟩
        · refine RunW.alike fun al14 => ?_
          refine RunW.putF d19_142 (host := "") (Or.inl (hw _ (List.mem_of_getElem? (i := 256) rfl))) Via.refl Qopening_12 X12 (Or.inl (hw _ (List.mem_of_getElem? (i := 257) rfl))) (hw _ (List.mem_of_getElem? (i := 56) rfl)) (ty := (.object "java/lang/String")) (by decide) (go_narref rfl rfl) rfl gr (Safe.exa al14 X12 (by decide) (by decide)) (pc' := 145) rfl ?_
          intro h13 W13 c13
          have Fw13 := Qopening_12.same W13
          have E_r_13 := X12.wr W13
          have E_t_13 := XT12.wr W13
          have F_t_value_13 := VT12.other W13 (Or.inl htr)
          have F_t_coder_13 := CT12.other W13 (Or.inl htr)
          have A_b_13 := AT12.other W13 hbr
          have F_r_text_13 := Qtext_12.other W13 (Or.inr (slot_ne (Or.inr (hw _ (List.mem_of_getElem? (i := 63) rfl))) (Or.inl (hw _ (List.mem_of_getElem? (i := 257) rfl))) (by decide) (t := (.object "java/lang/String")) (t' := (.object "java/lang/String")) (by decide) (by decide)))
          have F_r_fin_13 := Qfin_12.other W13 (Or.inr (slot_ne (Or.inr (hw _ (List.mem_of_getElem? (i := 90) rfl))) (Or.inl (hw _ (List.mem_of_getElem? (i := 257) rfl))) (by decide) (t := .boolean) (t' := (.object "java/lang/String")) (by decide) (by decide)))
          have F_r_bare_13 := Qbare_12.other W13 (Or.inr (slot_ne (Or.inl (hw _ (List.mem_of_getElem? (i := 92) rfl))) (Or.inl (hw _ (List.mem_of_getElem? (i := 257) rfl))) (by decide) (t := .boolean) (t' := (.object "java/lang/String")) (by decide) (by decide)))
          have F_r_position_13 := Qp_12.other W13 (Or.inr (slot_ne (Or.inl (hw _ (List.mem_of_getElem? (i := 201) rfl))) (Or.inl (hw _ (List.mem_of_getElem? (i := 257) rfl))) (by decide) (t := .int) (t' := (.object "java/lang/String")) (by decide) (by decide)))
          have sz13 : n0 ≤ h13.size := by rw [W13.size]; exact sz12
          have kp13 := Keep.wr kp12 W13 (Or.inl (List.mem_of_getElem? (i := 0) rfl))
          have od13 := od12.wr W13 gr
          refine RunW.newO (k' := (((kb + 0) + (km_nc K 17 pe)) + 1)) (n' := (100 * (((kb + 0) + (km_nc K 17 pe)) + 1))) d19_145 (hw _ (List.mem_of_getElem? (i := 104) rfl)) (hw _ (List.mem_of_getElem? (i := 105) rfl)) (hw _ (List.mem_of_getElem? (i := 106) rfl)) (by show (((kb + 0) + (km_nc K 17 pe)) + 0) + 1 ≤ (((kb + 0) + (km_nc K 17 pe)) + 1); omega) (by show (((kb + 0) + (km_nc K 17 pe)) + 1) ≤ 8 + km_scc K 17 p + km_nc K 17 (km_sc K 17 p).1; omega) (by show 100 * (((kb + 0) + (km_nc K 17 pe)) + 0) + 2 ≤ 100 * (((kb + 0) + (km_nc K 17 pe)) + 1); omega) (by show 100 * (((kb + 0) + (km_nc K 17 pe)) + 1) ≤ 100 * (8 + km_scc K 17 p + km_nc K 17 (km_sc K 17 p).1); omega) (pc' := 148) rfl ?_
          intro h15 b15 g15 E15 X15 D15 c15 sf15
          have ge_b15 : n0 ≤ b15 := by rw [g15]; exact sz13
          have bo_b15 : h0.size ≤ b15 := by rw [g15]; exact kp13.1
          have ne_r_b15 : r ≠ b15 := by rw [g15]; exact Nat.ne_of_lt E_r_13.lt
          have ne_t_b15 : t ≠ b15 := by rw [g15]; exact Nat.ne_of_lt E_t_13.lt
          have ne_b_b15 : b ≠ b15 := by rw [g15]; exact Nat.ne_of_lt A_b_13.lt
          have E_r_15 := E_r_13.ext E15
          have E_t_15 := E_t_13.ext E15
          have F_t_value_15 := F_t_value_13.ext E15
          have F_t_coder_15 := F_t_coder_13.ext E15
          have A_b_15 := A_b_13.ext E15
          have F_r_text_15 := F_r_text_13.ext E15
          have F_r_fin_15 := F_r_fin_13.ext E15
          have F_r_bare_15 := F_r_bare_13.ext E15
          have F_r_position_15 := F_r_position_13.ext E15
          have F_r_opening_15 := Fw13.ext E15
          have sz15 : n0 ≤ h15.size := Nat.le_trans sz13 E15.1
          have kp15 := Keep.ext kp13 E15
          have od15 := od13.ext E15
          have F_b15_lines : Fld Z h15 b15 "com/example/wireform/wireform/text/Message" "lines" "Ljava/util/List;" .null := D15 (Or.inr (hw _ (List.mem_of_getElem? (i := 189) rfl))) (ty := (.object "java/util/List")) (by decide)
          have F_b15_header : Fld Z h15 b15 "com/example/wireform/wireform/text/Message" "header" "Lcom/example/wireform/wireform/text/FinHeader;" .null := D15 (Or.inr (hw _ (List.mem_of_getElem? (i := 191) rfl))) (ty := (.object "com/example/wireform/wireform/text/FinHeader")) (by decide)
          refine RunW.dup d19_148 rfl (pc' := 149) rfl ?_
          refine RunW.aloadN d19_149 rfl rfl (pc' := 150) rfl ?_
          refine RunW.getF d19_150 (host := "") (Or.inl (hw _ (List.mem_of_getElem? (i := 62) rfl))) Via.refl F_r_text_15 (pc' := 153) rfl ?_
          refine RunW.iloadN d19_153 rfl (pc' := 154) rfl ?_
          refine RunW.iloadN d19_154 rfl (pc' := 155) rfl ?_
          refine RunW.callSW (k' := (((kb + 0) + (km_nc K 17 pe)) + 6)) (n' := (100 * (((kb + 0) + (km_nc K 17 pe)) + 6))) (as := [(.ref t), (.int (Int32.ofNat p)), (.int (Int32.ofNat e3))]) (rest := [(.ref b15), (.ref b15)]) (con_spl l Z a0 hw n0 h15 sz15 t b cs K p e3 cz od15 SZ hcz E_t_15 F_t_value_15 F_t_coder_15 A_b_15 hp hn hch hK hpl he3) all0 (own_EW hw) d19_155 (hw _ (List.mem_of_getElem? (i := 271) rfl)) (hw _ (List.mem_of_getElem? (i := 119) rfl)) (hw _ (List.mem_of_getElem? (i := 109) rfl)) (hw _ (List.mem_of_getElem? (i := 120) rfl)) (by decide) pd__Ljava_lang_String_II_Ljava_util_List_ rfl rfl rfl (by show (4 : Nat) + 1 ≤ 7; decide) (by show (2 : Nat) + (7 + 11) + 3085 ≤ 3105; decide) (by show (((kb + 0) + (km_nc K 17 pe)) + 1) + 5 ≤ (((kb + 0) + (km_nc K 17 pe)) + 6); omega) (by show (((kb + 0) + (km_nc K 17 pe)) + 6) ≤ 8 + km_scc K 17 p + km_nc K 17 (km_sc K 17 p).1; omega) (by show 100 * (((kb + 0) + (km_nc K 17 pe)) + 1) + 45 ≤ 100 * (((kb + 0) + (km_nc K 17 pe)) + 6); omega) (by show 100 * (((kb + 0) + (km_nc K 17 pe)) + 6) ≤ 100 * (8 + km_scc K 17 p + km_nc K 17 (km_sc K 17 p).1); omega) (pc' := 158) rfl ?_
          rintro _ h16 vm16 ⟨_, rfl, ⟨v16, rfl, E16, X16⟩⟩ c16
          show RunW l Z own_EL n0 "com/example/wireform/wireform/text/MessageReader" prog_58_method_3_code 6 (some (.object "com/example/wireform/wireform/text/Message")) (⟨"com/example/wireform/wireform/text/MessageReader", "next", "()Lcom/example/wireform/wireform/text/Message;"⟩ : MethodName) ({ frames := 7, cells := (8 + km_scc K 17 p + km_nc K 17 (km_sc K 17 p).1), slots := (100 * (8 + km_scc K 17 p + km_nc K 17 (km_sc K 17 p).1)), locals := 3105 } : Room) _ 158 #[.val (.ref r), .val .null, .val (.int (Int32.ofNat p)), .val (.int (Int32.ofNat e3)), s4, s5] [(.ref v16), (.ref b15), (.ref b15)] h16 vm16 (((kb + 0) + (km_nc K 17 pe)) + 6) (100 * (((kb + 0) + (km_nc K 17 pe)) + 6))
          have E_r_16 := E_r_15.ext E16
          have E_t_16 := E_t_15.ext E16
          have F_t_value_16 := F_t_value_15.ext E16
          have F_t_coder_16 := F_t_coder_15.ext E16
          have A_b_16 := A_b_15.ext E16
          have F_r_text_16 := F_r_text_15.ext E16
          have F_r_fin_16 := F_r_fin_15.ext E16
          have F_r_bare_16 := F_r_bare_15.ext E16
          have F_r_position_16 := F_r_position_15.ext E16
          have F_r_opening_16 := F_r_opening_15.ext E16
          have E_b15_16 := X15.ext E16
          have Z_b15_16 := CHr.safe c16 X15.lt sf15
          have F_b15_lines_16 := F_b15_lines.ext E16
          have F_b15_header_16 := F_b15_header.ext E16
          have sz16 : n0 ≤ h16.size := Nat.le_trans sz15 E16.1
          have kp16 := Keep.ext kp15 E16
          have od16 := od15.ext E16
          refine RunW.aloadN d19_158 rfl rfl (pc' := 159) rfl ?_
          refine RunW.callN (k' := (((kb + 0) + (km_nc K 17 pe)) + 6)) (n' := (100 * (((kb + 0) + (km_nc K 17 pe)) + 6))) (a := b15) (as := [(.ref v16), .null]) (rest := [(.ref b15)]) (con_msi l Z a0 hw n0 h16 sz16 b15 v16 E_b15_16 ge_b15 X16 F_b15_lines_16 F_b15_header_16) (by rintro _ _ ⟨rfl, K_⟩; exact ⟨[b15], K_, (allS Z_b15_16 all0)⟩) rfl rfl d19_159 (hw _ (List.mem_of_getElem? (i := 177) rfl)) (hw _ (List.mem_of_getElem? (i := 178) rfl)) (hw _ (List.mem_of_getElem? (i := 106) rfl)) (hw _ (List.mem_of_getElem? (i := 179) rfl)) (by decide) pd__Ljava_util_List_Lcom_example_wireform_wireform_text_FinHeader__V rfl rfl rfl (by show (2 : Nat) + 1 ≤ 7; decide) (by show (1 : Nat) + (3 + 11) + 24 ≤ 3105; decide) (by show (((kb + 0) + (km_nc K 17 pe)) + 6) + 0 ≤ (((kb + 0) + (km_nc K 17 pe)) + 6); omega) (by show (((kb + 0) + (km_nc K 17 pe)) + 6) ≤ 8 + km_scc K 17 p + km_nc K 17 (km_sc K 17 p).1; omega) (by show 100 * (((kb + 0) + (km_nc K 17 pe)) + 6) + 0 ≤ 100 * (((kb + 0) + (km_nc K 17 pe)) + 6); omega) (by show 100 * (((kb + 0) + (km_nc K 17 pe)) + 6) ≤ 100 * (8 + km_scc K 17 p + km_nc K 17 (km_sc K 17 p).1); omega) (pc' := 162) rfl ?_
          rintro _ h17 ⟨rfl, K17⟩ c17
          show RunW l Z own_EL n0 "com/example/wireform/wireform/text/MessageReader" prog_58_method_3_code 6 (some (.object "com/example/wireform/wireform/text/Message")) (⟨"com/example/wireform/wireform/text/MessageReader", "next", "()Lcom/example/wireform/wireform/text/Message;"⟩ : MethodName) ({ frames := 7, cells := (8 + km_scc K 17 p + km_nc K 17 (km_sc K 17 p).1), slots := (100 * (8 + km_scc K 17 p + km_nc K 17 (km_sc K 17 p).1)), locals := 3105 } : Room) _ 162 #[.val (.ref r), .val .null, .val (.int (Int32.ofNat p)), .val (.int (Int32.ofNat e3)), s4, s5] [(.ref b15)] h17 vm16 (((kb + 0) + (km_nc K 17 pe)) + 6) (100 * (((kb + 0) + (km_nc K 17 pe)) + 6))
          have E_r_17 := E_r_16.keep K17
          have E_t_17 := E_t_16.keep K17
          have F_t_value_17 := F_t_value_16.keep K17 (ninS ne_t_b15 nin0)
          have F_t_coder_17 := F_t_coder_16.keep K17 (ninS ne_t_b15 nin0)
          have A_b_17 := A_b_16.keep K17 (ninS ne_b_b15 nin0)
          have F_r_text_17 := F_r_text_16.keep K17 (ninS ne_r_b15 nin0)
          have F_r_fin_17 := F_r_fin_16.keep K17 (ninS ne_r_b15 nin0)
          have F_r_bare_17 := F_r_bare_16.keep K17 (ninS ne_r_b15 nin0)
          have F_r_position_17 := F_r_position_16.keep K17 (ninS ne_r_b15 nin0)
          have F_r_opening_17 := F_r_opening_16.keep K17 (ninS ne_r_b15 nin0)
          have E_b15_17 := E_b15_16.keep K17
          have Z_b15_17 := CHr.safe c17 E_b15_16.lt Z_b15_16
          have E_v16_17 := X16.keep K17
          have sz17 : n0 ≤ h17.size := Nat.le_trans sz16 K17.1
          have kp17 := Keep.trans kp16 K17 (allS (Or.inr bo_b15) all0)
          have od17 := od16.keep K17 (allS ge_b15 all0)
          exact RunW.areturn d19_162 (ty := (.object "com/example/wireform/wireform/text/Message")) rfl rfl rfl (by show (((kb + 0) + (km_nc K 17 pe)) + 6) ≤ 8 + km_scc K 17 p + km_nc K 17 (km_sc K 17 p).1; omega) (by show 100 * (((kb + 0) + (km_nc K 17 pe)) + 6) ≤ 100 * (8 + km_scc K 17 p + km_nc K 17 (km_sc K 17 p).1); omega) ⟨_, rfl, b15, rfl, oo12, pp12, by rw [hsc]; exact hno12, kp17, E_r_17, F_r_text_17, F_r_fin_17, F_r_bare_17, F_r_position_17, E_t_17, F_t_value_17, F_t_coder_17, A_b_17, Or.inl ⟨ho12, F_r_opening_17⟩⟩
        · refine RunW.alike fun al19 => ?_
          refine RunW.putF d19_142 (host := "") (Or.inl (hw _ (List.mem_of_getElem? (i := 256) rfl))) Via.refl Qopening_12 X12 (Or.inl (hw _ (List.mem_of_getElem? (i := 257) rfl))) (hw _ (List.mem_of_getElem? (i := 56) rfl)) (ty := (.object "java/lang/String")) (by decide) (go_narref rfl rfl) rfl gr (Safe.exa al19 X12 (by decide) (by decide)) (pc' := 145) rfl ?_
          intro h18 W18 c18
          have Fw18 := Qopening_12.same W18
          have E_r_18 := X12.wr W18
          have E_t_18 := XT12.wr W18
          have F_t_value_18 := VT12.other W18 (Or.inl htr)
          have F_t_coder_18 := CT12.other W18 (Or.inl htr)
          have A_b_18 := AT12.other W18 hbr
          have F_r_text_18 := Qtext_12.other W18 (Or.inr (slot_ne (Or.inr (hw _ (List.mem_of_getElem? (i := 63) rfl))) (Or.inl (hw _ (List.mem_of_getElem? (i := 257) rfl))) (by decide) (t := (.object "java/lang/String")) (t' := (.object "java/lang/String")) (by decide) (by decide)))
          have F_r_fin_18 := Qfin_12.other W18 (Or.inr (slot_ne (Or.inr (hw _ (List.mem_of_getElem? (i := 90) rfl))) (Or.inl (hw _ (List.mem_of_getElem? (i := 257) rfl))) (by decide) (t := .boolean) (t' := (.object "java/lang/String")) (by decide) (by decide)))
          have F_r_bare_18 := Qbare_12.other W18 (Or.inr (slot_ne (Or.inl (hw _ (List.mem_of_getElem? (i := 92) rfl))) (Or.inl (hw _ (List.mem_of_getElem? (i := 257) rfl))) (by decide) (t := .boolean) (t' := (.object "java/lang/String")) (by decide) (by decide)))
          have F_r_position_18 := Qp_12.other W18 (Or.inr (slot_ne (Or.inl (hw _ (List.mem_of_getElem? (i := 201) rfl))) (Or.inl (hw _ (List.mem_of_getElem? (i := 257) rfl))) (by decide) (t := .int) (t' := (.object "java/lang/String")) (by decide) (by decide)))
          have E_u12_18 := XU12.wr W18
          have F_u12_value_18 := VU12.other W18 (Or.inl (own_xne XU12 X12 (by decide)))
          have F_u12_coder_18 := CU12.other W18 (Or.inl (own_xne XU12 X12 (by decide)))
          have A_d12_18 := AU12.other W18 (own_ane (hw _ (List.mem_of_getElem? (i := 56) rfl)) AU12 X12)
          have sz18 : n0 ≤ h18.size := by rw [W18.size]; exact sz12
          have kp18 := Keep.wr kp12 W18 (Or.inl (List.mem_of_getElem? (i := 0) rfl))
          have od18 := od12.wr W18 gr
          refine RunW.newO (k' := (((kb + 0) + (km_nc K 17 pe)) + 1)) (n' := (100 * (((kb + 0) + (km_nc K 17 pe)) + 1))) d19_145 (hw _ (List.mem_of_getElem? (i := 104) rfl)) (hw _ (List.mem_of_getElem? (i := 105) rfl)) (hw _ (List.mem_of_getElem? (i := 106) rfl)) (by show (((kb + 0) + (km_nc K 17 pe)) + 0) + 1 ≤ (((kb + 0) + (km_nc K 17 pe)) + 1); omega) (by show (((kb + 0) + (km_nc K 17 pe)) + 1) ≤ 8 + km_scc K 17 p + km_nc K 17 (km_sc K 17 p).1; omega) (by show 100 * (((kb + 0) + (km_nc K 17 pe)) + 0) + 2 ≤ 100 * (((kb + 0) + (km_nc K 17 pe)) + 1); omega) (by show 100 * (((kb + 0) + (km_nc K 17 pe)) + 1) ≤ 100 * (8 + km_scc K 17 p + km_nc K 17 (km_sc K 17 p).1); omega) (pc' := 148) rfl ?_
          intro h20 b20 g20 E20 X20 D20 c20 sf20
          have ge_b20 : n0 ≤ b20 := by rw [g20]; exact sz18
          have bo_b20 : h0.size ≤ b20 := by rw [g20]; exact kp18.1
          have ne_r_b20 : r ≠ b20 := by rw [g20]; exact Nat.ne_of_lt E_r_18.lt
          have ne_t_b20 : t ≠ b20 := by rw [g20]; exact Nat.ne_of_lt E_t_18.lt
          have ne_b_b20 : b ≠ b20 := by rw [g20]; exact Nat.ne_of_lt A_b_18.lt
          have ne_u12_b20 : u12 ≠ b20 := by rw [g20]; exact Nat.ne_of_lt E_u12_18.lt
          have ne_d12_b20 : d12 ≠ b20 := by rw [g20]; exact Nat.ne_of_lt A_d12_18.lt
          have E_r_20 := E_r_18.ext E20
          have E_t_20 := E_t_18.ext E20
          have F_t_value_20 := F_t_value_18.ext E20
          have F_t_coder_20 := F_t_coder_18.ext E20
          have A_b_20 := A_b_18.ext E20
          have F_r_text_20 := F_r_text_18.ext E20
          have F_r_fin_20 := F_r_fin_18.ext E20
          have F_r_bare_20 := F_r_bare_18.ext E20
          have F_r_position_20 := F_r_position_18.ext E20
          have E_u12_20 := E_u12_18.ext E20
          have F_u12_value_20 := F_u12_value_18.ext E20
          have F_u12_coder_20 := F_u12_coder_18.ext E20
          have A_d12_20 := A_d12_18.ext E20
          have F_r_opening_20 := Fw18.ext E20
          have sz20 : n0 ≤ h20.size := Nat.le_trans sz18 E20.1
          have kp20 := Keep.ext kp18 E20
          have od20 := od18.ext E20
          have F_b20_lines : Fld Z h20 b20 "com/example/wireform/wireform/text/Message" "lines" "Ljava/util/List;" .null := D20 (Or.inr (hw _ (List.mem_of_getElem? (i := 189) rfl))) (ty := (.object "java/util/List")) (by decide)
          have F_b20_header : Fld Z h20 b20 "com/example/wireform/wireform/text/Message" "header" "Lcom/example/wireform/wireform/text/FinHeader;" .null := D20 (Or.inr (hw _ (List.mem_of_getElem? (i := 191) rfl))) (ty := (.object "com/example/wireform/wireform/text/FinHeader")) (by decide)
          refine RunW.dup d19_148 rfl (pc' := 149) rfl ?_
          refine RunW.aloadN d19_149 rfl rfl (pc' := 150) rfl ?_
          refine RunW.getF d19_150 (host := "") (Or.inl (hw _ (List.mem_of_getElem? (i := 62) rfl))) Via.refl F_r_text_20 (pc' := 153) rfl ?_
          refine RunW.iloadN d19_153 rfl (pc' := 154) rfl ?_
          refine RunW.iloadN d19_154 rfl (pc' := 155) rfl ?_
          refine RunW.callSW (k' := (((kb + 0) + (km_nc K 17 pe)) + 6)) (n' := (100 * (((kb + 0) + (km_nc K 17 pe)) + 6))) (as := [(.ref t), (.int (Int32.ofNat p)), (.int (Int32.ofNat e3))]) (rest := [(.ref b20), (.ref b20)]) (con_spl l Z a0 hw n0 h20 sz20 t b cs K p e3 cz od20 SZ hcz E_t_20 F_t_value_20 F_t_coder_20 A_b_20 hp hn hch hK hpl he3) all0 (own_EW hw) d19_155 (hw _ (List.mem_of_getElem? (i := 271) rfl)) (hw _ (List.mem_of_getElem? (i := 119) rfl)) (hw _ (List.mem_of_getElem? (i := 109) rfl)) (hw _ (List.mem_of_getElem? (i := 120) rfl)) (by decide) pd__Ljava_lang_String_II_Ljava_util_List_ rfl rfl rfl (by show (4 : Nat) + 1 ≤ 7; decide) (by show (2 : Nat) + (7 + 11) + 3085 ≤ 3105; decide) (by show (((kb + 0) + (km_nc K 17 pe)) + 1) + 5 ≤ (((kb + 0) + (km_nc K 17 pe)) + 6); omega) (by show (((kb + 0) + (km_nc K 17 pe)) + 6) ≤ 8 + km_scc K 17 p + km_nc K 17 (km_sc K 17 p).1; omega) (by show 100 * (((kb + 0) + (km_nc K 17 pe)) + 1) + 45 ≤ 100 * (((kb + 0) + (km_nc K 17 pe)) + 6); omega) (by show 100 * (((kb + 0) + (km_nc K 17 pe)) + 6) ≤ 100 * (8 + km_scc K 17 p + km_nc K 17 (km_sc K 17 p).1); omega) (pc' := 158) rfl ?_
          rintro _ h21 vm21 ⟨_, rfl, ⟨v21, rfl, E21, X21⟩⟩ c21
          show RunW l Z own_EL n0 "com/example/wireform/wireform/text/MessageReader" prog_58_method_3_code 6 (some (.object "com/example/wireform/wireform/text/Message")) (⟨"com/example/wireform/wireform/text/MessageReader", "next", "()Lcom/example/wireform/wireform/text/Message;"⟩ : MethodName) ({ frames := 7, cells := (8 + km_scc K 17 p + km_nc K 17 (km_sc K 17 p).1), slots := (100 * (8 + km_scc K 17 p + km_nc K 17 (km_sc K 17 p).1)), locals := 3105 } : Room) _ 158 #[.val (.ref r), .val .null, .val (.int (Int32.ofNat p)), .val (.int (Int32.ofNat e3)), s4, s5] [(.ref v21), (.ref b20), (.ref b20)] h21 vm21 (((kb + 0) + (km_nc K 17 pe)) + 6) (100 * (((kb + 0) + (km_nc K 17 pe)) + 6))
          have E_r_21 := E_r_20.ext E21
          have E_t_21 := E_t_20.ext E21
          have F_t_value_21 := F_t_value_20.ext E21
          have F_t_coder_21 := F_t_coder_20.ext E21
          have A_b_21 := A_b_20.ext E21
          have F_r_text_21 := F_r_text_20.ext E21
          have F_r_fin_21 := F_r_fin_20.ext E21
          have F_r_bare_21 := F_r_bare_20.ext E21
          have F_r_position_21 := F_r_position_20.ext E21
          have E_u12_21 := E_u12_20.ext E21
          have F_u12_value_21 := F_u12_value_20.ext E21
          have F_u12_coder_21 := F_u12_coder_20.ext E21
          have A_d12_21 := A_d12_20.ext E21
          have F_r_opening_21 := F_r_opening_20.ext E21
          have E_b20_21 := X20.ext E21
          have Z_b20_21 := CHr.safe c21 X20.lt sf20
          have F_b20_lines_21 := F_b20_lines.ext E21
          have F_b20_header_21 := F_b20_header.ext E21
          have sz21 : n0 ≤ h21.size := Nat.le_trans sz20 E21.1
          have kp21 := Keep.ext kp20 E21
          have od21 := od20.ext E21
          refine RunW.aloadN d19_158 rfl rfl (pc' := 159) rfl ?_
          refine RunW.callN (k' := (((kb + 0) + (km_nc K 17 pe)) + 6)) (n' := (100 * (((kb + 0) + (km_nc K 17 pe)) + 6))) (a := b20) (as := [(.ref v21), .null]) (rest := [(.ref b20)]) (con_msi l Z a0 hw n0 h21 sz21 b20 v21 E_b20_21 ge_b20 X21 F_b20_lines_21 F_b20_header_21) (by rintro _ _ ⟨rfl, K_⟩; exact ⟨[b20], K_, (allS Z_b20_21 all0)⟩) rfl rfl d19_159 (hw _ (List.mem_of_getElem? (i := 177) rfl)) (hw _ (List.mem_of_getElem? (i := 178) rfl)) (hw _ (List.mem_of_getElem? (i := 106) rfl)) (hw _ (List.mem_of_getElem? (i := 179) rfl)) (by decide) pd__Ljava_util_List_Lcom_example_wireform_wireform_text_FinHeader__V rfl rfl rfl (by show (2 : Nat) + 1 ≤ 7; decide) (by show (1 : Nat) + (3 + 11) + 24 ≤ 3105; decide) (by show (((kb + 0) + (km_nc K 17 pe)) + 6) + 0 ≤ (((kb + 0) + (km_nc K 17 pe)) + 6); omega) (by show (((kb + 0) + (km_nc K 17 pe)) + 6) ≤ 8 + km_scc K 17 p + km_nc K 17 (km_sc K 17 p).1; omega) (by show 100 * (((kb + 0) + (km_nc K 17 pe)) + 6) + 0 ≤ 100 * (((kb + 0) + (km_nc K 17 pe)) + 6); omega) (by show 100 * (((kb + 0) + (km_nc K 17 pe)) + 6) ≤ 100 * (8 + km_scc K 17 p + km_nc K 17 (km_sc K 17 p).1); omega) (pc' := 162) rfl ?_
          rintro _ h22 ⟨rfl, K22⟩ c22
          show RunW l Z own_EL n0 "com/example/wireform/wireform/text/MessageReader" prog_58_method_3_code 6 (some (.object "com/example/wireform/wireform/text/Message")) (⟨"com/example/wireform/wireform/text/MessageReader", "next", "()Lcom/example/wireform/wireform/text/Message;"⟩ : MethodName) ({ frames := 7, cells := (8 + km_scc K 17 p + km_nc K 17 (km_sc K 17 p).1), slots := (100 * (8 + km_scc K 17 p + km_nc K 17 (km_sc K 17 p).1)), locals := 3105 } : Room) _ 162 #[.val (.ref r), .val .null, .val (.int (Int32.ofNat p)), .val (.int (Int32.ofNat e3)), s4, s5] [(.ref b20)] h22 vm21 (((kb + 0) + (km_nc K 17 pe)) + 6) (100 * (((kb + 0) + (km_nc K 17 pe)) + 6))
          have E_r_22 := E_r_21.keep K22
          have E_t_22 := E_t_21.keep K22
          have F_t_value_22 := F_t_value_21.keep K22 (ninS ne_t_b20 nin0)
          have F_t_coder_22 := F_t_coder_21.keep K22 (ninS ne_t_b20 nin0)
          have A_b_22 := A_b_21.keep K22 (ninS ne_b_b20 nin0)
          have F_r_text_22 := F_r_text_21.keep K22 (ninS ne_r_b20 nin0)
          have F_r_fin_22 := F_r_fin_21.keep K22 (ninS ne_r_b20 nin0)
          have F_r_bare_22 := F_r_bare_21.keep K22 (ninS ne_r_b20 nin0)
          have F_r_position_22 := F_r_position_21.keep K22 (ninS ne_r_b20 nin0)
          have E_u12_22 := E_u12_21.keep K22
          have F_u12_value_22 := F_u12_value_21.keep K22 (ninS ne_u12_b20 nin0)
          have F_u12_coder_22 := F_u12_coder_21.keep K22 (ninS ne_u12_b20 nin0)
          have A_d12_22 := A_d12_21.keep K22 (ninS ne_d12_b20 nin0)
          have F_r_opening_22 := F_r_opening_21.keep K22 (ninS ne_r_b20 nin0)
          have E_b20_22 := E_b20_21.keep K22
          have Z_b20_22 := CHr.safe c22 E_b20_21.lt Z_b20_21
          have E_v21_22 := X21.keep K22
          have sz22 : n0 ≤ h22.size := Nat.le_trans sz21 K22.1
          have kp22 := Keep.trans kp21 K22 (allS (Or.inr bo_b20) all0)
          have od22 := od21.keep K22 (allS ge_b20 all0)
          exact RunW.areturn d19_162 (ty := (.object "com/example/wireform/wireform/text/Message")) rfl rfl rfl (by show (((kb + 0) + (km_nc K 17 pe)) + 6) ≤ 8 + km_scc K 17 p + km_nc K 17 (km_sc K 17 p).1; omega) (by show 100 * (((kb + 0) + (km_nc K 17 pe)) + 6) ≤ 100 * (8 + km_scc K 17 p + km_nc K 17 (km_sc K 17 p).1); omega) ⟨_, rfl, b20, rfl, oo12, pp12, by rw [hsc]; exact hno12, kp22, E_r_22, F_r_text_22, F_r_fin_22, F_r_bare_22, F_r_position_22, E_t_22, F_t_value_22, F_t_coder_22, A_b_22, Or.inr ⟨_, _, u12, d12, ho12, F_r_opening_22, E_u12_22, F_u12_value_22, F_u12_coder_22, A_d12_22⟩⟩
      have loop : ∀ (t_ p_ : Nat) (hh : Heap) (vh : Vm) (kb : Nat) (s4 s5 : Slot), cs.length < t_ + p_ → p_ ≤ cs.length + 1 → km_sc K t_ p_ = km_sc K 17 p → kb + km_scc K t_ p_ + 6 + km_nc K 17 (km_sc K 17 p).1 = 8 + km_scc K 17 p + km_nc K 17 (km_sc K 17 p).1 → One s4 → One s5 → n0 ≤ hh.size → Keep h0 hh [r] → Old Z n0 hh → Exa Z hh r "com/example/wireform/wireform/text/MessageReader" → Fld Z hh r "com/example/wireform/wireform/text/MessageReader" "text" "Ljava/lang/String;" (.ref t) → Fld Z hh r "com/example/wireform/wireform/text/MessageReader" "fin" "Z" (.int (1 : Int32)) → Fld Z hh r "com/example/wireform/wireform/text/MessageReader" "bare" "Z" vb → Fld Z hh r "com/example/wireform/wireform/text/MessageReader" "opening" "Ljava/lang/String;" (.ref o) → Fld Z hh r "com/example/wireform/wireform/text/MessageReader" "position" "I" (.int (Int32.ofNat p_)) → Exa Z hh t "java/lang/String" → Fld Z hh t "java/lang/String" "value" "[B" (.ref b) → Fld Z hh t "java/lang/String" "coder" "B" (.int (own_coder cs)) → Ary Z hh b .byte (own_enc cs) → RunW l Z own_EL n0 "com/example/wireform/wireform/text/MessageReader" prog_58_method_3_code 6 (some (.object "com/example/wireform/wireform/text/Message")) (⟨"com/example/wireform/wireform/text/MessageReader", "next", "()Lcom/example/wireform/wireform/text/Message;"⟩ : MethodName) ({ frames := 7, cells := (8 + km_scc K 17 p + km_nc K 17 (km_sc K 17 p).1), slots := (100 * (8 + km_scc K 17 p + km_nc K 17 (km_sc K 17 p).1)), locals := 3105 } : Room) (Val fun w h' => ∃ x, w = .ref x ∧ ∃ o p', km_no K 17 (km_sc K 17 p).1 = (o, p') ∧ Keep h0 h' [r] ∧ Exa Z h' r "com/example/wireform/wireform/text/MessageReader" ∧ Fld Z h' r "com/example/wireform/wireform/text/MessageReader" "text" "Ljava/lang/String;" (.ref t) ∧ Fld Z h' r "com/example/wireform/wireform/text/MessageReader" "fin" "Z" (.int (1 : Int32)) ∧ Fld Z h' r "com/example/wireform/wireform/text/MessageReader" "bare" "Z" vb ∧ Fld Z h' r "com/example/wireform/wireform/text/MessageReader" "position" "I" (.int (Int32.ofNat p')) ∧ Exa Z h' t "java/lang/String" ∧ Fld Z h' t "java/lang/String" "value" "[B" (.ref b) ∧ Fld Z h' t "java/lang/String" "coder" "B" (.int (own_coder cs)) ∧ Ary Z h' b .byte (own_enc cs) ∧ ((o = none ∧ Fld Z h' r "com/example/wireform/wireform/text/MessageReader" "opening" "Ljava/lang/String;" .null) ∨ ∃ s e u d, o = some (s, e) ∧ Fld Z h' r "com/example/wireform/wireform/text/MessageReader" "opening" "Ljava/lang/String;" (.ref u) ∧ Exa Z h' u "java/lang/String" ∧ Fld Z h' u "java/lang/String" "value" "[B" (.ref d) ∧ Fld Z h' u "java/lang/String" "coder" "B" (.int (own_coder (own_sub cs s e))) ∧ Ary Z h' d .byte (own_enc (own_sub cs s e)))) 64 #[.val (.ref r), .val .null, .val (.int (Int32.ofNat p)), .val (.int (Int32.ofNat cs.length)), s4, s5] [] hh vh kb (100 * kb) := by
        intro t_
        induction t_ with
        | zero =>
          intro p_ hh vh kb s4 s5 hfu hpl1 hres hkb h_s4 h_s5 szh kph odh ERh Rh_text Rh_fin Rh_bare Rh_opening Rh_position E1h FVh FCh ABh
          show RunW l Z own_EL n0 "com/example/wireform/wireform/text/MessageReader" prog_58_method_3_code 6 (some (.object "com/example/wireform/wireform/text/Message")) (⟨"com/example/wireform/wireform/text/MessageReader", "next", "()Lcom/example/wireform/wireform/text/Message;"⟩ : MethodName) ({ frames := 7, cells := (8 + km_scc K 17 p + km_nc K 17 (km_sc K 17 p).1), slots := (100 * (8 + km_scc K 17 p + km_nc K 17 (km_sc K 17 p).1)), locals := 3105 } : Room) (Val fun w h' => ∃ x, w = .ref x ∧ ∃ o p', km_no K 17 (km_sc K 17 p).1 = (o, p') ∧ Keep h0 h' [r] ∧ Exa Z h' r "com/example/wireform/wireform/text/MessageReader" ∧ Fld Z h' r "com/example/wireform/wireform/text/MessageReader" "text" "Ljava/lang/String;" (.ref t) ∧ Fld Z h' r "com/example/wireform/wireform/text/MessageReader" "fin" "Z" (.int (1 : Int32)) ∧ Fld Z h' r "com/example/wireform/wireform/text/MessageReader" "bare" "Z" vb ∧ Fld Z h' r "com/example/wireform/wireform/text/MessageReader" "position" "I" (.int (Int32.ofNat p')) ∧ Exa Z h' t "java/lang/String" ∧ Fld Z h' t "java/lang/String" "value" "[B" (.ref b) ∧ Fld Z h' t "java/lang/String" "coder" "B" (.int (own_coder cs)) ∧ Ary Z h' b .byte (own_enc cs) ∧ ((o = none ∧ Fld Z h' r "com/example/wireform/wireform/text/MessageReader" "opening" "Ljava/lang/String;" .null) ∨ ∃ s e u d, o = some (s, e) ∧ Fld Z h' r "com/example/wireform/wireform/text/MessageReader" "opening" "Ljava/lang/String;" (.ref u) ∧ Exa Z h' u "java/lang/String" ∧ Fld Z h' u "java/lang/String" "value" "[B" (.ref d) ∧ Fld Z h' u "java/lang/String" "coder" "B" (.int (own_coder (own_sub cs s e))) ∧ Ary Z h' d .byte (own_enc (own_sub cs s e)))) 64 #[.val (.ref r), .val .null, .val (.int (Int32.ofNat p)), .val (.int (Int32.ofNat cs.length)), s4, s5] [] hh vh (kb + 0) (100 * (kb + 0))
          refine RunW.aloadN d19_64 rfl rfl (pc' := 65) rfl ?_
          refine RunW.getF d19_65 (host := "") (Or.inl (hw _ (List.mem_of_getElem? (i := 200) rfl))) Via.refl Rh_position (pc' := 68) rfl ?_
          refine RunW.aloadN d19_68 rfl rfl (pc' := 69) rfl ?_
          refine RunW.getF d19_69 (host := "") (Or.inl (hw _ (List.mem_of_getElem? (i := 62) rfl))) Via.refl Rh_text (pc' := 72) rfl ?_
          refine RunW.callV (k' := (kb + 0)) (n' := (100 * (kb + 0))) (a := t) (as := []) (rest := [(.int (Int32.ofNat p_))]) (con_len l Z a0 hw n0 hh szh t b cs cz odh SZ hcz E1h FVh FCh ABh (by omega)) (by rintro _ _ ⟨_, -, -, rfl⟩; exact ⟨[], Keep.refl _ _, all0⟩) E1h d19_72 (hw _ (List.mem_of_getElem? (i := 202) rfl)) (hw _ (List.mem_of_getElem? (i := 76) rfl)) (fun s hZ => notFace_of_selects (args := #[]) (mvT hZ (hw _ (List.mem_of_getElem? (i := 78) rfl)))) (hw _ (List.mem_of_getElem? (i := 78) rfl)) (hw _ (List.mem_of_getElem? (i := 77) rfl)) (hw _ (List.mem_of_getElem? (i := 1) rfl)) (hw _ (List.mem_of_getElem? (i := 79) rfl)) (by decide) pd___I rfl rfl rfl (by show (1 : Nat) + 1 ≤ 7; decide) (by show (1 : Nat) + (1 + 11) + 13 ≤ 3105; decide) (by show (kb + 0) + 0 ≤ (kb + 0); omega) (by show (kb + 0) ≤ 8 + km_scc K 17 p + km_nc K 17 (km_sc K 17 p).1; omega) (by show 100 * (kb + 0) + 0 ≤ 100 * (kb + 0); omega) (by show 100 * (kb + 0) ≤ 100 * (8 + km_scc K 17 p + km_nc K 17 (km_sc K 17 p).1); omega) (pc' := 75) rfl ?_
          rintro _ _ ⟨_, rfl, rfl, rfl⟩ -
          show RunW l Z own_EL n0 "com/example/wireform/wireform/text/MessageReader" prog_58_method_3_code 6 (some (.object "com/example/wireform/wireform/text/Message")) (⟨"com/example/wireform/wireform/text/MessageReader", "next", "()Lcom/example/wireform/wireform/text/Message;"⟩ : MethodName) ({ frames := 7, cells := (8 + km_scc K 17 p + km_nc K 17 (km_sc K 17 p).1), slots := (100 * (8 + km_scc K 17 p + km_nc K 17 (km_sc K 17 p).1)), locals := 3105 } : Room) _ 75 #[.val (.ref r), .val .null, .val (.int (Int32.ofNat p)), .val (.int (Int32.ofNat cs.length)), s4, s5] [(.int (Int32.ofNat cs.length)), (.int (Int32.ofNat p_))] hh vh (kb + 0) (100 * (kb + 0))
          refine RunW.icmp_ge d19_75 (by decide) (pc' := 137) (by decide) (pa := 78) rfl (fun hc75 => ?_) (fun hc75 => ?_)
          · have hcst := km_s9 (K := K) (t := 0) (p := p_) (fun z => hc75 ((own_lt (by omega) (by omega)).mpr (by omega)))
            exact rest cs.length p_ hh vh (kb + 0) _ _ (by omega) (by omega) (by rw [← hres]; exact congrArg Prod.fst hcst.1) (by have hz := congrArg Prod.fst hcst.1; rw [hres] at hz; simp only [] at hz; rw [hz] at hkb ⊢; have := hcst.2; omega) h_s4 h_s5 szh kph odh ERh Rh_text Rh_fin Rh_bare Rh_opening Rh_position E1h FVh FCh ABh
          · exact absurd ((own_lt (by omega) (by omega)).mp hc75) (by omega)
        | succ t_ ih =>
          intro p_ hh vh kb s4 s5 hfu hpl1 hres hkb h_s4 h_s5 szh kph odh ERh Rh_text Rh_fin Rh_bare Rh_opening Rh_position E1h FVh FCh ABh
          show RunW l Z own_EL n0 "com/example/wireform/wireform/text/MessageReader" prog_58_method_3_code 6 (some (.object "com/example/wireform/wireform/text/Message")) (⟨"com/example/wireform/wireform/text/MessageReader", "next", "()Lcom/example/wireform/wireform/text/Message;"⟩ : MethodName) ({ frames := 7, cells := (8 + km_scc K 17 p + km_nc K 17 (km_sc K 17 p).1), slots := (100 * (8 + km_scc K 17 p + km_nc K 17 (km_sc K 17 p).1)), locals := 3105 } : Room) (Val fun w h' => ∃ x, w = .ref x ∧ ∃ o p', km_no K 17 (km_sc K 17 p).1 = (o, p') ∧ Keep h0 h' [r] ∧ Exa Z h' r "com/example/wireform/wireform/text/MessageReader" ∧ Fld Z h' r "com/example/wireform/wireform/text/MessageReader" "text" "Ljava/lang/String;" (.ref t) ∧ Fld Z h' r "com/example/wireform/wireform/text/MessageReader" "fin" "Z" (.int (1 : Int32)) ∧ Fld Z h' r "com/example/wireform/wireform/text/MessageReader" "bare" "Z" vb ∧ Fld Z h' r "com/example/wireform/wireform/text/MessageReader" "position" "I" (.int (Int32.ofNat p')) ∧ Exa Z h' t "java/lang/String" ∧ Fld Z h' t "java/lang/String" "value" "[B" (.ref b) ∧ Fld Z h' t "java/lang/String" "coder" "B" (.int (own_coder cs)) ∧ Ary Z h' b .byte (own_enc cs) ∧ ((o = none ∧ Fld Z h' r "com/example/wireform/wireform/text/MessageReader" "opening" "Ljava/lang/String;" .null) ∨ ∃ s e u d, o = some (s, e) ∧ Fld Z h' r "com/example/wireform/wireform/text/MessageReader" "opening" "Ljava/lang/String;" (.ref u) ∧ Exa Z h' u "java/lang/String" ∧ Fld Z h' u "java/lang/String" "value" "[B" (.ref d) ∧ Fld Z h' u "java/lang/String" "coder" "B" (.int (own_coder (own_sub cs s e))) ∧ Ary Z h' d .byte (own_enc (own_sub cs s e)))) 64 #[.val (.ref r), .val .null, .val (.int (Int32.ofNat p)), .val (.int (Int32.ofNat cs.length)), s4, s5] [] hh vh (kb + 0) (100 * (kb + 0))
          refine RunW.aloadN d19_64 rfl rfl (pc' := 65) rfl ?_
          refine RunW.getF d19_65 (host := "") (Or.inl (hw _ (List.mem_of_getElem? (i := 200) rfl))) Via.refl Rh_position (pc' := 68) rfl ?_
          refine RunW.aloadN d19_68 rfl rfl (pc' := 69) rfl ?_
          refine RunW.getF d19_69 (host := "") (Or.inl (hw _ (List.mem_of_getElem? (i := 62) rfl))) Via.refl Rh_text (pc' := 72) rfl ?_
          refine RunW.callV (k' := (kb + 0)) (n' := (100 * (kb + 0))) (a := t) (as := []) (rest := [(.int (Int32.ofNat p_))]) (con_len l Z a0 hw n0 hh szh t b cs cz odh SZ hcz E1h FVh FCh ABh (by omega)) (by rintro _ _ ⟨_, -, -, rfl⟩; exact ⟨[], Keep.refl _ _, all0⟩) E1h d19_72 (hw _ (List.mem_of_getElem? (i := 202) rfl)) (hw _ (List.mem_of_getElem? (i := 76) rfl)) (fun s hZ => notFace_of_selects (args := #[]) (mvT hZ (hw _ (List.mem_of_getElem? (i := 78) rfl)))) (hw _ (List.mem_of_getElem? (i := 78) rfl)) (hw _ (List.mem_of_getElem? (i := 77) rfl)) (hw _ (List.mem_of_getElem? (i := 1) rfl)) (hw _ (List.mem_of_getElem? (i := 79) rfl)) (by decide) pd___I rfl rfl rfl (by show (1 : Nat) + 1 ≤ 7; decide) (by show (1 : Nat) + (1 + 11) + 13 ≤ 3105; decide) (by show (kb + 0) + 0 ≤ (kb + 0); omega) (by show (kb + 0) ≤ 8 + km_scc K 17 p + km_nc K 17 (km_sc K 17 p).1; omega) (by show 100 * (kb + 0) + 0 ≤ 100 * (kb + 0); omega) (by show 100 * (kb + 0) ≤ 100 * (8 + km_scc K 17 p + km_nc K 17 (km_sc K 17 p).1); omega) (pc' := 75) rfl ?_
          rintro _ _ ⟨_, rfl, rfl, rfl⟩ -
          show RunW l Z own_EL n0 "com/example/wireform/wireform/text/MessageReader" prog_58_method_3_code 6 (some (.object "com/example/wireform/wireform/text/Message")) (⟨"com/example/wireform/wireform/text/MessageReader", "next", "()Lcom/example/wireform/wireform/text/Message;"⟩ : MethodName) ({ frames := 7, cells := (8 + km_scc K 17 p + km_nc K 17 (km_sc K 17 p).1), slots := (100 * (8 + km_scc K 17 p + km_nc K 17 (km_sc K 17 p).1)), locals := 3105 } : Room) _ 75 #[.val (.ref r), .val .null, .val (.int (Int32.ofNat p)), .val (.int (Int32.ofNat cs.length)), s4, s5] [(.int (Int32.ofNat cs.length)), (.int (Int32.ofNat p_))] hh vh (kb + 0) (100 * (kb + 0))
          refine RunW.icmp_ge d19_75 (by decide) (pc' := 137) (by decide) (pa := 78) rfl (fun hc75 => ?_) (fun hc75 => ?_)
          · have hcst := km_s9 (K := K) (t := t_ + 1) (p := p_) (fun z => hc75 ((own_lt (by omega) (by omega)).mpr (by omega)))
            exact rest cs.length p_ hh vh (kb + 0) _ _ (by omega) (by omega) (by rw [← hres]; exact congrArg Prod.fst hcst.1) (by have hz := congrArg Prod.fst hcst.1; rw [hres] at hz; simp only [] at hz; rw [hz] at hkb ⊢; have := hcst.2; omega) h_s4 h_s5 szh kph odh ERh Rh_text Rh_fin Rh_bare Rh_opening Rh_position E1h FVh FCh ABh
          · have hpl_ : p_ < cs.length := (own_lt (by omega) (by omega)).mp hc75
            have hpK : p_ < K.length := by omega
            have hbd := km_le_bd (K := K) (p := p_) (by omega)
            have hge := km_sge (t := t_) hpK
            refine RunW.aloadN d19_78 rfl rfl (pc' := 79) rfl ?_
            refine RunW.getF d19_79 (host := "") (Or.inl (hw _ (List.mem_of_getElem? (i := 200) rfl))) Via.refl Rh_position (pc' := 82) rfl ?_
            refine RunW.istore (l' := #[.val (.ref r), .val .null, .val (.int (Int32.ofNat p)), .val (.int (Int32.ofNat cs.length)), .val (.int (Int32.ofNat p_)), s5]) d19_82 (XS.store1 rfl h_s4 rfl) (pc' := 84) rfl ?_
            refine RunW.aloadN d19_84 rfl rfl (pc' := 85) rfl ?_
            refine RunW.getF d19_85 (host := "") (Or.inl (hw _ (List.mem_of_getElem? (i := 62) rfl))) Via.refl Rh_text (pc' := 88) rfl ?_
            refine RunW.iload d19_88 rfl (pc' := 90) rfl ?_
            refine RunW.callS (k' := (kb + 0)) (n' := (100 * (kb + 0))) (as := [(.ref t), (.int (Int32.ofNat p_))]) (rest := []) (con_lnd l Z a0 hw n0 hh szh t b cs K p_ cz odh SZ hcz E1h FVh FCh ABh hp hn hch hK (by omega) ) (by rintro _ _ ⟨_, -, -, rfl⟩; exact ⟨[], Keep.refl _ _, all0⟩) d19_90 (hw _ (List.mem_of_getElem? (i := 203) rfl)) (hw _ (List.mem_of_getElem? (i := 122) rfl)) (hw _ (List.mem_of_getElem? (i := 109) rfl)) (hw _ (List.mem_of_getElem? (i := 123) rfl)) (by decide) pd__Ljava_lang_String_I_I rfl rfl rfl (by show (3 : Nat) + 1 ≤ 7; decide) (by show (0 : Nat) + (3 + 11) + 46 ≤ 3105; decide) (by show (kb + 0) + 0 ≤ (kb + 0); omega) (by show (kb + 0) ≤ 8 + km_scc K 17 p + km_nc K 17 (km_sc K 17 p).1; omega) (by show 100 * (kb + 0) + 0 ≤ 100 * (kb + 0); omega) (by show 100 * (kb + 0) ≤ 100 * (8 + km_scc K 17 p + km_nc K 17 (km_sc K 17 p).1); omega) (pc' := 93) rfl ?_
            rintro _ _ ⟨_, rfl, rfl, rfl⟩ -
            show RunW l Z own_EL n0 "com/example/wireform/wireform/text/MessageReader" prog_58_method_3_code 6 (some (.object "com/example/wireform/wireform/text/Message")) (⟨"com/example/wireform/wireform/text/MessageReader", "next", "()Lcom/example/wireform/wireform/text/Message;"⟩ : MethodName) ({ frames := 7, cells := (8 + km_scc K 17 p + km_nc K 17 (km_sc K 17 p).1), slots := (100 * (8 + km_scc K 17 p + km_nc K 17 (km_sc K 17 p).1)), locals := 3105 } : Room) _ 93 #[.val (.ref r), .val .null, .val (.int (Int32.ofNat p)), .val (.int (Int32.ofNat cs.length)), .val (.int (Int32.ofNat p_)), s5] [(.int (Int32.ofNat (km_le K p_)))] hh vh (kb + 0) (100 * (kb + 0))
            refine RunW.istore (l' := #[.val (.ref r), .val .null, .val (.int (Int32.ofNat p)), .val (.int (Int32.ofNat cs.length)), .val (.int (Int32.ofNat p_)), .val (.int (Int32.ofNat (km_le K p_)))]) d19_93 (XS.store1 rfl h_s5 rfl) (pc' := 95) rfl ?_
            refine RunW.aloadN d19_95 rfl rfl (pc' := 96) rfl ?_
            refine RunW.iload d19_96 rfl (pc' := 98) rfl ?_
            refine RunW.iconst (1 : Int32) d19_98 (by decide) (pc' := 99) rfl ?_
            refine RunW.iadd d19_99 (pc' := 100) rfl ?_
            rw [own_inc]
            refine RunW.alike fun al24 => ?_
            refine RunW.putF d19_100 (host := "") (Or.inl (hw _ (List.mem_of_getElem? (i := 200) rfl))) Via.refl Rh_position ERh (Or.inl (hw _ (List.mem_of_getElem? (i := 201) rfl))) (hw _ (List.mem_of_getElem? (i := 56) rfl)) (ty := .int) (by decide) rfl rfl gr (Safe.exa al24 ERh (by decide) (by decide)) (pc' := 103) rfl ?_
            intro h23 W23 c23
            have Fw23 := Rh_position.same W23
            have E_r_23 := ERh.wr W23
            have F_r_text_23 := Rh_text.other W23 (Or.inr (slot_ne (Or.inr (hw _ (List.mem_of_getElem? (i := 63) rfl))) (Or.inl (hw _ (List.mem_of_getElem? (i := 201) rfl))) (by decide) (t := (.object "java/lang/String")) (t' := .int) (by decide) (by decide)))
            have F_r_fin_23 := Rh_fin.other W23 (Or.inr (slot_ne (Or.inr (hw _ (List.mem_of_getElem? (i := 90) rfl))) (Or.inl (hw _ (List.mem_of_getElem? (i := 201) rfl))) (by decide) (t := .boolean) (t' := .int) (by decide) (by decide)))
            have F_r_bare_23 := Rh_bare.other W23 (Or.inr (slot_ne (Or.inl (hw _ (List.mem_of_getElem? (i := 92) rfl))) (Or.inl (hw _ (List.mem_of_getElem? (i := 201) rfl))) (by decide) (t := .boolean) (t' := .int) (by decide) (by decide)))
            have F_r_opening_23 := Rh_opening.other W23 (Or.inr (slot_ne (Or.inl (hw _ (List.mem_of_getElem? (i := 257) rfl))) (Or.inl (hw _ (List.mem_of_getElem? (i := 201) rfl))) (by decide) (t := (.object "java/lang/String")) (t' := .int) (by decide) (by decide)))
            have E_t_23 := E1h.wr W23
            have F_t_value_23 := FVh.other W23 (Or.inl htr)
            have F_t_coder_23 := FCh.other W23 (Or.inl htr)
            have A_b_23 := ABh.other W23 hbr
            have sz23 : n0 ≤ h23.size := by rw [W23.size]; exact szh
            have kp23 := Keep.wr kph W23 (Or.inl (List.mem_of_getElem? (i := 0) rfl))
            have od23 := odh.wr W23 gr
            refine RunW.aloadN d19_103 rfl rfl (pc' := 104) rfl ?_
            refine RunW.getF d19_104 (host := "") (Or.inl (hw _ (List.mem_of_getElem? (i := 62) rfl))) Via.refl F_r_text_23 (pc' := 107) rfl ?_
            refine RunW.ldcT (len := 8) (z := (2 : Int32)) (bs := [(.int (45 : Int32)), (.int (125 : Int32))]) (k' := (kb + 2)) (n' := (100 * (kb + 2))) d19_107 (hw _ (List.mem_of_getElem? (i := 264) rfl)) (own_wS hw) (own_EW hw) (List.mem_of_getElem? (i := 6) rfl) (by decide) (by decide) (by decide) (by decide) (by show (kb + 0) + 2 ≤ (kb + 2); omega) (by show (kb + 2) ≤ 8 + km_scc K 17 p + km_nc K 17 (km_sc K 17 p).1; omega) (by show 100 * (kb + 0) + 12 ≤ 100 * (kb + 2); omega) (by show 100 * (kb + 2) ≤ 100 * (8 + km_scc K 17 p + km_nc K 17 (km_sc K 17 p).1); omega) (pc' := 109) rfl ?_
            intro h25 vm25 a25 b25 E25 c25 X25 FC25 FV25 A25 ns25
            have E_r_25 := E_r_23.ext E25
            have F_r_text_25 := F_r_text_23.ext E25
            have F_r_fin_25 := F_r_fin_23.ext E25
            have F_r_bare_25 := F_r_bare_23.ext E25
            have F_r_opening_25 := F_r_opening_23.ext E25
            have E_t_25 := E_t_23.ext E25
            have F_t_value_25 := F_t_value_23.ext E25
            have F_t_coder_25 := F_t_coder_23.ext E25
            have A_b_25 := A_b_23.ext E25
            have F_r_position_25 := Fw23.ext E25
            have sz25 : n0 ≤ h25.size := Nat.le_trans sz23 E25.1
            have kp25 := Keep.ext kp23 E25
            have od25 := od23.ext E25
            have FCl26 : Fld Z h25 a25 "java/lang/String" "coder" "B" (.int (own_coder [(45 : Int32), (125 : Int32)])) := by rw [own_m1c]; exact FC25
            have ABl26 : Ary Z h25 b25 .byte (own_enc [(45 : Int32), (125 : Int32)]) := by rw [own_m1e]; exact A25
            refine RunW.iload d19_109 rfl (pc' := 111) rfl ?_
            refine RunW.callV (k' := (kb + 2)) (n' := (100 * (kb + 2))) (a := t) (as := [(.ref a25), (.int (Int32.ofNat p_))]) (rest := []) (con_swi l Z a0 hw n0 h25 sz25 t b a25 b25 cs [(45 : Int32), (125 : Int32)] p_ cz od25 SZ hcz E_t_25 F_t_value_25 F_t_coder_25 A_b_25 X25 FV25 FCl26 ABl26 (by omega) (by decide) (by omega) hp hch own_m1p own_m1q) (by rintro _ _ ⟨_, -, -, rfl⟩; exact ⟨[], Keep.refl _ _, all0⟩) E_t_25 d19_111 (hw _ (List.mem_of_getElem? (i := 265) rfl)) (hw _ (List.mem_of_getElem? (i := 71) rfl)) (fun s hZ => notFace_of_selects (args := #[]) (mvT hZ (hw _ (List.mem_of_getElem? (i := 73) rfl)))) (hw _ (List.mem_of_getElem? (i := 73) rfl)) (hw _ (List.mem_of_getElem? (i := 72) rfl)) (hw _ (List.mem_of_getElem? (i := 1) rfl)) (hw _ (List.mem_of_getElem? (i := 74) rfl)) (by decide) pd__Ljava_lang_String_I_Z rfl rfl rfl (by show (2 : Nat) + 1 ≤ 7; decide) (by show (0 : Nat) + (8 + 11) + 27 ≤ 3105; decide) (by show (kb + 2) + 0 ≤ (kb + 2); omega) (by show (kb + 2) ≤ 8 + km_scc K 17 p + km_nc K 17 (km_sc K 17 p).1; omega) (by show 100 * (kb + 2) + 0 ≤ 100 * (kb + 2); omega) (by show 100 * (kb + 2) ≤ 100 * (8 + km_scc K 17 p + km_nc K 17 (km_sc K 17 p).1); omega) (pc' := 114) rfl ?_
            rintro _ _ ⟨_, rfl, rfl, rfl⟩ -
            show RunW l Z own_EL n0 "com/example/wireform/wireform/text/MessageReader" prog_58_method_3_code 6 (some (.object "com/example/wireform/wireform/text/Message")) (⟨"com/example/wireform/wireform/text/MessageReader", "next", "()Lcom/example/wireform/wireform/text/Message;"⟩ : MethodName) ({ frames := 7, cells := (8 + km_scc K 17 p + km_nc K 17 (km_sc K 17 p).1), slots := (100 * (8 + km_scc K 17 p + km_nc K 17 (km_sc K 17 p).1)), locals := 3105 } : Room) _ 114 #[.val (.ref r), .val .null, .val (.int (Int32.ofNat p)), .val (.int (Int32.ofNat cs.length)), .val (.int (Int32.ofNat p_)), .val (.int (Int32.ofNat (km_le K p_)))] [(.int (own_sw cs [(45 : Int32), (125 : Int32)] p_))] h25 vm25 (kb + 2) (100 * (kb + 2))
            refine RunW.if_ne d19_114 (by decide) (pc' := 128) (by decide) (pa := 117) rfl (fun hc114 => ?_) (fun hc114 => ?_)
            · refine RunW.iload d19_128 rfl (pc' := 130) rfl ?_
              refine RunW.istoreN (l' := #[.val (.ref r), .val .null, .val (.int (Int32.ofNat p)), .val (.int (Int32.ofNat p_)), .val (.int (Int32.ofNat p_)), .val (.int (Int32.ofNat (km_le K p_)))]) d19_130 rfl (pc' := 131) rfl ?_
              refine RunW.goto d19_131 (by decide) (pc' := 137) (by decide) ?_
              have hcst := km_s0 (t := t_) hpK (own_sw2T hK hpl_ hc114)
              exact rest p_ (km_le K p_ + 1) h25 vm25 (kb + 2) _ _ (by omega) (by omega) (by rw [← hres]; exact congrArg Prod.fst hcst.2) (by have hz := congrArg Prod.fst hcst.2; rw [hres] at hz; simp only [] at hz; rw [hz] at hkb ⊢; have := hcst.1; omega) (Or.inr ⟨_, rfl, rfl⟩) (Or.inr ⟨_, rfl, rfl⟩) sz25 kp25 od25 E_r_25 F_r_text_25 F_r_fin_25 F_r_bare_25 F_r_opening_25 F_r_position_25 E_t_25 F_t_value_25 F_t_coder_25 A_b_25
            · have hge2 := hge.2 (own_sw2F hK hpl_ hc114)
              refine RunW.aloadN d19_117 rfl rfl (pc' := 118) rfl ?_
              refine RunW.iload d19_118 rfl (pc' := 120) rfl ?_
              refine RunW.iload d19_120 rfl (pc' := 122) rfl ?_
              refine RunW.callVW (k' := ((kb + 2) + (km_spc K p_))) (n' := (100 * ((kb + 2) + (km_spc K p_)))) (a := r) (as := [(.int (Int32.ofNat p_)), (.int (Int32.ofNat (km_le K p_)))]) (rest := []) (con_sep l Z a0 hw n0 h25 sz25 r t b cs K p_ (km_le K p_) fm cz od25 SF hfm SZ hcz E_t_25 F_t_value_25 F_t_coder_25 A_b_25 hp hn hch hK F_r_text_25 hpl_ hbd.1 (by omega)) all0 (own_EW hw) E_r_25 d19_122 (hw _ (List.mem_of_getElem? (i := 266) rfl)) (own_decl (hw _ (List.mem_of_getElem? (i := 267) rfl)) (hw _ (List.mem_of_getElem? (i := 269) rfl))) (fun s hZ => notFace_of_selects (args := #[]) (mvT hZ (own_selp (by decide) (hw _ (List.mem_of_getElem? (i := 56) rfl)) (hw _ (List.mem_of_getElem? (i := 268) rfl)) (hw _ (List.mem_of_getElem? (i := 267) rfl))))) (own_selp (by decide) (hw _ (List.mem_of_getElem? (i := 56) rfl)) (hw _ (List.mem_of_getElem? (i := 268) rfl)) (hw _ (List.mem_of_getElem? (i := 267) rfl))) (hw _ (List.mem_of_getElem? (i := 267) rfl)) (hw _ (List.mem_of_getElem? (i := 57) rfl)) (hw _ (List.mem_of_getElem? (i := 269) rfl)) (by decide) pd__II_Z rfl rfl rfl (by show (6 : Nat) + 1 ≤ 7; decide) (by show (0 : Nat) + (3 + 11) + 107 ≤ 3105; decide) (by show (kb + 2) + (km_spc K p_) ≤ ((kb + 2) + (km_spc K p_)); omega) (by show ((kb + 2) + (km_spc K p_)) ≤ 8 + km_scc K 17 p + km_nc K 17 (km_sc K 17 p).1; omega) (by show 100 * (kb + 2) + (100 * (km_spc K p_)) ≤ 100 * ((kb + 2) + (km_spc K p_)); omega) (by show 100 * ((kb + 2) + (km_spc K p_)) ≤ 100 * (8 + km_scc K 17 p + km_nc K 17 (km_sc K 17 p).1); omega) (pc' := 125) rfl ?_
              rintro _ h27 vm27 ⟨_, rfl, ⟨rfl, E27⟩⟩ c27
              show RunW l Z own_EL n0 "com/example/wireform/wireform/text/MessageReader" prog_58_method_3_code 6 (some (.object "com/example/wireform/wireform/text/Message")) (⟨"com/example/wireform/wireform/text/MessageReader", "next", "()Lcom/example/wireform/wireform/text/Message;"⟩ : MethodName) ({ frames := 7, cells := (8 + km_scc K 17 p + km_nc K 17 (km_sc K 17 p).1), slots := (100 * (8 + km_scc K 17 p + km_nc K 17 (km_sc K 17 p).1)), locals := 3105 } : Room) _ 125 #[.val (.ref r), .val .null, .val (.int (Int32.ofNat p)), .val (.int (Int32.ofNat cs.length)), .val (.int (Int32.ofNat p_)), .val (.int (Int32.ofNat (km_le K p_)))] [(.int (if K.getD p_ 9 = 2 ∧ km_e K p_ (km_le K p_) = p_ + 1 then (1 : Int32) else 0))] h27 vm27 ((kb + 2) + (km_spc K p_)) (100 * ((kb + 2) + (km_spc K p_)))
              have E_r_27 := E_r_25.ext E27
              have F_r_text_27 := F_r_text_25.ext E27
              have F_r_fin_27 := F_r_fin_25.ext E27
              have F_r_bare_27 := F_r_bare_25.ext E27
              have F_r_opening_27 := F_r_opening_25.ext E27
              have E_t_27 := E_t_25.ext E27
              have F_t_value_27 := F_t_value_25.ext E27
              have F_t_coder_27 := F_t_coder_25.ext E27
              have A_b_27 := A_b_25.ext E27
              have F_r_position_27 := F_r_position_25.ext E27
              have E_a25_27 := X25.ext E27
              have F_a25_coder_27 := FCl26.ext E27
              have F_a25_value_27 := FV25.ext E27
              have A_b25_27 := ABl26.ext E27
              have sz27 : n0 ≤ h27.size := Nat.le_trans sz25 E27.1
              have kp27 := Keep.ext kp25 E27
              have od27 := od25.ext E27
              refine RunW.if_eq d19_125 (by decide) (pc' := 134) (by decide) (pa := 128) rfl (fun hc125 => ?_) (fun hc125 => ?_)
              · refine RunW.goto d19_134 (by decide) (pc' := 64) (by decide) ?_
                have hcst := km_s2 (t := t_) hpK (own_sw2F hK hpl_ hc114) (own_ite0 hc125)
                exact ih (km_le K p_ + 1) h27 vm27 (((kb + 2) + (km_spc K p_)) + 0) _ _ (by omega) (by omega) (by rw [← hres]; exact hcst.2.symm) (by have := hcst.1; omega) (Or.inr ⟨_, rfl, rfl⟩) (Or.inr ⟨_, rfl, rfl⟩) sz27 kp27 od27 E_r_27 F_r_text_27 F_r_fin_27 F_r_bare_27 F_r_opening_27 F_r_position_27 E_t_27 F_t_value_27 F_t_coder_27 A_b_27
              · refine RunW.iload d19_128 rfl (pc' := 130) rfl ?_
                refine RunW.istoreN (l' := #[.val (.ref r), .val .null, .val (.int (Int32.ofNat p)), .val (.int (Int32.ofNat p_)), .val (.int (Int32.ofNat p_)), .val (.int (Int32.ofNat (km_le K p_)))]) d19_130 rfl (pc' := 131) rfl ?_
                refine RunW.goto d19_131 (by decide) (pc' := 137) (by decide) ?_
                have hcst := km_s1 (t := t_) hpK (own_sw2F hK hpl_ hc114) (own_ite1 hc125)
                exact rest p_ (km_le K p_ + 1) h27 vm27 (((kb + 2) + (km_spc K p_)) + 0) _ _ (by omega) (by omega) (by rw [← hres]; exact congrArg Prod.fst hcst.2) (by have hz := congrArg Prod.fst hcst.2; rw [hres] at hz; simp only [] at hz; rw [hz] at hkb ⊢; have := hcst.1; omega) (Or.inr ⟨_, rfl, rfl⟩) (Or.inr ⟨_, rfl, rfl⟩) sz27 kp27 od27 E_r_27 F_r_text_27 F_r_fin_27 F_r_bare_27 F_r_opening_27 F_r_position_27 E_t_27 F_t_value_27 F_t_coder_27 A_b_27
      exact loop 17 p h11 vm11 (0 + 2) .unset .unset (by omega) hpl rfl (by omega) (Or.inl rfl) (Or.inl rfl) sz11 kp11 od11 E_r_11 F_r_text_11 F_r_fin_11 F_r_bare_11 F_r_opening_11 F_r_position_11 E_t_11 F_t_value_11 F_t_coder_11 A_b_11
    · exact absurd hc19 (by decide)
  · exact absurd hc4 (by decide)
theorem pd__Ljava_lang_String__Ljava_util_List_ : parseMethodDescriptor "(Ljava/lang/String;)Ljava/util/List;" = some ⟨[(.object "java/lang/String")], some (.object "java/util/List")⟩ := by decide +kernel
theorem ef_con_nxb (m : MethodId) (r t b : Addr) (cs : List Int32) (K : List Nat) (fm : Value) (cz : Int32)  : entryFrame m #[(.ref r)] 6 = mkF m 0 #[.val (.ref r), .unset, .unset, .unset, .unset, .unset] [] := by first | (simp [entryFrame, mkF, argsToLocals, Value.category]; done) | rfl
set_option maxRecDepth 65536 in
set_option maxHeartbeats 40000000 in
theorem con_nxb (l : Launch) (Z : State) (a0 : Array Value) (hw : ∀ d ∈ tables_1, d.before a0 Z = true) (n0 : Nat) (h0 : Heap) (Z0 : n0 ≤ h0.size) (r t b : Addr) (cs : List Int32) (K : List Nat) (fm : Value) (cz : Int32) (od0 : Old Z n0 h0) (SF : Sta Z Z.heap "jdk/internal/util/Preconditions" "SIOOBE_FORMATTER" "Ljava/util/function/BiFunction;" fm) (hfm : fm.isRef = true) (SZ : Sta Z Z.heap "java/lang/String" "COMPACT_STRINGS" "Z" (.int cz)) (hcz : ¬ cz = 0) (E1 : Exa Z h0 t "java/lang/String") (FV : Fld Z h0 t "java/lang/String" "value" "[B" (.ref b)) (FC : Fld Z h0 t "java/lang/String" "coder" "B" (.int (own_coder cs))) (AB : Ary Z h0 b .byte (own_enc cs)) (hp : own_pfx cs = cs.length) (hn : cs.length ≤ 15) (hch : own_chr cs) (hK : own_rel cs K) (ER : Exa Z h0 r "com/example/wireform/wireform/text/MessageReader") (gr : n0 ≤ r) (R_text : Fld Z h0 r "com/example/wireform/wireform/text/MessageReader" "text" "Ljava/lang/String;" (.ref t)) (R_fin : Fld Z h0 r "com/example/wireform/wireform/text/MessageReader" "fin" "Z" (.int (0 : Int32))) (R_bare : Fld Z h0 r "com/example/wireform/wireform/text/MessageReader" "bare" "Z" (.int (1 : Int32))) (htr : t ≠ r) (hbr : b ≠ r) :
    ConW l Z own_EL n0 (⟨"com/example/wireform/wireform/text/MessageReader", "next", "()Lcom/example/wireform/wireform/text/Message;"⟩ : MethodName) prog_58_method_3_code 6 (some (.object "com/example/wireform/wireform/text/Message")) ({ frames := 6, cells := 8, slots := 67, locals := 3117 } : Room) #[(.ref r)] h0 [] (Val fun w h' => ∃ x, w = .ref x ∧ Keep h0 h' [r] ∧ Exa Z h' r "com/example/wireform/wireform/text/MessageReader" ∧ Fld Z h' r "com/example/wireform/wireform/text/MessageReader" "fin" "Z" (.int (0 : Int32)) ∧ Fld Z h' r "com/example/wireform/wireform/text/MessageReader" "bare" "Z" (.int (0 : Int32))) := by
  refine ConW.of_run (own_EW hw) pn_19 (fun m => ef_con_nxb m r t b cs K fm cz ) ?_
  intro vm hal hsf
  refine RunW.aloadN d19_0 rfl rfl (pc' := 1) rfl ?_
  refine RunW.callV (k' := 0) (n' := 0) (a := r) (as := []) (rest := []) (con_hnb l Z a0 hw n0 h0 Z0 r (1 : Int32) R_fin R_bare rfl ) (by rintro _ _ ⟨_, -, -, rfl⟩; exact ⟨[], Keep.refl _ _, all0⟩) ER d19_1 (hw _ (List.mem_of_getElem? (i := 103) rfl)) (hw _ (List.mem_of_getElem? (i := 94) rfl)) (fun s hZ => notFace_of_selects (args := #[]) (mvT hZ (hw _ (List.mem_of_getElem? (i := 96) rfl)))) (hw _ (List.mem_of_getElem? (i := 96) rfl)) (hw _ (List.mem_of_getElem? (i := 95) rfl)) (hw _ (List.mem_of_getElem? (i := 57) rfl)) (hw _ (List.mem_of_getElem? (i := 97) rfl)) (by decide) pd___Z rfl rfl rfl (by decide) (by show (0 : Nat) + (1 + 11) + 0 ≤ _; decide) (by decide) (by decide) (by decide) (by decide) (pc' := 4) rfl ?_
  rintro _ _ ⟨_, rfl, rfl, rfl⟩ -
  show RunW l Z own_EL n0 "com/example/wireform/wireform/text/MessageReader" prog_58_method_3_code 6 (some (.object "com/example/wireform/wireform/text/Message")) (⟨"com/example/wireform/wireform/text/MessageReader", "next", "()Lcom/example/wireform/wireform/text/Message;"⟩ : MethodName) ({ frames := 6, cells := 8, slots := 67, locals := 3117 } : Room) _ 4 #[.val (.ref r), .unset, .unset, .unset, .unset, .unset] [(.int (1 : Int32))] h0 vm 0 0
  refine RunW.if_ne d19_4 (by decide) (pc' := 15) (by decide) (pa := 7) rfl (fun hc4 => ?_) (fun hc4 => ?_)
  · refine RunW.aloadN d19_15 rfl rfl (pc' := 16) rfl ?_
    refine RunW.getF d19_16 (host := "") (Or.inl (hw _ (List.mem_of_getElem? (i := 89) rfl))) Via.refl R_fin (pc' := 19) rfl ?_
    refine RunW.if_ne d19_19 (by decide) (pc' := 43) (by decide) (pa := 22) rfl (fun hc19 => ?_) (fun hc19 => ?_)
    · exact absurd hc19 (by decide)
    · refine RunW.aloadN d19_22 rfl rfl (pc' := 23) rfl ?_
      refine RunW.iconst (0 : Int32) d19_23 (by decide) (pc' := 24) rfl ?_
      refine RunW.putFN d19_24 (hw _ (List.mem_of_getElem? (i := 91) rfl)) Via.refl R_bare ER (Or.inl (hw _ (List.mem_of_getElem? (i := 92) rfl))) (hw _ (List.mem_of_getElem? (i := 56) rfl)) (ty := .boolean) (v' := (.int (0 : Int32))) (by decide) rfl rfl gr (Safe.exa hal ER (by decide) (by decide)) (pc' := 27) rfl ?_
      intro h11 W11 c11
      have Fw11 := R_bare.same W11
      have E_t_11 := E1.wr W11
      have F_t_value_11 := FV.other W11 (Or.inl htr)
      have F_t_coder_11 := FC.other W11 (Or.inl htr)
      have A_b_11 := AB.other W11 hbr
      have E_r_11 := ER.wr W11
      have F_r_text_11 := R_text.other W11 (Or.inr (slot_ne (Or.inr (hw _ (List.mem_of_getElem? (i := 63) rfl))) (Or.inl (hw _ (List.mem_of_getElem? (i := 92) rfl))) (by decide) (t := (.object "java/lang/String")) (t' := .boolean) (by decide) (by decide)))
      have F_r_fin_11 := R_fin.other W11 (Or.inr (slot_ne (Or.inr (hw _ (List.mem_of_getElem? (i := 90) rfl))) (Or.inl (hw _ (List.mem_of_getElem? (i := 92) rfl))) (by decide) (t := .boolean) (t' := .boolean) (by decide) (by decide)))
      have sz11 : n0 ≤ h11.size := by rw [W11.size]; exact Z0
      have kp11 := Keep.wr (Keep.refl h0 [r]) W11 (Or.inl (List.mem_of_getElem? (i := 0) rfl))
      have od11 := od0.wr W11 gr
      refine RunW.newO (k' := 1) (n' := 2) d19_27 (hw _ (List.mem_of_getElem? (i := 104) rfl)) (hw _ (List.mem_of_getElem? (i := 105) rfl)) (hw _ (List.mem_of_getElem? (i := 106) rfl)) (by decide) (by decide) (by decide) (by decide) (pc' := 30) rfl ?_
      intro h12 b12 g12 E12 X12 D12 c12 sf12
      have ge_b12 : n0 ≤ b12 := by rw [g12]; exact sz11
      have bo_b12 : h0.size ≤ b12 := by rw [g12]; exact kp11.1
      have ne_t_b12 : t ≠ b12 := by rw [g12]; exact Nat.ne_of_lt E_t_11.lt
      have ne_b_b12 : b ≠ b12 := by rw [g12]; exact Nat.ne_of_lt A_b_11.lt
      have ne_r_b12 : r ≠ b12 := by rw [g12]; exact Nat.ne_of_lt E_r_11.lt
      have E_t_12 := E_t_11.ext E12
      have F_t_value_12 := F_t_value_11.ext E12
      have F_t_coder_12 := F_t_coder_11.ext E12
      have A_b_12 := A_b_11.ext E12
      have E_r_12 := E_r_11.ext E12
      have F_r_text_12 := F_r_text_11.ext E12
      have F_r_fin_12 := F_r_fin_11.ext E12
      have F_r_bare_12 := Fw11.ext E12
      have sz12 : n0 ≤ h12.size := Nat.le_trans sz11 E12.1
      have kp12 := Keep.ext kp11 E12
      have od12 := od11.ext E12
      have F_b12_lines : Fld Z h12 b12 "com/example/wireform/wireform/text/Message" "lines" "Ljava/util/List;" .null := D12 (Or.inr (hw _ (List.mem_of_getElem? (i := 189) rfl))) (ty := (.object "java/util/List")) (by decide)
      have F_b12_header : Fld Z h12 b12 "com/example/wireform/wireform/text/Message" "header" "Lcom/example/wireform/wireform/text/FinHeader;" .null := D12 (Or.inr (hw _ (List.mem_of_getElem? (i := 191) rfl))) (ty := (.object "com/example/wireform/wireform/text/FinHeader")) (by decide)
      refine RunW.dup d19_30 rfl (pc' := 31) rfl ?_
      refine RunW.aloadN d19_31 rfl rfl (pc' := 32) rfl ?_
      refine RunW.getF d19_32 (host := "") (Or.inl (hw _ (List.mem_of_getElem? (i := 62) rfl))) Via.refl F_r_text_12 (pc' := 35) rfl ?_
      refine RunW.callSW (k' := 8) (n' := 67) (as := [(.ref t)]) (rest := [(.ref b12), (.ref b12)]) (con_sp1 l Z a0 hw n0 h12 sz12 t b cs K cz od12 SZ hcz E_t_12 F_t_value_12 F_t_coder_12 A_b_12 hp hn hch hK) all0 (own_EW hw) d19_35 (hw _ (List.mem_of_getElem? (i := 107) rfl)) (hw _ (List.mem_of_getElem? (i := 108) rfl)) (hw _ (List.mem_of_getElem? (i := 109) rfl)) (hw _ (List.mem_of_getElem? (i := 110) rfl)) (by decide) pd__Ljava_lang_String__Ljava_util_List_ rfl rfl rfl (by decide) (by show (2 : Nat) + (1 + 11) + 3103 ≤ _; decide) (by decide) (by decide) (by decide) (by decide) (pc' := 38) rfl ?_
      rintro _ h13 vm13 ⟨_, rfl, ⟨v13, rfl, E13, X13⟩⟩ c13
      show RunW l Z own_EL n0 "com/example/wireform/wireform/text/MessageReader" prog_58_method_3_code 6 (some (.object "com/example/wireform/wireform/text/Message")) (⟨"com/example/wireform/wireform/text/MessageReader", "next", "()Lcom/example/wireform/wireform/text/Message;"⟩ : MethodName) ({ frames := 6, cells := 8, slots := 67, locals := 3117 } : Room) _ 38 #[.val (.ref r), .unset, .unset, .unset, .unset, .unset] [(.ref v13), (.ref b12), (.ref b12)] h13 vm13 8 67
      have E_t_13 := E_t_12.ext E13
      have F_t_value_13 := F_t_value_12.ext E13
      have F_t_coder_13 := F_t_coder_12.ext E13
      have A_b_13 := A_b_12.ext E13
      have E_r_13 := E_r_12.ext E13
      have F_r_text_13 := F_r_text_12.ext E13
      have F_r_fin_13 := F_r_fin_12.ext E13
      have F_r_bare_13 := F_r_bare_12.ext E13
      have E_b12_13 := X12.ext E13
      have Z_b12_13 := CHr.safe c13 X12.lt sf12
      have F_b12_lines_13 := F_b12_lines.ext E13
      have F_b12_header_13 := F_b12_header.ext E13
      have sz13 : n0 ≤ h13.size := Nat.le_trans sz12 E13.1
      have kp13 := Keep.ext kp12 E13
      have od13 := od12.ext E13
      refine RunW.aconst d19_38 (pc' := 39) rfl ?_
      refine RunW.callN (k' := 8) (n' := 67) (a := b12) (as := [(.ref v13), .null]) (rest := [(.ref b12)]) (con_msi l Z a0 hw n0 h13 sz13 b12 v13 E_b12_13 ge_b12 X13 F_b12_lines_13 F_b12_header_13) (by rintro _ _ ⟨rfl, K_⟩; exact ⟨[b12], K_, (allS Z_b12_13 all0)⟩) rfl rfl d19_39 (hw _ (List.mem_of_getElem? (i := 177) rfl)) (hw _ (List.mem_of_getElem? (i := 178) rfl)) (hw _ (List.mem_of_getElem? (i := 106) rfl)) (hw _ (List.mem_of_getElem? (i := 179) rfl)) (by decide) pd__Ljava_util_List_Lcom_example_wireform_wireform_text_FinHeader__V rfl rfl rfl (by decide) (by show (1 : Nat) + (3 + 11) + 24 ≤ _; decide) (by decide) (by decide) (by decide) (by decide) (pc' := 42) rfl ?_
      rintro _ h14 ⟨rfl, K14⟩ c14
      show RunW l Z own_EL n0 "com/example/wireform/wireform/text/MessageReader" prog_58_method_3_code 6 (some (.object "com/example/wireform/wireform/text/Message")) (⟨"com/example/wireform/wireform/text/MessageReader", "next", "()Lcom/example/wireform/wireform/text/Message;"⟩ : MethodName) ({ frames := 6, cells := 8, slots := 67, locals := 3117 } : Room) _ 42 #[.val (.ref r), .unset, .unset, .unset, .unset, .unset] [(.ref b12)] h14 vm13 8 67
      have E_t_14 := E_t_13.keep K14
      have F_t_value_14 := F_t_value_13.keep K14 (ninS ne_t_b12 nin0)
      have F_t_coder_14 := F_t_coder_13.keep K14 (ninS ne_t_b12 nin0)
      have A_b_14 := A_b_13.keep K14 (ninS ne_b_b12 nin0)
      have E_r_14 := E_r_13.keep K14
      have F_r_text_14 := F_r_text_13.keep K14 (ninS ne_r_b12 nin0)
      have F_r_fin_14 := F_r_fin_13.keep K14 (ninS ne_r_b12 nin0)
      have F_r_bare_14 := F_r_bare_13.keep K14 (ninS ne_r_b12 nin0)
      have E_b12_14 := E_b12_13.keep K14
      have Z_b12_14 := CHr.safe c14 E_b12_13.lt Z_b12_13
      have E_v13_14 := X13.keep K14
      have sz14 : n0 ≤ h14.size := Nat.le_trans sz13 K14.1
      have kp14 := Keep.trans kp13 K14 (allS (Or.inr bo_b12) all0)
      have od14 := od13.keep K14 (allS ge_b12 all0)
      exact RunW.areturn d19_42 (ty := (.object "com/example/wireform/wireform/text/Message")) rfl rfl rfl (by decide) (by decide) ⟨_, rfl, b12, rfl, kp14, E_r_14, F_r_fin_14, F_r_bare_14⟩
  · exact absurd hc4 (by decide)
theorem d12_0 : decode prog_58_method_1_code 0 = .ok (.aload_n 0, 1) := by decide +kernel
theorem d12_1 : decode prog_58_method_1_code 1 = .ok (.invokespecial 1, 3) := by decide +kernel
theorem d12_4 : decode prog_58_method_1_code 4 = .ok (.aload_n 0, 1) := by decide +kernel
theorem d12_5 : decode prog_58_method_1_code 5 = .ok (.aload_n 1, 1) := by decide +kernel
theorem d12_6 : decode prog_58_method_1_code 6 = .ok (.putfield 7, 3) := by decide +kernel
theorem d12_9 : decode prog_58_method_1_code 9 = .ok (.aload_n 0, 1) := by decide +kernel
theorem d12_10 : decode prog_58_method_1_code 10 = .ok (.aload_n 1, 1) := by decide +kernel
theorem d12_11 : decode prog_58_method_1_code 11 = .ok (.ldc 15, 2) := by decide +kernel
theorem d12_13 : decode prog_58_method_1_code 13 = .ok (.invokevirtual 17, 3) := by decide +kernel
theorem d12_16 : decode prog_58_method_1_code 16 = .ok (.putfield 23, 3) := by decide +kernel
theorem d12_19 : decode prog_58_method_1_code 19 = .ok (.aload_n 0, 1) := by decide +kernel
theorem d12_20 : decode prog_58_method_1_code 20 = .ok (.aload_n 0, 1) := by decide +kernel
theorem d12_21 : decode prog_58_method_1_code 21 = .ok (.getfield 23, 3) := by decide +kernel
theorem d12_24 : decode prog_58_method_1_code 24 = .ok (.ifCond .ne 7, 3) := by decide +kernel
theorem d12_27 : decode prog_58_method_1_code 27 = .ok (.iconst 1, 1) := by decide +kernel
theorem d12_28 : decode prog_58_method_1_code 28 = .ok (.goto 4, 3) := by decide +kernel
theorem d12_31 : decode prog_58_method_1_code 31 = .ok (.iconst 0, 1) := by decide +kernel
theorem d12_32 : decode prog_58_method_1_code 32 = .ok (.putfield 27, 3) := by decide +kernel
theorem d12_35 : decode prog_58_method_1_code 35 = .ok (.aload_n 0, 1) := by decide +kernel
theorem d12_36 : decode prog_58_method_1_code 36 = .ok (.getfield 23, 3) := by decide +kernel
theorem d12_39 : decode prog_58_method_1_code 39 = .ok (.ifCond .eq 11, 3) := by decide +kernel
theorem d12_42 : decode prog_58_method_1_code 42 = .ok (.aload_n 0, 1) := by decide +kernel
theorem d12_43 : decode prog_58_method_1_code 43 = .ok (.aload_n 0, 1) := by decide +kernel
theorem d12_44 : decode prog_58_method_1_code 44 = .ok (.invokevirtual 30, 3) := by decide +kernel
theorem d12_47 : decode prog_58_method_1_code 47 = .ok (.putfield 34, 3) := by decide +kernel
theorem d12_50 : decode prog_58_method_1_code 50 = .ok (.return_, 1) := by decide +kernel
theorem pn_12 : plainFor (⟨"com/example/wireform/wireform/text/MessageReader", "<init>", "(Ljava/lang/String;)V"⟩ : MethodName) = true := plainFor_of_name (by first | (simp [plainName, overriddenIn]; done) | decide +kernel)
theorem ef_con_ri1 (m : MethodId) (r t b : Addr) (cs : List Int32) (K : List Nat) (fm : Value) (cz : Int32)  : entryFrame m #[(.ref r), (.ref t)] 2 = mkF m 0 #[.val (.ref r), .val (.ref t)] [] := by first | (simp [entryFrame, mkF, argsToLocals, Value.category]; done) | rfl
set_option maxRecDepth 65536 in
set_option maxHeartbeats 40000000 in
theorem con_ri1 (l : Launch) (Z : State) (a0 : Array Value) (hw : ∀ d ∈ tables_1, d.before a0 Z = true) (n0 : Nat) (h0 : Heap) (Z0 : n0 ≤ h0.size) (r t b : Addr) (cs : List Int32) (K : List Nat) (fm : Value) (cz : Int32) (od0 : Old Z n0 h0) (SF : Sta Z Z.heap "jdk/internal/util/Preconditions" "SIOOBE_FORMATTER" "Ljava/util/function/BiFunction;" fm) (hfm : fm.isRef = true) (SZ : Sta Z Z.heap "java/lang/String" "COMPACT_STRINGS" "Z" (.int cz)) (hcz : ¬ cz = 0) (E1 : Exa Z h0 t "java/lang/String") (FV : Fld Z h0 t "java/lang/String" "value" "[B" (.ref b)) (FC : Fld Z h0 t "java/lang/String" "coder" "B" (.int (own_coder cs))) (AB : Ary Z h0 b .byte (own_enc cs)) (hp : own_pfx cs = cs.length) (hn : cs.length ≤ 15) (hch : own_chr cs) (hK : own_rel cs K) (ER : Exa Z h0 r "com/example/wireform/wireform/text/MessageReader") (gr : n0 ≤ r) (R_text : Fld Z h0 r "com/example/wireform/wireform/text/MessageReader" "text" "Ljava/lang/String;" .null) (R_fin : Fld Z h0 r "com/example/wireform/wireform/text/MessageReader" "fin" "Z" (.int (0 : Int32))) (R_bare : Fld Z h0 r "com/example/wireform/wireform/text/MessageReader" "bare" "Z" (.int (0 : Int32))) (R_opening : Fld Z h0 r "com/example/wireform/wireform/text/MessageReader" "opening" "Ljava/lang/String;" .null) (R_position : Fld Z h0 r "com/example/wireform/wireform/text/MessageReader" "position" "I" (.int (0 : Int32))) (htr : t ≠ r) (hbr : b ≠ r) (hsw : own_sw cs [(123 : Int32), (49 : Int32), (58 : Int32)] 0 = 1) :
    ConW l Z own_EL n0 (⟨"com/example/wireform/wireform/text/MessageReader", "<init>", "(Ljava/lang/String;)V"⟩ : MethodName) prog_58_method_1_code 2 none ({ frames := 7, cells := (2 + km_nc K 17 0), slots := (100 * (2 + km_nc K 17 0)), locals := 122 } : Room) #[(.ref r), (.ref t)] h0 [] (Vd fun h' => ∃ o p', km_no K 17 0 = (o, p') ∧ Keep h0 h' [r] ∧ Exa Z h' r "com/example/wireform/wireform/text/MessageReader" ∧ Fld Z h' r "com/example/wireform/wireform/text/MessageReader" "text" "Ljava/lang/String;" (.ref t) ∧ Fld Z h' r "com/example/wireform/wireform/text/MessageReader" "fin" "Z" (.int (1 : Int32)) ∧ Fld Z h' r "com/example/wireform/wireform/text/MessageReader" "bare" "Z" (.int (0 : Int32)) ∧ Fld Z h' r "com/example/wireform/wireform/text/MessageReader" "position" "I" (.int (Int32.ofNat p')) ∧ Exa Z h' t "java/lang/String" ∧ Fld Z h' t "java/lang/String" "value" "[B" (.ref b) ∧ Fld Z h' t "java/lang/String" "coder" "B" (.int (own_coder cs)) ∧ Ary Z h' b .byte (own_enc cs) ∧ ((o = none ∧ Fld Z h' r "com/example/wireform/wireform/text/MessageReader" "opening" "Ljava/lang/String;" .null) ∨ ∃ s e u d, o = some (s, e) ∧ Fld Z h' r "com/example/wireform/wireform/text/MessageReader" "opening" "Ljava/lang/String;" (.ref u) ∧ Exa Z h' u "java/lang/String" ∧ Fld Z h' u "java/lang/String" "value" "[B" (.ref d) ∧ Fld Z h' u "java/lang/String" "coder" "B" (.int (own_coder (own_sub cs s e))) ∧ Ary Z h' d .byte (own_enc (own_sub cs s e)))) := by
  refine ConW.of_run (own_EW hw) pn_12 (fun m => ef_con_ri1 m r t b cs K fm cz ) ?_
  intro vm hal hsf
  refine RunW.aloadN d12_0 rfl rfl (pc' := 1) rfl ?_
  refine RunW.initO d12_1 (hw _ (List.mem_of_getElem? (i := 61) rfl)) (hw _ (List.mem_of_getElem? (i := 43) rfl)) (hw _ (List.mem_of_getElem? (i := 44) rfl)) rfl (by show (1 : Nat) ≤ 7; decide) (by show (0 : Nat) + 12 ≤ 122; decide) (pc' := 4) rfl ?_
  refine RunW.aloadN d12_4 rfl rfl (pc' := 5) rfl ?_
  refine RunW.aloadN d12_5 rfl rfl (pc' := 6) rfl ?_
  refine RunW.putF d12_6 (host := "") (Or.inl (hw _ (List.mem_of_getElem? (i := 62) rfl))) Via.refl R_text ER (Or.inr ⟨(hw _ (List.mem_of_getElem? (i := 63) rfl)), rfl, rfl⟩) (hw _ (List.mem_of_getElem? (i := 56) rfl)) (ty := (.object "java/lang/String")) (by decide) (go_narref rfl rfl) rfl gr (Safe.exa hal ER (by decide) (by decide)) (pc' := 9) rfl ?_
  intro h11 W11 c11
  have Fw11 := R_text.same W11
  have E_t_11 := E1.wr W11
  have F_t_value_11 := FV.other W11 (Or.inl htr)
  have F_t_coder_11 := FC.other W11 (Or.inl htr)
  have A_b_11 := AB.other W11 hbr
  have E_r_11 := ER.wr W11
  have F_r_fin_11 := R_fin.other W11 (Or.inr (slot_ne (Or.inr (hw _ (List.mem_of_getElem? (i := 90) rfl))) (Or.inr (hw _ (List.mem_of_getElem? (i := 63) rfl))) (by decide) (t := .boolean) (t' := (.object "java/lang/String")) (by decide) (by decide)))
  have F_r_bare_11 := R_bare.other W11 (Or.inr (slot_ne (Or.inl (hw _ (List.mem_of_getElem? (i := 92) rfl))) (Or.inr (hw _ (List.mem_of_getElem? (i := 63) rfl))) (by decide) (t := .boolean) (t' := (.object "java/lang/String")) (by decide) (by decide)))
  have F_r_opening_11 := R_opening.other W11 (Or.inr (slot_ne (Or.inl (hw _ (List.mem_of_getElem? (i := 257) rfl))) (Or.inr (hw _ (List.mem_of_getElem? (i := 63) rfl))) (by decide) (t := (.object "java/lang/String")) (t' := (.object "java/lang/String")) (by decide) (by decide)))
  have F_r_position_11 := R_position.other W11 (Or.inr (slot_ne (Or.inl (hw _ (List.mem_of_getElem? (i := 201) rfl))) (Or.inr (hw _ (List.mem_of_getElem? (i := 63) rfl))) (by decide) (t := .int) (t' := (.object "java/lang/String")) (by decide) (by decide)))
  have sz11 : n0 ≤ h11.size := by rw [W11.size]; exact Z0
  have kp11 := Keep.wr (Keep.refl h0 [r]) W11 (Or.inl (List.mem_of_getElem? (i := 0) rfl))
  have od11 := od0.wr W11 gr
  refine RunW.aloadN d12_9 rfl rfl (pc' := 10) rfl ?_
  refine RunW.aloadN d12_10 rfl rfl (pc' := 11) rfl ?_
  refine RunW.ldcT (len := 12) (z := (3 : Int32)) (bs := [(.int (123 : Int32)), (.int (49 : Int32)), (.int (58 : Int32))]) (k' := (0 + 2)) (n' := (100 * (0 + 2))) d12_11 (hw _ (List.mem_of_getElem? (i := 64) rfl)) (own_wS hw) (own_EW hw) (List.mem_of_getElem? (i := 1) rfl) (by decide) (by decide) (by decide) (by decide) (by show (0 + 0) + 2 ≤ (0 + 2); omega) (by show (0 + 2) ≤ 2 + km_nc K 17 0; omega) (by show 100 * (0 + 0) + 16 ≤ 100 * (0 + 2); omega) (by show 100 * (0 + 2) ≤ 100 * (2 + km_nc K 17 0); omega) (pc' := 13) rfl ?_
  intro h12 vm12 a12 b12 E12 c12 X12 FC12 FV12 A12 ns12
  have E_t_12 := E_t_11.ext E12
  have F_t_value_12 := F_t_value_11.ext E12
  have F_t_coder_12 := F_t_coder_11.ext E12
  have A_b_12 := A_b_11.ext E12
  have E_r_12 := E_r_11.ext E12
  have F_r_fin_12 := F_r_fin_11.ext E12
  have F_r_bare_12 := F_r_bare_11.ext E12
  have F_r_opening_12 := F_r_opening_11.ext E12
  have F_r_position_12 := F_r_position_11.ext E12
  have F_r_text_12 := Fw11.ext E12
  have sz12 : n0 ≤ h12.size := Nat.le_trans sz11 E12.1
  have kp12 := Keep.ext kp11 E12
  have od12 := od11.ext E12
  have FCl13 : Fld Z h12 a12 "java/lang/String" "coder" "B" (.int (own_coder [(123 : Int32), (49 : Int32), (58 : Int32)])) := by rw [own_p1c]; exact FC12
  have ABl13 : Ary Z h12 b12 .byte (own_enc [(123 : Int32), (49 : Int32), (58 : Int32)]) := by rw [own_p1e]; exact A12
  refine RunW.callV (k' := (0 + 2)) (n' := (100 * (0 + 2))) (a := t) (as := [(.ref a12)]) (rest := [(.ref r)]) (con_sws l Z a0 hw n0 h12 sz12 t b a12 b12 cs [(123 : Int32), (49 : Int32), (58 : Int32)]  cz od12 SZ hcz E_t_12 F_t_value_12 F_t_coder_12 A_b_12 X12 FV12 FCl13 ABl13 (by decide) (by omega) hp hch own_p1p own_p1q) (by rintro _ _ ⟨_, -, -, rfl⟩; exact ⟨[], Keep.refl _ _, all0⟩) E_t_12 d12_13 (hw _ (List.mem_of_getElem? (i := 65) rfl)) (hw _ (List.mem_of_getElem? (i := 66) rfl)) (fun s hZ => notFace_of_selects (args := #[]) (mvT hZ (hw _ (List.mem_of_getElem? (i := 68) rfl)))) (hw _ (List.mem_of_getElem? (i := 68) rfl)) (hw _ (List.mem_of_getElem? (i := 67) rfl)) (hw _ (List.mem_of_getElem? (i := 1) rfl)) (hw _ (List.mem_of_getElem? (i := 69) rfl)) (by decide) pd__Ljava_lang_String__Z rfl rfl rfl (by show (3 : Nat) + 1 ≤ 7; decide) (by show (1 : Nat) + (2 + 11) + 46 ≤ 122; decide) (by show (0 + 2) + 0 ≤ (0 + 2); omega) (by show (0 + 2) ≤ 2 + km_nc K 17 0; omega) (by show 100 * (0 + 2) + 0 ≤ 100 * (0 + 2); omega) (by show 100 * (0 + 2) ≤ 100 * (2 + km_nc K 17 0); omega) (pc' := 16) rfl ?_
  rintro _ _ ⟨_, rfl, rfl, rfl⟩ -
  show RunW l Z own_EL n0 "com/example/wireform/wireform/text/MessageReader" prog_58_method_1_code 2 none (⟨"com/example/wireform/wireform/text/MessageReader", "<init>", "(Ljava/lang/String;)V"⟩ : MethodName) ({ frames := 7, cells := (2 + km_nc K 17 0), slots := (100 * (2 + km_nc K 17 0)), locals := 122 } : Room) _ 16 #[.val (.ref r), .val (.ref t)] [(.int (own_sw cs [(123 : Int32), (49 : Int32), (58 : Int32)] 0)), (.ref r)] h12 vm12 (0 + 2) (100 * (0 + 2))
  rw [hsw]
  refine RunW.alike fun al15 => ?_
  refine RunW.putFN d12_16 (hw _ (List.mem_of_getElem? (i := 89) rfl)) Via.refl F_r_fin_12 E_r_12 (Or.inr ⟨(hw _ (List.mem_of_getElem? (i := 90) rfl)), rfl, rfl⟩) (hw _ (List.mem_of_getElem? (i := 56) rfl)) (ty := .boolean) (v' := (.int (1 : Int32))) (by decide) rfl rfl gr (Safe.exa al15 E_r_12 (by decide) (by decide)) (pc' := 19) rfl ?_
  intro h14 W14 c14
  have Fw14 := F_r_fin_12.same W14
  have E_t_14 := E_t_12.wr W14
  have F_t_value_14 := F_t_value_12.other W14 (Or.inl htr)
  have F_t_coder_14 := F_t_coder_12.other W14 (Or.inl htr)
  have A_b_14 := A_b_12.other W14 hbr
  have E_r_14 := E_r_12.wr W14
  have F_r_bare_14 := F_r_bare_12.other W14 (Or.inr (slot_ne (Or.inl (hw _ (List.mem_of_getElem? (i := 92) rfl))) (Or.inr (hw _ (List.mem_of_getElem? (i := 90) rfl))) (by decide) (t := .boolean) (t' := .boolean) (by decide) (by decide)))
  have F_r_opening_14 := F_r_opening_12.other W14 (Or.inr (slot_ne (Or.inl (hw _ (List.mem_of_getElem? (i := 257) rfl))) (Or.inr (hw _ (List.mem_of_getElem? (i := 90) rfl))) (by decide) (t := (.object "java/lang/String")) (t' := .boolean) (by decide) (by decide)))
  have F_r_position_14 := F_r_position_12.other W14 (Or.inr (slot_ne (Or.inl (hw _ (List.mem_of_getElem? (i := 201) rfl))) (Or.inr (hw _ (List.mem_of_getElem? (i := 90) rfl))) (by decide) (t := .int) (t' := .boolean) (by decide) (by decide)))
  have F_r_text_14 := F_r_text_12.other W14 (Or.inr (slot_ne (Or.inr (hw _ (List.mem_of_getElem? (i := 63) rfl))) (Or.inr (hw _ (List.mem_of_getElem? (i := 90) rfl))) (by decide) (t := (.object "java/lang/String")) (t' := .boolean) (by decide) (by decide)))
  have E_a12_14 := X12.wr W14
  have F_a12_coder_14 := FCl13.other W14 (Or.inl (own_xne X12 E_r_12 (by decide)))
  have F_a12_value_14 := FV12.other W14 (Or.inl (own_xne X12 E_r_12 (by decide)))
  have A_b12_14 := ABl13.other W14 (own_ane (hw _ (List.mem_of_getElem? (i := 56) rfl)) ABl13 E_r_12)
  have sz14 : n0 ≤ h14.size := by rw [W14.size]; exact sz12
  have kp14 := Keep.wr kp12 W14 (Or.inl (List.mem_of_getElem? (i := 0) rfl))
  have od14 := od12.wr W14 gr
  refine RunW.aloadN d12_19 rfl rfl (pc' := 20) rfl ?_
  refine RunW.aloadN d12_20 rfl rfl (pc' := 21) rfl ?_
  refine RunW.getF d12_21 (host := "") (Or.inl (hw _ (List.mem_of_getElem? (i := 89) rfl))) Via.refl Fw14 (pc' := 24) rfl ?_
  refine RunW.if_ne d12_24 (by decide) (pc' := 31) (by decide) (pa := 27) rfl (fun hc24 => ?_) (fun hc24 => ?_)
  · refine RunW.iconst (0 : Int32) d12_31 (by decide) (pc' := 32) rfl ?_
    refine RunW.putFN d12_32 (hw _ (List.mem_of_getElem? (i := 91) rfl)) Via.refl F_r_bare_14 E_r_14 (Or.inl (hw _ (List.mem_of_getElem? (i := 92) rfl))) (hw _ (List.mem_of_getElem? (i := 56) rfl)) (ty := .boolean) (v' := (.int (0 : Int32))) (by decide) rfl rfl gr (Safe.exa al15 E_r_14 (by decide) (by decide)) (pc' := 35) rfl ?_
    intro h16 W16 c16
    have Fw16 := F_r_bare_14.same W16
    have E_t_16 := E_t_14.wr W16
    have F_t_value_16 := F_t_value_14.other W16 (Or.inl htr)
    have F_t_coder_16 := F_t_coder_14.other W16 (Or.inl htr)
    have A_b_16 := A_b_14.other W16 hbr
    have E_r_16 := E_r_14.wr W16
    have F_r_opening_16 := F_r_opening_14.other W16 (Or.inr (slot_ne (Or.inl (hw _ (List.mem_of_getElem? (i := 257) rfl))) (Or.inl (hw _ (List.mem_of_getElem? (i := 92) rfl))) (by decide) (t := (.object "java/lang/String")) (t' := .boolean) (by decide) (by decide)))
    have F_r_position_16 := F_r_position_14.other W16 (Or.inr (slot_ne (Or.inl (hw _ (List.mem_of_getElem? (i := 201) rfl))) (Or.inl (hw _ (List.mem_of_getElem? (i := 92) rfl))) (by decide) (t := .int) (t' := .boolean) (by decide) (by decide)))
    have F_r_text_16 := F_r_text_14.other W16 (Or.inr (slot_ne (Or.inr (hw _ (List.mem_of_getElem? (i := 63) rfl))) (Or.inl (hw _ (List.mem_of_getElem? (i := 92) rfl))) (by decide) (t := (.object "java/lang/String")) (t' := .boolean) (by decide) (by decide)))
    have E_a12_16 := E_a12_14.wr W16
    have F_a12_coder_16 := F_a12_coder_14.other W16 (Or.inl (own_xne E_a12_14 E_r_14 (by decide)))
    have F_a12_value_16 := F_a12_value_14.other W16 (Or.inl (own_xne E_a12_14 E_r_14 (by decide)))
    have A_b12_16 := A_b12_14.other W16 (own_ane (hw _ (List.mem_of_getElem? (i := 56) rfl)) A_b12_14 E_r_14)
    have F_r_fin_16 := Fw14.other W16 (Or.inr (slot_ne (Or.inr (hw _ (List.mem_of_getElem? (i := 90) rfl))) (Or.inl (hw _ (List.mem_of_getElem? (i := 92) rfl))) (by decide) (t := .boolean) (t' := .boolean) (by decide) (by decide)))
    have sz16 : n0 ≤ h16.size := by rw [W16.size]; exact sz14
    have kp16 := Keep.wr kp14 W16 (Or.inl (List.mem_of_getElem? (i := 0) rfl))
    have od16 := od14.wr W16 gr
    refine RunW.aloadN d12_35 rfl rfl (pc' := 36) rfl ?_
    refine RunW.getF d12_36 (host := "") (Or.inl (hw _ (List.mem_of_getElem? (i := 89) rfl))) Via.refl F_r_fin_16 (pc' := 39) rfl ?_
    refine RunW.if_eq d12_39 (by decide) (pc' := 50) (by decide) (pa := 42) rfl (fun hc39 => ?_) (fun hc39 => ?_)
    · exact absurd hc39 (by decide)
    · refine RunW.aloadN d12_42 rfl rfl (pc' := 43) rfl ?_
      refine RunW.aloadN d12_43 rfl rfl (pc' := 44) rfl ?_
      refine RunW.callVW (k' := ((0 + 2) + (km_nc K 17 0))) (n' := (100 * ((0 + 2) + (km_nc K 17 0)))) (a := r) (as := []) (rest := [(.ref r)]) (con_nop l Z a0 hw n0 h16 sz16 r t b cs K 17 0 (.int (1 : Int32)) (.int (0 : Int32)) .null fm cz od16 SF hfm SZ hcz E_t_16 F_t_value_16 F_t_coder_16 A_b_16 hp hn hch hK E_r_16 gr F_r_text_16 F_r_fin_16 Fw16 F_r_opening_16 F_r_position_16 htr hbr (by omega) (by omega)) all0 (own_EW hw) E_r_16 d12_44 (hw _ (List.mem_of_getElem? (i := 196) rfl)) (own_decl (hw _ (List.mem_of_getElem? (i := 197) rfl)) (hw _ (List.mem_of_getElem? (i := 199) rfl))) (fun s hZ => notFace_of_selects (args := #[]) (mvT hZ (own_selp (by decide) (hw _ (List.mem_of_getElem? (i := 56) rfl)) (hw _ (List.mem_of_getElem? (i := 198) rfl)) (hw _ (List.mem_of_getElem? (i := 197) rfl))))) (own_selp (by decide) (hw _ (List.mem_of_getElem? (i := 56) rfl)) (hw _ (List.mem_of_getElem? (i := 198) rfl)) (hw _ (List.mem_of_getElem? (i := 197) rfl))) (hw _ (List.mem_of_getElem? (i := 197) rfl)) (hw _ (List.mem_of_getElem? (i := 57) rfl)) (hw _ (List.mem_of_getElem? (i := 199) rfl)) (by decide) pd___Ljava_lang_String_ rfl rfl rfl (by show (6 : Nat) + 1 ≤ 7; decide) (by show (1 : Nat) + (3 + 11) + 107 ≤ 122; decide) (by show (0 + 2) + (km_nc K 17 0) ≤ ((0 + 2) + (km_nc K 17 0)); omega) (by show ((0 + 2) + (km_nc K 17 0)) ≤ 2 + km_nc K 17 0; omega) (by show 100 * (0 + 2) + (100 * (km_nc K 17 0)) ≤ 100 * ((0 + 2) + (km_nc K 17 0)); omega) (by show 100 * ((0 + 2) + (km_nc K 17 0)) ≤ 100 * (2 + km_nc K 17 0); omega) (pc' := 47) rfl ?_
      rintro _ h17 vm17 ⟨w17, rfl, ⟨oo17, pp17, hno17, K17, X17, Qtext_17, Qfin_17, Qbare_17, Qopening_17, Qp_17, XT17, VT17, CT17, AT17, hor17⟩⟩ c17
      show RunW l Z own_EL n0 "com/example/wireform/wireform/text/MessageReader" prog_58_method_1_code 2 none (⟨"com/example/wireform/wireform/text/MessageReader", "<init>", "(Ljava/lang/String;)V"⟩ : MethodName) ({ frames := 7, cells := (2 + km_nc K 17 0), slots := (100 * (2 + km_nc K 17 0)), locals := 122 } : Room) _ 47 #[.val (.ref r), .val (.ref t)] [w17, (.ref r)] h17 vm17 ((0 + 2) + (km_nc K 17 0)) (100 * ((0 + 2) + (km_nc K 17 0)))
      have E_t_17 := E_t_16.keep K17
      have F_t_value_17 := F_t_value_16.keep K17 (ninS htr nin0)
      have F_t_coder_17 := F_t_coder_16.keep K17 (ninS htr nin0)
      have A_b_17 := A_b_16.keep K17 (ninS hbr nin0)
      have E_r_17 := E_r_16.keep K17
      have E_a12_17 := E_a12_16.keep K17
      have F_a12_coder_17 := F_a12_coder_16.keep K17 (ninS (own_xne E_a12_16 E_r_16 (by decide)) nin0)
      have F_a12_value_17 := F_a12_value_16.keep K17 (ninS (own_xne E_a12_16 E_r_16 (by decide)) nin0)
      have A_b12_17 := A_b12_16.keep K17 (ninS (own_ane (hw _ (List.mem_of_getElem? (i := 56) rfl)) A_b12_16 E_r_16) nin0)
      have sz17 : n0 ≤ h17.size := Nat.le_trans sz16 K17.1
      have kp17 := Keep.trans kp16 K17 (allS (Or.inl (List.mem_of_getElem? (i := 0) rfl)) all0)
      have od17 := od16.keep K17 (allS gr all0)
      rcases hor17 with ⟨ho17, rfl⟩ | ⟨ss17, se17, u17, d17, ho17, rfl, XU17, VU17, CU17, AU17⟩
      · refine RunW.alike fun al19 => ?_
        refine RunW.putF d12_47 (host := "") (Or.inl (hw _ (List.mem_of_getElem? (i := 256) rfl))) Via.refl Qopening_17 X17 (Or.inl (hw _ (List.mem_of_getElem? (i := 257) rfl))) (hw _ (List.mem_of_getElem? (i := 56) rfl)) (ty := (.object "java/lang/String")) (by decide) (go_narref rfl rfl) rfl gr (Safe.exa al19 X17 (by decide) (by decide)) (pc' := 50) rfl ?_
        intro h18 W18 c18
        have Fw18 := Qopening_17.same W18
        have E_t_18 := XT17.wr W18
        have F_t_value_18 := VT17.other W18 (Or.inl htr)
        have F_t_coder_18 := CT17.other W18 (Or.inl htr)
        have A_b_18 := AT17.other W18 hbr
        have E_r_18 := X17.wr W18
        have E_a12_18 := E_a12_17.wr W18
        have F_a12_coder_18 := F_a12_coder_17.other W18 (Or.inl (own_xne E_a12_17 X17 (by decide)))
        have F_a12_value_18 := F_a12_value_17.other W18 (Or.inl (own_xne E_a12_17 X17 (by decide)))
        have A_b12_18 := A_b12_17.other W18 (own_ane (hw _ (List.mem_of_getElem? (i := 56) rfl)) A_b12_17 X17)
        have F_r_text_18 := Qtext_17.other W18 (Or.inr (slot_ne (Or.inr (hw _ (List.mem_of_getElem? (i := 63) rfl))) (Or.inl (hw _ (List.mem_of_getElem? (i := 257) rfl))) (by decide) (t := (.object "java/lang/String")) (t' := (.object "java/lang/String")) (by decide) (by decide)))
        have F_r_fin_18 := Qfin_17.other W18 (Or.inr (slot_ne (Or.inr (hw _ (List.mem_of_getElem? (i := 90) rfl))) (Or.inl (hw _ (List.mem_of_getElem? (i := 257) rfl))) (by decide) (t := .boolean) (t' := (.object "java/lang/String")) (by decide) (by decide)))
        have F_r_bare_18 := Qbare_17.other W18 (Or.inr (slot_ne (Or.inl (hw _ (List.mem_of_getElem? (i := 92) rfl))) (Or.inl (hw _ (List.mem_of_getElem? (i := 257) rfl))) (by decide) (t := .boolean) (t' := (.object "java/lang/String")) (by decide) (by decide)))
        have F_r_position_18 := Qp_17.other W18 (Or.inr (slot_ne (Or.inl (hw _ (List.mem_of_getElem? (i := 201) rfl))) (Or.inl (hw _ (List.mem_of_getElem? (i := 257) rfl))) (by decide) (t := .int) (t' := (.object "java/lang/String")) (by decide) (by decide)))
        have sz18 : n0 ≤ h18.size := by rw [W18.size]; exact sz17
        have kp18 := Keep.wr kp17 W18 (Or.inl (List.mem_of_getElem? (i := 0) rfl))
        have od18 := od17.wr W18 gr
        exact RunW.vreturn d12_50 rfl (by show (((0 + 2) + (km_nc K 17 0)) + 0) ≤ 2 + km_nc K 17 0; omega) (by show 100 * (((0 + 2) + (km_nc K 17 0)) + 0) ≤ 100 * (2 + km_nc K 17 0); omega) ⟨rfl, oo17, pp17, hno17, kp18, E_r_18, F_r_text_18, F_r_fin_18, F_r_bare_18, F_r_position_18, E_t_18, F_t_value_18, F_t_coder_18, A_b_18, Or.inl ⟨ho17, Fw18⟩⟩
      · refine RunW.alike fun al21 => ?_
        refine RunW.putF d12_47 (host := "") (Or.inl (hw _ (List.mem_of_getElem? (i := 256) rfl))) Via.refl Qopening_17 X17 (Or.inl (hw _ (List.mem_of_getElem? (i := 257) rfl))) (hw _ (List.mem_of_getElem? (i := 56) rfl)) (ty := (.object "java/lang/String")) (by decide) (go_narref rfl rfl) rfl gr (Safe.exa al21 X17 (by decide) (by decide)) (pc' := 50) rfl ?_
        intro h20 W20 c20
        have Fw20 := Qopening_17.same W20
        have E_t_20 := XT17.wr W20
        have F_t_value_20 := VT17.other W20 (Or.inl htr)
        have F_t_coder_20 := CT17.other W20 (Or.inl htr)
        have A_b_20 := AT17.other W20 hbr
        have E_r_20 := X17.wr W20
        have E_a12_20 := E_a12_17.wr W20
        have F_a12_coder_20 := F_a12_coder_17.other W20 (Or.inl (own_xne E_a12_17 X17 (by decide)))
        have F_a12_value_20 := F_a12_value_17.other W20 (Or.inl (own_xne E_a12_17 X17 (by decide)))
        have A_b12_20 := A_b12_17.other W20 (own_ane (hw _ (List.mem_of_getElem? (i := 56) rfl)) A_b12_17 X17)
        have F_r_text_20 := Qtext_17.other W20 (Or.inr (slot_ne (Or.inr (hw _ (List.mem_of_getElem? (i := 63) rfl))) (Or.inl (hw _ (List.mem_of_getElem? (i := 257) rfl))) (by decide) (t := (.object "java/lang/String")) (t' := (.object "java/lang/String")) (by decide) (by decide)))
        have F_r_fin_20 := Qfin_17.other W20 (Or.inr (slot_ne (Or.inr (hw _ (List.mem_of_getElem? (i := 90) rfl))) (Or.inl (hw _ (List.mem_of_getElem? (i := 257) rfl))) (by decide) (t := .boolean) (t' := (.object "java/lang/String")) (by decide) (by decide)))
        have F_r_bare_20 := Qbare_17.other W20 (Or.inr (slot_ne (Or.inl (hw _ (List.mem_of_getElem? (i := 92) rfl))) (Or.inl (hw _ (List.mem_of_getElem? (i := 257) rfl))) (by decide) (t := .boolean) (t' := (.object "java/lang/String")) (by decide) (by decide)))
        have F_r_position_20 := Qp_17.other W20 (Or.inr (slot_ne (Or.inl (hw _ (List.mem_of_getElem? (i := 201) rfl))) (Or.inl (hw _ (List.mem_of_getElem? (i := 257) rfl))) (by decide) (t := .int) (t' := (.object "java/lang/String")) (by decide) (by decide)))
        have E_u17_20 := XU17.wr W20
        have F_u17_value_20 := VU17.other W20 (Or.inl (own_xne XU17 X17 (by decide)))
        have F_u17_coder_20 := CU17.other W20 (Or.inl (own_xne XU17 X17 (by decide)))
        have A_d17_20 := AU17.other W20 (own_ane (hw _ (List.mem_of_getElem? (i := 56) rfl)) AU17 X17)
        have sz20 : n0 ≤ h20.size := by rw [W20.size]; exact sz17
        have kp20 := Keep.wr kp17 W20 (Or.inl (List.mem_of_getElem? (i := 0) rfl))
        have od20 := od17.wr W20 gr
        exact RunW.vreturn d12_50 rfl (by show (((0 + 2) + (km_nc K 17 0)) + 0) ≤ 2 + km_nc K 17 0; omega) (by show 100 * (((0 + 2) + (km_nc K 17 0)) + 0) ≤ 100 * (2 + km_nc K 17 0); omega) ⟨rfl, oo17, pp17, hno17, kp20, E_r_20, F_r_text_20, F_r_fin_20, F_r_bare_20, F_r_position_20, E_t_20, F_t_value_20, F_t_coder_20, A_b_20, Or.inr ⟨_, _, u17, d17, ho17, Fw20, E_u17_20, F_u17_value_20, F_u17_coder_20, A_d17_20⟩⟩
  · exact absurd hc24 (by decide)
theorem ef_con_ri0 (m : MethodId) (r t b : Addr) (cs : List Int32) (K : List Nat) (fm : Value) (cz : Int32)  : entryFrame m #[(.ref r), (.ref t)] 2 = mkF m 0 #[.val (.ref r), .val (.ref t)] [] := by first | (simp [entryFrame, mkF, argsToLocals, Value.category]; done) | rfl
set_option maxRecDepth 65536 in
set_option maxHeartbeats 40000000 in
theorem con_ri0 (l : Launch) (Z : State) (a0 : Array Value) (hw : ∀ d ∈ tables_1, d.before a0 Z = true) (n0 : Nat) (h0 : Heap) (Z0 : n0 ≤ h0.size) (r t b : Addr) (cs : List Int32) (K : List Nat) (fm : Value) (cz : Int32) (od0 : Old Z n0 h0) (SF : Sta Z Z.heap "jdk/internal/util/Preconditions" "SIOOBE_FORMATTER" "Ljava/util/function/BiFunction;" fm) (hfm : fm.isRef = true) (SZ : Sta Z Z.heap "java/lang/String" "COMPACT_STRINGS" "Z" (.int cz)) (hcz : ¬ cz = 0) (E1 : Exa Z h0 t "java/lang/String") (FV : Fld Z h0 t "java/lang/String" "value" "[B" (.ref b)) (FC : Fld Z h0 t "java/lang/String" "coder" "B" (.int (own_coder cs))) (AB : Ary Z h0 b .byte (own_enc cs)) (hp : own_pfx cs = cs.length) (hn : cs.length ≤ 15) (hch : own_chr cs) (hK : own_rel cs K) (ER : Exa Z h0 r "com/example/wireform/wireform/text/MessageReader") (gr : n0 ≤ r) (R_text : Fld Z h0 r "com/example/wireform/wireform/text/MessageReader" "text" "Ljava/lang/String;" .null) (R_fin : Fld Z h0 r "com/example/wireform/wireform/text/MessageReader" "fin" "Z" (.int (0 : Int32))) (R_bare : Fld Z h0 r "com/example/wireform/wireform/text/MessageReader" "bare" "Z" (.int (0 : Int32))) (R_opening : Fld Z h0 r "com/example/wireform/wireform/text/MessageReader" "opening" "Ljava/lang/String;" .null) (R_position : Fld Z h0 r "com/example/wireform/wireform/text/MessageReader" "position" "I" (.int (0 : Int32))) (htr : t ≠ r) (hbr : b ≠ r) (hsw : own_sw cs [(123 : Int32), (49 : Int32), (58 : Int32)] 0 = 0) :
    ConW l Z own_EL n0 (⟨"com/example/wireform/wireform/text/MessageReader", "<init>", "(Ljava/lang/String;)V"⟩ : MethodName) prog_58_method_1_code 2 none ({ frames := 4, cells := 2, slots := 16, locals := 60 } : Room) #[(.ref r), (.ref t)] h0 [] (Vd fun h' => Keep h0 h' [r] ∧ Exa Z h' r "com/example/wireform/wireform/text/MessageReader" ∧ Fld Z h' r "com/example/wireform/wireform/text/MessageReader" "text" "Ljava/lang/String;" (.ref t) ∧ Fld Z h' r "com/example/wireform/wireform/text/MessageReader" "fin" "Z" (.int (0 : Int32)) ∧ Fld Z h' r "com/example/wireform/wireform/text/MessageReader" "bare" "Z" (.int (1 : Int32)) ∧ Exa Z h' t "java/lang/String" ∧ Fld Z h' t "java/lang/String" "value" "[B" (.ref b) ∧ Fld Z h' t "java/lang/String" "coder" "B" (.int (own_coder cs)) ∧ Ary Z h' b .byte (own_enc cs)) := by
  refine ConW.of_run (own_EW hw) pn_12 (fun m => ef_con_ri0 m r t b cs K fm cz ) ?_
  intro vm hal hsf
  refine RunW.aloadN d12_0 rfl rfl (pc' := 1) rfl ?_
  refine RunW.initO d12_1 (hw _ (List.mem_of_getElem? (i := 61) rfl)) (hw _ (List.mem_of_getElem? (i := 43) rfl)) (hw _ (List.mem_of_getElem? (i := 44) rfl)) rfl (by decide) (by show (0 : Nat) + 12 ≤ _; decide) (pc' := 4) rfl ?_
  refine RunW.aloadN d12_4 rfl rfl (pc' := 5) rfl ?_
  refine RunW.aloadN d12_5 rfl rfl (pc' := 6) rfl ?_
  refine RunW.putF d12_6 (host := "") (Or.inl (hw _ (List.mem_of_getElem? (i := 62) rfl))) Via.refl R_text ER (Or.inr ⟨(hw _ (List.mem_of_getElem? (i := 63) rfl)), rfl, rfl⟩) (hw _ (List.mem_of_getElem? (i := 56) rfl)) (ty := (.object "java/lang/String")) (by decide) (go_narref rfl rfl) rfl gr (Safe.exa hal ER (by decide) (by decide)) (pc' := 9) rfl ?_
  intro h11 W11 c11
  have Fw11 := R_text.same W11
  have E_t_11 := E1.wr W11
  have F_t_value_11 := FV.other W11 (Or.inl htr)
  have F_t_coder_11 := FC.other W11 (Or.inl htr)
  have A_b_11 := AB.other W11 hbr
  have E_r_11 := ER.wr W11
  have F_r_fin_11 := R_fin.other W11 (Or.inr (slot_ne (Or.inr (hw _ (List.mem_of_getElem? (i := 90) rfl))) (Or.inr (hw _ (List.mem_of_getElem? (i := 63) rfl))) (by decide) (t := .boolean) (t' := (.object "java/lang/String")) (by decide) (by decide)))
  have F_r_bare_11 := R_bare.other W11 (Or.inr (slot_ne (Or.inl (hw _ (List.mem_of_getElem? (i := 92) rfl))) (Or.inr (hw _ (List.mem_of_getElem? (i := 63) rfl))) (by decide) (t := .boolean) (t' := (.object "java/lang/String")) (by decide) (by decide)))
  have F_r_opening_11 := R_opening.other W11 (Or.inr (slot_ne (Or.inl (hw _ (List.mem_of_getElem? (i := 257) rfl))) (Or.inr (hw _ (List.mem_of_getElem? (i := 63) rfl))) (by decide) (t := (.object "java/lang/String")) (t' := (.object "java/lang/String")) (by decide) (by decide)))
  have F_r_position_11 := R_position.other W11 (Or.inr (slot_ne (Or.inl (hw _ (List.mem_of_getElem? (i := 201) rfl))) (Or.inr (hw _ (List.mem_of_getElem? (i := 63) rfl))) (by decide) (t := .int) (t' := (.object "java/lang/String")) (by decide) (by decide)))
  have sz11 : n0 ≤ h11.size := by rw [W11.size]; exact Z0
  have kp11 := Keep.wr (Keep.refl h0 [r]) W11 (Or.inl (List.mem_of_getElem? (i := 0) rfl))
  have od11 := od0.wr W11 gr
  refine RunW.aloadN d12_9 rfl rfl (pc' := 10) rfl ?_
  refine RunW.aloadN d12_10 rfl rfl (pc' := 11) rfl ?_
  refine RunW.ldcT (len := 12) (z := (3 : Int32)) (bs := [(.int (123 : Int32)), (.int (49 : Int32)), (.int (58 : Int32))]) (k' := 2) (n' := 16) d12_11 (hw _ (List.mem_of_getElem? (i := 64) rfl)) (own_wS hw) (own_EW hw) (List.mem_of_getElem? (i := 1) rfl) (by decide) (by decide) (by decide) (by decide) (by decide) (by decide) (by decide) (by decide) (pc' := 13) rfl ?_
  intro h12 vm12 a12 b12 E12 c12 X12 FC12 FV12 A12 ns12
  have E_t_12 := E_t_11.ext E12
  have F_t_value_12 := F_t_value_11.ext E12
  have F_t_coder_12 := F_t_coder_11.ext E12
  have A_b_12 := A_b_11.ext E12
  have E_r_12 := E_r_11.ext E12
  have F_r_fin_12 := F_r_fin_11.ext E12
  have F_r_bare_12 := F_r_bare_11.ext E12
  have F_r_opening_12 := F_r_opening_11.ext E12
  have F_r_position_12 := F_r_position_11.ext E12
  have F_r_text_12 := Fw11.ext E12
  have sz12 : n0 ≤ h12.size := Nat.le_trans sz11 E12.1
  have kp12 := Keep.ext kp11 E12
  have od12 := od11.ext E12
  have FCl13 : Fld Z h12 a12 "java/lang/String" "coder" "B" (.int (own_coder [(123 : Int32), (49 : Int32), (58 : Int32)])) := by rw [own_p1c]; exact FC12
  have ABl13 : Ary Z h12 b12 .byte (own_enc [(123 : Int32), (49 : Int32), (58 : Int32)]) := by rw [own_p1e]; exact A12
  refine RunW.callV (k' := 2) (n' := 16) (a := t) (as := [(.ref a12)]) (rest := [(.ref r)]) (con_sws l Z a0 hw n0 h12 sz12 t b a12 b12 cs [(123 : Int32), (49 : Int32), (58 : Int32)]  cz od12 SZ hcz E_t_12 F_t_value_12 F_t_coder_12 A_b_12 X12 FV12 FCl13 ABl13 (by decide) (by omega) hp hch own_p1p own_p1q) (by rintro _ _ ⟨_, -, -, rfl⟩; exact ⟨[], Keep.refl _ _, all0⟩) E_t_12 d12_13 (hw _ (List.mem_of_getElem? (i := 65) rfl)) (hw _ (List.mem_of_getElem? (i := 66) rfl)) (fun s hZ => notFace_of_selects (args := #[]) (mvT hZ (hw _ (List.mem_of_getElem? (i := 68) rfl)))) (hw _ (List.mem_of_getElem? (i := 68) rfl)) (hw _ (List.mem_of_getElem? (i := 67) rfl)) (hw _ (List.mem_of_getElem? (i := 1) rfl)) (hw _ (List.mem_of_getElem? (i := 69) rfl)) (by decide) pd__Ljava_lang_String__Z rfl rfl rfl (by decide) (by show (1 : Nat) + (2 + 11) + 46 ≤ _; decide) (by decide) (by decide) (by decide) (by decide) (pc' := 16) rfl ?_
  rintro _ _ ⟨_, rfl, rfl, rfl⟩ -
  show RunW l Z own_EL n0 "com/example/wireform/wireform/text/MessageReader" prog_58_method_1_code 2 none (⟨"com/example/wireform/wireform/text/MessageReader", "<init>", "(Ljava/lang/String;)V"⟩ : MethodName) ({ frames := 4, cells := 2, slots := 16, locals := 60 } : Room) _ 16 #[.val (.ref r), .val (.ref t)] [(.int (own_sw cs [(123 : Int32), (49 : Int32), (58 : Int32)] 0)), (.ref r)] h12 vm12 2 16
  rw [hsw]
  refine RunW.alike fun al15 => ?_
  refine RunW.putFN d12_16 (hw _ (List.mem_of_getElem? (i := 89) rfl)) Via.refl F_r_fin_12 E_r_12 (Or.inr ⟨(hw _ (List.mem_of_getElem? (i := 90) rfl)), rfl, rfl⟩) (hw _ (List.mem_of_getElem? (i := 56) rfl)) (ty := .boolean) (v' := (.int (0 : Int32))) (by decide) rfl rfl gr (Safe.exa al15 E_r_12 (by decide) (by decide)) (pc' := 19) rfl ?_
  intro h14 W14 c14
  have Fw14 := F_r_fin_12.same W14
  have E_t_14 := E_t_12.wr W14
  have F_t_value_14 := F_t_value_12.other W14 (Or.inl htr)
  have F_t_coder_14 := F_t_coder_12.other W14 (Or.inl htr)
  have A_b_14 := A_b_12.other W14 hbr
  have E_r_14 := E_r_12.wr W14
  have F_r_bare_14 := F_r_bare_12.other W14 (Or.inr (slot_ne (Or.inl (hw _ (List.mem_of_getElem? (i := 92) rfl))) (Or.inr (hw _ (List.mem_of_getElem? (i := 90) rfl))) (by decide) (t := .boolean) (t' := .boolean) (by decide) (by decide)))
  have F_r_opening_14 := F_r_opening_12.other W14 (Or.inr (slot_ne (Or.inl (hw _ (List.mem_of_getElem? (i := 257) rfl))) (Or.inr (hw _ (List.mem_of_getElem? (i := 90) rfl))) (by decide) (t := (.object "java/lang/String")) (t' := .boolean) (by decide) (by decide)))
  have F_r_position_14 := F_r_position_12.other W14 (Or.inr (slot_ne (Or.inl (hw _ (List.mem_of_getElem? (i := 201) rfl))) (Or.inr (hw _ (List.mem_of_getElem? (i := 90) rfl))) (by decide) (t := .int) (t' := .boolean) (by decide) (by decide)))
  have F_r_text_14 := F_r_text_12.other W14 (Or.inr (slot_ne (Or.inr (hw _ (List.mem_of_getElem? (i := 63) rfl))) (Or.inr (hw _ (List.mem_of_getElem? (i := 90) rfl))) (by decide) (t := (.object "java/lang/String")) (t' := .boolean) (by decide) (by decide)))
  have E_a12_14 := X12.wr W14
  have F_a12_coder_14 := FCl13.other W14 (Or.inl (own_xne X12 E_r_12 (by decide)))
  have F_a12_value_14 := FV12.other W14 (Or.inl (own_xne X12 E_r_12 (by decide)))
  have A_b12_14 := ABl13.other W14 (own_ane (hw _ (List.mem_of_getElem? (i := 56) rfl)) ABl13 E_r_12)
  have sz14 : n0 ≤ h14.size := by rw [W14.size]; exact sz12
  have kp14 := Keep.wr kp12 W14 (Or.inl (List.mem_of_getElem? (i := 0) rfl))
  have od14 := od12.wr W14 gr
  refine RunW.aloadN d12_19 rfl rfl (pc' := 20) rfl ?_
  refine RunW.aloadN d12_20 rfl rfl (pc' := 21) rfl ?_
  refine RunW.getF d12_21 (host := "") (Or.inl (hw _ (List.mem_of_getElem? (i := 89) rfl))) Via.refl Fw14 (pc' := 24) rfl ?_
  refine RunW.if_ne d12_24 (by decide) (pc' := 31) (by decide) (pa := 27) rfl (fun hc24 => ?_) (fun hc24 => ?_)
  · exact absurd hc24 (by decide)
  · refine RunW.iconst (1 : Int32) d12_27 (by decide) (pc' := 28) rfl ?_
    refine RunW.goto d12_28 (by decide) (pc' := 32) (by decide) ?_
    refine RunW.putFN d12_32 (hw _ (List.mem_of_getElem? (i := 91) rfl)) Via.refl F_r_bare_14 E_r_14 (Or.inl (hw _ (List.mem_of_getElem? (i := 92) rfl))) (hw _ (List.mem_of_getElem? (i := 56) rfl)) (ty := .boolean) (v' := (.int (1 : Int32))) (by decide) rfl rfl gr (Safe.exa al15 E_r_14 (by decide) (by decide)) (pc' := 35) rfl ?_
    intro h16 W16 c16
    have Fw16 := F_r_bare_14.same W16
    have E_t_16 := E_t_14.wr W16
    have F_t_value_16 := F_t_value_14.other W16 (Or.inl htr)
    have F_t_coder_16 := F_t_coder_14.other W16 (Or.inl htr)
    have A_b_16 := A_b_14.other W16 hbr
    have E_r_16 := E_r_14.wr W16
    have F_r_opening_16 := F_r_opening_14.other W16 (Or.inr (slot_ne (Or.inl (hw _ (List.mem_of_getElem? (i := 257) rfl))) (Or.inl (hw _ (List.mem_of_getElem? (i := 92) rfl))) (by decide) (t := (.object "java/lang/String")) (t' := .boolean) (by decide) (by decide)))
    have F_r_position_16 := F_r_position_14.other W16 (Or.inr (slot_ne (Or.inl (hw _ (List.mem_of_getElem? (i := 201) rfl))) (Or.inl (hw _ (List.mem_of_getElem? (i := 92) rfl))) (by decide) (t := .int) (t' := .boolean) (by decide) (by decide)))
    have F_r_text_16 := F_r_text_14.other W16 (Or.inr (slot_ne (Or.inr (hw _ (List.mem_of_getElem? (i := 63) rfl))) (Or.inl (hw _ (List.mem_of_getElem? (i := 92) rfl))) (by decide) (t := (.object "java/lang/String")) (t' := .boolean) (by decide) (by decide)))
    have E_a12_16 := E_a12_14.wr W16
    have F_a12_coder_16 := F_a12_coder_14.other W16 (Or.inl (own_xne E_a12_14 E_r_14 (by decide)))
    have F_a12_value_16 := F_a12_value_14.other W16 (Or.inl (own_xne E_a12_14 E_r_14 (by decide)))
    have A_b12_16 := A_b12_14.other W16 (own_ane (hw _ (List.mem_of_getElem? (i := 56) rfl)) A_b12_14 E_r_14)
    have F_r_fin_16 := Fw14.other W16 (Or.inr (slot_ne (Or.inr (hw _ (List.mem_of_getElem? (i := 90) rfl))) (Or.inl (hw _ (List.mem_of_getElem? (i := 92) rfl))) (by decide) (t := .boolean) (t' := .boolean) (by decide) (by decide)))
    have sz16 : n0 ≤ h16.size := by rw [W16.size]; exact sz14
    have kp16 := Keep.wr kp14 W16 (Or.inl (List.mem_of_getElem? (i := 0) rfl))
    have od16 := od14.wr W16 gr
    refine RunW.aloadN d12_35 rfl rfl (pc' := 36) rfl ?_
    refine RunW.getF d12_36 (host := "") (Or.inl (hw _ (List.mem_of_getElem? (i := 89) rfl))) Via.refl F_r_fin_16 (pc' := 39) rfl ?_
    refine RunW.if_eq d12_39 (by decide) (pc' := 50) (by decide) (pa := 42) rfl (fun hc39 => ?_) (fun hc39 => ?_)
    · exact RunW.vreturn d12_50 rfl (by decide) (by decide) ⟨rfl, kp16, E_r_16, F_r_text_16, F_r_fin_16, Fw16, E_t_16, F_t_value_16, F_t_coder_16, A_b_16⟩
    · exact absurd hc39 (by decide)
def own_stp (p1 : Int32) (p2 : Int32) (p3 : Int32) : Int32 := (if (p1 &&& (1 : Int32)) = (0 : Int32) then (if p2 = (0 : Int32) then p1 else (p1 + (1 : Int32))) else (if p3 = (0 : Int32) then p1 else (p1 + (1 : Int32))))
theorem d35_0 : decode method_2_code 0 = .ok (.iload_n 0, 1) := by decide +kernel
theorem d35_1 : decode method_2_code 1 = .ok (.iconst 1, 1) := by decide +kernel
theorem d35_2 : decode method_2_code 2 = .ok (.iand, 1) := by decide +kernel
theorem d35_3 : decode method_2_code 3 = .ok (.ifCond .ne 15, 3) := by decide +kernel
theorem d35_6 : decode method_2_code 6 = .ok (.iload_n 1, 1) := by decide +kernel
theorem d35_7 : decode method_2_code 7 = .ok (.ifCond .eq 9, 3) := by decide +kernel
theorem d35_10 : decode method_2_code 10 = .ok (.iload_n 0, 1) := by decide +kernel
theorem d35_11 : decode method_2_code 11 = .ok (.iconst 1, 1) := by decide +kernel
theorem d35_12 : decode method_2_code 12 = .ok (.iadd, 1) := by decide +kernel
theorem d35_13 : decode method_2_code 13 = .ok (.goto 4, 3) := by decide +kernel
theorem d35_16 : decode method_2_code 16 = .ok (.iload_n 0, 1) := by decide +kernel
theorem d35_17 : decode method_2_code 17 = .ok (.ireturn, 1) := by decide +kernel
theorem d35_18 : decode method_2_code 18 = .ok (.iload_n 2, 1) := by decide +kernel
theorem d35_19 : decode method_2_code 19 = .ok (.ifCond .eq 9, 3) := by decide +kernel
theorem d35_22 : decode method_2_code 22 = .ok (.iload_n 0, 1) := by decide +kernel
theorem d35_23 : decode method_2_code 23 = .ok (.iconst 1, 1) := by decide +kernel
theorem d35_24 : decode method_2_code 24 = .ok (.iadd, 1) := by decide +kernel
theorem d35_25 : decode method_2_code 25 = .ok (.goto 4, 3) := by decide +kernel
theorem d35_28 : decode method_2_code 28 = .ok (.iload_n 0, 1) := by decide +kernel
theorem d35_29 : decode method_2_code 29 = .ok (.ireturn, 1) := by decide +kernel
theorem pn_35 : plainFor (⟨"com/example/wireform/wireform/text/MessageReaderHasNextPinLaw", "step", "(IZZ)I"⟩ : MethodName) = true := plainFor_of_name (by first | (simp [plainName, overriddenIn]; done) | decide +kernel)
theorem ef_con_own_stp (m : MethodId) (p1 : Int32) (p2 : Int32) (p3 : Int32)  : entryFrame m #[(.int p1), (.int p2), (.int p3)] 3 = mkF m 0 #[.val (.int p1), .val (.int p2), .val (.int p3)] [] := by first | (simp [entryFrame, mkF, argsToLocals, Value.category]; done) | rfl
set_option maxRecDepth 65536 in
set_option maxHeartbeats 40000000 in
theorem con_own_stp (l : Launch) (Z : State) (a0 : Array Value) (hw : ∀ d ∈ tables_1, d.before a0 Z = true) (n0 : Nat) (h0 : Heap) (Z0 : n0 ≤ h0.size) (p1 : Int32) (p2 : Int32) (p3 : Int32)  :
    Con l Z n0 (⟨"com/example/wireform/wireform/text/MessageReaderHasNextPinLaw", "step", "(IZZ)I"⟩ : MethodName) method_2_code 3 (some .int) ({ frames := 0, cells := 0, slots := 0, locals := 0 } : Room) #[(.int p1), (.int p2), (.int p3)] h0 (Val (PV (.int (own_stp p1 p2 p3)) h0)) := by
  refine Con.of_run pn_35 (fun m => ef_con_own_stp m p1 p2 p3 ) ?_
  refine Run.iloadN d35_0 rfl (pc' := 1) rfl ?_
  refine Run.iconst (1 : Int32) d35_1 (by decide) (pc' := 2) rfl ?_
  refine Run.iand d35_2 (pc' := 3) rfl ?_
  refine Run.if_ne d35_3 (by decide) (pc' := 18) (by decide) (pa := 6) rfl (fun hc3 => ?_) (fun hc3 => ?_)
  · refine Run.iloadN d35_18 rfl (pc' := 19) rfl ?_
    refine Run.if_eq d35_19 (by decide) (pc' := 28) (by decide) (pa := 22) rfl (fun hc19 => ?_) (fun hc19 => ?_)
    · refine Run.iloadN d35_28 rfl (pc' := 29) rfl ?_
      exact Run.ireturn d35_29 rfl (by decide) (by decide) ⟨_, rfl, congrArg Value.int (by unfold own_stp; rw [if_neg hc3, if_pos hc19] <;> rfl), rfl⟩
    · refine Run.iloadN d35_22 rfl (pc' := 23) rfl ?_
      refine Run.iconst (1 : Int32) d35_23 (by decide) (pc' := 24) rfl ?_
      refine Run.iadd d35_24 (pc' := 25) rfl ?_
      refine Run.goto d35_25 (by decide) (pc' := 29) (by decide) ?_
      exact Run.ireturn d35_29 rfl (by decide) (by decide) ⟨_, rfl, congrArg Value.int (by unfold own_stp; rw [if_neg hc3, if_neg hc19] <;> rfl), rfl⟩
  · refine Run.iloadN d35_6 rfl (pc' := 7) rfl ?_
    refine Run.if_eq d35_7 (by decide) (pc' := 16) (by decide) (pa := 10) rfl (fun hc7 => ?_) (fun hc7 => ?_)
    · refine Run.iloadN d35_16 rfl (pc' := 17) rfl ?_
      exact Run.ireturn d35_17 rfl (by decide) (by decide) ⟨_, rfl, congrArg Value.int (by unfold own_stp; rw [if_pos hc3, if_pos hc7] <;> rfl), rfl⟩
    · refine Run.iloadN d35_10 rfl (pc' := 11) rfl ?_
      refine Run.iconst (1 : Int32) d35_11 (by decide) (pc' := 12) rfl ?_
      refine Run.iadd d35_12 (pc' := 13) rfl ?_
      refine Run.goto d35_13 (by decide) (pc' := 17) (by decide) ?_
      exact Run.ireturn d35_17 rfl (by decide) (by decide) ⟨_, rfl, congrArg Value.int (by unfold own_stp; rw [if_pos hc3, if_neg hc7] <;> rfl), rfl⟩
def own_tb : List Int32 := [10, 10, 10, 36, 13, 10, 45, 125, 10, 45, 97, 10, 36, 36, 10, 13, 10, 10, 36, 10, 10, 10, 36, 10]
theorem own_tbc : own_coder own_tb = 0 := by decide
theorem own_tbp : own_pfx own_tb = own_tb.length := by decide
theorem own_tbe : own_enc own_tb = [.int 10, .int 10, .int 10, .int 36, .int 13, .int 10, .int 45, .int 125, .int 10, .int 45, .int 97, .int 10, .int 36, .int 36, .int 10, .int 13, .int 10, .int 10, .int 36, .int 10, .int 10, .int 10, .int 36, .int 10] := by rw [own_encP own_tbp]; rfl
theorem own_tbl : own_tb.length = 24 := rfl
theorem own_tbL : own_lat own_tb := by unfold own_lat; decide
theorem own_latN {c : Int32} (h : c.toInt ≤ 255) : ¬ (255 : Int32) < c := by rw [Int32.lt_iff_toInt_lt]; have e : (255 : Int32).toInt = 255 := rfl; omega
theorem own_latp {cs : List Int32} (h : own_lat cs) : own_pfx cs = cs.length := own_pfxi fun c hc => own_latN (h c hc).2
theorem own_latq {cs : List Int32} (h : own_lat cs) : own_chr cs := fun c hc => ⟨(h c hc).1, by have := (h c hc).2; omega⟩
theorem own_lato {cs : List Int32} (h : own_lat cs) : own_coder cs = 0 := by unfold own_coder; rw [if_pos (own_latp h)]
theorem own_late {cs : List Int32} (h : own_lat cs) : own_enc cs = own_by cs := own_encP (own_latp h)
theorem own_tbb (i : Nat) : 0 ≤ (own_tb.getD i 0).toInt ∧ (own_tb.getD i 0).toInt ≤ 255 := by
  by_cases h : i < own_tb.length
  · rw [own_gD h]; exact own_tbL _ (List.getElem_mem h)
  · rw [show own_tb.getD i 0 = 0 by simp [List.getD_eq_getElem?_getD, Nat.le_of_not_lt h]]; decide
theorem own_nchI {x : Int32} (h : 0 ≤ x.toInt ∧ x.toInt ≤ 255) : nar .char x = x := by
  apply own_eqi
  have q := c_i2c x
  change ((nar .char _).toInt - _) % 65536 = 0 ∧ 0 ≤ (nar .char _).toInt ∧ (nar .char _).toInt < 65536 at q
  omega
theorem own_chm (x : Int32) : 0 ≤ (nar .char (x &&& (255 : Int32))).toInt ∧ (nar .char (x &&& (255 : Int32))).toInt ≤ 255 := by
  have m := c_mask x 255 8 (by decide) (by decide)
  simp only [Nat.reducePow] at m
  rw [own_nchI (by omega)]; omega
theorem own_m7 (x : Int32) : ∃ n : Nat, n < 8 ∧ x &&& (7 : Int32) = Int32.ofNat n := by
  have m := c_mask x 7 3 (by decide) (by decide)
  simp only [Nat.reducePow] at m
  refine ⟨(x &&& (7 : Int32)).toInt.toNat, by omega, own_eqi ?_⟩
  rw [own_ofn (by omega)]; omega
theorem own_m30 (k : Nat) : Int32.ofNat k * (3 : Int32) = Int32.ofNat (3 * k + 0) := by rw [Nat.add_zero, Nat.mul_comm, show (3 : Int32) = Int32.ofNat 3 from rfl, ← Int32.ofNat_mul]
theorem own_m31 (k : Nat) : Int32.ofNat k * (3 : Int32) + (1 : Int32) = Int32.ofNat (3 * k + 1) := by rw [own_m30, Nat.add_zero, own_inc]
theorem own_m32 (k : Nat) : Int32.ofNat k * (3 : Int32) + (2 : Int32) = Int32.ofNat (3 * k + 2) := by rw [own_m30, Nat.add_zero, show (2 : Int32) = Int32.ofNat 2 from rfl, own_addn]
def own_tx (c0 c1 c2 d c : Int32) (k1 k2 k3 : Nat) : List Int32 := [c0, c1, c2, d, 10, own_tb.getD (3 * k1 + 0) 0, own_tb.getD (3 * k1 + 1) 0, own_tb.getD (3 * k1 + 2) 0, own_tb.getD (3 * k2 + 0) 0, own_tb.getD (3 * k2 + 1) 0, own_tb.getD (3 * k2 + 2) 0, own_tb.getD (3 * k3 + 0) 0, own_tb.getD (3 * k3 + 1) 0, own_tb.getD (3 * k3 + 2) 0, c]
theorem own_txl {c0 c1 c2 d c : Int32} (k1 k2 k3 : Nat) (h0 : 0 ≤ c0.toInt ∧ c0.toInt ≤ 255) (h1 : 0 ≤ c1.toInt ∧ c1.toInt ≤ 255) (h2 : 0 ≤ c2.toInt ∧ c2.toInt ≤ 255) (hd : 0 ≤ d.toInt ∧ d.toInt ≤ 255) (hc : 0 ≤ c.toInt ∧ c.toInt ≤ 255) : own_lat (own_tx c0 c1 c2 d c k1 k2 k3) := by
  intro v hv
  unfold own_tx at hv
  simp only [List.mem_cons, List.not_mem_nil, or_false] at hv
  rcases hv with rfl | rfl | rfl | rfl | rfl | rfl | rfl | rfl | rfl | rfl | rfl | rfl | rfl | rfl | rfl <;> first | assumption | exact own_tbb _ | decide
def own_bit (a k : Int32) : Int32 := if XT.ushr a k &&& (1 : Int32) = (0 : Int32) then 0 else 1
def own_q36 (c : Int32) : Int32 := if c = 36 then 1 else 0
def own_qop (c : Int32) : Int32 := if c = 10 ∨ c = 36 then 0 else 1
def own_kx (d : Int32) : Nat := if d = 10 then 0 else if d = 13 then 1 else if d = 36 then 2 else 5
def own_ky (c : Int32) : Nat := if c = 10 then 0 else if c = 36 then 2 else 5
def km_tab : List Nat := [0, 0, 0, 2, 1, 0, 3, 4, 0, 3, 5, 0, 2, 2, 0, 1, 0, 0, 2, 0, 0, 0, 2, 0]
def km_T (k1 k2 k3 x y : Nat) : List Nat := [5, 5, 5, x, 0, km_tab.getD (3 * k1 + 0) 9, km_tab.getD (3 * k1 + 1) 9, km_tab.getD (3 * k1 + 2) 9, km_tab.getD (3 * k2 + 0) 9, km_tab.getD (3 * k2 + 1) 9, km_tab.getD (3 * k2 + 2) 9, km_tab.getD (3 * k3 + 0) 9, km_tab.getD (3 * k3 + 1) 9, km_tab.getD (3 * k3 + 2) 9, y]
/-- one char and its class; the pair rule apart -/
def own_rc (c : Int32) (k : Nat) : Prop := (c = 10 ↔ k = 0) ∧ (c = 36 ↔ k = 2) ∧ (c = 13 ↔ k = 1)
theorem own_rct : ∀ k, k < 24 → (own_tb.getD k 0 = 10 ↔ km_tab.getD k 9 = 0) ∧ (own_tb.getD k 0 = 36 ↔ km_tab.getD k 9 = 2) ∧ (own_tb.getD k 0 = 13 ↔ km_tab.getD k 9 = 1) ∧ (own_tb.getD k 0 = 45 ↔ km_tab.getD k 9 = 3) ∧ (own_tb.getD k 0 = 125 ↔ km_tab.getD k 9 = 4) := by decide
theorem own_rc2 : ∀ k, k < 8 → own_tb.getD (3 * k + 2) 0 = 10 ∧ km_tab.getD (3 * k + 2) 9 = 0 := by decide
theorem own_relT {d c : Int32} {k1 k2 k3 : Nat} (h1 : k1 < 8) (h2 : k2 < 8) (h3 : k3 < 8) : own_rel (own_tx 123 49 58 d c k1 k2 k3) (km_T k1 k2 k3 (own_kx d) (own_ky c)) := by
  have dx : (d = 10 ↔ own_kx d = 0) ∧ (d = 36 ↔ own_kx d = 2) ∧ (d = 13 ↔ own_kx d = 1) ∧ own_kx d ≠ 3 ∧ own_kx d ≠ 4 := by
    unfold own_kx
    by_cases a : d = 10
    · subst a; decide
    · by_cases b : d = 13
      · subst b; decide
      · by_cases e : d = 36
        · subst e; decide
        · simp [a, b, e]
  have cy : (c = 10 ↔ own_ky c = 0) ∧ (c = 36 ↔ own_ky c = 2) := by
    unfold own_ky
    by_cases a : c = 10
    · subst a; decide
    · by_cases e : c = 36
      · subst e; decide
      · simp [a, e]
  have q10 := own_rct (3 * k1 + 0) (by omega); have q11 := own_rct (3 * k1 + 1) (by omega); have q12 := own_rct (3 * k1 + 2) (by omega)
  have q20 := own_rct (3 * k2 + 0) (by omega); have q21 := own_rct (3 * k2 + 1) (by omega); have q22 := own_rct (3 * k2 + 2) (by omega)
  have q30 := own_rct (3 * k3 + 0) (by omega); have q31 := own_rct (3 * k3 + 1) (by omega); have q32 := own_rct (3 * k3 + 2) (by omega)
  have r1 := own_rc2 k1 h1; have r2 := own_rc2 k2 h2; have r3 := own_rc2 k3 h3
  refine ⟨rfl, fun i hi => ?_⟩
  have hi' : i < 15 := hi
  match i, hi' with
  | 0, _ => exact ⟨(by decide : (123 : Int32) = 10 ↔ (5 : Nat) = 0), (by decide : (123 : Int32) = 36 ↔ (5 : Nat) = 2), fun _ => ⟨(by decide : (123 : Int32) = 13 ↔ (5 : Nat) = 1), (by decide : ((123 : Int32) = 45 ∧ (49 : Int32) = 125) ↔ ((5 : Nat) = 3 ∧ (5 : Nat) = 4))⟩⟩
  | 1, _ => exact ⟨(by decide : (49 : Int32) = 10 ↔ (5 : Nat) = 0), (by decide : (49 : Int32) = 36 ↔ (5 : Nat) = 2), fun _ => ⟨(by decide : (49 : Int32) = 13 ↔ (5 : Nat) = 1), (by decide : ((49 : Int32) = 45 ∧ (58 : Int32) = 125) ↔ ((5 : Nat) = 3 ∧ (5 : Nat) = 4))⟩⟩
  | 2, _ => exact ⟨(by decide : (58 : Int32) = 10 ↔ (5 : Nat) = 0), (by decide : (58 : Int32) = 36 ↔ (5 : Nat) = 2), fun _ => ⟨(by decide : (58 : Int32) = 13 ↔ (5 : Nat) = 1), ⟨fun z => absurd (show (58 : Int32) = 45 from z.1) (by decide), fun z => absurd (show (5 : Nat) = 3 from z.1) (by decide)⟩⟩⟩
  | 3, _ => exact ⟨dx.1, dx.2.1, fun _ => ⟨dx.2.2.1, ⟨fun z => absurd (show (10 : Int32) = 125 from z.2) (by decide), fun z => absurd (show (0 : Nat) = 4 from z.2) (by decide)⟩⟩⟩
  | 4, _ => exact ⟨(by decide : (10 : Int32) = 10 ↔ (0 : Nat) = 0), (by decide : (10 : Int32) = 36 ↔ (0 : Nat) = 2), fun _ => ⟨(by decide : (10 : Int32) = 13 ↔ (0 : Nat) = 1), ⟨fun z => absurd (show (10 : Int32) = 45 from z.1) (by decide), fun z => absurd (show (0 : Nat) = 3 from z.1) (by decide)⟩⟩⟩
  | 5, _ => exact ⟨q10.1, q10.2.1, fun _ => ⟨q10.2.2.1, and_congr q10.2.2.2.1 q11.2.2.2.2⟩⟩
  | 6, _ => exact ⟨q11.1, q11.2.1, fun _ => ⟨q11.2.2.1, and_congr q11.2.2.2.1 q12.2.2.2.2⟩⟩
  | 7, _ => exact ⟨q12.1, q12.2.1, fun _ => ⟨q12.2.2.1, and_congr q12.2.2.2.1 q20.2.2.2.2⟩⟩
  | 8, _ => exact ⟨q20.1, q20.2.1, fun _ => ⟨q20.2.2.1, and_congr q20.2.2.2.1 q21.2.2.2.2⟩⟩
  | 9, _ => exact ⟨q21.1, q21.2.1, fun _ => ⟨q21.2.2.1, and_congr q21.2.2.2.1 q22.2.2.2.2⟩⟩
  | 10, _ => exact ⟨q22.1, q22.2.1, fun _ => ⟨q22.2.2.1, and_congr q22.2.2.2.1 q30.2.2.2.2⟩⟩
  | 11, _ => exact ⟨q30.1, q30.2.1, fun _ => ⟨q30.2.2.1, and_congr q30.2.2.2.1 q31.2.2.2.2⟩⟩
  | 12, _ => exact ⟨q31.1, q31.2.1, fun _ => ⟨q31.2.2.1, and_congr q31.2.2.2.1 q32.2.2.2.2⟩⟩
  | 13, _ => exact ⟨q32.1, q32.2.1, fun _ => ⟨q32.2.2.1, ⟨fun z => absurd (r3.1.symm.trans z.1) (by decide), fun z => absurd (r3.2.symm.trans z.1) (by decide)⟩⟩⟩
  | 14, _ => exact ⟨cy.1, cy.2, fun z => absurd z (by show ¬ 14 + 1 < 15; decide)⟩
/-- the count, as a number -/
def km_st (s : Nat) (en op : Bool) : Nat := if s % 2 = 0 then (if en then s + 1 else s) else (if op then s + 1 else s)
def km_en (k : Nat) : Bool := (198 >>> k) % 2 == 1
def km_op (k : Nat) : Bool := (28 >>> k) % 2 == 1
def km_s (k1 k2 k3 y : Nat) : Nat := km_st (km_st (km_st (km_st 2 (km_en k1) (km_op k1)) (km_en k2) (km_op k2)) (km_en k3) (km_op k3)) (y == 2) (y != 0 && y != 2)
def km_sm (o : Option (Nat × Nat) × Nat) : Bool := match o.1 with | none => true | some (s, e) => decide (e - s ≤ 5) && decide (e ≤ 15)
def km_nx (K : List Nat) (p : Nat) : Option (Nat × Nat) × Nat := km_no K 17 (km_sc K 17 p).1
def km_nxc (K : List Nat) (p : Nat) : Nat := 8 + km_scc K 17 p + km_nc K 17 (km_sc K 17 p).1
def km_ok (k1 k2 k3 x y : Nat) : Bool :=
  let K := km_T k1 k2 k3 x y
  let n := km_s k1 k2 k3 y / 2
  let o0 := km_no K 17 0
  let c0 := 8 + km_nc K 17 0
  o0.1.isSome && (km_sm o0 && (let o1 := km_nx K o0.2
    let c1 := c0 + km_nxc K o0.2
    km_sm o1 && ((o1.1.isSome == decide (1 < n)) && (decide (c1 ≤ 80) && (decide (n < 2) || (let o2 := km_nx K o1.2
      let c2 := c1 + km_nxc K o1.2
      km_sm o2 && ((o2.1.isSome == decide (2 < n)) && (decide (c2 ≤ 80) && (decide (n < 3) || (let o3 := km_nx K o2.2
        let c3 := c2 + km_nxc K o2.2
        o3.1.isNone && decide (c3 ≤ 80)))))))))))
theorem km_okI {k1 k2 k3 x y : Nat} (h : km_ok k1 k2 k3 x y = true) : (km_no (km_T k1 k2 k3 x y) 17 0).1.isSome = true ∧ km_sm (km_no (km_T k1 k2 k3 x y) 17 0) = true ∧ km_sm (km_nx (km_T k1 k2 k3 x y) (km_no (km_T k1 k2 k3 x y) 17 0).2) = true ∧ ((km_nx (km_T k1 k2 k3 x y) (km_no (km_T k1 k2 k3 x y) 17 0).2).1.isSome = decide (1 < km_s k1 k2 k3 y / 2)) ∧ 8 + km_nc (km_T k1 k2 k3 x y) 17 0 + km_nxc (km_T k1 k2 k3 x y) (km_no (km_T k1 k2 k3 x y) 17 0).2 ≤ 80 ∧
    (km_s k1 k2 k3 y / 2 < 2 ∨ (km_sm (km_nx (km_T k1 k2 k3 x y) (km_nx (km_T k1 k2 k3 x y) (km_no (km_T k1 k2 k3 x y) 17 0).2).2) = true ∧ ((km_nx (km_T k1 k2 k3 x y) (km_nx (km_T k1 k2 k3 x y) (km_no (km_T k1 k2 k3 x y) 17 0).2).2).1.isSome = decide (2 < km_s k1 k2 k3 y / 2)) ∧ 8 + km_nc (km_T k1 k2 k3 x y) 17 0 + km_nxc (km_T k1 k2 k3 x y) (km_no (km_T k1 k2 k3 x y) 17 0).2 + km_nxc (km_T k1 k2 k3 x y) (km_nx (km_T k1 k2 k3 x y) (km_no (km_T k1 k2 k3 x y) 17 0).2).2 ≤ 80 ∧
      (km_s k1 k2 k3 y / 2 < 3 ∨ ((km_nx (km_T k1 k2 k3 x y) (km_nx (km_T k1 k2 k3 x y) (km_nx (km_T k1 k2 k3 x y) (km_no (km_T k1 k2 k3 x y) 17 0).2).2).2).1.isNone = true ∧ 8 + km_nc (km_T k1 k2 k3 x y) 17 0 + km_nxc (km_T k1 k2 k3 x y) (km_no (km_T k1 k2 k3 x y) 17 0).2 + km_nxc (km_T k1 k2 k3 x y) (km_nx (km_T k1 k2 k3 x y) (km_no (km_T k1 k2 k3 x y) 17 0).2).2 + km_nxc (km_T k1 k2 k3 x y) (km_nx (km_T k1 k2 k3 x y) (km_nx (km_T k1 k2 k3 x y) (km_no (km_T k1 k2 k3 x y) 17 0).2).2).2 ≤ 80)))) := by
  unfold km_ok at h
  simp only [Bool.and_eq_true, Bool.or_eq_true, beq_iff_eq, decide_eq_true_eq] at h
  exact h
set_option maxRecDepth 100000 in
theorem km_all : ∀ k1, k1 < 8 → ∀ k2, k2 < 8 → ∀ k3, k3 < 8 → ∀ x ∈ [0, 1, 2, 5], ∀ y ∈ [0, 2, 5], km_ok k1 k2 k3 x y = true := by decide +kernel
theorem own_kxm (d : Int32) : own_kx d ∈ [0, 1, 2, 5] := by unfold own_kx; repeat' split
                                                            all_goals decide
theorem own_kym (c : Int32) : own_ky c ∈ [0, 2, 5] := by unfold own_ky; repeat' split
                                                         all_goals decide
/-- what the law asks of the reading, over its text's classes -/
def own_good (K : List Nat) (n : Nat) : Prop := ((km_no K 17 0).1.isSome = true) ∧ (km_sm (km_no K 17 0) = true) ∧ (km_sm (km_nx K (km_no K 17 0).2) = true) ∧ ((km_nx K (km_no K 17 0).2).1.isSome = decide (1 < n)) ∧ (8 + km_nc K 17 0 + km_nxc K (km_no K 17 0).2 ≤ 80) ∧ (¬ n < 2 → km_sm (km_nx K (km_nx K (km_no K 17 0).2).2) = true ∧ ((km_nx K (km_nx K (km_no K 17 0).2).2).1.isSome = decide (2 < n)) ∧ 8 + km_nc K 17 0 + km_nxc K (km_no K 17 0).2 + km_nxc K (km_nx K (km_no K 17 0).2).2 ≤ 80) ∧ (¬ n < 3 → (km_nx K (km_nx K (km_nx K (km_no K 17 0).2).2).2).1.isNone = true ∧ 8 + km_nc K 17 0 + km_nxc K (km_no K 17 0).2 + km_nxc K (km_nx K (km_no K 17 0).2).2 + km_nxc K (km_nx K (km_nx K (km_no K 17 0).2).2).2 ≤ 80)
theorem own_isgood {k1 k2 k3 : Nat} (d c : Int32) (h1 : k1 < 8) (h2 : k2 < 8) (h3 : k3 < 8) : own_good (km_T k1 k2 k3 (own_kx d) (own_ky c)) (km_s k1 k2 k3 (own_ky c) / 2) := by
  obtain ⟨a1, a2, a3, a4, a5, a6⟩ := km_okI (km_all k1 h1 k2 h2 k3 h3 _ (own_kxm d) _ (own_kym c))
  refine ⟨a1, a2, a3, a4, a5, fun z => ?_, fun z => ?_⟩
  · rcases a6 with q | ⟨q1, q2, q3, -⟩
    · exact absurd q z
    · exact ⟨q1, q2, q3⟩
  · rcases a6 with q | ⟨-, -, -, q | ⟨q1, q2⟩⟩
    · omega
    · exact absurd q z
    · exact ⟨q1, q2⟩
theorem km_smI {o : Option (Nat × Nat) × Nat} {s e p : Nat} (h : km_sm o = true) (ho : o = (some (s, e), p)) : e - s ≤ 5 ∧ e ≤ 15 := by
  rw [ho] at h; unfold km_sm at h; simp only [Bool.and_eq_true, decide_eq_true_eq] at h; exact h
theorem km_no_bd {K : List Nat} : ∀ t p, p ≤ K.length + 1 → (km_no K t p).2 ≤ K.length + 1
  | 0, p, h => h
  | t + 1, p, h => by
    by_cases q : p < K.length
    · have hb := km_le_bd (K := K) (p := p) (by omega)
      by_cases r : km_e K p (km_le K p) = p
      · rw [(km_nc0 (t := t) q r).2]; exact km_no_bd t _ (by omega)
      · by_cases u : km_e K p (km_le K p) = p + 1 ∧ K.getD p 9 = 2
        · rw [(km_nc1 (t := t) q r u).2]; exact km_no_bd t _ (by omega)
        · rw [(km_nc2 (t := t) q r u).2]; show km_le K p + 1 ≤ _; omega
    · rw [km_no0 q]; exact h
theorem own_cl6 : True := trivial
def own_cl (c : Int32) : Nat := if c = 10 then 0 else if c = 13 then 1 else if c = 36 then 2 else if c = 45 then 3 else if c = 125 then 4 else 5
theorem own_clI (c : Int32) : (c = 10 ↔ own_cl c = 0) ∧ (c = 36 ↔ own_cl c = 2) ∧ (c = 13 ↔ own_cl c = 1) ∧ (c = 45 ↔ own_cl c = 3) ∧ (c = 125 ↔ own_cl c = 4) := by
  unfold own_cl
  by_cases a : c = 10
  · subst a; decide
  · by_cases b : c = 13
    · subst b; decide
    · by_cases d : c = 36
      · subst d; decide
      · by_cases e : c = 45
        · subst e; decide
        · by_cases f : c = 125
          · subst f; decide
          · simp [a, b, d, e, f]
theorem own_relM (cs : List Int32) : own_rel cs (cs.map own_cl) := by
  have g : ∀ i, i < cs.length → (cs.map own_cl).getD i 9 = own_cl (cs.getD i 0) := fun i hi => by simp [List.getD_eq_getElem?_getD, hi]
  refine ⟨by simp, fun i hi => ?_⟩
  have q := own_clI (cs.getD i 0)
  rw [g i hi]
  refine ⟨q.1, q.2.1, fun h => ⟨q.2.2.1, ?_⟩⟩
  have r := own_clI (cs.getD (i + 1) 0)
  rw [g _ h]
  exact and_congr q.2.2.2.1 r.2.2.2.2
theorem own_swT {c0 c1 c2 d c : Int32} {k1 k2 k3 : Nat} : own_sw (own_tx c0 c1 c2 d c k1 k2 k3) [123, 49, 58] 0 = if c0 = 123 ∧ c1 = 49 ∧ c2 = 58 then 1 else 0 := by
  unfold own_sw; rw [if_neg (by show ¬ 15 < 0 + 3; decide)]
  show (if (if c0 = 123 then (if c1 = 49 then (if c2 = 58 then (-1 : Int32) else Int32.ofNat 2) else Int32.ofNat 1) else Int32.ofNat 0) < 0 then (1 : Int32) else 0) = _
  by_cases a : c0 = 123
  · by_cases b : c1 = 49
    · by_cases e : c2 = 58
      · rw [if_pos a, if_pos b, if_pos e, if_pos (show (-1 : Int32) < 0 by decide), if_pos ⟨a, b, e⟩]
      · rw [if_pos a, if_pos b, if_neg e, if_neg (show ¬ Int32.ofNat 2 < 0 by decide), if_neg (fun z => e z.2.2)]
    · rw [if_pos a, if_neg b, if_neg (show ¬ Int32.ofNat 1 < 0 by decide), if_neg (fun z => b z.2.1)]
  · rw [if_neg a, if_neg (show ¬ Int32.ofNat 0 < 0 by decide), if_neg (fun z => a z.1)]
theorem own_cntK : ∀ k1, k1 < 8 → ∀ k2, k2 < 8 → ∀ k3, k3 < 8 → ∀ t ∈ [((0 : Int32), (0 : Int32), 0), (1, 0, 2), (0, 1, 5)], XT.ushr (own_stp (own_stp (own_stp (own_stp 2 (own_bit 198 (Int32.ofNat k1)) (own_bit 28 (Int32.ofNat k1))) (own_bit 198 (Int32.ofNat k2)) (own_bit 28 (Int32.ofNat k2))) (own_bit 198 (Int32.ofNat k3)) (own_bit 28 (Int32.ofNat k3))) t.1 t.2.1) (1 : Int32) = Int32.ofNat (km_s k1 k2 k3 t.2.2 / 2) := by decide +kernel
theorem own_cnt {k1 k2 k3 : Nat} (h1 : k1 < 8) (h2 : k2 < 8) (h3 : k3 < 8) (c : Int32) : XT.ushr (own_stp (own_stp (own_stp (own_stp 2 (own_bit 198 (Int32.ofNat k1)) (own_bit 28 (Int32.ofNat k1))) (own_bit 198 (Int32.ofNat k2)) (own_bit 28 (Int32.ofNat k2))) (own_bit 198 (Int32.ofNat k3)) (own_bit 28 (Int32.ofNat k3))) (own_q36 c) (own_qop c)) (1 : Int32) = Int32.ofNat (km_s k1 k2 k3 (own_ky c) / 2) := by
  by_cases a : c = 10
  · subst a; exact own_cntK k1 h1 k2 h2 k3 h3 (0, 0, 0) (by decide)
  · by_cases b : c = 36
    · subst b; exact own_cntK k1 h1 k2 h2 k3 h3 (1, 0, 2) (by decide)
    · have e1 : own_q36 c = 0 := by unfold own_q36; rw [if_neg b]
      have e2 : own_qop c = 1 := by unfold own_qop; rw [if_neg (fun z => z.elim a b)]
      have e3 : own_ky c = 5 := by unfold own_ky; rw [if_neg a, if_neg b]
      rw [e1, e2, e3]; exact own_cntK k1 h1 k2 h2 k3 h3 (0, 1, 5) (by decide)
theorem km_sle : ∀ k1, k1 < 8 → ∀ k2, k2 < 8 → ∀ k3, k3 < 8 → ∀ y ∈ [0, 2, 5], km_s k1 k2 k3 y / 2 ≤ 3 := by decide +kernel
theorem km_sc_bd {K : List Nat} : ∀ t p, p ≤ K.length + 1 → (km_sc K t p).1 ≤ K.length + 1
  | 0, p, h => h
  | t + 1, p, h => by
    by_cases q : p < K.length
    · have hb := km_le_bd (K := K) (p := p) (by omega)
      by_cases r : K.getD p 9 = 3 ∧ K.getD (p + 1) 9 = 4
      · rw [(km_s0 (t := t) q r).2]; show km_le K p + 1 ≤ _; omega
      · by_cases u : K.getD p 9 = 2 ∧ km_e K p (km_le K p) = p + 1
        · rw [(km_s1 (t := t) q r u).2]; show km_le K p + 1 ≤ _; omega
        · rw [(km_s2 (t := t) q r u).2]; exact km_sc_bd t _ (by omega)
    · rw [(km_s9 q).1]; exact h
theorem pn_0 : plainFor x = true := plainFor_of_name (by first | (simp [plainName, overriddenIn]; done) | decide +kernel)
theorem pd___Lcom_example_wireform_wireform_text_Message_ : parseMethodDescriptor "()Lcom/example/wireform/wireform/text/Message;" = some ⟨[], some (.object "com/example/wireform/wireform/text/Message")⟩ := by decide +kernel
theorem pd__IZZ_I : parseMethodDescriptor "(IZZ)I" = some ⟨[.int, .boolean, .boolean], some .int⟩ := by decide +kernel
theorem pd__Ljava_lang_String__V : parseMethodDescriptor "(Ljava/lang/String;)V" = some ⟨[(.object "java/lang/String")], none⟩ := by decide +kernel
theorem pd___C_V : parseMethodDescriptor "([C)V" = some ⟨[(.array .char)], none⟩ := by decide +kernel
theorem ef_con0 (m : MethodId) (p1 : Int32) (p2 : Int32) (p3 : Int32) (p4 : Int32) (p5 : Int32) (fm : Value) (cz : Int32)  : entryFrame m #[(.int p1), (.int p2), (.int p3), (.int p4), (.int p5)] maxLocals = mkF m 0 #[.val (.int p1), .val (.int p2), .val (.int p3), .val (.int p4), .val (.int p5), .unset, .unset, .unset, .unset, .unset, .unset, .unset, .unset, .unset, .unset, .unset, .unset, .unset] [] := by first | (simp [entryFrame, mkF, argsToLocals, Value.category, maxLocals]; done) | rfl
set_option maxRecDepth 65536 in
set_option maxHeartbeats 40000000 in
theorem con0 (l : Launch) (Z : State) (a0 : Array Value) (hw : ∀ d ∈ tables_1, d.before a0 Z = true) (n0 : Nat) (h0 : Heap) (Z0 : n0 ≤ h0.size) (p1 : Int32) (p2 : Int32) (p3 : Int32) (p4 : Int32) (p5 : Int32) (fm : Value) (cz : Int32) (od0 : Old Z n0 h0) (SF : Sta Z Z.heap "jdk/internal/util/Preconditions" "SIOOBE_FORMATTER" "Ljava/util/function/BiFunction;" fm) (hfm : fm.isRef = true) (SZ : Sta Z Z.heap "java/lang/String" "COMPACT_STRINGS" "Z" (.int cz)) (hcz : ¬ cz = 0) :
    ConW l Z own_EL n0 x code maxLocals ret room_1 #[(.int p1), (.int p2), (.int p3), (.int p4), (.int p5)] h0 [] (Val fun w _ => w = .int 1) := by
  refine ConW.of_run (own_EW hw) pn_0 (fun m => ef_con0 m p1 p2 p3 p4 p5 fm cz ) ?_
  intro vm hal hsf
  have J13 : ∀ (v5 : Int32), RunW l Z own_EL n0 x.cls code maxLocals ret x room_1 (Val fun w _ => w = .int 1) 13 #[.val (.int p1), .val (.int p2), .val (.int p3), .val (.int p4), .val (.int p5), .val (.int v5), .unset, .unset, .unset, .unset, .unset, .unset, .unset, .unset, .unset, .unset, .unset, .unset] [] h0 vm (0 + 0) (100 * (0 + 0)) := by
    intro v5
    have J31 : ∀ (c0 : Int32), (0 ≤ c0.toInt ∧ c0.toInt ≤ 255) → RunW l Z own_EL n0 x.cls code maxLocals ret x room_1 (Val fun w _ => w = .int 1) 31 #[.val (.int p1), .val (.int p2), .val (.int p3), .val (.int p4), .val (.int p5), .val (.int v5), .val (.int c0), .unset, .unset, .unset, .unset, .unset, .unset, .unset, .unset, .unset, .unset, .unset] [] h0 vm (0 + 0) (100 * (0 + 0)) := by
      intro c0 h_c0
      have J52 : ∀ (c1 : Int32), (0 ≤ c1.toInt ∧ c1.toInt ≤ 255) → RunW l Z own_EL n0 x.cls code maxLocals ret x room_1 (Val fun w _ => w = .int 1) 52 #[.val (.int p1), .val (.int p2), .val (.int p3), .val (.int p4), .val (.int p5), .val (.int v5), .val (.int c0), .val (.int c1), .unset, .unset, .unset, .unset, .unset, .unset, .unset, .unset, .unset, .unset] [] h0 vm (0 + 0) (100 * (0 + 0)) := by
        intro c1 h_c1
        have J73 : ∀ (c2 : Int32), (0 ≤ c2.toInt ∧ c2.toInt ≤ 255) → RunW l Z own_EL n0 x.cls code maxLocals ret x room_1 (Val fun w _ => w = .int 1) 73 #[.val (.int p1), .val (.int p2), .val (.int p3), .val (.int p4), .val (.int p5), .val (.int v5), .val (.int c0), .val (.int c1), .val (.int c2), .unset, .unset, .unset, .unset, .unset, .unset, .unset, .unset, .unset] [] h0 vm (0 + 0) (100 * (0 + 0)) := by
          intro c2 h_c2
          refine RunW.iloadN at_73 rfl (pc' := 74) rfl ?_
          refine RunW.bipush (7 : Int32) at_74 (by decide) (pc' := 76) rfl ?_
          refine RunW.iand at_76 (pc' := 77) rfl ?_
          obtain ⟨k1, h_k1, e_k1⟩ := own_m7 p4
          rw [e_k1]
          refine RunW.istore (l' := #[.val (.int p1), .val (.int p2), .val (.int p3), .val (.int p4), .val (.int p5), .val (.int v5), .val (.int c0), .val (.int c1), .val (.int c2), .val (.int (Int32.ofNat k1)), .unset, .unset, .unset, .unset, .unset, .unset, .unset, .unset]) at_77 rfl (pc' := 79) rfl ?_
          refine RunW.iloadN at_79 rfl (pc' := 80) rfl ?_
          refine RunW.iconst (3 : Int32) at_80 (by decide) (pc' := 81) rfl ?_
          refine RunW.iushr at_81 (pc' := 82) rfl ?_
          refine RunW.bipush (7 : Int32) at_82 (by decide) (pc' := 84) rfl ?_
          refine RunW.iand at_84 (pc' := 85) rfl ?_
          obtain ⟨k2, h_k2, e_k2⟩ := own_m7 (XT.ushr p4 (3 : Int32))
          rw [e_k2]
          refine RunW.istore (l' := #[.val (.int p1), .val (.int p2), .val (.int p3), .val (.int p4), .val (.int p5), .val (.int v5), .val (.int c0), .val (.int c1), .val (.int c2), .val (.int (Int32.ofNat k1)), .val (.int (Int32.ofNat k2)), .unset, .unset, .unset, .unset, .unset, .unset, .unset]) at_85 rfl (pc' := 87) rfl ?_
          refine RunW.iloadN at_87 rfl (pc' := 88) rfl ?_
          refine RunW.bipush (6 : Int32) at_88 (by decide) (pc' := 90) rfl ?_
          refine RunW.iushr at_90 (pc' := 91) rfl ?_
          refine RunW.bipush (7 : Int32) at_91 (by decide) (pc' := 93) rfl ?_
          refine RunW.iand at_93 (pc' := 94) rfl ?_
          obtain ⟨k3, h_k3, e_k3⟩ := own_m7 (XT.ushr p4 (6 : Int32))
          rw [e_k3]
          refine RunW.istore (l' := #[.val (.int p1), .val (.int p2), .val (.int p3), .val (.int p4), .val (.int p5), .val (.int v5), .val (.int c0), .val (.int c1), .val (.int c2), .val (.int (Int32.ofNat k1)), .val (.int (Int32.ofNat k2)), .val (.int (Int32.ofNat k3)), .unset, .unset, .unset, .unset, .unset, .unset]) at_94 rfl (pc' := 96) rfl ?_
          refine RunW.iload at_96 rfl (pc' := 98) rfl ?_
          refine RunW.sipush (255 : Int32) at_98 (by decide) (pc' := 101) rfl ?_
          refine RunW.iand at_101 (pc' := 102) rfl ?_
          refine RunW.i2c at_102 (pc' := 103) rfl ?_
          have h_c9 := own_chm p5
          generalize (nar .char (p5 &&& (255 : Int32))) = c9 at h_c9 ⊢
          refine RunW.istore (l' := #[.val (.int p1), .val (.int p2), .val (.int p3), .val (.int p4), .val (.int p5), .val (.int v5), .val (.int c0), .val (.int c1), .val (.int c2), .val (.int (Int32.ofNat k1)), .val (.int (Int32.ofNat k2)), .val (.int (Int32.ofNat k3)), .val (.int c9), .unset, .unset, .unset, .unset, .unset]) at_103 rfl (pc' := 105) rfl ?_
          refine RunW.ldcT (len := 96) (z := (24 : Int32)) (bs := [(.int (10 : Int32)), (.int (10 : Int32)), (.int (10 : Int32)), (.int (36 : Int32)), (.int (13 : Int32)), (.int (10 : Int32)), (.int (45 : Int32)), (.int (125 : Int32)), (.int (10 : Int32)), (.int (45 : Int32)), (.int (97 : Int32)), (.int (10 : Int32)), (.int (36 : Int32)), (.int (36 : Int32)), (.int (10 : Int32)), (.int (13 : Int32)), (.int (10 : Int32)), (.int (10 : Int32)), (.int (36 : Int32)), (.int (10 : Int32)), (.int (10 : Int32)), (.int (10 : Int32)), (.int (36 : Int32)), (.int (10 : Int32))]) (k' := (0 + 2)) (n' := (100 * (0 + 2))) at_105 (hw _ (List.mem_of_getElem? (i := 0) rfl)) (own_wS hw) (own_EW hw) (List.mem_of_getElem? (i := 0) rfl) (by decide) (by decide) (by decide) (by decide) (by show (0 + 0) + 2 ≤ (0 + 2); omega) (by show (0 + 2) ≤ 80; omega) (by show 100 * (0 + 0) + 100 ≤ 100 * (0 + 2); omega) (by show 100 * (0 + 2) ≤ 8512; omega) (pc' := 107) rfl ?_
          intro h11 vm11 a11 b11 E11 c11 X11 FC11 FV11 A11 ns11
          have sz11 : n0 ≤ h11.size := Nat.le_trans Z0 E11.1
          have kp11 := Keep.ext (Keep.refl h0 []) E11
          have od11 := od0.ext E11
          have FCl12 : Fld Z h11 a11 "java/lang/String" "coder" "B" (.int (own_coder own_tb)) := by rw [own_tbc]; exact FC11
          have ABl12 : Ary Z h11 b11 .byte (own_enc own_tb) := by rw [own_tbe]; exact A11
          refine RunW.astore (l' := #[.val (.int p1), .val (.int p2), .val (.int p3), .val (.int p4), .val (.int p5), .val (.int v5), .val (.int c0), .val (.int c1), .val (.int c2), .val (.int (Int32.ofNat k1)), .val (.int (Int32.ofNat k2)), .val (.int (Int32.ofNat k3)), .val (.int c9), .val (.ref a11), .unset, .unset, .unset, .unset]) at_107 rfl rfl (pc' := 109) rfl ?_
          refine RunW.bipush (15 : Int32) at_109 (by decide) (pc' := 111) rfl ?_
          refine RunW.newP (ty := .char) (m := 15) (cap := 15) (dv := (.int (0 : Int32))) (k' := (0 + 3)) (n' := (100 * (0 + 3))) at_111 rfl (hw _ (List.mem_of_getElem? (i := 8) rfl)) (by decide) (by decide) (Nat.le_refl _) rfl (by decide) (by show (0 + 2) + 1 ≤ (0 + 3); omega) (by show (0 + 3) ≤ 80; omega) (by show 100 * (0 + 2) + 15 ≤ 100 * (0 + 3); omega) (by show 100 * (0 + 3) ≤ 8512; omega) (pc' := 113) rfl ?_
          intro h13 b13 g13 E13 A13 c13 sf13
          have ge_b13 : n0 ≤ b13 := by rw [g13]; exact sz11
          have bo_b13 : h0.size ≤ b13 := by rw [g13]; exact kp11.1
          have ne_a11_b13 : a11 ≠ b13 := by rw [g13]; exact Nat.ne_of_lt X11.lt
          have ne_b11_b13 : b11 ≠ b13 := by rw [g13]; exact Nat.ne_of_lt ABl12.lt
          have E_a11_13 := X11.ext E13
          have F_a11_coder_13 := FCl12.ext E13
          have F_a11_value_13 := FV11.ext E13
          have A_b11_13 := ABl12.ext E13
          have sz13 : n0 ≤ h13.size := Nat.le_trans sz11 E13.1
          have kp13 := Keep.ext kp11 E13
          have od13 := od11.ext E13
          replace A13 : Ary Z h13 b13 .char [(.int (0 : Int32)), (.int (0 : Int32)), (.int (0 : Int32)), (.int (0 : Int32)), (.int (0 : Int32)), (.int (0 : Int32)), (.int (0 : Int32)), (.int (0 : Int32)), (.int (0 : Int32)), (.int (0 : Int32)), (.int (0 : Int32)), (.int (0 : Int32)), (.int (0 : Int32)), (.int (0 : Int32)), (.int (0 : Int32))] := A13
          refine RunW.astore (l' := #[.val (.int p1), .val (.int p2), .val (.int p3), .val (.int p4), .val (.int p5), .val (.int v5), .val (.int c0), .val (.int c1), .val (.int c2), .val (.int (Int32.ofNat k1)), .val (.int (Int32.ofNat k2)), .val (.int (Int32.ofNat k3)), .val (.int c9), .val (.ref a11), .val (.ref b13), .unset, .unset, .unset]) at_113 rfl rfl (pc' := 115) rfl ?_
          refine RunW.aload at_115 rfl rfl (pc' := 117) rfl ?_
          refine RunW.iconst (0 : Int32) at_117 (by decide) (pc' := 118) rfl ?_
          refine RunW.iload at_118 rfl (pc' := 120) rfl ?_
          refine RunW.castore (i := 0) at_120 A13 (by decide) (by show (0 : Nat) < 15; decide) ge_b13 sf13 (pc' := 121) rfl ?_
          intro h14 W14 c14 A14
          replace A14 : Ary Z h14 b13 .char [(.int (nar .char c0)), (.int (0 : Int32)), (.int (0 : Int32)), (.int (0 : Int32)), (.int (0 : Int32)), (.int (0 : Int32)), (.int (0 : Int32)), (.int (0 : Int32)), (.int (0 : Int32)), (.int (0 : Int32)), (.int (0 : Int32)), (.int (0 : Int32)), (.int (0 : Int32)), (.int (0 : Int32)), (.int (0 : Int32))] := A14
          have E_a11_14 := E_a11_13.wr W14
          have F_a11_coder_14 := F_a11_coder_13.other W14 (Or.inl ne_a11_b13)
          have F_a11_value_14 := F_a11_value_13.other W14 (Or.inl ne_a11_b13)
          have A_b11_14 := A_b11_13.other W14 ne_b11_b13
          have Z_b13_14 := CHr.safe c14 A13.lt sf13
          have sz14 : n0 ≤ h14.size := by rw [W14.size]; exact sz13
          have kp14 := Keep.wr kp13 W14 (Or.inr bo_b13)
          have od14 := od13.wr W14 ge_b13
          refine RunW.aload at_121 rfl rfl (pc' := 123) rfl ?_
          refine RunW.iconst (1 : Int32) at_123 (by decide) (pc' := 124) rfl ?_
          refine RunW.iload at_124 rfl (pc' := 126) rfl ?_
          refine RunW.castore (i := 1) at_126 A14 (by decide) (by show (1 : Nat) < 15; decide) ge_b13 Z_b13_14 (pc' := 127) rfl ?_
          intro h15 W15 c15 A15
          replace A15 : Ary Z h15 b13 .char [(.int (nar .char c0)), (.int (nar .char c1)), (.int (0 : Int32)), (.int (0 : Int32)), (.int (0 : Int32)), (.int (0 : Int32)), (.int (0 : Int32)), (.int (0 : Int32)), (.int (0 : Int32)), (.int (0 : Int32)), (.int (0 : Int32)), (.int (0 : Int32)), (.int (0 : Int32)), (.int (0 : Int32)), (.int (0 : Int32))] := A15
          have E_a11_15 := E_a11_14.wr W15
          have F_a11_coder_15 := F_a11_coder_14.other W15 (Or.inl ne_a11_b13)
          have F_a11_value_15 := F_a11_value_14.other W15 (Or.inl ne_a11_b13)
          have A_b11_15 := A_b11_14.other W15 ne_b11_b13
          have Z_b13_15 := CHr.safe c15 A14.lt Z_b13_14
          have sz15 : n0 ≤ h15.size := by rw [W15.size]; exact sz14
          have kp15 := Keep.wr kp14 W15 (Or.inr bo_b13)
          have od15 := od14.wr W15 ge_b13
          refine RunW.aload at_127 rfl rfl (pc' := 129) rfl ?_
          refine RunW.iconst (2 : Int32) at_129 (by decide) (pc' := 130) rfl ?_
          refine RunW.iload at_130 rfl (pc' := 132) rfl ?_
          refine RunW.castore (i := 2) at_132 A15 (by decide) (by show (2 : Nat) < 15; decide) ge_b13 Z_b13_15 (pc' := 133) rfl ?_
          intro h16 W16 c16 A16
          replace A16 : Ary Z h16 b13 .char [(.int (nar .char c0)), (.int (nar .char c1)), (.int (nar .char c2)), (.int (0 : Int32)), (.int (0 : Int32)), (.int (0 : Int32)), (.int (0 : Int32)), (.int (0 : Int32)), (.int (0 : Int32)), (.int (0 : Int32)), (.int (0 : Int32)), (.int (0 : Int32)), (.int (0 : Int32)), (.int (0 : Int32)), (.int (0 : Int32))] := A16
          have E_a11_16 := E_a11_15.wr W16
          have F_a11_coder_16 := F_a11_coder_15.other W16 (Or.inl ne_a11_b13)
          have F_a11_value_16 := F_a11_value_15.other W16 (Or.inl ne_a11_b13)
          have A_b11_16 := A_b11_15.other W16 ne_b11_b13
          have Z_b13_16 := CHr.safe c16 A15.lt Z_b13_15
          have sz16 : n0 ≤ h16.size := by rw [W16.size]; exact sz15
          have kp16 := Keep.wr kp15 W16 (Or.inr bo_b13)
          have od16 := od15.wr W16 ge_b13
          refine RunW.aload at_133 rfl rfl (pc' := 135) rfl ?_
          refine RunW.iconst (3 : Int32) at_135 (by decide) (pc' := 136) rfl ?_
          refine RunW.iloadN at_136 rfl (pc' := 137) rfl ?_
          refine RunW.sipush (255 : Int32) at_137 (by decide) (pc' := 140) rfl ?_
          refine RunW.iand at_140 (pc' := 141) rfl ?_
          refine RunW.i2c at_141 (pc' := 142) rfl ?_
          have h_d0 := own_chm p3
          generalize (nar .char (p3 &&& (255 : Int32))) = d0 at h_d0 ⊢
          refine RunW.castore (i := 3) at_142 A16 (by decide) (by show (3 : Nat) < 15; decide) ge_b13 Z_b13_16 (pc' := 143) rfl ?_
          intro h17 W17 c17 A17
          replace A17 : Ary Z h17 b13 .char [(.int (nar .char c0)), (.int (nar .char c1)), (.int (nar .char c2)), (.int (nar .char d0)), (.int (0 : Int32)), (.int (0 : Int32)), (.int (0 : Int32)), (.int (0 : Int32)), (.int (0 : Int32)), (.int (0 : Int32)), (.int (0 : Int32)), (.int (0 : Int32)), (.int (0 : Int32)), (.int (0 : Int32)), (.int (0 : Int32))] := A17
          have E_a11_17 := E_a11_16.wr W17
          have F_a11_coder_17 := F_a11_coder_16.other W17 (Or.inl ne_a11_b13)
          have F_a11_value_17 := F_a11_value_16.other W17 (Or.inl ne_a11_b13)
          have A_b11_17 := A_b11_16.other W17 ne_b11_b13
          have Z_b13_17 := CHr.safe c17 A16.lt Z_b13_16
          have sz17 : n0 ≤ h17.size := by rw [W17.size]; exact sz16
          have kp17 := Keep.wr kp16 W17 (Or.inr bo_b13)
          have od17 := od16.wr W17 ge_b13
          refine RunW.aload at_143 rfl rfl (pc' := 145) rfl ?_
          refine RunW.iconst (4 : Int32) at_145 (by decide) (pc' := 146) rfl ?_
          refine RunW.bipush (10 : Int32) at_146 (by decide) (pc' := 148) rfl ?_
          refine RunW.castore (i := 4) at_148 A17 (by decide) (by show (4 : Nat) < 15; decide) ge_b13 Z_b13_17 (pc' := 149) rfl ?_
          intro h18 W18 c18 A18
          replace A18 : Ary Z h18 b13 .char [(.int (nar .char c0)), (.int (nar .char c1)), (.int (nar .char c2)), (.int (nar .char d0)), (.int (nar .char (10 : Int32))), (.int (0 : Int32)), (.int (0 : Int32)), (.int (0 : Int32)), (.int (0 : Int32)), (.int (0 : Int32)), (.int (0 : Int32)), (.int (0 : Int32)), (.int (0 : Int32)), (.int (0 : Int32)), (.int (0 : Int32))] := A18
          have E_a11_18 := E_a11_17.wr W18
          have F_a11_coder_18 := F_a11_coder_17.other W18 (Or.inl ne_a11_b13)
          have F_a11_value_18 := F_a11_value_17.other W18 (Or.inl ne_a11_b13)
          have A_b11_18 := A_b11_17.other W18 ne_b11_b13
          have Z_b13_18 := CHr.safe c18 A17.lt Z_b13_17
          have sz18 : n0 ≤ h18.size := by rw [W18.size]; exact sz17
          have kp18 := Keep.wr kp17 W18 (Or.inr bo_b13)
          have od18 := od17.wr W18 ge_b13
          refine RunW.aload at_149 rfl rfl (pc' := 151) rfl ?_
          refine RunW.iconst (5 : Int32) at_151 (by decide) (pc' := 152) rfl ?_
          refine RunW.aload at_152 rfl rfl (pc' := 154) rfl ?_
          refine RunW.iload at_154 rfl (pc' := 156) rfl ?_
          refine RunW.iconst (3 : Int32) at_156 (by decide) (pc' := 157) rfl ?_
          refine RunW.imul at_157 (pc' := 158) rfl ?_
          rw [own_m30 k1]
          refine RunW.callV (k' := (0 + 3)) (n' := (100 * (0 + 3))) (a := a11) (as := [(.int (Int32.ofNat (3 * k1 + 0)))]) (rest := [(.int (5 : Int32)), (.ref b13)]) (con_cha l Z a0 hw n0 h18 sz18 a11 b11 own_tb (3 * k1 + 0) cz fm od18 SF hfm  SZ hcz E_a11_18 F_a11_value_18 F_a11_coder_18 A_b11_18 own_tbp (by rw [own_tbl]; omega) (by decide) (own_latq own_tbL)) (by rintro _ _ ⟨_, -, -, rfl⟩; exact ⟨[], Keep.refl _ _, all0⟩) E_a11_18 at_158 (hw _ (List.mem_of_getElem? (i := 9) rfl)) (hw _ (List.mem_of_getElem? (i := 10) rfl)) (fun s hZ => notFace_of_selects (args := #[]) (mvT hZ (hw _ (List.mem_of_getElem? (i := 12) rfl)))) (hw _ (List.mem_of_getElem? (i := 12) rfl)) (hw _ (List.mem_of_getElem? (i := 11) rfl)) (hw _ (List.mem_of_getElem? (i := 1) rfl)) (hw _ (List.mem_of_getElem? (i := 13) rfl)) (by decide) pd__I_C rfl rfl rfl (by show (3 : Nat) + 1 ≤ 11; decide) (by show (2 : Nat) + (2 + 11) + 40 ≤ 3312; decide) (by show (0 + 3) + 0 ≤ (0 + 3); omega) (by show (0 + 3) ≤ 80; omega) (by show 100 * (0 + 3) + 0 ≤ 100 * (0 + 3); omega) (by show 100 * (0 + 3) ≤ 8512; omega) (pc' := 161) rfl ?_
          rintro _ _ ⟨_, rfl, rfl, rfl⟩ -
          show RunW l Z own_EL n0 x.cls code maxLocals ret x room_1 _ 161 #[.val (.int p1), .val (.int p2), .val (.int p3), .val (.int p4), .val (.int p5), .val (.int v5), .val (.int c0), .val (.int c1), .val (.int c2), .val (.int (Int32.ofNat k1)), .val (.int (Int32.ofNat k2)), .val (.int (Int32.ofNat k3)), .val (.int c9), .val (.ref a11), .val (.ref b13), .unset, .unset, .unset] [(.int (own_tb.getD (3 * k1 + 0) 0)), (.int (5 : Int32)), (.ref b13)] h18 vm11 (0 + 3) (100 * (0 + 3))
          refine RunW.castore (i := 5) at_161 A18 (by decide) (by show (5 : Nat) < 15; decide) ge_b13 Z_b13_18 (pc' := 162) rfl ?_
          intro h19 W19 c19 A19
          replace A19 : Ary Z h19 b13 .char [(.int (nar .char c0)), (.int (nar .char c1)), (.int (nar .char c2)), (.int (nar .char d0)), (.int (nar .char (10 : Int32))), (.int (nar .char (own_tb.getD (3 * k1 + 0) 0))), (.int (0 : Int32)), (.int (0 : Int32)), (.int (0 : Int32)), (.int (0 : Int32)), (.int (0 : Int32)), (.int (0 : Int32)), (.int (0 : Int32)), (.int (0 : Int32)), (.int (0 : Int32))] := A19
          have E_a11_19 := E_a11_18.wr W19
          have F_a11_coder_19 := F_a11_coder_18.other W19 (Or.inl ne_a11_b13)
          have F_a11_value_19 := F_a11_value_18.other W19 (Or.inl ne_a11_b13)
          have A_b11_19 := A_b11_18.other W19 ne_b11_b13
          have Z_b13_19 := CHr.safe c19 A18.lt Z_b13_18
          have sz19 : n0 ≤ h19.size := by rw [W19.size]; exact sz18
          have kp19 := Keep.wr kp18 W19 (Or.inr bo_b13)
          have od19 := od18.wr W19 ge_b13
          refine RunW.aload at_162 rfl rfl (pc' := 164) rfl ?_
          refine RunW.bipush (6 : Int32) at_164 (by decide) (pc' := 166) rfl ?_
          refine RunW.aload at_166 rfl rfl (pc' := 168) rfl ?_
          refine RunW.iload at_168 rfl (pc' := 170) rfl ?_
          refine RunW.iconst (3 : Int32) at_170 (by decide) (pc' := 171) rfl ?_
          refine RunW.imul at_171 (pc' := 172) rfl ?_
          refine RunW.iconst (1 : Int32) at_172 (by decide) (pc' := 173) rfl ?_
          refine RunW.iadd at_173 (pc' := 174) rfl ?_
          rw [own_m31 k1]
          refine RunW.callV (k' := (0 + 3)) (n' := (100 * (0 + 3))) (a := a11) (as := [(.int (Int32.ofNat (3 * k1 + 1)))]) (rest := [(.int (6 : Int32)), (.ref b13)]) (con_cha l Z a0 hw n0 h19 sz19 a11 b11 own_tb (3 * k1 + 1) cz fm od19 SF hfm  SZ hcz E_a11_19 F_a11_value_19 F_a11_coder_19 A_b11_19 own_tbp (by rw [own_tbl]; omega) (by decide) (own_latq own_tbL)) (by rintro _ _ ⟨_, -, -, rfl⟩; exact ⟨[], Keep.refl _ _, all0⟩) E_a11_19 at_174 (hw _ (List.mem_of_getElem? (i := 9) rfl)) (hw _ (List.mem_of_getElem? (i := 10) rfl)) (fun s hZ => notFace_of_selects (args := #[]) (mvT hZ (hw _ (List.mem_of_getElem? (i := 12) rfl)))) (hw _ (List.mem_of_getElem? (i := 12) rfl)) (hw _ (List.mem_of_getElem? (i := 11) rfl)) (hw _ (List.mem_of_getElem? (i := 1) rfl)) (hw _ (List.mem_of_getElem? (i := 13) rfl)) (by decide) pd__I_C rfl rfl rfl (by show (3 : Nat) + 1 ≤ 11; decide) (by show (2 : Nat) + (2 + 11) + 40 ≤ 3312; decide) (by show (0 + 3) + 0 ≤ (0 + 3); omega) (by show (0 + 3) ≤ 80; omega) (by show 100 * (0 + 3) + 0 ≤ 100 * (0 + 3); omega) (by show 100 * (0 + 3) ≤ 8512; omega) (pc' := 177) rfl ?_
          rintro _ _ ⟨_, rfl, rfl, rfl⟩ -
          show RunW l Z own_EL n0 x.cls code maxLocals ret x room_1 _ 177 #[.val (.int p1), .val (.int p2), .val (.int p3), .val (.int p4), .val (.int p5), .val (.int v5), .val (.int c0), .val (.int c1), .val (.int c2), .val (.int (Int32.ofNat k1)), .val (.int (Int32.ofNat k2)), .val (.int (Int32.ofNat k3)), .val (.int c9), .val (.ref a11), .val (.ref b13), .unset, .unset, .unset] [(.int (own_tb.getD (3 * k1 + 1) 0)), (.int (6 : Int32)), (.ref b13)] h19 vm11 (0 + 3) (100 * (0 + 3))
          refine RunW.castore (i := 6) at_177 A19 (by decide) (by show (6 : Nat) < 15; decide) ge_b13 Z_b13_19 (pc' := 178) rfl ?_
          intro h20 W20 c20 A20
          replace A20 : Ary Z h20 b13 .char [(.int (nar .char c0)), (.int (nar .char c1)), (.int (nar .char c2)), (.int (nar .char d0)), (.int (nar .char (10 : Int32))), (.int (nar .char (own_tb.getD (3 * k1 + 0) 0))), (.int (nar .char (own_tb.getD (3 * k1 + 1) 0))), (.int (0 : Int32)), (.int (0 : Int32)), (.int (0 : Int32)), (.int (0 : Int32)), (.int (0 : Int32)), (.int (0 : Int32)), (.int (0 : Int32)), (.int (0 : Int32))] := A20
          have E_a11_20 := E_a11_19.wr W20
          have F_a11_coder_20 := F_a11_coder_19.other W20 (Or.inl ne_a11_b13)
          have F_a11_value_20 := F_a11_value_19.other W20 (Or.inl ne_a11_b13)
          have A_b11_20 := A_b11_19.other W20 ne_b11_b13
          have Z_b13_20 := CHr.safe c20 A19.lt Z_b13_19
          have sz20 : n0 ≤ h20.size := by rw [W20.size]; exact sz19
          have kp20 := Keep.wr kp19 W20 (Or.inr bo_b13)
          have od20 := od19.wr W20 ge_b13
          refine RunW.aload at_178 rfl rfl (pc' := 180) rfl ?_
          refine RunW.bipush (7 : Int32) at_180 (by decide) (pc' := 182) rfl ?_
          refine RunW.aload at_182 rfl rfl (pc' := 184) rfl ?_
          refine RunW.iload at_184 rfl (pc' := 186) rfl ?_
          refine RunW.iconst (3 : Int32) at_186 (by decide) (pc' := 187) rfl ?_
          refine RunW.imul at_187 (pc' := 188) rfl ?_
          refine RunW.iconst (2 : Int32) at_188 (by decide) (pc' := 189) rfl ?_
          refine RunW.iadd at_189 (pc' := 190) rfl ?_
          rw [own_m32 k1]
          refine RunW.callV (k' := (0 + 3)) (n' := (100 * (0 + 3))) (a := a11) (as := [(.int (Int32.ofNat (3 * k1 + 2)))]) (rest := [(.int (7 : Int32)), (.ref b13)]) (con_cha l Z a0 hw n0 h20 sz20 a11 b11 own_tb (3 * k1 + 2) cz fm od20 SF hfm  SZ hcz E_a11_20 F_a11_value_20 F_a11_coder_20 A_b11_20 own_tbp (by rw [own_tbl]; omega) (by decide) (own_latq own_tbL)) (by rintro _ _ ⟨_, -, -, rfl⟩; exact ⟨[], Keep.refl _ _, all0⟩) E_a11_20 at_190 (hw _ (List.mem_of_getElem? (i := 9) rfl)) (hw _ (List.mem_of_getElem? (i := 10) rfl)) (fun s hZ => notFace_of_selects (args := #[]) (mvT hZ (hw _ (List.mem_of_getElem? (i := 12) rfl)))) (hw _ (List.mem_of_getElem? (i := 12) rfl)) (hw _ (List.mem_of_getElem? (i := 11) rfl)) (hw _ (List.mem_of_getElem? (i := 1) rfl)) (hw _ (List.mem_of_getElem? (i := 13) rfl)) (by decide) pd__I_C rfl rfl rfl (by show (3 : Nat) + 1 ≤ 11; decide) (by show (2 : Nat) + (2 + 11) + 40 ≤ 3312; decide) (by show (0 + 3) + 0 ≤ (0 + 3); omega) (by show (0 + 3) ≤ 80; omega) (by show 100 * (0 + 3) + 0 ≤ 100 * (0 + 3); omega) (by show 100 * (0 + 3) ≤ 8512; omega) (pc' := 193) rfl ?_
          rintro _ _ ⟨_, rfl, rfl, rfl⟩ -
          show RunW l Z own_EL n0 x.cls code maxLocals ret x room_1 _ 193 #[.val (.int p1), .val (.int p2), .val (.int p3), .val (.int p4), .val (.int p5), .val (.int v5), .val (.int c0), .val (.int c1), .val (.int c2), .val (.int (Int32.ofNat k1)), .val (.int (Int32.ofNat k2)), .val (.int (Int32.ofNat k3)), .val (.int c9), .val (.ref a11), .val (.ref b13), .unset, .unset, .unset] [(.int (own_tb.getD (3 * k1 + 2) 0)), (.int (7 : Int32)), (.ref b13)] h20 vm11 (0 + 3) (100 * (0 + 3))
          refine RunW.castore (i := 7) at_193 A20 (by decide) (by show (7 : Nat) < 15; decide) ge_b13 Z_b13_20 (pc' := 194) rfl ?_
          intro h21 W21 c21 A21
          replace A21 : Ary Z h21 b13 .char [(.int (nar .char c0)), (.int (nar .char c1)), (.int (nar .char c2)), (.int (nar .char d0)), (.int (nar .char (10 : Int32))), (.int (nar .char (own_tb.getD (3 * k1 + 0) 0))), (.int (nar .char (own_tb.getD (3 * k1 + 1) 0))), (.int (nar .char (own_tb.getD (3 * k1 + 2) 0))), (.int (0 : Int32)), (.int (0 : Int32)), (.int (0 : Int32)), (.int (0 : Int32)), (.int (0 : Int32)), (.int (0 : Int32)), (.int (0 : Int32))] := A21
          have E_a11_21 := E_a11_20.wr W21
          have F_a11_coder_21 := F_a11_coder_20.other W21 (Or.inl ne_a11_b13)
          have F_a11_value_21 := F_a11_value_20.other W21 (Or.inl ne_a11_b13)
          have A_b11_21 := A_b11_20.other W21 ne_b11_b13
          have Z_b13_21 := CHr.safe c21 A20.lt Z_b13_20
          have sz21 : n0 ≤ h21.size := by rw [W21.size]; exact sz20
          have kp21 := Keep.wr kp20 W21 (Or.inr bo_b13)
          have od21 := od20.wr W21 ge_b13
          refine RunW.aload at_194 rfl rfl (pc' := 196) rfl ?_
          refine RunW.bipush (8 : Int32) at_196 (by decide) (pc' := 198) rfl ?_
          refine RunW.aload at_198 rfl rfl (pc' := 200) rfl ?_
          refine RunW.iload at_200 rfl (pc' := 202) rfl ?_
          refine RunW.iconst (3 : Int32) at_202 (by decide) (pc' := 203) rfl ?_
          refine RunW.imul at_203 (pc' := 204) rfl ?_
          rw [own_m30 k2]
          refine RunW.callV (k' := (0 + 3)) (n' := (100 * (0 + 3))) (a := a11) (as := [(.int (Int32.ofNat (3 * k2 + 0)))]) (rest := [(.int (8 : Int32)), (.ref b13)]) (con_cha l Z a0 hw n0 h21 sz21 a11 b11 own_tb (3 * k2 + 0) cz fm od21 SF hfm  SZ hcz E_a11_21 F_a11_value_21 F_a11_coder_21 A_b11_21 own_tbp (by rw [own_tbl]; omega) (by decide) (own_latq own_tbL)) (by rintro _ _ ⟨_, -, -, rfl⟩; exact ⟨[], Keep.refl _ _, all0⟩) E_a11_21 at_204 (hw _ (List.mem_of_getElem? (i := 9) rfl)) (hw _ (List.mem_of_getElem? (i := 10) rfl)) (fun s hZ => notFace_of_selects (args := #[]) (mvT hZ (hw _ (List.mem_of_getElem? (i := 12) rfl)))) (hw _ (List.mem_of_getElem? (i := 12) rfl)) (hw _ (List.mem_of_getElem? (i := 11) rfl)) (hw _ (List.mem_of_getElem? (i := 1) rfl)) (hw _ (List.mem_of_getElem? (i := 13) rfl)) (by decide) pd__I_C rfl rfl rfl (by show (3 : Nat) + 1 ≤ 11; decide) (by show (2 : Nat) + (2 + 11) + 40 ≤ 3312; decide) (by show (0 + 3) + 0 ≤ (0 + 3); omega) (by show (0 + 3) ≤ 80; omega) (by show 100 * (0 + 3) + 0 ≤ 100 * (0 + 3); omega) (by show 100 * (0 + 3) ≤ 8512; omega) (pc' := 207) rfl ?_
          rintro _ _ ⟨_, rfl, rfl, rfl⟩ -
          show RunW l Z own_EL n0 x.cls code maxLocals ret x room_1 _ 207 #[.val (.int p1), .val (.int p2), .val (.int p3), .val (.int p4), .val (.int p5), .val (.int v5), .val (.int c0), .val (.int c1), .val (.int c2), .val (.int (Int32.ofNat k1)), .val (.int (Int32.ofNat k2)), .val (.int (Int32.ofNat k3)), .val (.int c9), .val (.ref a11), .val (.ref b13), .unset, .unset, .unset] [(.int (own_tb.getD (3 * k2 + 0) 0)), (.int (8 : Int32)), (.ref b13)] h21 vm11 (0 + 3) (100 * (0 + 3))
          refine RunW.castore (i := 8) at_207 A21 (by decide) (by show (8 : Nat) < 15; decide) ge_b13 Z_b13_21 (pc' := 208) rfl ?_
          intro h22 W22 c22 A22
          replace A22 : Ary Z h22 b13 .char [(.int (nar .char c0)), (.int (nar .char c1)), (.int (nar .char c2)), (.int (nar .char d0)), (.int (nar .char (10 : Int32))), (.int (nar .char (own_tb.getD (3 * k1 + 0) 0))), (.int (nar .char (own_tb.getD (3 * k1 + 1) 0))), (.int (nar .char (own_tb.getD (3 * k1 + 2) 0))), (.int (nar .char (own_tb.getD (3 * k2 + 0) 0))), (.int (0 : Int32)), (.int (0 : Int32)), (.int (0 : Int32)), (.int (0 : Int32)), (.int (0 : Int32)), (.int (0 : Int32))] := A22
          have E_a11_22 := E_a11_21.wr W22
          have F_a11_coder_22 := F_a11_coder_21.other W22 (Or.inl ne_a11_b13)
          have F_a11_value_22 := F_a11_value_21.other W22 (Or.inl ne_a11_b13)
          have A_b11_22 := A_b11_21.other W22 ne_b11_b13
          have Z_b13_22 := CHr.safe c22 A21.lt Z_b13_21
          have sz22 : n0 ≤ h22.size := by rw [W22.size]; exact sz21
          have kp22 := Keep.wr kp21 W22 (Or.inr bo_b13)
          have od22 := od21.wr W22 ge_b13
          refine RunW.aload at_208 rfl rfl (pc' := 210) rfl ?_
          refine RunW.bipush (9 : Int32) at_210 (by decide) (pc' := 212) rfl ?_
          refine RunW.aload at_212 rfl rfl (pc' := 214) rfl ?_
          refine RunW.iload at_214 rfl (pc' := 216) rfl ?_
          refine RunW.iconst (3 : Int32) at_216 (by decide) (pc' := 217) rfl ?_
          refine RunW.imul at_217 (pc' := 218) rfl ?_
          refine RunW.iconst (1 : Int32) at_218 (by decide) (pc' := 219) rfl ?_
          refine RunW.iadd at_219 (pc' := 220) rfl ?_
          rw [own_m31 k2]
          refine RunW.callV (k' := (0 + 3)) (n' := (100 * (0 + 3))) (a := a11) (as := [(.int (Int32.ofNat (3 * k2 + 1)))]) (rest := [(.int (9 : Int32)), (.ref b13)]) (con_cha l Z a0 hw n0 h22 sz22 a11 b11 own_tb (3 * k2 + 1) cz fm od22 SF hfm  SZ hcz E_a11_22 F_a11_value_22 F_a11_coder_22 A_b11_22 own_tbp (by rw [own_tbl]; omega) (by decide) (own_latq own_tbL)) (by rintro _ _ ⟨_, -, -, rfl⟩; exact ⟨[], Keep.refl _ _, all0⟩) E_a11_22 at_220 (hw _ (List.mem_of_getElem? (i := 9) rfl)) (hw _ (List.mem_of_getElem? (i := 10) rfl)) (fun s hZ => notFace_of_selects (args := #[]) (mvT hZ (hw _ (List.mem_of_getElem? (i := 12) rfl)))) (hw _ (List.mem_of_getElem? (i := 12) rfl)) (hw _ (List.mem_of_getElem? (i := 11) rfl)) (hw _ (List.mem_of_getElem? (i := 1) rfl)) (hw _ (List.mem_of_getElem? (i := 13) rfl)) (by decide) pd__I_C rfl rfl rfl (by show (3 : Nat) + 1 ≤ 11; decide) (by show (2 : Nat) + (2 + 11) + 40 ≤ 3312; decide) (by show (0 + 3) + 0 ≤ (0 + 3); omega) (by show (0 + 3) ≤ 80; omega) (by show 100 * (0 + 3) + 0 ≤ 100 * (0 + 3); omega) (by show 100 * (0 + 3) ≤ 8512; omega) (pc' := 223) rfl ?_
          rintro _ _ ⟨_, rfl, rfl, rfl⟩ -
          show RunW l Z own_EL n0 x.cls code maxLocals ret x room_1 _ 223 #[.val (.int p1), .val (.int p2), .val (.int p3), .val (.int p4), .val (.int p5), .val (.int v5), .val (.int c0), .val (.int c1), .val (.int c2), .val (.int (Int32.ofNat k1)), .val (.int (Int32.ofNat k2)), .val (.int (Int32.ofNat k3)), .val (.int c9), .val (.ref a11), .val (.ref b13), .unset, .unset, .unset] [(.int (own_tb.getD (3 * k2 + 1) 0)), (.int (9 : Int32)), (.ref b13)] h22 vm11 (0 + 3) (100 * (0 + 3))
          refine RunW.castore (i := 9) at_223 A22 (by decide) (by show (9 : Nat) < 15; decide) ge_b13 Z_b13_22 (pc' := 224) rfl ?_
          intro h23 W23 c23 A23
          replace A23 : Ary Z h23 b13 .char [(.int (nar .char c0)), (.int (nar .char c1)), (.int (nar .char c2)), (.int (nar .char d0)), (.int (nar .char (10 : Int32))), (.int (nar .char (own_tb.getD (3 * k1 + 0) 0))), (.int (nar .char (own_tb.getD (3 * k1 + 1) 0))), (.int (nar .char (own_tb.getD (3 * k1 + 2) 0))), (.int (nar .char (own_tb.getD (3 * k2 + 0) 0))), (.int (nar .char (own_tb.getD (3 * k2 + 1) 0))), (.int (0 : Int32)), (.int (0 : Int32)), (.int (0 : Int32)), (.int (0 : Int32)), (.int (0 : Int32))] := A23
          have E_a11_23 := E_a11_22.wr W23
          have F_a11_coder_23 := F_a11_coder_22.other W23 (Or.inl ne_a11_b13)
          have F_a11_value_23 := F_a11_value_22.other W23 (Or.inl ne_a11_b13)
          have A_b11_23 := A_b11_22.other W23 ne_b11_b13
          have Z_b13_23 := CHr.safe c23 A22.lt Z_b13_22
          have sz23 : n0 ≤ h23.size := by rw [W23.size]; exact sz22
          have kp23 := Keep.wr kp22 W23 (Or.inr bo_b13)
          have od23 := od22.wr W23 ge_b13
          refine RunW.aload at_224 rfl rfl (pc' := 226) rfl ?_
          refine RunW.bipush (10 : Int32) at_226 (by decide) (pc' := 228) rfl ?_
          refine RunW.aload at_228 rfl rfl (pc' := 230) rfl ?_
          refine RunW.iload at_230 rfl (pc' := 232) rfl ?_
          refine RunW.iconst (3 : Int32) at_232 (by decide) (pc' := 233) rfl ?_
          refine RunW.imul at_233 (pc' := 234) rfl ?_
          refine RunW.iconst (2 : Int32) at_234 (by decide) (pc' := 235) rfl ?_
          refine RunW.iadd at_235 (pc' := 236) rfl ?_
          rw [own_m32 k2]
          refine RunW.callV (k' := (0 + 3)) (n' := (100 * (0 + 3))) (a := a11) (as := [(.int (Int32.ofNat (3 * k2 + 2)))]) (rest := [(.int (10 : Int32)), (.ref b13)]) (con_cha l Z a0 hw n0 h23 sz23 a11 b11 own_tb (3 * k2 + 2) cz fm od23 SF hfm  SZ hcz E_a11_23 F_a11_value_23 F_a11_coder_23 A_b11_23 own_tbp (by rw [own_tbl]; omega) (by decide) (own_latq own_tbL)) (by rintro _ _ ⟨_, -, -, rfl⟩; exact ⟨[], Keep.refl _ _, all0⟩) E_a11_23 at_236 (hw _ (List.mem_of_getElem? (i := 9) rfl)) (hw _ (List.mem_of_getElem? (i := 10) rfl)) (fun s hZ => notFace_of_selects (args := #[]) (mvT hZ (hw _ (List.mem_of_getElem? (i := 12) rfl)))) (hw _ (List.mem_of_getElem? (i := 12) rfl)) (hw _ (List.mem_of_getElem? (i := 11) rfl)) (hw _ (List.mem_of_getElem? (i := 1) rfl)) (hw _ (List.mem_of_getElem? (i := 13) rfl)) (by decide) pd__I_C rfl rfl rfl (by show (3 : Nat) + 1 ≤ 11; decide) (by show (2 : Nat) + (2 + 11) + 40 ≤ 3312; decide) (by show (0 + 3) + 0 ≤ (0 + 3); omega) (by show (0 + 3) ≤ 80; omega) (by show 100 * (0 + 3) + 0 ≤ 100 * (0 + 3); omega) (by show 100 * (0 + 3) ≤ 8512; omega) (pc' := 239) rfl ?_
          rintro _ _ ⟨_, rfl, rfl, rfl⟩ -
          show RunW l Z own_EL n0 x.cls code maxLocals ret x room_1 _ 239 #[.val (.int p1), .val (.int p2), .val (.int p3), .val (.int p4), .val (.int p5), .val (.int v5), .val (.int c0), .val (.int c1), .val (.int c2), .val (.int (Int32.ofNat k1)), .val (.int (Int32.ofNat k2)), .val (.int (Int32.ofNat k3)), .val (.int c9), .val (.ref a11), .val (.ref b13), .unset, .unset, .unset] [(.int (own_tb.getD (3 * k2 + 2) 0)), (.int (10 : Int32)), (.ref b13)] h23 vm11 (0 + 3) (100 * (0 + 3))
          refine RunW.castore (i := 10) at_239 A23 (by decide) (by show (10 : Nat) < 15; decide) ge_b13 Z_b13_23 (pc' := 240) rfl ?_
          intro h24 W24 c24 A24
          replace A24 : Ary Z h24 b13 .char [(.int (nar .char c0)), (.int (nar .char c1)), (.int (nar .char c2)), (.int (nar .char d0)), (.int (nar .char (10 : Int32))), (.int (nar .char (own_tb.getD (3 * k1 + 0) 0))), (.int (nar .char (own_tb.getD (3 * k1 + 1) 0))), (.int (nar .char (own_tb.getD (3 * k1 + 2) 0))), (.int (nar .char (own_tb.getD (3 * k2 + 0) 0))), (.int (nar .char (own_tb.getD (3 * k2 + 1) 0))), (.int (nar .char (own_tb.getD (3 * k2 + 2) 0))), (.int (0 : Int32)), (.int (0 : Int32)), (.int (0 : Int32)), (.int (0 : Int32))] := A24
          have E_a11_24 := E_a11_23.wr W24
          have F_a11_coder_24 := F_a11_coder_23.other W24 (Or.inl ne_a11_b13)
          have F_a11_value_24 := F_a11_value_23.other W24 (Or.inl ne_a11_b13)
          have A_b11_24 := A_b11_23.other W24 ne_b11_b13
          have Z_b13_24 := CHr.safe c24 A23.lt Z_b13_23
          have sz24 : n0 ≤ h24.size := by rw [W24.size]; exact sz23
          have kp24 := Keep.wr kp23 W24 (Or.inr bo_b13)
          have od24 := od23.wr W24 ge_b13
          refine RunW.aload at_240 rfl rfl (pc' := 242) rfl ?_
          refine RunW.bipush (11 : Int32) at_242 (by decide) (pc' := 244) rfl ?_
          refine RunW.aload at_244 rfl rfl (pc' := 246) rfl ?_
          refine RunW.iload at_246 rfl (pc' := 248) rfl ?_
          refine RunW.iconst (3 : Int32) at_248 (by decide) (pc' := 249) rfl ?_
          refine RunW.imul at_249 (pc' := 250) rfl ?_
          rw [own_m30 k3]
          refine RunW.callV (k' := (0 + 3)) (n' := (100 * (0 + 3))) (a := a11) (as := [(.int (Int32.ofNat (3 * k3 + 0)))]) (rest := [(.int (11 : Int32)), (.ref b13)]) (con_cha l Z a0 hw n0 h24 sz24 a11 b11 own_tb (3 * k3 + 0) cz fm od24 SF hfm  SZ hcz E_a11_24 F_a11_value_24 F_a11_coder_24 A_b11_24 own_tbp (by rw [own_tbl]; omega) (by decide) (own_latq own_tbL)) (by rintro _ _ ⟨_, -, -, rfl⟩; exact ⟨[], Keep.refl _ _, all0⟩) E_a11_24 at_250 (hw _ (List.mem_of_getElem? (i := 9) rfl)) (hw _ (List.mem_of_getElem? (i := 10) rfl)) (fun s hZ => notFace_of_selects (args := #[]) (mvT hZ (hw _ (List.mem_of_getElem? (i := 12) rfl)))) (hw _ (List.mem_of_getElem? (i := 12) rfl)) (hw _ (List.mem_of_getElem? (i := 11) rfl)) (hw _ (List.mem_of_getElem? (i := 1) rfl)) (hw _ (List.mem_of_getElem? (i := 13) rfl)) (by decide) pd__I_C rfl rfl rfl (by show (3 : Nat) + 1 ≤ 11; decide) (by show (2 : Nat) + (2 + 11) + 40 ≤ 3312; decide) (by show (0 + 3) + 0 ≤ (0 + 3); omega) (by show (0 + 3) ≤ 80; omega) (by show 100 * (0 + 3) + 0 ≤ 100 * (0 + 3); omega) (by show 100 * (0 + 3) ≤ 8512; omega) (pc' := 253) rfl ?_
          rintro _ _ ⟨_, rfl, rfl, rfl⟩ -
          show RunW l Z own_EL n0 x.cls code maxLocals ret x room_1 _ 253 #[.val (.int p1), .val (.int p2), .val (.int p3), .val (.int p4), .val (.int p5), .val (.int v5), .val (.int c0), .val (.int c1), .val (.int c2), .val (.int (Int32.ofNat k1)), .val (.int (Int32.ofNat k2)), .val (.int (Int32.ofNat k3)), .val (.int c9), .val (.ref a11), .val (.ref b13), .unset, .unset, .unset] [(.int (own_tb.getD (3 * k3 + 0) 0)), (.int (11 : Int32)), (.ref b13)] h24 vm11 (0 + 3) (100 * (0 + 3))
          refine RunW.castore (i := 11) at_253 A24 (by decide) (by show (11 : Nat) < 15; decide) ge_b13 Z_b13_24 (pc' := 254) rfl ?_
          intro h25 W25 c25 A25
          replace A25 : Ary Z h25 b13 .char [(.int (nar .char c0)), (.int (nar .char c1)), (.int (nar .char c2)), (.int (nar .char d0)), (.int (nar .char (10 : Int32))), (.int (nar .char (own_tb.getD (3 * k1 + 0) 0))), (.int (nar .char (own_tb.getD (3 * k1 + 1) 0))), (.int (nar .char (own_tb.getD (3 * k1 + 2) 0))), (.int (nar .char (own_tb.getD (3 * k2 + 0) 0))), (.int (nar .char (own_tb.getD (3 * k2 + 1) 0))), (.int (nar .char (own_tb.getD (3 * k2 + 2) 0))), (.int (nar .char (own_tb.getD (3 * k3 + 0) 0))), (.int (0 : Int32)), (.int (0 : Int32)), (.int (0 : Int32))] := A25
          have E_a11_25 := E_a11_24.wr W25
          have F_a11_coder_25 := F_a11_coder_24.other W25 (Or.inl ne_a11_b13)
          have F_a11_value_25 := F_a11_value_24.other W25 (Or.inl ne_a11_b13)
          have A_b11_25 := A_b11_24.other W25 ne_b11_b13
          have Z_b13_25 := CHr.safe c25 A24.lt Z_b13_24
          have sz25 : n0 ≤ h25.size := by rw [W25.size]; exact sz24
          have kp25 := Keep.wr kp24 W25 (Or.inr bo_b13)
          have od25 := od24.wr W25 ge_b13
          refine RunW.aload at_254 rfl rfl (pc' := 256) rfl ?_
          refine RunW.bipush (12 : Int32) at_256 (by decide) (pc' := 258) rfl ?_
          refine RunW.aload at_258 rfl rfl (pc' := 260) rfl ?_
          refine RunW.iload at_260 rfl (pc' := 262) rfl ?_
          refine RunW.iconst (3 : Int32) at_262 (by decide) (pc' := 263) rfl ?_
          refine RunW.imul at_263 (pc' := 264) rfl ?_
          refine RunW.iconst (1 : Int32) at_264 (by decide) (pc' := 265) rfl ?_
          refine RunW.iadd at_265 (pc' := 266) rfl ?_
          rw [own_m31 k3]
          refine RunW.callV (k' := (0 + 3)) (n' := (100 * (0 + 3))) (a := a11) (as := [(.int (Int32.ofNat (3 * k3 + 1)))]) (rest := [(.int (12 : Int32)), (.ref b13)]) (con_cha l Z a0 hw n0 h25 sz25 a11 b11 own_tb (3 * k3 + 1) cz fm od25 SF hfm  SZ hcz E_a11_25 F_a11_value_25 F_a11_coder_25 A_b11_25 own_tbp (by rw [own_tbl]; omega) (by decide) (own_latq own_tbL)) (by rintro _ _ ⟨_, -, -, rfl⟩; exact ⟨[], Keep.refl _ _, all0⟩) E_a11_25 at_266 (hw _ (List.mem_of_getElem? (i := 9) rfl)) (hw _ (List.mem_of_getElem? (i := 10) rfl)) (fun s hZ => notFace_of_selects (args := #[]) (mvT hZ (hw _ (List.mem_of_getElem? (i := 12) rfl)))) (hw _ (List.mem_of_getElem? (i := 12) rfl)) (hw _ (List.mem_of_getElem? (i := 11) rfl)) (hw _ (List.mem_of_getElem? (i := 1) rfl)) (hw _ (List.mem_of_getElem? (i := 13) rfl)) (by decide) pd__I_C rfl rfl rfl (by show (3 : Nat) + 1 ≤ 11; decide) (by show (2 : Nat) + (2 + 11) + 40 ≤ 3312; decide) (by show (0 + 3) + 0 ≤ (0 + 3); omega) (by show (0 + 3) ≤ 80; omega) (by show 100 * (0 + 3) + 0 ≤ 100 * (0 + 3); omega) (by show 100 * (0 + 3) ≤ 8512; omega) (pc' := 269) rfl ?_
          rintro _ _ ⟨_, rfl, rfl, rfl⟩ -
          show RunW l Z own_EL n0 x.cls code maxLocals ret x room_1 _ 269 #[.val (.int p1), .val (.int p2), .val (.int p3), .val (.int p4), .val (.int p5), .val (.int v5), .val (.int c0), .val (.int c1), .val (.int c2), .val (.int (Int32.ofNat k1)), .val (.int (Int32.ofNat k2)), .val (.int (Int32.ofNat k3)), .val (.int c9), .val (.ref a11), .val (.ref b13), .unset, .unset, .unset] [(.int (own_tb.getD (3 * k3 + 1) 0)), (.int (12 : Int32)), (.ref b13)] h25 vm11 (0 + 3) (100 * (0 + 3))
          refine RunW.castore (i := 12) at_269 A25 (by decide) (by show (12 : Nat) < 15; decide) ge_b13 Z_b13_25 (pc' := 270) rfl ?_
          intro h26 W26 c26 A26
          replace A26 : Ary Z h26 b13 .char [(.int (nar .char c0)), (.int (nar .char c1)), (.int (nar .char c2)), (.int (nar .char d0)), (.int (nar .char (10 : Int32))), (.int (nar .char (own_tb.getD (3 * k1 + 0) 0))), (.int (nar .char (own_tb.getD (3 * k1 + 1) 0))), (.int (nar .char (own_tb.getD (3 * k1 + 2) 0))), (.int (nar .char (own_tb.getD (3 * k2 + 0) 0))), (.int (nar .char (own_tb.getD (3 * k2 + 1) 0))), (.int (nar .char (own_tb.getD (3 * k2 + 2) 0))), (.int (nar .char (own_tb.getD (3 * k3 + 0) 0))), (.int (nar .char (own_tb.getD (3 * k3 + 1) 0))), (.int (0 : Int32)), (.int (0 : Int32))] := A26
          have E_a11_26 := E_a11_25.wr W26
          have F_a11_coder_26 := F_a11_coder_25.other W26 (Or.inl ne_a11_b13)
          have F_a11_value_26 := F_a11_value_25.other W26 (Or.inl ne_a11_b13)
          have A_b11_26 := A_b11_25.other W26 ne_b11_b13
          have Z_b13_26 := CHr.safe c26 A25.lt Z_b13_25
          have sz26 : n0 ≤ h26.size := by rw [W26.size]; exact sz25
          have kp26 := Keep.wr kp25 W26 (Or.inr bo_b13)
          have od26 := od25.wr W26 ge_b13
          refine RunW.aload at_270 rfl rfl (pc' := 272) rfl ?_
          refine RunW.bipush (13 : Int32) at_272 (by decide) (pc' := 274) rfl ?_
          refine RunW.aload at_274 rfl rfl (pc' := 276) rfl ?_
          refine RunW.iload at_276 rfl (pc' := 278) rfl ?_
          refine RunW.iconst (3 : Int32) at_278 (by decide) (pc' := 279) rfl ?_
          refine RunW.imul at_279 (pc' := 280) rfl ?_
          refine RunW.iconst (2 : Int32) at_280 (by decide) (pc' := 281) rfl ?_
          refine RunW.iadd at_281 (pc' := 282) rfl ?_
          rw [own_m32 k3]
          refine RunW.callV (k' := (0 + 3)) (n' := (100 * (0 + 3))) (a := a11) (as := [(.int (Int32.ofNat (3 * k3 + 2)))]) (rest := [(.int (13 : Int32)), (.ref b13)]) (con_cha l Z a0 hw n0 h26 sz26 a11 b11 own_tb (3 * k3 + 2) cz fm od26 SF hfm  SZ hcz E_a11_26 F_a11_value_26 F_a11_coder_26 A_b11_26 own_tbp (by rw [own_tbl]; omega) (by decide) (own_latq own_tbL)) (by rintro _ _ ⟨_, -, -, rfl⟩; exact ⟨[], Keep.refl _ _, all0⟩) E_a11_26 at_282 (hw _ (List.mem_of_getElem? (i := 9) rfl)) (hw _ (List.mem_of_getElem? (i := 10) rfl)) (fun s hZ => notFace_of_selects (args := #[]) (mvT hZ (hw _ (List.mem_of_getElem? (i := 12) rfl)))) (hw _ (List.mem_of_getElem? (i := 12) rfl)) (hw _ (List.mem_of_getElem? (i := 11) rfl)) (hw _ (List.mem_of_getElem? (i := 1) rfl)) (hw _ (List.mem_of_getElem? (i := 13) rfl)) (by decide) pd__I_C rfl rfl rfl (by show (3 : Nat) + 1 ≤ 11; decide) (by show (2 : Nat) + (2 + 11) + 40 ≤ 3312; decide) (by show (0 + 3) + 0 ≤ (0 + 3); omega) (by show (0 + 3) ≤ 80; omega) (by show 100 * (0 + 3) + 0 ≤ 100 * (0 + 3); omega) (by show 100 * (0 + 3) ≤ 8512; omega) (pc' := 285) rfl ?_
          rintro _ _ ⟨_, rfl, rfl, rfl⟩ -
          show RunW l Z own_EL n0 x.cls code maxLocals ret x room_1 _ 285 #[.val (.int p1), .val (.int p2), .val (.int p3), .val (.int p4), .val (.int p5), .val (.int v5), .val (.int c0), .val (.int c1), .val (.int c2), .val (.int (Int32.ofNat k1)), .val (.int (Int32.ofNat k2)), .val (.int (Int32.ofNat k3)), .val (.int c9), .val (.ref a11), .val (.ref b13), .unset, .unset, .unset] [(.int (own_tb.getD (3 * k3 + 2) 0)), (.int (13 : Int32)), (.ref b13)] h26 vm11 (0 + 3) (100 * (0 + 3))
          refine RunW.castore (i := 13) at_285 A26 (by decide) (by show (13 : Nat) < 15; decide) ge_b13 Z_b13_26 (pc' := 286) rfl ?_
          intro h27 W27 c27 A27
          replace A27 : Ary Z h27 b13 .char [(.int (nar .char c0)), (.int (nar .char c1)), (.int (nar .char c2)), (.int (nar .char d0)), (.int (nar .char (10 : Int32))), (.int (nar .char (own_tb.getD (3 * k1 + 0) 0))), (.int (nar .char (own_tb.getD (3 * k1 + 1) 0))), (.int (nar .char (own_tb.getD (3 * k1 + 2) 0))), (.int (nar .char (own_tb.getD (3 * k2 + 0) 0))), (.int (nar .char (own_tb.getD (3 * k2 + 1) 0))), (.int (nar .char (own_tb.getD (3 * k2 + 2) 0))), (.int (nar .char (own_tb.getD (3 * k3 + 0) 0))), (.int (nar .char (own_tb.getD (3 * k3 + 1) 0))), (.int (nar .char (own_tb.getD (3 * k3 + 2) 0))), (.int (0 : Int32))] := A27
          have E_a11_27 := E_a11_26.wr W27
          have F_a11_coder_27 := F_a11_coder_26.other W27 (Or.inl ne_a11_b13)
          have F_a11_value_27 := F_a11_value_26.other W27 (Or.inl ne_a11_b13)
          have A_b11_27 := A_b11_26.other W27 ne_b11_b13
          have Z_b13_27 := CHr.safe c27 A26.lt Z_b13_26
          have sz27 : n0 ≤ h27.size := by rw [W27.size]; exact sz26
          have kp27 := Keep.wr kp26 W27 (Or.inr bo_b13)
          have od27 := od26.wr W27 ge_b13
          refine RunW.aload at_286 rfl rfl (pc' := 288) rfl ?_
          refine RunW.bipush (14 : Int32) at_288 (by decide) (pc' := 290) rfl ?_
          refine RunW.iload at_290 rfl (pc' := 292) rfl ?_
          refine RunW.castore (i := 14) at_292 A27 (by decide) (by show (14 : Nat) < 15; decide) ge_b13 Z_b13_27 (pc' := 293) rfl ?_
          intro h28 W28 c28 A28
          replace A28 : Ary Z h28 b13 .char [(.int (nar .char c0)), (.int (nar .char c1)), (.int (nar .char c2)), (.int (nar .char d0)), (.int (nar .char (10 : Int32))), (.int (nar .char (own_tb.getD (3 * k1 + 0) 0))), (.int (nar .char (own_tb.getD (3 * k1 + 1) 0))), (.int (nar .char (own_tb.getD (3 * k1 + 2) 0))), (.int (nar .char (own_tb.getD (3 * k2 + 0) 0))), (.int (nar .char (own_tb.getD (3 * k2 + 1) 0))), (.int (nar .char (own_tb.getD (3 * k2 + 2) 0))), (.int (nar .char (own_tb.getD (3 * k3 + 0) 0))), (.int (nar .char (own_tb.getD (3 * k3 + 1) 0))), (.int (nar .char (own_tb.getD (3 * k3 + 2) 0))), (.int (nar .char c9))] := A28
          have E_a11_28 := E_a11_27.wr W28
          have F_a11_coder_28 := F_a11_coder_27.other W28 (Or.inl ne_a11_b13)
          have F_a11_value_28 := F_a11_value_27.other W28 (Or.inl ne_a11_b13)
          have A_b11_28 := A_b11_27.other W28 ne_b11_b13
          have Z_b13_28 := CHr.safe c28 A27.lt Z_b13_27
          have sz28 : n0 ≤ h28.size := by rw [W28.size]; exact sz27
          have kp28 := Keep.wr kp27 W28 (Or.inr bo_b13)
          have od28 := od27.wr W28 ge_b13
          have hlat := own_txl k1 k2 k3 h_c0 h_c1 h_c2 h_d0 h_c9
          have AT : Ary Z h28 b13 .char ((own_tx c0 c1 c2 d0 c9 k1 k2 k3).map Value.int) := by have z := A28; simp only [own_nchI h_c0, own_nchI h_c1, own_nchI h_c2, own_nchI h_d0, show nar .char (10 : Int32) = 10 by decide, own_nchI (own_tbb (3 * k1 + 0)), own_nchI (own_tbb (3 * k1 + 1)), own_nchI (own_tbb (3 * k1 + 2)), own_nchI (own_tbb (3 * k2 + 0)), own_nchI (own_tbb (3 * k2 + 1)), own_nchI (own_tbb (3 * k2 + 2)), own_nchI (own_tbb (3 * k3 + 0)), own_nchI (own_tbb (3 * k3 + 1)), own_nchI (own_tbb (3 * k3 + 2)), own_nchI h_c9] at z; exact z
          refine RunW.newO (k' := (0 + 4)) (n' := (100 * (0 + 4))) at_293 (hw _ (List.mem_of_getElem? (i := 34) rfl)) (hw _ (List.mem_of_getElem? (i := 2) rfl)) (hw _ (List.mem_of_getElem? (i := 1) rfl)) (by show (0 + 3) + 1 ≤ (0 + 4); omega) (by show (0 + 4) ≤ 80; omega) (by show 100 * (0 + 3) + 4 ≤ 100 * (0 + 4); omega) (by show 100 * (0 + 4) ≤ 8512; omega) (pc' := 296) rfl ?_
          intro h29 b29 g29 E29 X29 D29 c29 sf29
          have ge_b29 : n0 ≤ b29 := by rw [g29]; exact sz28
          have bo_b29 : h0.size ≤ b29 := by rw [g29]; exact kp28.1
          have ne_a11_b29 : a11 ≠ b29 := by rw [g29]; exact Nat.ne_of_lt E_a11_28.lt
          have ne_b11_b29 : b11 ≠ b29 := by rw [g29]; exact Nat.ne_of_lt A_b11_28.lt
          have ne_b13_b29 : b13 ≠ b29 := by rw [g29]; exact Nat.ne_of_lt AT.lt
          have E_a11_29 := E_a11_28.ext E29
          have F_a11_coder_29 := F_a11_coder_28.ext E29
          have F_a11_value_29 := F_a11_value_28.ext E29
          have A_b11_29 := A_b11_28.ext E29
          have Z_b13_29 := CHr.safe c29 AT.lt Z_b13_28
          have A_b13_29 := AT.ext E29
          have sz29 : n0 ≤ h29.size := Nat.le_trans sz28 E29.1
          have kp29 := Keep.ext kp28 E29
          have od29 := od28.ext E29
          have F_b29_value : Fld Z h29 b29 "java/lang/String" "value" "[B" .null := D29 (Or.inr (hw _ (List.mem_of_getElem? (i := 4) rfl))) (ty := (.array .byte)) (by decide)
          have F_b29_coder : Fld Z h29 b29 "java/lang/String" "coder" "B" (.int (0 : Int32)) := D29 (Or.inr (hw _ (List.mem_of_getElem? (i := 5) rfl))) (ty := .byte) (by decide)
          refine RunW.dup at_296 rfl (pc' := 297) rfl ?_
          refine RunW.aload at_297 rfl rfl (pc' := 299) rfl ?_
          refine RunW.callN (k' := (0 + 5)) (n' := (100 * (0 + 5))) (a := b29) (as := [(.ref b13)]) (rest := [(.ref b29)]) (con_si1 l Z a0 hw n0 h29 sz29 b29 b13 (own_tx c0 c1 c2 d0 c9 k1 k2 k3) cz .null (.int (0 : Int32)) X29 F_b29_value F_b29_coder ge_b29 A_b13_29 (by simp [own_tx]) (by simp [own_tx]) hlat (SZ.ext od29.2) hcz (Ne.symm ne_b13_b29)) (by rintro _ _ ⟨rfl, ⟨b_, bw_, K_, X_, FV_, FC_, P_⟩⟩; exact ⟨[b29], K_, (allS sf29 all0)⟩) rfl rfl at_299 (hw _ (List.mem_of_getElem? (i := 35) rfl)) (hw _ (List.mem_of_getElem? (i := 36) rfl)) (hw _ (List.mem_of_getElem? (i := 1) rfl)) (hw _ (List.mem_of_getElem? (i := 37) rfl)) (by decide) pd___C_V rfl rfl rfl (by show (3 : Nat) + 1 ≤ 11; decide) (by show (1 : Nat) + (2 + 11) + 52 ≤ 3312; decide) (by show (0 + 4) + 1 ≤ (0 + 5); omega) (by show (0 + 5) ≤ 80; omega) (by show 100 * (0 + 4) + 24 ≤ 100 * (0 + 5); omega) (by show 100 * (0 + 5) ≤ 8512; omega) (pc' := 302) rfl ?_
          rintro _ h30 ⟨rfl, ⟨b30, bw30, K30, X30, FV30, FC30, P30⟩⟩ c30
          show RunW l Z own_EL n0 x.cls code maxLocals ret x room_1 _ 302 #[.val (.int p1), .val (.int p2), .val (.int p3), .val (.int p4), .val (.int p5), .val (.int v5), .val (.int c0), .val (.int c1), .val (.int c2), .val (.int (Int32.ofNat k1)), .val (.int (Int32.ofNat k2)), .val (.int (Int32.ofNat k3)), .val (.int c9), .val (.ref a11), .val (.ref b13), .unset, .unset, .unset] [(.ref b29)] h30 vm11 (0 + 5) (100 * (0 + 5))
          have ge_b30 : n0 ≤ b30 := Nat.le_trans sz29 bw30
          have bo_b30 : h0.size ≤ b30 := Nat.le_trans kp29.1 bw30
          have ne_a11_b30 : a11 ≠ b30 := Nat.ne_of_lt (Nat.lt_of_lt_of_le E_a11_29.lt bw30)
          have ne_b11_b30 : b11 ≠ b30 := Nat.ne_of_lt (Nat.lt_of_lt_of_le A_b11_29.lt bw30)
          have ne_b13_b30 : b13 ≠ b30 := Nat.ne_of_lt (Nat.lt_of_lt_of_le A_b13_29.lt bw30)
          have ne_b29_b30 : b29 ≠ b30 := Nat.ne_of_lt (Nat.lt_of_lt_of_le X29.lt bw30)
          have E_a11_30 := E_a11_29.keep K30
          have F_a11_coder_30 := F_a11_coder_29.keep K30 (ninS ne_a11_b29 nin0)
          have F_a11_value_30 := F_a11_value_29.keep K30 (ninS ne_a11_b29 nin0)
          have A_b11_30 := A_b11_29.keep K30 (ninS ne_b11_b29 nin0)
          have Z_b13_30 := CHr.safe c30 A_b13_29.lt Z_b13_29
          have A_b13_30 := A_b13_29.keep K30 (ninS ne_b13_b29 nin0)
          have E_b29_30 := X29.keep K30
          have Z_b29_30 := CHr.safe c30 X29.lt sf29
          have sz30 : n0 ≤ h30.size := Nat.le_trans sz29 K30.1
          have kp30 := Keep.trans kp29 K30 (allS (Or.inr bo_b29) all0)
          have od30 := od29.keep K30 (allS ge_b29 all0)
          have FCl31 : Fld Z h30 b29 "java/lang/String" "coder" "B" (.int (own_coder (own_tx c0 c1 c2 d0 c9 k1 k2 k3))) := by rw [own_lato hlat]; exact FC30
          have ABl31 : Ary Z h30 b30 .byte (own_enc (own_tx c0 c1 c2 d0 c9 k1 k2 k3)) := by rw [own_late hlat]; exact P30
          obtain ⟨cs, hcs⟩ : ∃ cs, cs = (own_tx c0 c1 c2 d0 c9 k1 k2 k3) := ⟨_, rfl⟩
          rw [← hcs] at FCl31 ABl31
          have hlc : own_lat cs := by rw [hcs]; exact hlat
          have hp := own_latp hlc
          have hch := own_latq hlc
          have hn : cs.length ≤ 15 := by rw [hcs]; exact Nat.le_refl 15
          have hl15 : cs.length = 15 := by rw [hcs]; rfl
          obtain ⟨t, ht⟩ : ∃ x, x = b29 := ⟨_, rfl⟩
          obtain ⟨b, hb⟩ : ∃ x, x = b30 := ⟨_, rfl⟩
          rw [← ht] at X30 Z_b29_30 FV30 FCl31 ⊢
          rw [← hb] at ABl31 FV30
          refine RunW.astore (l' := #[.val (.int p1), .val (.int p2), .val (.int p3), .val (.int p4), .val (.int p5), .val (.int v5), .val (.int c0), .val (.int c1), .val (.int c2), .val (.int (Int32.ofNat k1)), .val (.int (Int32.ofNat k2)), .val (.int (Int32.ofNat k3)), .val (.int c9), .val (.ref a11), .val (.ref b13), .val (.ref t), .unset, .unset]) at_302 rfl rfl (pc' := 304) rfl ?_
          refine RunW.iconst (1 : Int32) at_304 (by decide) (pc' := 305) rfl ?_
          refine RunW.istore (l' := #[.val (.int p1), .val (.int p2), .val (.int p3), .val (.int p4), .val (.int p5), .val (.int v5), .val (.int c0), .val (.int c1), .val (.int c2), .val (.int (Int32.ofNat k1)), .val (.int (Int32.ofNat k2)), .val (.int (Int32.ofNat k3)), .val (.int c9), .val (.ref a11), .val (.ref b13), .val (.ref t), .val (.int (1 : Int32)), .unset]) at_305 rfl (pc' := 307) rfl ?_
          refine RunW.iload at_307 rfl (pc' := 309) rfl ?_
          refine RunW.bipush (123 : Int32) at_309 (by decide) (pc' := 311) rfl ?_
          refine RunW.icmp_ne at_311 (by decide) (pc' := 489) (by decide) (pa := 314) rfl (fun hc311 => ?_) (fun hc311 => ?_)
          · have hsw : own_sw cs [(123 : Int32), (49 : Int32), (58 : Int32)] 0 = 0 := by rw [hcs, own_swT, if_neg (fun z => hc311 z.1)]
            obtain ⟨K, hKe⟩ : ∃ K, K = cs.map own_cl := ⟨_, rfl⟩
            have hK : own_rel cs K := by rw [hKe]; exact own_relM cs
            refine RunW.newO (k' := (0 + 6)) (n' := (100 * (0 + 6))) at_489 (hw _ (List.mem_of_getElem? (i := 55) rfl)) (hw _ (List.mem_of_getElem? (i := 56) rfl)) (hw _ (List.mem_of_getElem? (i := 57) rfl)) (by show (0 + 5) + 1 ≤ (0 + 6); omega) (by show (0 + 6) ≤ 80; omega) (by show 100 * (0 + 5) + 5 ≤ 100 * (0 + 6); omega) (by show 100 * (0 + 6) ≤ 8512; omega) (pc' := 492) rfl ?_
            intro h32 b32 g32 E32 X32 D32 c32 sf32
            have ge_b32 : n0 ≤ b32 := by rw [g32]; exact sz30
            have bo_b32 : h0.size ≤ b32 := by rw [g32]; exact kp30.1
            have ne_a11_b32 : a11 ≠ b32 := by rw [g32]; exact Nat.ne_of_lt E_a11_30.lt
            have ne_b11_b32 : b11 ≠ b32 := by rw [g32]; exact Nat.ne_of_lt A_b11_30.lt
            have ne_b13_b32 : b13 ≠ b32 := by rw [g32]; exact Nat.ne_of_lt A_b13_30.lt
            have ne_t_b32 : t ≠ b32 := by rw [g32]; exact Nat.ne_of_lt X30.lt
            have ne_b_b32 : b ≠ b32 := by rw [g32]; exact Nat.ne_of_lt ABl31.lt
            have E_a11_32 := E_a11_30.ext E32
            have F_a11_coder_32 := F_a11_coder_30.ext E32
            have F_a11_value_32 := F_a11_value_30.ext E32
            have A_b11_32 := A_b11_30.ext E32
            have Z_b13_32 := CHr.safe c32 A_b13_30.lt Z_b13_30
            have A_b13_32 := A_b13_30.ext E32
            have E_t_32 := X30.ext E32
            have Z_t_32 := CHr.safe c32 X30.lt Z_b29_30
            have F_t_value_32 := FV30.ext E32
            have F_t_coder_32 := FCl31.ext E32
            have A_b_32 := ABl31.ext E32
            have sz32 : n0 ≤ h32.size := Nat.le_trans sz30 E32.1
            have kp32 := Keep.ext kp30 E32
            have od32 := od30.ext E32
            have F_b32_text : Fld Z h32 b32 "com/example/wireform/wireform/text/MessageReader" "text" "Ljava/lang/String;" .null := D32 (Or.inr (hw _ (List.mem_of_getElem? (i := 63) rfl))) (ty := (.object "java/lang/String")) (by decide)
            have F_b32_fin : Fld Z h32 b32 "com/example/wireform/wireform/text/MessageReader" "fin" "Z" (.int (0 : Int32)) := D32 (Or.inr (hw _ (List.mem_of_getElem? (i := 90) rfl))) (ty := .boolean) (by decide)
            have F_b32_bare : Fld Z h32 b32 "com/example/wireform/wireform/text/MessageReader" "bare" "Z" (.int (0 : Int32)) := D32 (Or.inl (hw _ (List.mem_of_getElem? (i := 92) rfl))) (ty := .boolean) (by decide)
            have F_b32_position : Fld Z h32 b32 "com/example/wireform/wireform/text/MessageReader" "position" "I" (.int (0 : Int32)) := D32 (Or.inl (hw _ (List.mem_of_getElem? (i := 201) rfl))) (ty := .int) (by decide)
            have F_b32_opening : Fld Z h32 b32 "com/example/wireform/wireform/text/MessageReader" "opening" "Ljava/lang/String;" .null := D32 (Or.inl (hw _ (List.mem_of_getElem? (i := 257) rfl))) (ty := (.object "java/lang/String")) (by decide)
            obtain ⟨r, hrr⟩ : ∃ x, x = b32 := ⟨_, rfl⟩
            rw [← hrr] at X32 sf32 F_b32_text F_b32_fin F_b32_bare F_b32_position F_b32_opening ge_b32 bo_b32 ne_a11_b32 ne_b11_b32 ne_b13_b32 ne_t_b32 ne_b_b32 ⊢
            refine RunW.dup at_492 rfl (pc' := 493) rfl ?_
            refine RunW.aload at_493 rfl rfl (pc' := 495) rfl ?_
            refine RunW.callNW (k' := (0 + 8)) (n' := (100 * (0 + 8))) (a := r) (as := [(.ref t)]) (rest := [(.ref r)]) (con_ri0 l Z a0 hw n0 h32 sz32 r t b cs K fm cz od32 SF hfm SZ hcz E_t_32 F_t_value_32 F_t_coder_32 A_b_32 hp hn hch hK X32 ge_b32 F_b32_text F_b32_fin F_b32_bare F_b32_opening F_b32_position ne_t_b32 ne_b_b32 hsw) all0 (own_EW hw) rfl rfl at_495 (hw _ (List.mem_of_getElem? (i := 58) rfl)) (hw _ (List.mem_of_getElem? (i := 59) rfl)) (hw _ (List.mem_of_getElem? (i := 57) rfl)) (hw _ (List.mem_of_getElem? (i := 60) rfl)) (by decide) pd__Ljava_lang_String__V rfl rfl rfl (by show (4 : Nat) + 1 ≤ 11; decide) (by show (1 : Nat) + (2 + 11) + 60 ≤ 3312; decide) (by show (0 + 6) + 2 ≤ (0 + 8); omega) (by show (0 + 8) ≤ 80; omega) (by show 100 * (0 + 6) + 16 ≤ 100 * (0 + 8); omega) (by show 100 * (0 + 8) ≤ 8512; omega) (pc' := 498) rfl ?_
            rintro _ h33 vm33 ⟨rfl, ⟨K33, X33, Qt33, Qf33, Qb33, XT33, VT33, CT33, AT33⟩⟩ c33
            show RunW l Z own_EL n0 x.cls code maxLocals ret x room_1 _ 498 #[.val (.int p1), .val (.int p2), .val (.int p3), .val (.int p4), .val (.int p5), .val (.int v5), .val (.int c0), .val (.int c1), .val (.int c2), .val (.int (Int32.ofNat k1)), .val (.int (Int32.ofNat k2)), .val (.int (Int32.ofNat k3)), .val (.int c9), .val (.ref a11), .val (.ref b13), .val (.ref t), .val (.int (1 : Int32)), .unset] [(.ref r)] h33 vm33 (0 + 8) (100 * (0 + 8))
            have E_a11_33 := E_a11_32.keep K33
            have F_a11_coder_33 := F_a11_coder_32.keep K33 (ninS ne_a11_b32 nin0)
            have F_a11_value_33 := F_a11_value_32.keep K33 (ninS ne_a11_b32 nin0)
            have A_b11_33 := A_b11_32.keep K33 (ninS ne_b11_b32 nin0)
            have Z_b13_33 := CHr.safe c33 A_b13_32.lt Z_b13_32
            have A_b13_33 := A_b13_32.keep K33 (ninS ne_b13_b32 nin0)
            have E_t_33 := E_t_32.keep K33
            have Z_t_33 := CHr.safe c33 E_t_32.lt Z_t_32
            have F_t_value_33 := F_t_value_32.keep K33 (ninS ne_t_b32 nin0)
            have F_t_coder_33 := F_t_coder_32.keep K33 (ninS ne_t_b32 nin0)
            have A_b_33 := A_b_32.keep K33 (ninS ne_b_b32 nin0)
            have E_r_33 := X32.keep K33
            have Z_r_33 := CHr.safe c33 X32.lt sf32
            have sz33 : n0 ≤ h33.size := Nat.le_trans sz32 K33.1
            have kp33 := Keep.trans kp32 K33 (allS (Or.inr bo_b32) all0)
            have od33 := od32.keep K33 (allS ge_b32 all0)
            refine RunW.astore (l' := #[.val (.int p1), .val (.int p2), .val (.int p3), .val (.int p4), .val (.int p5), .val (.int v5), .val (.int c0), .val (.int c1), .val (.int c2), .val (.int (Int32.ofNat k1)), .val (.int (Int32.ofNat k2)), .val (.int (Int32.ofNat k3)), .val (.int c9), .val (.ref a11), .val (.ref b13), .val (.ref t), .val (.int (1 : Int32)), .val (.ref r)]) at_498 rfl rfl (pc' := 500) rfl ?_
            refine RunW.aload at_500 rfl rfl (pc' := 502) rfl ?_
            refine RunW.callV (k' := (0 + 8)) (n' := (100 * (0 + 8))) (a := r) (as := []) (rest := []) (con_hnb l Z a0 hw n0 h33 sz33 r (1 : Int32) Qf33 Qb33 rfl ) (by rintro _ _ ⟨_, -, -, rfl⟩; exact ⟨[], Keep.refl _ _, all0⟩) X33 at_502 (hw _ (List.mem_of_getElem? (i := 93) rfl)) (hw _ (List.mem_of_getElem? (i := 94) rfl)) (fun s hZ => notFace_of_selects (args := #[]) (mvT hZ (hw _ (List.mem_of_getElem? (i := 96) rfl)))) (hw _ (List.mem_of_getElem? (i := 96) rfl)) (hw _ (List.mem_of_getElem? (i := 95) rfl)) (hw _ (List.mem_of_getElem? (i := 57) rfl)) (hw _ (List.mem_of_getElem? (i := 97) rfl)) (by decide) pd___Z rfl rfl rfl (by show (0 : Nat) + 1 ≤ 11; decide) (by show (0 : Nat) + (1 + 11) + 0 ≤ 3312; decide) (by show (0 + 8) + 0 ≤ (0 + 8); omega) (by show (0 + 8) ≤ 80; omega) (by show 100 * (0 + 8) + 0 ≤ 100 * (0 + 8); omega) (by show 100 * (0 + 8) ≤ 8512; omega) (pc' := 505) rfl ?_
            rintro _ _ ⟨_, rfl, rfl, rfl⟩ -
            show RunW l Z own_EL n0 x.cls code maxLocals ret x room_1 _ 505 #[.val (.int p1), .val (.int p2), .val (.int p3), .val (.int p4), .val (.int p5), .val (.int v5), .val (.int c0), .val (.int c1), .val (.int c2), .val (.int (Int32.ofNat k1)), .val (.int (Int32.ofNat k2)), .val (.int (Int32.ofNat k3)), .val (.int c9), .val (.ref a11), .val (.ref b13), .val (.ref t), .val (.int (1 : Int32)), .val (.ref r)] [(.int (1 : Int32))] h33 vm33 (0 + 8) (100 * (0 + 8))
            refine RunW.if_ne at_505 (by decide) (pc' := 510) (by decide) (pa := 508) rfl (fun hc505 => ?_) (fun hc505 => ?_)
            · refine RunW.aload at_510 rfl rfl (pc' := 512) rfl ?_
              refine RunW.callVW (k' := (0 + 16)) (n' := (100 * (0 + 16))) (a := r) (as := []) (rest := []) (con_nxb l Z a0 hw n0 h33 sz33 r t b cs K fm cz od33 SF hfm SZ hcz XT33 VT33 CT33 AT33 hp hn hch hK X33 ge_b32 Qt33 Qf33 Qb33 ne_t_b32 ne_b_b32) all0 (own_EW hw) X33 at_512 (hw _ (List.mem_of_getElem? (i := 98) rfl)) (hw _ (List.mem_of_getElem? (i := 99) rfl)) (fun s hZ => notFace_of_selects (args := #[]) (mvT hZ (hw _ (List.mem_of_getElem? (i := 101) rfl)))) (hw _ (List.mem_of_getElem? (i := 101) rfl)) (hw _ (List.mem_of_getElem? (i := 100) rfl)) (hw _ (List.mem_of_getElem? (i := 57) rfl)) (hw _ (List.mem_of_getElem? (i := 102) rfl)) (by decide) pd___Lcom_example_wireform_wireform_text_Message_ rfl rfl rfl (by show (6 : Nat) + 1 ≤ 11; decide) (by show (0 : Nat) + (6 + 11) + 3117 ≤ 3312; decide) (by show (0 + 8) + 8 ≤ (0 + 16); omega) (by show (0 + 16) ≤ 80; omega) (by show 100 * (0 + 8) + 67 ≤ 100 * (0 + 16); omega) (by show 100 * (0 + 16) ≤ 8512; omega) (pc' := 515) rfl ?_
              rintro _ h34 vm34 ⟨_, rfl, ⟨x34, rfl, K34, X34, Qf34, Qb34⟩⟩ c34
              show RunW l Z own_EL n0 x.cls code maxLocals ret x room_1 _ 515 #[.val (.int p1), .val (.int p2), .val (.int p3), .val (.int p4), .val (.int p5), .val (.int v5), .val (.int c0), .val (.int c1), .val (.int c2), .val (.int (Int32.ofNat k1)), .val (.int (Int32.ofNat k2)), .val (.int (Int32.ofNat k3)), .val (.int c9), .val (.ref a11), .val (.ref b13), .val (.ref t), .val (.int (1 : Int32)), .val (.ref r)] [(.ref x34)] h34 vm34 (0 + 16) (100 * (0 + 16))
              have E_a11_34 := E_a11_33.keep K34
              have F_a11_coder_34 := F_a11_coder_33.keep K34 (ninS ne_a11_b32 nin0)
              have F_a11_value_34 := F_a11_value_33.keep K34 (ninS ne_a11_b32 nin0)
              have A_b11_34 := A_b11_33.keep K34 (ninS ne_b11_b32 nin0)
              have Z_b13_34 := CHr.safe c34 A_b13_33.lt Z_b13_33
              have A_b13_34 := A_b13_33.keep K34 (ninS ne_b13_b32 nin0)
              have E_t_34 := XT33.keep K34
              have Z_t_34 := CHr.safe c34 XT33.lt Z_t_33
              have F_t_value_34 := VT33.keep K34 (ninS ne_t_b32 nin0)
              have F_t_coder_34 := CT33.keep K34 (ninS ne_t_b32 nin0)
              have A_b_34 := AT33.keep K34 (ninS ne_b_b32 nin0)
              have E_r_34 := X33.keep K34
              have Z_r_34 := CHr.safe c34 X33.lt Z_r_33
              have sz34 : n0 ≤ h34.size := Nat.le_trans sz33 K34.1
              have kp34 := Keep.trans kp33 K34 (allS (Or.inr bo_b32) all0)
              have od34 := od33.keep K34 (allS ge_b32 all0)
              refine RunW.pop at_515 rfl (pc' := 516) rfl ?_
              refine RunW.aload at_516 rfl rfl (pc' := 518) rfl ?_
              refine RunW.callV (k' := (0 + 16)) (n' := (100 * (0 + 16))) (a := r) (as := []) (rest := []) (con_hnb l Z a0 hw n0 h34 sz34 r (0 : Int32) Qf34 Qb34 rfl ) (by rintro _ _ ⟨_, -, -, rfl⟩; exact ⟨[], Keep.refl _ _, all0⟩) X34 at_518 (hw _ (List.mem_of_getElem? (i := 93) rfl)) (hw _ (List.mem_of_getElem? (i := 94) rfl)) (fun s hZ => notFace_of_selects (args := #[]) (mvT hZ (hw _ (List.mem_of_getElem? (i := 96) rfl)))) (hw _ (List.mem_of_getElem? (i := 96) rfl)) (hw _ (List.mem_of_getElem? (i := 95) rfl)) (hw _ (List.mem_of_getElem? (i := 57) rfl)) (hw _ (List.mem_of_getElem? (i := 97) rfl)) (by decide) pd___Z rfl rfl rfl (by show (0 : Nat) + 1 ≤ 11; decide) (by show (0 : Nat) + (1 + 11) + 0 ≤ 3312; decide) (by show (0 + 16) + 0 ≤ (0 + 16); omega) (by show (0 + 16) ≤ 80; omega) (by show 100 * (0 + 16) + 0 ≤ 100 * (0 + 16); omega) (by show 100 * (0 + 16) ≤ 8512; omega) (pc' := 521) rfl ?_
              rintro _ _ ⟨_, rfl, rfl, rfl⟩ -
              show RunW l Z own_EL n0 x.cls code maxLocals ret x room_1 _ 521 #[.val (.int p1), .val (.int p2), .val (.int p3), .val (.int p4), .val (.int p5), .val (.int v5), .val (.int c0), .val (.int c1), .val (.int c2), .val (.int (Int32.ofNat k1)), .val (.int (Int32.ofNat k2)), .val (.int (Int32.ofNat k3)), .val (.int c9), .val (.ref a11), .val (.ref b13), .val (.ref t), .val (.int (1 : Int32)), .val (.ref r)] [(.int (0 : Int32))] h34 vm34 (0 + 16) (100 * (0 + 16))
              refine RunW.iload at_521 rfl (pc' := 523) rfl ?_
              refine RunW.iconst (1 : Int32) at_523 (by decide) (pc' := 524) rfl ?_
              refine RunW.icmp_le at_524 (by decide) (pc' := 531) (by decide) (pa := 527) rfl (fun hc524 => ?_) (fun hc524 => ?_)
              · refine RunW.iconst (0 : Int32) at_531 (by decide) (pc' := 532) rfl ?_
                refine RunW.icmp_eq at_532 (by decide) (pc' := 537) (by decide) (pa := 535) rfl (fun hc532 => ?_) (fun hc532 => ?_)
                · refine RunW.iload at_537 rfl (pc' := 539) rfl ?_
                  refine RunW.iconst (2 : Int32) at_539 (by decide) (pc' := 540) rfl ?_
                  refine RunW.icmp_ge at_540 (by decide) (pc' := 545) (by decide) (pa := 543) rfl (fun hc540 => ?_) (fun hc540 => ?_)
                  · exact absurd hc540 (by decide)
                  · refine RunW.iconst (1 : Int32) at_543 (by decide) (pc' := 544) rfl ?_
                    exact RunW.nreturn at_544 (ty := .boolean) rfl (by simp) (by show (0 + 16) ≤ 80; omega) (by show 100 * (0 + 16) ≤ 8512; omega) ⟨_, rfl, rfl⟩
                · exact absurd hc532 (by decide)
              · exact absurd hc524 (by decide)
            · exact absurd hc505 (by decide)
          · refine RunW.iload at_314 rfl (pc' := 316) rfl ?_
            refine RunW.bipush (49 : Int32) at_316 (by decide) (pc' := 318) rfl ?_
            refine RunW.icmp_ne at_318 (by decide) (pc' := 489) (by decide) (pa := 321) rfl (fun hc318 => ?_) (fun hc318 => ?_)
            · have hsw : own_sw cs [(123 : Int32), (49 : Int32), (58 : Int32)] 0 = 0 := by rw [hcs, own_swT, if_neg (fun z => hc318 z.2.1)]
              obtain ⟨K, hKe⟩ : ∃ K, K = cs.map own_cl := ⟨_, rfl⟩
              have hK : own_rel cs K := by rw [hKe]; exact own_relM cs
              refine RunW.newO (k' := (0 + 6)) (n' := (100 * (0 + 6))) at_489 (hw _ (List.mem_of_getElem? (i := 55) rfl)) (hw _ (List.mem_of_getElem? (i := 56) rfl)) (hw _ (List.mem_of_getElem? (i := 57) rfl)) (by show (0 + 5) + 1 ≤ (0 + 6); omega) (by show (0 + 6) ≤ 80; omega) (by show 100 * (0 + 5) + 5 ≤ 100 * (0 + 6); omega) (by show 100 * (0 + 6) ≤ 8512; omega) (pc' := 492) rfl ?_
              intro h35 b35 g35 E35 X35 D35 c35 sf35
              have ge_b35 : n0 ≤ b35 := by rw [g35]; exact sz30
              have bo_b35 : h0.size ≤ b35 := by rw [g35]; exact kp30.1
              have ne_a11_b35 : a11 ≠ b35 := by rw [g35]; exact Nat.ne_of_lt E_a11_30.lt
              have ne_b11_b35 : b11 ≠ b35 := by rw [g35]; exact Nat.ne_of_lt A_b11_30.lt
              have ne_b13_b35 : b13 ≠ b35 := by rw [g35]; exact Nat.ne_of_lt A_b13_30.lt
              have ne_t_b35 : t ≠ b35 := by rw [g35]; exact Nat.ne_of_lt X30.lt
              have ne_b_b35 : b ≠ b35 := by rw [g35]; exact Nat.ne_of_lt ABl31.lt
              have E_a11_35 := E_a11_30.ext E35
              have F_a11_coder_35 := F_a11_coder_30.ext E35
              have F_a11_value_35 := F_a11_value_30.ext E35
              have A_b11_35 := A_b11_30.ext E35
              have Z_b13_35 := CHr.safe c35 A_b13_30.lt Z_b13_30
              have A_b13_35 := A_b13_30.ext E35
              have E_t_35 := X30.ext E35
              have Z_t_35 := CHr.safe c35 X30.lt Z_b29_30
              have F_t_value_35 := FV30.ext E35
              have F_t_coder_35 := FCl31.ext E35
              have A_b_35 := ABl31.ext E35
              have sz35 : n0 ≤ h35.size := Nat.le_trans sz30 E35.1
              have kp35 := Keep.ext kp30 E35
              have od35 := od30.ext E35
              have F_b35_text : Fld Z h35 b35 "com/example/wireform/wireform/text/MessageReader" "text" "Ljava/lang/String;" .null := D35 (Or.inr (hw _ (List.mem_of_getElem? (i := 63) rfl))) (ty := (.object "java/lang/String")) (by decide)
              have F_b35_fin : Fld Z h35 b35 "com/example/wireform/wireform/text/MessageReader" "fin" "Z" (.int (0 : Int32)) := D35 (Or.inr (hw _ (List.mem_of_getElem? (i := 90) rfl))) (ty := .boolean) (by decide)
              have F_b35_bare : Fld Z h35 b35 "com/example/wireform/wireform/text/MessageReader" "bare" "Z" (.int (0 : Int32)) := D35 (Or.inl (hw _ (List.mem_of_getElem? (i := 92) rfl))) (ty := .boolean) (by decide)
              have F_b35_position : Fld Z h35 b35 "com/example/wireform/wireform/text/MessageReader" "position" "I" (.int (0 : Int32)) := D35 (Or.inl (hw _ (List.mem_of_getElem? (i := 201) rfl))) (ty := .int) (by decide)
              have F_b35_opening : Fld Z h35 b35 "com/example/wireform/wireform/text/MessageReader" "opening" "Ljava/lang/String;" .null := D35 (Or.inl (hw _ (List.mem_of_getElem? (i := 257) rfl))) (ty := (.object "java/lang/String")) (by decide)
              obtain ⟨r, hrr⟩ : ∃ x, x = b35 := ⟨_, rfl⟩
              rw [← hrr] at X35 sf35 F_b35_text F_b35_fin F_b35_bare F_b35_position F_b35_opening ge_b35 bo_b35 ne_a11_b35 ne_b11_b35 ne_b13_b35 ne_t_b35 ne_b_b35 ⊢
              refine RunW.dup at_492 rfl (pc' := 493) rfl ?_
              refine RunW.aload at_493 rfl rfl (pc' := 495) rfl ?_
              refine RunW.callNW (k' := (0 + 8)) (n' := (100 * (0 + 8))) (a := r) (as := [(.ref t)]) (rest := [(.ref r)]) (con_ri0 l Z a0 hw n0 h35 sz35 r t b cs K fm cz od35 SF hfm SZ hcz E_t_35 F_t_value_35 F_t_coder_35 A_b_35 hp hn hch hK X35 ge_b35 F_b35_text F_b35_fin F_b35_bare F_b35_opening F_b35_position ne_t_b35 ne_b_b35 hsw) all0 (own_EW hw) rfl rfl at_495 (hw _ (List.mem_of_getElem? (i := 58) rfl)) (hw _ (List.mem_of_getElem? (i := 59) rfl)) (hw _ (List.mem_of_getElem? (i := 57) rfl)) (hw _ (List.mem_of_getElem? (i := 60) rfl)) (by decide) pd__Ljava_lang_String__V rfl rfl rfl (by show (4 : Nat) + 1 ≤ 11; decide) (by show (1 : Nat) + (2 + 11) + 60 ≤ 3312; decide) (by show (0 + 6) + 2 ≤ (0 + 8); omega) (by show (0 + 8) ≤ 80; omega) (by show 100 * (0 + 6) + 16 ≤ 100 * (0 + 8); omega) (by show 100 * (0 + 8) ≤ 8512; omega) (pc' := 498) rfl ?_
              rintro _ h36 vm36 ⟨rfl, ⟨K36, X36, Qt36, Qf36, Qb36, XT36, VT36, CT36, AT36⟩⟩ c36
              show RunW l Z own_EL n0 x.cls code maxLocals ret x room_1 _ 498 #[.val (.int p1), .val (.int p2), .val (.int p3), .val (.int p4), .val (.int p5), .val (.int v5), .val (.int c0), .val (.int c1), .val (.int c2), .val (.int (Int32.ofNat k1)), .val (.int (Int32.ofNat k2)), .val (.int (Int32.ofNat k3)), .val (.int c9), .val (.ref a11), .val (.ref b13), .val (.ref t), .val (.int (1 : Int32)), .unset] [(.ref r)] h36 vm36 (0 + 8) (100 * (0 + 8))
              have E_a11_36 := E_a11_35.keep K36
              have F_a11_coder_36 := F_a11_coder_35.keep K36 (ninS ne_a11_b35 nin0)
              have F_a11_value_36 := F_a11_value_35.keep K36 (ninS ne_a11_b35 nin0)
              have A_b11_36 := A_b11_35.keep K36 (ninS ne_b11_b35 nin0)
              have Z_b13_36 := CHr.safe c36 A_b13_35.lt Z_b13_35
              have A_b13_36 := A_b13_35.keep K36 (ninS ne_b13_b35 nin0)
              have E_t_36 := E_t_35.keep K36
              have Z_t_36 := CHr.safe c36 E_t_35.lt Z_t_35
              have F_t_value_36 := F_t_value_35.keep K36 (ninS ne_t_b35 nin0)
              have F_t_coder_36 := F_t_coder_35.keep K36 (ninS ne_t_b35 nin0)
              have A_b_36 := A_b_35.keep K36 (ninS ne_b_b35 nin0)
              have E_r_36 := X35.keep K36
              have Z_r_36 := CHr.safe c36 X35.lt sf35
              have sz36 : n0 ≤ h36.size := Nat.le_trans sz35 K36.1
              have kp36 := Keep.trans kp35 K36 (allS (Or.inr bo_b35) all0)
              have od36 := od35.keep K36 (allS ge_b35 all0)
              refine RunW.astore (l' := #[.val (.int p1), .val (.int p2), .val (.int p3), .val (.int p4), .val (.int p5), .val (.int v5), .val (.int c0), .val (.int c1), .val (.int c2), .val (.int (Int32.ofNat k1)), .val (.int (Int32.ofNat k2)), .val (.int (Int32.ofNat k3)), .val (.int c9), .val (.ref a11), .val (.ref b13), .val (.ref t), .val (.int (1 : Int32)), .val (.ref r)]) at_498 rfl rfl (pc' := 500) rfl ?_
              refine RunW.aload at_500 rfl rfl (pc' := 502) rfl ?_
              refine RunW.callV (k' := (0 + 8)) (n' := (100 * (0 + 8))) (a := r) (as := []) (rest := []) (con_hnb l Z a0 hw n0 h36 sz36 r (1 : Int32) Qf36 Qb36 rfl ) (by rintro _ _ ⟨_, -, -, rfl⟩; exact ⟨[], Keep.refl _ _, all0⟩) X36 at_502 (hw _ (List.mem_of_getElem? (i := 93) rfl)) (hw _ (List.mem_of_getElem? (i := 94) rfl)) (fun s hZ => notFace_of_selects (args := #[]) (mvT hZ (hw _ (List.mem_of_getElem? (i := 96) rfl)))) (hw _ (List.mem_of_getElem? (i := 96) rfl)) (hw _ (List.mem_of_getElem? (i := 95) rfl)) (hw _ (List.mem_of_getElem? (i := 57) rfl)) (hw _ (List.mem_of_getElem? (i := 97) rfl)) (by decide) pd___Z rfl rfl rfl (by show (0 : Nat) + 1 ≤ 11; decide) (by show (0 : Nat) + (1 + 11) + 0 ≤ 3312; decide) (by show (0 + 8) + 0 ≤ (0 + 8); omega) (by show (0 + 8) ≤ 80; omega) (by show 100 * (0 + 8) + 0 ≤ 100 * (0 + 8); omega) (by show 100 * (0 + 8) ≤ 8512; omega) (pc' := 505) rfl ?_
              rintro _ _ ⟨_, rfl, rfl, rfl⟩ -
              show RunW l Z own_EL n0 x.cls code maxLocals ret x room_1 _ 505 #[.val (.int p1), .val (.int p2), .val (.int p3), .val (.int p4), .val (.int p5), .val (.int v5), .val (.int c0), .val (.int c1), .val (.int c2), .val (.int (Int32.ofNat k1)), .val (.int (Int32.ofNat k2)), .val (.int (Int32.ofNat k3)), .val (.int c9), .val (.ref a11), .val (.ref b13), .val (.ref t), .val (.int (1 : Int32)), .val (.ref r)] [(.int (1 : Int32))] h36 vm36 (0 + 8) (100 * (0 + 8))
              refine RunW.if_ne at_505 (by decide) (pc' := 510) (by decide) (pa := 508) rfl (fun hc505 => ?_) (fun hc505 => ?_)
              · refine RunW.aload at_510 rfl rfl (pc' := 512) rfl ?_
                refine RunW.callVW (k' := (0 + 16)) (n' := (100 * (0 + 16))) (a := r) (as := []) (rest := []) (con_nxb l Z a0 hw n0 h36 sz36 r t b cs K fm cz od36 SF hfm SZ hcz XT36 VT36 CT36 AT36 hp hn hch hK X36 ge_b35 Qt36 Qf36 Qb36 ne_t_b35 ne_b_b35) all0 (own_EW hw) X36 at_512 (hw _ (List.mem_of_getElem? (i := 98) rfl)) (hw _ (List.mem_of_getElem? (i := 99) rfl)) (fun s hZ => notFace_of_selects (args := #[]) (mvT hZ (hw _ (List.mem_of_getElem? (i := 101) rfl)))) (hw _ (List.mem_of_getElem? (i := 101) rfl)) (hw _ (List.mem_of_getElem? (i := 100) rfl)) (hw _ (List.mem_of_getElem? (i := 57) rfl)) (hw _ (List.mem_of_getElem? (i := 102) rfl)) (by decide) pd___Lcom_example_wireform_wireform_text_Message_ rfl rfl rfl (by show (6 : Nat) + 1 ≤ 11; decide) (by show (0 : Nat) + (6 + 11) + 3117 ≤ 3312; decide) (by show (0 + 8) + 8 ≤ (0 + 16); omega) (by show (0 + 16) ≤ 80; omega) (by show 100 * (0 + 8) + 67 ≤ 100 * (0 + 16); omega) (by show 100 * (0 + 16) ≤ 8512; omega) (pc' := 515) rfl ?_
                rintro _ h37 vm37 ⟨_, rfl, ⟨x37, rfl, K37, X37, Qf37, Qb37⟩⟩ c37
                show RunW l Z own_EL n0 x.cls code maxLocals ret x room_1 _ 515 #[.val (.int p1), .val (.int p2), .val (.int p3), .val (.int p4), .val (.int p5), .val (.int v5), .val (.int c0), .val (.int c1), .val (.int c2), .val (.int (Int32.ofNat k1)), .val (.int (Int32.ofNat k2)), .val (.int (Int32.ofNat k3)), .val (.int c9), .val (.ref a11), .val (.ref b13), .val (.ref t), .val (.int (1 : Int32)), .val (.ref r)] [(.ref x37)] h37 vm37 (0 + 16) (100 * (0 + 16))
                have E_a11_37 := E_a11_36.keep K37
                have F_a11_coder_37 := F_a11_coder_36.keep K37 (ninS ne_a11_b35 nin0)
                have F_a11_value_37 := F_a11_value_36.keep K37 (ninS ne_a11_b35 nin0)
                have A_b11_37 := A_b11_36.keep K37 (ninS ne_b11_b35 nin0)
                have Z_b13_37 := CHr.safe c37 A_b13_36.lt Z_b13_36
                have A_b13_37 := A_b13_36.keep K37 (ninS ne_b13_b35 nin0)
                have E_t_37 := XT36.keep K37
                have Z_t_37 := CHr.safe c37 XT36.lt Z_t_36
                have F_t_value_37 := VT36.keep K37 (ninS ne_t_b35 nin0)
                have F_t_coder_37 := CT36.keep K37 (ninS ne_t_b35 nin0)
                have A_b_37 := AT36.keep K37 (ninS ne_b_b35 nin0)
                have E_r_37 := X36.keep K37
                have Z_r_37 := CHr.safe c37 X36.lt Z_r_36
                have sz37 : n0 ≤ h37.size := Nat.le_trans sz36 K37.1
                have kp37 := Keep.trans kp36 K37 (allS (Or.inr bo_b35) all0)
                have od37 := od36.keep K37 (allS ge_b35 all0)
                refine RunW.pop at_515 rfl (pc' := 516) rfl ?_
                refine RunW.aload at_516 rfl rfl (pc' := 518) rfl ?_
                refine RunW.callV (k' := (0 + 16)) (n' := (100 * (0 + 16))) (a := r) (as := []) (rest := []) (con_hnb l Z a0 hw n0 h37 sz37 r (0 : Int32) Qf37 Qb37 rfl ) (by rintro _ _ ⟨_, -, -, rfl⟩; exact ⟨[], Keep.refl _ _, all0⟩) X37 at_518 (hw _ (List.mem_of_getElem? (i := 93) rfl)) (hw _ (List.mem_of_getElem? (i := 94) rfl)) (fun s hZ => notFace_of_selects (args := #[]) (mvT hZ (hw _ (List.mem_of_getElem? (i := 96) rfl)))) (hw _ (List.mem_of_getElem? (i := 96) rfl)) (hw _ (List.mem_of_getElem? (i := 95) rfl)) (hw _ (List.mem_of_getElem? (i := 57) rfl)) (hw _ (List.mem_of_getElem? (i := 97) rfl)) (by decide) pd___Z rfl rfl rfl (by show (0 : Nat) + 1 ≤ 11; decide) (by show (0 : Nat) + (1 + 11) + 0 ≤ 3312; decide) (by show (0 + 16) + 0 ≤ (0 + 16); omega) (by show (0 + 16) ≤ 80; omega) (by show 100 * (0 + 16) + 0 ≤ 100 * (0 + 16); omega) (by show 100 * (0 + 16) ≤ 8512; omega) (pc' := 521) rfl ?_
                rintro _ _ ⟨_, rfl, rfl, rfl⟩ -
                show RunW l Z own_EL n0 x.cls code maxLocals ret x room_1 _ 521 #[.val (.int p1), .val (.int p2), .val (.int p3), .val (.int p4), .val (.int p5), .val (.int v5), .val (.int c0), .val (.int c1), .val (.int c2), .val (.int (Int32.ofNat k1)), .val (.int (Int32.ofNat k2)), .val (.int (Int32.ofNat k3)), .val (.int c9), .val (.ref a11), .val (.ref b13), .val (.ref t), .val (.int (1 : Int32)), .val (.ref r)] [(.int (0 : Int32))] h37 vm37 (0 + 16) (100 * (0 + 16))
                refine RunW.iload at_521 rfl (pc' := 523) rfl ?_
                refine RunW.iconst (1 : Int32) at_523 (by decide) (pc' := 524) rfl ?_
                refine RunW.icmp_le at_524 (by decide) (pc' := 531) (by decide) (pa := 527) rfl (fun hc524 => ?_) (fun hc524 => ?_)
                · refine RunW.iconst (0 : Int32) at_531 (by decide) (pc' := 532) rfl ?_
                  refine RunW.icmp_eq at_532 (by decide) (pc' := 537) (by decide) (pa := 535) rfl (fun hc532 => ?_) (fun hc532 => ?_)
                  · refine RunW.iload at_537 rfl (pc' := 539) rfl ?_
                    refine RunW.iconst (2 : Int32) at_539 (by decide) (pc' := 540) rfl ?_
                    refine RunW.icmp_ge at_540 (by decide) (pc' := 545) (by decide) (pa := 543) rfl (fun hc540 => ?_) (fun hc540 => ?_)
                    · exact absurd hc540 (by decide)
                    · refine RunW.iconst (1 : Int32) at_543 (by decide) (pc' := 544) rfl ?_
                      exact RunW.nreturn at_544 (ty := .boolean) rfl (by simp) (by show (0 + 16) ≤ 80; omega) (by show 100 * (0 + 16) ≤ 8512; omega) ⟨_, rfl, rfl⟩
                  · exact absurd hc532 (by decide)
                · exact absurd hc524 (by decide)
              · exact absurd hc505 (by decide)
            · refine RunW.iload at_321 rfl (pc' := 323) rfl ?_
              refine RunW.bipush (58 : Int32) at_323 (by decide) (pc' := 325) rfl ?_
              refine RunW.icmp_ne at_325 (by decide) (pc' := 489) (by decide) (pa := 328) rfl (fun hc325 => ?_) (fun hc325 => ?_)
              · have hsw : own_sw cs [(123 : Int32), (49 : Int32), (58 : Int32)] 0 = 0 := by rw [hcs, own_swT, if_neg (fun z => hc325 z.2.2)]
                obtain ⟨K, hKe⟩ : ∃ K, K = cs.map own_cl := ⟨_, rfl⟩
                have hK : own_rel cs K := by rw [hKe]; exact own_relM cs
                refine RunW.newO (k' := (0 + 6)) (n' := (100 * (0 + 6))) at_489 (hw _ (List.mem_of_getElem? (i := 55) rfl)) (hw _ (List.mem_of_getElem? (i := 56) rfl)) (hw _ (List.mem_of_getElem? (i := 57) rfl)) (by show (0 + 5) + 1 ≤ (0 + 6); omega) (by show (0 + 6) ≤ 80; omega) (by show 100 * (0 + 5) + 5 ≤ 100 * (0 + 6); omega) (by show 100 * (0 + 6) ≤ 8512; omega) (pc' := 492) rfl ?_
                intro h38 b38 g38 E38 X38 D38 c38 sf38
                have ge_b38 : n0 ≤ b38 := by rw [g38]; exact sz30
                have bo_b38 : h0.size ≤ b38 := by rw [g38]; exact kp30.1
                have ne_a11_b38 : a11 ≠ b38 := by rw [g38]; exact Nat.ne_of_lt E_a11_30.lt
                have ne_b11_b38 : b11 ≠ b38 := by rw [g38]; exact Nat.ne_of_lt A_b11_30.lt
                have ne_b13_b38 : b13 ≠ b38 := by rw [g38]; exact Nat.ne_of_lt A_b13_30.lt
                have ne_t_b38 : t ≠ b38 := by rw [g38]; exact Nat.ne_of_lt X30.lt
                have ne_b_b38 : b ≠ b38 := by rw [g38]; exact Nat.ne_of_lt ABl31.lt
                have E_a11_38 := E_a11_30.ext E38
                have F_a11_coder_38 := F_a11_coder_30.ext E38
                have F_a11_value_38 := F_a11_value_30.ext E38
                have A_b11_38 := A_b11_30.ext E38
                have Z_b13_38 := CHr.safe c38 A_b13_30.lt Z_b13_30
                have A_b13_38 := A_b13_30.ext E38
                have E_t_38 := X30.ext E38
                have Z_t_38 := CHr.safe c38 X30.lt Z_b29_30
                have F_t_value_38 := FV30.ext E38
                have F_t_coder_38 := FCl31.ext E38
                have A_b_38 := ABl31.ext E38
                have sz38 : n0 ≤ h38.size := Nat.le_trans sz30 E38.1
                have kp38 := Keep.ext kp30 E38
                have od38 := od30.ext E38
                have F_b38_text : Fld Z h38 b38 "com/example/wireform/wireform/text/MessageReader" "text" "Ljava/lang/String;" .null := D38 (Or.inr (hw _ (List.mem_of_getElem? (i := 63) rfl))) (ty := (.object "java/lang/String")) (by decide)
                have F_b38_fin : Fld Z h38 b38 "com/example/wireform/wireform/text/MessageReader" "fin" "Z" (.int (0 : Int32)) := D38 (Or.inr (hw _ (List.mem_of_getElem? (i := 90) rfl))) (ty := .boolean) (by decide)
                have F_b38_bare : Fld Z h38 b38 "com/example/wireform/wireform/text/MessageReader" "bare" "Z" (.int (0 : Int32)) := D38 (Or.inl (hw _ (List.mem_of_getElem? (i := 92) rfl))) (ty := .boolean) (by decide)
                have F_b38_position : Fld Z h38 b38 "com/example/wireform/wireform/text/MessageReader" "position" "I" (.int (0 : Int32)) := D38 (Or.inl (hw _ (List.mem_of_getElem? (i := 201) rfl))) (ty := .int) (by decide)
                have F_b38_opening : Fld Z h38 b38 "com/example/wireform/wireform/text/MessageReader" "opening" "Ljava/lang/String;" .null := D38 (Or.inl (hw _ (List.mem_of_getElem? (i := 257) rfl))) (ty := (.object "java/lang/String")) (by decide)
                obtain ⟨r, hrr⟩ : ∃ x, x = b38 := ⟨_, rfl⟩
                rw [← hrr] at X38 sf38 F_b38_text F_b38_fin F_b38_bare F_b38_position F_b38_opening ge_b38 bo_b38 ne_a11_b38 ne_b11_b38 ne_b13_b38 ne_t_b38 ne_b_b38 ⊢
                refine RunW.dup at_492 rfl (pc' := 493) rfl ?_
                refine RunW.aload at_493 rfl rfl (pc' := 495) rfl ?_
                refine RunW.callNW (k' := (0 + 8)) (n' := (100 * (0 + 8))) (a := r) (as := [(.ref t)]) (rest := [(.ref r)]) (con_ri0 l Z a0 hw n0 h38 sz38 r t b cs K fm cz od38 SF hfm SZ hcz E_t_38 F_t_value_38 F_t_coder_38 A_b_38 hp hn hch hK X38 ge_b38 F_b38_text F_b38_fin F_b38_bare F_b38_opening F_b38_position ne_t_b38 ne_b_b38 hsw) all0 (own_EW hw) rfl rfl at_495 (hw _ (List.mem_of_getElem? (i := 58) rfl)) (hw _ (List.mem_of_getElem? (i := 59) rfl)) (hw _ (List.mem_of_getElem? (i := 57) rfl)) (hw _ (List.mem_of_getElem? (i := 60) rfl)) (by decide) pd__Ljava_lang_String__V rfl rfl rfl (by show (4 : Nat) + 1 ≤ 11; decide) (by show (1 : Nat) + (2 + 11) + 60 ≤ 3312; decide) (by show (0 + 6) + 2 ≤ (0 + 8); omega) (by show (0 + 8) ≤ 80; omega) (by show 100 * (0 + 6) + 16 ≤ 100 * (0 + 8); omega) (by show 100 * (0 + 8) ≤ 8512; omega) (pc' := 498) rfl ?_
                rintro _ h39 vm39 ⟨rfl, ⟨K39, X39, Qt39, Qf39, Qb39, XT39, VT39, CT39, AT39⟩⟩ c39
                show RunW l Z own_EL n0 x.cls code maxLocals ret x room_1 _ 498 #[.val (.int p1), .val (.int p2), .val (.int p3), .val (.int p4), .val (.int p5), .val (.int v5), .val (.int c0), .val (.int c1), .val (.int c2), .val (.int (Int32.ofNat k1)), .val (.int (Int32.ofNat k2)), .val (.int (Int32.ofNat k3)), .val (.int c9), .val (.ref a11), .val (.ref b13), .val (.ref t), .val (.int (1 : Int32)), .unset] [(.ref r)] h39 vm39 (0 + 8) (100 * (0 + 8))
                have E_a11_39 := E_a11_38.keep K39
                have F_a11_coder_39 := F_a11_coder_38.keep K39 (ninS ne_a11_b38 nin0)
                have F_a11_value_39 := F_a11_value_38.keep K39 (ninS ne_a11_b38 nin0)
                have A_b11_39 := A_b11_38.keep K39 (ninS ne_b11_b38 nin0)
                have Z_b13_39 := CHr.safe c39 A_b13_38.lt Z_b13_38
                have A_b13_39 := A_b13_38.keep K39 (ninS ne_b13_b38 nin0)
                have E_t_39 := E_t_38.keep K39
                have Z_t_39 := CHr.safe c39 E_t_38.lt Z_t_38
                have F_t_value_39 := F_t_value_38.keep K39 (ninS ne_t_b38 nin0)
                have F_t_coder_39 := F_t_coder_38.keep K39 (ninS ne_t_b38 nin0)
                have A_b_39 := A_b_38.keep K39 (ninS ne_b_b38 nin0)
                have E_r_39 := X38.keep K39
                have Z_r_39 := CHr.safe c39 X38.lt sf38
                have sz39 : n0 ≤ h39.size := Nat.le_trans sz38 K39.1
                have kp39 := Keep.trans kp38 K39 (allS (Or.inr bo_b38) all0)
                have od39 := od38.keep K39 (allS ge_b38 all0)
                refine RunW.astore (l' := #[.val (.int p1), .val (.int p2), .val (.int p3), .val (.int p4), .val (.int p5), .val (.int v5), .val (.int c0), .val (.int c1), .val (.int c2), .val (.int (Int32.ofNat k1)), .val (.int (Int32.ofNat k2)), .val (.int (Int32.ofNat k3)), .val (.int c9), .val (.ref a11), .val (.ref b13), .val (.ref t), .val (.int (1 : Int32)), .val (.ref r)]) at_498 rfl rfl (pc' := 500) rfl ?_
                refine RunW.aload at_500 rfl rfl (pc' := 502) rfl ?_
                refine RunW.callV (k' := (0 + 8)) (n' := (100 * (0 + 8))) (a := r) (as := []) (rest := []) (con_hnb l Z a0 hw n0 h39 sz39 r (1 : Int32) Qf39 Qb39 rfl ) (by rintro _ _ ⟨_, -, -, rfl⟩; exact ⟨[], Keep.refl _ _, all0⟩) X39 at_502 (hw _ (List.mem_of_getElem? (i := 93) rfl)) (hw _ (List.mem_of_getElem? (i := 94) rfl)) (fun s hZ => notFace_of_selects (args := #[]) (mvT hZ (hw _ (List.mem_of_getElem? (i := 96) rfl)))) (hw _ (List.mem_of_getElem? (i := 96) rfl)) (hw _ (List.mem_of_getElem? (i := 95) rfl)) (hw _ (List.mem_of_getElem? (i := 57) rfl)) (hw _ (List.mem_of_getElem? (i := 97) rfl)) (by decide) pd___Z rfl rfl rfl (by show (0 : Nat) + 1 ≤ 11; decide) (by show (0 : Nat) + (1 + 11) + 0 ≤ 3312; decide) (by show (0 + 8) + 0 ≤ (0 + 8); omega) (by show (0 + 8) ≤ 80; omega) (by show 100 * (0 + 8) + 0 ≤ 100 * (0 + 8); omega) (by show 100 * (0 + 8) ≤ 8512; omega) (pc' := 505) rfl ?_
                rintro _ _ ⟨_, rfl, rfl, rfl⟩ -
                show RunW l Z own_EL n0 x.cls code maxLocals ret x room_1 _ 505 #[.val (.int p1), .val (.int p2), .val (.int p3), .val (.int p4), .val (.int p5), .val (.int v5), .val (.int c0), .val (.int c1), .val (.int c2), .val (.int (Int32.ofNat k1)), .val (.int (Int32.ofNat k2)), .val (.int (Int32.ofNat k3)), .val (.int c9), .val (.ref a11), .val (.ref b13), .val (.ref t), .val (.int (1 : Int32)), .val (.ref r)] [(.int (1 : Int32))] h39 vm39 (0 + 8) (100 * (0 + 8))
                refine RunW.if_ne at_505 (by decide) (pc' := 510) (by decide) (pa := 508) rfl (fun hc505 => ?_) (fun hc505 => ?_)
                · refine RunW.aload at_510 rfl rfl (pc' := 512) rfl ?_
                  refine RunW.callVW (k' := (0 + 16)) (n' := (100 * (0 + 16))) (a := r) (as := []) (rest := []) (con_nxb l Z a0 hw n0 h39 sz39 r t b cs K fm cz od39 SF hfm SZ hcz XT39 VT39 CT39 AT39 hp hn hch hK X39 ge_b38 Qt39 Qf39 Qb39 ne_t_b38 ne_b_b38) all0 (own_EW hw) X39 at_512 (hw _ (List.mem_of_getElem? (i := 98) rfl)) (hw _ (List.mem_of_getElem? (i := 99) rfl)) (fun s hZ => notFace_of_selects (args := #[]) (mvT hZ (hw _ (List.mem_of_getElem? (i := 101) rfl)))) (hw _ (List.mem_of_getElem? (i := 101) rfl)) (hw _ (List.mem_of_getElem? (i := 100) rfl)) (hw _ (List.mem_of_getElem? (i := 57) rfl)) (hw _ (List.mem_of_getElem? (i := 102) rfl)) (by decide) pd___Lcom_example_wireform_wireform_text_Message_ rfl rfl rfl (by show (6 : Nat) + 1 ≤ 11; decide) (by show (0 : Nat) + (6 + 11) + 3117 ≤ 3312; decide) (by show (0 + 8) + 8 ≤ (0 + 16); omega) (by show (0 + 16) ≤ 80; omega) (by show 100 * (0 + 8) + 67 ≤ 100 * (0 + 16); omega) (by show 100 * (0 + 16) ≤ 8512; omega) (pc' := 515) rfl ?_
                  rintro _ h40 vm40 ⟨_, rfl, ⟨x40, rfl, K40, X40, Qf40, Qb40⟩⟩ c40
                  show RunW l Z own_EL n0 x.cls code maxLocals ret x room_1 _ 515 #[.val (.int p1), .val (.int p2), .val (.int p3), .val (.int p4), .val (.int p5), .val (.int v5), .val (.int c0), .val (.int c1), .val (.int c2), .val (.int (Int32.ofNat k1)), .val (.int (Int32.ofNat k2)), .val (.int (Int32.ofNat k3)), .val (.int c9), .val (.ref a11), .val (.ref b13), .val (.ref t), .val (.int (1 : Int32)), .val (.ref r)] [(.ref x40)] h40 vm40 (0 + 16) (100 * (0 + 16))
                  have E_a11_40 := E_a11_39.keep K40
                  have F_a11_coder_40 := F_a11_coder_39.keep K40 (ninS ne_a11_b38 nin0)
                  have F_a11_value_40 := F_a11_value_39.keep K40 (ninS ne_a11_b38 nin0)
                  have A_b11_40 := A_b11_39.keep K40 (ninS ne_b11_b38 nin0)
                  have Z_b13_40 := CHr.safe c40 A_b13_39.lt Z_b13_39
                  have A_b13_40 := A_b13_39.keep K40 (ninS ne_b13_b38 nin0)
                  have E_t_40 := XT39.keep K40
                  have Z_t_40 := CHr.safe c40 XT39.lt Z_t_39
                  have F_t_value_40 := VT39.keep K40 (ninS ne_t_b38 nin0)
                  have F_t_coder_40 := CT39.keep K40 (ninS ne_t_b38 nin0)
                  have A_b_40 := AT39.keep K40 (ninS ne_b_b38 nin0)
                  have E_r_40 := X39.keep K40
                  have Z_r_40 := CHr.safe c40 X39.lt Z_r_39
                  have sz40 : n0 ≤ h40.size := Nat.le_trans sz39 K40.1
                  have kp40 := Keep.trans kp39 K40 (allS (Or.inr bo_b38) all0)
                  have od40 := od39.keep K40 (allS ge_b38 all0)
                  refine RunW.pop at_515 rfl (pc' := 516) rfl ?_
                  refine RunW.aload at_516 rfl rfl (pc' := 518) rfl ?_
                  refine RunW.callV (k' := (0 + 16)) (n' := (100 * (0 + 16))) (a := r) (as := []) (rest := []) (con_hnb l Z a0 hw n0 h40 sz40 r (0 : Int32) Qf40 Qb40 rfl ) (by rintro _ _ ⟨_, -, -, rfl⟩; exact ⟨[], Keep.refl _ _, all0⟩) X40 at_518 (hw _ (List.mem_of_getElem? (i := 93) rfl)) (hw _ (List.mem_of_getElem? (i := 94) rfl)) (fun s hZ => notFace_of_selects (args := #[]) (mvT hZ (hw _ (List.mem_of_getElem? (i := 96) rfl)))) (hw _ (List.mem_of_getElem? (i := 96) rfl)) (hw _ (List.mem_of_getElem? (i := 95) rfl)) (hw _ (List.mem_of_getElem? (i := 57) rfl)) (hw _ (List.mem_of_getElem? (i := 97) rfl)) (by decide) pd___Z rfl rfl rfl (by show (0 : Nat) + 1 ≤ 11; decide) (by show (0 : Nat) + (1 + 11) + 0 ≤ 3312; decide) (by show (0 + 16) + 0 ≤ (0 + 16); omega) (by show (0 + 16) ≤ 80; omega) (by show 100 * (0 + 16) + 0 ≤ 100 * (0 + 16); omega) (by show 100 * (0 + 16) ≤ 8512; omega) (pc' := 521) rfl ?_
                  rintro _ _ ⟨_, rfl, rfl, rfl⟩ -
                  show RunW l Z own_EL n0 x.cls code maxLocals ret x room_1 _ 521 #[.val (.int p1), .val (.int p2), .val (.int p3), .val (.int p4), .val (.int p5), .val (.int v5), .val (.int c0), .val (.int c1), .val (.int c2), .val (.int (Int32.ofNat k1)), .val (.int (Int32.ofNat k2)), .val (.int (Int32.ofNat k3)), .val (.int c9), .val (.ref a11), .val (.ref b13), .val (.ref t), .val (.int (1 : Int32)), .val (.ref r)] [(.int (0 : Int32))] h40 vm40 (0 + 16) (100 * (0 + 16))
                  refine RunW.iload at_521 rfl (pc' := 523) rfl ?_
                  refine RunW.iconst (1 : Int32) at_523 (by decide) (pc' := 524) rfl ?_
                  refine RunW.icmp_le at_524 (by decide) (pc' := 531) (by decide) (pa := 527) rfl (fun hc524 => ?_) (fun hc524 => ?_)
                  · refine RunW.iconst (0 : Int32) at_531 (by decide) (pc' := 532) rfl ?_
                    refine RunW.icmp_eq at_532 (by decide) (pc' := 537) (by decide) (pa := 535) rfl (fun hc532 => ?_) (fun hc532 => ?_)
                    · refine RunW.iload at_537 rfl (pc' := 539) rfl ?_
                      refine RunW.iconst (2 : Int32) at_539 (by decide) (pc' := 540) rfl ?_
                      refine RunW.icmp_ge at_540 (by decide) (pc' := 545) (by decide) (pa := 543) rfl (fun hc540 => ?_) (fun hc540 => ?_)
                      · exact absurd hc540 (by decide)
                      · refine RunW.iconst (1 : Int32) at_543 (by decide) (pc' := 544) rfl ?_
                        exact RunW.nreturn at_544 (ty := .boolean) rfl (by simp) (by show (0 + 16) ≤ 80; omega) (by show 100 * (0 + 16) ≤ 8512; omega) ⟨_, rfl, rfl⟩
                    · exact absurd hc532 (by decide)
                  · exact absurd hc524 (by decide)
                · exact absurd hc505 (by decide)
              · have hcs2 : cs = own_tx 123 49 58 d0 c9 k1 k2 k3 := by rw [hcs, hc311, hc318, hc325]
                obtain ⟨K, hKe⟩ : ∃ K, K = km_T k1 k2 k3 (own_kx d0) (own_ky c9) := ⟨_, rfl⟩
                have hK : own_rel cs K := by rw [hcs2, hKe]; exact own_relT h_k1 h_k2 h_k3
                have hsw : own_sw cs [(123 : Int32), (49 : Int32), (58 : Int32)] 0 = 1 := by rw [hcs, own_swT, if_pos ⟨hc311, hc318, hc325⟩]
                obtain ⟨nn, hnn⟩ : ∃ nn, nn = km_s k1 k2 k3 (own_ky c9) / 2 := ⟨_, rfl⟩
                have good : own_good K nn := by rw [hKe, hnn]; exact own_isgood d0 c9 h_k1 h_k2 h_k3
                have hn3 : nn ≤ 3 := by rw [hnn]; exact km_sle k1 h_k1 k2 h_k2 k3 h_k3 _ (own_kym c9)
                have hb0 : 8 + km_nc K 17 0 ≤ 80 := by have := good.2.2.2.2.1; omega
                have hKl : K.length = 15 := by rw [hK.1]; exact hl15
                refine RunW.iconst (2 : Int32) at_328 (by decide) (pc' := 329) rfl ?_
                refine RunW.istore (l' := #[.val (.int p1), .val (.int p2), .val (.int p3), .val (.int p4), .val (.int p5), .val (.int v5), .val (.int c0), .val (.int c1), .val (.int c2), .val (.int (Int32.ofNat k1)), .val (.int (Int32.ofNat k2)), .val (.int (Int32.ofNat k3)), .val (.int c9), .val (.ref a11), .val (.ref b13), .val (.ref t), .val (.int (1 : Int32)), .val (.int (2 : Int32))]) at_329 rfl (pc' := 331) rfl ?_
                refine RunW.iload at_331 rfl (pc' := 333) rfl ?_
                refine RunW.sipush (198 : Int32) at_333 (by decide) (pc' := 336) rfl ?_
                refine RunW.iload at_336 rfl (pc' := 338) rfl ?_
                refine RunW.iushr at_338 (pc' := 339) rfl ?_
                refine RunW.iconst (1 : Int32) at_339 (by decide) (pc' := 340) rfl ?_
                refine RunW.iand at_340 (pc' := 341) rfl ?_
                have J349 : ∀ vj : Int32, vj = (own_bit (198 : Int32) (Int32.ofNat k1)) → RunW l Z own_EL n0 x.cls code maxLocals ret x room_1 (Val fun w _ => w = .int 1) 349 #[.val (.int p1), .val (.int p2), .val (.int p3), .val (.int p4), .val (.int p5), .val (.int v5), .val (.int c0), .val (.int c1), .val (.int c2), .val (.int (Int32.ofNat k1)), .val (.int (Int32.ofNat k2)), .val (.int (Int32.ofNat k3)), .val (.int c9), .val (.ref a11), .val (.ref b13), .val (.ref t), .val (.int (1 : Int32)), .val (.int (2 : Int32))] [(.int vj), (.int (2 : Int32))] h30 vm11 (0 + 5) (100 * (0 + 5)) := by
                  rintro _ rfl
                  refine RunW.bipush (28 : Int32) at_349 (by decide) (pc' := 351) rfl ?_
                  refine RunW.iload at_351 rfl (pc' := 353) rfl ?_
                  refine RunW.iushr at_353 (pc' := 354) rfl ?_
                  refine RunW.iconst (1 : Int32) at_354 (by decide) (pc' := 355) rfl ?_
                  refine RunW.iand at_355 (pc' := 356) rfl ?_
                  have J364 : ∀ vj : Int32, vj = (own_bit (28 : Int32) (Int32.ofNat k1)) → RunW l Z own_EL n0 x.cls code maxLocals ret x room_1 (Val fun w _ => w = .int 1) 364 #[.val (.int p1), .val (.int p2), .val (.int p3), .val (.int p4), .val (.int p5), .val (.int v5), .val (.int c0), .val (.int c1), .val (.int c2), .val (.int (Int32.ofNat k1)), .val (.int (Int32.ofNat k2)), .val (.int (Int32.ofNat k3)), .val (.int c9), .val (.ref a11), .val (.ref b13), .val (.ref t), .val (.int (1 : Int32)), .val (.int (2 : Int32))] [(.int vj), (.int (own_bit (198 : Int32) (Int32.ofNat k1))), (.int (2 : Int32))] h30 vm11 (0 + 5) (100 * (0 + 5)) := by
                    rintro _ rfl
                    refine RunW.callS (k' := (0 + 5)) (n' := (100 * (0 + 5))) (as := [(.int (2 : Int32)), (.int (own_bit (198 : Int32) (Int32.ofNat k1))), (.int (own_bit (28 : Int32) (Int32.ofNat k1)))]) (rest := []) (con_own_stp l Z a0 hw n0 h30 sz30 (2 : Int32) (own_bit (198 : Int32) (Int32.ofNat k1)) (own_bit (28 : Int32) (Int32.ofNat k1)) ) (by rintro _ _ ⟨_, -, -, rfl⟩; exact ⟨[], Keep.refl _ _, all0⟩) at_364 (hw _ (List.mem_of_getElem? (i := 192) rfl)) (hw _ (List.mem_of_getElem? (i := 193) rfl)) (hw _ (List.mem_of_getElem? (i := 194) rfl)) (hw _ (List.mem_of_getElem? (i := 195) rfl)) (by decide) pd__IZZ_I rfl rfl rfl (by show (0 : Nat) + 1 ≤ 11; decide) (by show (0 : Nat) + (3 + 11) + 0 ≤ 3312; decide) (by show (0 + 5) + 0 ≤ (0 + 5); omega) (by show (0 + 5) ≤ 80; omega) (by show 100 * (0 + 5) + 0 ≤ 100 * (0 + 5); omega) (by show 100 * (0 + 5) ≤ 8512; omega) (pc' := 367) rfl ?_
                    rintro _ _ ⟨_, rfl, rfl, rfl⟩ -
                    show RunW l Z own_EL n0 x.cls code maxLocals ret x room_1 _ 367 #[.val (.int p1), .val (.int p2), .val (.int p3), .val (.int p4), .val (.int p5), .val (.int v5), .val (.int c0), .val (.int c1), .val (.int c2), .val (.int (Int32.ofNat k1)), .val (.int (Int32.ofNat k2)), .val (.int (Int32.ofNat k3)), .val (.int c9), .val (.ref a11), .val (.ref b13), .val (.ref t), .val (.int (1 : Int32)), .val (.int (2 : Int32))] [(.int (own_stp (2 : Int32) (own_bit (198 : Int32) (Int32.ofNat k1)) (own_bit (28 : Int32) (Int32.ofNat k1))))] h30 vm11 (0 + 5) (100 * (0 + 5))
                    refine RunW.istore (l' := #[.val (.int p1), .val (.int p2), .val (.int p3), .val (.int p4), .val (.int p5), .val (.int v5), .val (.int c0), .val (.int c1), .val (.int c2), .val (.int (Int32.ofNat k1)), .val (.int (Int32.ofNat k2)), .val (.int (Int32.ofNat k3)), .val (.int c9), .val (.ref a11), .val (.ref b13), .val (.ref t), .val (.int (1 : Int32)), .val (.int (own_stp (2 : Int32) (own_bit (198 : Int32) (Int32.ofNat k1)) (own_bit (28 : Int32) (Int32.ofNat k1))))]) at_367 rfl (pc' := 369) rfl ?_
                    refine RunW.iload at_369 rfl (pc' := 371) rfl ?_
                    refine RunW.sipush (198 : Int32) at_371 (by decide) (pc' := 374) rfl ?_
                    refine RunW.iload at_374 rfl (pc' := 376) rfl ?_
                    refine RunW.iushr at_376 (pc' := 377) rfl ?_
                    refine RunW.iconst (1 : Int32) at_377 (by decide) (pc' := 378) rfl ?_
                    refine RunW.iand at_378 (pc' := 379) rfl ?_
                    have J387 : ∀ vj : Int32, vj = (own_bit (198 : Int32) (Int32.ofNat k2)) → RunW l Z own_EL n0 x.cls code maxLocals ret x room_1 (Val fun w _ => w = .int 1) 387 #[.val (.int p1), .val (.int p2), .val (.int p3), .val (.int p4), .val (.int p5), .val (.int v5), .val (.int c0), .val (.int c1), .val (.int c2), .val (.int (Int32.ofNat k1)), .val (.int (Int32.ofNat k2)), .val (.int (Int32.ofNat k3)), .val (.int c9), .val (.ref a11), .val (.ref b13), .val (.ref t), .val (.int (1 : Int32)), .val (.int (own_stp (2 : Int32) (own_bit (198 : Int32) (Int32.ofNat k1)) (own_bit (28 : Int32) (Int32.ofNat k1))))] [(.int vj), (.int (own_stp (2 : Int32) (own_bit (198 : Int32) (Int32.ofNat k1)) (own_bit (28 : Int32) (Int32.ofNat k1))))] h30 vm11 (0 + 5) (100 * (0 + 5)) := by
                      rintro _ rfl
                      refine RunW.bipush (28 : Int32) at_387 (by decide) (pc' := 389) rfl ?_
                      refine RunW.iload at_389 rfl (pc' := 391) rfl ?_
                      refine RunW.iushr at_391 (pc' := 392) rfl ?_
                      refine RunW.iconst (1 : Int32) at_392 (by decide) (pc' := 393) rfl ?_
                      refine RunW.iand at_393 (pc' := 394) rfl ?_
                      have J402 : ∀ vj : Int32, vj = (own_bit (28 : Int32) (Int32.ofNat k2)) → RunW l Z own_EL n0 x.cls code maxLocals ret x room_1 (Val fun w _ => w = .int 1) 402 #[.val (.int p1), .val (.int p2), .val (.int p3), .val (.int p4), .val (.int p5), .val (.int v5), .val (.int c0), .val (.int c1), .val (.int c2), .val (.int (Int32.ofNat k1)), .val (.int (Int32.ofNat k2)), .val (.int (Int32.ofNat k3)), .val (.int c9), .val (.ref a11), .val (.ref b13), .val (.ref t), .val (.int (1 : Int32)), .val (.int (own_stp (2 : Int32) (own_bit (198 : Int32) (Int32.ofNat k1)) (own_bit (28 : Int32) (Int32.ofNat k1))))] [(.int vj), (.int (own_bit (198 : Int32) (Int32.ofNat k2))), (.int (own_stp (2 : Int32) (own_bit (198 : Int32) (Int32.ofNat k1)) (own_bit (28 : Int32) (Int32.ofNat k1))))] h30 vm11 (0 + 5) (100 * (0 + 5)) := by
                        rintro _ rfl
                        refine RunW.callS (k' := (0 + 5)) (n' := (100 * (0 + 5))) (as := [(.int (own_stp (2 : Int32) (own_bit (198 : Int32) (Int32.ofNat k1)) (own_bit (28 : Int32) (Int32.ofNat k1)))), (.int (own_bit (198 : Int32) (Int32.ofNat k2))), (.int (own_bit (28 : Int32) (Int32.ofNat k2)))]) (rest := []) (con_own_stp l Z a0 hw n0 h30 sz30 (own_stp (2 : Int32) (own_bit (198 : Int32) (Int32.ofNat k1)) (own_bit (28 : Int32) (Int32.ofNat k1))) (own_bit (198 : Int32) (Int32.ofNat k2)) (own_bit (28 : Int32) (Int32.ofNat k2)) ) (by rintro _ _ ⟨_, -, -, rfl⟩; exact ⟨[], Keep.refl _ _, all0⟩) at_402 (hw _ (List.mem_of_getElem? (i := 192) rfl)) (hw _ (List.mem_of_getElem? (i := 193) rfl)) (hw _ (List.mem_of_getElem? (i := 194) rfl)) (hw _ (List.mem_of_getElem? (i := 195) rfl)) (by decide) pd__IZZ_I rfl rfl rfl (by show (0 : Nat) + 1 ≤ 11; decide) (by show (0 : Nat) + (3 + 11) + 0 ≤ 3312; decide) (by show (0 + 5) + 0 ≤ (0 + 5); omega) (by show (0 + 5) ≤ 80; omega) (by show 100 * (0 + 5) + 0 ≤ 100 * (0 + 5); omega) (by show 100 * (0 + 5) ≤ 8512; omega) (pc' := 405) rfl ?_
                        rintro _ _ ⟨_, rfl, rfl, rfl⟩ -
                        show RunW l Z own_EL n0 x.cls code maxLocals ret x room_1 _ 405 #[.val (.int p1), .val (.int p2), .val (.int p3), .val (.int p4), .val (.int p5), .val (.int v5), .val (.int c0), .val (.int c1), .val (.int c2), .val (.int (Int32.ofNat k1)), .val (.int (Int32.ofNat k2)), .val (.int (Int32.ofNat k3)), .val (.int c9), .val (.ref a11), .val (.ref b13), .val (.ref t), .val (.int (1 : Int32)), .val (.int (own_stp (2 : Int32) (own_bit (198 : Int32) (Int32.ofNat k1)) (own_bit (28 : Int32) (Int32.ofNat k1))))] [(.int (own_stp (own_stp (2 : Int32) (own_bit (198 : Int32) (Int32.ofNat k1)) (own_bit (28 : Int32) (Int32.ofNat k1))) (own_bit (198 : Int32) (Int32.ofNat k2)) (own_bit (28 : Int32) (Int32.ofNat k2))))] h30 vm11 (0 + 5) (100 * (0 + 5))
                        refine RunW.istore (l' := #[.val (.int p1), .val (.int p2), .val (.int p3), .val (.int p4), .val (.int p5), .val (.int v5), .val (.int c0), .val (.int c1), .val (.int c2), .val (.int (Int32.ofNat k1)), .val (.int (Int32.ofNat k2)), .val (.int (Int32.ofNat k3)), .val (.int c9), .val (.ref a11), .val (.ref b13), .val (.ref t), .val (.int (1 : Int32)), .val (.int (own_stp (own_stp (2 : Int32) (own_bit (198 : Int32) (Int32.ofNat k1)) (own_bit (28 : Int32) (Int32.ofNat k1))) (own_bit (198 : Int32) (Int32.ofNat k2)) (own_bit (28 : Int32) (Int32.ofNat k2))))]) at_405 rfl (pc' := 407) rfl ?_
                        refine RunW.iload at_407 rfl (pc' := 409) rfl ?_
                        refine RunW.sipush (198 : Int32) at_409 (by decide) (pc' := 412) rfl ?_
                        refine RunW.iload at_412 rfl (pc' := 414) rfl ?_
                        refine RunW.iushr at_414 (pc' := 415) rfl ?_
                        refine RunW.iconst (1 : Int32) at_415 (by decide) (pc' := 416) rfl ?_
                        refine RunW.iand at_416 (pc' := 417) rfl ?_
                        have J425 : ∀ vj : Int32, vj = (own_bit (198 : Int32) (Int32.ofNat k3)) → RunW l Z own_EL n0 x.cls code maxLocals ret x room_1 (Val fun w _ => w = .int 1) 425 #[.val (.int p1), .val (.int p2), .val (.int p3), .val (.int p4), .val (.int p5), .val (.int v5), .val (.int c0), .val (.int c1), .val (.int c2), .val (.int (Int32.ofNat k1)), .val (.int (Int32.ofNat k2)), .val (.int (Int32.ofNat k3)), .val (.int c9), .val (.ref a11), .val (.ref b13), .val (.ref t), .val (.int (1 : Int32)), .val (.int (own_stp (own_stp (2 : Int32) (own_bit (198 : Int32) (Int32.ofNat k1)) (own_bit (28 : Int32) (Int32.ofNat k1))) (own_bit (198 : Int32) (Int32.ofNat k2)) (own_bit (28 : Int32) (Int32.ofNat k2))))] [(.int vj), (.int (own_stp (own_stp (2 : Int32) (own_bit (198 : Int32) (Int32.ofNat k1)) (own_bit (28 : Int32) (Int32.ofNat k1))) (own_bit (198 : Int32) (Int32.ofNat k2)) (own_bit (28 : Int32) (Int32.ofNat k2))))] h30 vm11 (0 + 5) (100 * (0 + 5)) := by
                          rintro _ rfl
                          refine RunW.bipush (28 : Int32) at_425 (by decide) (pc' := 427) rfl ?_
                          refine RunW.iload at_427 rfl (pc' := 429) rfl ?_
                          refine RunW.iushr at_429 (pc' := 430) rfl ?_
                          refine RunW.iconst (1 : Int32) at_430 (by decide) (pc' := 431) rfl ?_
                          refine RunW.iand at_431 (pc' := 432) rfl ?_
                          have J440 : ∀ vj : Int32, vj = (own_bit (28 : Int32) (Int32.ofNat k3)) → RunW l Z own_EL n0 x.cls code maxLocals ret x room_1 (Val fun w _ => w = .int 1) 440 #[.val (.int p1), .val (.int p2), .val (.int p3), .val (.int p4), .val (.int p5), .val (.int v5), .val (.int c0), .val (.int c1), .val (.int c2), .val (.int (Int32.ofNat k1)), .val (.int (Int32.ofNat k2)), .val (.int (Int32.ofNat k3)), .val (.int c9), .val (.ref a11), .val (.ref b13), .val (.ref t), .val (.int (1 : Int32)), .val (.int (own_stp (own_stp (2 : Int32) (own_bit (198 : Int32) (Int32.ofNat k1)) (own_bit (28 : Int32) (Int32.ofNat k1))) (own_bit (198 : Int32) (Int32.ofNat k2)) (own_bit (28 : Int32) (Int32.ofNat k2))))] [(.int vj), (.int (own_bit (198 : Int32) (Int32.ofNat k3))), (.int (own_stp (own_stp (2 : Int32) (own_bit (198 : Int32) (Int32.ofNat k1)) (own_bit (28 : Int32) (Int32.ofNat k1))) (own_bit (198 : Int32) (Int32.ofNat k2)) (own_bit (28 : Int32) (Int32.ofNat k2))))] h30 vm11 (0 + 5) (100 * (0 + 5)) := by
                            rintro _ rfl
                            refine RunW.callS (k' := (0 + 5)) (n' := (100 * (0 + 5))) (as := [(.int (own_stp (own_stp (2 : Int32) (own_bit (198 : Int32) (Int32.ofNat k1)) (own_bit (28 : Int32) (Int32.ofNat k1))) (own_bit (198 : Int32) (Int32.ofNat k2)) (own_bit (28 : Int32) (Int32.ofNat k2)))), (.int (own_bit (198 : Int32) (Int32.ofNat k3))), (.int (own_bit (28 : Int32) (Int32.ofNat k3)))]) (rest := []) (con_own_stp l Z a0 hw n0 h30 sz30 (own_stp (own_stp (2 : Int32) (own_bit (198 : Int32) (Int32.ofNat k1)) (own_bit (28 : Int32) (Int32.ofNat k1))) (own_bit (198 : Int32) (Int32.ofNat k2)) (own_bit (28 : Int32) (Int32.ofNat k2))) (own_bit (198 : Int32) (Int32.ofNat k3)) (own_bit (28 : Int32) (Int32.ofNat k3)) ) (by rintro _ _ ⟨_, -, -, rfl⟩; exact ⟨[], Keep.refl _ _, all0⟩) at_440 (hw _ (List.mem_of_getElem? (i := 192) rfl)) (hw _ (List.mem_of_getElem? (i := 193) rfl)) (hw _ (List.mem_of_getElem? (i := 194) rfl)) (hw _ (List.mem_of_getElem? (i := 195) rfl)) (by decide) pd__IZZ_I rfl rfl rfl (by show (0 : Nat) + 1 ≤ 11; decide) (by show (0 : Nat) + (3 + 11) + 0 ≤ 3312; decide) (by show (0 + 5) + 0 ≤ (0 + 5); omega) (by show (0 + 5) ≤ 80; omega) (by show 100 * (0 + 5) + 0 ≤ 100 * (0 + 5); omega) (by show 100 * (0 + 5) ≤ 8512; omega) (pc' := 443) rfl ?_
                            rintro _ _ ⟨_, rfl, rfl, rfl⟩ -
                            show RunW l Z own_EL n0 x.cls code maxLocals ret x room_1 _ 443 #[.val (.int p1), .val (.int p2), .val (.int p3), .val (.int p4), .val (.int p5), .val (.int v5), .val (.int c0), .val (.int c1), .val (.int c2), .val (.int (Int32.ofNat k1)), .val (.int (Int32.ofNat k2)), .val (.int (Int32.ofNat k3)), .val (.int c9), .val (.ref a11), .val (.ref b13), .val (.ref t), .val (.int (1 : Int32)), .val (.int (own_stp (own_stp (2 : Int32) (own_bit (198 : Int32) (Int32.ofNat k1)) (own_bit (28 : Int32) (Int32.ofNat k1))) (own_bit (198 : Int32) (Int32.ofNat k2)) (own_bit (28 : Int32) (Int32.ofNat k2))))] [(.int (own_stp (own_stp (own_stp (2 : Int32) (own_bit (198 : Int32) (Int32.ofNat k1)) (own_bit (28 : Int32) (Int32.ofNat k1))) (own_bit (198 : Int32) (Int32.ofNat k2)) (own_bit (28 : Int32) (Int32.ofNat k2))) (own_bit (198 : Int32) (Int32.ofNat k3)) (own_bit (28 : Int32) (Int32.ofNat k3))))] h30 vm11 (0 + 5) (100 * (0 + 5))
                            refine RunW.istore (l' := #[.val (.int p1), .val (.int p2), .val (.int p3), .val (.int p4), .val (.int p5), .val (.int v5), .val (.int c0), .val (.int c1), .val (.int c2), .val (.int (Int32.ofNat k1)), .val (.int (Int32.ofNat k2)), .val (.int (Int32.ofNat k3)), .val (.int c9), .val (.ref a11), .val (.ref b13), .val (.ref t), .val (.int (1 : Int32)), .val (.int (own_stp (own_stp (own_stp (2 : Int32) (own_bit (198 : Int32) (Int32.ofNat k1)) (own_bit (28 : Int32) (Int32.ofNat k1))) (own_bit (198 : Int32) (Int32.ofNat k2)) (own_bit (28 : Int32) (Int32.ofNat k2))) (own_bit (198 : Int32) (Int32.ofNat k3)) (own_bit (28 : Int32) (Int32.ofNat k3))))]) at_443 rfl (pc' := 445) rfl ?_
                            refine RunW.iload at_445 rfl (pc' := 447) rfl ?_
                            refine RunW.iload at_447 rfl (pc' := 449) rfl ?_
                            refine RunW.bipush (36 : Int32) at_449 (by decide) (pc' := 451) rfl ?_
                            have J459 : ∀ vj : Int32, vj = (own_q36 c9) → RunW l Z own_EL n0 x.cls code maxLocals ret x room_1 (Val fun w _ => w = .int 1) 459 #[.val (.int p1), .val (.int p2), .val (.int p3), .val (.int p4), .val (.int p5), .val (.int v5), .val (.int c0), .val (.int c1), .val (.int c2), .val (.int (Int32.ofNat k1)), .val (.int (Int32.ofNat k2)), .val (.int (Int32.ofNat k3)), .val (.int c9), .val (.ref a11), .val (.ref b13), .val (.ref t), .val (.int (1 : Int32)), .val (.int (own_stp (own_stp (own_stp (2 : Int32) (own_bit (198 : Int32) (Int32.ofNat k1)) (own_bit (28 : Int32) (Int32.ofNat k1))) (own_bit (198 : Int32) (Int32.ofNat k2)) (own_bit (28 : Int32) (Int32.ofNat k2))) (own_bit (198 : Int32) (Int32.ofNat k3)) (own_bit (28 : Int32) (Int32.ofNat k3))))] [(.int vj), (.int (own_stp (own_stp (own_stp (2 : Int32) (own_bit (198 : Int32) (Int32.ofNat k1)) (own_bit (28 : Int32) (Int32.ofNat k1))) (own_bit (198 : Int32) (Int32.ofNat k2)) (own_bit (28 : Int32) (Int32.ofNat k2))) (own_bit (198 : Int32) (Int32.ofNat k3)) (own_bit (28 : Int32) (Int32.ofNat k3))))] h30 vm11 (0 + 5) (100 * (0 + 5)) := by
                              rintro _ rfl
                              refine RunW.iload at_459 rfl (pc' := 461) rfl ?_
                              refine RunW.bipush (10 : Int32) at_461 (by decide) (pc' := 463) rfl ?_
                              have J478 : ∀ vj : Int32, vj = (own_qop c9) → RunW l Z own_EL n0 x.cls code maxLocals ret x room_1 (Val fun w _ => w = .int 1) 478 #[.val (.int p1), .val (.int p2), .val (.int p3), .val (.int p4), .val (.int p5), .val (.int v5), .val (.int c0), .val (.int c1), .val (.int c2), .val (.int (Int32.ofNat k1)), .val (.int (Int32.ofNat k2)), .val (.int (Int32.ofNat k3)), .val (.int c9), .val (.ref a11), .val (.ref b13), .val (.ref t), .val (.int (1 : Int32)), .val (.int (own_stp (own_stp (own_stp (2 : Int32) (own_bit (198 : Int32) (Int32.ofNat k1)) (own_bit (28 : Int32) (Int32.ofNat k1))) (own_bit (198 : Int32) (Int32.ofNat k2)) (own_bit (28 : Int32) (Int32.ofNat k2))) (own_bit (198 : Int32) (Int32.ofNat k3)) (own_bit (28 : Int32) (Int32.ofNat k3))))] [(.int vj), (.int (own_q36 c9)), (.int (own_stp (own_stp (own_stp (2 : Int32) (own_bit (198 : Int32) (Int32.ofNat k1)) (own_bit (28 : Int32) (Int32.ofNat k1))) (own_bit (198 : Int32) (Int32.ofNat k2)) (own_bit (28 : Int32) (Int32.ofNat k2))) (own_bit (198 : Int32) (Int32.ofNat k3)) (own_bit (28 : Int32) (Int32.ofNat k3))))] h30 vm11 (0 + 5) (100 * (0 + 5)) := by
                                rintro _ rfl
                                refine RunW.callS (k' := (0 + 5)) (n' := (100 * (0 + 5))) (as := [(.int (own_stp (own_stp (own_stp (2 : Int32) (own_bit (198 : Int32) (Int32.ofNat k1)) (own_bit (28 : Int32) (Int32.ofNat k1))) (own_bit (198 : Int32) (Int32.ofNat k2)) (own_bit (28 : Int32) (Int32.ofNat k2))) (own_bit (198 : Int32) (Int32.ofNat k3)) (own_bit (28 : Int32) (Int32.ofNat k3)))), (.int (own_q36 c9)), (.int (own_qop c9))]) (rest := []) (con_own_stp l Z a0 hw n0 h30 sz30 (own_stp (own_stp (own_stp (2 : Int32) (own_bit (198 : Int32) (Int32.ofNat k1)) (own_bit (28 : Int32) (Int32.ofNat k1))) (own_bit (198 : Int32) (Int32.ofNat k2)) (own_bit (28 : Int32) (Int32.ofNat k2))) (own_bit (198 : Int32) (Int32.ofNat k3)) (own_bit (28 : Int32) (Int32.ofNat k3))) (own_q36 c9) (own_qop c9) ) (by rintro _ _ ⟨_, -, -, rfl⟩; exact ⟨[], Keep.refl _ _, all0⟩) at_478 (hw _ (List.mem_of_getElem? (i := 192) rfl)) (hw _ (List.mem_of_getElem? (i := 193) rfl)) (hw _ (List.mem_of_getElem? (i := 194) rfl)) (hw _ (List.mem_of_getElem? (i := 195) rfl)) (by decide) pd__IZZ_I rfl rfl rfl (by show (0 : Nat) + 1 ≤ 11; decide) (by show (0 : Nat) + (3 + 11) + 0 ≤ 3312; decide) (by show (0 + 5) + 0 ≤ (0 + 5); omega) (by show (0 + 5) ≤ 80; omega) (by show 100 * (0 + 5) + 0 ≤ 100 * (0 + 5); omega) (by show 100 * (0 + 5) ≤ 8512; omega) (pc' := 481) rfl ?_
                                rintro _ _ ⟨_, rfl, rfl, rfl⟩ -
                                show RunW l Z own_EL n0 x.cls code maxLocals ret x room_1 _ 481 #[.val (.int p1), .val (.int p2), .val (.int p3), .val (.int p4), .val (.int p5), .val (.int v5), .val (.int c0), .val (.int c1), .val (.int c2), .val (.int (Int32.ofNat k1)), .val (.int (Int32.ofNat k2)), .val (.int (Int32.ofNat k3)), .val (.int c9), .val (.ref a11), .val (.ref b13), .val (.ref t), .val (.int (1 : Int32)), .val (.int (own_stp (own_stp (own_stp (2 : Int32) (own_bit (198 : Int32) (Int32.ofNat k1)) (own_bit (28 : Int32) (Int32.ofNat k1))) (own_bit (198 : Int32) (Int32.ofNat k2)) (own_bit (28 : Int32) (Int32.ofNat k2))) (own_bit (198 : Int32) (Int32.ofNat k3)) (own_bit (28 : Int32) (Int32.ofNat k3))))] [(.int (own_stp (own_stp (own_stp (own_stp (2 : Int32) (own_bit (198 : Int32) (Int32.ofNat k1)) (own_bit (28 : Int32) (Int32.ofNat k1))) (own_bit (198 : Int32) (Int32.ofNat k2)) (own_bit (28 : Int32) (Int32.ofNat k2))) (own_bit (198 : Int32) (Int32.ofNat k3)) (own_bit (28 : Int32) (Int32.ofNat k3))) (own_q36 c9) (own_qop c9)))] h30 vm11 (0 + 5) (100 * (0 + 5))
                                refine RunW.istore (l' := #[.val (.int p1), .val (.int p2), .val (.int p3), .val (.int p4), .val (.int p5), .val (.int v5), .val (.int c0), .val (.int c1), .val (.int c2), .val (.int (Int32.ofNat k1)), .val (.int (Int32.ofNat k2)), .val (.int (Int32.ofNat k3)), .val (.int c9), .val (.ref a11), .val (.ref b13), .val (.ref t), .val (.int (1 : Int32)), .val (.int (own_stp (own_stp (own_stp (own_stp (2 : Int32) (own_bit (198 : Int32) (Int32.ofNat k1)) (own_bit (28 : Int32) (Int32.ofNat k1))) (own_bit (198 : Int32) (Int32.ofNat k2)) (own_bit (28 : Int32) (Int32.ofNat k2))) (own_bit (198 : Int32) (Int32.ofNat k3)) (own_bit (28 : Int32) (Int32.ofNat k3))) (own_q36 c9) (own_qop c9)))]) at_481 rfl (pc' := 483) rfl ?_
                                refine RunW.iload at_483 rfl (pc' := 485) rfl ?_
                                refine RunW.iconst (1 : Int32) at_485 (by decide) (pc' := 486) rfl ?_
                                refine RunW.iushr at_486 (pc' := 487) rfl ?_
                                rw [own_cnt h_k1 h_k2 h_k3 c9, ← hnn]
                                refine RunW.istore (l' := #[.val (.int p1), .val (.int p2), .val (.int p3), .val (.int p4), .val (.int p5), .val (.int v5), .val (.int c0), .val (.int c1), .val (.int c2), .val (.int (Int32.ofNat k1)), .val (.int (Int32.ofNat k2)), .val (.int (Int32.ofNat k3)), .val (.int c9), .val (.ref a11), .val (.ref b13), .val (.ref t), .val (.int (Int32.ofNat nn)), .val (.int (own_stp (own_stp (own_stp (own_stp (2 : Int32) (own_bit (198 : Int32) (Int32.ofNat k1)) (own_bit (28 : Int32) (Int32.ofNat k1))) (own_bit (198 : Int32) (Int32.ofNat k2)) (own_bit (28 : Int32) (Int32.ofNat k2))) (own_bit (198 : Int32) (Int32.ofNat k3)) (own_bit (28 : Int32) (Int32.ofNat k3))) (own_q36 c9) (own_qop c9)))]) at_487 rfl (pc' := 489) rfl ?_
                                refine RunW.newO (k' := (0 + 6)) (n' := (100 * (0 + 6))) at_489 (hw _ (List.mem_of_getElem? (i := 55) rfl)) (hw _ (List.mem_of_getElem? (i := 56) rfl)) (hw _ (List.mem_of_getElem? (i := 57) rfl)) (by show (0 + 5) + 1 ≤ (0 + 6); omega) (by show (0 + 6) ≤ 80; omega) (by show 100 * (0 + 5) + 5 ≤ 100 * (0 + 6); omega) (by show 100 * (0 + 6) ≤ 8512; omega) (pc' := 492) rfl ?_
                                intro h41 b41 g41 E41 X41 D41 c41 sf41
                                have ge_b41 : n0 ≤ b41 := by rw [g41]; exact sz30
                                have bo_b41 : h0.size ≤ b41 := by rw [g41]; exact kp30.1
                                have ne_a11_b41 : a11 ≠ b41 := by rw [g41]; exact Nat.ne_of_lt E_a11_30.lt
                                have ne_b11_b41 : b11 ≠ b41 := by rw [g41]; exact Nat.ne_of_lt A_b11_30.lt
                                have ne_b13_b41 : b13 ≠ b41 := by rw [g41]; exact Nat.ne_of_lt A_b13_30.lt
                                have ne_t_b41 : t ≠ b41 := by rw [g41]; exact Nat.ne_of_lt X30.lt
                                have ne_b_b41 : b ≠ b41 := by rw [g41]; exact Nat.ne_of_lt ABl31.lt
                                have E_a11_41 := E_a11_30.ext E41
                                have F_a11_coder_41 := F_a11_coder_30.ext E41
                                have F_a11_value_41 := F_a11_value_30.ext E41
                                have A_b11_41 := A_b11_30.ext E41
                                have Z_b13_41 := CHr.safe c41 A_b13_30.lt Z_b13_30
                                have A_b13_41 := A_b13_30.ext E41
                                have E_t_41 := X30.ext E41
                                have Z_t_41 := CHr.safe c41 X30.lt Z_b29_30
                                have F_t_value_41 := FV30.ext E41
                                have F_t_coder_41 := FCl31.ext E41
                                have A_b_41 := ABl31.ext E41
                                have sz41 : n0 ≤ h41.size := Nat.le_trans sz30 E41.1
                                have kp41 := Keep.ext kp30 E41
                                have od41 := od30.ext E41
                                have F_b41_text : Fld Z h41 b41 "com/example/wireform/wireform/text/MessageReader" "text" "Ljava/lang/String;" .null := D41 (Or.inr (hw _ (List.mem_of_getElem? (i := 63) rfl))) (ty := (.object "java/lang/String")) (by decide)
                                have F_b41_fin : Fld Z h41 b41 "com/example/wireform/wireform/text/MessageReader" "fin" "Z" (.int (0 : Int32)) := D41 (Or.inr (hw _ (List.mem_of_getElem? (i := 90) rfl))) (ty := .boolean) (by decide)
                                have F_b41_bare : Fld Z h41 b41 "com/example/wireform/wireform/text/MessageReader" "bare" "Z" (.int (0 : Int32)) := D41 (Or.inl (hw _ (List.mem_of_getElem? (i := 92) rfl))) (ty := .boolean) (by decide)
                                have F_b41_position : Fld Z h41 b41 "com/example/wireform/wireform/text/MessageReader" "position" "I" (.int (0 : Int32)) := D41 (Or.inl (hw _ (List.mem_of_getElem? (i := 201) rfl))) (ty := .int) (by decide)
                                have F_b41_opening : Fld Z h41 b41 "com/example/wireform/wireform/text/MessageReader" "opening" "Ljava/lang/String;" .null := D41 (Or.inl (hw _ (List.mem_of_getElem? (i := 257) rfl))) (ty := (.object "java/lang/String")) (by decide)
                                obtain ⟨r, hrr⟩ : ∃ x, x = b41 := ⟨_, rfl⟩
                                rw [← hrr] at X41 sf41 F_b41_text F_b41_fin F_b41_bare F_b41_position F_b41_opening ge_b41 bo_b41 ne_a11_b41 ne_b11_b41 ne_b13_b41 ne_t_b41 ne_b_b41 ⊢
                                refine RunW.dup at_492 rfl (pc' := 493) rfl ?_
                                refine RunW.aload at_493 rfl rfl (pc' := 495) rfl ?_
                                refine RunW.callNW (k' := ((0 + 6) + (2 + km_nc K 17 0))) (n' := (100 * ((0 + 6) + (2 + km_nc K 17 0)))) (a := r) (as := [(.ref t)]) (rest := [(.ref r)]) (con_ri1 l Z a0 hw n0 h41 sz41 r t b cs K fm cz od41 SF hfm SZ hcz E_t_41 F_t_value_41 F_t_coder_41 A_b_41 hp hn hch hK X41 ge_b41 F_b41_text F_b41_fin F_b41_bare F_b41_opening F_b41_position ne_t_b41 ne_b_b41 hsw) all0 (own_EW hw) rfl rfl at_495 (hw _ (List.mem_of_getElem? (i := 58) rfl)) (hw _ (List.mem_of_getElem? (i := 59) rfl)) (hw _ (List.mem_of_getElem? (i := 57) rfl)) (hw _ (List.mem_of_getElem? (i := 60) rfl)) (by decide) pd__Ljava_lang_String__V rfl rfl rfl (by show (7 : Nat) + 1 ≤ 11; decide) (by show (1 : Nat) + (2 + 11) + 122 ≤ 3312; decide) (by show (0 + 6) + (2 + km_nc K 17 0) ≤ ((0 + 6) + (2 + km_nc K 17 0)); omega) (by show ((0 + 6) + (2 + km_nc K 17 0)) ≤ 80; omega) (by show 100 * (0 + 6) + (100 * (2 + km_nc K 17 0)) ≤ 100 * ((0 + 6) + (2 + km_nc K 17 0)); omega) (by show 100 * ((0 + 6) + (2 + km_nc K 17 0)) ≤ 8512; omega) (pc' := 498) rfl ?_
                                rintro _ h42 vm42 ⟨rfl, ⟨oo42, pp42, hno42, K42, X42, Qt42, Qf42, Qb42, Qp42, XT42, VT42, CT42, AT42, hor42⟩⟩ c42
                                show RunW l Z own_EL n0 x.cls code maxLocals ret x room_1 _ 498 #[.val (.int p1), .val (.int p2), .val (.int p3), .val (.int p4), .val (.int p5), .val (.int v5), .val (.int c0), .val (.int c1), .val (.int c2), .val (.int (Int32.ofNat k1)), .val (.int (Int32.ofNat k2)), .val (.int (Int32.ofNat k3)), .val (.int c9), .val (.ref a11), .val (.ref b13), .val (.ref t), .val (.int (Int32.ofNat nn)), .val (.int (own_stp (own_stp (own_stp (own_stp (2 : Int32) (own_bit (198 : Int32) (Int32.ofNat k1)) (own_bit (28 : Int32) (Int32.ofNat k1))) (own_bit (198 : Int32) (Int32.ofNat k2)) (own_bit (28 : Int32) (Int32.ofNat k2))) (own_bit (198 : Int32) (Int32.ofNat k3)) (own_bit (28 : Int32) (Int32.ofNat k3))) (own_q36 c9) (own_qop c9)))] [(.ref r)] h42 vm42 ((0 + 6) + (2 + km_nc K 17 0)) (100 * ((0 + 6) + (2 + km_nc K 17 0)))
                                have E_a11_42 := E_a11_41.keep K42
                                have F_a11_coder_42 := F_a11_coder_41.keep K42 (ninS ne_a11_b41 nin0)
                                have F_a11_value_42 := F_a11_value_41.keep K42 (ninS ne_a11_b41 nin0)
                                have A_b11_42 := A_b11_41.keep K42 (ninS ne_b11_b41 nin0)
                                have Z_b13_42 := CHr.safe c42 A_b13_41.lt Z_b13_41
                                have A_b13_42 := A_b13_41.keep K42 (ninS ne_b13_b41 nin0)
                                have E_t_42 := E_t_41.keep K42
                                have Z_t_42 := CHr.safe c42 E_t_41.lt Z_t_41
                                have F_t_value_42 := F_t_value_41.keep K42 (ninS ne_t_b41 nin0)
                                have F_t_coder_42 := F_t_coder_41.keep K42 (ninS ne_t_b41 nin0)
                                have A_b_42 := A_b_41.keep K42 (ninS ne_b_b41 nin0)
                                have E_r_42 := X41.keep K42
                                have Z_r_42 := CHr.safe c42 X41.lt sf41
                                have sz42 : n0 ≤ h42.size := Nat.le_trans sz41 K42.1
                                have kp42 := Keep.trans kp41 K42 (allS (Or.inr bo_b41) all0)
                                have od42 := od41.keep K42 (allS ge_b41 all0)
                                have hb1 := good.2.2.2.2.1
                                have hm0 := good.2.1
                                have hbp := km_no_bd (K := K) 17 0 (by omega)
                                unfold km_nxc at hb1
                                rw [hno42] at hb1 hbp
                                simp only [] at hb1 hbp
                                rcases hor42 with ⟨ho42, RO42⟩ | ⟨ss42, se42, u42, d42, ho42, RO42, XU42, VU42, CU42, AU42⟩
                                · exact absurd good.1 (by rw [hno42, ho42]; simp)
                                · have hsm := km_smI hm0 (by rw [hno42, ho42])
                                  refine RunW.astore (l' := #[.val (.int p1), .val (.int p2), .val (.int p3), .val (.int p4), .val (.int p5), .val (.int v5), .val (.int c0), .val (.int c1), .val (.int c2), .val (.int (Int32.ofNat k1)), .val (.int (Int32.ofNat k2)), .val (.int (Int32.ofNat k3)), .val (.int c9), .val (.ref a11), .val (.ref b13), .val (.ref t), .val (.int (Int32.ofNat nn)), .val (.ref r)]) at_498 rfl rfl (pc' := 500) rfl ?_
                                  refine RunW.aload at_500 rfl rfl (pc' := 502) rfl ?_
                                  refine RunW.callV (k' := (((0 + 6) + (2 + km_nc K 17 0)) + 0)) (n' := (100 * (((0 + 6) + (2 + km_nc K 17 0)) + 0))) (a := r) (as := []) (rest := []) (con_hn1 l Z a0 hw n0 h42 sz42 r u42 Qf42 RO42 ) (by rintro _ _ ⟨_, -, -, rfl⟩; exact ⟨[], Keep.refl _ _, all0⟩) X42 at_502 (hw _ (List.mem_of_getElem? (i := 93) rfl)) (hw _ (List.mem_of_getElem? (i := 94) rfl)) (fun s hZ => notFace_of_selects (args := #[]) (mvT hZ (hw _ (List.mem_of_getElem? (i := 96) rfl)))) (hw _ (List.mem_of_getElem? (i := 96) rfl)) (hw _ (List.mem_of_getElem? (i := 95) rfl)) (hw _ (List.mem_of_getElem? (i := 57) rfl)) (hw _ (List.mem_of_getElem? (i := 97) rfl)) (by decide) pd___Z rfl rfl rfl (by show (0 : Nat) + 1 ≤ 11; decide) (by show (0 : Nat) + (1 + 11) + 0 ≤ 3312; decide) (by show (((0 + 6) + (2 + km_nc K 17 0)) + 0) + 0 ≤ (((0 + 6) + (2 + km_nc K 17 0)) + 0); omega) (by show (((0 + 6) + (2 + km_nc K 17 0)) + 0) ≤ 80; omega) (by show 100 * (((0 + 6) + (2 + km_nc K 17 0)) + 0) + 0 ≤ 100 * (((0 + 6) + (2 + km_nc K 17 0)) + 0); omega) (by show 100 * (((0 + 6) + (2 + km_nc K 17 0)) + 0) ≤ 8512; omega) (pc' := 505) rfl ?_
                                  rintro _ _ ⟨_, rfl, rfl, rfl⟩ -
                                  show RunW l Z own_EL n0 x.cls code maxLocals ret x room_1 _ 505 #[.val (.int p1), .val (.int p2), .val (.int p3), .val (.int p4), .val (.int p5), .val (.int v5), .val (.int c0), .val (.int c1), .val (.int c2), .val (.int (Int32.ofNat k1)), .val (.int (Int32.ofNat k2)), .val (.int (Int32.ofNat k3)), .val (.int c9), .val (.ref a11), .val (.ref b13), .val (.ref t), .val (.int (Int32.ofNat nn)), .val (.ref r)] [(.int (1 : Int32))] h42 vm42 (((0 + 6) + (2 + km_nc K 17 0)) + 0) (100 * (((0 + 6) + (2 + km_nc K 17 0)) + 0))
                                  refine RunW.if_ne at_505 (by decide) (pc' := 510) (by decide) (pa := 508) rfl (fun hc505 => ?_) (fun hc505 => ?_)
                                  · refine RunW.aload at_510 rfl rfl (pc' := 512) rfl ?_
                                    refine RunW.callVW (k' := ((((0 + 6) + (2 + km_nc K 17 0)) + 0) + (8 + km_scc K 17 pp42 + km_nc K 17 (km_sc K 17 pp42).1))) (n' := (100 * ((((0 + 6) + (2 + km_nc K 17 0)) + 0) + (8 + km_scc K 17 pp42 + km_nc K 17 (km_sc K 17 pp42).1)))) (a := r) (as := []) (rest := []) (con_nxt l Z a0 hw n0 h42 sz42 r t b u42 d42 cs (own_sub cs ss42 se42) K pp42 (.int (0 : Int32)) fm cz od42 SF hfm SZ hcz XT42 VT42 CT42 AT42 hp hn hch hK X42 ge_b41 Qt42 Qf42 Qb42 RO42 Qp42 ne_t_b41 ne_b_b41 (by omega) XU42 VU42 CU42 AU42 (own_subp hp) (own_subq hch) (by rw [own_subl (by omega)]; omega)) all0 (own_EW hw) X42 at_512 (hw _ (List.mem_of_getElem? (i := 98) rfl)) (hw _ (List.mem_of_getElem? (i := 99) rfl)) (fun s hZ => notFace_of_selects (args := #[]) (mvT hZ (hw _ (List.mem_of_getElem? (i := 101) rfl)))) (hw _ (List.mem_of_getElem? (i := 101) rfl)) (hw _ (List.mem_of_getElem? (i := 100) rfl)) (hw _ (List.mem_of_getElem? (i := 57) rfl)) (hw _ (List.mem_of_getElem? (i := 102) rfl)) (by decide) pd___Lcom_example_wireform_wireform_text_Message_ rfl rfl rfl (by show (7 : Nat) + 1 ≤ 11; decide) (by show (0 : Nat) + (6 + 11) + 3105 ≤ 3312; decide) (by show (((0 + 6) + (2 + km_nc K 17 0)) + 0) + (8 + km_scc K 17 pp42 + km_nc K 17 (km_sc K 17 pp42).1) ≤ ((((0 + 6) + (2 + km_nc K 17 0)) + 0) + (8 + km_scc K 17 pp42 + km_nc K 17 (km_sc K 17 pp42).1)); omega) (by show ((((0 + 6) + (2 + km_nc K 17 0)) + 0) + (8 + km_scc K 17 pp42 + km_nc K 17 (km_sc K 17 pp42).1)) ≤ 80; omega) (by show 100 * (((0 + 6) + (2 + km_nc K 17 0)) + 0) + (100 * (8 + km_scc K 17 pp42 + km_nc K 17 (km_sc K 17 pp42).1)) ≤ 100 * ((((0 + 6) + (2 + km_nc K 17 0)) + 0) + (8 + km_scc K 17 pp42 + km_nc K 17 (km_sc K 17 pp42).1)); omega) (by show 100 * ((((0 + 6) + (2 + km_nc K 17 0)) + 0) + (8 + km_scc K 17 pp42 + km_nc K 17 (km_sc K 17 pp42).1)) ≤ 8512; omega) (pc' := 515) rfl ?_
                                    rintro _ h43 vm43 ⟨_, rfl, ⟨x43, rfl, oo43, pp43, hno43, K43, X43, Qt43, Qf43, Qb43, Qp43, XT43, VT43, CT43, AT43, hor43⟩⟩ c43
                                    show RunW l Z own_EL n0 x.cls code maxLocals ret x room_1 _ 515 #[.val (.int p1), .val (.int p2), .val (.int p3), .val (.int p4), .val (.int p5), .val (.int v5), .val (.int c0), .val (.int c1), .val (.int c2), .val (.int (Int32.ofNat k1)), .val (.int (Int32.ofNat k2)), .val (.int (Int32.ofNat k3)), .val (.int c9), .val (.ref a11), .val (.ref b13), .val (.ref t), .val (.int (Int32.ofNat nn)), .val (.ref r)] [(.ref x43)] h43 vm43 ((((0 + 6) + (2 + km_nc K 17 0)) + 0) + (8 + km_scc K 17 pp42 + km_nc K 17 (km_sc K 17 pp42).1)) (100 * ((((0 + 6) + (2 + km_nc K 17 0)) + 0) + (8 + km_scc K 17 pp42 + km_nc K 17 (km_sc K 17 pp42).1)))
                                    have E_a11_43 := E_a11_42.keep K43
                                    have F_a11_coder_43 := F_a11_coder_42.keep K43 (ninS ne_a11_b41 nin0)
                                    have F_a11_value_43 := F_a11_value_42.keep K43 (ninS ne_a11_b41 nin0)
                                    have A_b11_43 := A_b11_42.keep K43 (ninS ne_b11_b41 nin0)
                                    have Z_b13_43 := CHr.safe c43 A_b13_42.lt Z_b13_42
                                    have A_b13_43 := A_b13_42.keep K43 (ninS ne_b13_b41 nin0)
                                    have E_t_43 := XT42.keep K43
                                    have Z_t_43 := CHr.safe c43 XT42.lt Z_t_42
                                    have F_t_value_43 := VT42.keep K43 (ninS ne_t_b41 nin0)
                                    have F_t_coder_43 := CT42.keep K43 (ninS ne_t_b41 nin0)
                                    have A_b_43 := AT42.keep K43 (ninS ne_b_b41 nin0)
                                    have E_r_43 := X42.keep K43
                                    have Z_r_43 := CHr.safe c43 X42.lt Z_r_42
                                    have E_u42_43 := XU42.keep K43
                                    have F_u42_value_43 := VU42.keep K43 (ninS (own_xne XU42 X42 (by decide)) nin0)
                                    have F_u42_coder_43 := CU42.keep K43 (ninS (own_xne XU42 X42 (by decide)) nin0)
                                    have A_d42_43 := AU42.keep K43 (ninS (own_ane (hw _ (List.mem_of_getElem? (i := 56) rfl)) AU42 X42) nin0)
                                    have sz43 : n0 ≤ h43.size := Nat.le_trans sz42 K43.1
                                    have kp43 := Keep.trans kp42 K43 (allS (Or.inr bo_b41) all0)
                                    have od43 := od42.keep K43 (allS ge_b41 all0)
                                    have hbp1 := km_no_bd (K := K) 17 (km_sc K 17 pp42).1 (km_sc_bd 17 pp42 (by omega))
                                    rw [hno43] at hbp1
                                    simp only [] at hbp1
                                    rcases hor43 with ⟨ho43, RO43⟩ | ⟨ss43, se43, u43, d43, ho43, RO43, XU43, VU43, CU43, AU43⟩
                                    · have hs1 := good.2.2.2.1
                                      have hm1 := good.2.2.1
                                      rw [hno42] at hs1 hm1
                                      unfold km_nx at hs1 hm1
                                      simp only [] at hs1 hm1
                                      rw [hno43] at hs1 hm1
                                      simp only [ho43] at hs1 hm1
                                      have hnj1 : ¬ 1 < nn := by simpa using hs1
                                      refine RunW.pop at_515 rfl (pc' := 516) rfl ?_
                                      refine RunW.aload at_516 rfl rfl (pc' := 518) rfl ?_
                                      refine RunW.callV (k' := (((((0 + 6) + (2 + km_nc K 17 0)) + 0) + (8 + km_scc K 17 pp42 + km_nc K 17 (km_sc K 17 pp42).1)) + 0)) (n' := (100 * (((((0 + 6) + (2 + km_nc K 17 0)) + 0) + (8 + km_scc K 17 pp42 + km_nc K 17 (km_sc K 17 pp42).1)) + 0))) (a := r) (as := []) (rest := []) (con_hn0 l Z a0 hw n0 h43 sz43 r Qf43 RO43 ) (by rintro _ _ ⟨_, -, -, rfl⟩; exact ⟨[], Keep.refl _ _, all0⟩) X43 at_518 (hw _ (List.mem_of_getElem? (i := 93) rfl)) (hw _ (List.mem_of_getElem? (i := 94) rfl)) (fun s hZ => notFace_of_selects (args := #[]) (mvT hZ (hw _ (List.mem_of_getElem? (i := 96) rfl)))) (hw _ (List.mem_of_getElem? (i := 96) rfl)) (hw _ (List.mem_of_getElem? (i := 95) rfl)) (hw _ (List.mem_of_getElem? (i := 57) rfl)) (hw _ (List.mem_of_getElem? (i := 97) rfl)) (by decide) pd___Z rfl rfl rfl (by show (0 : Nat) + 1 ≤ 11; decide) (by show (0 : Nat) + (1 + 11) + 0 ≤ 3312; decide) (by show (((((0 + 6) + (2 + km_nc K 17 0)) + 0) + (8 + km_scc K 17 pp42 + km_nc K 17 (km_sc K 17 pp42).1)) + 0) + 0 ≤ (((((0 + 6) + (2 + km_nc K 17 0)) + 0) + (8 + km_scc K 17 pp42 + km_nc K 17 (km_sc K 17 pp42).1)) + 0); omega) (by show (((((0 + 6) + (2 + km_nc K 17 0)) + 0) + (8 + km_scc K 17 pp42 + km_nc K 17 (km_sc K 17 pp42).1)) + 0) ≤ 80; omega) (by show 100 * (((((0 + 6) + (2 + km_nc K 17 0)) + 0) + (8 + km_scc K 17 pp42 + km_nc K 17 (km_sc K 17 pp42).1)) + 0) + 0 ≤ 100 * (((((0 + 6) + (2 + km_nc K 17 0)) + 0) + (8 + km_scc K 17 pp42 + km_nc K 17 (km_sc K 17 pp42).1)) + 0); omega) (by show 100 * (((((0 + 6) + (2 + km_nc K 17 0)) + 0) + (8 + km_scc K 17 pp42 + km_nc K 17 (km_sc K 17 pp42).1)) + 0) ≤ 8512; omega) (pc' := 521) rfl ?_
                                      rintro _ _ ⟨_, rfl, rfl, rfl⟩ -
                                      show RunW l Z own_EL n0 x.cls code maxLocals ret x room_1 _ 521 #[.val (.int p1), .val (.int p2), .val (.int p3), .val (.int p4), .val (.int p5), .val (.int v5), .val (.int c0), .val (.int c1), .val (.int c2), .val (.int (Int32.ofNat k1)), .val (.int (Int32.ofNat k2)), .val (.int (Int32.ofNat k3)), .val (.int c9), .val (.ref a11), .val (.ref b13), .val (.ref t), .val (.int (Int32.ofNat nn)), .val (.ref r)] [(.int (0 : Int32))] h43 vm43 (((((0 + 6) + (2 + km_nc K 17 0)) + 0) + (8 + km_scc K 17 pp42 + km_nc K 17 (km_sc K 17 pp42).1)) + 0) (100 * (((((0 + 6) + (2 + km_nc K 17 0)) + 0) + (8 + km_scc K 17 pp42 + km_nc K 17 (km_sc K 17 pp42).1)) + 0))
                                      refine RunW.iload at_521 rfl (pc' := 523) rfl ?_
                                      refine RunW.iconst (1 : Int32) at_523 (by decide) (pc' := 524) rfl ?_
                                      refine RunW.icmp_le at_524 (by decide) (pc' := 531) (by decide) (pa := 527) rfl (fun hc524 => ?_) (fun hc524 => ?_)
                                      · refine RunW.iconst (0 : Int32) at_531 (by decide) (pc' := 532) rfl ?_
                                        refine RunW.icmp_eq at_532 (by decide) (pc' := 537) (by decide) (pa := 535) rfl (fun hc532 => ?_) (fun hc532 => ?_)
                                        · refine RunW.iload at_537 rfl (pc' := 539) rfl ?_
                                          refine RunW.iconst (2 : Int32) at_539 (by decide) (pc' := 540) rfl ?_
                                          refine RunW.icmp_ge at_540 (by decide) (pc' := 545) (by decide) (pa := 543) rfl (fun hc540 => ?_) (fun hc540 => ?_)
                                          · exact absurd ((own_lt (i := nn) (j := 2) (by omega) (by decide)).mpr (by omega)) hc540
                                          · refine RunW.iconst (1 : Int32) at_543 (by decide) (pc' := 544) rfl ?_
                                            exact RunW.nreturn at_544 (ty := .boolean) rfl (by simp) (by show (((((0 + 6) + (2 + km_nc K 17 0)) + 0) + (8 + km_scc K 17 pp42 + km_nc K 17 (km_sc K 17 pp42).1)) + 0) ≤ 80; omega) (by show 100 * (((((0 + 6) + (2 + km_nc K 17 0)) + 0) + (8 + km_scc K 17 pp42 + km_nc K 17 (km_sc K 17 pp42).1)) + 0) ≤ 8512; omega) ⟨_, rfl, rfl⟩
                                        · exact absurd hc532 (by decide)
                                      · exact absurd ((own_lt (i := 1) (j := nn) (by decide) (by omega)).mp hc524) hnj1
                                    · have hs1 := good.2.2.2.1
                                      have hm1 := good.2.2.1
                                      rw [hno42] at hs1 hm1
                                      unfold km_nx at hs1 hm1
                                      simp only [] at hs1 hm1
                                      rw [hno43] at hs1 hm1
                                      simp only [ho43] at hs1 hm1
                                      have hnj1 : 1 < nn := by simpa using hs1
                                      have hsm1 : se43 - ss43 ≤ 5 ∧ se43 ≤ 15 := by simpa [km_sm] using hm1
                                      have hn2 : ¬ nn < 2 := by omega
                                      have hbb1 := (good.2.2.2.2.2.1 hn2).2.2
                                      unfold km_nxc at hbb1
                                      rw [hno42] at hbb1
                                      unfold km_nx at hbb1
                                      simp only [] at hbb1
                                      rw [hno43] at hbb1
                                      simp only [] at hbb1
                                      refine RunW.pop at_515 rfl (pc' := 516) rfl ?_
                                      refine RunW.aload at_516 rfl rfl (pc' := 518) rfl ?_
                                      refine RunW.callV (k' := (((((0 + 6) + (2 + km_nc K 17 0)) + 0) + (8 + km_scc K 17 pp42 + km_nc K 17 (km_sc K 17 pp42).1)) + 0)) (n' := (100 * (((((0 + 6) + (2 + km_nc K 17 0)) + 0) + (8 + km_scc K 17 pp42 + km_nc K 17 (km_sc K 17 pp42).1)) + 0))) (a := r) (as := []) (rest := []) (con_hn1 l Z a0 hw n0 h43 sz43 r u43 Qf43 RO43 ) (by rintro _ _ ⟨_, -, -, rfl⟩; exact ⟨[], Keep.refl _ _, all0⟩) X43 at_518 (hw _ (List.mem_of_getElem? (i := 93) rfl)) (hw _ (List.mem_of_getElem? (i := 94) rfl)) (fun s hZ => notFace_of_selects (args := #[]) (mvT hZ (hw _ (List.mem_of_getElem? (i := 96) rfl)))) (hw _ (List.mem_of_getElem? (i := 96) rfl)) (hw _ (List.mem_of_getElem? (i := 95) rfl)) (hw _ (List.mem_of_getElem? (i := 57) rfl)) (hw _ (List.mem_of_getElem? (i := 97) rfl)) (by decide) pd___Z rfl rfl rfl (by show (0 : Nat) + 1 ≤ 11; decide) (by show (0 : Nat) + (1 + 11) + 0 ≤ 3312; decide) (by show (((((0 + 6) + (2 + km_nc K 17 0)) + 0) + (8 + km_scc K 17 pp42 + km_nc K 17 (km_sc K 17 pp42).1)) + 0) + 0 ≤ (((((0 + 6) + (2 + km_nc K 17 0)) + 0) + (8 + km_scc K 17 pp42 + km_nc K 17 (km_sc K 17 pp42).1)) + 0); omega) (by show (((((0 + 6) + (2 + km_nc K 17 0)) + 0) + (8 + km_scc K 17 pp42 + km_nc K 17 (km_sc K 17 pp42).1)) + 0) ≤ 80; omega) (by show 100 * (((((0 + 6) + (2 + km_nc K 17 0)) + 0) + (8 + km_scc K 17 pp42 + km_nc K 17 (km_sc K 17 pp42).1)) + 0) + 0 ≤ 100 * (((((0 + 6) + (2 + km_nc K 17 0)) + 0) + (8 + km_scc K 17 pp42 + km_nc K 17 (km_sc K 17 pp42).1)) + 0); omega) (by show 100 * (((((0 + 6) + (2 + km_nc K 17 0)) + 0) + (8 + km_scc K 17 pp42 + km_nc K 17 (km_sc K 17 pp42).1)) + 0) ≤ 8512; omega) (pc' := 521) rfl ?_
                                      rintro _ _ ⟨_, rfl, rfl, rfl⟩ -
                                      show RunW l Z own_EL n0 x.cls code maxLocals ret x room_1 _ 521 #[.val (.int p1), .val (.int p2), .val (.int p3), .val (.int p4), .val (.int p5), .val (.int v5), .val (.int c0), .val (.int c1), .val (.int c2), .val (.int (Int32.ofNat k1)), .val (.int (Int32.ofNat k2)), .val (.int (Int32.ofNat k3)), .val (.int c9), .val (.ref a11), .val (.ref b13), .val (.ref t), .val (.int (Int32.ofNat nn)), .val (.ref r)] [(.int (1 : Int32))] h43 vm43 (((((0 + 6) + (2 + km_nc K 17 0)) + 0) + (8 + km_scc K 17 pp42 + km_nc K 17 (km_sc K 17 pp42).1)) + 0) (100 * (((((0 + 6) + (2 + km_nc K 17 0)) + 0) + (8 + km_scc K 17 pp42 + km_nc K 17 (km_sc K 17 pp42).1)) + 0))
                                      refine RunW.iload at_521 rfl (pc' := 523) rfl ?_
                                      refine RunW.iconst (1 : Int32) at_523 (by decide) (pc' := 524) rfl ?_
                                      refine RunW.icmp_le at_524 (by decide) (pc' := 531) (by decide) (pa := 527) rfl (fun hc524 => ?_) (fun hc524 => ?_)
                                      · exact absurd ((own_lt (i := 1) (j := nn) (by decide) (by omega)).mpr hnj1) hc524
                                      · refine RunW.iconst (1 : Int32) at_527 (by decide) (pc' := 528) rfl ?_
                                        refine RunW.goto at_528 (by decide) (pc' := 532) (by decide) ?_
                                        refine RunW.icmp_eq at_532 (by decide) (pc' := 537) (by decide) (pa := 535) rfl (fun hc532 => ?_) (fun hc532 => ?_)
                                        · refine RunW.iload at_537 rfl (pc' := 539) rfl ?_
                                          refine RunW.iconst (2 : Int32) at_539 (by decide) (pc' := 540) rfl ?_
                                          refine RunW.icmp_ge at_540 (by decide) (pc' := 545) (by decide) (pa := 543) rfl (fun hc540 => ?_) (fun hc540 => ?_)
                                          · refine RunW.aload at_545 rfl rfl (pc' := 547) rfl ?_
                                            refine RunW.callVW (k' := ((((((0 + 6) + (2 + km_nc K 17 0)) + 0) + (8 + km_scc K 17 pp42 + km_nc K 17 (km_sc K 17 pp42).1)) + 0) + (8 + km_scc K 17 pp43 + km_nc K 17 (km_sc K 17 pp43).1))) (n' := (100 * ((((((0 + 6) + (2 + km_nc K 17 0)) + 0) + (8 + km_scc K 17 pp42 + km_nc K 17 (km_sc K 17 pp42).1)) + 0) + (8 + km_scc K 17 pp43 + km_nc K 17 (km_sc K 17 pp43).1)))) (a := r) (as := []) (rest := []) (con_nxt l Z a0 hw n0 h43 sz43 r t b u43 d43 cs (own_sub cs ss43 se43) K pp43 (.int (0 : Int32)) fm cz od43 SF hfm SZ hcz XT43 VT43 CT43 AT43 hp hn hch hK X43 ge_b41 Qt43 Qf43 Qb43 RO43 Qp43 ne_t_b41 ne_b_b41 (by omega) XU43 VU43 CU43 AU43 (own_subp hp) (own_subq hch) (by rw [own_subl (by omega)]; omega)) all0 (own_EW hw) X43 at_547 (hw _ (List.mem_of_getElem? (i := 98) rfl)) (hw _ (List.mem_of_getElem? (i := 99) rfl)) (fun s hZ => notFace_of_selects (args := #[]) (mvT hZ (hw _ (List.mem_of_getElem? (i := 101) rfl)))) (hw _ (List.mem_of_getElem? (i := 101) rfl)) (hw _ (List.mem_of_getElem? (i := 100) rfl)) (hw _ (List.mem_of_getElem? (i := 57) rfl)) (hw _ (List.mem_of_getElem? (i := 102) rfl)) (by decide) pd___Lcom_example_wireform_wireform_text_Message_ rfl rfl rfl (by show (7 : Nat) + 1 ≤ 11; decide) (by show (0 : Nat) + (6 + 11) + 3105 ≤ 3312; decide) (by show (((((0 + 6) + (2 + km_nc K 17 0)) + 0) + (8 + km_scc K 17 pp42 + km_nc K 17 (km_sc K 17 pp42).1)) + 0) + (8 + km_scc K 17 pp43 + km_nc K 17 (km_sc K 17 pp43).1) ≤ ((((((0 + 6) + (2 + km_nc K 17 0)) + 0) + (8 + km_scc K 17 pp42 + km_nc K 17 (km_sc K 17 pp42).1)) + 0) + (8 + km_scc K 17 pp43 + km_nc K 17 (km_sc K 17 pp43).1)); omega) (by show ((((((0 + 6) + (2 + km_nc K 17 0)) + 0) + (8 + km_scc K 17 pp42 + km_nc K 17 (km_sc K 17 pp42).1)) + 0) + (8 + km_scc K 17 pp43 + km_nc K 17 (km_sc K 17 pp43).1)) ≤ 80; omega) (by show 100 * (((((0 + 6) + (2 + km_nc K 17 0)) + 0) + (8 + km_scc K 17 pp42 + km_nc K 17 (km_sc K 17 pp42).1)) + 0) + (100 * (8 + km_scc K 17 pp43 + km_nc K 17 (km_sc K 17 pp43).1)) ≤ 100 * ((((((0 + 6) + (2 + km_nc K 17 0)) + 0) + (8 + km_scc K 17 pp42 + km_nc K 17 (km_sc K 17 pp42).1)) + 0) + (8 + km_scc K 17 pp43 + km_nc K 17 (km_sc K 17 pp43).1)); omega) (by show 100 * ((((((0 + 6) + (2 + km_nc K 17 0)) + 0) + (8 + km_scc K 17 pp42 + km_nc K 17 (km_sc K 17 pp42).1)) + 0) + (8 + km_scc K 17 pp43 + km_nc K 17 (km_sc K 17 pp43).1)) ≤ 8512; omega) (pc' := 550) rfl ?_
                                            rintro _ h44 vm44 ⟨_, rfl, ⟨x44, rfl, oo44, pp44, hno44, K44, X44, Qt44, Qf44, Qb44, Qp44, XT44, VT44, CT44, AT44, hor44⟩⟩ c44
                                            show RunW l Z own_EL n0 x.cls code maxLocals ret x room_1 _ 550 #[.val (.int p1), .val (.int p2), .val (.int p3), .val (.int p4), .val (.int p5), .val (.int v5), .val (.int c0), .val (.int c1), .val (.int c2), .val (.int (Int32.ofNat k1)), .val (.int (Int32.ofNat k2)), .val (.int (Int32.ofNat k3)), .val (.int c9), .val (.ref a11), .val (.ref b13), .val (.ref t), .val (.int (Int32.ofNat nn)), .val (.ref r)] [(.ref x44)] h44 vm44 ((((((0 + 6) + (2 + km_nc K 17 0)) + 0) + (8 + km_scc K 17 pp42 + km_nc K 17 (km_sc K 17 pp42).1)) + 0) + (8 + km_scc K 17 pp43 + km_nc K 17 (km_sc K 17 pp43).1)) (100 * ((((((0 + 6) + (2 + km_nc K 17 0)) + 0) + (8 + km_scc K 17 pp42 + km_nc K 17 (km_sc K 17 pp42).1)) + 0) + (8 + km_scc K 17 pp43 + km_nc K 17 (km_sc K 17 pp43).1)))
                                            have E_a11_44 := E_a11_43.keep K44
                                            have F_a11_coder_44 := F_a11_coder_43.keep K44 (ninS ne_a11_b41 nin0)
                                            have F_a11_value_44 := F_a11_value_43.keep K44 (ninS ne_a11_b41 nin0)
                                            have A_b11_44 := A_b11_43.keep K44 (ninS ne_b11_b41 nin0)
                                            have Z_b13_44 := CHr.safe c44 A_b13_43.lt Z_b13_43
                                            have A_b13_44 := A_b13_43.keep K44 (ninS ne_b13_b41 nin0)
                                            have E_t_44 := XT43.keep K44
                                            have Z_t_44 := CHr.safe c44 XT43.lt Z_t_43
                                            have F_t_value_44 := VT43.keep K44 (ninS ne_t_b41 nin0)
                                            have F_t_coder_44 := CT43.keep K44 (ninS ne_t_b41 nin0)
                                            have A_b_44 := AT43.keep K44 (ninS ne_b_b41 nin0)
                                            have E_r_44 := X43.keep K44
                                            have Z_r_44 := CHr.safe c44 X43.lt Z_r_43
                                            have E_u42_44 := E_u42_43.keep K44
                                            have F_u42_value_44 := F_u42_value_43.keep K44 (ninS (own_xne E_u42_43 X43 (by decide)) nin0)
                                            have F_u42_coder_44 := F_u42_coder_43.keep K44 (ninS (own_xne E_u42_43 X43 (by decide)) nin0)
                                            have A_d42_44 := A_d42_43.keep K44 (ninS (own_ane (hw _ (List.mem_of_getElem? (i := 56) rfl)) A_d42_43 X43) nin0)
                                            have E_u43_44 := XU43.keep K44
                                            have F_u43_value_44 := VU43.keep K44 (ninS (own_xne XU43 X43 (by decide)) nin0)
                                            have F_u43_coder_44 := CU43.keep K44 (ninS (own_xne XU43 X43 (by decide)) nin0)
                                            have A_d43_44 := AU43.keep K44 (ninS (own_ane (hw _ (List.mem_of_getElem? (i := 56) rfl)) AU43 X43) nin0)
                                            have sz44 : n0 ≤ h44.size := Nat.le_trans sz43 K44.1
                                            have kp44 := Keep.trans kp43 K44 (allS (Or.inr bo_b41) all0)
                                            have od44 := od43.keep K44 (allS ge_b41 all0)
                                            have hbp2 := km_no_bd (K := K) 17 (km_sc K 17 pp43).1 (km_sc_bd 17 pp43 (by omega))
                                            rw [hno44] at hbp2
                                            simp only [] at hbp2
                                            rcases hor44 with ⟨ho44, RO44⟩ | ⟨ss44, se44, u44, d44, ho44, RO44, XU44, VU44, CU44, AU44⟩
                                            · have hs2 := (good.2.2.2.2.2.1 hn2).2.1
                                              have hm2 := (good.2.2.2.2.2.1 hn2).1
                                              rw [hno42] at hs2 hm2
                                              unfold km_nx at hs2 hm2
                                              simp only [] at hs2 hm2
                                              rw [hno43] at hs2 hm2
                                              skip
                                              simp only [] at hs2 hm2
                                              rw [hno44] at hs2 hm2
                                              simp only [ho44] at hs2 hm2
                                              have hnj2 : ¬ 2 < nn := by simpa using hs2
                                              refine RunW.pop at_550 rfl (pc' := 551) rfl ?_
                                              refine RunW.aload at_551 rfl rfl (pc' := 553) rfl ?_
                                              refine RunW.callV (k' := (((((((0 + 6) + (2 + km_nc K 17 0)) + 0) + (8 + km_scc K 17 pp42 + km_nc K 17 (km_sc K 17 pp42).1)) + 0) + (8 + km_scc K 17 pp43 + km_nc K 17 (km_sc K 17 pp43).1)) + 0)) (n' := (100 * (((((((0 + 6) + (2 + km_nc K 17 0)) + 0) + (8 + km_scc K 17 pp42 + km_nc K 17 (km_sc K 17 pp42).1)) + 0) + (8 + km_scc K 17 pp43 + km_nc K 17 (km_sc K 17 pp43).1)) + 0))) (a := r) (as := []) (rest := []) (con_hn0 l Z a0 hw n0 h44 sz44 r Qf44 RO44 ) (by rintro _ _ ⟨_, -, -, rfl⟩; exact ⟨[], Keep.refl _ _, all0⟩) X44 at_553 (hw _ (List.mem_of_getElem? (i := 93) rfl)) (hw _ (List.mem_of_getElem? (i := 94) rfl)) (fun s hZ => notFace_of_selects (args := #[]) (mvT hZ (hw _ (List.mem_of_getElem? (i := 96) rfl)))) (hw _ (List.mem_of_getElem? (i := 96) rfl)) (hw _ (List.mem_of_getElem? (i := 95) rfl)) (hw _ (List.mem_of_getElem? (i := 57) rfl)) (hw _ (List.mem_of_getElem? (i := 97) rfl)) (by decide) pd___Z rfl rfl rfl (by show (0 : Nat) + 1 ≤ 11; decide) (by show (0 : Nat) + (1 + 11) + 0 ≤ 3312; decide) (by show (((((((0 + 6) + (2 + km_nc K 17 0)) + 0) + (8 + km_scc K 17 pp42 + km_nc K 17 (km_sc K 17 pp42).1)) + 0) + (8 + km_scc K 17 pp43 + km_nc K 17 (km_sc K 17 pp43).1)) + 0) + 0 ≤ (((((((0 + 6) + (2 + km_nc K 17 0)) + 0) + (8 + km_scc K 17 pp42 + km_nc K 17 (km_sc K 17 pp42).1)) + 0) + (8 + km_scc K 17 pp43 + km_nc K 17 (km_sc K 17 pp43).1)) + 0); omega) (by show (((((((0 + 6) + (2 + km_nc K 17 0)) + 0) + (8 + km_scc K 17 pp42 + km_nc K 17 (km_sc K 17 pp42).1)) + 0) + (8 + km_scc K 17 pp43 + km_nc K 17 (km_sc K 17 pp43).1)) + 0) ≤ 80; omega) (by show 100 * (((((((0 + 6) + (2 + km_nc K 17 0)) + 0) + (8 + km_scc K 17 pp42 + km_nc K 17 (km_sc K 17 pp42).1)) + 0) + (8 + km_scc K 17 pp43 + km_nc K 17 (km_sc K 17 pp43).1)) + 0) + 0 ≤ 100 * (((((((0 + 6) + (2 + km_nc K 17 0)) + 0) + (8 + km_scc K 17 pp42 + km_nc K 17 (km_sc K 17 pp42).1)) + 0) + (8 + km_scc K 17 pp43 + km_nc K 17 (km_sc K 17 pp43).1)) + 0); omega) (by show 100 * (((((((0 + 6) + (2 + km_nc K 17 0)) + 0) + (8 + km_scc K 17 pp42 + km_nc K 17 (km_sc K 17 pp42).1)) + 0) + (8 + km_scc K 17 pp43 + km_nc K 17 (km_sc K 17 pp43).1)) + 0) ≤ 8512; omega) (pc' := 556) rfl ?_
                                              rintro _ _ ⟨_, rfl, rfl, rfl⟩ -
                                              show RunW l Z own_EL n0 x.cls code maxLocals ret x room_1 _ 556 #[.val (.int p1), .val (.int p2), .val (.int p3), .val (.int p4), .val (.int p5), .val (.int v5), .val (.int c0), .val (.int c1), .val (.int c2), .val (.int (Int32.ofNat k1)), .val (.int (Int32.ofNat k2)), .val (.int (Int32.ofNat k3)), .val (.int c9), .val (.ref a11), .val (.ref b13), .val (.ref t), .val (.int (Int32.ofNat nn)), .val (.ref r)] [(.int (0 : Int32))] h44 vm44 (((((((0 + 6) + (2 + km_nc K 17 0)) + 0) + (8 + km_scc K 17 pp42 + km_nc K 17 (km_sc K 17 pp42).1)) + 0) + (8 + km_scc K 17 pp43 + km_nc K 17 (km_sc K 17 pp43).1)) + 0) (100 * (((((((0 + 6) + (2 + km_nc K 17 0)) + 0) + (8 + km_scc K 17 pp42 + km_nc K 17 (km_sc K 17 pp42).1)) + 0) + (8 + km_scc K 17 pp43 + km_nc K 17 (km_sc K 17 pp43).1)) + 0))
                                              refine RunW.iload at_556 rfl (pc' := 558) rfl ?_
                                              refine RunW.iconst (2 : Int32) at_558 (by decide) (pc' := 559) rfl ?_
                                              refine RunW.icmp_le at_559 (by decide) (pc' := 566) (by decide) (pa := 562) rfl (fun hc559 => ?_) (fun hc559 => ?_)
                                              · refine RunW.iconst (0 : Int32) at_566 (by decide) (pc' := 567) rfl ?_
                                                refine RunW.icmp_eq at_567 (by decide) (pc' := 572) (by decide) (pa := 570) rfl (fun hc567 => ?_) (fun hc567 => ?_)
                                                · refine RunW.iload at_572 rfl (pc' := 574) rfl ?_
                                                  refine RunW.iconst (3 : Int32) at_574 (by decide) (pc' := 575) rfl ?_
                                                  refine RunW.icmp_ge at_575 (by decide) (pc' := 580) (by decide) (pa := 578) rfl (fun hc575 => ?_) (fun hc575 => ?_)
                                                  · exact absurd ((own_lt (i := nn) (j := 3) (by omega) (by decide)).mpr (by omega)) hc575
                                                  · refine RunW.iconst (1 : Int32) at_578 (by decide) (pc' := 579) rfl ?_
                                                    exact RunW.nreturn at_579 (ty := .boolean) rfl (by simp) (by show (((((((0 + 6) + (2 + km_nc K 17 0)) + 0) + (8 + km_scc K 17 pp42 + km_nc K 17 (km_sc K 17 pp42).1)) + 0) + (8 + km_scc K 17 pp43 + km_nc K 17 (km_sc K 17 pp43).1)) + 0) ≤ 80; omega) (by show 100 * (((((((0 + 6) + (2 + km_nc K 17 0)) + 0) + (8 + km_scc K 17 pp42 + km_nc K 17 (km_sc K 17 pp42).1)) + 0) + (8 + km_scc K 17 pp43 + km_nc K 17 (km_sc K 17 pp43).1)) + 0) ≤ 8512; omega) ⟨_, rfl, rfl⟩
                                                · exact absurd hc567 (by decide)
                                              · exact absurd ((own_lt (i := 2) (j := nn) (by decide) (by omega)).mp hc559) hnj2
                                            · have hs2 := (good.2.2.2.2.2.1 hn2).2.1
                                              have hm2 := (good.2.2.2.2.2.1 hn2).1
                                              rw [hno42] at hs2 hm2
                                              unfold km_nx at hs2 hm2
                                              simp only [] at hs2 hm2
                                              rw [hno43] at hs2 hm2
                                              skip
                                              simp only [] at hs2 hm2
                                              rw [hno44] at hs2 hm2
                                              simp only [ho44] at hs2 hm2
                                              have hnj2 : 2 < nn := by simpa using hs2
                                              have hsm2 : se44 - ss44 ≤ 5 ∧ se44 ≤ 15 := by simpa [km_sm] using hm2
                                              have hn3' : ¬ nn < 3 := by omega
                                              have hbb2 := (good.2.2.2.2.2.2 hn3').2
                                              unfold km_nxc at hbb2
                                              rw [hno42] at hbb2
                                              unfold km_nx at hbb2
                                              simp only [] at hbb2
                                              rw [hno43] at hbb2
                                              skip
                                              simp only [] at hbb2
                                              rw [hno44] at hbb2
                                              simp only [] at hbb2
                                              refine RunW.pop at_550 rfl (pc' := 551) rfl ?_
                                              refine RunW.aload at_551 rfl rfl (pc' := 553) rfl ?_
                                              refine RunW.callV (k' := (((((((0 + 6) + (2 + km_nc K 17 0)) + 0) + (8 + km_scc K 17 pp42 + km_nc K 17 (km_sc K 17 pp42).1)) + 0) + (8 + km_scc K 17 pp43 + km_nc K 17 (km_sc K 17 pp43).1)) + 0)) (n' := (100 * (((((((0 + 6) + (2 + km_nc K 17 0)) + 0) + (8 + km_scc K 17 pp42 + km_nc K 17 (km_sc K 17 pp42).1)) + 0) + (8 + km_scc K 17 pp43 + km_nc K 17 (km_sc K 17 pp43).1)) + 0))) (a := r) (as := []) (rest := []) (con_hn1 l Z a0 hw n0 h44 sz44 r u44 Qf44 RO44 ) (by rintro _ _ ⟨_, -, -, rfl⟩; exact ⟨[], Keep.refl _ _, all0⟩) X44 at_553 (hw _ (List.mem_of_getElem? (i := 93) rfl)) (hw _ (List.mem_of_getElem? (i := 94) rfl)) (fun s hZ => notFace_of_selects (args := #[]) (mvT hZ (hw _ (List.mem_of_getElem? (i := 96) rfl)))) (hw _ (List.mem_of_getElem? (i := 96) rfl)) (hw _ (List.mem_of_getElem? (i := 95) rfl)) (hw _ (List.mem_of_getElem? (i := 57) rfl)) (hw _ (List.mem_of_getElem? (i := 97) rfl)) (by decide) pd___Z rfl rfl rfl (by show (0 : Nat) + 1 ≤ 11; decide) (by show (0 : Nat) + (1 + 11) + 0 ≤ 3312; decide) (by show (((((((0 + 6) + (2 + km_nc K 17 0)) + 0) + (8 + km_scc K 17 pp42 + km_nc K 17 (km_sc K 17 pp42).1)) + 0) + (8 + km_scc K 17 pp43 + km_nc K 17 (km_sc K 17 pp43).1)) + 0) + 0 ≤ (((((((0 + 6) + (2 + km_nc K 17 0)) + 0) + (8 + km_scc K 17 pp42 + km_nc K 17 (km_sc K 17 pp42).1)) + 0) + (8 + km_scc K 17 pp43 + km_nc K 17 (km_sc K 17 pp43).1)) + 0); omega) (by show (((((((0 + 6) + (2 + km_nc K 17 0)) + 0) + (8 + km_scc K 17 pp42 + km_nc K 17 (km_sc K 17 pp42).1)) + 0) + (8 + km_scc K 17 pp43 + km_nc K 17 (km_sc K 17 pp43).1)) + 0) ≤ 80; omega) (by show 100 * (((((((0 + 6) + (2 + km_nc K 17 0)) + 0) + (8 + km_scc K 17 pp42 + km_nc K 17 (km_sc K 17 pp42).1)) + 0) + (8 + km_scc K 17 pp43 + km_nc K 17 (km_sc K 17 pp43).1)) + 0) + 0 ≤ 100 * (((((((0 + 6) + (2 + km_nc K 17 0)) + 0) + (8 + km_scc K 17 pp42 + km_nc K 17 (km_sc K 17 pp42).1)) + 0) + (8 + km_scc K 17 pp43 + km_nc K 17 (km_sc K 17 pp43).1)) + 0); omega) (by show 100 * (((((((0 + 6) + (2 + km_nc K 17 0)) + 0) + (8 + km_scc K 17 pp42 + km_nc K 17 (km_sc K 17 pp42).1)) + 0) + (8 + km_scc K 17 pp43 + km_nc K 17 (km_sc K 17 pp43).1)) + 0) ≤ 8512; omega) (pc' := 556) rfl ?_
                                              rintro _ _ ⟨_, rfl, rfl, rfl⟩ -
                                              show RunW l Z own_EL n0 x.cls code maxLocals ret x room_1 _ 556 #[.val (.int p1), .val (.int p2), .val (.int p3), .val (.int p4), .val (.int p5), .val (.int v5), .val (.int c0), .val (.int c1), .val (.int c2), .val (.int (Int32.ofNat k1)), .val (.int (Int32.ofNat k2)), .val (.int (Int32.ofNat k3)), .val (.int c9), .val (.ref a11), .val (.ref b13), .val (.ref t), .val (.int (Int32.ofNat nn)), .val (.ref r)] [(.int (1 : Int32))] h44 vm44 (((((((0 + 6) + (2 + km_nc K 17 0)) + 0) + (8 + km_scc K 17 pp42 + km_nc K 17 (km_sc K 17 pp42).1)) + 0) + (8 + km_scc K 17 pp43 + km_nc K 17 (km_sc K 17 pp43).1)) + 0) (100 * (((((((0 + 6) + (2 + km_nc K 17 0)) + 0) + (8 + km_scc K 17 pp42 + km_nc K 17 (km_sc K 17 pp42).1)) + 0) + (8 + km_scc K 17 pp43 + km_nc K 17 (km_sc K 17 pp43).1)) + 0))
                                              refine RunW.iload at_556 rfl (pc' := 558) rfl ?_
                                              refine RunW.iconst (2 : Int32) at_558 (by decide) (pc' := 559) rfl ?_
                                              refine RunW.icmp_le at_559 (by decide) (pc' := 566) (by decide) (pa := 562) rfl (fun hc559 => ?_) (fun hc559 => ?_)
                                              · exact absurd ((own_lt (i := 2) (j := nn) (by decide) (by omega)).mpr hnj2) hc559
                                              · refine RunW.iconst (1 : Int32) at_562 (by decide) (pc' := 563) rfl ?_
                                                refine RunW.goto at_563 (by decide) (pc' := 567) (by decide) ?_
                                                refine RunW.icmp_eq at_567 (by decide) (pc' := 572) (by decide) (pa := 570) rfl (fun hc567 => ?_) (fun hc567 => ?_)
                                                · refine RunW.iload at_572 rfl (pc' := 574) rfl ?_
                                                  refine RunW.iconst (3 : Int32) at_574 (by decide) (pc' := 575) rfl ?_
                                                  refine RunW.icmp_ge at_575 (by decide) (pc' := 580) (by decide) (pa := 578) rfl (fun hc575 => ?_) (fun hc575 => ?_)
                                                  · refine RunW.aload at_580 rfl rfl (pc' := 582) rfl ?_
                                                    refine RunW.callVW (k' := ((((((((0 + 6) + (2 + km_nc K 17 0)) + 0) + (8 + km_scc K 17 pp42 + km_nc K 17 (km_sc K 17 pp42).1)) + 0) + (8 + km_scc K 17 pp43 + km_nc K 17 (km_sc K 17 pp43).1)) + 0) + (8 + km_scc K 17 pp44 + km_nc K 17 (km_sc K 17 pp44).1))) (n' := (100 * ((((((((0 + 6) + (2 + km_nc K 17 0)) + 0) + (8 + km_scc K 17 pp42 + km_nc K 17 (km_sc K 17 pp42).1)) + 0) + (8 + km_scc K 17 pp43 + km_nc K 17 (km_sc K 17 pp43).1)) + 0) + (8 + km_scc K 17 pp44 + km_nc K 17 (km_sc K 17 pp44).1)))) (a := r) (as := []) (rest := []) (con_nxt l Z a0 hw n0 h44 sz44 r t b u44 d44 cs (own_sub cs ss44 se44) K pp44 (.int (0 : Int32)) fm cz od44 SF hfm SZ hcz XT44 VT44 CT44 AT44 hp hn hch hK X44 ge_b41 Qt44 Qf44 Qb44 RO44 Qp44 ne_t_b41 ne_b_b41 (by omega) XU44 VU44 CU44 AU44 (own_subp hp) (own_subq hch) (by rw [own_subl (by omega)]; omega)) all0 (own_EW hw) X44 at_582 (hw _ (List.mem_of_getElem? (i := 98) rfl)) (hw _ (List.mem_of_getElem? (i := 99) rfl)) (fun s hZ => notFace_of_selects (args := #[]) (mvT hZ (hw _ (List.mem_of_getElem? (i := 101) rfl)))) (hw _ (List.mem_of_getElem? (i := 101) rfl)) (hw _ (List.mem_of_getElem? (i := 100) rfl)) (hw _ (List.mem_of_getElem? (i := 57) rfl)) (hw _ (List.mem_of_getElem? (i := 102) rfl)) (by decide) pd___Lcom_example_wireform_wireform_text_Message_ rfl rfl rfl (by show (7 : Nat) + 1 ≤ 11; decide) (by show (0 : Nat) + (6 + 11) + 3105 ≤ 3312; decide) (by show (((((((0 + 6) + (2 + km_nc K 17 0)) + 0) + (8 + km_scc K 17 pp42 + km_nc K 17 (km_sc K 17 pp42).1)) + 0) + (8 + km_scc K 17 pp43 + km_nc K 17 (km_sc K 17 pp43).1)) + 0) + (8 + km_scc K 17 pp44 + km_nc K 17 (km_sc K 17 pp44).1) ≤ ((((((((0 + 6) + (2 + km_nc K 17 0)) + 0) + (8 + km_scc K 17 pp42 + km_nc K 17 (km_sc K 17 pp42).1)) + 0) + (8 + km_scc K 17 pp43 + km_nc K 17 (km_sc K 17 pp43).1)) + 0) + (8 + km_scc K 17 pp44 + km_nc K 17 (km_sc K 17 pp44).1)); omega) (by show ((((((((0 + 6) + (2 + km_nc K 17 0)) + 0) + (8 + km_scc K 17 pp42 + km_nc K 17 (km_sc K 17 pp42).1)) + 0) + (8 + km_scc K 17 pp43 + km_nc K 17 (km_sc K 17 pp43).1)) + 0) + (8 + km_scc K 17 pp44 + km_nc K 17 (km_sc K 17 pp44).1)) ≤ 80; omega) (by show 100 * (((((((0 + 6) + (2 + km_nc K 17 0)) + 0) + (8 + km_scc K 17 pp42 + km_nc K 17 (km_sc K 17 pp42).1)) + 0) + (8 + km_scc K 17 pp43 + km_nc K 17 (km_sc K 17 pp43).1)) + 0) + (100 * (8 + km_scc K 17 pp44 + km_nc K 17 (km_sc K 17 pp44).1)) ≤ 100 * ((((((((0 + 6) + (2 + km_nc K 17 0)) + 0) + (8 + km_scc K 17 pp42 + km_nc K 17 (km_sc K 17 pp42).1)) + 0) + (8 + km_scc K 17 pp43 + km_nc K 17 (km_sc K 17 pp43).1)) + 0) + (8 + km_scc K 17 pp44 + km_nc K 17 (km_sc K 17 pp44).1)); omega) (by show 100 * ((((((((0 + 6) + (2 + km_nc K 17 0)) + 0) + (8 + km_scc K 17 pp42 + km_nc K 17 (km_sc K 17 pp42).1)) + 0) + (8 + km_scc K 17 pp43 + km_nc K 17 (km_sc K 17 pp43).1)) + 0) + (8 + km_scc K 17 pp44 + km_nc K 17 (km_sc K 17 pp44).1)) ≤ 8512; omega) (pc' := 585) rfl ?_
                                                    rintro _ h45 vm45 ⟨_, rfl, ⟨x45, rfl, oo45, pp45, hno45, K45, X45, Qt45, Qf45, Qb45, Qp45, XT45, VT45, CT45, AT45, hor45⟩⟩ c45
                                                    show RunW l Z own_EL n0 x.cls code maxLocals ret x room_1 _ 585 #[.val (.int p1), .val (.int p2), .val (.int p3), .val (.int p4), .val (.int p5), .val (.int v5), .val (.int c0), .val (.int c1), .val (.int c2), .val (.int (Int32.ofNat k1)), .val (.int (Int32.ofNat k2)), .val (.int (Int32.ofNat k3)), .val (.int c9), .val (.ref a11), .val (.ref b13), .val (.ref t), .val (.int (Int32.ofNat nn)), .val (.ref r)] [(.ref x45)] h45 vm45 ((((((((0 + 6) + (2 + km_nc K 17 0)) + 0) + (8 + km_scc K 17 pp42 + km_nc K 17 (km_sc K 17 pp42).1)) + 0) + (8 + km_scc K 17 pp43 + km_nc K 17 (km_sc K 17 pp43).1)) + 0) + (8 + km_scc K 17 pp44 + km_nc K 17 (km_sc K 17 pp44).1)) (100 * ((((((((0 + 6) + (2 + km_nc K 17 0)) + 0) + (8 + km_scc K 17 pp42 + km_nc K 17 (km_sc K 17 pp42).1)) + 0) + (8 + km_scc K 17 pp43 + km_nc K 17 (km_sc K 17 pp43).1)) + 0) + (8 + km_scc K 17 pp44 + km_nc K 17 (km_sc K 17 pp44).1)))
                                                    have E_a11_45 := E_a11_44.keep K45
                                                    have F_a11_coder_45 := F_a11_coder_44.keep K45 (ninS ne_a11_b41 nin0)
                                                    have F_a11_value_45 := F_a11_value_44.keep K45 (ninS ne_a11_b41 nin0)
                                                    have A_b11_45 := A_b11_44.keep K45 (ninS ne_b11_b41 nin0)
                                                    have Z_b13_45 := CHr.safe c45 A_b13_44.lt Z_b13_44
                                                    have A_b13_45 := A_b13_44.keep K45 (ninS ne_b13_b41 nin0)
                                                    have E_t_45 := XT44.keep K45
                                                    have Z_t_45 := CHr.safe c45 XT44.lt Z_t_44
                                                    have F_t_value_45 := VT44.keep K45 (ninS ne_t_b41 nin0)
                                                    have F_t_coder_45 := CT44.keep K45 (ninS ne_t_b41 nin0)
                                                    have A_b_45 := AT44.keep K45 (ninS ne_b_b41 nin0)
                                                    have E_r_45 := X44.keep K45
                                                    have Z_r_45 := CHr.safe c45 X44.lt Z_r_44
                                                    have E_u42_45 := E_u42_44.keep K45
                                                    have F_u42_value_45 := F_u42_value_44.keep K45 (ninS (own_xne E_u42_44 X44 (by decide)) nin0)
                                                    have F_u42_coder_45 := F_u42_coder_44.keep K45 (ninS (own_xne E_u42_44 X44 (by decide)) nin0)
                                                    have A_d42_45 := A_d42_44.keep K45 (ninS (own_ane (hw _ (List.mem_of_getElem? (i := 56) rfl)) A_d42_44 X44) nin0)
                                                    have E_u43_45 := E_u43_44.keep K45
                                                    have F_u43_value_45 := F_u43_value_44.keep K45 (ninS (own_xne E_u43_44 X44 (by decide)) nin0)
                                                    have F_u43_coder_45 := F_u43_coder_44.keep K45 (ninS (own_xne E_u43_44 X44 (by decide)) nin0)
                                                    have A_d43_45 := A_d43_44.keep K45 (ninS (own_ane (hw _ (List.mem_of_getElem? (i := 56) rfl)) A_d43_44 X44) nin0)
                                                    have E_u44_45 := XU44.keep K45
                                                    have F_u44_value_45 := VU44.keep K45 (ninS (own_xne XU44 X44 (by decide)) nin0)
                                                    have F_u44_coder_45 := CU44.keep K45 (ninS (own_xne XU44 X44 (by decide)) nin0)
                                                    have A_d44_45 := AU44.keep K45 (ninS (own_ane (hw _ (List.mem_of_getElem? (i := 56) rfl)) AU44 X44) nin0)
                                                    have sz45 : n0 ≤ h45.size := Nat.le_trans sz44 K45.1
                                                    have kp45 := Keep.trans kp44 K45 (allS (Or.inr bo_b41) all0)
                                                    have od45 := od44.keep K45 (allS ge_b41 all0)
                                                    have hbp3 := km_no_bd (K := K) 17 (km_sc K 17 pp44).1 (km_sc_bd 17 pp44 (by omega))
                                                    rw [hno45] at hbp3
                                                    simp only [] at hbp3
                                                    rcases hor45 with ⟨ho45, RO45⟩ | ⟨ss45, se45, u45, d45, ho45, RO45, XU45, VU45, CU45, AU45⟩
                                                    · have hs3 := (good.2.2.2.2.2.2 hn3').1
                                                      rw [hno42] at hs3
                                                      unfold km_nx at hs3
                                                      simp only [] at hs3
                                                      rw [hno43] at hs3
                                                      skip
                                                      simp only [] at hs3
                                                      rw [hno44] at hs3
                                                      skip
                                                      simp only [] at hs3
                                                      rw [hno45] at hs3
                                                      simp only [ho45] at hs3
                                                      refine RunW.pop at_585 rfl (pc' := 586) rfl ?_
                                                      refine RunW.aload at_586 rfl rfl (pc' := 588) rfl ?_
                                                      refine RunW.callV (k' := (((((((((0 + 6) + (2 + km_nc K 17 0)) + 0) + (8 + km_scc K 17 pp42 + km_nc K 17 (km_sc K 17 pp42).1)) + 0) + (8 + km_scc K 17 pp43 + km_nc K 17 (km_sc K 17 pp43).1)) + 0) + (8 + km_scc K 17 pp44 + km_nc K 17 (km_sc K 17 pp44).1)) + 0)) (n' := (100 * (((((((((0 + 6) + (2 + km_nc K 17 0)) + 0) + (8 + km_scc K 17 pp42 + km_nc K 17 (km_sc K 17 pp42).1)) + 0) + (8 + km_scc K 17 pp43 + km_nc K 17 (km_sc K 17 pp43).1)) + 0) + (8 + km_scc K 17 pp44 + km_nc K 17 (km_sc K 17 pp44).1)) + 0))) (a := r) (as := []) (rest := []) (con_hn0 l Z a0 hw n0 h45 sz45 r Qf45 RO45 ) (by rintro _ _ ⟨_, -, -, rfl⟩; exact ⟨[], Keep.refl _ _, all0⟩) X45 at_588 (hw _ (List.mem_of_getElem? (i := 93) rfl)) (hw _ (List.mem_of_getElem? (i := 94) rfl)) (fun s hZ => notFace_of_selects (args := #[]) (mvT hZ (hw _ (List.mem_of_getElem? (i := 96) rfl)))) (hw _ (List.mem_of_getElem? (i := 96) rfl)) (hw _ (List.mem_of_getElem? (i := 95) rfl)) (hw _ (List.mem_of_getElem? (i := 57) rfl)) (hw _ (List.mem_of_getElem? (i := 97) rfl)) (by decide) pd___Z rfl rfl rfl (by show (0 : Nat) + 1 ≤ 11; decide) (by show (0 : Nat) + (1 + 11) + 0 ≤ 3312; decide) (by show (((((((((0 + 6) + (2 + km_nc K 17 0)) + 0) + (8 + km_scc K 17 pp42 + km_nc K 17 (km_sc K 17 pp42).1)) + 0) + (8 + km_scc K 17 pp43 + km_nc K 17 (km_sc K 17 pp43).1)) + 0) + (8 + km_scc K 17 pp44 + km_nc K 17 (km_sc K 17 pp44).1)) + 0) + 0 ≤ (((((((((0 + 6) + (2 + km_nc K 17 0)) + 0) + (8 + km_scc K 17 pp42 + km_nc K 17 (km_sc K 17 pp42).1)) + 0) + (8 + km_scc K 17 pp43 + km_nc K 17 (km_sc K 17 pp43).1)) + 0) + (8 + km_scc K 17 pp44 + km_nc K 17 (km_sc K 17 pp44).1)) + 0); omega) (by show (((((((((0 + 6) + (2 + km_nc K 17 0)) + 0) + (8 + km_scc K 17 pp42 + km_nc K 17 (km_sc K 17 pp42).1)) + 0) + (8 + km_scc K 17 pp43 + km_nc K 17 (km_sc K 17 pp43).1)) + 0) + (8 + km_scc K 17 pp44 + km_nc K 17 (km_sc K 17 pp44).1)) + 0) ≤ 80; omega) (by show 100 * (((((((((0 + 6) + (2 + km_nc K 17 0)) + 0) + (8 + km_scc K 17 pp42 + km_nc K 17 (km_sc K 17 pp42).1)) + 0) + (8 + km_scc K 17 pp43 + km_nc K 17 (km_sc K 17 pp43).1)) + 0) + (8 + km_scc K 17 pp44 + km_nc K 17 (km_sc K 17 pp44).1)) + 0) + 0 ≤ 100 * (((((((((0 + 6) + (2 + km_nc K 17 0)) + 0) + (8 + km_scc K 17 pp42 + km_nc K 17 (km_sc K 17 pp42).1)) + 0) + (8 + km_scc K 17 pp43 + km_nc K 17 (km_sc K 17 pp43).1)) + 0) + (8 + km_scc K 17 pp44 + km_nc K 17 (km_sc K 17 pp44).1)) + 0); omega) (by show 100 * (((((((((0 + 6) + (2 + km_nc K 17 0)) + 0) + (8 + km_scc K 17 pp42 + km_nc K 17 (km_sc K 17 pp42).1)) + 0) + (8 + km_scc K 17 pp43 + km_nc K 17 (km_sc K 17 pp43).1)) + 0) + (8 + km_scc K 17 pp44 + km_nc K 17 (km_sc K 17 pp44).1)) + 0) ≤ 8512; omega) (pc' := 591) rfl ?_
                                                      rintro _ _ ⟨_, rfl, rfl, rfl⟩ -
                                                      show RunW l Z own_EL n0 x.cls code maxLocals ret x room_1 _ 591 #[.val (.int p1), .val (.int p2), .val (.int p3), .val (.int p4), .val (.int p5), .val (.int v5), .val (.int c0), .val (.int c1), .val (.int c2), .val (.int (Int32.ofNat k1)), .val (.int (Int32.ofNat k2)), .val (.int (Int32.ofNat k3)), .val (.int c9), .val (.ref a11), .val (.ref b13), .val (.ref t), .val (.int (Int32.ofNat nn)), .val (.ref r)] [(.int (0 : Int32))] h45 vm45 (((((((((0 + 6) + (2 + km_nc K 17 0)) + 0) + (8 + km_scc K 17 pp42 + km_nc K 17 (km_sc K 17 pp42).1)) + 0) + (8 + km_scc K 17 pp43 + km_nc K 17 (km_sc K 17 pp43).1)) + 0) + (8 + km_scc K 17 pp44 + km_nc K 17 (km_sc K 17 pp44).1)) + 0) (100 * (((((((((0 + 6) + (2 + km_nc K 17 0)) + 0) + (8 + km_scc K 17 pp42 + km_nc K 17 (km_sc K 17 pp42).1)) + 0) + (8 + km_scc K 17 pp43 + km_nc K 17 (km_sc K 17 pp43).1)) + 0) + (8 + km_scc K 17 pp44 + km_nc K 17 (km_sc K 17 pp44).1)) + 0))
                                                      refine RunW.if_ne at_591 (by decide) (pc' := 598) (by decide) (pa := 594) rfl (fun hc591 => ?_) (fun hc591 => ?_)
                                                      · exact absurd hc591 (by decide)
                                                      · refine RunW.iconst (1 : Int32) at_594 (by decide) (pc' := 595) rfl ?_
                                                        refine RunW.goto at_595 (by decide) (pc' := 599) (by decide) ?_
                                                        exact RunW.nreturn at_599 (ty := .boolean) rfl (by simp) (by show (((((((((0 + 6) + (2 + km_nc K 17 0)) + 0) + (8 + km_scc K 17 pp42 + km_nc K 17 (km_sc K 17 pp42).1)) + 0) + (8 + km_scc K 17 pp43 + km_nc K 17 (km_sc K 17 pp43).1)) + 0) + (8 + km_scc K 17 pp44 + km_nc K 17 (km_sc K 17 pp44).1)) + 0) ≤ 80; omega) (by show 100 * (((((((((0 + 6) + (2 + km_nc K 17 0)) + 0) + (8 + km_scc K 17 pp42 + km_nc K 17 (km_sc K 17 pp42).1)) + 0) + (8 + km_scc K 17 pp43 + km_nc K 17 (km_sc K 17 pp43).1)) + 0) + (8 + km_scc K 17 pp44 + km_nc K 17 (km_sc K 17 pp44).1)) + 0) ≤ 8512; omega) ⟨_, rfl, rfl⟩
                                                    · have hs3 := (good.2.2.2.2.2.2 hn3').1
                                                      rw [hno42] at hs3
                                                      unfold km_nx at hs3
                                                      simp only [] at hs3
                                                      rw [hno43] at hs3
                                                      skip
                                                      simp only [] at hs3
                                                      rw [hno44] at hs3
                                                      skip
                                                      simp only [] at hs3
                                                      rw [hno45] at hs3
                                                      simp only [ho45] at hs3
                                                      exact absurd hs3 (by simp)
                                                  · exact absurd ((own_lt (i := nn) (j := 3) (by omega) (by decide)).mp hc575) (by omega)
                                                · exact absurd hc567 (by decide)
                                          · exact absurd ((own_lt (i := nn) (j := 2) (by omega) (by decide)).mp hc540) (by omega)
                                        · exact absurd hc532 (by decide)
                                  · exact absurd hc505 (by decide)
                              refine RunW.icmp_eq at_463 (by decide) (pc' := 477) (by decide) (pa := 466) rfl (fun hc463 => ?_) (fun hc463 => ?_)
                              · refine RunW.iconst (0 : Int32) at_477 (by decide) (pc' := 478) rfl ?_
                                exact J478 _ (by unfold own_qop; exact (if_pos (Or.inl hc463)).symm)
                              · refine RunW.iload at_466 rfl (pc' := 468) rfl ?_
                                refine RunW.bipush (36 : Int32) at_468 (by decide) (pc' := 470) rfl ?_
                                refine RunW.icmp_eq at_470 (by decide) (pc' := 477) (by decide) (pa := 473) rfl (fun hc470 => ?_) (fun hc470 => ?_)
                                · refine RunW.iconst (0 : Int32) at_477 (by decide) (pc' := 478) rfl ?_
                                  exact J478 _ (by unfold own_qop; exact (if_pos (Or.inr hc470)).symm)
                                · refine RunW.iconst (1 : Int32) at_473 (by decide) (pc' := 474) rfl ?_
                                  refine RunW.goto at_474 (by decide) (pc' := 478) (by decide) ?_
                                  exact J478 _ (by unfold own_qop; exact (if_neg (fun z => z.elim hc463 hc470)).symm)
                            refine RunW.icmp_ne at_451 (by decide) (pc' := 458) (by decide) (pa := 454) rfl (fun hc451 => ?_) (fun hc451 => ?_)
                            · refine RunW.iconst (0 : Int32) at_458 (by decide) (pc' := 459) rfl ?_
                              exact J459 _ (by unfold own_q36; exact (if_neg hc451).symm)
                            · refine RunW.iconst (1 : Int32) at_454 (by decide) (pc' := 455) rfl ?_
                              refine RunW.goto at_455 (by decide) (pc' := 459) (by decide) ?_
                              exact J459 _ (by unfold own_q36; exact (if_pos hc451).symm)
                          refine RunW.if_eq at_432 (by decide) (pc' := 439) (by decide) (pa := 435) rfl (fun hc432 => ?_) (fun hc432 => ?_)
                          · refine RunW.iconst (0 : Int32) at_439 (by decide) (pc' := 440) rfl ?_
                            exact J440 _ (by unfold own_bit; exact (if_pos hc432).symm)
                          · refine RunW.iconst (1 : Int32) at_435 (by decide) (pc' := 436) rfl ?_
                            refine RunW.goto at_436 (by decide) (pc' := 440) (by decide) ?_
                            exact J440 _ (by unfold own_bit; exact (if_neg hc432).symm)
                        refine RunW.if_eq at_417 (by decide) (pc' := 424) (by decide) (pa := 420) rfl (fun hc417 => ?_) (fun hc417 => ?_)
                        · refine RunW.iconst (0 : Int32) at_424 (by decide) (pc' := 425) rfl ?_
                          exact J425 _ (by unfold own_bit; exact (if_pos hc417).symm)
                        · refine RunW.iconst (1 : Int32) at_420 (by decide) (pc' := 421) rfl ?_
                          refine RunW.goto at_421 (by decide) (pc' := 425) (by decide) ?_
                          exact J425 _ (by unfold own_bit; exact (if_neg hc417).symm)
                      refine RunW.if_eq at_394 (by decide) (pc' := 401) (by decide) (pa := 397) rfl (fun hc394 => ?_) (fun hc394 => ?_)
                      · refine RunW.iconst (0 : Int32) at_401 (by decide) (pc' := 402) rfl ?_
                        exact J402 _ (by unfold own_bit; exact (if_pos hc394).symm)
                      · refine RunW.iconst (1 : Int32) at_397 (by decide) (pc' := 398) rfl ?_
                        refine RunW.goto at_398 (by decide) (pc' := 402) (by decide) ?_
                        exact J402 _ (by unfold own_bit; exact (if_neg hc394).symm)
                    refine RunW.if_eq at_379 (by decide) (pc' := 386) (by decide) (pa := 382) rfl (fun hc379 => ?_) (fun hc379 => ?_)
                    · refine RunW.iconst (0 : Int32) at_386 (by decide) (pc' := 387) rfl ?_
                      exact J387 _ (by unfold own_bit; exact (if_pos hc379).symm)
                    · refine RunW.iconst (1 : Int32) at_382 (by decide) (pc' := 383) rfl ?_
                      refine RunW.goto at_383 (by decide) (pc' := 387) (by decide) ?_
                      exact J387 _ (by unfold own_bit; exact (if_neg hc379).symm)
                  refine RunW.if_eq at_356 (by decide) (pc' := 363) (by decide) (pa := 359) rfl (fun hc356 => ?_) (fun hc356 => ?_)
                  · refine RunW.iconst (0 : Int32) at_363 (by decide) (pc' := 364) rfl ?_
                    exact J364 _ (by unfold own_bit; exact (if_pos hc356).symm)
                  · refine RunW.iconst (1 : Int32) at_359 (by decide) (pc' := 360) rfl ?_
                    refine RunW.goto at_360 (by decide) (pc' := 364) (by decide) ?_
                    exact J364 _ (by unfold own_bit; exact (if_neg hc356).symm)
                refine RunW.if_eq at_341 (by decide) (pc' := 348) (by decide) (pa := 344) rfl (fun hc341 => ?_) (fun hc341 => ?_)
                · refine RunW.iconst (0 : Int32) at_348 (by decide) (pc' := 349) rfl ?_
                  exact J349 _ (by unfold own_bit; exact (if_pos hc341).symm)
                · refine RunW.iconst (1 : Int32) at_344 (by decide) (pc' := 345) rfl ?_
                  refine RunW.goto at_345 (by decide) (pc' := 349) (by decide) ?_
                  exact J349 _ (by unfold own_bit; exact (if_neg hc341).symm)
        refine RunW.iload at_52 rfl (pc' := 54) rfl ?_
        refine RunW.if_eq at_54 (by decide) (pc' := 62) (by decide) (pa := 57) rfl (fun hc54 => ?_) (fun hc54 => ?_)
        · refine RunW.iloadN at_62 rfl (pc' := 63) rfl ?_
          refine RunW.bipush (16 : Int32) at_63 (by decide) (pc' := 65) rfl ?_
          refine RunW.iushr at_65 (pc' := 66) rfl ?_
          refine RunW.sipush (255 : Int32) at_66 (by decide) (pc' := 69) rfl ?_
          refine RunW.iand at_69 (pc' := 70) rfl ?_
          refine RunW.i2c at_70 (pc' := 71) rfl ?_
          refine RunW.istore (l' := #[.val (.int p1), .val (.int p2), .val (.int p3), .val (.int p4), .val (.int p5), .val (.int v5), .val (.int c0), .val (.int c1), .val (.int (nar .char ((XT.ushr p2 (16 : Int32)) &&& (255 : Int32)))), .unset, .unset, .unset, .unset, .unset, .unset, .unset, .unset, .unset]) at_71 rfl (pc' := 73) rfl ?_
          exact J73 _ (own_chm _)
        · refine RunW.bipush (58 : Int32) at_57 (by decide) (pc' := 59) rfl ?_
          refine RunW.goto at_59 (by decide) (pc' := 71) (by decide) ?_
          refine RunW.istore (l' := #[.val (.int p1), .val (.int p2), .val (.int p3), .val (.int p4), .val (.int p5), .val (.int v5), .val (.int c0), .val (.int c1), .val (.int (58 : Int32)), .unset, .unset, .unset, .unset, .unset, .unset, .unset, .unset, .unset]) at_71 rfl (pc' := 73) rfl ?_
          exact J73 _ (by decide)
      refine RunW.iload at_31 rfl (pc' := 33) rfl ?_
      refine RunW.if_eq at_33 (by decide) (pc' := 41) (by decide) (pa := 36) rfl (fun hc33 => ?_) (fun hc33 => ?_)
      · refine RunW.iloadN at_41 rfl (pc' := 42) rfl ?_
        refine RunW.bipush (8 : Int32) at_42 (by decide) (pc' := 44) rfl ?_
        refine RunW.iushr at_44 (pc' := 45) rfl ?_
        refine RunW.sipush (255 : Int32) at_45 (by decide) (pc' := 48) rfl ?_
        refine RunW.iand at_48 (pc' := 49) rfl ?_
        refine RunW.i2c at_49 (pc' := 50) rfl ?_
        refine RunW.istore (l' := #[.val (.int p1), .val (.int p2), .val (.int p3), .val (.int p4), .val (.int p5), .val (.int v5), .val (.int c0), .val (.int (nar .char ((XT.ushr p2 (8 : Int32)) &&& (255 : Int32)))), .unset, .unset, .unset, .unset, .unset, .unset, .unset, .unset, .unset, .unset]) at_50 rfl (pc' := 52) rfl ?_
        exact J52 _ (own_chm _)
      · refine RunW.bipush (49 : Int32) at_36 (by decide) (pc' := 38) rfl ?_
        refine RunW.goto at_38 (by decide) (pc' := 50) (by decide) ?_
        refine RunW.istore (l' := #[.val (.int p1), .val (.int p2), .val (.int p3), .val (.int p4), .val (.int p5), .val (.int v5), .val (.int c0), .val (.int (49 : Int32)), .unset, .unset, .unset, .unset, .unset, .unset, .unset, .unset, .unset, .unset]) at_50 rfl (pc' := 52) rfl ?_
        exact J52 _ (by decide)
    refine RunW.iload at_13 rfl (pc' := 15) rfl ?_
    refine RunW.if_eq at_15 (by decide) (pc' := 23) (by decide) (pa := 18) rfl (fun hc15 => ?_) (fun hc15 => ?_)
    · refine RunW.iloadN at_23 rfl (pc' := 24) rfl ?_
      refine RunW.sipush (255 : Int32) at_24 (by decide) (pc' := 27) rfl ?_
      refine RunW.iand at_27 (pc' := 28) rfl ?_
      refine RunW.i2c at_28 (pc' := 29) rfl ?_
      refine RunW.istore (l' := #[.val (.int p1), .val (.int p2), .val (.int p3), .val (.int p4), .val (.int p5), .val (.int v5), .val (.int (nar .char (p2 &&& (255 : Int32)))), .unset, .unset, .unset, .unset, .unset, .unset, .unset, .unset, .unset, .unset, .unset]) at_29 rfl (pc' := 31) rfl ?_
      exact J31 _ (own_chm _)
    · refine RunW.bipush (123 : Int32) at_18 (by decide) (pc' := 20) rfl ?_
      refine RunW.goto at_20 (by decide) (pc' := 29) (by decide) ?_
      refine RunW.istore (l' := #[.val (.int p1), .val (.int p2), .val (.int p3), .val (.int p4), .val (.int p5), .val (.int v5), .val (.int (123 : Int32)), .unset, .unset, .unset, .unset, .unset, .unset, .unset, .unset, .unset, .unset, .unset]) at_29 rfl (pc' := 31) rfl ?_
      exact J31 _ (by decide)
  refine RunW.iloadN at_0 rfl (pc' := 1) rfl ?_
  refine RunW.iconst (1 : Int32) at_1 (by decide) (pc' := 2) rfl ?_
  refine RunW.iand at_2 (pc' := 3) rfl ?_
  refine RunW.if_eq at_3 (by decide) (pc' := 10) (by decide) (pa := 6) rfl (fun hc3 => ?_) (fun hc3 => ?_)
  · refine RunW.iconst (0 : Int32) at_10 (by decide) (pc' := 11) rfl ?_
    refine RunW.istore (l' := #[.val (.int p1), .val (.int p2), .val (.int p3), .val (.int p4), .val (.int p5), .val (.int (0 : Int32)), .unset, .unset, .unset, .unset, .unset, .unset, .unset, .unset, .unset, .unset, .unset, .unset]) at_11 rfl (pc' := 13) rfl ?_
    exact J13 _
  · refine RunW.iconst (1 : Int32) at_6 (by decide) (pc' := 7) rfl ?_
    refine RunW.goto at_7 (by decide) (pc' := 11) (by decide) ?_
    refine RunW.istore (l' := #[.val (.int p1), .val (.int p2), .val (.int p3), .val (.int p4), .val (.int p5), .val (.int (1 : Int32)), .unset, .unset, .unset, .unset, .unset, .unset, .unset, .unset, .unset, .unset, .unset, .unset]) at_11 rfl (pc' := 13) rfl ?_
    exact J13 _
set_option maxRecDepth 65536 in
set_option maxHeartbeats 40000000 in
theorem comes_1 {Post : Tables → Env → Array Value → State → Outcome → State → Prop} (hpost : ∀ tb e args s v u, (limb_1_1.after args s (.returned v) u = true ∧ limb_1_2.after args s (.returned v) u = true ∧ True) → Jvm.D.FramedW s (.returned v) u (Jvm.fieldLocs frame_1_writes args s ++ Jvm.arrayLocs frame_1_arrays args s ++ Jvm.staticLocs frame_1_statics s) 80 8512 → Post tb e args s (.returned v) u) :
    ArmFor flags0 classFile x code maxLocals ret World_1 tables_1 room_1 Calls_1 rest_1 Pre_1 Post := by
  intro l hfl _ _ p e ha hc hk s m args below hf hA hF happ hP
  obtain ⟨hcalls, hrest, hpre⟩ := hP
  obtain ⟨-, -, -, hnamed, -, -, -, hat⟩ := (Spec.applies_iff hf).mp happ
  obtain ⟨hg, hn⟩ := and_e (Cond.before_iff.mp (show (Jvm.Cond.and given_1 narrow_1).before args s = true from hpre))
  obtain ⟨hcnt, g0⟩ := and_e hg
  obtain ⟨ga0, g1⟩ := and_e g0
  obtain ⟨ga1, g2⟩ := and_e g1
  obtain ⟨ga2, g3⟩ := and_e g2
  obtain ⟨ga3, g4⟩ := and_e g3
  obtain ⟨w0, w1, w2, w3, w4, rfl⟩ : ∃ w0 w1 w2 w3 w4 : Value, args = #[w0, w1, w2, w3, w4] := by
    have hs : args.size = 5 := by simpa [Cond.value, given_1] using hcnt
    obtain ⟨L⟩ := args
    match L, hs with
    | [w0, w1, w2, w3, w4], _ => exact ⟨w0, w1, w2, w3, w4, rfl⟩
  have hw := fun d (hd : d ∈ tables_1) => atoms_spec (ws := Jvm.Cond.code x code maxLocals ret :: tables_1) hat d (List.mem_cons_of_mem _ hd)
  obtain ⟨hsets, hown0⟩ := atoms_of _ (rest_1_c_eq ▸ (show rest_1_c.before _ s = true from hrest))
  have hr0 := Cond.before_iff.mp hown0
  have hfit : Fit s := fun {y c} hc i hi => by
    obtain ⟨ha, rfl⟩ := Array.getElem?_eq_some_iff.mp hc
    have q := List.all_eq_true.mp ((Array.all_eq_true_iff_forall_mem.mp hF) _ (Array.getElem_mem ha)) i (List.mem_range.mpr hi)
    simpa [Array.getElem?_eq_getElem hi] using q
  obtain ⟨i0, e0⟩ := is_v ga0
  obtain rfl : w0 = (.int i0) := Option.some.inj e0
  obtain ⟨i1, e1⟩ := is_v ga1
  obtain rfl : w1 = (.int i1) := Option.some.inj e1
  obtain ⟨i2, e2⟩ := is_v ga2
  obtain rfl : w2 = (.int i2) := Option.some.inj e2
  obtain ⟨i3, e3⟩ := is_v ga3
  obtain rfl : w3 = (.int i3) := Option.some.inj e3
  obtain ⟨i4, e4⟩ := is_v g4
  obtain rfl : w4 = (.int i4) := Option.some.inj e4
  obtain ⟨fm, evF, hfm⟩ := isR_v (Cond.before_iff.mp (hsets _ (List.mem_of_getElem? (i := 8) rfl)))
  have SF := Sta.start evF (Or.inl (hsets _ (List.mem_of_getElem? (i := 7) rfl)))
  obtain ⟨cz, evZ⟩ := is_v (Cond.before_iff.mp (hsets _ (List.mem_of_getElem? (i := 1) rfl)))
  have SZ := Sta.start evZ (Or.inl (hsets _ (List.mem_of_getElem? (i := 0) rfl)))
  have hcz : ¬ cz = (0 : Int32) := gotF (Cond.eq_ints evZ (Term.int_eval (0))) (not_v (Cond.before_iff.mp (hsets _ (List.mem_of_getElem? (i := 2) rfl))))
  have hCH : CHv s own_EL s.vm s.heap := CHv.start (own_EW hw) (own_heldc hcalls) (hsets _ (List.mem_of_getElem? (i := 2) rfl)) (hw _ (List.mem_of_getElem? (i := 3) rfl)) (hw _ (List.mem_of_getElem? (i := 2) rfl))
  obtain ⟨n, o, h1, h2, h3, _, L, rfl, ⟨⟨_, rfl, rfl⟩, N⟩, -, hq⟩ := con0 l s _ hw s.heap.size s.heap (Nat.le_refl _) i0 i1 i2 i3 i4 fm cz (Old.start s) SF hfm SZ hcz tables_1 p e ha hc hk s m _ below hf ((Spec.applies_iff_loose hf).mp happ).1 ⟨rfl, State.Warmed39.refl s, rfl, hCH, all0⟩ trivial
  refine ⟨n, _, h1, h2, h3, hpost _ _ _ _ _ _ ⟨Cond.after_iff.mpr rfl, Cond.after_iff.mpr (eq_i res_at (Term.int_eval (1)) rfl), trivial⟩ ⟨hq.1, hq.2.1, hq.2.2.1, (hq.2.2.2.sift fun y hy => Or.inr (N y hy)).mono (by decide) (by decide)⟩⟩
theorem main_1_1 : Claimed_1_1 := comes_1 fun _ _ _ _ _ _ h hF => ⟨h.1, hF⟩
theorem main_1_2 : Claimed_1_2 := comes_1 fun _ _ _ _ _ _ h hF => ⟨h.2.1, hF⟩
end Jvm.Pilot.@@N@@
namespace Jvm.Pilot.@@N@@
open Jvm Jvm.ClassFile Sem Op Lib Jvm.Free Jvm.Stand Jvm.Pilot.@@N@@.Jvm.D
/-! MADE BY PROGRAM (witnessworld.py) out of the Statement's table words and the real class files: 39 classes; the members and pool entries that the words name. The judged class is class 1, her method 2. -/
namespace start1
open Jvm.ClassFile
def u (s : String) : CpInfo := .utf8 (stringToUtf16 s)
/-- a pool by its gaps: so many unusable entries, then the entry; so many at the end -/
def gap : Nat → List CpInfo → List CpInfo
  | 0, r => r
  | n + 1, r => .unusable :: gap n r
def poolList (es : List (Nat × CpInfo)) (last : Nat) : List CpInfo := es.foldr (fun e r => gap e.1 (e.2 :: r)) (gap last [])
def pool (es : List (Nat × CpInfo)) (last : Nat) : Array CpInfo := ⟨poolList es last⟩
def fileOf (pool : Array CpInfo) (this : Nat) (attrs : Array Attribute := #[]) (ms : Array MethodInfo := #[]) (fl : Nat := 33) (sup : Nat := 0) (ifs : Array Nat := #[]) (fds : Array FieldInfo := #[]) : ClassFile where
  minorVersion := 0
  majorVersion := 65
  constantPool := pool
  accessFlags := fl
  thisClass := this
  superClass := sup
  interfaces := ifs
  fields := fds
  methods := ms
  attributes := attrs
def plain (name : String) (sup : Option ClassId) : Class where
  name := name
  kind := .ordinary
  loader := none
  accessFlags := 33
  super := sup
  interfaces := #[]
  cf := none
  fields := #[]
  methods := #[]
  instanceTypes := #[]
  staticTypes := #[]
  resolved := #[]
  callSites := []
  init := .initialized
  statics := none
  mirror := none

def pool0 : Array CpInfo := pool [(5, u "<init>"), (0, u "()V"), (1, .class_ 10), (1, u "java/lang/Object")] 113

def k0c0 : Code := { maxStack := 0, maxLocals := 1, code := object_method_1_code, exceptionTable := #[], attributes := #[] }
def k0m0 : Method := { name := "<init>", desc := "()V", sig := { parameters := [], returnType := none }, accessFlags := 1, code := some k0c0 }
/-- java/lang/Object -/
def k0 : Class := { plain "java/lang/Object" none with
  accessFlags := 33
  interfaces := #[]
  cf := some (fileOf pool0 8 #[] #[{ accessFlags := 1, nameIndex := 5, descriptorIndex := 6, attributes := #[] }] 33 0 #[] #[])
  fields := #[]
  methods := #[k0m0]
  instanceTypes := #[]
  staticTypes := #[]
  resolved := Array.replicate 124 none
  statics := none }

def pool1 : Array CpInfo := pool [(2, .class_ 4), (1, u "java/lang/Object"), (0, u "<init>"), (0, u "()V"), (0, .string 8), (0, u "\n\n\n$\r\n-}\n-a\n$$\n\r\n\n$\n\n\n$\n"), (0, .methodref 10 11), (0, .class_ 12), (0, .nameAndType 13 14), (0, u "java/lang/String"), (0, u "charAt"), (0, u "(I)C"), (0, .methodref 10 16), (0, .nameAndType 5 17), (0, u "([C)V"), (0, .methodref 19 20), (0, .class_ 21), (0, .nameAndType 22 23), (0, u "com/example/wireform/wireform/text/MessageReaderHasNextPinLaw"), (0, u "step"), (0, u "(IZZ)I"), (0, .class_ 25), (0, u "com/example/wireform/wireform/text/MessageReader"), (0, .methodref 24 27), (0, .nameAndType 5 28), (0, u "(Ljava/lang/String;)V"), (0, .methodref 24 30), (0, .nameAndType 31 32), (0, u "hasNext"), (0, u "()Z"), (0, .methodref 24 34), (0, .nameAndType 35 36), (0, u "next"), (0, u "()Lcom/example/wireform/wireform/text/Message;"), (3, u "law"), (0, u "(IIIII)Z")] 4

def k1m0 : Method := { name := "<init>", desc := "()V", sig := { parameters := [], returnType := none }, accessFlags := 2, code := none }
def k1c1 : Code := { maxStack := 2, maxLocals := 3, code := method_2_code, exceptionTable := #[], attributes := #[] }
def k1m1 : Method := { name := "step", desc := "(IZZ)I", sig := { parameters := [.int, .boolean, .boolean], returnType := some .int }, accessFlags := 10, code := some k1c1 }
def k1c2 : Code := { maxStack := 5, maxLocals := 18, code := code, exceptionTable := #[], attributes := #[] }
def k1m2 : Method := { name := "law", desc := "(IIIII)Z", sig := { parameters := [.int, .int, .int, .int, .int], returnType := some .boolean }, accessFlags := 9, code := some k1c2 }
/-- com/example/wireform/wireform/text/MessageReaderHasNextPinLaw -/
def k1 : Class := { plain "com/example/wireform/wireform/text/MessageReaderHasNextPinLaw" (some 0) with
  accessFlags := 49
  interfaces := #[]
  cf := some (fileOf pool1 19 #[] #[{ accessFlags := 2, nameIndex := 5, descriptorIndex := 6, attributes := #[] }, { accessFlags := 10, nameIndex := 22, descriptorIndex := 23, attributes := #[] }, { accessFlags := 9, nameIndex := 40, descriptorIndex := 41, attributes := #[] }] 49 2 #[] #[])
  fields := #[]
  methods := #[k1m0, k1m1, k1m2]
  instanceTypes := #[]
  staticTypes := #[]
  resolved := Array.replicate 46 none
  statics := none }

def pool2 : Array CpInfo := pool [(1, .class_ 2), (0, u "java/io/Serializable"), (0, .class_ 4), (0, u "java/lang/Object")] 2

/-- java/io/Serializable -/
def k2 : Class := { plain "java/io/Serializable" (some 0) with
  accessFlags := 1537
  interfaces := #[]
  cf := some (fileOf pool2 1 #[] #[] 1537 3 #[] #[])
  fields := #[]
  methods := #[]
  instanceTypes := #[]
  staticTypes := #[]
  resolved := Array.replicate 7 none
  statics := none }

def pool3 : Array CpInfo := pool [(1, .class_ 2), (0, u "java/lang/Comparable"), (0, .class_ 4), (0, u "java/lang/Object")] 7

/-- java/lang/Comparable -/
def k3 : Class := { plain "java/lang/Comparable" (some 0) with
  accessFlags := 1537
  interfaces := #[]
  cf := some (fileOf pool3 1 #[] #[] 1537 3 #[] #[])
  fields := #[]
  methods := #[]
  instanceTypes := #[]
  staticTypes := #[]
  resolved := Array.replicate 12 none
  statics := none }

def pool4 : Array CpInfo := pool [(2, .class_ 4), (1, u "java/lang/CharSequence"), (42, .class_ 48), (0, u "java/lang/CharSequence$1CodePointIterator"), (10, .class_ 60), (0, u "java/lang/CharSequence$1CharIterator"), (5, .class_ 67), (0, u "java/lang/Object")] 63

/-- java/lang/CharSequence -/
def k4 : Class := { plain "java/lang/CharSequence" (some 0) with
  accessFlags := 1537
  interfaces := #[]
  cf := some (fileOf pool4 2 #[.nestMembers #[47, 59]] #[] 1537 66 #[] #[])
  fields := #[]
  methods := #[]
  instanceTypes := #[]
  staticTypes := #[]
  resolved := Array.replicate 131 none
  statics := none }

def pool5 : Array CpInfo := pool [(1, .class_ 2), (0, u "java/lang/constant/Constable"), (0, .class_ 4), (0, u "java/lang/Object")] 6

/-- java/lang/constant/Constable -/
def k5 : Class := { plain "java/lang/constant/Constable" (some 0) with
  accessFlags := 1537
  interfaces := #[]
  cf := some (fileOf pool5 1 #[] #[] 1537 3 #[] #[])
  fields := #[]
  methods := #[]
  instanceTypes := #[]
  staticTypes := #[]
  resolved := Array.replicate 11 none
  statics := none }

def pool6 : Array CpInfo := pool [(1, .class_ 2), (0, u "java/lang/constant/ConstantDesc"), (0, .class_ 4), (0, u "java/lang/Object")] 32

/-- java/lang/constant/ConstantDesc -/
def k6 : Class := { plain "java/lang/constant/ConstantDesc" (some 0) with
  accessFlags := 1537
  interfaces := #[]
  cf := some (fileOf pool6 1 #[] #[] 1537 3 #[] #[])
  fields := #[]
  methods := #[]
  instanceTypes := #[]
  staticTypes := #[]
  resolved := Array.replicate 37 none
  statics := none }

def pool7 : Array CpInfo := pool [(1, .methodref 2 3), (0, .class_ 4), (0, .nameAndType 5 6), (0, u "java/lang/Object"), (0, u "<init>"), (0, u "()V"), (2, .fieldref 10 11), (0, .class_ 12), (0, .nameAndType 13 14), (0, u "java/lang/String"), (0, u "value"), (0, u "[B"), (0, .fieldref 10 16), (0, .nameAndType 17 18), (0, u "coder"), (0, u "B"), (2, u "hash"), (0, u "I"), (2, u "hashIsZero"), (0, u "Z"), (0, .methodref 10 28), (0, .nameAndType 5 29), (0, u "([CIILjava/lang/Void;)V"), (8, .fieldref 10 39), (0, .nameAndType 40 26), (0, u "COMPACT_STRINGS"), (1, .class_ 44), (1, u "java/lang/StringUTF16"), (0, u "compress"), (1, .methodref 42 48), (0, .nameAndType 49 50), (0, u "coderFromArrayLen"), (0, u "([BI)B"), (56, .class_ 109), (1, u "java/lang/StringLatin1"), (32, u "()Z"), (34, .methodref 42 178), (0, .nameAndType 45 179), (0, u "([CII)[B"), (31, u "([BB)V"), (122, u "()I"), (0, .methodref 10 336), (0, .nameAndType 17 337), (0, u "()B"), (25, u "([BI)C"), (12, u "([BI[BII)I"), (14, u "(II)V"), (35, u "(I)C"), (64, .methodref 10 493), (0, .nameAndType 494 142), (0, u "isLatin1"), (0, .methodref 107 496), (0, .nameAndType 497 363), (0, u "charAt"), (3, u "checkIndex"), (3, .methodref 10 506), (0, .nameAndType 507 334), (0, u "length"), (5, u "checkFromToIndex"), (7, .methodref 10 522), (0, .nameAndType 523 524), (0, u "checkBoundsBeginEnd"), (0, u "(III)V"), (16, .methodref 107 542), (0, .nameAndType 543 544), (0, u "equals"), (0, u "([B[B)Z"), (14, .class_ 561), (1, u "jdk/internal/util/ArraysSupport"), (0, u "mismatch"), (10, u "(Ljava/lang/Object;)Z"), (1, .class_ 576), (0, u "java/lang/CharSequence"), (22, u "CASE_INSENSITIVE_ORDER"), (0, u "Ljava/util/Comparator;"), (6, .methodref 559 608), (0, .nameAndType 562 376), (15, .methodref 10 625), (0, .nameAndType 626 627), (0, u "startsWith"), (0, u "(Ljava/lang/String;I)Z"), (7, u "indexOf"), (0, u "(II)I"), (0, .methodref 107 638), (0, .nameAndType 635 639), (0, u "([BIII)I"), (43, u "substring"), (0, u "(II)Ljava/lang/String;"), (0, .methodref 107 686), (0, .nameAndType 687 688), (0, u "newString"), (0, u "([BII)Ljava/lang/String;"), (3, u "isEmpty"), (317, u "([C)V"), (42, .fieldref 1054 1055), (0, .class_ 1056), (0, .nameAndType 1057 1058), (0, u "jdk/internal/util/Preconditions"), (0, u "SIOOBE_FORMATTER"), (0, u "Ljava/util/function/BiFunction;"), (0, .methodref 1054 1060), (0, .nameAndType 501 1061), (0, u "(IILjava/util/function/BiFunction;)I"), (0, .methodref 1054 1063), (0, .nameAndType 513 1064), (0, u "(IIILjava/util/function/BiFunction;)I"), (36, u "serialPersistentFields"), (0, u "[Ljava/io/ObjectStreamField;"), (0, .class_ 1104), (0, u "java/lang/String$CaseInsensitiveComparator"), (1, .class_ 1107), (0, u "java/io/Serializable"), (0, .class_ 1109), (0, u "java/lang/Comparable"), (0, .class_ 1111), (0, u "java/lang/constant/Constable"), (0, .class_ 1113), (0, u "java/lang/constant/ConstantDesc"), (2, u "serialVersionUID"), (0, u "J"), (3, u "REPL"), (0, u "C"), (2, u "LATIN1"), (1, u "UTF16"), (129, u "(Ljava/lang/String;)Z")] 193

def k7m0 : Method := { name := "<init>", desc := "()V", sig := { parameters := [], returnType := none }, accessFlags := 1, code := none }
def k7c1 : Code := { maxStack := 5, maxLocals := 2, code := jdk_42_method_3_code, exceptionTable := #[], attributes := #[] }
def k7m1 : Method := { name := "<init>", desc := "([C)V", sig := { parameters := [(.array .char)], returnType := none }, accessFlags := 1, code := some k7c1 }
def k7c2 : Code := { maxStack := 2, maxLocals := 1, code := jdk_42_method_54_code, exceptionTable := #[], attributes := #[] }
def k7m2 : Method := { name := "length", desc := "()I", sig := { parameters := [], returnType := some .int }, accessFlags := 1, code := some k7c2 }
def k7c3 : Code := { maxStack := 1, maxLocals := 1, code := jdk_42_method_55_code, exceptionTable := #[], attributes := #[] }
def k7m3 : Method := { name := "isEmpty", desc := "()Z", sig := { parameters := [], returnType := some .boolean }, accessFlags := 1, code := some k7c3 }
def k7c4 : Code := { maxStack := 2, maxLocals := 2, code := jdk_42_method_56_code, exceptionTable := #[], attributes := #[] }
def k7m4 : Method := { name := "charAt", desc := "(I)C", sig := { parameters := [.int], returnType := some .char }, accessFlags := 1, code := some k7c4 }
def k7c5 : Code := { maxStack := 2, maxLocals := 3, code := jdk_42_method_66_code, exceptionTable := #[], attributes := #[] }
def k7m5 : Method := { name := "equals", desc := "(Ljava/lang/Object;)Z", sig := { parameters := [(.object "java/lang/Object")], returnType := some .boolean }, accessFlags := 1, code := some k7c5 }
def k7c6 : Code := { maxStack := 5, maxLocals := 8, code := jdk_42_method_75_code, exceptionTable := #[], attributes := #[] }
def k7m6 : Method := { name := "startsWith", desc := "(Ljava/lang/String;I)Z", sig := { parameters := [(.object "java/lang/String"), .int], returnType := some .boolean }, accessFlags := 1, code := some k7c6 }
def k7c7 : Code := { maxStack := 3, maxLocals := 2, code := jdk_42_method_76_code, exceptionTable := #[], attributes := #[] }
def k7m7 : Method := { name := "startsWith", desc := "(Ljava/lang/String;)Z", sig := { parameters := [(.object "java/lang/String")], returnType := some .boolean }, accessFlags := 1, code := some k7c7 }
def k7c8 : Code := { maxStack := 4, maxLocals := 3, code := jdk_42_method_80_code, exceptionTable := #[], attributes := #[] }
def k7m8 : Method := { name := "indexOf", desc := "(II)I", sig := { parameters := [.int, .int], returnType := some .int }, accessFlags := 1, code := some k7c8 }
def k7c9 : Code := { maxStack := 3, maxLocals := 5, code := jdk_42_method_92_code, exceptionTable := #[], attributes := #[] }
def k7m9 : Method := { name := "substring", desc := "(II)Ljava/lang/String;", sig := { parameters := [.int, .int], returnType := some (.object "java/lang/String") }, accessFlags := 1, code := some k7c9 }
def k7c10 : Code := { maxStack := 4, maxLocals := 6, code := jdk_42_method_149_code, exceptionTable := #[], attributes := #[] }
def k7m10 : Method := { name := "<init>", desc := "([CIILjava/lang/Void;)V", sig := { parameters := [(.array .char), .int, .int, (.object "java/lang/Void")], returnType := none }, accessFlags := 2, code := some k7c10 }
def k7c11 : Code := { maxStack := 2, maxLocals := 3, code := jdk_42_method_151_code, exceptionTable := #[], attributes := #[] }
def k7m11 : Method := { name := "<init>", desc := "([BB)V", sig := { parameters := [(.array .byte), .byte], returnType := none }, accessFlags := 0, code := some k7c11 }
def k7c12 : Code := { maxStack := 1, maxLocals := 1, code := jdk_42_method_152_code, exceptionTable := #[], attributes := #[] }
def k7m12 : Method := { name := "coder", desc := "()B", sig := { parameters := [], returnType := some .byte }, accessFlags := 0, code := some k7c12 }
def k7c13 : Code := { maxStack := 1, maxLocals := 1, code := jdk_42_method_154_code, exceptionTable := #[], attributes := #[] }
def k7m13 : Method := { name := "isLatin1", desc := "()Z", sig := { parameters := [], returnType := some .boolean }, accessFlags := 0, code := some k7c13 }
def k7c14 : Code := { maxStack := 3, maxLocals := 2, code := jdk_42_method_155_code, exceptionTable := #[], attributes := #[] }
def k7m14 : Method := { name := "checkIndex", desc := "(II)V", sig := { parameters := [.int, .int], returnType := none }, accessFlags := 8, code := some k7c14 }
def k7c15 : Code := { maxStack := 4, maxLocals := 3, code := jdk_42_method_158_code, exceptionTable := #[], attributes := #[] }
def k7m15 : Method := { name := "checkBoundsBeginEnd", desc := "(III)V", sig := { parameters := [.int, .int, .int], returnType := none }, accessFlags := 8, code := some k7c15 }
/-- java/lang/String -/
def k7 : Class := { plain "java/lang/String" (some 0) with
  accessFlags := 49
  interfaces := #[2, 3, 4, 5, 6]
  cf := some (fileOf pool7 10 #[.nestMembers #[1103]] #[{ accessFlags := 1, nameIndex := 5, descriptorIndex := 6, attributes := #[] }, { accessFlags := 1, nameIndex := 5, descriptorIndex := 1010, attributes := #[] }, { accessFlags := 1, nameIndex := 507, descriptorIndex := 334, attributes := #[] }, { accessFlags := 1, nameIndex := 692, descriptorIndex := 142, attributes := #[] }, { accessFlags := 1, nameIndex := 497, descriptorIndex := 427, attributes := #[] }, { accessFlags := 1, nameIndex := 543, descriptorIndex := 573, attributes := #[] }, { accessFlags := 1, nameIndex := 626, descriptorIndex := 627, attributes := #[] }, { accessFlags := 1, nameIndex := 626, descriptorIndex := 1257, attributes := #[] }, { accessFlags := 1, nameIndex := 635, descriptorIndex := 636, attributes := #[] }, { accessFlags := 1, nameIndex := 683, descriptorIndex := 684, attributes := #[] }, { accessFlags := 2, nameIndex := 5, descriptorIndex := 29, attributes := #[] }, { accessFlags := 0, nameIndex := 5, descriptorIndex := 211, attributes := #[] }, { accessFlags := 0, nameIndex := 17, descriptorIndex := 337, attributes := #[] }, { accessFlags := 0, nameIndex := 494, descriptorIndex := 142, attributes := #[] }, { accessFlags := 8, nameIndex := 501, descriptorIndex := 391, attributes := #[] }, { accessFlags := 8, nameIndex := 523, descriptorIndex := 524, attributes := #[] }] 49 2 #[1106, 1108, 575, 1110, 1112] #[{ accessFlags := 18, nameIndex := 13, descriptorIndex := 14, attributes := #[] }, { accessFlags := 18, nameIndex := 17, descriptorIndex := 18, attributes := #[] }, { accessFlags := 2, nameIndex := 21, descriptorIndex := 22, attributes := #[] }, { accessFlags := 2, nameIndex := 25, descriptorIndex := 26, attributes := #[] }, { accessFlags := 26, nameIndex := 1116, descriptorIndex := 1117, attributes := #[] }, { accessFlags := 24, nameIndex := 40, descriptorIndex := 26, attributes := #[] }, { accessFlags := 26, nameIndex := 1101, descriptorIndex := 1102, attributes := #[] }, { accessFlags := 26, nameIndex := 1121, descriptorIndex := 1122, attributes := #[] }, { accessFlags := 25, nameIndex := 599, descriptorIndex := 600, attributes := #[] }, { accessFlags := 24, nameIndex := 1125, descriptorIndex := 18, attributes := #[] }, { accessFlags := 24, nameIndex := 1127, descriptorIndex := 18, attributes := #[] }])
  fields := #[{ name := "value", type := (.array .byte), accessFlags := 18, slot := 0, constantValue := 0 }, { name := "coder", type := .byte, accessFlags := 18, slot := 1, constantValue := 0 }, { name := "hash", type := .int, accessFlags := 2, slot := 2, constantValue := 0 }, { name := "hashIsZero", type := .boolean, accessFlags := 2, slot := 3, constantValue := 0 }, { name := "serialVersionUID", type := .long, accessFlags := 26, slot := 0, constantValue := 0 }, { name := "COMPACT_STRINGS", type := .boolean, accessFlags := 24, slot := 1, constantValue := 0 }, { name := "serialPersistentFields", type := (.array (.object "java/io/ObjectStreamField")), accessFlags := 26, slot := 2, constantValue := 0 }, { name := "REPL", type := .char, accessFlags := 26, slot := 3, constantValue := 0 }, { name := "CASE_INSENSITIVE_ORDER", type := (.object "java/util/Comparator"), accessFlags := 25, slot := 4, constantValue := 0 }, { name := "LATIN1", type := .byte, accessFlags := 24, slot := 5, constantValue := 0 }, { name := "UTF16", type := .byte, accessFlags := 24, slot := 6, constantValue := 0 }]
  methods := #[k7m0, k7m1, k7m2, k7m3, k7m4, k7m5, k7m6, k7m7, k7m8, k7m9, k7m10, k7m11, k7m12, k7m13, k7m14, k7m15]
  instanceTypes := #[(.array .byte), .byte, .int, .boolean]
  staticTypes := #[.long, .boolean, (.array (.object "java/io/ObjectStreamField")), .char, (.object "java/util/Comparator"), .byte, .byte]
  resolved := Array.replicate 1451 none
  statics := some 0 }

def pool8 : Array CpInfo := pool [(1, .class_ 2), (0, u "java/lang/String"), (1, .class_ 6), (1, u "java/lang/Object"), (0, u "<init>"), (0, u "()V"), (0, .methodref 1 10), (0, .nameAndType 11 12), (0, u "checkIndex"), (0, u "(II)V"), (1, .class_ 16), (1, u "java/lang/StringLatin1"), (21, .methodref 39 40), (0, .class_ 41), (0, .nameAndType 42 43), (0, u "java/lang/Math"), (0, u "min"), (0, u "(II)I"), (9, u "([BI)C"), (34, .methodref 14 89), (0, .nameAndType 90 91), (0, u "canEncode"), (0, u "(I)Z"), (0, .methodref 39 93), (0, .nameAndType 94 43), (0, u "max"), (0, .methodref 14 96), (0, .nameAndType 97 98), (0, u "indexOfChar"), (0, u "([BIII)I"), (2, u "indexOf"), (10, .methodref 1 113), (0, .nameAndType 7 114), (0, u "([BB)V"), (6, u "$assertionsDisabled"), (0, u "Z"), (8, .class_ 133), (1, u "java/util/Arrays"), (17, .string 152), (0, u ""), (43, u "newString"), (0, u "([BII)Ljava/lang/String;"), (23, .class_ 223), (1, u "java/lang/StringLatin1$LinesSpliterator"), (8, .methodref 131 233), (0, .nameAndType 234 235), (0, u "copyOfRange"), (0, u "([BII)[B"), (16, u "charAt"), (28, u "equals"), (0, u "([B[B)Z"), (107, .class_ 391), (0, u "java/lang/StringLatin1$CharsSpliterator")] 3

def k8m0 : Method := { name := "<init>", desc := "()V", sig := { parameters := [], returnType := none }, accessFlags := 0, code := none }
def k8c1 : Code := { maxStack := 2, maxLocals := 2, code := jdk_43_method_2_code, exceptionTable := #[], attributes := #[] }
def k8m1 : Method := { name := "charAt", desc := "([BI)C", sig := { parameters := [(.array .byte), .int], returnType := some .char }, accessFlags := 9, code := some k8c1 }
def k8c2 : Code := { maxStack := 2, maxLocals := 1, code := jdk_43_method_4_code, exceptionTable := #[], attributes := #[] }
def k8m2 : Method := { name := "canEncode", desc := "(I)Z", sig := { parameters := [.int], returnType := some .boolean }, accessFlags := 9, code := some k8c2 }
def k8c3 : Code := { maxStack := 3, maxLocals := 3, code := jdk_43_method_13_code, exceptionTable := #[], attributes := #[] }
def k8m3 : Method := { name := "equals", desc := "([B[B)Z", sig := { parameters := [(.array .byte), (.array .byte)], returnType := some .boolean }, accessFlags := 9, code := some k8c3 }
def k8c4 : Code := { maxStack := 4, maxLocals := 4, code := jdk_43_method_22_code, exceptionTable := #[], attributes := #[] }
def k8m4 : Method := { name := "indexOf", desc := "([BIII)I", sig := { parameters := [(.array .byte), .int, .int, .int], returnType := some .int }, accessFlags := 9, code := some k8c4 }
def k8c5 : Code := { maxStack := 2, maxLocals := 6, code := jdk_43_method_23_code, exceptionTable := #[], attributes := #[] }
def k8m5 : Method := { name := "indexOfChar", desc := "([BIII)I", sig := { parameters := [(.array .byte), .int, .int, .int], returnType := some .int }, accessFlags := 10, code := some k8c5 }
def k8c6 : Code := { maxStack := 6, maxLocals := 3, code := jdk_43_method_47_code, exceptionTable := #[], attributes := #[] }
def k8m6 : Method := { name := "newString", desc := "([BII)Ljava/lang/String;", sig := { parameters := [(.array .byte), .int, .int], returnType := some (.object "java/lang/String") }, accessFlags := 9, code := some k8c6 }
/-- java/lang/StringLatin1 -/
def k8 : Class := { plain "java/lang/StringLatin1" (some 0) with
  accessFlags := 48
  interfaces := #[]
  cf := some (fileOf pool8 14 #[.nestMembers #[390, 221]] #[{ accessFlags := 0, nameIndex := 7, descriptorIndex := 8, attributes := #[] }, { accessFlags := 9, nameIndex := 252, descriptorIndex := 53, attributes := #[] }, { accessFlags := 9, nameIndex := 90, descriptorIndex := 91, attributes := #[] }, { accessFlags := 9, nameIndex := 281, descriptorIndex := 282, attributes := #[] }, { accessFlags := 9, nameIndex := 101, descriptorIndex := 98, attributes := #[] }, { accessFlags := 10, nameIndex := 97, descriptorIndex := 98, attributes := #[] }, { accessFlags := 9, nameIndex := 196, descriptorIndex := 197, attributes := #[] }] 48 4 #[] #[{ accessFlags := 4120, nameIndex := 121, descriptorIndex := 122, attributes := #[] }])
  fields := #[{ name := "$assertionsDisabled", type := .boolean, accessFlags := 4120, slot := 0, constantValue := 0 }]
  methods := #[k8m0, k8m1, k8m2, k8m3, k8m4, k8m5, k8m6]
  instanceTypes := #[]
  staticTypes := #[.boolean]
  resolved := Array.replicate 395 none
  statics := none }

def pool9 : Array CpInfo := pool [(2, .class_ 4), (1, u "java/lang/Object"), (0, u "<init>"), (0, u "()V"), (17, .class_ 26), (1, u "jdk/internal/util/Preconditions"), (6, u "checkIndex"), (13, u "checkFromToIndex"), (7, .class_ 56), (0, u "jdk/internal/util/Preconditions$4"), (57, .class_ 115), (0, u "jdk/internal/util/Preconditions$1"), (7, u "SIOOBE_FORMATTER"), (0, u "Ljava/util/function/BiFunction;"), (0, .class_ 126), (0, u "jdk/internal/util/Preconditions$2"), (3, u "AIOOBE_FORMATTER"), (0, .class_ 132), (0, u "jdk/internal/util/Preconditions$3"), (3, u "IOOBE_FORMATTER"), (41, u "(IILjava/util/function/BiFunction;)I"), (4, u "(IIILjava/util/function/BiFunction;)I")] 10

def k9m0 : Method := { name := "<init>", desc := "()V", sig := { parameters := [], returnType := none }, accessFlags := 1, code := none }
def k9c1 : Code := { maxStack := 3, maxLocals := 3, code := jdk_41_method_11_code, exceptionTable := #[], attributes := #[] }
def k9m1 : Method := { name := "checkIndex", desc := "(IILjava/util/function/BiFunction;)I", sig := { parameters := [.int, .int, (.object "java/util/function/BiFunction")], returnType := some .int }, accessFlags := 9, code := some k9c1 }
def k9c2 : Code := { maxStack := 4, maxLocals := 4, code := jdk_41_method_12_code, exceptionTable := #[], attributes := #[] }
def k9m2 : Method := { name := "checkFromToIndex", desc := "(IIILjava/util/function/BiFunction;)I", sig := { parameters := [.int, .int, .int, (.object "java/util/function/BiFunction")], returnType := some .int }, accessFlags := 9, code := some k9c2 }
/-- jdk/internal/util/Preconditions -/
def k9 : Class := { plain "jdk/internal/util/Preconditions" (some 0) with
  accessFlags := 33
  interfaces := #[]
  cf := some (fileOf pool9 24 #[.nestMembers #[55, 131, 125, 114]] #[{ accessFlags := 1, nameIndex := 5, descriptorIndex := 6, attributes := #[] }, { accessFlags := 9, nameIndex := 33, descriptorIndex := 178, attributes := #[] }, { accessFlags := 9, nameIndex := 47, descriptorIndex := 183, attributes := #[] }] 33 2 #[] #[{ accessFlags := 25, nameIndex := 123, descriptorIndex := 124, attributes := #[] }, { accessFlags := 25, nameIndex := 130, descriptorIndex := 124, attributes := #[] }, { accessFlags := 25, nameIndex := 136, descriptorIndex := 124, attributes := #[] }])
  fields := #[{ name := "SIOOBE_FORMATTER", type := (.object "java/util/function/BiFunction"), accessFlags := 25, slot := 0, constantValue := 0 }, { name := "AIOOBE_FORMATTER", type := (.object "java/util/function/BiFunction"), accessFlags := 25, slot := 1, constantValue := 0 }, { name := "IOOBE_FORMATTER", type := (.object "java/util/function/BiFunction"), accessFlags := 25, slot := 2, constantValue := 0 }]
  methods := #[k9m0, k9m1, k9m2]
  instanceTypes := #[]
  staticTypes := #[(.object "java/util/function/BiFunction"), (.object "java/util/function/BiFunction"), (.object "java/util/function/BiFunction")]
  resolved := Array.replicate 194 none
  statics := some 1 }

def pool10 : Array CpInfo := pool [(6, .class_ 8), (1, u "java/lang/Object"), (0, u "<init>"), (0, u "()V"), (1, .class_ 14), (1, u "java/lang/StringUTF16"), (31, u "$assertionsDisabled"), (0, u "Z"), (13, u "HI_BYTE_SHIFT"), (0, u "I"), (2, u "LO_BYTE_SHIFT"), (49, .methodref 12 116), (0, .nameAndType 117 118), (0, u "compress"), (0, u "([CI[BII)I"), (3, u "([CII)[B"), (138, u "coderFromArrayLen"), (0, u "([BI)B"), (106, .class_ 371), (1, u "java/lang/StringUTF16$LinesSpliterator"), (58, u "MAX_LENGTH"), (196, .class_ 628), (0, u "java/lang/StringUTF16$CodePointsSpliterator"), (0, .class_ 630), (0, u "java/lang/StringUTF16$CharsSpliterator")] 4

def k10m0 : Method := { name := "<init>", desc := "()V", sig := { parameters := [], returnType := none }, accessFlags := 0, code := none }
def k10c1 : Code := { maxStack := 2, maxLocals := 2, code := jdk_52_method_15_code, exceptionTable := #[], attributes := #[] }
def k10m1 : Method := { name := "coderFromArrayLen", desc := "([BI)B", sig := { parameters := [(.array .byte), .int], returnType := some .byte }, accessFlags := 8, code := some k10c1 }
def k10c2 : Code := { maxStack := 5, maxLocals := 6, code := jdk_52_method_16_code, exceptionTable := #[], attributes := #[] }
def k10m2 : Method := { name := "compress", desc := "([CII)[B", sig := { parameters := [(.array .char), .int, .int], returnType := some (.array .byte) }, accessFlags := 9, code := some k10c2 }
def k10c3 : Code := { maxStack := 3, maxLocals := 7, code := jdk_52_method_21_code, exceptionTable := #[], attributes := #[] }
def k10m3 : Method := { name := "compress", desc := "([CI[BII)I", sig := { parameters := [(.array .char), .int, (.array .byte), .int, .int], returnType := some .int }, accessFlags := 9, code := some k10c3 }
/-- java/lang/StringUTF16 -/
def k10 : Class := { plain "java/lang/StringUTF16" (some 0) with
  accessFlags := 48
  interfaces := #[]
  cf := some (fileOf pool10 12 #[.nestMembers #[627, 629, 369]] #[{ accessFlags := 0, nameIndex := 9, descriptorIndex := 10, attributes := #[] }, { accessFlags := 8, nameIndex := 261, descriptorIndex := 262, attributes := #[] }, { accessFlags := 9, nameIndex := 117, descriptorIndex := 122, attributes := #[] }, { accessFlags := 9, nameIndex := 117, descriptorIndex := 118, attributes := #[] }] 48 6 #[] #[{ accessFlags := 26, nameIndex := 61, descriptorIndex := 62, attributes := #[] }, { accessFlags := 26, nameIndex := 65, descriptorIndex := 62, attributes := #[] }, { accessFlags := 24, nameIndex := 430, descriptorIndex := 62, attributes := #[] }, { accessFlags := 4120, nameIndex := 46, descriptorIndex := 47, attributes := #[] }])
  fields := #[{ name := "HI_BYTE_SHIFT", type := .int, accessFlags := 26, slot := 0, constantValue := 0 }, { name := "LO_BYTE_SHIFT", type := .int, accessFlags := 26, slot := 1, constantValue := 0 }, { name := "MAX_LENGTH", type := .int, accessFlags := 24, slot := 2, constantValue := 0 }, { name := "$assertionsDisabled", type := .boolean, accessFlags := 4120, slot := 3, constantValue := 0 }]
  methods := #[k10m0, k10m1, k10m2, k10m3]
  instanceTypes := #[]
  staticTypes := #[.int, .int, .int, .boolean]
  resolved := Array.replicate 635 none
  statics := none }

def pool11 : Array CpInfo := pool [(16, .class_ 18), (1, u "java/util/Iterator"), (12, .class_ 32), (0, u "java/lang/Object")] 20

/-- java/util/Iterator -/
def k11 : Class := { plain "java/util/Iterator" (some 0) with
  accessFlags := 1537
  interfaces := #[]
  cf := some (fileOf pool11 16 #[] #[] 1537 31 #[] #[])
  fields := #[]
  methods := #[]
  instanceTypes := #[]
  staticTypes := #[]
  resolved := Array.replicate 53 none
  statics := none }

def pool12 : Array CpInfo := pool [(1, .methodref 2 3), (0, .class_ 4), (0, .nameAndType 5 6), (0, u "java/lang/Object"), (0, u "<init>"), (0, u "()V"), (0, .fieldref 8 9), (0, .class_ 10), (0, .nameAndType 11 12), (0, u "com/example/wireform/wireform/text/MessageReader"), (0, u "text"), (0, u "Ljava/lang/String;"), (2, .string 16), (0, u "{1:"), (0, .methodref 18 19), (0, .class_ 20), (0, .nameAndType 21 22), (0, u "java/lang/String"), (0, u "startsWith"), (0, u "(Ljava/lang/String;)Z"), (0, .fieldref 8 24), (0, .nameAndType 25 26), (0, u "fin"), (0, u "Z"), (0, .fieldref 8 28), (0, .nameAndType 29 26), (0, u "bare"), (0, .methodref 8 31), (0, .nameAndType 32 33), (0, u "nextOpening"), (0, u "()Ljava/lang/String;"), (0, .fieldref 8 35), (0, .nameAndType 36 12), (0, u "opening"), (0, .methodref 8 38), (0, .nameAndType 39 40), (0, u "hasNext"), (0, u "()Z"), (3, .class_ 45), (0, u "com/example/wireform/wireform/text/Message"), (0, .methodref 47 48), (0, .class_ 49), (0, .nameAndType 50 51), (0, u "com/example/wireform/wireform/text/Lines"), (0, u "split"), (0, u "(Ljava/lang/String;)Ljava/util/List;"), (0, .methodref 44 53), (0, .nameAndType 5 54), (0, u "(Ljava/util/List;Lcom/example/wireform/wireform/text/FinHeader;)V"), (0, .methodref 56 57), (0, .class_ 58), (0, .nameAndType 59 60), (0, u "com/example/wireform/wireform/text/FinHeader"), (0, u "read"), (0, u "(Ljava/lang/String;)Lcom/example/wireform/wireform/text/FinHeader;"), (0, .fieldref 8 62), (0, .nameAndType 63 64), (0, u "position"), (0, u "I"), (0, .methodref 18 66), (0, .nameAndType 67 68), (0, u "length"), (0, u "()I"), (0, .methodref 47 70), (0, .nameAndType 71 72), (0, u "lineEnd"), (0, u "(Ljava/lang/String;I)I"), (0, .string 74), (0, u "-}"), (0, .methodref 18 76), (0, .nameAndType 21 77), (0, u "(Ljava/lang/String;I)Z"), (0, .methodref 8 79), (0, .nameAndType 80 81), (0, u "isSeparator"), (0, u "(II)Z"), (0, .methodref 47 83), (0, .nameAndType 50 84), (0, u "(Ljava/lang/String;II)Ljava/util/List;"), (0, .methodref 47 86), (0, .nameAndType 87 88), (0, u "lineText"), (0, u "(Ljava/lang/String;II)Ljava/lang/String;"), (0, .methodref 18 90), (0, .nameAndType 91 40), (0, u "isEmpty"), (0, .string 93), (0, u "$"), (0, .methodref 18 95), (0, .nameAndType 96 97), (0, u "equals"), (0, u "(Ljava/lang/Object;)Z"), (2, u "next"), (0, u "()Lcom/example/wireform/wireform/text/Message;"), (0, .class_ 103), (0, u "java/util/Iterator"), (0, u "(Ljava/lang/String;)V")] 8

def k12c0 : Code := { maxStack := 3, maxLocals := 2, code := prog_58_method_1_code, exceptionTable := #[], attributes := #[] }
def k12m0 : Method := { name := "<init>", desc := "(Ljava/lang/String;)V", sig := { parameters := [(.object "java/lang/String")], returnType := none }, accessFlags := 1, code := some k12c0 }
def k12c1 : Code := { maxStack := 1, maxLocals := 1, code := prog_58_method_2_code, exceptionTable := #[], attributes := #[] }
def k12m1 : Method := { name := "hasNext", desc := "()Z", sig := { parameters := [], returnType := some .boolean }, accessFlags := 1, code := some k12c1 }
def k12c2 : Code := { maxStack := 5, maxLocals := 6, code := prog_58_method_3_code, exceptionTable := #[], attributes := #[] }
def k12m2 : Method := { name := "next", desc := "()Lcom/example/wireform/wireform/text/Message;", sig := { parameters := [], returnType := some (.object "com/example/wireform/wireform/text/Message") }, accessFlags := 1, code := some k12c2 }
def k12c3 : Code := { maxStack := 3, maxLocals := 3, code := prog_58_method_4_code, exceptionTable := #[], attributes := #[] }
def k12m3 : Method := { name := "nextOpening", desc := "()Ljava/lang/String;", sig := { parameters := [], returnType := some (.object "java/lang/String") }, accessFlags := 2, code := some k12c3 }
def k12c4 : Code := { maxStack := 3, maxLocals := 3, code := prog_58_method_5_code, exceptionTable := #[], attributes := #[] }
def k12m4 : Method := { name := "isSeparator", desc := "(II)Z", sig := { parameters := [.int, .int], returnType := some .boolean }, accessFlags := 2, code := some k12c4 }
/-- com/example/wireform/wireform/text/MessageReader -/
def k12 : Class := { plain "com/example/wireform/wireform/text/MessageReader" (some 0) with
  accessFlags := 49
  interfaces := #[11]
  cf := some (fileOf pool12 8 #[] #[{ accessFlags := 1, nameIndex := 5, descriptorIndex := 104, attributes := #[] }, { accessFlags := 1, nameIndex := 39, descriptorIndex := 40, attributes := #[] }, { accessFlags := 1, nameIndex := 100, descriptorIndex := 101, attributes := #[] }, { accessFlags := 2, nameIndex := 32, descriptorIndex := 33, attributes := #[] }, { accessFlags := 2, nameIndex := 80, descriptorIndex := 81, attributes := #[] }] 49 2 #[102] #[{ accessFlags := 18, nameIndex := 11, descriptorIndex := 12, attributes := #[] }, { accessFlags := 18, nameIndex := 25, descriptorIndex := 26, attributes := #[] }, { accessFlags := 2, nameIndex := 63, descriptorIndex := 64, attributes := #[] }, { accessFlags := 2, nameIndex := 36, descriptorIndex := 12, attributes := #[] }, { accessFlags := 2, nameIndex := 29, descriptorIndex := 26, attributes := #[] }])
  fields := #[{ name := "text", type := (.object "java/lang/String"), accessFlags := 18, slot := 0, constantValue := 0 }, { name := "fin", type := .boolean, accessFlags := 18, slot := 1, constantValue := 0 }, { name := "position", type := .int, accessFlags := 2, slot := 2, constantValue := 0 }, { name := "opening", type := (.object "java/lang/String"), accessFlags := 2, slot := 3, constantValue := 0 }, { name := "bare", type := .boolean, accessFlags := 2, slot := 4, constantValue := 0 }]
  methods := #[k12m0, k12m1, k12m2, k12m3, k12m4]
  instanceTypes := #[(.object "java/lang/String"), .boolean, .int, (.object "java/lang/String"), .boolean]
  staticTypes := #[]
  resolved := Array.replicate 113 none
  statics := none }

def pool13 : Array CpInfo := pool [(9, u "<init>"), (6, .class_ 18), (1, u "java/lang/Object"), (0, u "()V"), (1, .class_ 23), (1, u "jdk/internal/util/ArraysSupport"), (0, u "LOG2_ARRAY_LONG_INDEX_SCALE"), (0, u "I"), (2, u "U"), (0, u "Ljdk/internal/misc/Unsafe;"), (8, u "BIG_ENDIAN"), (0, u "Z"), (8, u "LOG2_BYTE_BIT_SIZE"), (4, u "LOG2_ARRAY_INT_INDEX_SCALE"), (54, u "JLA"), (0, u "Ljdk/internal/access/JavaLangAccess;"), (11, u "LOG2_ARRAY_BOOLEAN_INDEX_SCALE"), (9, u "LOG2_ARRAY_BYTE_INDEX_SCALE"), (5, u "LOG2_ARRAY_CHAR_INDEX_SCALE"), (5, u "LOG2_ARRAY_SHORT_INDEX_SCALE"), (5, u "mismatch"), (12, u "LOG2_ARRAY_FLOAT_INDEX_SCALE"), (24, u "LOG2_ARRAY_DOUBLE_INDEX_SCALE"), (89, u "T_BOOLEAN"), (2, u "T_CHAR"), (1, u "T_FLOAT"), (1, u "T_DOUBLE"), (1, u "T_BYTE"), (1, u "T_SHORT"), (1, u "T_INT"), (1, u "T_LONG"), (1, u "SOFT_MAX_ARRAY_LENGTH"), (42, u "([BI[BII)I")] 40

def k13m0 : Method := { name := "<init>", desc := "()V", sig := { parameters := [], returnType := none }, accessFlags := 2, code := none }
def k13c1 : Code := { maxStack := 8, maxLocals := 8, code := jdk_48_method_14_code, exceptionTable := #[], attributes := #[] }
def k13m1 : Method := { name := "mismatch", desc := "([BI[BII)I", sig := { parameters := [(.array .byte), .int, (.array .byte), .int, .int], returnType := some .int }, accessFlags := 9, code := some k13c1 }
/-- jdk/internal/util/ArraysSupport -/
def k13 : Class := { plain "jdk/internal/util/ArraysSupport" (some 0) with
  accessFlags := 33
  interfaces := #[]
  cf := some (fileOf pool13 21 #[] #[{ accessFlags := 2, nameIndex := 9, descriptorIndex := 19, attributes := #[] }, { accessFlags := 9, nameIndex := 149, descriptorIndex := 337, attributes := #[] }] 33 16 #[] #[{ accessFlags := 24, nameIndex := 28, descriptorIndex := 29, attributes := #[] }, { accessFlags := 26, nameIndex := 38, descriptorIndex := 39, attributes := #[] }, { accessFlags := 25, nameIndex := 121, descriptorIndex := 25, attributes := #[] }, { accessFlags := 25, nameIndex := 131, descriptorIndex := 25, attributes := #[] }, { accessFlags := 25, nameIndex := 137, descriptorIndex := 25, attributes := #[] }, { accessFlags := 25, nameIndex := 143, descriptorIndex := 25, attributes := #[] }, { accessFlags := 25, nameIndex := 53, descriptorIndex := 25, attributes := #[] }, { accessFlags := 25, nameIndex := 24, descriptorIndex := 25, attributes := #[] }, { accessFlags := 25, nameIndex := 162, descriptorIndex := 25, attributes := #[] }, { accessFlags := 25, nameIndex := 187, descriptorIndex := 25, attributes := #[] }, { accessFlags := 26, nameIndex := 48, descriptorIndex := 25, attributes := #[] }, { accessFlags := 25, nameIndex := 277, descriptorIndex := 25, attributes := #[] }, { accessFlags := 25, nameIndex := 280, descriptorIndex := 25, attributes := #[] }, { accessFlags := 25, nameIndex := 282, descriptorIndex := 25, attributes := #[] }, { accessFlags := 25, nameIndex := 284, descriptorIndex := 25, attributes := #[] }, { accessFlags := 25, nameIndex := 286, descriptorIndex := 25, attributes := #[] }, { accessFlags := 25, nameIndex := 288, descriptorIndex := 25, attributes := #[] }, { accessFlags := 25, nameIndex := 290, descriptorIndex := 25, attributes := #[] }, { accessFlags := 25, nameIndex := 292, descriptorIndex := 25, attributes := #[] }, { accessFlags := 26, nameIndex := 108, descriptorIndex := 109, attributes := #[] }, { accessFlags := 25, nameIndex := 294, descriptorIndex := 25, attributes := #[] }])
  fields := #[{ name := "U", type := (.object "jdk/internal/misc/Unsafe"), accessFlags := 24, slot := 0, constantValue := 0 }, { name := "BIG_ENDIAN", type := .boolean, accessFlags := 26, slot := 1, constantValue := 0 }, { name := "LOG2_ARRAY_BOOLEAN_INDEX_SCALE", type := .int, accessFlags := 25, slot := 2, constantValue := 0 }, { name := "LOG2_ARRAY_BYTE_INDEX_SCALE", type := .int, accessFlags := 25, slot := 3, constantValue := 0 }, { name := "LOG2_ARRAY_CHAR_INDEX_SCALE", type := .int, accessFlags := 25, slot := 4, constantValue := 0 }, { name := "LOG2_ARRAY_SHORT_INDEX_SCALE", type := .int, accessFlags := 25, slot := 5, constantValue := 0 }, { name := "LOG2_ARRAY_INT_INDEX_SCALE", type := .int, accessFlags := 25, slot := 6, constantValue := 0 }, { name := "LOG2_ARRAY_LONG_INDEX_SCALE", type := .int, accessFlags := 25, slot := 7, constantValue := 0 }, { name := "LOG2_ARRAY_FLOAT_INDEX_SCALE", type := .int, accessFlags := 25, slot := 8, constantValue := 0 }, { name := "LOG2_ARRAY_DOUBLE_INDEX_SCALE", type := .int, accessFlags := 25, slot := 9, constantValue := 0 }, { name := "LOG2_BYTE_BIT_SIZE", type := .int, accessFlags := 26, slot := 10, constantValue := 0 }, { name := "T_BOOLEAN", type := .int, accessFlags := 25, slot := 11, constantValue := 0 }, { name := "T_CHAR", type := .int, accessFlags := 25, slot := 12, constantValue := 0 }, { name := "T_FLOAT", type := .int, accessFlags := 25, slot := 13, constantValue := 0 }, { name := "T_DOUBLE", type := .int, accessFlags := 25, slot := 14, constantValue := 0 }, { name := "T_BYTE", type := .int, accessFlags := 25, slot := 15, constantValue := 0 }, { name := "T_SHORT", type := .int, accessFlags := 25, slot := 16, constantValue := 0 }, { name := "T_INT", type := .int, accessFlags := 25, slot := 17, constantValue := 0 }, { name := "T_LONG", type := .int, accessFlags := 25, slot := 18, constantValue := 0 }, { name := "JLA", type := (.object "jdk/internal/access/JavaLangAccess"), accessFlags := 26, slot := 19, constantValue := 0 }, { name := "SOFT_MAX_ARRAY_LENGTH", type := .int, accessFlags := 25, slot := 20, constantValue := 0 }]
  methods := #[k13m0, k13m1]
  instanceTypes := #[]
  staticTypes := #[(.object "jdk/internal/misc/Unsafe"), .boolean, .int, .int, .int, .int, .int, .int, .int, .int, .int, .int, .int, .int, .int, .int, .int, .int, .int, (.object "jdk/internal/access/JavaLangAccess"), .int]
  resolved := Array.replicate 378 none
  statics := none }

def pool14 : Array CpInfo := pool [(1, .methodref 2 3), (0, .class_ 4), (0, .nameAndType 5 6), (0, u "java/lang/Object"), (0, u "<init>"), (0, u "()V"), (0, .class_ 8), (0, u "java/lang/Record")] 13

def k14c0 : Code := { maxStack := 1, maxLocals := 1, code := jdk_30_method_1_code, exceptionTable := #[], attributes := #[] }
def k14m0 : Method := { name := "<init>", desc := "()V", sig := { parameters := [], returnType := none }, accessFlags := 4, code := some k14c0 }
/-- java/lang/Record -/
def k14 : Class := { plain "java/lang/Record" (some 0) with
  accessFlags := 1057
  interfaces := #[]
  cf := some (fileOf pool14 7 #[] #[{ accessFlags := 4, nameIndex := 5, descriptorIndex := 6, attributes := #[] }] 1057 2 #[] #[])
  fields := #[]
  methods := #[k14m0]
  instanceTypes := #[]
  staticTypes := #[]
  resolved := Array.replicate 22 none
  statics := none }

def pool15 : Array CpInfo := pool [(1, .methodref 2 3), (0, .class_ 4), (0, .nameAndType 5 6), (0, u "java/lang/Record"), (0, u "<init>"), (0, u "()V"), (0, .class_ 8), (0, u "com/example/wireform/wireform/text/LineView"), (6, .fieldref 16 17), (0, .class_ 18), (0, .nameAndType 19 20), (0, u "com/example/wireform/wireform/text/Message"), (0, u "lines"), (0, u "Ljava/util/List;"), (0, .fieldref 16 22), (0, .nameAndType 23 24), (0, u "header"), (0, u "Lcom/example/wireform/wireform/text/FinHeader;"), (14, u "(Ljava/util/List;Lcom/example/wireform/wireform/text/FinHeader;)V")] 34

def k15c0 : Code := { maxStack := 2, maxLocals := 3, code := prog_57_method_1_code, exceptionTable := #[], attributes := #[] }
def k15m0 : Method := { name := "<init>", desc := "(Ljava/util/List;Lcom/example/wireform/wireform/text/FinHeader;)V", sig := { parameters := [(.object "java/util/List"), (.object "com/example/wireform/wireform/text/FinHeader")], returnType := none }, accessFlags := 1, code := some k15c0 }
/-- com/example/wireform/wireform/text/Message -/
def k15 : Class := { plain "com/example/wireform/wireform/text/Message" (some 14) with
  accessFlags := 49
  interfaces := #[]
  cf := some (fileOf pool15 16 #[] #[{ accessFlags := 1, nameIndex := 5, descriptorIndex := 39, attributes := #[] }] 49 2 #[] #[{ accessFlags := 18, nameIndex := 19, descriptorIndex := 20, attributes := #[] }, { accessFlags := 18, nameIndex := 23, descriptorIndex := 24, attributes := #[] }])
  fields := #[{ name := "lines", type := (.object "java/util/List"), accessFlags := 18, slot := 0, constantValue := 0 }, { name := "header", type := (.object "com/example/wireform/wireform/text/FinHeader"), accessFlags := 18, slot := 1, constantValue := 0 }]
  methods := #[k15m0]
  instanceTypes := #[(.object "java/util/List"), (.object "com/example/wireform/wireform/text/FinHeader")]
  staticTypes := #[]
  resolved := Array.replicate 74 none
  statics := none }

def pool16 : Array CpInfo := pool [(2, .class_ 4), (1, u "java/lang/Object"), (0, u "<init>"), (0, u "()V"), (0, .class_ 8), (0, u "java/lang/String"), (9, .string 19), (0, u "text"), (0, .methodref 21 22), (0, .class_ 23), (0, .nameAndType 24 25), (0, u "java/util/Objects"), (0, u "requireNonNull"), (0, u "(Ljava/lang/Object;Ljava/lang/String;)Ljava/lang/Object;"), (0, .methodref 7 27), (0, .nameAndType 28 29), (0, u "length"), (0, u "()I"), (0, .methodref 31 32), (0, .class_ 33), (0, .nameAndType 34 35), (0, u "com/example/wireform/wireform/text/Lines"), (0, u "split"), (0, u "(Ljava/lang/String;II)Ljava/util/List;"), (0, .methodref 31 37), (0, .nameAndType 38 39), (0, u "lineEnd"), (0, u "(Ljava/lang/String;I)I"), (0, .class_ 41), (0, u "com/example/wireform/wireform/text/LineView"), (0, .invokeDynamic 0 43), (0, .nameAndType 44 45), (0, u "apply"), (0, u "(Ljava/lang/String;[I)Ljava/util/function/IntFunction;"), (0, .methodref 40 47), (0, .nameAndType 5 48), (0, u "(ILjava/util/function/IntFunction;)V"), (0, .class_ 50), (0, u "com/example/wireform/wireform/text/Lines$Texts"), (3, .class_ 55), (0, u "com/example/wireform/wireform/text/Lines$DecodedTexts"), (7, .methodref 7 64), (0, .nameAndType 65 66), (0, u "indexOf"), (0, u "(II)I"), (0, .methodref 7 68), (0, .nameAndType 69 70), (0, u "charAt"), (0, u "(I)C"), (0, .methodref 7 72), (0, .nameAndType 73 74), (0, u "substring"), (0, u "(II)Ljava/lang/String;"), (2, u "lineText"), (0, u "(Ljava/lang/String;II)Ljava/lang/String;"), (4, u "(Ljava/lang/String;)Ljava/util/List;"), (14, u "lambda$split$0"), (0, u "(Ljava/lang/String;[II)Ljava/lang/String;"), (4, .methodType 105), (0, u "(I)Ljava/lang/Object;"), (0, .methodHandle 6 107), (0, .methodref 31 108), (0, .nameAndType 98 99), (0, .methodType 110), (0, u "(I)Ljava/lang/String;"), (0, .methodHandle 6 112), (0, .methodref 113 114), (0, .class_ 115), (0, .nameAndType 116 117), (0, u "java/lang/invoke/LambdaMetafactory"), (0, u "metafactory"), (0, u "(Ljava/lang/invoke/MethodHandles$Lookup;Ljava/lang/String;Ljava/lang/invoke/MethodType;Ljava/lang/invoke/MethodType;Ljava/lang/invoke/MethodHandle;Ljava/lang/invoke/MethodType;)Ljava/lang/invoke/CallSite;")] 8

def k16m0 : Method := { name := "<init>", desc := "()V", sig := { parameters := [], returnType := none }, accessFlags := 2, code := none }
def k16c1 : Code := { maxStack := 3, maxLocals := 1, code := prog_54_method_3_code, exceptionTable := #[], attributes := #[] }
def k16m1 : Method := { name := "split", desc := "(Ljava/lang/String;)Ljava/util/List;", sig := { parameters := [(.object "java/lang/String")], returnType := some (.object "java/util/List") }, accessFlags := 9, code := some k16c1 }
def k16c2 : Code := { maxStack := 5, maxLocals := 7, code := prog_54_method_4_code, exceptionTable := #[], attributes := #[] }
def k16m2 : Method := { name := "split", desc := "(Ljava/lang/String;II)Ljava/util/List;", sig := { parameters := [(.object "java/lang/String"), .int, .int], returnType := some (.object "java/util/List") }, accessFlags := 8, code := some k16c2 }
def k16c3 : Code := { maxStack := 3, maxLocals := 3, code := prog_54_method_8_code, exceptionTable := #[], attributes := #[] }
def k16m3 : Method := { name := "lineEnd", desc := "(Ljava/lang/String;I)I", sig := { parameters := [(.object "java/lang/String"), .int], returnType := some .int }, accessFlags := 8, code := some k16c3 }
def k16c4 : Code := { maxStack := 4, maxLocals := 4, code := prog_54_method_9_code, exceptionTable := #[], attributes := #[] }
def k16m4 : Method := { name := "lineText", desc := "(Ljava/lang/String;II)Ljava/lang/String;", sig := { parameters := [(.object "java/lang/String"), .int, .int], returnType := some (.object "java/lang/String") }, accessFlags := 8, code := some k16c4 }
def k16c5 : Code := { maxStack := 5, maxLocals := 3, code := ⟨#[0x2a, 0x2b, 0x1c, 0x2e, 0x2a, 0x2b, 0x1c, 0x2e, 0xb8, 0x00, 0x24, 0xb8, 0x00, 0x4b, 0xb0]⟩, exceptionTable := #[], attributes := #[] }
def k16m5 : Method := { name := "lambda$split$0", desc := "(Ljava/lang/String;[II)Ljava/lang/String;", sig := { parameters := [(.object "java/lang/String"), (.array .int), .int], returnType := some (.object "java/lang/String") }, accessFlags := 4106, code := some k16c5 }
/-- com/example/wireform/wireform/text/Lines -/
def k16 : Class := { plain "com/example/wireform/wireform/text/Lines" (some 0) with
  accessFlags := 49
  interfaces := #[]
  cf := some (fileOf pool16 31 #[.nestMembers #[54, 49], .bootstrapMethods #[⟨111, #[104, 106, 109]⟩]] #[{ accessFlags := 2, nameIndex := 5, descriptorIndex := 6, attributes := #[] }, { accessFlags := 9, nameIndex := 34, descriptorIndex := 83, attributes := #[] }, { accessFlags := 8, nameIndex := 34, descriptorIndex := 35, attributes := #[] }, { accessFlags := 8, nameIndex := 38, descriptorIndex := 39, attributes := #[] }, { accessFlags := 8, nameIndex := 77, descriptorIndex := 78, attributes := #[] }, { accessFlags := 4106, nameIndex := 98, descriptorIndex := 99, attributes := #[] }] 49 2 #[] #[])
  fields := #[]
  methods := #[k16m0, k16m1, k16m2, k16m3, k16m4, k16m5]
  instanceTypes := #[]
  staticTypes := #[]
  resolved := Array.replicate 126 none
  callSites := [(2, 75, .makes 38)]
  statics := none }

def pool17 : Array CpInfo := pool [(2, .class_ 4), (1, u "java/lang/Object"), (0, u "<init>"), (0, u "()V"), (35, .class_ 44), (1, u "java/util/Objects"), (0, u "requireNonNull"), (48, u "(Ljava/lang/Object;Ljava/lang/String;)Ljava/lang/Object;")] 89

def k17m0 : Method := { name := "<init>", desc := "()V", sig := { parameters := [], returnType := none }, accessFlags := 2, code := none }
def k17c1 : Code := { maxStack := 3, maxLocals := 2, code := jdk_31_method_11_code, exceptionTable := #[], attributes := #[] }
def k17m1 : Method := { name := "requireNonNull", desc := "(Ljava/lang/Object;Ljava/lang/String;)Ljava/lang/Object;", sig := { parameters := [(.object "java/lang/Object"), (.object "java/lang/String")], returnType := some (.object "java/lang/Object") }, accessFlags := 9, code := some k17c1 }
/-- java/util/Objects -/
def k17 : Class := { plain "java/util/Objects" (some 0) with
  accessFlags := 49
  interfaces := #[]
  cf := some (fileOf pool17 42 #[] #[{ accessFlags := 2, nameIndex := 5, descriptorIndex := 6, attributes := #[] }, { accessFlags := 9, nameIndex := 45, descriptorIndex := 94, attributes := #[] }] 49 2 #[] #[])
  fields := #[]
  methods := #[k17m0, k17m1]
  instanceTypes := #[]
  staticTypes := #[]
  resolved := Array.replicate 184 none
  statics := none }

def pool18 : Array CpInfo := pool [(1, .class_ 2), (0, u "java/lang/Math"), (1, .class_ 6), (1, u "java/lang/Object"), (0, u "<init>"), (0, u "()V"), (89, .class_ 100), (1, u "java/lang/Math$RandomNumberGeneratorHolder"), (71, u "negativeZeroFloatBits"), (0, u "J"), (2, u "negativeZeroDoubleBits"), (21, u "max"), (2, u "min"), (43, u "$assertionsDisabled"), (0, u "Z"), (88, u "(II)I"), (2, u "twoToTheDoubleScaleDown"), (0, u "D"), (4, u "twoToTheDoubleScaleUp"), (9, u "E"), (3, u "PI"), (2, u "TAU"), (2, u "DEGREES_TO_RADIANS"), (0, u "RADIANS_TO_DEGREES")] 94

def k18m0 : Method := { name := "<init>", desc := "()V", sig := { parameters := [], returnType := none }, accessFlags := 2, code := none }
def k18c1 : Code := { maxStack := 2, maxLocals := 2, code := jdk_29_method_65_code, exceptionTable := #[], attributes := #[] }
def k18m1 : Method := { name := "max", desc := "(II)I", sig := { parameters := [.int, .int], returnType := some .int }, accessFlags := 9, code := some k18c1 }
def k18c2 : Code := { maxStack := 2, maxLocals := 2, code := jdk_29_method_69_code, exceptionTable := #[], attributes := #[] }
def k18m2 : Method := { name := "min", desc := "(II)I", sig := { parameters := [.int, .int], returnType := some .int }, accessFlags := 9, code := some k18c2 }
/-- java/lang/Math -/
def k18 : Class := { plain "java/lang/Math" (some 0) with
  accessFlags := 49
  interfaces := #[]
  cf := some (fileOf pool18 1 #[.nestMembers #[98]] #[{ accessFlags := 2, nameIndex := 7, descriptorIndex := 8, attributes := #[] }, { accessFlags := 9, nameIndex := 198, descriptorIndex := 335, attributes := #[] }, { accessFlags := 9, nameIndex := 201, descriptorIndex := 335, attributes := #[] }] 49 4 #[] #[{ accessFlags := 25, nameIndex := 354, descriptorIndex := 339, attributes := #[] }, { accessFlags := 25, nameIndex := 358, descriptorIndex := 339, attributes := #[] }, { accessFlags := 25, nameIndex := 361, descriptorIndex := 339, attributes := #[] }, { accessFlags := 26, nameIndex := 364, descriptorIndex := 339, attributes := #[] }, { accessFlags := 26, nameIndex := 365, descriptorIndex := 339, attributes := #[] }, { accessFlags := 26, nameIndex := 172, descriptorIndex := 173, attributes := #[] }, { accessFlags := 26, nameIndex := 176, descriptorIndex := 173, attributes := #[] }, { accessFlags := 8, nameIndex := 344, descriptorIndex := 339, attributes := #[] }, { accessFlags := 8, nameIndex := 338, descriptorIndex := 339, attributes := #[] }, { accessFlags := 4120, nameIndex := 245, descriptorIndex := 246, attributes := #[] }])
  fields := #[{ name := "E", type := .double, accessFlags := 25, slot := 0, constantValue := 0 }, { name := "PI", type := .double, accessFlags := 25, slot := 1, constantValue := 0 }, { name := "TAU", type := .double, accessFlags := 25, slot := 2, constantValue := 0 }, { name := "DEGREES_TO_RADIANS", type := .double, accessFlags := 26, slot := 3, constantValue := 0 }, { name := "RADIANS_TO_DEGREES", type := .double, accessFlags := 26, slot := 4, constantValue := 0 }, { name := "negativeZeroFloatBits", type := .long, accessFlags := 26, slot := 5, constantValue := 0 }, { name := "negativeZeroDoubleBits", type := .long, accessFlags := 26, slot := 6, constantValue := 0 }, { name := "twoToTheDoubleScaleUp", type := .double, accessFlags := 8, slot := 7, constantValue := 0 }, { name := "twoToTheDoubleScaleDown", type := .double, accessFlags := 8, slot := 8, constantValue := 0 }, { name := "$assertionsDisabled", type := .boolean, accessFlags := 4120, slot := 9, constantValue := 0 }]
  methods := #[k18m0, k18m1, k18m2]
  instanceTypes := #[]
  staticTypes := #[.double, .double, .double, .double, .double, .long, .long, .double, .double, .boolean]
  resolved := Array.replicate 460 none
  statics := none }

def pool19 : Array CpInfo := pool [(8, .class_ 10), (1, u "java/lang/Iterable"), (24, .class_ 36), (0, u "java/lang/Object")] 25

/-- java/lang/Iterable -/
def k19 : Class := { plain "java/lang/Iterable" (some 0) with
  accessFlags := 1537
  interfaces := #[]
  cf := some (fileOf pool19 8 #[] #[] 1537 35 #[] #[])
  fields := #[]
  methods := #[]
  instanceTypes := #[]
  staticTypes := #[]
  resolved := Array.replicate 62 none
  statics := none }

def pool20 : Array CpInfo := pool [(10, .class_ 12), (1, u "java/util/Collection"), (47, .class_ 61), (0, u "java/lang/Object"), (0, .class_ 63), (0, u "java/lang/Iterable")] 51

/-- java/util/Collection -/
def k20 : Class := { plain "java/util/Collection" (some 0) with
  accessFlags := 1537
  interfaces := #[19]
  cf := some (fileOf pool20 10 #[] #[] 1537 60 #[62] #[])
  fields := #[]
  methods := #[]
  instanceTypes := #[]
  staticTypes := #[]
  resolved := Array.replicate 115 none
  statics := none }

def pool21 : Array CpInfo := pool [(1, .methodref 2 3), (0, .class_ 4), (0, .nameAndType 5 6), (0, u "java/lang/Object"), (0, u "<init>"), (0, u "()V"), (1, .class_ 10), (1, u "java/util/AbstractCollection"), (66, .class_ 78), (0, u "java/util/Collection")] 81

def k21c0 : Code := { maxStack := 1, maxLocals := 1, code := jdk_22_method_1_code, exceptionTable := #[], attributes := #[] }
def k21m0 : Method := { name := "<init>", desc := "()V", sig := { parameters := [], returnType := none }, accessFlags := 4, code := some k21c0 }
/-- java/util/AbstractCollection -/
def k21 : Class := { plain "java/util/AbstractCollection" (some 0) with
  accessFlags := 1057
  interfaces := #[20]
  cf := some (fileOf pool21 8 #[] #[{ accessFlags := 4, nameIndex := 5, descriptorIndex := 6, attributes := #[] }] 1057 2 #[77] #[])
  fields := #[]
  methods := #[k21m0]
  instanceTypes := #[]
  staticTypes := #[]
  resolved := Array.replicate 160 none
  statics := none }

def pool22 : Array CpInfo := pool [(8, .class_ 10), (1, u "java/util/SequencedCollection"), (15, .class_ 27), (0, u "java/lang/Object"), (0, .class_ 29), (0, u "java/util/Collection")] 27

/-- java/util/SequencedCollection -/
def k22 : Class := { plain "java/util/SequencedCollection" (some 0) with
  accessFlags := 1537
  interfaces := #[20]
  cf := some (fileOf pool22 8 #[] #[] 1537 26 #[28] #[])
  fields := #[]
  methods := #[]
  instanceTypes := #[]
  staticTypes := #[]
  resolved := Array.replicate 57 none
  statics := none }

def pool23 : Array CpInfo := pool [(8, .class_ 10), (1, u "java/util/List"), (92, .class_ 104), (0, u "java/lang/Object"), (15, .class_ 121), (0, u "java/util/SequencedCollection")] 129

/-- java/util/List -/
def k23 : Class := { plain "java/util/List" (some 0) with
  accessFlags := 1537
  interfaces := #[22]
  cf := some (fileOf pool23 8 #[] #[] 1537 103 #[120] #[])
  fields := #[]
  methods := #[]
  instanceTypes := #[]
  staticTypes := #[]
  resolved := Array.replicate 251 none
  statics := none }

def pool24 : Array CpInfo := pool [(1, .methodref 2 3), (0, .class_ 4), (0, .nameAndType 5 6), (0, u "java/util/AbstractCollection"), (0, u "<init>"), (0, u "()V"), (0, .fieldref 8 9), (0, .class_ 10), (0, .nameAndType 11 12), (0, u "java/util/AbstractList"), (0, u "modCount"), (0, u "I"), (64, .class_ 78), (0, u "java/util/AbstractList$Itr"), (3, .class_ 83), (0, u "java/util/AbstractList$ListItr"), (9, .class_ 94), (0, u "java/util/AbstractList$RandomAccessSubList"), (3, .class_ 99), (0, u "java/util/AbstractList$SubList"), (33, .class_ 134), (0, u "java/util/List"), (73, .class_ 209), (0, u "java/util/AbstractList$SubList$1"), (0, .class_ 211), (0, u "java/util/AbstractList$RandomAccessSpliterator")] 6

def k24c0 : Code := { maxStack := 2, maxLocals := 1, code := jdk_39_method_1_code, exceptionTable := #[], attributes := #[] }
def k24m0 : Method := { name := "<init>", desc := "()V", sig := { parameters := [], returnType := none }, accessFlags := 4, code := some k24c0 }
/-- java/util/AbstractList -/
def k24 : Class := { plain "java/util/AbstractList" (some 21) with
  accessFlags := 1057
  interfaces := #[23]
  cf := some (fileOf pool24 8 #[.nestMembers #[93, 98, 208, 210, 82, 77]] #[{ accessFlags := 4, nameIndex := 5, descriptorIndex := 6, attributes := #[] }] 1057 2 #[133] #[{ accessFlags := 132, nameIndex := 11, descriptorIndex := 12, attributes := #[] }])
  fields := #[{ name := "modCount", type := .int, accessFlags := 132, slot := 0, constantValue := 0 }]
  methods := #[k24m0]
  instanceTypes := #[.int]
  staticTypes := #[]
  resolved := Array.replicate 218 none
  statics := none }

def pool25 : Array CpInfo := pool [(1, .class_ 2), (0, u "java/util/RandomAccess"), (0, .class_ 4), (0, u "java/lang/Object")] 2

/-- java/util/RandomAccess -/
def k25 : Class := { plain "java/util/RandomAccess" (some 0) with
  accessFlags := 1537
  interfaces := #[]
  cf := some (fileOf pool25 1 #[] #[] 1537 3 #[] #[])
  fields := #[]
  methods := #[]
  instanceTypes := #[]
  staticTypes := #[]
  resolved := Array.replicate 7 none
  statics := none }

def pool26 : Array CpInfo := pool [(1, .methodref 2 3), (0, .class_ 4), (0, .nameAndType 5 6), (0, u "java/util/AbstractList"), (0, u "<init>"), (0, u "()V"), (9, .fieldref 17 18), (0, .class_ 19), (0, .nameAndType 20 21), (0, u "com/example/wireform/wireform/text/LineView"), (0, u "size"), (0, u "I"), (0, .string 23), (0, u "texts"), (0, .methodref 25 26), (0, .class_ 27), (0, .nameAndType 28 29), (0, u "java/util/Objects"), (0, u "requireNonNull"), (0, u "(Ljava/lang/Object;Ljava/lang/String;)Ljava/lang/Object;"), (0, .class_ 31), (0, u "java/util/function/IntFunction"), (0, .fieldref 17 33), (0, .nameAndType 23 34), (0, u "Ljava/util/function/IntFunction;"), (19, .class_ 55), (0, u "java/util/RandomAccess"), (2, u "(ILjava/util/function/IntFunction;)V")] 24

def k26c0 : Code := { maxStack := 3, maxLocals := 3, code := prog_53_method_1_code, exceptionTable := #[], attributes := #[] }
def k26m0 : Method := { name := "<init>", desc := "(ILjava/util/function/IntFunction;)V", sig := { parameters := [.int, (.object "java/util/function/IntFunction")], returnType := none }, accessFlags := 0, code := some k26c0 }
/-- com/example/wireform/wireform/text/LineView -/
def k26 : Class := { plain "com/example/wireform/wireform/text/LineView" (some 24) with
  accessFlags := 48
  interfaces := #[25]
  cf := some (fileOf pool26 17 #[] #[{ accessFlags := 0, nameIndex := 5, descriptorIndex := 58, attributes := #[] }] 48 2 #[54] #[{ accessFlags := 18, nameIndex := 20, descriptorIndex := 21, attributes := #[] }, { accessFlags := 18, nameIndex := 23, descriptorIndex := 34, attributes := #[] }])
  fields := #[{ name := "size", type := .int, accessFlags := 18, slot := 1, constantValue := 0 }, { name := "texts", type := (.object "java/util/function/IntFunction"), accessFlags := 18, slot := 2, constantValue := 0 }]
  methods := #[k26m0]
  instanceTypes := #[.int, .int, (.object "java/util/function/IntFunction")]
  staticTypes := #[]
  resolved := Array.replicate 83 none
  statics := none }

def pool27 : Array CpInfo := pool [(1, .class_ 2), (0, u "java/util/function/IntFunction"), (0, .class_ 4), (0, u "java/lang/Object"), (0, u "apply"), (0, u "(I)Ljava/lang/Object;")] 7

def k27m0 : Method := { name := "apply", desc := "(I)Ljava/lang/Object;", sig := { parameters := [.int], returnType := some (.object "java/lang/Object") }, accessFlags := 1025, code := none }
/-- java/util/function/IntFunction -/
def k27 : Class := { plain "java/util/function/IntFunction" (some 0) with
  accessFlags := 1537
  interfaces := #[]
  cf := some (fileOf pool27 1 #[] #[{ accessFlags := 1025, nameIndex := 5, descriptorIndex := 6, attributes := #[] }] 1537 3 #[] #[])
  fields := #[]
  methods := #[k27m0]
  instanceTypes := #[]
  staticTypes := #[]
  resolved := Array.replicate 14 none
  statics := none }

def pool28 : Array CpInfo := pool [(2, .class_ 4), (1, u "java/lang/Object"), (0, u "<init>"), (0, u "()V"), (7, .class_ 16), (1, u "java/util/Arrays"), (57, .class_ 76), (1, u "java/util/Arrays$NaturalOrder"), (36, .class_ 115), (1, u "java/util/Arrays$LegacyMergeSort"), (1, u "Z"), (21, u "copyOfRange"), (10, .methodref 151 152), (0, .class_ 153), (0, .nameAndType 154 155), (0, u "java/lang/System"), (0, u "arraycopy"), (0, u "(Ljava/lang/Object;ILjava/lang/Object;II)V"), (148, .methodref 305 306), (0, .class_ 307), (0, .nameAndType 308 309), (0, u "java/lang/Math"), (0, u "min"), (0, u "(II)I"), (29, .methodref 14 340), (0, .nameAndType 341 342), (0, u "copyOfRangeByte"), (0, u "([BII)[B"), (0, .methodref 14 344), (0, .nameAndType 345 346), (0, u "checkLength"), (0, u "(II)V"), (28, .class_ 376), (0, u "java/util/Arrays$ArrayList"), (68, u "$assertionsDisabled"), (269, u "MIN_ARRAY_SORT_GRAN"), (0, u "I"), (2, u "INSERTIONSORT_THRESHOLD"), (255, .class_ 976), (0, u "java/util/Arrays$ArrayItr")] 52

def k28m0 : Method := { name := "<init>", desc := "()V", sig := { parameters := [], returnType := none }, accessFlags := 2, code := none }
def k28c1 : Code := { maxStack := 4, maxLocals := 2, code := jdk_65_method_131_code, exceptionTable := #[], attributes := #[] }
def k28m1 : Method := { name := "checkLength", desc := "(II)V", sig := { parameters := [.int, .int], returnType := none }, accessFlags := 10, code := some k28c1 }
def k28c2 : Code := { maxStack := 3, maxLocals := 3, code := jdk_65_method_132_code, exceptionTable := #[], attributes := #[] }
def k28m2 : Method := { name := "copyOfRange", desc := "([BII)[B", sig := { parameters := [(.array .byte), .int, .int], returnType := some (.array .byte) }, accessFlags := 9, code := some k28c2 }
def k28c3 : Code := { maxStack := 6, maxLocals := 5, code := jdk_65_method_133_code, exceptionTable := #[], attributes := #[] }
def k28m3 : Method := { name := "copyOfRangeByte", desc := "([BII)[B", sig := { parameters := [(.array .byte), .int, .int], returnType := some (.array .byte) }, accessFlags := 10, code := some k28c3 }
/-- java/util/Arrays -/
def k28 : Class := { plain "java/util/Arrays" (some 0) with
  accessFlags := 49
  interfaces := #[]
  cf := some (fileOf pool28 14 #[.nestMembers #[975, 375, 113, 74]] #[{ accessFlags := 2, nameIndex := 5, descriptorIndex := 6, attributes := #[] }, { accessFlags := 10, nameIndex := 345, descriptorIndex := 346, attributes := #[] }, { accessFlags := 9, nameIndex := 139, descriptorIndex := 342, attributes := #[] }, { accessFlags := 10, nameIndex := 341, descriptorIndex := 342, attributes := #[] }] 49 2 #[] #[{ accessFlags := 26, nameIndex := 715, descriptorIndex := 716, attributes := #[] }, { accessFlags := 26, nameIndex := 719, descriptorIndex := 716, attributes := #[] }, { accessFlags := 4120, nameIndex := 445, descriptorIndex := 117, attributes := #[] }])
  fields := #[{ name := "MIN_ARRAY_SORT_GRAN", type := .int, accessFlags := 26, slot := 0, constantValue := 0 }, { name := "INSERTIONSORT_THRESHOLD", type := .int, accessFlags := 26, slot := 1, constantValue := 0 }, { name := "$assertionsDisabled", type := .boolean, accessFlags := 4120, slot := 2, constantValue := 0 }]
  methods := #[k28m0, k28m1, k28m2, k28m3]
  instanceTypes := #[]
  staticTypes := #[.int, .int, .boolean]
  resolved := Array.replicate 1029 none
  statics := none }

def pool29 : Array CpInfo := pool [(2, .class_ 4), (1, u "java/lang/Object"), (0, u "<init>"), (0, u "()V"), (1, .class_ 10), (1, u "java/lang/System"), (0, u "allowSecurityManager"), (0, u "I"), (16, u "cons"), (0, u "Ljava/io/Console;"), (77, .class_ 110), (1, u "java/lang/System$CallersHolder"), (43, u "initialErrStream"), (0, u "Ljava/io/PrintStream;"), (19, u "security"), (0, u "Ljava/lang/SecurityManager;"), (31, .class_ 209), (0, u "java/lang/System$1"), (7, u "props"), (0, u "Ljava/util/Properties;"), (2, u "lineSeparator"), (0, u "Ljava/lang/String;"), (96, .class_ 321), (1, u "java/lang/System$LoggerFinder"), (5, .class_ 328), (0, u "java/lang/System$Logger"), (67, u "err"), (2, u "out"), (91, u "notSupportedJnuEncoding"), (15, u "in"), (17, u "initialIn"), (0, u "Ljava/io/InputStream;"), (35, u "bootLayer"), (0, u "Ljava/lang/ModuleLayer;"), (99, .class_ 664), (0, u "java/lang/System$2"), (9, u "NEVER"), (2, u "MAYBE"), (49, u "arraycopy"), (0, u "(Ljava/lang/Object;ILjava/lang/Object;II)V"), (72, .class_ 802), (0, u "java/lang/System$Logger$Level")] 31

def k29m0 : Method := { name := "<init>", desc := "()V", sig := { parameters := [], returnType := none }, accessFlags := 2, code := none }
def k29m1 : Method := { name := "arraycopy", desc := "(Ljava/lang/Object;ILjava/lang/Object;II)V", sig := { parameters := [(.object "java/lang/Object"), .int, (.object "java/lang/Object"), .int, .int], returnType := none }, accessFlags := 265, code := none }
/-- java/lang/System -/
def k29 : Class := { plain "java/lang/System" (some 0) with
  accessFlags := 49
  interfaces := #[]
  cf := some (fileOf pool29 8 #[.nestMembers #[319, 327, 801, 108, 663, 208]] #[{ accessFlags := 2, nameIndex := 5, descriptorIndex := 6, attributes := #[] }, { accessFlags := 265, nameIndex := 727, descriptorIndex := 728, attributes := #[] }] 49 2 #[] #[{ accessFlags := 25, nameIndex := 507, descriptorIndex := 526, attributes := #[] }, { accessFlags := 25, nameIndex := 399, descriptorIndex := 155, attributes := #[] }, { accessFlags := 25, nameIndex := 396, descriptorIndex := 155, attributes := #[] }, { accessFlags := 10, nameIndex := 525, descriptorIndex := 526, attributes := #[] }, { accessFlags := 26, nameIndex := 674, descriptorIndex := 12, attributes := #[] }, { accessFlags := 26, nameIndex := 677, descriptorIndex := 12, attributes := #[] }, { accessFlags := 10, nameIndex := 11, descriptorIndex := 12, attributes := #[] }, { accessFlags := 74, nameIndex := 175, descriptorIndex := 176, attributes := #[] }, { accessFlags := 10, nameIndex := 491, descriptorIndex := 222, attributes := #[] }, { accessFlags := 74, nameIndex := 29, descriptorIndex := 30, attributes := #[] }, { accessFlags := 74, nameIndex := 154, descriptorIndex := 155, attributes := #[] }, { accessFlags := 10, nameIndex := 217, descriptorIndex := 218, attributes := #[] }, { accessFlags := 10, nameIndex := 221, descriptorIndex := 222, attributes := #[] }, { accessFlags := 8, nameIndex := 562, descriptorIndex := 563, attributes := #[] }])
  fields := #[{ name := "in", type := (.object "java/io/InputStream"), accessFlags := 25, slot := 0, constantValue := 0 }, { name := "out", type := (.object "java/io/PrintStream"), accessFlags := 25, slot := 1, constantValue := 0 }, { name := "err", type := (.object "java/io/PrintStream"), accessFlags := 25, slot := 2, constantValue := 0 }, { name := "initialIn", type := (.object "java/io/InputStream"), accessFlags := 10, slot := 3, constantValue := 0 }, { name := "NEVER", type := .int, accessFlags := 26, slot := 4, constantValue := 0 }, { name := "MAYBE", type := .int, accessFlags := 26, slot := 5, constantValue := 0 }, { name := "allowSecurityManager", type := .int, accessFlags := 10, slot := 6, constantValue := 0 }, { name := "security", type := (.object "java/lang/SecurityManager"), accessFlags := 74, slot := 7, constantValue := 0 }, { name := "notSupportedJnuEncoding", type := (.object "java/lang/String"), accessFlags := 10, slot := 8, constantValue := 0 }, { name := "cons", type := (.object "java/io/Console"), accessFlags := 74, slot := 9, constantValue := 0 }, { name := "initialErrStream", type := (.object "java/io/PrintStream"), accessFlags := 74, slot := 10, constantValue := 0 }, { name := "props", type := (.object "java/util/Properties"), accessFlags := 10, slot := 11, constantValue := 0 }, { name := "lineSeparator", type := (.object "java/lang/String"), accessFlags := 10, slot := 12, constantValue := 0 }, { name := "bootLayer", type := (.object "java/lang/ModuleLayer"), accessFlags := 8, slot := 13, constantValue := 0 }]
  methods := #[k29m0, k29m1]
  instanceTypes := #[]
  staticTypes := #[(.object "java/io/InputStream"), (.object "java/io/PrintStream"), (.object "java/io/PrintStream"), (.object "java/io/InputStream"), .int, .int, .int, (.object "java/lang/SecurityManager"), (.object "java/lang/String"), (.object "java/io/Console"), (.object "java/io/PrintStream"), (.object "java/util/Properties"), (.object "java/lang/String"), (.object "java/lang/ModuleLayer")]
  resolved := Array.replicate 834 none
  statics := none }

def pool30 : Array CpInfo := pool [(2, .class_ 4), (1, u "java/lang/Record"), (3, .class_ 10), (1, u "com/example/wireform/wireform/text/FinHeader$Form"), (3, u "terminal"), (1, .class_ 18), (1, u "com/example/wireform/wireform/text/FinHeader"), (6, u "session"), (4, u "sequence"), (4, u "messageType"), (1, u "receiver"), (4, u "priority"), (2, u "Ljava/lang/String;"), (10, .string 57), (0, u "{1:F01"), (0, .methodref 59 60), (0, .class_ 61), (0, .nameAndType 62 63), (0, u "java/lang/String"), (0, u "startsWith"), (0, u "(Ljava/lang/String;)Z"), (2, u "TERMINAL_AT"), (0, u "I"), (3, u "(Ljava/lang/String;I)Z"), (2, u "SESSION_AT"), (2, u "SEQUENCE_AT"), (4, u "BLOCK_2_AT"), (0, .methodref 59 84), (0, .nameAndType 62 71), (2, u "MESSAGE_TYPE_AT"), (2, u "RECEIVER_AT"), (2, u "PRIORITY_AT"), (2, u "DELIVERY_MONITORING_AT"), (5, u "length"), (5, .methodref 59 109), (0, .nameAndType 102 110), (0, u "()I"), (8, .methodref 59 120), (0, .nameAndType 121 122), (0, u "substring"), (0, u "(II)Ljava/lang/String;"), (40, u "BLOCK_1"), (1, u "BLOCK_2"), (0, u "BLOCK_END"), (0, u "BLOCK_3"), (0, u "BLOCK_4"), (3, u "read"), (0, u "(Ljava/lang/String;)Lcom/example/wireform/wireform/text/FinHeader;")] 42

def k30c0 : Code := { maxStack := 10, maxLocals := 2, code := prog_50_method_2_code, exceptionTable := #[], attributes := #[] }
def k30m0 : Method := { name := "read", desc := "(Ljava/lang/String;)Lcom/example/wireform/wireform/text/FinHeader;", sig := { parameters := [(.object "java/lang/String")], returnType := some (.object "com/example/wireform/wireform/text/FinHeader") }, accessFlags := 8, code := some k30c0 }
/-- com/example/wireform/wireform/text/FinHeader -/
def k30 : Class := { plain "com/example/wireform/wireform/text/FinHeader" (some 14) with
  accessFlags := 49
  interfaces := #[]
  cf := some (fileOf pool30 16 #[.nestMembers #[8]] #[{ accessFlags := 8, nameIndex := 172, descriptorIndex := 173, attributes := #[] }] 49 2 #[] #[{ accessFlags := 18, nameIndex := 14, descriptorIndex := 45, attributes := #[] }, { accessFlags := 18, nameIndex := 25, descriptorIndex := 45, attributes := #[] }, { accessFlags := 18, nameIndex := 30, descriptorIndex := 45, attributes := #[] }, { accessFlags := 18, nameIndex := 35, descriptorIndex := 45, attributes := #[] }, { accessFlags := 18, nameIndex := 37, descriptorIndex := 45, attributes := #[] }, { accessFlags := 18, nameIndex := 42, descriptorIndex := 45, attributes := #[] }, { accessFlags := 26, nameIndex := 163, descriptorIndex := 45, attributes := #[] }, { accessFlags := 26, nameIndex := 165, descriptorIndex := 45, attributes := #[] }, { accessFlags := 26, nameIndex := 166, descriptorIndex := 45, attributes := #[] }, { accessFlags := 26, nameIndex := 167, descriptorIndex := 45, attributes := #[] }, { accessFlags := 26, nameIndex := 168, descriptorIndex := 45, attributes := #[] }, { accessFlags := 26, nameIndex := 66, descriptorIndex := 67, attributes := #[] }, { accessFlags := 26, nameIndex := 74, descriptorIndex := 67, attributes := #[] }, { accessFlags := 26, nameIndex := 77, descriptorIndex := 67, attributes := #[] }, { accessFlags := 26, nameIndex := 82, descriptorIndex := 67, attributes := #[] }, { accessFlags := 26, nameIndex := 87, descriptorIndex := 67, attributes := #[] }, { accessFlags := 26, nameIndex := 90, descriptorIndex := 67, attributes := #[] }, { accessFlags := 26, nameIndex := 93, descriptorIndex := 67, attributes := #[] }, { accessFlags := 26, nameIndex := 96, descriptorIndex := 67, attributes := #[] }])
  fields := #[{ name := "terminal", type := (.object "java/lang/String"), accessFlags := 18, slot := 0, constantValue := 0 }, { name := "session", type := (.object "java/lang/String"), accessFlags := 18, slot := 1, constantValue := 0 }, { name := "sequence", type := (.object "java/lang/String"), accessFlags := 18, slot := 2, constantValue := 0 }, { name := "messageType", type := (.object "java/lang/String"), accessFlags := 18, slot := 3, constantValue := 0 }, { name := "receiver", type := (.object "java/lang/String"), accessFlags := 18, slot := 4, constantValue := 0 }, { name := "priority", type := (.object "java/lang/String"), accessFlags := 18, slot := 5, constantValue := 0 }, { name := "BLOCK_1", type := (.object "java/lang/String"), accessFlags := 26, slot := 0, constantValue := 0 }, { name := "BLOCK_2", type := (.object "java/lang/String"), accessFlags := 26, slot := 1, constantValue := 0 }, { name := "BLOCK_END", type := (.object "java/lang/String"), accessFlags := 26, slot := 2, constantValue := 0 }, { name := "BLOCK_3", type := (.object "java/lang/String"), accessFlags := 26, slot := 3, constantValue := 0 }, { name := "BLOCK_4", type := (.object "java/lang/String"), accessFlags := 26, slot := 4, constantValue := 0 }, { name := "TERMINAL_AT", type := .int, accessFlags := 26, slot := 5, constantValue := 0 }, { name := "SESSION_AT", type := .int, accessFlags := 26, slot := 6, constantValue := 0 }, { name := "SEQUENCE_AT", type := .int, accessFlags := 26, slot := 7, constantValue := 0 }, { name := "BLOCK_2_AT", type := .int, accessFlags := 26, slot := 8, constantValue := 0 }, { name := "MESSAGE_TYPE_AT", type := .int, accessFlags := 26, slot := 9, constantValue := 0 }, { name := "RECEIVER_AT", type := .int, accessFlags := 26, slot := 10, constantValue := 0 }, { name := "PRIORITY_AT", type := .int, accessFlags := 26, slot := 11, constantValue := 0 }, { name := "DELIVERY_MONITORING_AT", type := .int, accessFlags := 26, slot := 12, constantValue := 0 }]
  methods := #[k30m0]
  instanceTypes := #[(.object "java/lang/String"), (.object "java/lang/String"), (.object "java/lang/String"), (.object "java/lang/String"), (.object "java/lang/String"), (.object "java/lang/String")]
  staticTypes := #[(.object "java/lang/String"), (.object "java/lang/String"), (.object "java/lang/String"), (.object "java/lang/String"), (.object "java/lang/String"), .int, .int, .int, .int, .int, .int, .int, .int]
  resolved := Array.replicate 216 none
  statics := none }

def pool31 : Array CpInfo := pool [(1, u "java/lang/Cloneable"), (0, .class_ 1), (0, u "java/lang/Object"), (0, .class_ 3)] 3

/-- java/lang/Cloneable -/
def k31 : Class := { plain "java/lang/Cloneable" (some 0) with
  accessFlags := 1537
  interfaces := #[]
  cf := some (fileOf pool31 2 #[] #[] 1537 4 #[] #[])
  fields := #[]
  methods := #[]
  instanceTypes := #[]
  staticTypes := #[]
  resolved := Array.replicate 8 none
  statics := none }

/-- the primitive byte -/
def k32 : Class := { plain "byte" none with kind := .primitive 'B', accessFlags := 0x411 }
/-- [B -/
def k33 : Class := { plain "[B" (some 0) with kind := .array 32 .byte, interfaces := #[31, 2], accessFlags := 1041 }

/-- the primitive char -/
def k34 : Class := { plain "char" none with kind := .primitive 'C', accessFlags := 0x411 }
/-- [C -/
def k35 : Class := { plain "[C" (some 0) with kind := .array 34 .char, interfaces := #[31, 2], accessFlags := 1041 }

/-- the primitive int -/
def k36 : Class := { plain "int" none with kind := .primitive 'I', accessFlags := 0x411 }
/-- [I -/
def k37 : Class := { plain "[I" (some 0) with kind := .array 36 .int, interfaces := #[31, 2], accessFlags := 1041 }

def classes0 : Array Class := #[k0, k1, k2, k3, k4, k5, k6, k7, k8, k9, k10, k11, k12, k13, k14, k15, k16, k17, k18, k19, k20, k21, k22, k23, k24, k25, k26, k27, k28, k29, k30, k31, k32, k33, k34, k35, k36, k37]
/-- the class that the rule has made for the site at 75 of com/example/wireform/wireform/text/Lines.split -/
def k38 : Class := Jvm.LamKit.madeRec { classes := classes0 } "com/example/wireform/wireform/text/Lines" (Jvm.Lambda.Shape.mk "java/util/function/IntFunction" "apply" (Jvm.ClassFile.MethodDescriptor.mk ([Jvm.ClassFile.FieldType.int] : List Jvm.ClassFile.FieldType) (Option.some (Jvm.ClassFile.FieldType.object "java/lang/Object"))) ([(Jvm.ClassFile.FieldType.object "java/lang/String"), (Jvm.ClassFile.FieldType.array Jvm.ClassFile.FieldType.int)] : List Jvm.ClassFile.FieldType) (6 : Nat) "com/example/wireform/wireform/text/Lines" "lambda$split$0" (Jvm.ClassFile.MethodDescriptor.mk ([(Jvm.ClassFile.FieldType.object "java/lang/String"), (Jvm.ClassFile.FieldType.array Jvm.ClassFile.FieldType.int), Jvm.ClassFile.FieldType.int] : List Jvm.ClassFile.FieldType) (Option.some (Jvm.ClassFile.FieldType.object "java/lang/String"))) false (Jvm.ClassFile.MethodDescriptor.mk ([Jvm.ClassFile.FieldType.int] : List Jvm.ClassFile.FieldType) (Option.some (Jvm.ClassFile.FieldType.object "java/lang/String")))) 38

def heap : Heap := #[{ cls := 7, slots := #[.long 0, .int 1, .null, .int 0, .null, .int 0, .int 0], vm := .statics 7 },
  { cls := 9, slots := #[.null, .null, .null], vm := .statics 9 }]
def classes : Array Class := #[k0, k1, k2, k3, k4, k5, k6, k7, k8, k9, k10, k11, k12, k13, k14, k15, k16, k17, k18, k19, k20, k21, k22, k23, k24, k25, k26, k27, k28, k29, k30, k31, k32, k33, k34, k35, k36, k37, k38]
def interned : List (Array UInt16 × Addr) := []
def slotsUsed : Nat := 10
def theMethod : MethodId := ⟨1, 2⟩
def args0 : Array Value := #[.int 1, .int 0, .int 65, .int 83, .int 65]
def aboutOver (below : List Frame) : State where
  vm := { classes := classes, interned := interned.toArray }
  heap := heap
  slotsUsed := slotsUsed
  threads := #[{ frames := .invoking theMethod args0 :: below }]
def below0 : List Frame := [.native { method := ⟨0, 0⟩, args := #[] }]
def about1 : State := aboutOver below0
def p0 : Program := .bare "" "" ""
def e0 : Env := launch0.env 0 0 0
theorem w_frames : about1.frames = Frame.invoking theMethod args0 :: below0 := rfl
set_option maxRecDepth 65536 in
theorem w_args : argsFit about1.vm theMethod args0 = true := by decide +kernel
set_option maxRecDepth 65536 in
theorem w_heap : heapFits about1 = true := by decide +kernel
set_option maxRecDepth 65536 in
theorem w_runnable : about1.curStatus? = some .runnable := by decide +kernel
set_option maxRecDepth 65536 in
theorem w_alone : about1.alone = true := by decide +kernel
set_option maxRecDepth 65536 in
theorem w_named : about1.methodNamed? x = some theMethod := by decide +kernel
set_option maxRecDepth 65536 in
theorem w_hears : about1.hears theMethod below0 = true := by decide +kernel
set_option maxRecDepth 65536 in
theorem w_ripe : about1.ripe theMethod args0 below0 = true := by decide +kernel
theorem w_running : about1.status = .running := rfl
set_option maxRecDepth 65536 in
theorem w_room : about1.hasRoom e0.platform room_1 = true :=
  launch0.hasRoom_least _ room_1 (by decide +kernel) (by decide +kernel) (by decide +kernel) (by decide +kernel) (by decide +kernel) (by decide +kernel)
theorem allAtoms_all (ts : List Jvm.Cond) (a : Array Jvm.Value) (st : Jvm.State) : (allAtoms ts).before a st = ts.all (fun c => c.before a st) := by
  induction ts with
  | nil => rfl
  | cons c t ih =>
    show (Jvm.Cond.and c (allAtoms t)).before a st = _
    rw [Jvm.Cond.before_and, ih, List.all_cons]
def words1 : List Jvm.Cond := Jvm.Cond.code x code maxLocals ret :: tables_1
/-- a 'code' word, met by the world's own term for the bytes: nothing is compared byte by byte -/
theorem code_word {y : MethodName} {bytes : ByteArray} {mx : Nat} {rt : Option FieldType} {a : Array Value} {s : State} {m : MethodId} {meth : Method} {c : Code} (h1 : s.methodNamed? y = some m) (h2 : s.vm.method? m = some meth) (h3 : meth.code = some c) (h4 : c.code = bytes)
    (h5 : (c.maxLocals == mx && c.exceptionTable.isEmpty && decide (c.maxStack ≤ mostOperands) && decide (meth.sig.returnType = rt) && !meth.locks && decide (parseMethodDescriptor y.desc = some meth.sig)) = true) : (Jvm.Cond.code y bytes mx rt).before a s = true := by
  simp only [Bool.and_eq_true, beq_iff_eq, Bool.not_eq_true', decide_eq_true_eq] at h5
  obtain ⟨⟨⟨⟨⟨g1, g2⟩, g3⟩, g4⟩, g5⟩, g6⟩ := h5
  simp [Cond.before, Cond.holds, Cond.value, h1, h2, h3, h4, g1, g2, g3, g4, g5, g6]
def isCode : Jvm.Cond → Bool
  | .code _ _ _ _ => true
  | _ => false
theorem all_split {L : List Jvm.Cond} {P : Jvm.Cond → Bool} (h1 : L.all (fun c => isCode c || P c) = true) (h2 : ∀ c ∈ L.filter isCode, P c = true) : L.all P = true := by
  refine List.all_eq_true.mpr fun c hc => ?_
  have h := List.all_eq_true.mp h1 c hc
  rcases Bool.eq_false_or_eq_true (isCode c) with hi | hi
  · exact h2 c (List.mem_filter.mpr ⟨hc, hi⟩)
  · simpa [hi] using h
set_option maxRecDepth 65536 in
theorem w_c0 : (Jvm.Cond.code x code maxLocals ret).before args0 about1 = true := code_word (m := ⟨1, 2⟩) (meth := k1m2) (c := k1c2) (by decide +kernel) rfl rfl rfl (by decide +kernel)
set_option maxRecDepth 65536 in
theorem w_c1 : (Jvm.Cond.code ({ cls := "java/lang/String", name := "charAt", desc := "(I)C" } : Jvm.MethodName) jdk_42_method_56_code (2 : Nat) (Option.some Jvm.ClassFile.FieldType.char)).before args0 about1 = true := code_word (m := ⟨7, 4⟩) (meth := k7m4) (c := k7c4) (by decide +kernel) rfl rfl rfl (by decide +kernel)
set_option maxRecDepth 65536 in
theorem w_c2 : (Jvm.Cond.code ({ cls := "java/lang/String", name := "isLatin1", desc := "()Z" } : Jvm.MethodName) jdk_42_method_154_code (1 : Nat) (Option.some Jvm.ClassFile.FieldType.boolean)).before args0 about1 = true := code_word (m := ⟨7, 13⟩) (meth := k7m13) (c := k7c13) (by decide +kernel) rfl rfl rfl (by decide +kernel)
set_option maxRecDepth 65536 in
theorem w_c3 : (Jvm.Cond.code ({ cls := "java/lang/StringLatin1", name := "charAt", desc := "([BI)C" } : Jvm.MethodName) jdk_43_method_2_code (2 : Nat) (Option.some Jvm.ClassFile.FieldType.char)).before args0 about1 = true := code_word (m := ⟨8, 1⟩) (meth := k8m1) (c := k8c1) (by decide +kernel) rfl rfl rfl (by decide +kernel)
set_option maxRecDepth 65536 in
theorem w_c4 : (Jvm.Cond.code ({ cls := "java/lang/String", name := "checkIndex", desc := "(II)V" } : Jvm.MethodName) jdk_42_method_155_code (2 : Nat) (Option.none : Option Jvm.ClassFile.FieldType)).before args0 about1 = true := code_word (m := ⟨7, 14⟩) (meth := k7m14) (c := k7c14) (by decide +kernel) rfl rfl rfl (by decide +kernel)
set_option maxRecDepth 65536 in
theorem w_c5 : (Jvm.Cond.code ({ cls := "jdk/internal/util/Preconditions", name := "checkIndex", desc := "(IILjava/util/function/BiFunction;)I" } : Jvm.MethodName) jdk_41_method_11_code (3 : Nat) (Option.some Jvm.ClassFile.FieldType.int)).before args0 about1 = true := code_word (m := ⟨9, 1⟩) (meth := k9m1) (c := k9c1) (by decide +kernel) rfl rfl rfl (by decide +kernel)
set_option maxRecDepth 65536 in
theorem w_c6 : (Jvm.Cond.code ({ cls := "java/lang/String", name := "<init>", desc := "([C)V" } : Jvm.MethodName) jdk_42_method_3_code (2 : Nat) (Option.none : Option Jvm.ClassFile.FieldType)).before args0 about1 = true := code_word (m := ⟨7, 1⟩) (meth := k7m1) (c := k7c1) (by decide +kernel) rfl rfl rfl (by decide +kernel)
set_option maxRecDepth 65536 in
theorem w_c7 : (Jvm.Cond.code ({ cls := "java/lang/String", name := "<init>", desc := "([CIILjava/lang/Void;)V" } : Jvm.MethodName) jdk_42_method_149_code (6 : Nat) (Option.none : Option Jvm.ClassFile.FieldType)).before args0 about1 = true := code_word (m := ⟨7, 10⟩) (meth := k7m10) (c := k7c10) (by decide +kernel) rfl rfl rfl (by decide +kernel)
set_option maxRecDepth 65536 in
theorem w_c8 : (Jvm.Cond.code ({ cls := "java/lang/Object", name := "<init>", desc := "()V" } : Jvm.MethodName) object_method_1_code (1 : Nat) (Option.none : Option Jvm.ClassFile.FieldType)).before args0 about1 = true := code_word (m := ⟨0, 0⟩) (meth := k0m0) (c := k0c0) (by decide +kernel) rfl rfl rfl (by decide +kernel)
set_option maxRecDepth 65536 in
theorem w_c9 : (Jvm.Cond.code ({ cls := "java/lang/StringUTF16", name := "compress", desc := "([CII)[B" } : Jvm.MethodName) jdk_52_method_16_code (6 : Nat) (Option.some (Jvm.ClassFile.FieldType.array Jvm.ClassFile.FieldType.byte))).before args0 about1 = true := code_word (m := ⟨10, 2⟩) (meth := k10m2) (c := k10c2) (by decide +kernel) rfl rfl rfl (by decide +kernel)
set_option maxRecDepth 65536 in
theorem w_c10 : (Jvm.Cond.code ({ cls := "java/lang/StringUTF16", name := "compress", desc := "([CI[BII)I" } : Jvm.MethodName) jdk_52_method_21_code (7 : Nat) (Option.some Jvm.ClassFile.FieldType.int)).before args0 about1 = true := code_word (m := ⟨10, 3⟩) (meth := k10m3) (c := k10c3) (by decide +kernel) rfl rfl rfl (by decide +kernel)
set_option maxRecDepth 65536 in
theorem w_c11 : (Jvm.Cond.code ({ cls := "java/lang/StringUTF16", name := "coderFromArrayLen", desc := "([BI)B" } : Jvm.MethodName) jdk_52_method_15_code (2 : Nat) (Option.some Jvm.ClassFile.FieldType.byte)).before args0 about1 = true := code_word (m := ⟨10, 1⟩) (meth := k10m1) (c := k10c1) (by decide +kernel) rfl rfl rfl (by decide +kernel)
set_option maxRecDepth 65536 in
theorem w_c12 : (Jvm.Cond.code ({ cls := "com/example/wireform/wireform/text/MessageReader", name := "<init>", desc := "(Ljava/lang/String;)V" } : Jvm.MethodName) prog_58_method_1_code (2 : Nat) (Option.none : Option Jvm.ClassFile.FieldType)).before args0 about1 = true := code_word (m := ⟨12, 0⟩) (meth := k12m0) (c := k12c0) (by decide +kernel) rfl rfl rfl (by decide +kernel)
set_option maxRecDepth 65536 in
theorem w_c13 : (Jvm.Cond.code ({ cls := "java/lang/String", name := "startsWith", desc := "(Ljava/lang/String;)Z" } : Jvm.MethodName) jdk_42_method_76_code (2 : Nat) (Option.some Jvm.ClassFile.FieldType.boolean)).before args0 about1 = true := code_word (m := ⟨7, 7⟩) (meth := k7m7) (c := k7c7) (by decide +kernel) rfl rfl rfl (by decide +kernel)
set_option maxRecDepth 65536 in
theorem w_c14 : (Jvm.Cond.code ({ cls := "java/lang/String", name := "startsWith", desc := "(Ljava/lang/String;I)Z" } : Jvm.MethodName) jdk_42_method_75_code (8 : Nat) (Option.some Jvm.ClassFile.FieldType.boolean)).before args0 about1 = true := code_word (m := ⟨7, 6⟩) (meth := k7m6) (c := k7c6) (by decide +kernel) rfl rfl rfl (by decide +kernel)
set_option maxRecDepth 65536 in
theorem w_c15 : (Jvm.Cond.code ({ cls := "java/lang/String", name := "length", desc := "()I" } : Jvm.MethodName) jdk_42_method_54_code (1 : Nat) (Option.some Jvm.ClassFile.FieldType.int)).before args0 about1 = true := code_word (m := ⟨7, 2⟩) (meth := k7m2) (c := k7c2) (by decide +kernel) rfl rfl rfl (by decide +kernel)
set_option maxRecDepth 65536 in
theorem w_c16 : (Jvm.Cond.code ({ cls := "java/lang/String", name := "coder", desc := "()B" } : Jvm.MethodName) jdk_42_method_152_code (1 : Nat) (Option.some Jvm.ClassFile.FieldType.byte)).before args0 about1 = true := code_word (m := ⟨7, 12⟩) (meth := k7m12) (c := k7c12) (by decide +kernel) rfl rfl rfl (by decide +kernel)
set_option maxRecDepth 65536 in
theorem w_c17 : (Jvm.Cond.code ({ cls := "jdk/internal/util/ArraysSupport", name := "mismatch", desc := "([BI[BII)I" } : Jvm.MethodName) jdk_48_method_14_code (8 : Nat) (Option.some Jvm.ClassFile.FieldType.int)).before args0 about1 = true := code_word (m := ⟨13, 1⟩) (meth := k13m1) (c := k13c1) (by decide +kernel) rfl rfl rfl (by decide +kernel)
set_option maxRecDepth 65536 in
theorem w_c18 : (Jvm.Cond.code ({ cls := "com/example/wireform/wireform/text/MessageReader", name := "hasNext", desc := "()Z" } : Jvm.MethodName) prog_58_method_2_code (1 : Nat) (Option.some Jvm.ClassFile.FieldType.boolean)).before args0 about1 = true := code_word (m := ⟨12, 1⟩) (meth := k12m1) (c := k12c1) (by decide +kernel) rfl rfl rfl (by decide +kernel)
set_option maxRecDepth 65536 in
theorem w_c19 : (Jvm.Cond.code ({ cls := "com/example/wireform/wireform/text/MessageReader", name := "next", desc := "()Lcom/example/wireform/wireform/text/Message;" } : Jvm.MethodName) prog_58_method_3_code (6 : Nat) (Option.some (Jvm.ClassFile.FieldType.object "com/example/wireform/wireform/text/Message"))).before args0 about1 = true := code_word (m := ⟨12, 2⟩) (meth := k12m2) (c := k12c2) (by decide +kernel) rfl rfl rfl (by decide +kernel)
set_option maxRecDepth 65536 in
theorem w_c20 : (Jvm.Cond.code ({ cls := "com/example/wireform/wireform/text/Lines", name := "split", desc := "(Ljava/lang/String;)Ljava/util/List;" } : Jvm.MethodName) prog_54_method_3_code (1 : Nat) (Option.some (Jvm.ClassFile.FieldType.object "java/util/List"))).before args0 about1 = true := code_word (m := ⟨16, 1⟩) (meth := k16m1) (c := k16c1) (by decide +kernel) rfl rfl rfl (by decide +kernel)
set_option maxRecDepth 65536 in
theorem w_c21 : (Jvm.Cond.code ({ cls := "java/util/Objects", name := "requireNonNull", desc := "(Ljava/lang/Object;Ljava/lang/String;)Ljava/lang/Object;" } : Jvm.MethodName) jdk_31_method_11_code (2 : Nat) (Option.some (Jvm.ClassFile.FieldType.object "java/lang/Object"))).before args0 about1 = true := code_word (m := ⟨17, 1⟩) (meth := k17m1) (c := k17c1) (by decide +kernel) rfl rfl rfl (by decide +kernel)
set_option maxRecDepth 65536 in
theorem w_c22 : (Jvm.Cond.code ({ cls := "com/example/wireform/wireform/text/Lines", name := "split", desc := "(Ljava/lang/String;II)Ljava/util/List;" } : Jvm.MethodName) prog_54_method_4_code (7 : Nat) (Option.some (Jvm.ClassFile.FieldType.object "java/util/List"))).before args0 about1 = true := code_word (m := ⟨16, 2⟩) (meth := k16m2) (c := k16c2) (by decide +kernel) rfl rfl rfl (by decide +kernel)
set_option maxRecDepth 65536 in
theorem w_c23 : (Jvm.Cond.code ({ cls := "com/example/wireform/wireform/text/Lines", name := "lineEnd", desc := "(Ljava/lang/String;I)I" } : Jvm.MethodName) prog_54_method_8_code (3 : Nat) (Option.some Jvm.ClassFile.FieldType.int)).before args0 about1 = true := code_word (m := ⟨16, 3⟩) (meth := k16m3) (c := k16c3) (by decide +kernel) rfl rfl rfl (by decide +kernel)
set_option maxRecDepth 65536 in
theorem w_c24 : (Jvm.Cond.code ({ cls := "java/lang/String", name := "indexOf", desc := "(II)I" } : Jvm.MethodName) jdk_42_method_80_code (3 : Nat) (Option.some Jvm.ClassFile.FieldType.int)).before args0 about1 = true := code_word (m := ⟨7, 8⟩) (meth := k7m8) (c := k7c8) (by decide +kernel) rfl rfl rfl (by decide +kernel)
set_option maxRecDepth 65536 in
theorem w_c25 : (Jvm.Cond.code ({ cls := "java/lang/StringLatin1", name := "indexOf", desc := "([BIII)I" } : Jvm.MethodName) jdk_43_method_22_code (4 : Nat) (Option.some Jvm.ClassFile.FieldType.int)).before args0 about1 = true := code_word (m := ⟨8, 4⟩) (meth := k8m4) (c := k8c4) (by decide +kernel) rfl rfl rfl (by decide +kernel)
set_option maxRecDepth 65536 in
theorem w_c26 : (Jvm.Cond.code ({ cls := "java/lang/StringLatin1", name := "canEncode", desc := "(I)Z" } : Jvm.MethodName) jdk_43_method_4_code (1 : Nat) (Option.some Jvm.ClassFile.FieldType.boolean)).before args0 about1 = true := code_word (m := ⟨8, 2⟩) (meth := k8m2) (c := k8c2) (by decide +kernel) rfl rfl rfl (by decide +kernel)
set_option maxRecDepth 65536 in
theorem w_c27 : (Jvm.Cond.code ({ cls := "java/lang/Math", name := "max", desc := "(II)I" } : Jvm.MethodName) jdk_29_method_65_code (2 : Nat) (Option.some Jvm.ClassFile.FieldType.int)).before args0 about1 = true := code_word (m := ⟨18, 1⟩) (meth := k18m1) (c := k18c1) (by decide +kernel) rfl rfl rfl (by decide +kernel)
set_option maxRecDepth 65536 in
theorem w_c28 : (Jvm.Cond.code ({ cls := "java/lang/Math", name := "min", desc := "(II)I" } : Jvm.MethodName) jdk_29_method_69_code (2 : Nat) (Option.some Jvm.ClassFile.FieldType.int)).before args0 about1 = true := code_word (m := ⟨18, 2⟩) (meth := k18m2) (c := k18c2) (by decide +kernel) rfl rfl rfl (by decide +kernel)
set_option maxRecDepth 65536 in
theorem w_c29 : (Jvm.Cond.code ({ cls := "java/lang/StringLatin1", name := "indexOfChar", desc := "([BIII)I" } : Jvm.MethodName) jdk_43_method_23_code (6 : Nat) (Option.some Jvm.ClassFile.FieldType.int)).before args0 about1 = true := code_word (m := ⟨8, 5⟩) (meth := k8m5) (c := k8c5) (by decide +kernel) rfl rfl rfl (by decide +kernel)
set_option maxRecDepth 65536 in
theorem w_c30 : (Jvm.Cond.code ({ cls := "com/example/wireform/wireform/text/LineView", name := "<init>", desc := "(ILjava/util/function/IntFunction;)V" } : Jvm.MethodName) prog_53_method_1_code (3 : Nat) (Option.none : Option Jvm.ClassFile.FieldType)).before args0 about1 = true := code_word (m := ⟨26, 0⟩) (meth := k26m0) (c := k26c0) (by decide +kernel) rfl rfl rfl (by decide +kernel)
set_option maxRecDepth 65536 in
theorem w_c31 : (Jvm.Cond.code ({ cls := "java/util/AbstractList", name := "<init>", desc := "()V" } : Jvm.MethodName) jdk_39_method_1_code (1 : Nat) (Option.none : Option Jvm.ClassFile.FieldType)).before args0 about1 = true := code_word (m := ⟨24, 0⟩) (meth := k24m0) (c := k24c0) (by decide +kernel) rfl rfl rfl (by decide +kernel)
set_option maxRecDepth 65536 in
theorem w_c32 : (Jvm.Cond.code ({ cls := "java/util/AbstractCollection", name := "<init>", desc := "()V" } : Jvm.MethodName) jdk_22_method_1_code (1 : Nat) (Option.none : Option Jvm.ClassFile.FieldType)).before args0 about1 = true := code_word (m := ⟨21, 0⟩) (meth := k21m0) (c := k21c0) (by decide +kernel) rfl rfl rfl (by decide +kernel)
set_option maxRecDepth 65536 in
theorem w_c33 : (Jvm.Cond.code ({ cls := "com/example/wireform/wireform/text/Message", name := "<init>", desc := "(Ljava/util/List;Lcom/example/wireform/wireform/text/FinHeader;)V" } : Jvm.MethodName) prog_57_method_1_code (3 : Nat) (Option.none : Option Jvm.ClassFile.FieldType)).before args0 about1 = true := code_word (m := ⟨15, 0⟩) (meth := k15m0) (c := k15c0) (by decide +kernel) rfl rfl rfl (by decide +kernel)
set_option maxRecDepth 65536 in
theorem w_c34 : (Jvm.Cond.code ({ cls := "java/lang/Record", name := "<init>", desc := "()V" } : Jvm.MethodName) jdk_30_method_1_code (1 : Nat) (Option.none : Option Jvm.ClassFile.FieldType)).before args0 about1 = true := code_word (m := ⟨14, 0⟩) (meth := k14m0) (c := k14c0) (by decide +kernel) rfl rfl rfl (by decide +kernel)
set_option maxRecDepth 65536 in
theorem w_c35 : (Jvm.Cond.code ({ cls := "com/example/wireform/wireform/text/MessageReaderHasNextPinLaw", name := "step", desc := "(IZZ)I" } : Jvm.MethodName) method_2_code (3 : Nat) (Option.some Jvm.ClassFile.FieldType.int)).before args0 about1 = true := code_word (m := ⟨1, 1⟩) (meth := k1m1) (c := k1c1) (by decide +kernel) rfl rfl rfl (by decide +kernel)
set_option maxRecDepth 65536 in
theorem w_c36 : (Jvm.Cond.code ({ cls := "com/example/wireform/wireform/text/MessageReader", name := "nextOpening", desc := "()Ljava/lang/String;" } : Jvm.MethodName) prog_58_method_4_code (3 : Nat) (Option.some (Jvm.ClassFile.FieldType.object "java/lang/String"))).before args0 about1 = true := code_word (m := ⟨12, 3⟩) (meth := k12m3) (c := k12c3) (by decide +kernel) rfl rfl rfl (by decide +kernel)
set_option maxRecDepth 65536 in
theorem w_c37 : (Jvm.Cond.code ({ cls := "com/example/wireform/wireform/text/Lines", name := "lineText", desc := "(Ljava/lang/String;II)Ljava/lang/String;" } : Jvm.MethodName) prog_54_method_9_code (4 : Nat) (Option.some (Jvm.ClassFile.FieldType.object "java/lang/String"))).before args0 about1 = true := code_word (m := ⟨16, 4⟩) (meth := k16m4) (c := k16c4) (by decide +kernel) rfl rfl rfl (by decide +kernel)
set_option maxRecDepth 65536 in
theorem w_c38 : (Jvm.Cond.code ({ cls := "java/lang/String", name := "substring", desc := "(II)Ljava/lang/String;" } : Jvm.MethodName) jdk_42_method_92_code (5 : Nat) (Option.some (Jvm.ClassFile.FieldType.object "java/lang/String"))).before args0 about1 = true := code_word (m := ⟨7, 9⟩) (meth := k7m9) (c := k7c9) (by decide +kernel) rfl rfl rfl (by decide +kernel)
set_option maxRecDepth 65536 in
theorem w_c39 : (Jvm.Cond.code ({ cls := "java/lang/String", name := "checkBoundsBeginEnd", desc := "(III)V" } : Jvm.MethodName) jdk_42_method_158_code (3 : Nat) (Option.none : Option Jvm.ClassFile.FieldType)).before args0 about1 = true := code_word (m := ⟨7, 15⟩) (meth := k7m15) (c := k7c15) (by decide +kernel) rfl rfl rfl (by decide +kernel)
set_option maxRecDepth 65536 in
theorem w_c40 : (Jvm.Cond.code ({ cls := "jdk/internal/util/Preconditions", name := "checkFromToIndex", desc := "(IIILjava/util/function/BiFunction;)I" } : Jvm.MethodName) jdk_41_method_12_code (4 : Nat) (Option.some Jvm.ClassFile.FieldType.int)).before args0 about1 = true := code_word (m := ⟨9, 2⟩) (meth := k9m2) (c := k9c2) (by decide +kernel) rfl rfl rfl (by decide +kernel)
set_option maxRecDepth 65536 in
theorem w_c41 : (Jvm.Cond.code ({ cls := "java/lang/StringLatin1", name := "newString", desc := "([BII)Ljava/lang/String;" } : Jvm.MethodName) jdk_43_method_47_code (3 : Nat) (Option.some (Jvm.ClassFile.FieldType.object "java/lang/String"))).before args0 about1 = true := code_word (m := ⟨8, 6⟩) (meth := k8m6) (c := k8c6) (by decide +kernel) rfl rfl rfl (by decide +kernel)
set_option maxRecDepth 65536 in
theorem w_c42 : (Jvm.Cond.code ({ cls := "java/util/Arrays", name := "copyOfRange", desc := "([BII)[B" } : Jvm.MethodName) jdk_65_method_132_code (3 : Nat) (Option.some (Jvm.ClassFile.FieldType.array Jvm.ClassFile.FieldType.byte))).before args0 about1 = true := code_word (m := ⟨28, 2⟩) (meth := k28m2) (c := k28c2) (by decide +kernel) rfl rfl rfl (by decide +kernel)
set_option maxRecDepth 65536 in
theorem w_c43 : (Jvm.Cond.code ({ cls := "java/util/Arrays", name := "copyOfRangeByte", desc := "([BII)[B" } : Jvm.MethodName) jdk_65_method_133_code (5 : Nat) (Option.some (Jvm.ClassFile.FieldType.array Jvm.ClassFile.FieldType.byte))).before args0 about1 = true := code_word (m := ⟨28, 3⟩) (meth := k28m3) (c := k28c3) (by decide +kernel) rfl rfl rfl (by decide +kernel)
set_option maxRecDepth 65536 in
theorem w_c44 : (Jvm.Cond.code ({ cls := "java/util/Arrays", name := "checkLength", desc := "(II)V" } : Jvm.MethodName) jdk_65_method_131_code (2 : Nat) (Option.none : Option Jvm.ClassFile.FieldType)).before args0 about1 = true := code_word (m := ⟨28, 1⟩) (meth := k28m1) (c := k28c1) (by decide +kernel) rfl rfl rfl (by decide +kernel)
set_option maxRecDepth 65536 in
theorem w_c45 : (Jvm.Cond.code ({ cls := "java/lang/String", name := "<init>", desc := "([BB)V" } : Jvm.MethodName) jdk_42_method_151_code (3 : Nat) (Option.none : Option Jvm.ClassFile.FieldType)).before args0 about1 = true := code_word (m := ⟨7, 11⟩) (meth := k7m11) (c := k7c11) (by decide +kernel) rfl rfl rfl (by decide +kernel)
set_option maxRecDepth 65536 in
theorem w_c46 : (Jvm.Cond.code ({ cls := "java/lang/String", name := "isEmpty", desc := "()Z" } : Jvm.MethodName) jdk_42_method_55_code (1 : Nat) (Option.some Jvm.ClassFile.FieldType.boolean)).before args0 about1 = true := code_word (m := ⟨7, 3⟩) (meth := k7m3) (c := k7c3) (by decide +kernel) rfl rfl rfl (by decide +kernel)
set_option maxRecDepth 65536 in
theorem w_c47 : (Jvm.Cond.code ({ cls := "java/lang/String", name := "equals", desc := "(Ljava/lang/Object;)Z" } : Jvm.MethodName) jdk_42_method_66_code (3 : Nat) (Option.some Jvm.ClassFile.FieldType.boolean)).before args0 about1 = true := code_word (m := ⟨7, 5⟩) (meth := k7m5) (c := k7c5) (by decide +kernel) rfl rfl rfl (by decide +kernel)
set_option maxRecDepth 65536 in
theorem w_c48 : (Jvm.Cond.code ({ cls := "java/lang/StringLatin1", name := "equals", desc := "([B[B)Z" } : Jvm.MethodName) jdk_43_method_13_code (3 : Nat) (Option.some Jvm.ClassFile.FieldType.boolean)).before args0 about1 = true := code_word (m := ⟨8, 3⟩) (meth := k8m3) (c := k8c3) (by decide +kernel) rfl rfl rfl (by decide +kernel)
set_option maxRecDepth 65536 in
theorem w_c49 : (Jvm.Cond.code ({ cls := "com/example/wireform/wireform/text/FinHeader", name := "read", desc := "(Ljava/lang/String;)Lcom/example/wireform/wireform/text/FinHeader;" } : Jvm.MethodName) prog_50_method_2_code (2 : Nat) (Option.some (Jvm.ClassFile.FieldType.object "com/example/wireform/wireform/text/FinHeader"))).before args0 about1 = true := code_word (m := ⟨30, 0⟩) (meth := k30m0) (c := k30c0) (by decide +kernel) rfl rfl rfl (by decide +kernel)
set_option maxRecDepth 65536 in
theorem w_c50 : (Jvm.Cond.code ({ cls := "com/example/wireform/wireform/text/MessageReader", name := "isSeparator", desc := "(II)Z" } : Jvm.MethodName) prog_58_method_5_code (3 : Nat) (Option.some Jvm.ClassFile.FieldType.boolean)).before args0 about1 = true := code_word (m := ⟨12, 4⟩) (meth := k12m4) (c := k12c4) (by decide +kernel) rfl rfl rfl (by decide +kernel)
def codes1 : List Jvm.Cond := [Jvm.Cond.code x code maxLocals ret, Jvm.Cond.code ({ cls := "java/lang/String", name := "charAt", desc := "(I)C" } : Jvm.MethodName) jdk_42_method_56_code (2 : Nat) (Option.some Jvm.ClassFile.FieldType.char), Jvm.Cond.code ({ cls := "java/lang/String", name := "isLatin1", desc := "()Z" } : Jvm.MethodName) jdk_42_method_154_code (1 : Nat) (Option.some Jvm.ClassFile.FieldType.boolean), Jvm.Cond.code ({ cls := "java/lang/StringLatin1", name := "charAt", desc := "([BI)C" } : Jvm.MethodName) jdk_43_method_2_code (2 : Nat) (Option.some Jvm.ClassFile.FieldType.char), Jvm.Cond.code ({ cls := "java/lang/String", name := "checkIndex", desc := "(II)V" } : Jvm.MethodName) jdk_42_method_155_code (2 : Nat) (Option.none : Option Jvm.ClassFile.FieldType), Jvm.Cond.code ({ cls := "jdk/internal/util/Preconditions", name := "checkIndex", desc := "(IILjava/util/function/BiFunction;)I" } : Jvm.MethodName) jdk_41_method_11_code (3 : Nat) (Option.some Jvm.ClassFile.FieldType.int), Jvm.Cond.code ({ cls := "java/lang/String", name := "<init>", desc := "([C)V" } : Jvm.MethodName) jdk_42_method_3_code (2 : Nat) (Option.none : Option Jvm.ClassFile.FieldType), Jvm.Cond.code ({ cls := "java/lang/String", name := "<init>", desc := "([CIILjava/lang/Void;)V" } : Jvm.MethodName) jdk_42_method_149_code (6 : Nat) (Option.none : Option Jvm.ClassFile.FieldType), Jvm.Cond.code ({ cls := "java/lang/Object", name := "<init>", desc := "()V" } : Jvm.MethodName) object_method_1_code (1 : Nat) (Option.none : Option Jvm.ClassFile.FieldType), Jvm.Cond.code ({ cls := "java/lang/StringUTF16", name := "compress", desc := "([CII)[B" } : Jvm.MethodName) jdk_52_method_16_code (6 : Nat) (Option.some (Jvm.ClassFile.FieldType.array Jvm.ClassFile.FieldType.byte)), Jvm.Cond.code ({ cls := "java/lang/StringUTF16", name := "compress", desc := "([CI[BII)I" } : Jvm.MethodName) jdk_52_method_21_code (7 : Nat) (Option.some Jvm.ClassFile.FieldType.int), Jvm.Cond.code ({ cls := "java/lang/StringUTF16", name := "coderFromArrayLen", desc := "([BI)B" } : Jvm.MethodName) jdk_52_method_15_code (2 : Nat) (Option.some Jvm.ClassFile.FieldType.byte), Jvm.Cond.code ({ cls := "com/example/wireform/wireform/text/MessageReader", name := "<init>", desc := "(Ljava/lang/String;)V" } : Jvm.MethodName) prog_58_method_1_code (2 : Nat) (Option.none : Option Jvm.ClassFile.FieldType), Jvm.Cond.code ({ cls := "java/lang/String", name := "startsWith", desc := "(Ljava/lang/String;)Z" } : Jvm.MethodName) jdk_42_method_76_code (2 : Nat) (Option.some Jvm.ClassFile.FieldType.boolean), Jvm.Cond.code ({ cls := "java/lang/String", name := "startsWith", desc := "(Ljava/lang/String;I)Z" } : Jvm.MethodName) jdk_42_method_75_code (8 : Nat) (Option.some Jvm.ClassFile.FieldType.boolean), Jvm.Cond.code ({ cls := "java/lang/String", name := "length", desc := "()I" } : Jvm.MethodName) jdk_42_method_54_code (1 : Nat) (Option.some Jvm.ClassFile.FieldType.int), Jvm.Cond.code ({ cls := "java/lang/String", name := "coder", desc := "()B" } : Jvm.MethodName) jdk_42_method_152_code (1 : Nat) (Option.some Jvm.ClassFile.FieldType.byte), Jvm.Cond.code ({ cls := "jdk/internal/util/ArraysSupport", name := "mismatch", desc := "([BI[BII)I" } : Jvm.MethodName) jdk_48_method_14_code (8 : Nat) (Option.some Jvm.ClassFile.FieldType.int), Jvm.Cond.code ({ cls := "com/example/wireform/wireform/text/MessageReader", name := "hasNext", desc := "()Z" } : Jvm.MethodName) prog_58_method_2_code (1 : Nat) (Option.some Jvm.ClassFile.FieldType.boolean), Jvm.Cond.code ({ cls := "com/example/wireform/wireform/text/MessageReader", name := "next", desc := "()Lcom/example/wireform/wireform/text/Message;" } : Jvm.MethodName) prog_58_method_3_code (6 : Nat) (Option.some (Jvm.ClassFile.FieldType.object "com/example/wireform/wireform/text/Message")), Jvm.Cond.code ({ cls := "com/example/wireform/wireform/text/Lines", name := "split", desc := "(Ljava/lang/String;)Ljava/util/List;" } : Jvm.MethodName) prog_54_method_3_code (1 : Nat) (Option.some (Jvm.ClassFile.FieldType.object "java/util/List")), Jvm.Cond.code ({ cls := "java/util/Objects", name := "requireNonNull", desc := "(Ljava/lang/Object;Ljava/lang/String;)Ljava/lang/Object;" } : Jvm.MethodName) jdk_31_method_11_code (2 : Nat) (Option.some (Jvm.ClassFile.FieldType.object "java/lang/Object")), Jvm.Cond.code ({ cls := "com/example/wireform/wireform/text/Lines", name := "split", desc := "(Ljava/lang/String;II)Ljava/util/List;" } : Jvm.MethodName) prog_54_method_4_code (7 : Nat) (Option.some (Jvm.ClassFile.FieldType.object "java/util/List")), Jvm.Cond.code ({ cls := "com/example/wireform/wireform/text/Lines", name := "lineEnd", desc := "(Ljava/lang/String;I)I" } : Jvm.MethodName) prog_54_method_8_code (3 : Nat) (Option.some Jvm.ClassFile.FieldType.int), Jvm.Cond.code ({ cls := "java/lang/String", name := "indexOf", desc := "(II)I" } : Jvm.MethodName) jdk_42_method_80_code (3 : Nat) (Option.some Jvm.ClassFile.FieldType.int), Jvm.Cond.code ({ cls := "java/lang/StringLatin1", name := "indexOf", desc := "([BIII)I" } : Jvm.MethodName) jdk_43_method_22_code (4 : Nat) (Option.some Jvm.ClassFile.FieldType.int), Jvm.Cond.code ({ cls := "java/lang/StringLatin1", name := "canEncode", desc := "(I)Z" } : Jvm.MethodName) jdk_43_method_4_code (1 : Nat) (Option.some Jvm.ClassFile.FieldType.boolean), Jvm.Cond.code ({ cls := "java/lang/Math", name := "max", desc := "(II)I" } : Jvm.MethodName) jdk_29_method_65_code (2 : Nat) (Option.some Jvm.ClassFile.FieldType.int), Jvm.Cond.code ({ cls := "java/lang/Math", name := "min", desc := "(II)I" } : Jvm.MethodName) jdk_29_method_69_code (2 : Nat) (Option.some Jvm.ClassFile.FieldType.int), Jvm.Cond.code ({ cls := "java/lang/StringLatin1", name := "indexOfChar", desc := "([BIII)I" } : Jvm.MethodName) jdk_43_method_23_code (6 : Nat) (Option.some Jvm.ClassFile.FieldType.int), Jvm.Cond.code ({ cls := "com/example/wireform/wireform/text/LineView", name := "<init>", desc := "(ILjava/util/function/IntFunction;)V" } : Jvm.MethodName) prog_53_method_1_code (3 : Nat) (Option.none : Option Jvm.ClassFile.FieldType), Jvm.Cond.code ({ cls := "java/util/AbstractList", name := "<init>", desc := "()V" } : Jvm.MethodName) jdk_39_method_1_code (1 : Nat) (Option.none : Option Jvm.ClassFile.FieldType), Jvm.Cond.code ({ cls := "java/util/AbstractCollection", name := "<init>", desc := "()V" } : Jvm.MethodName) jdk_22_method_1_code (1 : Nat) (Option.none : Option Jvm.ClassFile.FieldType), Jvm.Cond.code ({ cls := "com/example/wireform/wireform/text/Message", name := "<init>", desc := "(Ljava/util/List;Lcom/example/wireform/wireform/text/FinHeader;)V" } : Jvm.MethodName) prog_57_method_1_code (3 : Nat) (Option.none : Option Jvm.ClassFile.FieldType), Jvm.Cond.code ({ cls := "java/lang/Record", name := "<init>", desc := "()V" } : Jvm.MethodName) jdk_30_method_1_code (1 : Nat) (Option.none : Option Jvm.ClassFile.FieldType), Jvm.Cond.code ({ cls := "com/example/wireform/wireform/text/MessageReaderHasNextPinLaw", name := "step", desc := "(IZZ)I" } : Jvm.MethodName) method_2_code (3 : Nat) (Option.some Jvm.ClassFile.FieldType.int), Jvm.Cond.code ({ cls := "com/example/wireform/wireform/text/MessageReader", name := "nextOpening", desc := "()Ljava/lang/String;" } : Jvm.MethodName) prog_58_method_4_code (3 : Nat) (Option.some (Jvm.ClassFile.FieldType.object "java/lang/String")), Jvm.Cond.code ({ cls := "com/example/wireform/wireform/text/Lines", name := "lineText", desc := "(Ljava/lang/String;II)Ljava/lang/String;" } : Jvm.MethodName) prog_54_method_9_code (4 : Nat) (Option.some (Jvm.ClassFile.FieldType.object "java/lang/String")), Jvm.Cond.code ({ cls := "java/lang/String", name := "substring", desc := "(II)Ljava/lang/String;" } : Jvm.MethodName) jdk_42_method_92_code (5 : Nat) (Option.some (Jvm.ClassFile.FieldType.object "java/lang/String")), Jvm.Cond.code ({ cls := "java/lang/String", name := "checkBoundsBeginEnd", desc := "(III)V" } : Jvm.MethodName) jdk_42_method_158_code (3 : Nat) (Option.none : Option Jvm.ClassFile.FieldType), Jvm.Cond.code ({ cls := "jdk/internal/util/Preconditions", name := "checkFromToIndex", desc := "(IIILjava/util/function/BiFunction;)I" } : Jvm.MethodName) jdk_41_method_12_code (4 : Nat) (Option.some Jvm.ClassFile.FieldType.int), Jvm.Cond.code ({ cls := "java/lang/StringLatin1", name := "newString", desc := "([BII)Ljava/lang/String;" } : Jvm.MethodName) jdk_43_method_47_code (3 : Nat) (Option.some (Jvm.ClassFile.FieldType.object "java/lang/String")), Jvm.Cond.code ({ cls := "java/util/Arrays", name := "copyOfRange", desc := "([BII)[B" } : Jvm.MethodName) jdk_65_method_132_code (3 : Nat) (Option.some (Jvm.ClassFile.FieldType.array Jvm.ClassFile.FieldType.byte)), Jvm.Cond.code ({ cls := "java/util/Arrays", name := "copyOfRangeByte", desc := "([BII)[B" } : Jvm.MethodName) jdk_65_method_133_code (5 : Nat) (Option.some (Jvm.ClassFile.FieldType.array Jvm.ClassFile.FieldType.byte)), Jvm.Cond.code ({ cls := "java/util/Arrays", name := "checkLength", desc := "(II)V" } : Jvm.MethodName) jdk_65_method_131_code (2 : Nat) (Option.none : Option Jvm.ClassFile.FieldType), Jvm.Cond.code ({ cls := "java/lang/String", name := "<init>", desc := "([BB)V" } : Jvm.MethodName) jdk_42_method_151_code (3 : Nat) (Option.none : Option Jvm.ClassFile.FieldType), Jvm.Cond.code ({ cls := "java/lang/String", name := "isEmpty", desc := "()Z" } : Jvm.MethodName) jdk_42_method_55_code (1 : Nat) (Option.some Jvm.ClassFile.FieldType.boolean), Jvm.Cond.code ({ cls := "java/lang/String", name := "equals", desc := "(Ljava/lang/Object;)Z" } : Jvm.MethodName) jdk_42_method_66_code (3 : Nat) (Option.some Jvm.ClassFile.FieldType.boolean), Jvm.Cond.code ({ cls := "java/lang/StringLatin1", name := "equals", desc := "([B[B)Z" } : Jvm.MethodName) jdk_43_method_13_code (3 : Nat) (Option.some Jvm.ClassFile.FieldType.boolean), Jvm.Cond.code ({ cls := "com/example/wireform/wireform/text/FinHeader", name := "read", desc := "(Ljava/lang/String;)Lcom/example/wireform/wireform/text/FinHeader;" } : Jvm.MethodName) prog_50_method_2_code (2 : Nat) (Option.some (Jvm.ClassFile.FieldType.object "com/example/wireform/wireform/text/FinHeader")), Jvm.Cond.code ({ cls := "com/example/wireform/wireform/text/MessageReader", name := "isSeparator", desc := "(II)Z" } : Jvm.MethodName) prog_58_method_5_code (3 : Nat) (Option.some Jvm.ClassFile.FieldType.boolean)]
set_option maxRecDepth 65536 in
theorem codes_eq : words1.filter isCode = codes1 := rfl
theorem w_codes : ∀ c ∈ words1.filter isCode, c.before args0 about1 = true := by
  rw [codes_eq]
  intro c hc
  simp only [codes1, List.mem_cons, List.not_mem_nil, or_false] at hc
  rcases hc with rfl | rfl | rfl | rfl | rfl | rfl | rfl | rfl | rfl | rfl | rfl | rfl | rfl | rfl | rfl | rfl | rfl | rfl | rfl | rfl | rfl | rfl | rfl | rfl | rfl | rfl | rfl | rfl | rfl | rfl | rfl | rfl | rfl | rfl | rfl | rfl | rfl | rfl | rfl | rfl | rfl | rfl | rfl | rfl | rfl | rfl | rfl | rfl | rfl | rfl | rfl
  · exact w_c0
  · exact w_c1
  · exact w_c2
  · exact w_c3
  · exact w_c4
  · exact w_c5
  · exact w_c6
  · exact w_c7
  · exact w_c8
  · exact w_c9
  · exact w_c10
  · exact w_c11
  · exact w_c12
  · exact w_c13
  · exact w_c14
  · exact w_c15
  · exact w_c16
  · exact w_c17
  · exact w_c18
  · exact w_c19
  · exact w_c20
  · exact w_c21
  · exact w_c22
  · exact w_c23
  · exact w_c24
  · exact w_c25
  · exact w_c26
  · exact w_c27
  · exact w_c28
  · exact w_c29
  · exact w_c30
  · exact w_c31
  · exact w_c32
  · exact w_c33
  · exact w_c34
  · exact w_c35
  · exact w_c36
  · exact w_c37
  · exact w_c38
  · exact w_c39
  · exact w_c40
  · exact w_c41
  · exact w_c42
  · exact w_c43
  · exact w_c44
  · exact w_c45
  · exact w_c46
  · exact w_c47
  · exact w_c48
  · exact w_c49
  · exact w_c50
set_option maxRecDepth 65536 in
theorem w_t1 : (words1.take 24).all (fun c => isCode c || c.before args0 about1) = true := by decide +kernel
set_option maxRecDepth 65536 in
theorem w_t2 : ((words1.drop 24).take 24).all (fun c => isCode c || c.before args0 about1) = true := by decide +kernel
set_option maxRecDepth 65536 in
theorem w_t3 : (((words1.drop 24).drop 24).take 24).all (fun c => isCode c || c.before args0 about1) = true := by decide +kernel
set_option maxRecDepth 65536 in
theorem w_t4 : ((((words1.drop 24).drop 24).drop 24).take 24).all (fun c => isCode c || c.before args0 about1) = true := by decide +kernel
set_option maxRecDepth 65536 in
theorem w_t5 : (((((words1.drop 24).drop 24).drop 24).drop 24).take 24).all (fun c => isCode c || c.before args0 about1) = true := by decide +kernel
set_option maxRecDepth 65536 in
theorem w_t6 : ((((((words1.drop 24).drop 24).drop 24).drop 24).drop 24).take 24).all (fun c => isCode c || c.before args0 about1) = true := by decide +kernel
set_option maxRecDepth 65536 in
theorem w_t7 : (((((((words1.drop 24).drop 24).drop 24).drop 24).drop 24).drop 24).take 24).all (fun c => isCode c || c.before args0 about1) = true := by decide +kernel
set_option maxRecDepth 65536 in
theorem w_t8 : ((((((((words1.drop 24).drop 24).drop 24).drop 24).drop 24).drop 24).drop 24).take 24).all (fun c => isCode c || c.before args0 about1) = true := by decide +kernel
set_option maxRecDepth 65536 in
theorem w_t9 : (((((((((words1.drop 24).drop 24).drop 24).drop 24).drop 24).drop 24).drop 24).drop 24).take 24).all (fun c => isCode c || c.before args0 about1) = true := by decide +kernel
set_option maxRecDepth 65536 in
theorem w_t10 : ((((((((((words1.drop 24).drop 24).drop 24).drop 24).drop 24).drop 24).drop 24).drop 24).drop 24).take 24).all (fun c => isCode c || c.before args0 about1) = true := by decide +kernel
set_option maxRecDepth 65536 in
theorem w_t11 : (((((((((((words1.drop 24).drop 24).drop 24).drop 24).drop 24).drop 24).drop 24).drop 24).drop 24).drop 24).take 24).all (fun c => isCode c || c.before args0 about1) = true := by decide +kernel
set_option maxRecDepth 65536 in
theorem w_t12 : (((((((((((words1.drop 24).drop 24).drop 24).drop 24).drop 24).drop 24).drop 24).drop 24).drop 24).drop 24).drop 24).all (fun c => isCode c || c.before args0 about1) = true := by decide +kernel
theorem w_tables : (allAtoms (Jvm.Cond.code x code maxLocals ret :: tables_1)).before args0 about1 = true := by
  rw [allAtoms_all]
  show words1.all (fun c => c.before args0 about1) = true
  refine all_split ?_ w_codes
  rw [← List.take_append_drop 24 words1, List.all_append, w_t1, ← List.take_append_drop 24 (words1.drop 24), List.all_append, w_t2, ← List.take_append_drop 24 ((words1.drop 24).drop 24), List.all_append, w_t3, ← List.take_append_drop 24 (((words1.drop 24).drop 24).drop 24), List.all_append, w_t4, ← List.take_append_drop 24 ((((words1.drop 24).drop 24).drop 24).drop 24), List.all_append, w_t5, ← List.take_append_drop 24 (((((words1.drop 24).drop 24).drop 24).drop 24).drop 24), List.all_append, w_t6, ← List.take_append_drop 24 ((((((words1.drop 24).drop 24).drop 24).drop 24).drop 24).drop 24), List.all_append, w_t7, ← List.take_append_drop 24 (((((((words1.drop 24).drop 24).drop 24).drop 24).drop 24).drop 24).drop 24), List.all_append, w_t8, ← List.take_append_drop 24 ((((((((words1.drop 24).drop 24).drop 24).drop 24).drop 24).drop 24).drop 24).drop 24), List.all_append, w_t9, ← List.take_append_drop 24 (((((((((words1.drop 24).drop 24).drop 24).drop 24).drop 24).drop 24).drop 24).drop 24).drop 24), List.all_append, w_t10, ← List.take_append_drop 24 ((((((((((words1.drop 24).drop 24).drop 24).drop 24).drop 24).drop 24).drop 24).drop 24).drop 24).drop 24), List.all_append, w_t11, w_t12]
  rfl
set_option maxRecDepth 65536 in
theorem w_rest : rest_1_c.before args0 about1 = true := by decide +kernel
set_option maxRecDepth 65536 in
theorem w_case : (Jvm.Cond.and given_1 narrow_1).before args0 about1 = true := by decide +kernel
set_option maxRecDepth 65536 in
theorem w_consts : constsHeld consts_1 about1 := Jvm.Lit.constsHeldB_iff.mp (by decide +kernel)
theorem w_applies : (headSpec (Jvm.Cond.code x code maxLocals ret :: tables_1) room_1).applies x e0.platform about1 = true :=
  (Spec.applies_iff w_frames).mpr ⟨w_running, w_runnable, w_alone, w_named, w_hears, w_ripe, w_room, w_tables⟩
theorem atStart : AtStart classFile x code maxLocals ret World_1 tables_1 room_1 Calls_1 rest_1 Pre_1 launch0 p0 e0 about1 theMethod args0 below0 :=
  ⟨lists_1, trivial, launch0.admits_env _ _ _, launch0.least_env, fairChoices_fair.cas, fairChoices_fair.clock, w_frames, w_args, w_heap, w_applies, ⟨w_consts, trivial⟩, w_rest, w_case⟩
end start1
theorem witness_1 : WitnessClaimed_1 := ⟨start1.p0, start1.e0, start1.about1, start1.theMethod, start1.args0, start1.below0, start1.atStart⟩
end Jvm.Pilot.@@N@@
