import JvmDerived
import JvmDerived.Pilot.@@N@@Statement
import JvmDerived.Pilot.@@N@@Code
set_option linter.unusedVariables false
set_option linter.unusedSimpArgs false
namespace Jvm.Own
open Sem ClassFile Op Lib Jvm.Stand Jvm.Free Jvm.LawKit Jvm.RoadKit
/-- what a walk knows of the method that it walks -/
def Cx (p : Program) (s : State) (m : MethodId) (meth : Method) (c : Code) (Z : State) (own nm : String) (bytes : ByteArray) (maxL : Nat) (ret : Option FieldType) : Prop :=
  p.tables.exec = Jvm.exec ∧ Z.Warmed39 s.vm ∧ c.code = bytes ∧ c.maxLocals = maxL ∧ s.vm.findClass own = some m.cls ∧ meth.name = nm ∧ meth.sig.returnType = ret ∧ meth.locks = false
/-- where a walk ends: what it returned and left, nothing old written -/
def PostW (n0 : Nat) (Q : Option Value → Heap → Prop) (R : Room) (s : State) (o : Outcome) (U : State) : Prop := ∃ v L, o = .returned v ∧ (Q v U.heap ∧ Fr n0 L) ∧ FrameEnd s o U L R.cells R.slots
/-- from every state with this heap and this frame on top the run comes to its end -/
def Wk (p : Program) (l : Launch) (e : Env) (R : Room) (s : State) (m : MethodId) (args : Array Value) (below : List Frame) (meth : Method) (c : Code) (n0 : Nat) (Q : Option Value → Heap → Prop) (h : Heap) (cells slots : Nat) (f : JFrame) : Prop :=
  ∀ T locs, Stand p l e R s m args below meth c T locs cells slots → T.heap = h → Fr n0 locs → ∃ U o, Steps p.tables e below (T.setTop f) U ∧ U.status = .running ∧ Ended U below o ∧ PostW n0 Q R s o U
/-- a method's contract at one heap and one row of arguments -/
def Met1 (l : Launch) (Z : State) (y : MethodName) (bytes : ByteArray) (maxL : Nat) (ret : Option FieldType) (rm : Room) (as : Array Value) (h0 : Heap) (n0 : Nat) (Q : Option Value → Heap → Prop) : Prop :=
  ∀ ws : List Jvm.Cond, MetFree l y (head1 (Jvm.Cond.code y bytes maxL ret :: ws) rm) (fun a U => a = as ∧ Z.Warmed39 U.vm ∧ U.heap = h0) (fun _ _ _ _ _ => True) (fun _ U o U' => ∃ v L, o = .returned v ∧ (Q v U'.heap ∧ Fr n0 L) ∧ FrameEnd U o U' L rm.cells rm.slots)
/-- an array, with all that lies in it -/
def Ars (Z : State) (h : Heap) (a : Addr) (k : ClassId) (ty : FieldType) (vs : List Value) : Prop := ∃ cl : Cell, Arr Z h a cl ty ∧ cl.cls = k ∧ cl.slots = vs.toArray ∧ vs.length < 2 ^ 31
section Laws
variable {p : Program} {l : Launch} {e : Env} {R : Room} {s : State} {m : MethodId} {args : Array Value} {below : List Frame} {meth : Method} {c : Code} {n0 : Nat} {Q : Option Value → Heap → Prop} {h : Heap} {cells slots : Nat} {Z : State} {a0 : Array Value} {own nm : String} {bytes : ByteArray} {maxL : Nat} {ret : Option FieldType}
theorem Met1.of_body {y : MethodName} {rm : Room} {as : Array Value} {h0 : Heap} (hpn : plainName y.cls = true) (hb : ∀ p e s m below meth c, Cx p s m meth c Z y.cls y.name bytes maxL ret → Wk p l e rm s m as below meth c n0 Q h0 0 0 (entryFrame m as maxL)) : Met1 l Z y bytes maxL ret rm as h0 n0 Q := by
  intro ws
  refine MetFree.of_bodySF (plainFor_of_name hpn) hisR ?_
  intro p e s m args below meth c s₁ Bd hml0 hP hK
  obtain ⟨rfl, hZ, hh⟩ := hP
  exact hb p e s m below meth c ⟨Bd.exec, hZ, Bd.bytes, hml0, findClass_of_methodNamed Bd.named, (name_of_methodNamed Bd.named Bd.method).1, Bd.returns, BodyLoose.notSynchronized Bd⟩ s₁ [] (Stand.of_body Bd) (by rw [← hh, Bd.state]; rfl) (Fr.nil n0)
theorem Met1.mono {y : MethodName} {rm : Room} {as : Array Value} {h0 : Heap} {Q' : Option Value → Heap → Prop} (hM : Met1 l Z y bytes maxL ret rm as h0 n0 Q) (hq : ∀ v h, Q v h → Q' v h) : Met1 l Z y bytes maxL ret rm as h0 n0 Q' := by
  intro ws p e ha hc hk s m args below hf happ hP hK
  obtain ⟨n, o, h1, h2, h3, v, L, r1, r2, r3⟩ := hM ws p e ha hc hk s m args below hf happ hP hK
  exact ⟨n, o, h1, h2, h3, v, L, r1, ⟨hq _ _ r2.1, r2.2⟩, r3⟩
theorem Wk.step {f f' : JFrame} (st : ∀ T locs t, Stand p l e R s m args below meth c T locs cells slots → Steps p.tables e below (T.setTop f') t → Steps p.tables e below (T.setTop f) t) (k : Wk p l e R s m args below meth c n0 Q h cells slots f') : Wk p l e R s m args below meth c n0 Q h cells slots f := fun T locs X hh N => by
  obtain ⟨U, o, h1, r⟩ := k T locs X hh N
  exact ⟨U, o, st T locs U X h1, r⟩
theorem Wk.cast {f f' : JFrame} (q : f = f') (k : Wk p l e R s m args below meth c n0 Q h cells slots f') : Wk p l e R s m args below meth c n0 Q h cells slots f := q ▸ k
theorem Wk.v1 {pc : Nat} {ls : Array Slot} {w : Value} {rest : List Value} (k : Wk p l e R s m args below meth c n0 Q h cells slots (mkF m pc ls (w :: rest))) : Wk p l e R s m args below meth c n0 Q h cells slots (mkF m pc ls ((some w).toList ++ rest)) := k
theorem w_iloadN (C : Cx p s m meth c Z own nm bytes maxL ret) {pc q : Nat} {ls : Array Slot} {rest : List Value} {j : Fin 4} {v : Int32} (hd : decode bytes pc = .ok (.iload_n j, 1)) (hq : pc + 1 = q) (hl : ls[j.val]? = some (.val (.int v))) (k : Wk p l e R s m args below meth c n0 Q h cells slots (mkF m q ls (.int v :: rest))) : Wk p l e R s m args below meth c n0 Q h cells slots (mkF m pc ls rest) := by
  subst hq; exact Wk.step (fun T _ t X k => XS.iloadN X.here C.1 rfl (hb C.2.2.1 hd) hl k) k
theorem w_istoreN (C : Cx p s m meth c Z own nm bytes maxL ret) {pc q : Nat} {ls : Array Slot} {rest : List Value} {j : Fin 4} {v : Int32} (ls' : Array Slot) (hd : decode bytes pc = .ok (.istore_n j, 1)) (hq : pc + 1 = q) (hl : storeLocals ls j.val (.int v) = some ls') (k : Wk p l e R s m args below meth c n0 Q h cells slots (mkF m q ls' rest)) : Wk p l e R s m args below meth c n0 Q h cells slots (mkF m pc ls (.int v :: rest)) := by
  subst hq; exact Wk.step (fun T _ t X k => XS.istoreN X.here C.1 rfl (hb C.2.2.1 hd) rfl hl k) k
theorem w_iconst (C : Cx p s m meth c Z own nm bytes maxL ret) {pc q : Nat} {ls : Array Slot} {rest : List Value} {i : Int} (v : Int32) (hd : decode bytes pc = .ok (.iconst i, 1)) (hq : pc + 1 = q) (hv : Int32.ofInt i = v) (k : Wk p l e R s m args below meth c n0 Q h cells slots (mkF m q ls (.int v :: rest))) : Wk p l e R s m args below meth c n0 Q h cells slots (mkF m pc ls rest) := by
  subst hq; exact Wk.step (fun T _ t X k => XT.iconstV X.here C.1 rfl v (hb C.2.2.1 hd) hv k) k
theorem w_bipush (C : Cx p s m meth c Z own nm bytes maxL ret) {pc q : Nat} {ls : Array Slot} {rest : List Value} {i : Int} (v : Int32) (hd : decode bytes pc = .ok (.bipush i, 2)) (hq : pc + 2 = q) (hv : (Int8.ofInt i).toInt32 = v) (k : Wk p l e R s m args below meth c n0 Q h cells slots (mkF m q ls (.int v :: rest))) : Wk p l e R s m args below meth c n0 Q h cells slots (mkF m pc ls rest) := by
  subst hq; exact Wk.step (fun T _ t X k => XT.bipushV X.here C.1 rfl v (hb C.2.2.1 hd) hv k) k
theorem w_iadd (C : Cx p s m meth c Z own nm bytes maxL ret) {pc q : Nat} {ls : Array Slot} {rest : List Value} {x y : Int32} (hd : decode bytes pc = .ok (.iadd, 1)) (hq : pc + 1 = q) (k : Wk p l e R s m args below meth c n0 Q h cells slots (mkF m q ls (.int (x + y) :: rest))) : Wk p l e R s m args below meth c n0 Q h cells slots (mkF m pc ls (.int y :: .int x :: rest)) := by
  subst hq; exact Wk.step (fun T _ t X k => XS.iadd X.here C.1 rfl (hb C.2.2.1 hd) rfl k) k
theorem w_iand (C : Cx p s m meth c Z own nm bytes maxL ret) {pc q : Nat} {ls : Array Slot} {rest : List Value} {x y : Int32} (hd : decode bytes pc = .ok (.iand, 1)) (hq : pc + 1 = q) (k : Wk p l e R s m args below meth c n0 Q h cells slots (mkF m q ls (.int (x &&& y) :: rest))) : Wk p l e R s m args below meth c n0 Q h cells slots (mkF m pc ls (.int y :: .int x :: rest)) := by
  subst hq; exact Wk.step (fun T _ t X k => XS.iand X.here C.1 rfl (hb C.2.2.1 hd) rfl k) k
theorem w_iushr (C : Cx p s m meth c Z own nm bytes maxL ret) {pc q : Nat} {ls : Array Slot} {rest : List Value} {x y : Int32} (hd : decode bytes pc = .ok (.iushr, 1)) (hq : pc + 1 = q) (k : Wk p l e R s m args below meth c n0 Q h cells slots (mkF m q ls (.int (XT.ushr x y) :: rest))) : Wk p l e R s m args below meth c n0 Q h cells slots (mkF m pc ls (.int y :: .int x :: rest)) := by
  subst hq; exact Wk.step (fun T _ t X k => XT.iushr X.here C.1 rfl (hb C.2.2.1 hd) rfl k) k
theorem w_goto (C : Cx p s m meth c Z own nm bytes maxL ret) {pc q : Nat} {ls : Array Slot} {rest : List Value} {o : Int} (hd : decode bytes pc = .ok (.goto o, 3)) (ho : 0 ≤ (pc : Int) + o) (hp : ((pc : Int) + o).toNat = q) (k : Wk p l e R s m args below meth c n0 Q h cells slots (mkF m q ls rest)) : Wk p l e R s m args below meth c n0 Q h cells slots (mkF m pc ls rest) :=
  Wk.step (fun T _ t X k => XS.goto X.here C.1 rfl rfl (hb C.2.2.1 hd) ho hp k) k
theorem w_ifeq_t (C : Cx p s m meth c Z own nm bytes maxL ret) {pc q : Nat} {ls : Array Slot} {rest : List Value} {x : Int32} {o : Int} (hd : decode bytes pc = .ok (.ifCond .eq o, 3)) (ho : 0 ≤ (pc : Int) + o) (hp : ((pc : Int) + o).toNat = q) (hc : x = 0) (k : Wk p l e R s m args below meth c n0 Q h cells slots (mkF m q ls rest)) : Wk p l e R s m args below meth c n0 Q h cells slots (mkF m pc ls (.int x :: rest)) :=
  Wk.step (fun T _ t X k => XS.ifYes X.here C.1 rfl rfl (hb C.2.2.1 hd) rfl (XT.i0_eq_t hc) ho hp k) k
theorem w_ifeq_f (C : Cx p s m meth c Z own nm bytes maxL ret) {pc q : Nat} {ls : Array Slot} {rest : List Value} {x : Int32} {o : Int} (hd : decode bytes pc = .ok (.ifCond .eq o, 3)) (hq : pc + 3 = q) (hc : ¬ x = 0) (k : Wk p l e R s m args below meth c n0 Q h cells slots (mkF m q ls rest)) : Wk p l e R s m args below meth c n0 Q h cells slots (mkF m pc ls (.int x :: rest)) := by
  subst hq; exact Wk.step (fun T _ t X k => XS.ifNo X.here C.1 rfl (hb C.2.2.1 hd) rfl (XT.i0_eq_f hc) k) k
theorem w_ifeq (C : Cx p s m meth c Z own nm bytes maxL ret) {pc q : Nat} {ls : Array Slot} {rest : List Value} {q' : Nat} {x : Int32} {o : Int} (hd : decode bytes pc = .ok (.ifCond .eq o, 3)) (ho : 0 ≤ (pc : Int) + o) (hp : ((pc : Int) + o).toNat = q) (hq : pc + 3 = q') (kt : x = 0 → Wk p l e R s m args below meth c n0 Q h cells slots (mkF m q ls rest)) (kf : ¬ x = 0 → Wk p l e R s m args below meth c n0 Q h cells slots (mkF m q' ls rest)) : Wk p l e R s m args below meth c n0 Q h cells slots (mkF m pc ls (.int x :: rest)) := by
  by_cases hc : x = 0
  · exact w_ifeq_t C hd ho hp hc (kt hc)
  · exact w_ifeq_f C hd hq hc (kf hc)
theorem w_iceq_t (C : Cx p s m meth c Z own nm bytes maxL ret) {pc q : Nat} {ls : Array Slot} {rest : List Value} {x y : Int32} {o : Int} (hd : decode bytes pc = .ok (.if_icmp .eq o, 3)) (ho : 0 ≤ (pc : Int) + o) (hp : ((pc : Int) + o).toNat = q) (hc : x = y) (k : Wk p l e R s m args below meth c n0 Q h cells slots (mkF m q ls rest)) : Wk p l e R s m args below meth c n0 Q h cells slots (mkF m pc ls (.int y :: .int x :: rest)) :=
  Wk.step (fun T _ t X k => XS.icmpYes X.here C.1 rfl rfl (hb C.2.2.1 hd) rfl (XT.ii_eq_t hc) ho hp k) k
theorem w_iceq_f (C : Cx p s m meth c Z own nm bytes maxL ret) {pc q : Nat} {ls : Array Slot} {rest : List Value} {x y : Int32} {o : Int} (hd : decode bytes pc = .ok (.if_icmp .eq o, 3)) (hq : pc + 3 = q) (hc : ¬ x = y) (k : Wk p l e R s m args below meth c n0 Q h cells slots (mkF m q ls rest)) : Wk p l e R s m args below meth c n0 Q h cells slots (mkF m pc ls (.int y :: .int x :: rest)) := by
  subst hq; exact Wk.step (fun T _ t X k => XS.icmpNo X.here C.1 rfl (hb C.2.2.1 hd) rfl (XT.ii_eq_f hc) k) k
theorem w_iceq (C : Cx p s m meth c Z own nm bytes maxL ret) {pc q : Nat} {ls : Array Slot} {rest : List Value} {q' : Nat} {x y : Int32} {o : Int} (hd : decode bytes pc = .ok (.if_icmp .eq o, 3)) (ho : 0 ≤ (pc : Int) + o) (hp : ((pc : Int) + o).toNat = q) (hq : pc + 3 = q') (kt : x = y → Wk p l e R s m args below meth c n0 Q h cells slots (mkF m q ls rest)) (kf : ¬ x = y → Wk p l e R s m args below meth c n0 Q h cells slots (mkF m q' ls rest)) : Wk p l e R s m args below meth c n0 Q h cells slots (mkF m pc ls (.int y :: .int x :: rest)) := by
  by_cases hc : x = y
  · exact w_iceq_t C hd ho hp hc (kt hc)
  · exact w_iceq_f C hd hq hc (kf hc)
theorem w_icne_t (C : Cx p s m meth c Z own nm bytes maxL ret) {pc q : Nat} {ls : Array Slot} {rest : List Value} {x y : Int32} {o : Int} (hd : decode bytes pc = .ok (.if_icmp .ne o, 3)) (ho : 0 ≤ (pc : Int) + o) (hp : ((pc : Int) + o).toNat = q) (hc : ¬ x = y) (k : Wk p l e R s m args below meth c n0 Q h cells slots (mkF m q ls rest)) : Wk p l e R s m args below meth c n0 Q h cells slots (mkF m pc ls (.int y :: .int x :: rest)) :=
  Wk.step (fun T _ t X k => XS.icmpYes X.here C.1 rfl rfl (hb C.2.2.1 hd) rfl (XT.ii_ne_t hc) ho hp k) k
theorem w_icne_f (C : Cx p s m meth c Z own nm bytes maxL ret) {pc q : Nat} {ls : Array Slot} {rest : List Value} {x y : Int32} {o : Int} (hd : decode bytes pc = .ok (.if_icmp .ne o, 3)) (hq : pc + 3 = q) (hc : x = y) (k : Wk p l e R s m args below meth c n0 Q h cells slots (mkF m q ls rest)) : Wk p l e R s m args below meth c n0 Q h cells slots (mkF m pc ls (.int y :: .int x :: rest)) := by
  subst hq; exact Wk.step (fun T _ t X k => XS.icmpNo X.here C.1 rfl (hb C.2.2.1 hd) rfl (XT.ii_ne_f hc) k) k
theorem w_icne (C : Cx p s m meth c Z own nm bytes maxL ret) {pc q : Nat} {ls : Array Slot} {rest : List Value} {q' : Nat} {x y : Int32} {o : Int} (hd : decode bytes pc = .ok (.if_icmp .ne o, 3)) (ho : 0 ≤ (pc : Int) + o) (hp : ((pc : Int) + o).toNat = q) (hq : pc + 3 = q') (kt : ¬ x = y → Wk p l e R s m args below meth c n0 Q h cells slots (mkF m q ls rest)) (kf : x = y → Wk p l e R s m args below meth c n0 Q h cells slots (mkF m q' ls rest)) : Wk p l e R s m args below meth c n0 Q h cells slots (mkF m pc ls (.int y :: .int x :: rest)) := by
  by_cases hc : x = y
  · exact w_icne_f C hd hq hc (kf hc)
  · exact w_icne_t C hd ho hp hc (kt hc)
theorem w_iclt_t (C : Cx p s m meth c Z own nm bytes maxL ret) {pc q : Nat} {ls : Array Slot} {rest : List Value} {x y : Int32} {o : Int} (hd : decode bytes pc = .ok (.if_icmp .lt o, 3)) (ho : 0 ≤ (pc : Int) + o) (hp : ((pc : Int) + o).toNat = q) (hc : x < y) (k : Wk p l e R s m args below meth c n0 Q h cells slots (mkF m q ls rest)) : Wk p l e R s m args below meth c n0 Q h cells slots (mkF m pc ls (.int y :: .int x :: rest)) :=
  Wk.step (fun T _ t X k => XS.icmpYes X.here C.1 rfl rfl (hb C.2.2.1 hd) rfl (XT.ii_lt_t hc) ho hp k) k
theorem w_iclt_f (C : Cx p s m meth c Z own nm bytes maxL ret) {pc q : Nat} {ls : Array Slot} {rest : List Value} {x y : Int32} {o : Int} (hd : decode bytes pc = .ok (.if_icmp .lt o, 3)) (hq : pc + 3 = q) (hc : ¬ x < y) (k : Wk p l e R s m args below meth c n0 Q h cells slots (mkF m q ls rest)) : Wk p l e R s m args below meth c n0 Q h cells slots (mkF m pc ls (.int y :: .int x :: rest)) := by
  subst hq; exact Wk.step (fun T _ t X k => XS.icmpNo X.here C.1 rfl (hb C.2.2.1 hd) rfl (XT.ii_lt_f hc) k) k
theorem w_iclt (C : Cx p s m meth c Z own nm bytes maxL ret) {pc q : Nat} {ls : Array Slot} {rest : List Value} {q' : Nat} {x y : Int32} {o : Int} (hd : decode bytes pc = .ok (.if_icmp .lt o, 3)) (ho : 0 ≤ (pc : Int) + o) (hp : ((pc : Int) + o).toNat = q) (hq : pc + 3 = q') (kt : x < y → Wk p l e R s m args below meth c n0 Q h cells slots (mkF m q ls rest)) (kf : ¬ x < y → Wk p l e R s m args below meth c n0 Q h cells slots (mkF m q' ls rest)) : Wk p l e R s m args below meth c n0 Q h cells slots (mkF m pc ls (.int y :: .int x :: rest)) := by
  by_cases hc : x < y
  · exact w_iclt_t C hd ho hp hc (kt hc)
  · exact w_iclt_f C hd hq hc (kf hc)
theorem w_icgt_t (C : Cx p s m meth c Z own nm bytes maxL ret) {pc q : Nat} {ls : Array Slot} {rest : List Value} {x y : Int32} {o : Int} (hd : decode bytes pc = .ok (.if_icmp .gt o, 3)) (ho : 0 ≤ (pc : Int) + o) (hp : ((pc : Int) + o).toNat = q) (hc : y < x) (k : Wk p l e R s m args below meth c n0 Q h cells slots (mkF m q ls rest)) : Wk p l e R s m args below meth c n0 Q h cells slots (mkF m pc ls (.int y :: .int x :: rest)) :=
  Wk.step (fun T _ t X k => XS.icmpYes X.here C.1 rfl rfl (hb C.2.2.1 hd) rfl (XT.ii_gt_t hc) ho hp k) k
theorem w_icgt_f (C : Cx p s m meth c Z own nm bytes maxL ret) {pc q : Nat} {ls : Array Slot} {rest : List Value} {x y : Int32} {o : Int} (hd : decode bytes pc = .ok (.if_icmp .gt o, 3)) (hq : pc + 3 = q) (hc : ¬ y < x) (k : Wk p l e R s m args below meth c n0 Q h cells slots (mkF m q ls rest)) : Wk p l e R s m args below meth c n0 Q h cells slots (mkF m pc ls (.int y :: .int x :: rest)) := by
  subst hq; exact Wk.step (fun T _ t X k => XS.icmpNo X.here C.1 rfl (hb C.2.2.1 hd) rfl (XT.ii_gt_f hc) k) k
theorem w_icgt (C : Cx p s m meth c Z own nm bytes maxL ret) {pc q : Nat} {ls : Array Slot} {rest : List Value} {q' : Nat} {x y : Int32} {o : Int} (hd : decode bytes pc = .ok (.if_icmp .gt o, 3)) (ho : 0 ≤ (pc : Int) + o) (hp : ((pc : Int) + o).toNat = q) (hq : pc + 3 = q') (kt : y < x → Wk p l e R s m args below meth c n0 Q h cells slots (mkF m q ls rest)) (kf : ¬ y < x → Wk p l e R s m args below meth c n0 Q h cells slots (mkF m q' ls rest)) : Wk p l e R s m args below meth c n0 Q h cells slots (mkF m pc ls (.int y :: .int x :: rest)) := by
  by_cases hc : y < x
  · exact w_icgt_t C hd ho hp hc (kt hc)
  · exact w_icgt_f C hd hq hc (kf hc)
theorem Ars.lt {a : Addr} {kA : ClassId} {ty : FieldType} {vs : List Value} (F : Ars Z h a kA ty vs) : a < h.size := by obtain ⟨_, A, -⟩ := F; exact A.lt
/-! calls -/
theorem w_static (C : Cx p s m meth c Z own nm bytes maxL ret) {pc q : Nat} {ls : Array Slot} {rest : List Value} {y : MethodName} {yb : ByteArray} {yL : Nat} {yr : Option FieldType} {rm : Room} {i : Nat} {Qc : Option Value → Heap → Prop} {argsL : List Value} (w1 : (Jvm.Cond.methodLink own i y).before a0 Z = true) (w2 : (Jvm.Cond.static y).before a0 Z = true) (w3 : (Jvm.Cond.initialized y.cls).before a0 Z = true) (w4 : (Jvm.Cond.code y yb yL yr).before a0 Z = true) (hM : Met1 l Z y yb yL yr rm argsL.toArray h n0 Qc)
    (hy : y.cls ≠ "java/lang/invoke/MethodHandle" ∧ y.cls ≠ "java/lang/invoke/VarHandle") {st : List Value} (hlen : ∀ sig, parseMethodDescriptor y.desc = some sig → argsL.length = sig.parameters.length) (hst : st = argsL.reverse ++ rest) (hd : decode bytes pc = .ok (.invokestatic i, 3)) (hq : pc + 3 = q) (hsz : ls.size = maxL)
    (hf : rm.frames + 1 ≤ R.frames) (hl : (rest.map fun v => v.category).sum + (yL + 11) + rm.locals ≤ R.locals) (hc : cells + rm.cells ≤ R.cells) (hs : slots + rm.slots ≤ R.slots)
    (k : ∀ v h', Qc v h' → Wk p l e R s m args below meth c n0 Q h' (cells + rm.cells) (slots + rm.slots) (mkF m q ls (v.toList ++ rest))) : Wk p l e R s m args below meth c n0 Q h cells slots (mkF m pc ls st) := by
  subst hq
  intro T locs X eT N
  obtain ⟨v, _, ⟨T', L', k', n'⟩, -, X', ⟨Lc, hQ, l', y', z'⟩, stp⟩ := Jvm.LawKit.callS X C.1 (y := y) C.2.2.2.2.1 (mvT C.2.1 w1) (mvT C.2.1 w2) (mvT C.2.1 w3) (mvT C.2.1 w4) hy (backOf (Q := fun v h L => Qc v h ∧ Fr n0 L) (W := (rest.map fun v => v.category).sum) (hM []) C.2.1 w4 w3 hf hl) (g := mkF m pc ls st) rfl (by rw [C.2.2.2.1]; exact hsz) (argsL := argsL) (rest := rest) hlen hst (by show 2 * 0 + _ ≤ _; omega) (hb C.2.2.1 hd) (fun _ _ => ⟨rfl, eT, hc, hs⟩)
  dsimp only [Pt.U, Pt.locs, Pt.cells, Pt.slots] at X' l' y' z' stp hQ
  subst l' y' z'
  obtain ⟨U, o, h1, r⟩ := k v T'.heap hQ.1 T' _ X' rfl (Fr.app N hQ.2)
  exact ⟨U, o, stp U h1, r⟩
/-! returns -/
theorem w_retN (C : Cx p s m meth c Z own nm bytes maxL (some .boolean)) {pc : Nat} {ls : Array Slot} {rest : List Value} {z : Int32} (hd : decode bytes pc = .ok (.ireturn, 1)) (hc : cells ≤ R.cells) (hs : slots ≤ R.slots) (hq : Q (some (.int (z &&& 1))) h) : Wk p l e R s m args below meth c n0 Q h cells slots (mkF m pc ls (.int z :: rest)) := fun T locs X eT N => by
  have hlk := C.2.2.2.2.2.2.2
  obtain ⟨fs, hr, hrun, hended, hW, hsame⟩ := X.leave (v := some (.int (nar .boolean z))) (fun q => by rw [C.2.2.2.2.2.2.1] at q; cases q) hlk
  exact ⟨_, _, retN X C.1 (t := .boolean) C.2.2.2.2.2.2.1 (by simp) (hb C.2.2.1 hd) hr, hrun, hended, _, locs, rfl, ⟨by show Q _ T.heap; rw [eT]; exact hq, N⟩, ⟨_, rfl⟩, hW, hsame.mono hc hs⟩
end Laws
end Jvm.Own
namespace Jvm.Pilot.@@N@@
open Jvm Jvm.ClassFile Sem Op Lib Jvm.Free Jvm.Stand Jvm.LawKit Jvm.RoadKit Bundle Jvm.Own Jvm.Pilot.@@N@@.Jvm.D
theorem pn_0 : plainName "com/example/nodeloom/nodeloom/value/AsciiIsDigitPinLaw" = true := by first | (simp [plainName, overriddenIn]; done) | decide +kernel
theorem pn_1 : plainName "com/example/nodeloom/nodeloom/value/Ascii" = true := by first | (simp [plainName, overriddenIn]; done) | decide +kernel
theorem pn_2 : plainName "com/example/nodeloom/nodeloom/value/AsciiIsDigitPinLaw" = true := by first | (simp [plainName, overriddenIn]; done) | decide +kernel
theorem d1_0 : decode prog_102_method_2_code 0 = .ok (.iload_n 0, 1) := by decide +kernel
theorem d1_1 : decode prog_102_method_2_code 1 = .ok (.bipush 48, 2) := by decide +kernel
theorem d1_3 : decode prog_102_method_2_code 3 = .ok (.if_icmp .lt 13, 3) := by decide +kernel
theorem d1_6 : decode prog_102_method_2_code 6 = .ok (.iload_n 0, 1) := by decide +kernel
theorem d1_7 : decode prog_102_method_2_code 7 = .ok (.bipush 57, 2) := by decide +kernel
theorem d1_9 : decode prog_102_method_2_code 9 = .ok (.if_icmp .gt 7, 3) := by decide +kernel
theorem d1_12 : decode prog_102_method_2_code 12 = .ok (.iconst 1, 1) := by decide +kernel
theorem d1_13 : decode prog_102_method_2_code 13 = .ok (.goto 4, 3) := by decide +kernel
theorem d1_16 : decode prog_102_method_2_code 16 = .ok (.iconst 0, 1) := by decide +kernel
theorem d1_17 : decode prog_102_method_2_code 17 = .ok (.ireturn, 1) := by decide +kernel
theorem d2_0 : decode method_2_code 0 = .ok (.iload_n 0, 1) := by decide +kernel
theorem d2_1 : decode method_2_code 1 = .ok (.bipush 48, 2) := by decide +kernel
theorem d2_3 : decode method_2_code 3 = .ok (.if_icmp .eq 57, 3) := by decide +kernel
theorem d2_6 : decode method_2_code 6 = .ok (.iload_n 0, 1) := by decide +kernel
theorem d2_7 : decode method_2_code 7 = .ok (.bipush 49, 2) := by decide +kernel
theorem d2_9 : decode method_2_code 9 = .ok (.if_icmp .eq 51, 3) := by decide +kernel
theorem d2_12 : decode method_2_code 12 = .ok (.iload_n 0, 1) := by decide +kernel
theorem d2_13 : decode method_2_code 13 = .ok (.bipush 50, 2) := by decide +kernel
theorem d2_15 : decode method_2_code 15 = .ok (.if_icmp .eq 45, 3) := by decide +kernel
theorem d2_18 : decode method_2_code 18 = .ok (.iload_n 0, 1) := by decide +kernel
theorem d2_19 : decode method_2_code 19 = .ok (.bipush 51, 2) := by decide +kernel
theorem d2_21 : decode method_2_code 21 = .ok (.if_icmp .eq 39, 3) := by decide +kernel
theorem d2_24 : decode method_2_code 24 = .ok (.iload_n 0, 1) := by decide +kernel
theorem d2_25 : decode method_2_code 25 = .ok (.bipush 52, 2) := by decide +kernel
theorem d2_27 : decode method_2_code 27 = .ok (.if_icmp .eq 33, 3) := by decide +kernel
theorem d2_30 : decode method_2_code 30 = .ok (.iload_n 0, 1) := by decide +kernel
theorem d2_31 : decode method_2_code 31 = .ok (.bipush 53, 2) := by decide +kernel
theorem d2_33 : decode method_2_code 33 = .ok (.if_icmp .eq 27, 3) := by decide +kernel
theorem d2_36 : decode method_2_code 36 = .ok (.iload_n 0, 1) := by decide +kernel
theorem d2_37 : decode method_2_code 37 = .ok (.bipush 54, 2) := by decide +kernel
theorem d2_39 : decode method_2_code 39 = .ok (.if_icmp .eq 21, 3) := by decide +kernel
theorem d2_42 : decode method_2_code 42 = .ok (.iload_n 0, 1) := by decide +kernel
theorem d2_43 : decode method_2_code 43 = .ok (.bipush 55, 2) := by decide +kernel
theorem d2_45 : decode method_2_code 45 = .ok (.if_icmp .eq 15, 3) := by decide +kernel
theorem d2_48 : decode method_2_code 48 = .ok (.iload_n 0, 1) := by decide +kernel
theorem d2_49 : decode method_2_code 49 = .ok (.bipush 56, 2) := by decide +kernel
theorem d2_51 : decode method_2_code 51 = .ok (.if_icmp .eq 9, 3) := by decide +kernel
theorem d2_54 : decode method_2_code 54 = .ok (.iload_n 0, 1) := by decide +kernel
theorem d2_55 : decode method_2_code 55 = .ok (.bipush 57, 2) := by decide +kernel
theorem d2_57 : decode method_2_code 57 = .ok (.if_icmp .ne 7, 3) := by decide +kernel
theorem d2_60 : decode method_2_code 60 = .ok (.iconst 1, 1) := by decide +kernel
theorem d2_61 : decode method_2_code 61 = .ok (.goto 4, 3) := by decide +kernel
theorem d2_64 : decode method_2_code 64 = .ok (.iconst 0, 1) := by decide +kernel
theorem d2_65 : decode method_2_code 65 = .ok (.ireturn, 1) := by decide +kernel
theorem pd_0 : parseMethodDescriptor "(I)Z" = some ⟨[.int], some .boolean⟩ := by decide +kernel
def dig (c : Int32) : Int32 := if c < 48 then 0 else if 57 < c then 0 else 1
def ten (c : Int32) : Int32 := if c = 48 then 1 else if c = 49 then 1 else if c = 50 then 1 else if c = 51 then 1 else if c = 52 then 1 else if c = 53 then 1 else if c = 54 then 1 else if c = 55 then 1 else if c = 56 then 1 else if c = 57 then 1 else 0
theorem own_dig (c : Int32) : dig c = ten c := by
  unfold dig ten
  by_cases n48 : c = 48
  · subst n48; decide
  have m48 : c.toInt ≠ 48 := fun q => n48 (Int32.toInt_inj.mp q)
  by_cases n49 : c = 49
  · subst n49; decide
  have m49 : c.toInt ≠ 49 := fun q => n49 (Int32.toInt_inj.mp q)
  by_cases n50 : c = 50
  · subst n50; decide
  have m50 : c.toInt ≠ 50 := fun q => n50 (Int32.toInt_inj.mp q)
  by_cases n51 : c = 51
  · subst n51; decide
  have m51 : c.toInt ≠ 51 := fun q => n51 (Int32.toInt_inj.mp q)
  by_cases n52 : c = 52
  · subst n52; decide
  have m52 : c.toInt ≠ 52 := fun q => n52 (Int32.toInt_inj.mp q)
  by_cases n53 : c = 53
  · subst n53; decide
  have m53 : c.toInt ≠ 53 := fun q => n53 (Int32.toInt_inj.mp q)
  by_cases n54 : c = 54
  · subst n54; decide
  have m54 : c.toInt ≠ 54 := fun q => n54 (Int32.toInt_inj.mp q)
  by_cases n55 : c = 55
  · subst n55; decide
  have m55 : c.toInt ≠ 55 := fun q => n55 (Int32.toInt_inj.mp q)
  by_cases n56 : c = 56
  · subst n56; decide
  have m56 : c.toInt ≠ 56 := fun q => n56 (Int32.toInt_inj.mp q)
  by_cases n57 : c = 57
  · subst n57; decide
  have m57 : c.toInt ≠ 57 := fun q => n57 (Int32.toInt_inj.mp q)
  simp only [n48, n49, n50, n51, n52, n53, n54, n55, n56, n57, if_false]
  by_cases a : c < 48
  · simp [a]
  · by_cases b : 57 < c
    · simp [a, b]
    · exfalso
      rw [Int32.lt_iff_toInt_lt] at a b
      have a' : ¬ c.toInt < 48 := a
      have b' : ¬ 57 < c.toInt := b
      omega
theorem ef_1 (m : MethodId) (x0 : Int32) : entryFrame m #[(.int x0)] 1 = mkF m 0 #[.val (.int x0)] [] := by first | (simp [entryFrame, mkF, argsToLocals, Value.category]; done) | rfl
set_option maxRecDepth 65536 in
set_option maxHeartbeats 40000000 in
theorem rm1 (l : Launch) (Z : State) (a0 : Array Value) (hw : ∀ d ∈ tables_1, d.before a0 Z = true) (x0 : Int32) (h0 : Heap) (n0 : Nat) (Z0 : n0 ≤ h0.size) :
    Met1 l Z ⟨"com/example/nodeloom/nodeloom/value/Ascii", "isDigit", "(I)Z"⟩ prog_102_method_2_code 1 (some .boolean) ({ frames := 0, cells := 0, slots := 0, locals := 0 } : Room) #[(.int x0)] h0 n0 (fun v h => v = some (.int (dig x0)) ∧ h0 = h) := by
  refine Met1.of_body pn_1 (fun p e s m below meth c C => ?_)
  replace C : Cx p s m meth c Z "com/example/nodeloom/nodeloom/value/Ascii" "isDigit" prog_102_method_2_code 1 (some .boolean) := C
  refine Wk.cast (ef_1 m x0) ?_
  refine w_iloadN C (q := 1) d1_0 rfl rfl ?_
  refine w_bipush C (q := 3) (48 : Int32) d1_1 rfl (by decide) ?_
  refine w_iclt C (q := 16) (q' := 6) d1_3 (by decide) (by decide) rfl (fun hc3 => ?_) (fun hc3 => ?_)
  · refine w_iconst C (q := 17) (0 : Int32) d1_16 rfl (by decide) ?_
    exact w_retN C d1_17 (by decide) (by decide) ⟨by rw [dig, if_pos hc3]; rfl, rfl⟩
  · refine w_iloadN C (q := 7) d1_6 rfl rfl ?_
    refine w_bipush C (q := 9) (57 : Int32) d1_7 rfl (by decide) ?_
    refine w_icgt C (q := 16) (q' := 12) d1_9 (by decide) (by decide) rfl (fun hc9 => ?_) (fun hc9 => ?_)
    · refine w_iconst C (q := 17) (0 : Int32) d1_16 rfl (by decide) ?_
      exact w_retN C d1_17 (by decide) (by decide) ⟨by rw [dig, if_neg hc3, if_pos hc9]; rfl, rfl⟩
    · refine w_iconst C (q := 13) (1 : Int32) d1_12 rfl (by decide) ?_
      refine w_goto C (q := 17) d1_13 (by decide) (by decide) ?_
      exact w_retN C d1_17 (by decide) (by decide) ⟨by rw [dig, if_neg hc3, if_neg hc9]; rfl, rfl⟩
theorem ef_2 (m : MethodId) (x0 : Int32) : entryFrame m #[(.int x0)] 1 = mkF m 0 #[.val (.int x0)] [] := by first | (simp [entryFrame, mkF, argsToLocals, Value.category]; done) | rfl
set_option maxRecDepth 65536 in
set_option maxHeartbeats 40000000 in
theorem rm2 (l : Launch) (Z : State) (a0 : Array Value) (hw : ∀ d ∈ tables_1, d.before a0 Z = true) (x0 : Int32) (h0 : Heap) (n0 : Nat) (Z0 : n0 ≤ h0.size) :
    Met1 l Z ⟨"com/example/nodeloom/nodeloom/value/AsciiIsDigitPinLaw", "oneOfTen", "(I)Z"⟩ method_2_code 1 (some .boolean) ({ frames := 0, cells := 0, slots := 0, locals := 0 } : Room) #[(.int x0)] h0 n0 (fun v h => v = some (.int (ten x0)) ∧ h0 = h) := by
  refine Met1.of_body pn_2 (fun p e s m below meth c C => ?_)
  replace C : Cx p s m meth c Z "com/example/nodeloom/nodeloom/value/AsciiIsDigitPinLaw" "oneOfTen" method_2_code 1 (some .boolean) := C
  refine Wk.cast (ef_2 m x0) ?_
  refine w_iloadN C (q := 1) d2_0 rfl rfl ?_
  refine w_bipush C (q := 3) (48 : Int32) d2_1 rfl (by decide) ?_
  refine w_iceq C (q := 60) (q' := 6) d2_3 (by decide) (by decide) rfl (fun hc3 => ?_) (fun hc3 => ?_)
  · refine w_iconst C (q := 61) (1 : Int32) d2_60 rfl (by decide) ?_
    refine w_goto C (q := 65) d2_61 (by decide) (by decide) ?_
    exact w_retN C d2_65 (by decide) (by decide) ⟨by rw [ten, if_pos hc3]; rfl, rfl⟩
  · refine w_iloadN C (q := 7) d2_6 rfl rfl ?_
    refine w_bipush C (q := 9) (49 : Int32) d2_7 rfl (by decide) ?_
    refine w_iceq C (q := 60) (q' := 12) d2_9 (by decide) (by decide) rfl (fun hc9 => ?_) (fun hc9 => ?_)
    · refine w_iconst C (q := 61) (1 : Int32) d2_60 rfl (by decide) ?_
      refine w_goto C (q := 65) d2_61 (by decide) (by decide) ?_
      exact w_retN C d2_65 (by decide) (by decide) ⟨by rw [ten, if_neg hc3, if_pos hc9]; rfl, rfl⟩
    · refine w_iloadN C (q := 13) d2_12 rfl rfl ?_
      refine w_bipush C (q := 15) (50 : Int32) d2_13 rfl (by decide) ?_
      refine w_iceq C (q := 60) (q' := 18) d2_15 (by decide) (by decide) rfl (fun hc15 => ?_) (fun hc15 => ?_)
      · refine w_iconst C (q := 61) (1 : Int32) d2_60 rfl (by decide) ?_
        refine w_goto C (q := 65) d2_61 (by decide) (by decide) ?_
        exact w_retN C d2_65 (by decide) (by decide) ⟨by rw [ten, if_neg hc3, if_neg hc9, if_pos hc15]; rfl, rfl⟩
      · refine w_iloadN C (q := 19) d2_18 rfl rfl ?_
        refine w_bipush C (q := 21) (51 : Int32) d2_19 rfl (by decide) ?_
        refine w_iceq C (q := 60) (q' := 24) d2_21 (by decide) (by decide) rfl (fun hc21 => ?_) (fun hc21 => ?_)
        · refine w_iconst C (q := 61) (1 : Int32) d2_60 rfl (by decide) ?_
          refine w_goto C (q := 65) d2_61 (by decide) (by decide) ?_
          exact w_retN C d2_65 (by decide) (by decide) ⟨by rw [ten, if_neg hc3, if_neg hc9, if_neg hc15, if_pos hc21]; rfl, rfl⟩
        · refine w_iloadN C (q := 25) d2_24 rfl rfl ?_
          refine w_bipush C (q := 27) (52 : Int32) d2_25 rfl (by decide) ?_
          refine w_iceq C (q := 60) (q' := 30) d2_27 (by decide) (by decide) rfl (fun hc27 => ?_) (fun hc27 => ?_)
          · refine w_iconst C (q := 61) (1 : Int32) d2_60 rfl (by decide) ?_
            refine w_goto C (q := 65) d2_61 (by decide) (by decide) ?_
            exact w_retN C d2_65 (by decide) (by decide) ⟨by rw [ten, if_neg hc3, if_neg hc9, if_neg hc15, if_neg hc21, if_pos hc27]; rfl, rfl⟩
          · refine w_iloadN C (q := 31) d2_30 rfl rfl ?_
            refine w_bipush C (q := 33) (53 : Int32) d2_31 rfl (by decide) ?_
            refine w_iceq C (q := 60) (q' := 36) d2_33 (by decide) (by decide) rfl (fun hc33 => ?_) (fun hc33 => ?_)
            · refine w_iconst C (q := 61) (1 : Int32) d2_60 rfl (by decide) ?_
              refine w_goto C (q := 65) d2_61 (by decide) (by decide) ?_
              exact w_retN C d2_65 (by decide) (by decide) ⟨by rw [ten, if_neg hc3, if_neg hc9, if_neg hc15, if_neg hc21, if_neg hc27, if_pos hc33]; rfl, rfl⟩
            · refine w_iloadN C (q := 37) d2_36 rfl rfl ?_
              refine w_bipush C (q := 39) (54 : Int32) d2_37 rfl (by decide) ?_
              refine w_iceq C (q := 60) (q' := 42) d2_39 (by decide) (by decide) rfl (fun hc39 => ?_) (fun hc39 => ?_)
              · refine w_iconst C (q := 61) (1 : Int32) d2_60 rfl (by decide) ?_
                refine w_goto C (q := 65) d2_61 (by decide) (by decide) ?_
                exact w_retN C d2_65 (by decide) (by decide) ⟨by rw [ten, if_neg hc3, if_neg hc9, if_neg hc15, if_neg hc21, if_neg hc27, if_neg hc33, if_pos hc39]; rfl, rfl⟩
              · refine w_iloadN C (q := 43) d2_42 rfl rfl ?_
                refine w_bipush C (q := 45) (55 : Int32) d2_43 rfl (by decide) ?_
                refine w_iceq C (q := 60) (q' := 48) d2_45 (by decide) (by decide) rfl (fun hc45 => ?_) (fun hc45 => ?_)
                · refine w_iconst C (q := 61) (1 : Int32) d2_60 rfl (by decide) ?_
                  refine w_goto C (q := 65) d2_61 (by decide) (by decide) ?_
                  exact w_retN C d2_65 (by decide) (by decide) ⟨by rw [ten, if_neg hc3, if_neg hc9, if_neg hc15, if_neg hc21, if_neg hc27, if_neg hc33, if_neg hc39, if_pos hc45]; rfl, rfl⟩
                · refine w_iloadN C (q := 49) d2_48 rfl rfl ?_
                  refine w_bipush C (q := 51) (56 : Int32) d2_49 rfl (by decide) ?_
                  refine w_iceq C (q := 60) (q' := 54) d2_51 (by decide) (by decide) rfl (fun hc51 => ?_) (fun hc51 => ?_)
                  · refine w_iconst C (q := 61) (1 : Int32) d2_60 rfl (by decide) ?_
                    refine w_goto C (q := 65) d2_61 (by decide) (by decide) ?_
                    exact w_retN C d2_65 (by decide) (by decide) ⟨by rw [ten, if_neg hc3, if_neg hc9, if_neg hc15, if_neg hc21, if_neg hc27, if_neg hc33, if_neg hc39, if_neg hc45, if_pos hc51]; rfl, rfl⟩
                  · refine w_iloadN C (q := 55) d2_54 rfl rfl ?_
                    refine w_bipush C (q := 57) (57 : Int32) d2_55 rfl (by decide) ?_
                    refine w_icne C (q := 64) (q' := 60) d2_57 (by decide) (by decide) rfl (fun hc57 => ?_) (fun hc57 => ?_)
                    · refine w_iconst C (q := 65) (0 : Int32) d2_64 rfl (by decide) ?_
                      exact w_retN C d2_65 (by decide) (by decide) ⟨by rw [ten, if_neg hc3, if_neg hc9, if_neg hc15, if_neg hc21, if_neg hc27, if_neg hc33, if_neg hc39, if_neg hc45, if_neg hc51, if_neg hc57]; rfl, rfl⟩
                    · refine w_iconst C (q := 61) (1 : Int32) d2_60 rfl (by decide) ?_
                      refine w_goto C (q := 65) d2_61 (by decide) (by decide) ?_
                      exact w_retN C d2_65 (by decide) (by decide) ⟨by rw [ten, if_neg hc3, if_neg hc9, if_neg hc15, if_neg hc21, if_neg hc27, if_neg hc33, if_neg hc39, if_neg hc45, if_neg hc51, if_pos hc57]; rfl, rfl⟩
theorem ef_0 (m : MethodId) (p1 : Int32) (p2 : Int32) : entryFrame m #[(.int p1), (.int p2)] maxLocals = mkF m 0 #[.val (.int p1), .val (.int p2), .unset] [] := by first | (simp [entryFrame, mkF, argsToLocals, Value.category, maxLocals]; done) | rfl
set_option maxRecDepth 65536 in
set_option maxHeartbeats 40000000 in
theorem rm0 (l : Launch) (Z : State) (a0 : Array Value) (hw : ∀ d ∈ tables_1, d.before a0 Z = true) (p1 : Int32) (p2 : Int32) (h0 : Heap) (n0 : Nat) (Z0 : n0 ≤ h0.size) :
    Met1 l Z x code maxLocals ret room_1 #[(.int p1), (.int p2)] h0 n0 (fun v h => v = some (.int 1)) := by
  refine Met1.of_body pn_0 (fun p e s m below meth c C => ?_)
  replace C : Cx p s m meth c Z "com/example/nodeloom/nodeloom/value/AsciiIsDigitPinLaw" "law" code 3 (some .boolean) := C
  refine Wk.cast (ef_0 m p1 p2) ?_
  have jn : ∀ (cc : Int32), Wk p l e room_1 s m #[(.int p1), (.int p2)] below meth c n0 (fun v h => v = some (.int 1)) h0 0 0 (mkF m 19 #[.val (.int p1), .val (.int p2), .unset] [(.int cc)]) := by
    intro cc
    refine w_istoreN C (q := 20) #[.val (.int p1), .val (.int p2), .val (.int cc)] at_19 rfl rfl ?_
    refine w_iloadN C (q := 21) at_20 rfl rfl ?_
    refine w_static C (q := 24) (y := ⟨"com/example/nodeloom/nodeloom/value/Ascii", "isDigit", "(I)Z"⟩) (rm := ({ frames := 0, cells := 0, slots := 0, locals := 0 } : Room)) (argsL := [(.int cc)]) (hw _ (List.mem_of_getElem? (i := 0) rfl)) (hw _ (List.mem_of_getElem? (i := 1) rfl)) (hw _ (List.mem_of_getElem? (i := 2) rfl)) (hw _ (List.mem_of_getElem? (i := 3) rfl)) (rm1 l Z a0 hw cc h0 n0 Z0) (by decide) (rest := []) (lenOf pd_0 rfl) rfl at_21 rfl rfl (by decide) (Nat.le_of_ble_eq_true rfl) (by decide) (by decide) ?_
    intro v h1 hQ
    obtain ⟨rfl, rfl⟩ := hQ
    refine Wk.v1 ?_
    refine w_iloadN C (q := 25) at_24 rfl rfl ?_
    refine w_static C (q := 28) (y := ⟨"com/example/nodeloom/nodeloom/value/AsciiIsDigitPinLaw", "oneOfTen", "(I)Z"⟩) (rm := ({ frames := 0, cells := 0, slots := 0, locals := 0 } : Room)) (argsL := [(.int cc)]) (hw _ (List.mem_of_getElem? (i := 4) rfl)) (hw _ (List.mem_of_getElem? (i := 5) rfl)) (hw _ (List.mem_of_getElem? (i := 6) rfl)) (hw _ (List.mem_of_getElem? (i := 7) rfl)) (rm2 l Z a0 hw cc _ n0 Z0) (by decide) (rest := [(.int (dig cc))]) (lenOf pd_0 rfl) rfl at_25 rfl rfl (by decide) (Nat.le_of_ble_eq_true rfl) (by decide) (by decide) ?_
    intro v h2 hQ
    obtain ⟨rfl, rfl⟩ := hQ
    refine Wk.v1 ?_
    refine w_icne_f C (q := 31) at_28 rfl (own_dig cc) ?_
    refine w_iconst C (q := 32) (1 : Int32) at_31 rfl (by decide) ?_
    refine w_goto C (q := 36) at_32 (by decide) (by decide) ?_
    exact w_retN C at_36 (by decide) (by decide) rfl
  refine w_iloadN C (q := 1) at_0 rfl rfl ?_
  refine w_iconst C (q := 2) (1 : Int32) at_1 rfl (by decide) ?_
  refine w_iand C (q := 3) at_2 rfl ?_
  refine w_ifeq C (q := 10) (q' := 6) at_3 (by decide) (by decide) rfl (fun hc3 => ?_) (fun hc3 => ?_)
  · refine w_bipush C (q := 12) (40 : Int32) at_10 rfl (by decide) ?_
    refine w_iloadN C (q := 13) at_12 rfl rfl ?_
    refine w_iconst C (q := 14) (1 : Int32) at_13 rfl (by decide) ?_
    refine w_iushr C (q := 15) at_14 rfl ?_
    refine w_bipush C (q := 17) (31 : Int32) at_15 rfl (by decide) ?_
    refine w_iand C (q := 18) at_17 rfl ?_
    refine w_iadd C (q := 19) at_18 rfl ?_
    exact jn _
  · refine w_iloadN C (q := 7) at_6 rfl rfl ?_
    refine w_goto C (q := 19) at_7 (by decide) (by decide) ?_
    exact jn _
set_option maxRecDepth 65536 in
set_option maxHeartbeats 40000000 in
theorem comes_1 {Post : Tables → Env → Array Value → State → Outcome → State → Prop} (hpost : ∀ tb e args s v u, (limb_1_1.after args s (.returned v) u = true ∧ limb_1_2.after args s (.returned v) u = true ∧ True) → FrameEnd s (.returned v) u (Jvm.fieldLocs frame_1_writes args s ++ Jvm.arrayLocs frame_1_arrays args s ++ Jvm.staticLocs frame_1_statics s) 0 0 → Post tb e args s (.returned v) u) :
    ArmFor flags0 classFile x code maxLocals ret World_1 tables_1 room_1 Calls_1 rest_1 Pre_1 Post := by
  intro l hfl _ _ p e ha hc hk s m args below hf hA hF happ hP
  obtain ⟨hcalls, hrest, hpre⟩ := hP
  obtain ⟨-, -, -, hnamed, -, -, -, hat⟩ := (Spec.applies_iff hf).mp happ
  obtain ⟨hg, hn⟩ := and_e (Cond.before_iff.mp (show (Jvm.Cond.and given_1 narrow_1).before args s = true from hpre))
  obtain ⟨g0, g1⟩ := and_e hg
  obtain ⟨w0, w1, rfl⟩ : ∃ w0 w1 : Value, args = #[w0, w1] := by
    have hs : args.size = 2 := by simpa [Cond.value, given_1] using g0
    obtain ⟨L⟩ := args
    match L, hs with
    | [w0, w1], _ => exact ⟨w0, w1, rfl⟩
  have hw := fun d (hd : d ∈ tables_1) => atoms_spec (ws := Jvm.Cond.code x code maxLocals ret :: tables_1) hat d (List.mem_cons_of_mem _ hd)
  have hfit : Fit s := fun {y c} hc i hi => by
    obtain ⟨ha, rfl⟩ := Array.getElem?_eq_some_iff.mp hc
    have q := List.all_eq_true.mp ((Array.all_eq_true_iff_forall_mem.mp hF) _ (Array.getElem_mem ha)) i (List.mem_range.mpr hi)
    simpa [Array.getElem?_eq_getElem hi] using q
  obtain ⟨t0, g2⟩ := and_e g1
  obtain ⟨p1, e0⟩ := is_v t0
  obtain rfl : w0 = (.int p1) := Option.some.inj e0
  obtain ⟨p2, e1⟩ := is_v g2
  obtain rfl : w1 = (.int p2) := Option.some.inj e1
  obtain ⟨n, o, h1, h2, h3, _, L, rfl, ⟨hQ, N⟩, hq⟩ := rm0 l s _ hw p1 p2 s.heap s.heap.size (Nat.le_refl _) tables_1 p e ha hc hk s m _ below hf ((Spec.applies_iff_loose hf).mp happ).1 ⟨rfl, State.Warmed39.refl s, rfl⟩ trivial
  cases hQ
  exact ⟨n, _, h1, h2, h3, hpost _ _ _ _ _ _ ⟨Cond.after_iff.mpr rfl, Cond.after_iff.mpr (eq_i res_at (Term.int_eval (1)) rfl), trivial⟩ ⟨hq.1, hq.2.1, (hq.2.2.sift fun y hy => Or.inr (N y hy)).mono (by decide) (by decide)⟩⟩
theorem main_1_1 : Claimed_1_1 := comes_1 fun _ _ _ _ _ _ h hF => ⟨h.1, hF⟩
theorem main_1_2 : Claimed_1_2 := comes_1 fun _ _ _ _ _ _ h hF => ⟨h.2.1, hF⟩
end Jvm.Pilot.@@N@@
namespace Jvm.Pilot.@@N@@
open Jvm Jvm.ClassFile Sem Op Lib Jvm.Free Jvm.Stand Jvm.Pilot.@@N@@.Jvm.D
/-! MADE BY PROGRAM (witnessworld.py) out of the Statement's table words and the real class files: 9 classes; the members and pool entries that the words name. The judged class is class 1, her method 2. -/
namespace start1
open Jvm.ClassFile
def u (s : String) : CpInfo := .utf8 (stringToUtf16 s)
/-- a pool by its gaps: so many unusable entries, then the entry; so many at the end -/
def gap : Nat → List CpInfo → List CpInfo
  | 0, r => r
  | n + 1, r => .unusable :: gap n r
def poolList (es : List (Nat × CpInfo)) (last : Nat) : List CpInfo := es.foldr (fun e r => gap e.1 (e.2 :: r)) (gap last [])
def pool (es : List (Nat × CpInfo)) (last : Nat) : Array CpInfo := ⟨poolList es last⟩
def fileOf (pool : Array CpInfo) (this : Nat) (attrs : Array Attribute := #[]) (ms : Array MethodInfo := #[]) (fl : Nat := 33) (sup : Nat := 0) (ifs : Array Nat := #[]) (fds : Array FieldInfo := #[]) : ClassFile where
  minorVersion := 0
  majorVersion := 65
  constantPool := pool
  accessFlags := fl
  thisClass := this
  superClass := sup
  interfaces := ifs
  fields := fds
  methods := ms
  attributes := attrs
def plain (name : String) (sup : Option ClassId) : Class where
  name := name
  kind := .ordinary
  loader := none
  accessFlags := 33
  super := sup
  interfaces := #[]
  cf := none
  fields := #[]
  methods := #[]
  instanceTypes := #[]
  staticTypes := #[]
  resolved := #[]
  callSites := []
  init := .initialized
  statics := none
  mirror := none

def pool0 : Array CpInfo := pool [(5, u "<init>"), (0, u "()V"), (1, .class_ 10), (1, u "java/lang/Object")] 113

def k0m0 : Method := { name := "<init>", desc := "()V", sig := { parameters := [], returnType := none }, accessFlags := 1, code := none }
/-- java/lang/Object -/
def k0 : Class := { plain "java/lang/Object" none with
  accessFlags := 33
  interfaces := #[]
  cf := some (fileOf pool0 8 #[] #[{ accessFlags := 1, nameIndex := 5, descriptorIndex := 6, attributes := #[] }] 33 0 #[] #[])
  fields := #[]
  methods := #[k0m0]
  instanceTypes := #[]
  staticTypes := #[]
  resolved := Array.replicate 124 none
  statics := none }

def pool1 : Array CpInfo := pool [(2, .class_ 4), (1, u "java/lang/Object"), (0, u "<init>"), (0, u "()V"), (0, .methodref 8 9), (0, .class_ 10), (0, .nameAndType 11 12), (0, u "com/example/nodeloom/nodeloom/value/Ascii"), (0, u "isDigit"), (0, u "(I)Z"), (0, .methodref 14 15), (0, .class_ 16), (0, .nameAndType 17 12), (0, u "com/example/nodeloom/nodeloom/value/AsciiIsDigitPinLaw"), (0, u "oneOfTen"), (3, u "law"), (0, u "(II)Z")] 2

def k1m0 : Method := { name := "<init>", desc := "()V", sig := { parameters := [], returnType := none }, accessFlags := 2, code := none }
def k1c1 : Code := { maxStack := 2, maxLocals := 1, code := method_2_code, exceptionTable := #[], attributes := #[] }
def k1m1 : Method := { name := "oneOfTen", desc := "(I)Z", sig := { parameters := [.int], returnType := some .boolean }, accessFlags := 10, code := some k1c1 }
def k1c2 : Code := { maxStack := 3, maxLocals := 3, code := code, exceptionTable := #[], attributes := #[] }
def k1m2 : Method := { name := "law", desc := "(II)Z", sig := { parameters := [.int, .int], returnType := some .boolean }, accessFlags := 9, code := some k1c2 }
/-- com/example/nodeloom/nodeloom/value/AsciiIsDigitPinLaw -/
def k1 : Class := { plain "com/example/nodeloom/nodeloom/value/AsciiIsDigitPinLaw" (some 0) with
  accessFlags := 49
  interfaces := #[]
  cf := some (fileOf pool1 14 #[] #[{ accessFlags := 2, nameIndex := 5, descriptorIndex := 6, attributes := #[] }, { accessFlags := 10, nameIndex := 17, descriptorIndex := 12, attributes := #[] }, { accessFlags := 9, nameIndex := 21, descriptorIndex := 22, attributes := #[] }] 49 2 #[] #[])
  fields := #[]
  methods := #[k1m0, k1m1, k1m2]
  instanceTypes := #[]
  staticTypes := #[]
  resolved := Array.replicate 25 none
  statics := none }

def pool2 : Array CpInfo := pool [(2, .class_ 4), (1, u "java/lang/Object"), (0, u "<init>"), (0, u "()V"), (1, .class_ 10), (1, u "com/example/nodeloom/nodeloom/value/Ascii"), (0, u "isDigit"), (0, u "(I)Z")] 31

def k2m0 : Method := { name := "<init>", desc := "()V", sig := { parameters := [], returnType := none }, accessFlags := 2, code := none }
def k2c1 : Code := { maxStack := 2, maxLocals := 1, code := prog_102_method_2_code, exceptionTable := #[], attributes := #[] }
def k2m1 : Method := { name := "isDigit", desc := "(I)Z", sig := { parameters := [.int], returnType := some .boolean }, accessFlags := 9, code := some k2c1 }
/-- com/example/nodeloom/nodeloom/value/Ascii -/
def k2 : Class := { plain "com/example/nodeloom/nodeloom/value/Ascii" (some 0) with
  accessFlags := 49
  interfaces := #[]
  cf := some (fileOf pool2 8 #[] #[{ accessFlags := 2, nameIndex := 5, descriptorIndex := 6, attributes := #[] }, { accessFlags := 9, nameIndex := 11, descriptorIndex := 12, attributes := #[] }] 49 2 #[] #[])
  fields := #[]
  methods := #[k2m0, k2m1]
  instanceTypes := #[]
  staticTypes := #[]
  resolved := Array.replicate 44 none
  statics := none }

def pool3 : Array CpInfo := pool [(1, u "java/lang/Cloneable"), (0, .class_ 1), (0, u "java/lang/Object"), (0, .class_ 3)] 3

/-- java/lang/Cloneable -/
def k3 : Class := { plain "java/lang/Cloneable" (some 0) with
  accessFlags := 1537
  interfaces := #[]
  cf := some (fileOf pool3 2 #[] #[] 1537 4 #[] #[])
  fields := #[]
  methods := #[]
  instanceTypes := #[]
  staticTypes := #[]
  resolved := Array.replicate 8 none
  statics := none }

def pool4 : Array CpInfo := pool [(1, u "java/io/Serializable"), (0, .class_ 1), (0, u "java/lang/Object"), (0, .class_ 3)] 3

/-- java/io/Serializable -/
def k4 : Class := { plain "java/io/Serializable" (some 0) with
  accessFlags := 1537
  interfaces := #[]
  cf := some (fileOf pool4 2 #[] #[] 1537 4 #[] #[])
  fields := #[]
  methods := #[]
  instanceTypes := #[]
  staticTypes := #[]
  resolved := Array.replicate 8 none
  statics := none }

/-- the primitive byte -/
def k5 : Class := { plain "byte" none with kind := .primitive 'B', accessFlags := 0x411 }
/-- [B -/
def k6 : Class := { plain "[B" (some 0) with kind := .array 5 .byte, interfaces := #[3, 4], accessFlags := 1041 }

/-- the primitive int -/
def k7 : Class := { plain "int" none with kind := .primitive 'I', accessFlags := 0x411 }
/-- [I -/
def k8 : Class := { plain "[I" (some 0) with kind := .array 7 .int, interfaces := #[3, 4], accessFlags := 1041 }

def heap : Heap := #[]
def classes : Array Class := #[k0, k1, k2, k3, k4, k5, k6, k7, k8]
def interned : List (Array UInt16 × Addr) := []
def slotsUsed : Nat := 0
def theMethod : MethodId := ⟨1, 2⟩
def args0 : Array Value := #[.int 5, .int 7]
def aboutOver (below : List Frame) : State where
  vm := { classes := classes, interned := interned.toArray }
  heap := heap
  slotsUsed := slotsUsed
  threads := #[{ frames := .invoking theMethod args0 :: below }]
def below0 : List Frame := [.native { method := ⟨0, 0⟩, args := #[] }]
def about1 : State := aboutOver below0
def p0 : Program := .bare "" "" ""
def e0 : Env := launch0.env 0 0 0
theorem w_frames : about1.frames = Frame.invoking theMethod args0 :: below0 := rfl
set_option maxRecDepth 65536 in
theorem w_args : argsFit about1.vm theMethod args0 = true := by decide +kernel
set_option maxRecDepth 65536 in
theorem w_heap : heapFits about1 = true := by decide +kernel
set_option maxRecDepth 65536 in
theorem w_runnable : about1.curStatus? = some .runnable := by decide +kernel
set_option maxRecDepth 65536 in
theorem w_alone : about1.alone = true := by decide +kernel
set_option maxRecDepth 65536 in
theorem w_named : about1.methodNamed? x = some theMethod := by decide +kernel
set_option maxRecDepth 65536 in
theorem w_hears : about1.hears theMethod below0 = true := by decide +kernel
set_option maxRecDepth 65536 in
theorem w_ripe : about1.ripe theMethod args0 below0 = true := by decide +kernel
theorem w_running : about1.status = .running := rfl
set_option maxRecDepth 65536 in
theorem w_room : about1.hasRoom e0.platform room_1 = true :=
  launch0.hasRoom_least _ room_1 (by decide +kernel) (by decide +kernel) (by decide +kernel) (by decide +kernel) (by decide +kernel) (by decide +kernel)
theorem allAtoms_all (ts : List Jvm.Cond) (a : Array Jvm.Value) (st : Jvm.State) : (allAtoms ts).before a st = ts.all (fun c => c.before a st) := by
  induction ts with
  | nil => rfl
  | cons c t ih =>
    show (Jvm.Cond.and c (allAtoms t)).before a st = _
    rw [Jvm.Cond.before_and, ih, List.all_cons]
def words1 : List Jvm.Cond := Jvm.Cond.code x code maxLocals ret :: tables_1
/-- a 'code' word, met by the world's own term for the bytes: nothing is compared byte by byte -/
theorem code_word {y : MethodName} {bytes : ByteArray} {mx : Nat} {rt : Option FieldType} {a : Array Value} {s : State} {m : MethodId} {meth : Method} {c : Code} (h1 : s.methodNamed? y = some m) (h2 : s.vm.method? m = some meth) (h3 : meth.code = some c) (h4 : c.code = bytes)
    (h5 : (c.maxLocals == mx && c.exceptionTable.isEmpty && decide (c.maxStack ≤ mostOperands) && decide (meth.sig.returnType = rt) && !meth.locks && decide (parseMethodDescriptor y.desc = some meth.sig)) = true) : (Jvm.Cond.code y bytes mx rt).before a s = true := by
  simp only [Bool.and_eq_true, beq_iff_eq, Bool.not_eq_true', decide_eq_true_eq] at h5
  obtain ⟨⟨⟨⟨⟨g1, g2⟩, g3⟩, g4⟩, g5⟩, g6⟩ := h5
  simp [Cond.before, Cond.holds, Cond.value, h1, h2, h3, h4, g1, g2, g3, g4, g5, g6]
def isCode : Jvm.Cond → Bool
  | .code _ _ _ _ => true
  | _ => false
theorem all_split {L : List Jvm.Cond} {P : Jvm.Cond → Bool} (h1 : L.all (fun c => isCode c || P c) = true) (h2 : ∀ c ∈ L.filter isCode, P c = true) : L.all P = true := by
  refine List.all_eq_true.mpr fun c hc => ?_
  have h := List.all_eq_true.mp h1 c hc
  rcases Bool.eq_false_or_eq_true (isCode c) with hi | hi
  · exact h2 c (List.mem_filter.mpr ⟨hc, hi⟩)
  · simpa [hi] using h
set_option maxRecDepth 65536 in
theorem w_c0 : (Jvm.Cond.code x code maxLocals ret).before args0 about1 = true := code_word (m := ⟨1, 2⟩) (meth := k1m2) (c := k1c2) (by decide +kernel) rfl rfl rfl (by decide +kernel)
set_option maxRecDepth 65536 in
theorem w_c1 : (Jvm.Cond.code ({ cls := "com/example/nodeloom/nodeloom/value/Ascii", name := "isDigit", desc := "(I)Z" } : Jvm.MethodName) prog_102_method_2_code (1 : Nat) (Option.some Jvm.ClassFile.FieldType.boolean)).before args0 about1 = true := code_word (m := ⟨2, 1⟩) (meth := k2m1) (c := k2c1) (by decide +kernel) rfl rfl rfl (by decide +kernel)
set_option maxRecDepth 65536 in
theorem w_c2 : (Jvm.Cond.code ({ cls := "com/example/nodeloom/nodeloom/value/AsciiIsDigitPinLaw", name := "oneOfTen", desc := "(I)Z" } : Jvm.MethodName) method_2_code (1 : Nat) (Option.some Jvm.ClassFile.FieldType.boolean)).before args0 about1 = true := code_word (m := ⟨1, 1⟩) (meth := k1m1) (c := k1c1) (by decide +kernel) rfl rfl rfl (by decide +kernel)
def codes1 : List Jvm.Cond := [Jvm.Cond.code x code maxLocals ret, Jvm.Cond.code ({ cls := "com/example/nodeloom/nodeloom/value/Ascii", name := "isDigit", desc := "(I)Z" } : Jvm.MethodName) prog_102_method_2_code (1 : Nat) (Option.some Jvm.ClassFile.FieldType.boolean), Jvm.Cond.code ({ cls := "com/example/nodeloom/nodeloom/value/AsciiIsDigitPinLaw", name := "oneOfTen", desc := "(I)Z" } : Jvm.MethodName) method_2_code (1 : Nat) (Option.some Jvm.ClassFile.FieldType.boolean)]
set_option maxRecDepth 65536 in
theorem codes_eq : words1.filter isCode = codes1 := rfl
theorem w_codes : ∀ c ∈ words1.filter isCode, c.before args0 about1 = true := by
  rw [codes_eq]
  intro c hc
  simp only [codes1, List.mem_cons, List.not_mem_nil, or_false] at hc
  rcases hc with rfl | rfl | rfl
  · exact w_c0
  · exact w_c1
  · exact w_c2
set_option maxRecDepth 65536 in
theorem w_t1 : words1.all (fun c => isCode c || c.before args0 about1) = true := by decide +kernel
theorem w_tables : (allAtoms (Jvm.Cond.code x code maxLocals ret :: tables_1)).before args0 about1 = true := by
  rw [allAtoms_all]
  show words1.all (fun c => c.before args0 about1) = true
  refine all_split ?_ w_codes
  rw [w_t1]
set_option maxRecDepth 65536 in
theorem w_case : (Jvm.Cond.and given_1 narrow_1).before args0 about1 = true := by decide +kernel
theorem w_applies : (headSpec (Jvm.Cond.code x code maxLocals ret :: tables_1) room_1).applies x e0.platform about1 = true :=
  (Spec.applies_iff w_frames).mpr ⟨w_running, w_runnable, w_alone, w_named, w_hears, w_ripe, w_room, w_tables⟩
theorem atStart : AtStart classFile x code maxLocals ret World_1 tables_1 room_1 Calls_1 rest_1 Pre_1 launch0 p0 e0 about1 theMethod args0 below0 :=
  ⟨lists_1, trivial, launch0.admits_env _ _ _, launch0.least_env, fairChoices_fair.cas, fairChoices_fair.clock, w_frames, w_args, w_heap, w_applies, trivial, trivial, w_case⟩
end start1
theorem witness_1 : WitnessClaimed_1 := ⟨start1.p0, start1.e0, start1.about1, start1.theMethod, start1.args0, start1.below0, start1.atStart⟩
end Jvm.Pilot.@@N@@
