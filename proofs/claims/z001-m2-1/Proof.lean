import JvmDerived
import JvmDerived.Pilot.@@N@@Statement
import JvmDerived.Pilot.@@N@@Code
set_option linter.unusedVariables false
set_option linter.unusedSimpArgs false
namespace Jvm.Own
open Sem ClassFile Op Lib Jvm.Stand Jvm.Free Jvm.LawKit Jvm.RoadKit
/-- what a walk knows of the method that it walks -/
def Cx (p : Program) (s : State) (m : MethodId) (meth : Method) (c : Code) (Z : State) (own nm : String) (bytes : ByteArray) (maxL : Nat) (ret : Option FieldType) : Prop :=
  p.tables.exec = Jvm.exec ∧ Z.Warmed39 s.vm ∧ c.code = bytes ∧ c.maxLocals = maxL ∧ s.vm.findClass own = some m.cls ∧ meth.name = nm ∧ meth.sig.returnType = ret ∧ meth.locks = false
/-- where a walk ends: what it returned and left, nothing old written -/
def PostW (n0 : Nat) (Q : Option Value → Heap → Prop) (R : Room) (s : State) (o : Outcome) (U : State) : Prop := ∃ v L, o = .returned v ∧ (Q v U.heap ∧ Fr n0 L) ∧ FrameEnd s o U L R.cells R.slots
/-- from every state with this heap and this frame on top the run comes to its end -/
def Wk (p : Program) (l : Launch) (e : Env) (R : Room) (s : State) (m : MethodId) (args : Array Value) (below : List Frame) (meth : Method) (c : Code) (n0 : Nat) (Q : Option Value → Heap → Prop) (h : Heap) (cells slots : Nat) (f : JFrame) : Prop :=
  ∀ T locs, Stand p l e R s m args below meth c T locs cells slots → T.heap = h → Fr n0 locs → ∃ U o, Steps p.tables e below (T.setTop f) U ∧ U.status = .running ∧ Ended U below o ∧ PostW n0 Q R s o U
/-- a method's contract at one heap and one row of arguments -/
def Met1 (l : Launch) (Z : State) (y : MethodName) (bytes : ByteArray) (maxL : Nat) (ret : Option FieldType) (rm : Room) (as : Array Value) (h0 : Heap) (n0 : Nat) (Q : Option Value → Heap → Prop) : Prop :=
  ∀ ws : List Jvm.Cond, MetFree l y (head1 (Jvm.Cond.code y bytes maxL ret :: ws) rm) (fun a U => a = as ∧ Z.Warmed39 U.vm ∧ U.heap = h0) (fun _ _ _ _ _ => True) (fun _ U o U' => ∃ v L, o = .returned v ∧ (Q v U'.heap ∧ Fr n0 L) ∧ FrameEnd U o U' L rm.cells rm.slots)
/-- an array, with all that lies in it -/
def Ars (Z : State) (h : Heap) (a : Addr) (k : ClassId) (ty : FieldType) (vs : List Value) : Prop := ∃ cl : Cell, Arr Z h a cl ty ∧ cl.cls = k ∧ cl.slots = vs.toArray ∧ vs.length < 2 ^ 31
section Laws
variable {p : Program} {l : Launch} {e : Env} {R : Room} {s : State} {m : MethodId} {args : Array Value} {below : List Frame} {meth : Method} {c : Code} {n0 : Nat} {Q : Option Value → Heap → Prop} {h : Heap} {cells slots : Nat} {Z : State} {a0 : Array Value} {own nm : String} {bytes : ByteArray} {maxL : Nat} {ret : Option FieldType}
theorem Met1.of_body {y : MethodName} {rm : Room} {as : Array Value} {h0 : Heap} (hpn : plainName y.cls = true) (hb : ∀ p e s m below meth c, Cx p s m meth c Z y.cls y.name bytes maxL ret → Wk p l e rm s m as below meth c n0 Q h0 0 0 (entryFrame m as maxL)) : Met1 l Z y bytes maxL ret rm as h0 n0 Q := by
  intro ws
  refine MetFree.of_bodySF (plainFor_of_name hpn) hisR ?_
  intro p e s m args below meth c s₁ Bd hml0 hP hK
  obtain ⟨rfl, hZ, hh⟩ := hP
  exact hb p e s m below meth c ⟨Bd.exec, hZ, Bd.bytes, hml0, findClass_of_methodNamed Bd.named, (name_of_methodNamed Bd.named Bd.method).1, Bd.returns, BodyLoose.notSynchronized Bd⟩ s₁ [] (Stand.of_body Bd) (by rw [← hh, Bd.state]; rfl) (Fr.nil n0)
theorem Met1.mono {y : MethodName} {rm : Room} {as : Array Value} {h0 : Heap} {Q' : Option Value → Heap → Prop} (hM : Met1 l Z y bytes maxL ret rm as h0 n0 Q) (hq : ∀ v h, Q v h → Q' v h) : Met1 l Z y bytes maxL ret rm as h0 n0 Q' := by
  intro ws p e ha hc hk s m args below hf happ hP hK
  obtain ⟨n, o, h1, h2, h3, v, L, r1, r2, r3⟩ := hM ws p e ha hc hk s m args below hf happ hP hK
  exact ⟨n, o, h1, h2, h3, v, L, r1, ⟨hq _ _ r2.1, r2.2⟩, r3⟩
theorem Wk.step {f f' : JFrame} (st : ∀ T locs t, Stand p l e R s m args below meth c T locs cells slots → Steps p.tables e below (T.setTop f') t → Steps p.tables e below (T.setTop f) t) (k : Wk p l e R s m args below meth c n0 Q h cells slots f') : Wk p l e R s m args below meth c n0 Q h cells slots f := fun T locs X hh N => by
  obtain ⟨U, o, h1, r⟩ := k T locs X hh N
  exact ⟨U, o, st T locs U X h1, r⟩
theorem Wk.cast {f f' : JFrame} (q : f = f') (k : Wk p l e R s m args below meth c n0 Q h cells slots f') : Wk p l e R s m args below meth c n0 Q h cells slots f := q ▸ k
theorem Wk.v1 {pc : Nat} {ls : Array Slot} {w : Value} {rest : List Value} (k : Wk p l e R s m args below meth c n0 Q h cells slots (mkF m pc ls (w :: rest))) : Wk p l e R s m args below meth c n0 Q h cells slots (mkF m pc ls ((some w).toList ++ rest)) := k
theorem w_iloadN (C : Cx p s m meth c Z own nm bytes maxL ret) {pc q : Nat} {ls : Array Slot} {rest : List Value} {j : Fin 4} {v : Int32} (hd : decode bytes pc = .ok (.iload_n j, 1)) (hq : pc + 1 = q) (hl : ls[j.val]? = some (.val (.int v))) (k : Wk p l e R s m args below meth c n0 Q h cells slots (mkF m q ls (.int v :: rest))) : Wk p l e R s m args below meth c n0 Q h cells slots (mkF m pc ls rest) := by
  subst hq; exact Wk.step (fun T _ t X k => XS.iloadN X.here C.1 rfl (hb C.2.2.1 hd) hl k) k
theorem w_iload (C : Cx p s m meth c Z own nm bytes maxL ret) {pc q : Nat} {ls : Array Slot} {rest : List Value} {j : Nat} {v : Int32} (hd : decode bytes pc = .ok (.iload j, 2)) (hq : pc + 2 = q) (hl : ls[j]? = some (.val (.int v))) (k : Wk p l e R s m args below meth c n0 Q h cells slots (mkF m q ls (.int v :: rest))) : Wk p l e R s m args below meth c n0 Q h cells slots (mkF m pc ls rest) := by
  subst hq; exact Wk.step (fun T _ t X k => XS.iload X.here C.1 rfl (hb C.2.2.1 hd) hl k) k
theorem w_aloadN (C : Cx p s m meth c Z own nm bytes maxL ret) {pc q : Nat} {ls : Array Slot} {rest : List Value} {j : Fin 4} {v : Value} (hd : decode bytes pc = .ok (.aload_n j, 1)) (hq : pc + 1 = q) (hl : ls[j.val]? = some (.val v)) (hv : v.isRef = true) (k : Wk p l e R s m args below meth c n0 Q h cells slots (mkF m q ls (v :: rest))) : Wk p l e R s m args below meth c n0 Q h cells slots (mkF m pc ls rest) := by
  subst hq; exact Wk.step (fun T _ t X k => XS.aloadN X.here C.1 rfl (hb C.2.2.1 hd) hl hv k) k
theorem w_istoreN (C : Cx p s m meth c Z own nm bytes maxL ret) {pc q : Nat} {ls : Array Slot} {rest : List Value} {j : Fin 4} {v : Int32} (ls' : Array Slot) (hd : decode bytes pc = .ok (.istore_n j, 1)) (hq : pc + 1 = q) (hl : storeLocals ls j.val (.int v) = some ls') (k : Wk p l e R s m args below meth c n0 Q h cells slots (mkF m q ls' rest)) : Wk p l e R s m args below meth c n0 Q h cells slots (mkF m pc ls (.int v :: rest)) := by
  subst hq; exact Wk.step (fun T _ t X k => XS.istoreN X.here C.1 rfl (hb C.2.2.1 hd) rfl hl k) k
theorem w_istore (C : Cx p s m meth c Z own nm bytes maxL ret) {pc q : Nat} {ls : Array Slot} {rest : List Value} {j : Nat} {v : Int32} (ls' : Array Slot) (hd : decode bytes pc = .ok (.istore j, 2)) (hq : pc + 2 = q) (hl : storeLocals ls j (.int v) = some ls') (k : Wk p l e R s m args below meth c n0 Q h cells slots (mkF m q ls' rest)) : Wk p l e R s m args below meth c n0 Q h cells slots (mkF m pc ls (.int v :: rest)) := by
  subst hq; exact Wk.step (fun T _ t X k => XS.istore X.here C.1 rfl (hb C.2.2.1 hd) rfl hl k) k
theorem w_astoreN (C : Cx p s m meth c Z own nm bytes maxL ret) {pc q : Nat} {ls : Array Slot} {rest : List Value} {j : Fin 4} {v : Value} (ls' : Array Slot) (hd : decode bytes pc = .ok (.astore_n j, 1)) (hq : pc + 1 = q) (hv : v.isRef = true) (hl : storeLocals ls j.val v = some ls') (k : Wk p l e R s m args below meth c n0 Q h cells slots (mkF m q ls' rest)) : Wk p l e R s m args below meth c n0 Q h cells slots (mkF m pc ls (v :: rest)) := by
  subst hq; exact Wk.step (fun T _ t X k => XS.astoreN X.here C.1 rfl (hb C.2.2.1 hd) rfl hv hl k) k
theorem w_iconst (C : Cx p s m meth c Z own nm bytes maxL ret) {pc q : Nat} {ls : Array Slot} {rest : List Value} {i : Int} (v : Int32) (hd : decode bytes pc = .ok (.iconst i, 1)) (hq : pc + 1 = q) (hv : Int32.ofInt i = v) (k : Wk p l e R s m args below meth c n0 Q h cells slots (mkF m q ls (.int v :: rest))) : Wk p l e R s m args below meth c n0 Q h cells slots (mkF m pc ls rest) := by
  subst hq; exact Wk.step (fun T _ t X k => XT.iconstV X.here C.1 rfl v (hb C.2.2.1 hd) hv k) k
theorem w_bipush (C : Cx p s m meth c Z own nm bytes maxL ret) {pc q : Nat} {ls : Array Slot} {rest : List Value} {i : Int} (v : Int32) (hd : decode bytes pc = .ok (.bipush i, 2)) (hq : pc + 2 = q) (hv : (Int8.ofInt i).toInt32 = v) (k : Wk p l e R s m args below meth c n0 Q h cells slots (mkF m q ls (.int v :: rest))) : Wk p l e R s m args below meth c n0 Q h cells slots (mkF m pc ls rest) := by
  subst hq; exact Wk.step (fun T _ t X k => XT.bipushV X.here C.1 rfl v (hb C.2.2.1 hd) hv k) k
theorem w_sipush (C : Cx p s m meth c Z own nm bytes maxL ret) {pc q : Nat} {ls : Array Slot} {rest : List Value} {i : Int} (v : Int32) (hd : decode bytes pc = .ok (.sipush i, 3)) (hq : pc + 3 = q) (hv : (Int16.ofInt i).toInt32 = v) (k : Wk p l e R s m args below meth c n0 Q h cells slots (mkF m q ls (.int v :: rest))) : Wk p l e R s m args below meth c n0 Q h cells slots (mkF m pc ls rest) := by
  subst hq; exact Wk.step (fun T _ t X k => XT.sipushV X.here C.1 rfl v (hb C.2.2.1 hd) hv k) k
theorem w_iadd (C : Cx p s m meth c Z own nm bytes maxL ret) {pc q : Nat} {ls : Array Slot} {rest : List Value} {x y : Int32} (hd : decode bytes pc = .ok (.iadd, 1)) (hq : pc + 1 = q) (k : Wk p l e R s m args below meth c n0 Q h cells slots (mkF m q ls (.int (x + y) :: rest))) : Wk p l e R s m args below meth c n0 Q h cells slots (mkF m pc ls (.int y :: .int x :: rest)) := by
  subst hq; exact Wk.step (fun T _ t X k => XS.iadd X.here C.1 rfl (hb C.2.2.1 hd) rfl k) k
theorem w_iand (C : Cx p s m meth c Z own nm bytes maxL ret) {pc q : Nat} {ls : Array Slot} {rest : List Value} {x y : Int32} (hd : decode bytes pc = .ok (.iand, 1)) (hq : pc + 1 = q) (k : Wk p l e R s m args below meth c n0 Q h cells slots (mkF m q ls (.int (x &&& y) :: rest))) : Wk p l e R s m args below meth c n0 Q h cells slots (mkF m pc ls (.int y :: .int x :: rest)) := by
  subst hq; exact Wk.step (fun T _ t X k => XS.iand X.here C.1 rfl (hb C.2.2.1 hd) rfl k) k
theorem w_ishr (C : Cx p s m meth c Z own nm bytes maxL ret) {pc q : Nat} {ls : Array Slot} {rest : List Value} {x y : Int32} (hd : decode bytes pc = .ok (.ishr, 1)) (hq : pc + 1 = q) (k : Wk p l e R s m args below meth c n0 Q h cells slots (mkF m q ls (.int (x >>> (y &&& 31)) :: rest))) : Wk p l e R s m args below meth c n0 Q h cells slots (mkF m pc ls (.int y :: .int x :: rest)) := by
  subst hq; exact Wk.step (fun T _ t X k => XT.ishr X.here C.1 rfl (hb C.2.2.1 hd) rfl k) k
theorem w_i2b (C : Cx p s m meth c Z own nm bytes maxL ret) {pc q : Nat} {ls : Array Slot} {rest : List Value} {x : Int32} (hd : decode bytes pc = .ok (.i2b, 1)) (hq : pc + 1 = q) (k : Wk p l e R s m args below meth c n0 Q h cells slots (mkF m q ls (.int x.toInt8.toInt32 :: rest))) : Wk p l e R s m args below meth c n0 Q h cells slots (mkF m pc ls (.int x :: rest)) := by
  subst hq; exact Wk.step (fun T _ t X k => XT.i2b X.here C.1 rfl (hb C.2.2.1 hd) rfl k) k
theorem w_dup (C : Cx p s m meth c Z own nm bytes maxL ret) {pc q : Nat} {ls : Array Slot} {rest : List Value} {x : Value} (hd : decode bytes pc = .ok (.dup, 1)) (hq : pc + 1 = q) (hx : x.category = 1) (k : Wk p l e R s m args below meth c n0 Q h cells slots (mkF m q ls (x :: x :: rest))) : Wk p l e R s m args below meth c n0 Q h cells slots (mkF m pc ls (x :: rest)) := by
  subst hq; exact Wk.step (fun T _ t X k => XS.dup X.here C.1 rfl (hb C.2.2.1 hd) rfl hx k) k
theorem w_goto (C : Cx p s m meth c Z own nm bytes maxL ret) {pc q : Nat} {ls : Array Slot} {rest : List Value} {o : Int} (hd : decode bytes pc = .ok (.goto o, 3)) (ho : 0 ≤ (pc : Int) + o) (hp : ((pc : Int) + o).toNat = q) (k : Wk p l e R s m args below meth c n0 Q h cells slots (mkF m q ls rest)) : Wk p l e R s m args below meth c n0 Q h cells slots (mkF m pc ls rest) :=
  Wk.step (fun T _ t X k => XS.goto X.here C.1 rfl rfl (hb C.2.2.1 hd) ho hp k) k
theorem w_ifeq_t (C : Cx p s m meth c Z own nm bytes maxL ret) {pc q : Nat} {ls : Array Slot} {rest : List Value} {x : Int32} {o : Int} (hd : decode bytes pc = .ok (.ifCond .eq o, 3)) (ho : 0 ≤ (pc : Int) + o) (hp : ((pc : Int) + o).toNat = q) (hc : x = 0) (k : Wk p l e R s m args below meth c n0 Q h cells slots (mkF m q ls rest)) : Wk p l e R s m args below meth c n0 Q h cells slots (mkF m pc ls (.int x :: rest)) :=
  Wk.step (fun T _ t X k => XS.ifYes X.here C.1 rfl rfl (hb C.2.2.1 hd) rfl (XT.i0_eq_t hc) ho hp k) k
theorem w_ifeq_f (C : Cx p s m meth c Z own nm bytes maxL ret) {pc q : Nat} {ls : Array Slot} {rest : List Value} {x : Int32} {o : Int} (hd : decode bytes pc = .ok (.ifCond .eq o, 3)) (hq : pc + 3 = q) (hc : ¬ x = 0) (k : Wk p l e R s m args below meth c n0 Q h cells slots (mkF m q ls rest)) : Wk p l e R s m args below meth c n0 Q h cells slots (mkF m pc ls (.int x :: rest)) := by
  subst hq; exact Wk.step (fun T _ t X k => XS.ifNo X.here C.1 rfl (hb C.2.2.1 hd) rfl (XT.i0_eq_f hc) k) k
theorem w_ifeq (C : Cx p s m meth c Z own nm bytes maxL ret) {pc q : Nat} {ls : Array Slot} {rest : List Value} {q' : Nat} {x : Int32} {o : Int} (hd : decode bytes pc = .ok (.ifCond .eq o, 3)) (ho : 0 ≤ (pc : Int) + o) (hp : ((pc : Int) + o).toNat = q) (hq : pc + 3 = q') (kt : x = 0 → Wk p l e R s m args below meth c n0 Q h cells slots (mkF m q ls rest)) (kf : ¬ x = 0 → Wk p l e R s m args below meth c n0 Q h cells slots (mkF m q' ls rest)) : Wk p l e R s m args below meth c n0 Q h cells slots (mkF m pc ls (.int x :: rest)) := by
  by_cases hc : x = 0
  · exact w_ifeq_t C hd ho hp hc (kt hc)
  · exact w_ifeq_f C hd hq hc (kf hc)
theorem w_iceq_t (C : Cx p s m meth c Z own nm bytes maxL ret) {pc q : Nat} {ls : Array Slot} {rest : List Value} {x y : Int32} {o : Int} (hd : decode bytes pc = .ok (.if_icmp .eq o, 3)) (ho : 0 ≤ (pc : Int) + o) (hp : ((pc : Int) + o).toNat = q) (hc : x = y) (k : Wk p l e R s m args below meth c n0 Q h cells slots (mkF m q ls rest)) : Wk p l e R s m args below meth c n0 Q h cells slots (mkF m pc ls (.int y :: .int x :: rest)) :=
  Wk.step (fun T _ t X k => XS.icmpYes X.here C.1 rfl rfl (hb C.2.2.1 hd) rfl (XT.ii_eq_t hc) ho hp k) k
theorem w_iceq_f (C : Cx p s m meth c Z own nm bytes maxL ret) {pc q : Nat} {ls : Array Slot} {rest : List Value} {x y : Int32} {o : Int} (hd : decode bytes pc = .ok (.if_icmp .eq o, 3)) (hq : pc + 3 = q) (hc : ¬ x = y) (k : Wk p l e R s m args below meth c n0 Q h cells slots (mkF m q ls rest)) : Wk p l e R s m args below meth c n0 Q h cells slots (mkF m pc ls (.int y :: .int x :: rest)) := by
  subst hq; exact Wk.step (fun T _ t X k => XS.icmpNo X.here C.1 rfl (hb C.2.2.1 hd) rfl (XT.ii_eq_f hc) k) k
theorem w_ifne_t (C : Cx p s m meth c Z own nm bytes maxL ret) {pc q : Nat} {ls : Array Slot} {rest : List Value} {x : Int32} {o : Int} (hd : decode bytes pc = .ok (.ifCond .ne o, 3)) (ho : 0 ≤ (pc : Int) + o) (hp : ((pc : Int) + o).toNat = q) (hc : ¬ x = 0) (k : Wk p l e R s m args below meth c n0 Q h cells slots (mkF m q ls rest)) : Wk p l e R s m args below meth c n0 Q h cells slots (mkF m pc ls (.int x :: rest)) :=
  Wk.step (fun T _ t X k => XS.ifYes X.here C.1 rfl rfl (hb C.2.2.1 hd) rfl (XT.i0_ne_t hc) ho hp k) k
theorem w_ifne_f (C : Cx p s m meth c Z own nm bytes maxL ret) {pc q : Nat} {ls : Array Slot} {rest : List Value} {x : Int32} {o : Int} (hd : decode bytes pc = .ok (.ifCond .ne o, 3)) (hq : pc + 3 = q) (hc : x = 0) (k : Wk p l e R s m args below meth c n0 Q h cells slots (mkF m q ls rest)) : Wk p l e R s m args below meth c n0 Q h cells slots (mkF m pc ls (.int x :: rest)) := by
  subst hq; exact Wk.step (fun T _ t X k => XS.ifNo X.here C.1 rfl (hb C.2.2.1 hd) rfl (XT.i0_ne_f hc) k) k
theorem w_ifne (C : Cx p s m meth c Z own nm bytes maxL ret) {pc q : Nat} {ls : Array Slot} {rest : List Value} {q' : Nat} {x : Int32} {o : Int} (hd : decode bytes pc = .ok (.ifCond .ne o, 3)) (ho : 0 ≤ (pc : Int) + o) (hp : ((pc : Int) + o).toNat = q) (hq : pc + 3 = q') (kt : ¬ x = 0 → Wk p l e R s m args below meth c n0 Q h cells slots (mkF m q ls rest)) (kf : x = 0 → Wk p l e R s m args below meth c n0 Q h cells slots (mkF m q' ls rest)) : Wk p l e R s m args below meth c n0 Q h cells slots (mkF m pc ls (.int x :: rest)) := by
  by_cases hc : x = 0
  · exact w_ifne_f C hd hq hc (kf hc)
  · exact w_ifne_t C hd ho hp hc (kt hc)
theorem w_icne_t (C : Cx p s m meth c Z own nm bytes maxL ret) {pc q : Nat} {ls : Array Slot} {rest : List Value} {x y : Int32} {o : Int} (hd : decode bytes pc = .ok (.if_icmp .ne o, 3)) (ho : 0 ≤ (pc : Int) + o) (hp : ((pc : Int) + o).toNat = q) (hc : ¬ x = y) (k : Wk p l e R s m args below meth c n0 Q h cells slots (mkF m q ls rest)) : Wk p l e R s m args below meth c n0 Q h cells slots (mkF m pc ls (.int y :: .int x :: rest)) :=
  Wk.step (fun T _ t X k => XS.icmpYes X.here C.1 rfl rfl (hb C.2.2.1 hd) rfl (XT.ii_ne_t hc) ho hp k) k
theorem w_icne_f (C : Cx p s m meth c Z own nm bytes maxL ret) {pc q : Nat} {ls : Array Slot} {rest : List Value} {x y : Int32} {o : Int} (hd : decode bytes pc = .ok (.if_icmp .ne o, 3)) (hq : pc + 3 = q) (hc : x = y) (k : Wk p l e R s m args below meth c n0 Q h cells slots (mkF m q ls rest)) : Wk p l e R s m args below meth c n0 Q h cells slots (mkF m pc ls (.int y :: .int x :: rest)) := by
  subst hq; exact Wk.step (fun T _ t X k => XS.icmpNo X.here C.1 rfl (hb C.2.2.1 hd) rfl (XT.ii_ne_f hc) k) k
theorem w_icne (C : Cx p s m meth c Z own nm bytes maxL ret) {pc q : Nat} {ls : Array Slot} {rest : List Value} {q' : Nat} {x y : Int32} {o : Int} (hd : decode bytes pc = .ok (.if_icmp .ne o, 3)) (ho : 0 ≤ (pc : Int) + o) (hp : ((pc : Int) + o).toNat = q) (hq : pc + 3 = q') (kt : ¬ x = y → Wk p l e R s m args below meth c n0 Q h cells slots (mkF m q ls rest)) (kf : x = y → Wk p l e R s m args below meth c n0 Q h cells slots (mkF m q' ls rest)) : Wk p l e R s m args below meth c n0 Q h cells slots (mkF m pc ls (.int y :: .int x :: rest)) := by
  by_cases hc : x = y
  · exact w_icne_f C hd hq hc (kf hc)
  · exact w_icne_t C hd ho hp hc (kt hc)
theorem w_getF (C : Cx p s m meth c Z own nm bytes maxL ret) {pc q : Nat} {ls : Array Slot} {rest : List Value} {O n d host : String} {i : Nat} {R0 : String} (w : (Jvm.Cond.fieldLink own i R0 n d).before a0 Z = true ∨ (Jvm.Cond.fieldLinkNest own i R0 n d host).before a0 Z = true) (via : Via Z R0 O n d) {a : Addr} {v : Value} (F : Fld Z h a O n d v) (hd : decode bytes pc = .ok (.getfield i, 3)) (hq : pc + 3 = q)
    (k : Wk p l e R s m args below meth c n0 Q h cells slots (mkF m q ls (v :: rest))) : Wk p l e R s m args below meth c n0 Q h cells slots (mkF m pc ls (.ref a :: rest)) := by
  subst hq
  intro T locs X eT N
  obtain ⟨T', X', e', st⟩ := getF X C.1 C.2.1 C.2.2.2.2.1 w via eT F (g := mkF m pc ls (.ref a :: rest)) rfl rfl (hb C.2.2.1 hd)
  obtain ⟨U, o, h1, r⟩ := k T' locs X' e' N
  exact ⟨U, o, st U h1, r⟩
theorem w_getS (C : Cx p s m meth c Z own nm bytes maxL ret) {pc q : Nat} {ls : Array Slot} {rest : List Value} {O n d host : String} {i : Nat} {R0 : String} (w : (Jvm.Cond.fieldLink own i R0 n d).before a0 Z = true ∨ (Jvm.Cond.fieldLinkNest own i R0 n d host).before a0 Z = true) (via : Via Z R0 O n d) {v : Value} (F : Sta Z h O n d v) (hd : decode bytes pc = .ok (.getstatic i, 3)) (hq : pc + 3 = q)
    (k : Wk p l e R s m args below meth c n0 Q h cells slots (mkF m q ls (v :: rest))) : Wk p l e R s m args below meth c n0 Q h cells slots (mkF m pc ls rest) := by
  subst hq
  intro T locs X eT N
  obtain ⟨T', X', e', st⟩ := getS2 X C.1 C.2.1 C.2.2.2.2.1 w via eT F (g := mkF m pc ls rest) rfl (hb C.2.2.1 hd)
  obtain ⟨U, o, h1, r⟩ := k T' locs X' e' N
  exact ⟨U, o, st U h1, r⟩
theorem Ars.of_new {h' : Heap} {a : Addr} {cA : ClassId} {ty : FieldType} {n : Int32} (hn : ¬ n < 0) (A : Arr Z h' a (newA cA ty n) ty) : Ars Z h' a cA ty (List.replicate n.toNatClampNeg (defaultValue ty)) :=
  ⟨_, A, rfl, by simp [newA], by simpa using (back32 hn).2⟩
theorem w_newP (C : Cx p s m meth c Z own nm bytes maxL ret) {pc q : Nat} {ls : Array Slot} {rest : List Value} {aty : ArrayType} (w : (Jvm.Cond.arrayClass (newarray.typeOf aty)).before a0 Z = true) (hd : decode bytes pc = .ok (.newarray aty, 2)) (hq : pc + 2 = q) {n : Int32} (hn : ¬ n < 0) (cap : Nat) (hcap : n.toNatClampNeg ≤ cap) (hbb : cap * 8 ≤ 536870912) (hc : cells + 1 ≤ R.cells) (hl : slots + cap ≤ R.slots)
    (k : ∀ h' a kA, a = h.size → Ext h h' → Ars Z h' a kA (newarray.typeOf aty) (List.replicate n.toNatClampNeg (defaultValue (newarray.typeOf aty))) → Wk p l e R s m args below meth c n0 Q h' (cells + 1) (slots + cap) (mkF m q ls (.ref a :: rest))) : Wk p l e R s m args below meth c n0 Q h cells slots (mkF m pc ls (.int n :: rest)) := by
  subst hq
  intro T locs X eT N
  obtain ⟨T', h', cA, X', e', E, A, st⟩ := newP X C.1 C.2.1 w eT (g := mkF m pc ls (.int n :: rest)) rfl (hb C.2.2.1 hd) rfl hn hcap hbb hc hl
  obtain ⟨U, o, h1, r⟩ := k h' h.size cA rfl E (Ars.of_new hn A) T' locs X' e' N
  exact ⟨U, o, st U h1, r⟩
theorem Ars.lt {a : Addr} {kA : ClassId} {ty : FieldType} {vs : List Value} (F : Ars Z h a kA ty vs) : a < h.size := by obtain ⟨_, A, -⟩ := F; exact A.lt
theorem Ars.ext {h' : Heap} {a : Addr} {kA : ClassId} {ty : FieldType} {vs : List Value} (F : Ars Z h a kA ty vs) (E : Ext h h') : Ars Z h' a kA ty vs := by obtain ⟨cl, A, r⟩ := F; exact ⟨cl, A.ext E, r⟩
theorem Ars.other {h' : Heap} {a b : Addr} {sl : Nat} {v : Value} {kA : ClassId} {ty : FieldType} {vs : List Value} (F : Ars Z h b kA ty vs) (W : Wr h h' a sl v) (q : b ≠ a) : Ars Z h' b kA ty vs := by obtain ⟨cl, A, r⟩ := F; exact ⟨cl, A.other W q, r⟩
theorem Ars.keep {h' : Heap} {a : Addr} {ws : List Addr} {kA : ClassId} {ty : FieldType} {vs : List Value} (F : Ars Z h a kA ty vs) (K : Keep h h' ws) (q : a ∉ ws) : Ars Z h' a kA ty vs := by obtain ⟨cl, A, r⟩ := F; exact ⟨cl, ⟨K.2.1 a cl A.1 q, A.2⟩, r⟩
theorem Ars.set {h' : Heap} {a : Addr} {j : Nat} {v : Value} {kA : ClassId} {ty : FieldType} {vs : List Value} (F : Ars Z h a kA ty vs) (W : Wr h h' a j v) : Ars Z h' a kA ty (vs.set j v) := by
  obtain ⟨cl, A, r1, r2, r3⟩ := F
  refine ⟨_, A.same W, r1, ?_, by simpa using r3⟩
  simp [Cell.setSlot, r2]
theorem Ars.inb {a : Addr} {kA : ClassId} {ty : FieldType} {vs : List Value} {cl : Cell} (r2 : cl.slots = vs.toArray) {j : Int32} {v : Value} (hj : ¬ j < 0) (hv : vs[j.toNatClampNeg]? = some v) : ¬ (j < 0 ∨ cl.slots.size ≤ j.toNatClampNeg) := by
  intro q
  rcases q with q | q
  · exact hj q
  · rw [r2] at q
    have := (List.getElem?_eq_some_iff.mp hv).1
    simp at q
    omega
theorem w_baload (C : Cx p s m meth c Z own nm bytes maxL ret) {pc q : Nat} {ls : Array Slot} {rest : List Value} {a : Addr} {kA : ClassId} {vs : List Value} (F : Ars Z h a kA .byte vs) {j : Int32} (v : Value) (hj : ¬ j < 0) (hv : vs[j.toNatClampNeg]? = some v) (hd : decode bytes pc = .ok (.baload, 1)) (hq : pc + 1 = q) (k : Wk p l e R s m args below meth c n0 Q h cells slots (mkF m q ls (v :: rest))) : Wk p l e R s m args below meth c n0 Q h cells slots (mkF m pc ls (.int j :: .ref a :: rest)) := by
  subst hq
  obtain ⟨cl, A, r1, r2, r3⟩ := F
  intro T locs X eT N
  obtain ⟨U, o, h1, r⟩ := k T locs X eT N
  exact ⟨U, o, X.baloadBytes C.1 (by rw [eT]; exact A.1) (State.isArrayOf_alike C.2.1.alike A.2.1) A.2.2 (Ars.inb (a := a) (kA := kA) (ty := .byte) r2 hj hv) (by rw [r2]; simpa using hv) (g := mkF m pc ls (.int j :: .ref a :: rest)) rfl rfl (hb C.2.2.1 hd) U h1, r⟩
theorem w_bastore (C : Cx p s m meth c Z own nm bytes maxL ret) {pc q : Nat} {ls : Array Slot} {rest : List Value} {a : Addr} {kA : ClassId} {vs : List Value} (F : Ars Z h a kA .byte vs) {j x : Int32} (hj : ¬ j < 0) (hv : j.toNatClampNeg < vs.length) (hd : decode bytes pc = .ok (.bastore, 1)) (hq : pc + 1 = q) (ha : n0 ≤ a)
    (k : ∀ h', Wr h h' a j.toNatClampNeg (.int x.toInt8.toInt32) → Ars Z h' a kA .byte (vs.set j.toNatClampNeg (.int x.toInt8.toInt32)) → Wk p l e R s m args below meth c n0 Q h' cells slots (mkF m q ls rest)) : Wk p l e R s m args below meth c n0 Q h cells slots (mkF m pc ls (.int x :: .int j :: .ref a :: rest)) := by
  subst hq
  have F' := F
  obtain ⟨cl, A, r1, r2, r3⟩ := F
  intro T locs X eT N
  obtain ⟨T', h', X', e', W, st⟩ := stB X C.1 C.2.1 eT A (j := j) (x := x) (Ars.inb (a := a) (kA := kA) (ty := .byte) r2 hj (List.getElem?_eq_getElem hv)) (g := mkF m pc ls (.int x :: .int j :: .ref a :: rest)) rfl rfl (hb C.2.2.1 hd)
  obtain ⟨U, o, h1, r⟩ := k h' W (F'.set W) T' _ X' e' (Fr.snoc X' N ha)
  exact ⟨U, o, st U h1, r⟩
/-! calls -/
theorem w_static (C : Cx p s m meth c Z own nm bytes maxL ret) {pc q : Nat} {ls : Array Slot} {rest : List Value} {y : MethodName} {yb : ByteArray} {yL : Nat} {yr : Option FieldType} {rm : Room} {i : Nat} {Qc : Option Value → Heap → Prop} {argsL : List Value} (w1 : (Jvm.Cond.methodLink own i y).before a0 Z = true) (w2 : (Jvm.Cond.static y).before a0 Z = true) (w3 : (Jvm.Cond.initialized y.cls).before a0 Z = true) (w4 : (Jvm.Cond.code y yb yL yr).before a0 Z = true) (hM : Met1 l Z y yb yL yr rm argsL.toArray h n0 Qc)
    (hy : y.cls ≠ "java/lang/invoke/MethodHandle" ∧ y.cls ≠ "java/lang/invoke/VarHandle") {st : List Value} (hlen : ∀ sig, parseMethodDescriptor y.desc = some sig → argsL.length = sig.parameters.length) (hst : st = argsL.reverse ++ rest) (hd : decode bytes pc = .ok (.invokestatic i, 3)) (hq : pc + 3 = q) (hsz : ls.size = maxL)
    (hf : rm.frames + 1 ≤ R.frames) (hl : (rest.map fun v => v.category).sum + (yL + 11) + rm.locals ≤ R.locals) (hc : cells + rm.cells ≤ R.cells) (hs : slots + rm.slots ≤ R.slots)
    (k : ∀ v h', Qc v h' → Wk p l e R s m args below meth c n0 Q h' (cells + rm.cells) (slots + rm.slots) (mkF m q ls (v.toList ++ rest))) : Wk p l e R s m args below meth c n0 Q h cells slots (mkF m pc ls st) := by
  subst hq
  intro T locs X eT N
  obtain ⟨v, _, ⟨T', L', k', n'⟩, -, X', ⟨Lc, hQ, l', y', z'⟩, stp⟩ := Jvm.LawKit.callS X C.1 (y := y) C.2.2.2.2.1 (mvT C.2.1 w1) (mvT C.2.1 w2) (mvT C.2.1 w3) (mvT C.2.1 w4) hy (backOf (Q := fun v h L => Qc v h ∧ Fr n0 L) (W := (rest.map fun v => v.category).sum) (hM []) C.2.1 w4 w3 hf hl) (g := mkF m pc ls st) rfl (by rw [C.2.2.2.1]; exact hsz) (argsL := argsL) (rest := rest) hlen hst (by show 2 * 0 + _ ≤ _; omega) (hb C.2.2.1 hd) (fun _ _ => ⟨rfl, eT, hc, hs⟩)
  dsimp only [Pt.U, Pt.locs, Pt.cells, Pt.slots] at X' l' y' z' stp hQ
  subst l' y' z'
  obtain ⟨U, o, h1, r⟩ := k v T'.heap hQ.1 T' _ X' rfl (Fr.app N hQ.2)
  exact ⟨U, o, stp U h1, r⟩
theorem w_virtual (C : Cx p s m meth c Z own nm bytes maxL ret) {pc q : Nat} {ls : Array Slot} {rest : List Value} {K : String} {y z : MethodName} {yb : ByteArray} {yL : Nat} {yr : Option FieldType} {rm : Room} {i : Nat} {Qc : Option Value → Heap → Prop} {a : Addr} {argsL : List Value} (w1 : (Jvm.Cond.methodLink own i y).before a0 Z = true) (w2 : (Jvm.Cond.declares y).before a0 Z = true) (w5 : (Jvm.Cond.selects y.cls y y).before a0 Z = true) (w6 : (Jvm.Cond.selects K y z).before a0 Z = true) (w7 : (Jvm.Cond.instanceMethod z).before a0 Z = true) (w3 : (Jvm.Cond.initialized z.cls).before a0 Z = true) (w4 : (Jvm.Cond.code z yb yL yr).before a0 Z = true) (E : Exa Z h a K) (hM : Met1 l Z z yb yL yr rm (.ref a :: argsL).toArray h n0 Qc)
    (hy : y.cls ≠ "java/lang/invoke/MethodHandle" ∧ y.cls ≠ "java/lang/invoke/VarHandle") {st : List Value} (hlen : ∀ sig, parseMethodDescriptor y.desc = some sig → argsL.length = sig.parameters.length) (hst : st = argsL.reverse ++ .ref a :: rest) (hd : decode bytes pc = .ok (.invokevirtual i, 3)) (hq : pc + 3 = q) (hsz : ls.size = maxL)
    (hf : rm.frames + 1 ≤ R.frames) (hl : (rest.map fun v => v.category).sum + (yL + 11) + rm.locals ≤ R.locals) (hc : cells + rm.cells ≤ R.cells) (hs : slots + rm.slots ≤ R.slots)
    (k : ∀ v h', Qc v h' → Wk p l e R s m args below meth c n0 Q h' (cells + rm.cells) (slots + rm.slots) (mkF m q ls (v.toList ++ rest))) : Wk p l e R s m args below meth c n0 Q h cells slots (mkF m pc ls st) := by
  subst hq
  intro T locs X eT N
  obtain ⟨cq, kq, q1, -, q3⟩ := isOf C.2.1 eT E
  obtain ⟨v, _, ⟨T', L', k', n'⟩, -, X', ⟨Lc, hQ, l', y', z'⟩, stp⟩ := X.virtualBack C.1 (y := y) (z := z) C.2.2.2.2.1 (mvT C.2.1 w1) (mvT C.2.1 w2) (notFace_of_selects (args := #[]) (mvT C.2.1 w5)) (mvT C.2.1 w6) (mvT C.2.1 w7) hy (backOf (Q := fun v h L => Qc v h ∧ Fr n0 L) (W := (rest.map fun v => v.category).sum) (hM []) C.2.1 w4 w3 hf hl) q1 q3 (g := mkF m pc ls st) rfl (by rw [C.2.2.2.1]; exact hsz) (Steps.refl _) (argsL := argsL) (rest := rest) hlen hst (by show 2 * 0 + _ ≤ _; omega) (hb C.2.2.1 hd) (fun _ _ => ⟨rfl, eT, hc, hs⟩)
  dsimp only [Pt.U, Pt.locs, Pt.cells, Pt.slots] at X' l' y' z' stp hQ
  subst l' y' z'
  obtain ⟨U, o, h1, r⟩ := k v T'.heap hQ.1 T' _ X' rfl (Fr.app N hQ.2)
  exact ⟨U, o, stp.trans h1, r⟩
/-! returns -/
theorem w_retN (C : Cx p s m meth c Z own nm bytes maxL (some .boolean)) {pc : Nat} {ls : Array Slot} {rest : List Value} {z : Int32} (hd : decode bytes pc = .ok (.ireturn, 1)) (hc : cells ≤ R.cells) (hs : slots ≤ R.slots) (hq : Q (some (.int (z &&& 1))) h) : Wk p l e R s m args below meth c n0 Q h cells slots (mkF m pc ls (.int z :: rest)) := fun T locs X eT N => by
  have hlk := C.2.2.2.2.2.2.2
  obtain ⟨fs, hr, hrun, hended, hW, hsame⟩ := X.leave (v := some (.int (nar .boolean z))) (fun q => by rw [C.2.2.2.2.2.2.1] at q; cases q) hlk
  exact ⟨_, _, retN X C.1 (t := .boolean) C.2.2.2.2.2.2.1 (by simp) (hb C.2.2.1 hd) hr, hrun, hended, _, locs, rfl, ⟨by show Q _ T.heap; rw [eT]; exact hq, N⟩, ⟨_, rfl⟩, hW, hsame.mono hc hs⟩
theorem w_retI (C : Cx p s m meth c Z own nm bytes maxL (some .int)) {pc : Nat} {ls : Array Slot} {rest : List Value} {z : Int32} (hd : decode bytes pc = .ok (.ireturn, 1)) (hc : cells ≤ R.cells) (hs : slots ≤ R.slots) (hq : Q (some (.int z)) h) : Wk p l e R s m args below meth c n0 Q h cells slots (mkF m pc ls (.int z :: rest)) := fun T locs X eT N => by
  have hlk := C.2.2.2.2.2.2.2
  obtain ⟨fs, hr, hrun, hended, hW, hsame⟩ := X.leave (v := some (.int z)) (fun q => by rw [C.2.2.2.2.2.2.1] at q; cases q) hlk
  exact ⟨_, _, retOut X C.1 (t := .int) C.2.2.2.2.2.2.1 rfl (Or.inl ⟨rfl, Or.inl rfl, z, rfl⟩) (hb C.2.2.1 hd) hr, hrun, hended, _, locs, rfl, ⟨by show Q _ T.heap; rw [eT]; exact hq, N⟩, ⟨_, rfl⟩, hW, hsame.mono hc hs⟩
theorem w_retA {ty : FieldType} (C : Cx p s m meth c Z own nm bytes maxL (some ty)) {pc : Nat} {ls : Array Slot} {rest : List Value} {v : Value} (hty : ty.isReference = true) (hv : v.isRef = true) (hd : decode bytes pc = .ok (.areturn, 1)) (hc : cells ≤ R.cells) (hs : slots ≤ R.slots) (hq : Q (some v) h) : Wk p l e R s m args below meth c n0 Q h cells slots (mkF m pc ls (v :: rest)) := fun T locs X eT N => by
  have hlk := C.2.2.2.2.2.2.2
  have hn : narrow ty v = v := by rcases ref_cases hv with rfl | ⟨y, rfl⟩ <;> cases ty <;> first | rfl | cases hty
  obtain ⟨fs, hr, hrun, hended, hW, hsame⟩ := X.leave (v := some v) (fun q => by rw [C.2.2.2.2.2.2.1] at q; cases q) hlk
  exact ⟨_, _, retOut X C.1 (t := ty) C.2.2.2.2.2.2.1 hn (Or.inr (Or.inr (Or.inr (Or.inr ⟨rfl, hty, hv⟩)))) (hb C.2.2.1 hd) hr, hrun, hended, _, locs, rfl, ⟨by show Q _ T.heap; rw [eT]; exact hq, N⟩, ⟨_, rfl⟩, hW, hsame.mono hc hs⟩
end Laws
end Jvm.Own
namespace Jvm.Pilot.@@N@@
open Jvm Jvm.ClassFile Sem Op Lib Jvm.Free Jvm.Stand Jvm.LawKit Jvm.RoadKit Bundle Jvm.Own Jvm.Pilot.@@N@@.Jvm.D
theorem pn_0 : plainName "com/example/fieldstead/protocol/modbus/ReadCommandMaxQuantityPinLaw" = true := by first | (simp [plainName, overriddenIn]; done) | decide +kernel
theorem pn_1 : plainName "com/example/fieldstead/protocol/modbus/ReadCommandMaxQuantityPinLaw" = true := by first | (simp [plainName, overriddenIn]; done) | decide +kernel
theorem pn_2 : plainName "com/example/fieldstead/protocol/modbus/ReadCommand" = true := by first | (simp [plainName, overriddenIn]; done) | decide +kernel
theorem pn_3 : plainName "com/example/fieldstead/protocol/modbus/ReadCommand" = true := by first | (simp [plainName, overriddenIn]; done) | decide +kernel
theorem d1_0 : decode method_2_code 0 = .ok (.iload_n 0, 1) := by decide +kernel
theorem d1_1 : decode method_2_code 1 = .ok (.ifCond .ne 7, 3) := by decide +kernel
theorem d1_4 : decode method_2_code 4 = .ok (.getstatic 7, 3) := by decide +kernel
theorem d1_7 : decode method_2_code 7 = .ok (.areturn, 1) := by decide +kernel
theorem d1_8 : decode method_2_code 8 = .ok (.iload_n 0, 1) := by decide +kernel
theorem d1_9 : decode method_2_code 9 = .ok (.iconst 1, 1) := by decide +kernel
theorem d1_10 : decode method_2_code 10 = .ok (.if_icmp .ne 7, 3) := by decide +kernel
theorem d1_13 : decode method_2_code 13 = .ok (.getstatic 13, 3) := by decide +kernel
theorem d1_16 : decode method_2_code 16 = .ok (.areturn, 1) := by decide +kernel
theorem d1_17 : decode method_2_code 17 = .ok (.iload_n 0, 1) := by decide +kernel
theorem d1_18 : decode method_2_code 18 = .ok (.iconst 2, 1) := by decide +kernel
theorem d1_19 : decode method_2_code 19 = .ok (.if_icmp .ne 7, 3) := by decide +kernel
theorem d1_22 : decode method_2_code 22 = .ok (.getstatic 16, 3) := by decide +kernel
theorem d1_25 : decode method_2_code 25 = .ok (.areturn, 1) := by decide +kernel
theorem d1_26 : decode method_2_code 26 = .ok (.getstatic 19, 3) := by decide +kernel
theorem d1_29 : decode method_2_code 29 = .ok (.areturn, 1) := by decide +kernel
theorem d2_0 : decode prog_44_method_6_code 0 = .ok (.iconst 5, 1) := by decide +kernel
theorem d2_1 : decode prog_44_method_6_code 1 = .ok (.newarray .byte, 2) := by decide +kernel
theorem d2_3 : decode prog_44_method_6_code 3 = .ok (.dup, 1) := by decide +kernel
theorem d2_4 : decode prog_44_method_6_code 4 = .ok (.iconst 0, 1) := by decide +kernel
theorem d2_5 : decode prog_44_method_6_code 5 = .ok (.aload_n 0, 1) := by decide +kernel
theorem d2_6 : decode prog_44_method_6_code 6 = .ok (.getfield 35, 3) := by decide +kernel
theorem d2_9 : decode prog_44_method_6_code 9 = .ok (.i2b, 1) := by decide +kernel
theorem d2_10 : decode prog_44_method_6_code 10 = .ok (.bastore, 1) := by decide +kernel
theorem d2_11 : decode prog_44_method_6_code 11 = .ok (.dup, 1) := by decide +kernel
theorem d2_12 : decode prog_44_method_6_code 12 = .ok (.iconst 1, 1) := by decide +kernel
theorem d2_13 : decode prog_44_method_6_code 13 = .ok (.iload_n 1, 1) := by decide +kernel
theorem d2_14 : decode prog_44_method_6_code 14 = .ok (.bipush 8, 2) := by decide +kernel
theorem d2_16 : decode prog_44_method_6_code 16 = .ok (.ishr, 1) := by decide +kernel
theorem d2_17 : decode prog_44_method_6_code 17 = .ok (.i2b, 1) := by decide +kernel
theorem d2_18 : decode prog_44_method_6_code 18 = .ok (.bastore, 1) := by decide +kernel
theorem d2_19 : decode prog_44_method_6_code 19 = .ok (.dup, 1) := by decide +kernel
theorem d2_20 : decode prog_44_method_6_code 20 = .ok (.iconst 2, 1) := by decide +kernel
theorem d2_21 : decode prog_44_method_6_code 21 = .ok (.iload_n 1, 1) := by decide +kernel
theorem d2_22 : decode prog_44_method_6_code 22 = .ok (.i2b, 1) := by decide +kernel
theorem d2_23 : decode prog_44_method_6_code 23 = .ok (.bastore, 1) := by decide +kernel
theorem d2_24 : decode prog_44_method_6_code 24 = .ok (.dup, 1) := by decide +kernel
theorem d2_25 : decode prog_44_method_6_code 25 = .ok (.iconst 3, 1) := by decide +kernel
theorem d2_26 : decode prog_44_method_6_code 26 = .ok (.iload_n 2, 1) := by decide +kernel
theorem d2_27 : decode prog_44_method_6_code 27 = .ok (.bipush 8, 2) := by decide +kernel
theorem d2_29 : decode prog_44_method_6_code 29 = .ok (.ishr, 1) := by decide +kernel
theorem d2_30 : decode prog_44_method_6_code 30 = .ok (.i2b, 1) := by decide +kernel
theorem d2_31 : decode prog_44_method_6_code 31 = .ok (.bastore, 1) := by decide +kernel
theorem d2_32 : decode prog_44_method_6_code 32 = .ok (.dup, 1) := by decide +kernel
theorem d2_33 : decode prog_44_method_6_code 33 = .ok (.iconst 4, 1) := by decide +kernel
theorem d2_34 : decode prog_44_method_6_code 34 = .ok (.iload_n 2, 1) := by decide +kernel
theorem d2_35 : decode prog_44_method_6_code 35 = .ok (.i2b, 1) := by decide +kernel
theorem d2_36 : decode prog_44_method_6_code 36 = .ok (.bastore, 1) := by decide +kernel
theorem d2_37 : decode prog_44_method_6_code 37 = .ok (.areturn, 1) := by decide +kernel
theorem d3_0 : decode prog_44_method_5_code 0 = .ok (.aload_n 0, 1) := by decide +kernel
theorem d3_1 : decode prog_44_method_5_code 1 = .ok (.getfield 43, 3) := by decide +kernel
theorem d3_4 : decode prog_44_method_5_code 4 = .ok (.ifCond .eq 9, 3) := by decide +kernel
theorem d3_7 : decode prog_44_method_5_code 7 = .ok (.sipush 2000, 3) := by decide +kernel
theorem d3_10 : decode prog_44_method_5_code 10 = .ok (.goto 5, 3) := by decide +kernel
theorem d3_13 : decode prog_44_method_5_code 13 = .ok (.bipush 125, 2) := by decide +kernel
theorem d3_15 : decode prog_44_method_5_code 15 = .ok (.ireturn, 1) := by decide +kernel
theorem pd_0 : parseMethodDescriptor "(I)Lcom/example/fieldstead/protocol/modbus/ReadCommand;" = some ⟨[.int], some (.object "com/example/fieldstead/protocol/modbus/ReadCommand")⟩ := by decide +kernel
theorem pd_1 : parseMethodDescriptor "(II)[B" = some ⟨[.int, .int], some (.array .byte)⟩ := by decide +kernel
theorem pd_2 : parseMethodDescriptor "()I" = some ⟨[], some .int⟩ := by decide +kernel
def pk (i : Int32) (c1 c2 c3 c4 : Addr) : Addr := if i = 0 then c1 else if i = 1 then c2 else if i = 2 then c3 else c4
theorem own_pk0 (c1 c2 c3 c4 : Addr) : pk 0 c1 c2 c3 c4 = c1 := if_pos rfl
theorem own_pk1 (c1 c2 c3 c4 : Addr) : pk 1 c1 c2 c3 c4 = c2 := (if_neg (by decide)).trans (if_pos rfl)
theorem own_pk2 (c1 c2 c3 c4 : Addr) : pk 2 c1 c2 c3 c4 = c3 := (if_neg (by decide)).trans ((if_neg (by decide)).trans (if_pos rfl))
theorem own_pk3 (c1 c2 c3 c4 : Addr) : pk 3 c1 c2 c3 c4 = c4 := (if_neg (by decide)).trans ((if_neg (by decide)).trans (if_neg (by decide)))
theorem own_and3 (x : Int32) : x &&& 3 = 0 ∨ x &&& 3 = 1 ∨ x &&& 3 = 2 ∨ x &&& 3 = 3 := by
  have e : (x &&& 3).toInt = x.toInt % (2 ^ 2 : Nat) := c_mask x 3 2 (by decide) (by decide)
  have r : (x &&& 3).toInt = 0 ∨ (x &&& 3).toInt = 1 ∨ (x &&& 3).toInt = 2 ∨ (x &&& 3).toInt = 3 := by omega
  exact r.imp (fun q => Int32.toInt_inj.mp q) (fun r => r.imp (fun q => Int32.toInt_inj.mp q) (fun r => r.imp (fun q => Int32.toInt_inj.mp q) (fun q => Int32.toInt_inj.mp q)))
theorem own_eqI {args : Array Value} {Z : State} {t : Term} {n : Int32} (h : (Jvm.Cond.eq t (.int n)).value args Z none Z [] = some true) : t.eval args Z none [] Z = some (.int n) := by
  simp only [Cond.value] at h
  cases ht : t.eval args Z none [] Z with
  | none => simp [ht] at h
  | some x => cases x <;> simp [ht, Term.eval] at h ⊢; exact h
theorem own_fld {args : Array Value} {Z : State} {t : Term} {C n d : String} {a : Addr} {v : Int32} (ht : t.eval args Z none [] Z = some (.ref a)) (h : (Jvm.Cond.eq (.field t C n d) (.int v)).value args Z none Z [] = some true) : Fld Z Z.heap a C n d (.int v) :=
  Fld.start ((fld_at ht).symm.trans (own_eqI h))
theorem ef_1 (m : MethodId) (x0 : Int32) : entryFrame m #[(.int x0)] 1 = mkF m 0 #[.val (.int x0)] [] := by first | (simp [entryFrame, mkF, argsToLocals, Value.category]; done) | rfl
set_option maxRecDepth 65536 in
set_option maxHeartbeats 40000000 in
theorem rm1 (l : Launch) (Z : State) (a0 : Array Value) (hw : ∀ d ∈ tables_1, d.before a0 Z = true) (x0 : Int32) (h0 : Heap) (n0 : Nat) (Z0 : n0 ≤ h0.size) (c1 : Addr) (c2 : Addr) (c3 : Addr) (c4 : Addr) (S1 : Sta Z h0 "com/example/fieldstead/protocol/modbus/ReadCommand" "READ_COIL_STATUS" "Lcom/example/fieldstead/protocol/modbus/ReadCommand;" (.ref c1)) (S2 : Sta Z h0 "com/example/fieldstead/protocol/modbus/ReadCommand" "READ_INPUT_STATUS" "Lcom/example/fieldstead/protocol/modbus/ReadCommand;" (.ref c2)) (S3 : Sta Z h0 "com/example/fieldstead/protocol/modbus/ReadCommand" "READ_HOLDING_REGS" "Lcom/example/fieldstead/protocol/modbus/ReadCommand;" (.ref c3)) (S4 : Sta Z h0 "com/example/fieldstead/protocol/modbus/ReadCommand" "READ_INPUT_REGS" "Lcom/example/fieldstead/protocol/modbus/ReadCommand;" (.ref c4)) :
    Met1 l Z ⟨"com/example/fieldstead/protocol/modbus/ReadCommandMaxQuantityPinLaw", "pick", "(I)Lcom/example/fieldstead/protocol/modbus/ReadCommand;"⟩ method_2_code 1 (some (.object "com/example/fieldstead/protocol/modbus/ReadCommand")) ({ frames := 0, cells := 0, slots := 0, locals := 0 } : Room) #[(.int x0)] h0 n0 (fun v h => v = some (.ref (pk x0 c1 c2 c3 c4)) ∧ h0 = h) := by
  refine Met1.of_body pn_1 (fun p e s m below meth c C => ?_)
  replace C : Cx p s m meth c Z "com/example/fieldstead/protocol/modbus/ReadCommandMaxQuantityPinLaw" "pick" method_2_code 1 (some (.object "com/example/fieldstead/protocol/modbus/ReadCommand")) := C
  refine Wk.cast (ef_1 m x0) ?_
  refine w_iloadN C (q := 1) d1_0 rfl rfl ?_
  refine w_ifne C (q := 8) (q' := 4) d1_1 (by decide) (by decide) rfl (fun hc1 => ?_) (fun hc1 => ?_)
  · refine w_iloadN C (q := 9) d1_8 rfl rfl ?_
    refine w_iconst C (q := 10) (1 : Int32) d1_9 rfl (by decide) ?_
    refine w_icne C (q := 17) (q' := 13) d1_10 (by decide) (by decide) rfl (fun hc10 => ?_) (fun hc10 => ?_)
    · refine w_iloadN C (q := 18) d1_17 rfl rfl ?_
      refine w_iconst C (q := 19) (2 : Int32) d1_18 rfl (by decide) ?_
      refine w_icne C (q := 26) (q' := 22) d1_19 (by decide) (by decide) rfl (fun hc19 => ?_) (fun hc19 => ?_)
      · refine w_getS C (q := 29) (host := "") (Or.inl (hw _ (List.mem_of_getElem? (i := 22) rfl))) Via.refl S4 d1_26 rfl ?_
        exact w_retA C rfl rfl d1_29 (by decide) (by decide) ⟨by rw [pk, if_neg hc1, if_neg hc10, if_neg hc19], rfl⟩
      · refine w_getS C (q := 25) (host := "") (Or.inl (hw _ (List.mem_of_getElem? (i := 24) rfl))) Via.refl S3 d1_22 rfl ?_
        exact w_retA C rfl rfl d1_25 (by decide) (by decide) ⟨by rw [pk, if_neg hc1, if_neg hc10, if_pos hc19], rfl⟩
    · refine w_getS C (q := 16) (host := "") (Or.inl (hw _ (List.mem_of_getElem? (i := 26) rfl))) Via.refl S2 d1_13 rfl ?_
      exact w_retA C rfl rfl d1_16 (by decide) (by decide) ⟨by rw [pk, if_neg hc1, if_pos hc10], rfl⟩
  · refine w_getS C (q := 7) (host := "") (Or.inl (hw _ (List.mem_of_getElem? (i := 4) rfl))) Via.refl S1 d1_4 rfl ?_
    exact w_retA C rfl rfl d1_7 (by decide) (by decide) ⟨by rw [pk, if_pos hc1], rfl⟩
theorem ef_2 (m : MethodId) (a1 : Addr) (x1 : Int32) (x2 : Int32) : entryFrame m #[(.ref a1), (.int x1), (.int x2)] 3 = mkF m 0 #[.val (.ref a1), .val (.int x1), .val (.int x2)] [] := by first | (simp [entryFrame, mkF, argsToLocals, Value.category]; done) | rfl
set_option maxRecDepth 65536 in
set_option maxHeartbeats 40000000 in
theorem rm2 (l : Launch) (Z : State) (a0 : Array Value) (hw : ∀ d ∈ tables_1, d.before a0 Z = true) (a1 : Addr) (x1 : Int32) (x2 : Int32) (h0 : Heap) (n0 : Nat) (Z0 : n0 ≤ h0.size) (fn : Int32) (F1 : Fld Z h0 a1 "com/example/fieldstead/protocol/modbus/ReadCommand" "function" "I" (.int fn)) :
    Met1 l Z ⟨"com/example/fieldstead/protocol/modbus/ReadCommand", "request", "(II)[B"⟩ prog_44_method_6_code 3 (some (.array .byte)) ({ frames := 0, cells := 1, slots := 5, locals := 0 } : Room) #[(.ref a1), (.int x1), (.int x2)] h0 n0 (fun v h => ∃ b k, v = some (.ref b) ∧ h0.size ≤ b ∧ Keep h0 h [] ∧ Ars Z h b k .byte [(.int fn.toInt8.toInt32.toInt8.toInt32), (.int (x1 >>> ((8 : Int32) &&& 31)).toInt8.toInt32.toInt8.toInt32), (.int x1.toInt8.toInt32.toInt8.toInt32), (.int (x2 >>> ((8 : Int32) &&& 31)).toInt8.toInt32.toInt8.toInt32), (.int x2.toInt8.toInt32.toInt8.toInt32)]) := by
  refine Met1.of_body pn_2 (fun p e s m below meth c C => ?_)
  replace C : Cx p s m meth c Z "com/example/fieldstead/protocol/modbus/ReadCommand" "request" prog_44_method_6_code 3 (some (.array .byte)) := C
  refine Wk.cast (ef_2 m a1 x1 x2) ?_
  have K : Keep h0 h0 [] := Keep.refl _ _
  refine w_iconst C (q := 1) (5 : Int32) d2_0 rfl (by decide) ?_
  refine w_newP C (q := 3) (hw _ (List.mem_of_getElem? (i := 12) rfl)) d2_1 rfl (by decide) 5 (by decide) (by decide) (by decide) (by decide) ?_
  intro h1 b k_b eq_b Ehh1 A_b
  replace A_b : Ars Z h1 b k_b .byte [(.int (0 : Int32)), (.int (0 : Int32)), (.int (0 : Int32)), (.int (0 : Int32)), (.int (0 : Int32))] := A_b
  have lt_a1_b : a1 < b := Nat.lt_of_lt_of_le F1.lt (Nat.le_of_eq eq_b.symm)
  have g_b : n0 ≤ b := Nat.le_trans Z0 (Nat.le_of_eq eq_b.symm)
  have sz_b : h0.size ≤ b := Nat.le_trans K.1 (Nat.le_of_eq eq_b.symm)
  replace Z0 := Nat.le_trans Z0 Ehh1.1
  replace F1 := F1.ext Ehh1
  replace K := K.ext Ehh1
  refine w_dup C (q := 4) d2_3 rfl rfl ?_
  refine w_iconst C (q := 5) (0 : Int32) d2_4 rfl (by decide) ?_
  refine w_aloadN C (q := 6) d2_5 rfl rfl rfl ?_
  refine w_getF C (q := 9) (host := "") (Or.inl (hw _ (List.mem_of_getElem? (i := 13) rfl))) Via.refl F1 d2_6 rfl ?_
  refine w_i2b C (q := 10) d2_9 rfl ?_
  refine w_bastore C (q := 11) A_b (by decide) (Nat.le_of_ble_eq_true rfl) d2_10 rfl g_b ?_
  intro h2 Wh2 A'
  replace A_b : Ars Z h2 b k_b .byte [(.int fn.toInt8.toInt32.toInt8.toInt32), (.int (0 : Int32)), (.int (0 : Int32)), (.int (0 : Int32)), (.int (0 : Int32))] := A'
  skip
  replace F1 := F1.other Wh2 (Or.inl (Nat.ne_of_lt lt_a1_b))
  replace K := K.wr Wh2 (Or.inr sz_b)
  refine w_dup C (q := 12) d2_11 rfl rfl ?_
  refine w_iconst C (q := 13) (1 : Int32) d2_12 rfl (by decide) ?_
  refine w_iloadN C (q := 14) d2_13 rfl rfl ?_
  refine w_bipush C (q := 16) (8 : Int32) d2_14 rfl (by decide) ?_
  refine w_ishr C (q := 17) d2_16 rfl ?_
  refine w_i2b C (q := 18) d2_17 rfl ?_
  refine w_bastore C (q := 19) A_b (by decide) (Nat.le_of_ble_eq_true rfl) d2_18 rfl g_b ?_
  intro h3 Wh3 A'
  replace A_b : Ars Z h3 b k_b .byte [(.int fn.toInt8.toInt32.toInt8.toInt32), (.int (x1 >>> ((8 : Int32) &&& 31)).toInt8.toInt32.toInt8.toInt32), (.int (0 : Int32)), (.int (0 : Int32)), (.int (0 : Int32))] := A'
  skip
  replace F1 := F1.other Wh3 (Or.inl (Nat.ne_of_lt lt_a1_b))
  replace K := K.wr Wh3 (Or.inr sz_b)
  refine w_dup C (q := 20) d2_19 rfl rfl ?_
  refine w_iconst C (q := 21) (2 : Int32) d2_20 rfl (by decide) ?_
  refine w_iloadN C (q := 22) d2_21 rfl rfl ?_
  refine w_i2b C (q := 23) d2_22 rfl ?_
  refine w_bastore C (q := 24) A_b (by decide) (Nat.le_of_ble_eq_true rfl) d2_23 rfl g_b ?_
  intro h4 Wh4 A'
  replace A_b : Ars Z h4 b k_b .byte [(.int fn.toInt8.toInt32.toInt8.toInt32), (.int (x1 >>> ((8 : Int32) &&& 31)).toInt8.toInt32.toInt8.toInt32), (.int x1.toInt8.toInt32.toInt8.toInt32), (.int (0 : Int32)), (.int (0 : Int32))] := A'
  skip
  replace F1 := F1.other Wh4 (Or.inl (Nat.ne_of_lt lt_a1_b))
  replace K := K.wr Wh4 (Or.inr sz_b)
  refine w_dup C (q := 25) d2_24 rfl rfl ?_
  refine w_iconst C (q := 26) (3 : Int32) d2_25 rfl (by decide) ?_
  refine w_iloadN C (q := 27) d2_26 rfl rfl ?_
  refine w_bipush C (q := 29) (8 : Int32) d2_27 rfl (by decide) ?_
  refine w_ishr C (q := 30) d2_29 rfl ?_
  refine w_i2b C (q := 31) d2_30 rfl ?_
  refine w_bastore C (q := 32) A_b (by decide) (Nat.le_of_ble_eq_true rfl) d2_31 rfl g_b ?_
  intro h5 Wh5 A'
  replace A_b : Ars Z h5 b k_b .byte [(.int fn.toInt8.toInt32.toInt8.toInt32), (.int (x1 >>> ((8 : Int32) &&& 31)).toInt8.toInt32.toInt8.toInt32), (.int x1.toInt8.toInt32.toInt8.toInt32), (.int (x2 >>> ((8 : Int32) &&& 31)).toInt8.toInt32.toInt8.toInt32), (.int (0 : Int32))] := A'
  skip
  replace F1 := F1.other Wh5 (Or.inl (Nat.ne_of_lt lt_a1_b))
  replace K := K.wr Wh5 (Or.inr sz_b)
  refine w_dup C (q := 33) d2_32 rfl rfl ?_
  refine w_iconst C (q := 34) (4 : Int32) d2_33 rfl (by decide) ?_
  refine w_iloadN C (q := 35) d2_34 rfl rfl ?_
  refine w_i2b C (q := 36) d2_35 rfl ?_
  refine w_bastore C (q := 37) A_b (by decide) (Nat.le_of_ble_eq_true rfl) d2_36 rfl g_b ?_
  intro h6 Wh6 A'
  replace A_b : Ars Z h6 b k_b .byte [(.int fn.toInt8.toInt32.toInt8.toInt32), (.int (x1 >>> ((8 : Int32) &&& 31)).toInt8.toInt32.toInt8.toInt32), (.int x1.toInt8.toInt32.toInt8.toInt32), (.int (x2 >>> ((8 : Int32) &&& 31)).toInt8.toInt32.toInt8.toInt32), (.int x2.toInt8.toInt32.toInt8.toInt32)] := A'
  skip
  replace F1 := F1.other Wh6 (Or.inl (Nat.ne_of_lt lt_a1_b))
  replace K := K.wr Wh6 (Or.inr sz_b)
  exact w_retA C rfl rfl d2_37 (by decide) (by decide) ⟨b, k_b, rfl, sz_b, K, A_b⟩
theorem ef_3 (m : MethodId) (a1 : Addr) : entryFrame m #[(.ref a1)] 1 = mkF m 0 #[.val (.ref a1)] [] := by first | (simp [entryFrame, mkF, argsToLocals, Value.category]; done) | rfl
set_option maxRecDepth 65536 in
set_option maxHeartbeats 40000000 in
theorem rm3 (l : Launch) (Z : State) (a0 : Array Value) (hw : ∀ d ∈ tables_1, d.before a0 Z = true) (a1 : Addr) (h0 : Heap) (n0 : Nat) (Z0 : n0 ≤ h0.size) (bt : Int32) (F1 : Fld Z h0 a1 "com/example/fieldstead/protocol/modbus/ReadCommand" "bits" "Z" (.int bt)) :
    Met1 l Z ⟨"com/example/fieldstead/protocol/modbus/ReadCommand", "maxQuantity", "()I"⟩ prog_44_method_5_code 1 (some .int) ({ frames := 0, cells := 0, slots := 0, locals := 0 } : Room) #[(.ref a1)] h0 n0 (fun v h => v = some (.int (if bt = 0 then (125 : Int32) else (2000 : Int32))) ∧ h0 = h) := by
  refine Met1.of_body pn_3 (fun p e s m below meth c C => ?_)
  replace C : Cx p s m meth c Z "com/example/fieldstead/protocol/modbus/ReadCommand" "maxQuantity" prog_44_method_5_code 1 (some .int) := C
  refine Wk.cast (ef_3 m a1) ?_
  refine w_aloadN C (q := 1) d3_0 rfl rfl rfl ?_
  refine w_getF C (q := 4) (host := "") (Or.inl (hw _ (List.mem_of_getElem? (i := 20) rfl))) Via.refl F1 d3_1 rfl ?_
  refine w_ifeq C (q := 13) (q' := 7) d3_4 (by decide) (by decide) rfl (fun hc4 => ?_) (fun hc4 => ?_)
  · refine w_bipush C (q := 15) (125 : Int32) d3_13 rfl (by decide) ?_
    exact w_retI C d3_15 (by decide) (by decide) ⟨by rw [if_pos hc4], rfl⟩
  · refine w_sipush C (q := 10) (2000 : Int32) d3_7 rfl (by decide) ?_
    refine w_goto C (q := 15) d3_10 (by decide) (by decide) ?_
    exact w_retI C d3_15 (by decide) (by decide) ⟨by rw [if_neg hc4], rfl⟩
theorem ef_0 (m : MethodId) (p1 : Int32) : entryFrame m #[(.int p1)] maxLocals = mkF m 0 #[.val (.int p1), .unset, .unset, .unset, .unset, .unset] [] := by first | (simp [entryFrame, mkF, argsToLocals, Value.category, maxLocals]; done) | rfl
set_option maxRecDepth 65536 in
set_option maxHeartbeats 40000000 in
theorem rm0 (l : Launch) (Z : State) (a0 : Array Value) (hw : ∀ d ∈ tables_1, d.before a0 Z = true) (p1 : Int32) (h0 : Heap) (n0 : Nat) (Z0 : n0 ≤ h0.size) (c1 : Addr) (c2 : Addr) (c3 : Addr) (c4 : Addr) (S1 : Sta Z h0 "com/example/fieldstead/protocol/modbus/ReadCommand" "READ_COIL_STATUS" "Lcom/example/fieldstead/protocol/modbus/ReadCommand;" (.ref c1)) (S2 : Sta Z h0 "com/example/fieldstead/protocol/modbus/ReadCommand" "READ_INPUT_STATUS" "Lcom/example/fieldstead/protocol/modbus/ReadCommand;" (.ref c2)) (S3 : Sta Z h0 "com/example/fieldstead/protocol/modbus/ReadCommand" "READ_HOLDING_REGS" "Lcom/example/fieldstead/protocol/modbus/ReadCommand;" (.ref c3)) (S4 : Sta Z h0 "com/example/fieldstead/protocol/modbus/ReadCommand" "READ_INPUT_REGS" "Lcom/example/fieldstead/protocol/modbus/ReadCommand;" (.ref c4)) (E1 : Exa Z h0 c1 "com/example/fieldstead/protocol/modbus/ReadCommand") (F1 : Fld Z h0 c1 "com/example/fieldstead/protocol/modbus/ReadCommand" "function" "I" (.int (1 : Int32))) (B1 : Fld Z h0 c1 "com/example/fieldstead/protocol/modbus/ReadCommand" "bits" "Z" (.int (1 : Int32))) (E2 : Exa Z h0 c2 "com/example/fieldstead/protocol/modbus/ReadCommand") (F2 : Fld Z h0 c2 "com/example/fieldstead/protocol/modbus/ReadCommand" "function" "I" (.int (2 : Int32))) (B2 : Fld Z h0 c2 "com/example/fieldstead/protocol/modbus/ReadCommand" "bits" "Z" (.int (1 : Int32))) (E3 : Exa Z h0 c3 "com/example/fieldstead/protocol/modbus/ReadCommand") (F3 : Fld Z h0 c3 "com/example/fieldstead/protocol/modbus/ReadCommand" "function" "I" (.int (3 : Int32))) (B3 : Fld Z h0 c3 "com/example/fieldstead/protocol/modbus/ReadCommand" "bits" "Z" (.int (0 : Int32))) (E4 : Exa Z h0 c4 "com/example/fieldstead/protocol/modbus/ReadCommand") (F4 : Fld Z h0 c4 "com/example/fieldstead/protocol/modbus/ReadCommand" "function" "I" (.int (4 : Int32))) (B4 : Fld Z h0 c4 "com/example/fieldstead/protocol/modbus/ReadCommand" "bits" "Z" (.int (0 : Int32))) :
    Met1 l Z x code maxLocals ret room_1 #[(.int p1)] h0 n0 (fun v h => v = some (.int 1)) := by
  refine Met1.of_body pn_0 (fun p e s m below meth c C => ?_)
  replace C : Cx p s m meth c Z "com/example/fieldstead/protocol/modbus/ReadCommandMaxQuantityPinLaw" "law" code 6 (some .boolean) := C
  refine Wk.cast (ef_0 m p1) ?_
  refine w_iloadN C (q := 1) at_0 rfl rfl ?_
  refine w_iconst C (q := 2) (3 : Int32) at_1 rfl (by decide) ?_
  refine w_iand C (q := 3) at_2 rfl ?_
  refine w_istoreN C (q := 4) #[.val (.int p1), .val (.int (p1 &&& (3 : Int32))), .unset, .unset, .unset, .unset] at_3 rfl rfl ?_
  rcases own_and3 p1 with hi | hi | hi | hi
  · rw [hi]
    refine w_iloadN C (q := 5) at_4 rfl rfl ?_
    refine w_static C (q := 8) (y := ⟨"com/example/fieldstead/protocol/modbus/ReadCommandMaxQuantityPinLaw", "pick", "(I)Lcom/example/fieldstead/protocol/modbus/ReadCommand;"⟩) (rm := ({ frames := 0, cells := 0, slots := 0, locals := 0 } : Room)) (argsL := [(.int (0 : Int32))]) (hw _ (List.mem_of_getElem? (i := 0) rfl)) (hw _ (List.mem_of_getElem? (i := 1) rfl)) (hw _ (List.mem_of_getElem? (i := 2) rfl)) (hw _ (List.mem_of_getElem? (i := 3) rfl)) (rm1 l Z a0 hw (0 : Int32) _ n0 Z0 c1 c2 c3 c4 S1 S2 S3 S4) (by decide) (rest := []) (lenOf pd_0 rfl) rfl at_5 rfl rfl (by decide) (Nat.le_of_ble_eq_true rfl) (by decide) (by decide) ?_
    intro v h7 hQ
    obtain ⟨rfl, rfl⟩ := hQ
    rw [own_pk0]
    refine Wk.v1 ?_
    refine w_astoreN C (q := 9) #[.val (.int p1), .val (.int (0 : Int32)), .val (.ref c1), .unset, .unset, .unset] at_8 rfl rfl rfl ?_
    refine w_aloadN C (q := 10) at_9 rfl rfl rfl ?_
    refine w_iconst C (q := 11) (0 : Int32) at_10 rfl (by decide) ?_
    refine w_iconst C (q := 12) (0 : Int32) at_11 rfl (by decide) ?_
    refine w_virtual C (q := 15) (y := ⟨"com/example/fieldstead/protocol/modbus/ReadCommand", "request", "(II)[B"⟩) (z := ⟨"com/example/fieldstead/protocol/modbus/ReadCommand", "request", "(II)[B"⟩) (rm := ({ frames := 0, cells := 1, slots := 5, locals := 0 } : Room)) (a := c1) (argsL := [(.int (0 : Int32)), (.int (0 : Int32))]) (hw _ (List.mem_of_getElem? (i := 7) rfl)) (hw _ (List.mem_of_getElem? (i := 8) rfl)) (hw _ (List.mem_of_getElem? (i := 10) rfl)) (hw _ (List.mem_of_getElem? (i := 10) rfl)) (hw _ (List.mem_of_getElem? (i := 9) rfl)) (hw _ (List.mem_of_getElem? (i := 5) rfl)) (hw _ (List.mem_of_getElem? (i := 11) rfl)) E1 (rm2 l Z a0 hw c1 (0 : Int32) (0 : Int32) _ n0 Z0 (1 : Int32) F1) (by decide) (rest := []) (lenOf pd_1 rfl) rfl at_12 rfl rfl (by decide) (Nat.le_of_ble_eq_true rfl) (by decide) (by decide) ?_
    intro v h8 hQ
    obtain ⟨b, kb, rfl, hb1, K, A_b⟩ := hQ
    replace E1 := E1.keep K
    replace F1 := F1.keep K nin0
    replace B1 := B1.keep K nin0
    replace Z0 := Nat.le_trans Z0 K.1
    refine Wk.v1 ?_
    refine w_astoreN C (q := 16) #[.val (.int p1), .val (.int (0 : Int32)), .val (.ref c1), .val (.ref b), .unset, .unset] at_15 rfl rfl rfl ?_
    refine w_aloadN C (q := 17) at_16 rfl rfl rfl ?_
    refine w_iconst C (q := 18) (0 : Int32) at_17 rfl (by decide) ?_
    refine w_baload C (q := 19) A_b (.int (1 : Int32).toInt8.toInt32.toInt8.toInt32) (by decide) rfl at_18 rfl ?_
    refine w_sipush C (q := 22) (255 : Int32) at_19 rfl (by decide) ?_
    refine w_iand C (q := 23) at_22 rfl ?_
    refine w_istore C (q := 25) #[.val (.int p1), .val (.int (0 : Int32)), .val (.ref c1), .val (.ref b), .val (.int ((1 : Int32).toInt8.toInt32.toInt8.toInt32 &&& (255 : Int32))), .unset] at_23 rfl rfl ?_
    refine w_iload C (q := 27) at_25 rfl rfl ?_
    refine w_iconst C (q := 28) (1 : Int32) at_27 rfl (by decide) ?_
    refine w_iceq_t C (q := 37) at_28 (by decide) (by decide) (by decide) ?_
    refine w_sipush C (q := 40) (2000 : Int32) at_37 rfl (by decide) ?_
    refine w_istore C (q := 42) #[.val (.int p1), .val (.int (0 : Int32)), .val (.ref c1), .val (.ref b), .val (.int ((1 : Int32).toInt8.toInt32.toInt8.toInt32 &&& (255 : Int32))), .val (.int (2000 : Int32))] at_40 rfl rfl ?_
    refine w_goto C (q := 49) at_42 (by decide) (by decide) ?_
    refine w_iload C (q := 51) at_49 rfl rfl ?_
    refine w_iloadN C (q := 52) at_51 rfl rfl ?_
    refine w_iconst C (q := 53) (1 : Int32) at_52 rfl (by decide) ?_
    refine w_iadd C (q := 54) at_53 rfl ?_
    refine w_icne_f C (q := 57) at_54 rfl (by decide) ?_
    refine w_aloadN C (q := 58) at_57 rfl rfl rfl ?_
    refine w_virtual C (q := 61) (y := ⟨"com/example/fieldstead/protocol/modbus/ReadCommand", "maxQuantity", "()I"⟩) (z := ⟨"com/example/fieldstead/protocol/modbus/ReadCommand", "maxQuantity", "()I"⟩) (rm := ({ frames := 0, cells := 0, slots := 0, locals := 0 } : Room)) (a := c1) (argsL := []) (hw _ (List.mem_of_getElem? (i := 15) rfl)) (hw _ (List.mem_of_getElem? (i := 16) rfl)) (hw _ (List.mem_of_getElem? (i := 18) rfl)) (hw _ (List.mem_of_getElem? (i := 18) rfl)) (hw _ (List.mem_of_getElem? (i := 17) rfl)) (hw _ (List.mem_of_getElem? (i := 5) rfl)) (hw _ (List.mem_of_getElem? (i := 19) rfl)) E1 (rm3 l Z a0 hw c1 _ n0 Z0 (1 : Int32) B1) (by decide) (rest := []) (lenOf pd_2 rfl) rfl at_58 rfl rfl (by decide) (Nat.le_of_ble_eq_true rfl) (by decide) (by decide) ?_
    intro v h9 hQ
    obtain ⟨rfl, rfl⟩ := hQ
    refine Wk.v1 ?_
    refine w_iload C (q := 63) at_61 rfl rfl ?_
    refine w_icne_f C (q := 66) at_63 rfl (by decide) ?_
    refine w_iconst C (q := 67) (1 : Int32) at_66 rfl (by decide) ?_
    refine w_goto C (q := 71) at_67 (by decide) (by decide) ?_
    exact w_retN C at_71 (by decide) (by decide) rfl
  · rw [hi]
    refine w_iloadN C (q := 5) at_4 rfl rfl ?_
    refine w_static C (q := 8) (y := ⟨"com/example/fieldstead/protocol/modbus/ReadCommandMaxQuantityPinLaw", "pick", "(I)Lcom/example/fieldstead/protocol/modbus/ReadCommand;"⟩) (rm := ({ frames := 0, cells := 0, slots := 0, locals := 0 } : Room)) (argsL := [(.int (1 : Int32))]) (hw _ (List.mem_of_getElem? (i := 0) rfl)) (hw _ (List.mem_of_getElem? (i := 1) rfl)) (hw _ (List.mem_of_getElem? (i := 2) rfl)) (hw _ (List.mem_of_getElem? (i := 3) rfl)) (rm1 l Z a0 hw (1 : Int32) _ n0 Z0 c1 c2 c3 c4 S1 S2 S3 S4) (by decide) (rest := []) (lenOf pd_0 rfl) rfl at_5 rfl rfl (by decide) (Nat.le_of_ble_eq_true rfl) (by decide) (by decide) ?_
    intro v h10 hQ
    obtain ⟨rfl, rfl⟩ := hQ
    rw [own_pk1]
    refine Wk.v1 ?_
    refine w_astoreN C (q := 9) #[.val (.int p1), .val (.int (1 : Int32)), .val (.ref c2), .unset, .unset, .unset] at_8 rfl rfl rfl ?_
    refine w_aloadN C (q := 10) at_9 rfl rfl rfl ?_
    refine w_iconst C (q := 11) (0 : Int32) at_10 rfl (by decide) ?_
    refine w_iconst C (q := 12) (0 : Int32) at_11 rfl (by decide) ?_
    refine w_virtual C (q := 15) (y := ⟨"com/example/fieldstead/protocol/modbus/ReadCommand", "request", "(II)[B"⟩) (z := ⟨"com/example/fieldstead/protocol/modbus/ReadCommand", "request", "(II)[B"⟩) (rm := ({ frames := 0, cells := 1, slots := 5, locals := 0 } : Room)) (a := c2) (argsL := [(.int (0 : Int32)), (.int (0 : Int32))]) (hw _ (List.mem_of_getElem? (i := 7) rfl)) (hw _ (List.mem_of_getElem? (i := 8) rfl)) (hw _ (List.mem_of_getElem? (i := 10) rfl)) (hw _ (List.mem_of_getElem? (i := 10) rfl)) (hw _ (List.mem_of_getElem? (i := 9) rfl)) (hw _ (List.mem_of_getElem? (i := 5) rfl)) (hw _ (List.mem_of_getElem? (i := 11) rfl)) E2 (rm2 l Z a0 hw c2 (0 : Int32) (0 : Int32) _ n0 Z0 (2 : Int32) F2) (by decide) (rest := []) (lenOf pd_1 rfl) rfl at_12 rfl rfl (by decide) (Nat.le_of_ble_eq_true rfl) (by decide) (by decide) ?_
    intro v h11 hQ
    obtain ⟨b, kb, rfl, hb1, K, A_b⟩ := hQ
    replace E2 := E2.keep K
    replace F2 := F2.keep K nin0
    replace B2 := B2.keep K nin0
    replace Z0 := Nat.le_trans Z0 K.1
    refine Wk.v1 ?_
    refine w_astoreN C (q := 16) #[.val (.int p1), .val (.int (1 : Int32)), .val (.ref c2), .val (.ref b), .unset, .unset] at_15 rfl rfl rfl ?_
    refine w_aloadN C (q := 17) at_16 rfl rfl rfl ?_
    refine w_iconst C (q := 18) (0 : Int32) at_17 rfl (by decide) ?_
    refine w_baload C (q := 19) A_b (.int (2 : Int32).toInt8.toInt32.toInt8.toInt32) (by decide) rfl at_18 rfl ?_
    refine w_sipush C (q := 22) (255 : Int32) at_19 rfl (by decide) ?_
    refine w_iand C (q := 23) at_22 rfl ?_
    refine w_istore C (q := 25) #[.val (.int p1), .val (.int (1 : Int32)), .val (.ref c2), .val (.ref b), .val (.int ((2 : Int32).toInt8.toInt32.toInt8.toInt32 &&& (255 : Int32))), .unset] at_23 rfl rfl ?_
    refine w_iload C (q := 27) at_25 rfl rfl ?_
    refine w_iconst C (q := 28) (1 : Int32) at_27 rfl (by decide) ?_
    refine w_iceq_f C (q := 31) at_28 rfl (by decide) ?_
    refine w_iload C (q := 33) at_31 rfl rfl ?_
    refine w_iconst C (q := 34) (2 : Int32) at_33 rfl (by decide) ?_
    refine w_icne_f C (q := 37) at_34 rfl (by decide) ?_
    refine w_sipush C (q := 40) (2000 : Int32) at_37 rfl (by decide) ?_
    refine w_istore C (q := 42) #[.val (.int p1), .val (.int (1 : Int32)), .val (.ref c2), .val (.ref b), .val (.int ((2 : Int32).toInt8.toInt32.toInt8.toInt32 &&& (255 : Int32))), .val (.int (2000 : Int32))] at_40 rfl rfl ?_
    refine w_goto C (q := 49) at_42 (by decide) (by decide) ?_
    refine w_iload C (q := 51) at_49 rfl rfl ?_
    refine w_iloadN C (q := 52) at_51 rfl rfl ?_
    refine w_iconst C (q := 53) (1 : Int32) at_52 rfl (by decide) ?_
    refine w_iadd C (q := 54) at_53 rfl ?_
    refine w_icne_f C (q := 57) at_54 rfl (by decide) ?_
    refine w_aloadN C (q := 58) at_57 rfl rfl rfl ?_
    refine w_virtual C (q := 61) (y := ⟨"com/example/fieldstead/protocol/modbus/ReadCommand", "maxQuantity", "()I"⟩) (z := ⟨"com/example/fieldstead/protocol/modbus/ReadCommand", "maxQuantity", "()I"⟩) (rm := ({ frames := 0, cells := 0, slots := 0, locals := 0 } : Room)) (a := c2) (argsL := []) (hw _ (List.mem_of_getElem? (i := 15) rfl)) (hw _ (List.mem_of_getElem? (i := 16) rfl)) (hw _ (List.mem_of_getElem? (i := 18) rfl)) (hw _ (List.mem_of_getElem? (i := 18) rfl)) (hw _ (List.mem_of_getElem? (i := 17) rfl)) (hw _ (List.mem_of_getElem? (i := 5) rfl)) (hw _ (List.mem_of_getElem? (i := 19) rfl)) E2 (rm3 l Z a0 hw c2 _ n0 Z0 (1 : Int32) B2) (by decide) (rest := []) (lenOf pd_2 rfl) rfl at_58 rfl rfl (by decide) (Nat.le_of_ble_eq_true rfl) (by decide) (by decide) ?_
    intro v h12 hQ
    obtain ⟨rfl, rfl⟩ := hQ
    refine Wk.v1 ?_
    refine w_iload C (q := 63) at_61 rfl rfl ?_
    refine w_icne_f C (q := 66) at_63 rfl (by decide) ?_
    refine w_iconst C (q := 67) (1 : Int32) at_66 rfl (by decide) ?_
    refine w_goto C (q := 71) at_67 (by decide) (by decide) ?_
    exact w_retN C at_71 (by decide) (by decide) rfl
  · rw [hi]
    refine w_iloadN C (q := 5) at_4 rfl rfl ?_
    refine w_static C (q := 8) (y := ⟨"com/example/fieldstead/protocol/modbus/ReadCommandMaxQuantityPinLaw", "pick", "(I)Lcom/example/fieldstead/protocol/modbus/ReadCommand;"⟩) (rm := ({ frames := 0, cells := 0, slots := 0, locals := 0 } : Room)) (argsL := [(.int (2 : Int32))]) (hw _ (List.mem_of_getElem? (i := 0) rfl)) (hw _ (List.mem_of_getElem? (i := 1) rfl)) (hw _ (List.mem_of_getElem? (i := 2) rfl)) (hw _ (List.mem_of_getElem? (i := 3) rfl)) (rm1 l Z a0 hw (2 : Int32) _ n0 Z0 c1 c2 c3 c4 S1 S2 S3 S4) (by decide) (rest := []) (lenOf pd_0 rfl) rfl at_5 rfl rfl (by decide) (Nat.le_of_ble_eq_true rfl) (by decide) (by decide) ?_
    intro v h13 hQ
    obtain ⟨rfl, rfl⟩ := hQ
    rw [own_pk2]
    refine Wk.v1 ?_
    refine w_astoreN C (q := 9) #[.val (.int p1), .val (.int (2 : Int32)), .val (.ref c3), .unset, .unset, .unset] at_8 rfl rfl rfl ?_
    refine w_aloadN C (q := 10) at_9 rfl rfl rfl ?_
    refine w_iconst C (q := 11) (0 : Int32) at_10 rfl (by decide) ?_
    refine w_iconst C (q := 12) (0 : Int32) at_11 rfl (by decide) ?_
    refine w_virtual C (q := 15) (y := ⟨"com/example/fieldstead/protocol/modbus/ReadCommand", "request", "(II)[B"⟩) (z := ⟨"com/example/fieldstead/protocol/modbus/ReadCommand", "request", "(II)[B"⟩) (rm := ({ frames := 0, cells := 1, slots := 5, locals := 0 } : Room)) (a := c3) (argsL := [(.int (0 : Int32)), (.int (0 : Int32))]) (hw _ (List.mem_of_getElem? (i := 7) rfl)) (hw _ (List.mem_of_getElem? (i := 8) rfl)) (hw _ (List.mem_of_getElem? (i := 10) rfl)) (hw _ (List.mem_of_getElem? (i := 10) rfl)) (hw _ (List.mem_of_getElem? (i := 9) rfl)) (hw _ (List.mem_of_getElem? (i := 5) rfl)) (hw _ (List.mem_of_getElem? (i := 11) rfl)) E3 (rm2 l Z a0 hw c3 (0 : Int32) (0 : Int32) _ n0 Z0 (3 : Int32) F3) (by decide) (rest := []) (lenOf pd_1 rfl) rfl at_12 rfl rfl (by decide) (Nat.le_of_ble_eq_true rfl) (by decide) (by decide) ?_
    intro v h14 hQ
    obtain ⟨b, kb, rfl, hb1, K, A_b⟩ := hQ
    replace E3 := E3.keep K
    replace F3 := F3.keep K nin0
    replace B3 := B3.keep K nin0
    replace Z0 := Nat.le_trans Z0 K.1
    refine Wk.v1 ?_
    refine w_astoreN C (q := 16) #[.val (.int p1), .val (.int (2 : Int32)), .val (.ref c3), .val (.ref b), .unset, .unset] at_15 rfl rfl rfl ?_
    refine w_aloadN C (q := 17) at_16 rfl rfl rfl ?_
    refine w_iconst C (q := 18) (0 : Int32) at_17 rfl (by decide) ?_
    refine w_baload C (q := 19) A_b (.int (3 : Int32).toInt8.toInt32.toInt8.toInt32) (by decide) rfl at_18 rfl ?_
    refine w_sipush C (q := 22) (255 : Int32) at_19 rfl (by decide) ?_
    refine w_iand C (q := 23) at_22 rfl ?_
    refine w_istore C (q := 25) #[.val (.int p1), .val (.int (2 : Int32)), .val (.ref c3), .val (.ref b), .val (.int ((3 : Int32).toInt8.toInt32.toInt8.toInt32 &&& (255 : Int32))), .unset] at_23 rfl rfl ?_
    refine w_iload C (q := 27) at_25 rfl rfl ?_
    refine w_iconst C (q := 28) (1 : Int32) at_27 rfl (by decide) ?_
    refine w_iceq_f C (q := 31) at_28 rfl (by decide) ?_
    refine w_iload C (q := 33) at_31 rfl rfl ?_
    refine w_iconst C (q := 34) (2 : Int32) at_33 rfl (by decide) ?_
    refine w_icne_t C (q := 45) at_34 (by decide) (by decide) (by decide) ?_
    refine w_bipush C (q := 47) (125 : Int32) at_45 rfl (by decide) ?_
    refine w_istore C (q := 49) #[.val (.int p1), .val (.int (2 : Int32)), .val (.ref c3), .val (.ref b), .val (.int ((3 : Int32).toInt8.toInt32.toInt8.toInt32 &&& (255 : Int32))), .val (.int (125 : Int32))] at_47 rfl rfl ?_
    refine w_iload C (q := 51) at_49 rfl rfl ?_
    refine w_iloadN C (q := 52) at_51 rfl rfl ?_
    refine w_iconst C (q := 53) (1 : Int32) at_52 rfl (by decide) ?_
    refine w_iadd C (q := 54) at_53 rfl ?_
    refine w_icne_f C (q := 57) at_54 rfl (by decide) ?_
    refine w_aloadN C (q := 58) at_57 rfl rfl rfl ?_
    refine w_virtual C (q := 61) (y := ⟨"com/example/fieldstead/protocol/modbus/ReadCommand", "maxQuantity", "()I"⟩) (z := ⟨"com/example/fieldstead/protocol/modbus/ReadCommand", "maxQuantity", "()I"⟩) (rm := ({ frames := 0, cells := 0, slots := 0, locals := 0 } : Room)) (a := c3) (argsL := []) (hw _ (List.mem_of_getElem? (i := 15) rfl)) (hw _ (List.mem_of_getElem? (i := 16) rfl)) (hw _ (List.mem_of_getElem? (i := 18) rfl)) (hw _ (List.mem_of_getElem? (i := 18) rfl)) (hw _ (List.mem_of_getElem? (i := 17) rfl)) (hw _ (List.mem_of_getElem? (i := 5) rfl)) (hw _ (List.mem_of_getElem? (i := 19) rfl)) E3 (rm3 l Z a0 hw c3 _ n0 Z0 (0 : Int32) B3) (by decide) (rest := []) (lenOf pd_2 rfl) rfl at_58 rfl rfl (by decide) (Nat.le_of_ble_eq_true rfl) (by decide) (by decide) ?_
    intro v h15 hQ
    obtain ⟨rfl, rfl⟩ := hQ
    refine Wk.v1 ?_
    refine w_iload C (q := 63) at_61 rfl rfl ?_
    refine w_icne_f C (q := 66) at_63 rfl (by decide) ?_
    refine w_iconst C (q := 67) (1 : Int32) at_66 rfl (by decide) ?_
    refine w_goto C (q := 71) at_67 (by decide) (by decide) ?_
    exact w_retN C at_71 (by decide) (by decide) rfl
  · rw [hi]
    refine w_iloadN C (q := 5) at_4 rfl rfl ?_
    refine w_static C (q := 8) (y := ⟨"com/example/fieldstead/protocol/modbus/ReadCommandMaxQuantityPinLaw", "pick", "(I)Lcom/example/fieldstead/protocol/modbus/ReadCommand;"⟩) (rm := ({ frames := 0, cells := 0, slots := 0, locals := 0 } : Room)) (argsL := [(.int (3 : Int32))]) (hw _ (List.mem_of_getElem? (i := 0) rfl)) (hw _ (List.mem_of_getElem? (i := 1) rfl)) (hw _ (List.mem_of_getElem? (i := 2) rfl)) (hw _ (List.mem_of_getElem? (i := 3) rfl)) (rm1 l Z a0 hw (3 : Int32) _ n0 Z0 c1 c2 c3 c4 S1 S2 S3 S4) (by decide) (rest := []) (lenOf pd_0 rfl) rfl at_5 rfl rfl (by decide) (Nat.le_of_ble_eq_true rfl) (by decide) (by decide) ?_
    intro v h16 hQ
    obtain ⟨rfl, rfl⟩ := hQ
    rw [own_pk3]
    refine Wk.v1 ?_
    refine w_astoreN C (q := 9) #[.val (.int p1), .val (.int (3 : Int32)), .val (.ref c4), .unset, .unset, .unset] at_8 rfl rfl rfl ?_
    refine w_aloadN C (q := 10) at_9 rfl rfl rfl ?_
    refine w_iconst C (q := 11) (0 : Int32) at_10 rfl (by decide) ?_
    refine w_iconst C (q := 12) (0 : Int32) at_11 rfl (by decide) ?_
    refine w_virtual C (q := 15) (y := ⟨"com/example/fieldstead/protocol/modbus/ReadCommand", "request", "(II)[B"⟩) (z := ⟨"com/example/fieldstead/protocol/modbus/ReadCommand", "request", "(II)[B"⟩) (rm := ({ frames := 0, cells := 1, slots := 5, locals := 0 } : Room)) (a := c4) (argsL := [(.int (0 : Int32)), (.int (0 : Int32))]) (hw _ (List.mem_of_getElem? (i := 7) rfl)) (hw _ (List.mem_of_getElem? (i := 8) rfl)) (hw _ (List.mem_of_getElem? (i := 10) rfl)) (hw _ (List.mem_of_getElem? (i := 10) rfl)) (hw _ (List.mem_of_getElem? (i := 9) rfl)) (hw _ (List.mem_of_getElem? (i := 5) rfl)) (hw _ (List.mem_of_getElem? (i := 11) rfl)) E4 (rm2 l Z a0 hw c4 (0 : Int32) (0 : Int32) _ n0 Z0 (4 : Int32) F4) (by decide) (rest := []) (lenOf pd_1 rfl) rfl at_12 rfl rfl (by decide) (Nat.le_of_ble_eq_true rfl) (by decide) (by decide) ?_
    intro v h17 hQ
    obtain ⟨b, kb, rfl, hb1, K, A_b⟩ := hQ
    replace E4 := E4.keep K
    replace F4 := F4.keep K nin0
    replace B4 := B4.keep K nin0
    replace Z0 := Nat.le_trans Z0 K.1
    refine Wk.v1 ?_
    refine w_astoreN C (q := 16) #[.val (.int p1), .val (.int (3 : Int32)), .val (.ref c4), .val (.ref b), .unset, .unset] at_15 rfl rfl rfl ?_
    refine w_aloadN C (q := 17) at_16 rfl rfl rfl ?_
    refine w_iconst C (q := 18) (0 : Int32) at_17 rfl (by decide) ?_
    refine w_baload C (q := 19) A_b (.int (4 : Int32).toInt8.toInt32.toInt8.toInt32) (by decide) rfl at_18 rfl ?_
    refine w_sipush C (q := 22) (255 : Int32) at_19 rfl (by decide) ?_
    refine w_iand C (q := 23) at_22 rfl ?_
    refine w_istore C (q := 25) #[.val (.int p1), .val (.int (3 : Int32)), .val (.ref c4), .val (.ref b), .val (.int ((4 : Int32).toInt8.toInt32.toInt8.toInt32 &&& (255 : Int32))), .unset] at_23 rfl rfl ?_
    refine w_iload C (q := 27) at_25 rfl rfl ?_
    refine w_iconst C (q := 28) (1 : Int32) at_27 rfl (by decide) ?_
    refine w_iceq_f C (q := 31) at_28 rfl (by decide) ?_
    refine w_iload C (q := 33) at_31 rfl rfl ?_
    refine w_iconst C (q := 34) (2 : Int32) at_33 rfl (by decide) ?_
    refine w_icne_t C (q := 45) at_34 (by decide) (by decide) (by decide) ?_
    refine w_bipush C (q := 47) (125 : Int32) at_45 rfl (by decide) ?_
    refine w_istore C (q := 49) #[.val (.int p1), .val (.int (3 : Int32)), .val (.ref c4), .val (.ref b), .val (.int ((4 : Int32).toInt8.toInt32.toInt8.toInt32 &&& (255 : Int32))), .val (.int (125 : Int32))] at_47 rfl rfl ?_
    refine w_iload C (q := 51) at_49 rfl rfl ?_
    refine w_iloadN C (q := 52) at_51 rfl rfl ?_
    refine w_iconst C (q := 53) (1 : Int32) at_52 rfl (by decide) ?_
    refine w_iadd C (q := 54) at_53 rfl ?_
    refine w_icne_f C (q := 57) at_54 rfl (by decide) ?_
    refine w_aloadN C (q := 58) at_57 rfl rfl rfl ?_
    refine w_virtual C (q := 61) (y := ⟨"com/example/fieldstead/protocol/modbus/ReadCommand", "maxQuantity", "()I"⟩) (z := ⟨"com/example/fieldstead/protocol/modbus/ReadCommand", "maxQuantity", "()I"⟩) (rm := ({ frames := 0, cells := 0, slots := 0, locals := 0 } : Room)) (a := c4) (argsL := []) (hw _ (List.mem_of_getElem? (i := 15) rfl)) (hw _ (List.mem_of_getElem? (i := 16) rfl)) (hw _ (List.mem_of_getElem? (i := 18) rfl)) (hw _ (List.mem_of_getElem? (i := 18) rfl)) (hw _ (List.mem_of_getElem? (i := 17) rfl)) (hw _ (List.mem_of_getElem? (i := 5) rfl)) (hw _ (List.mem_of_getElem? (i := 19) rfl)) E4 (rm3 l Z a0 hw c4 _ n0 Z0 (0 : Int32) B4) (by decide) (rest := []) (lenOf pd_2 rfl) rfl at_58 rfl rfl (by decide) (Nat.le_of_ble_eq_true rfl) (by decide) (by decide) ?_
    intro v h18 hQ
    obtain ⟨rfl, rfl⟩ := hQ
    refine Wk.v1 ?_
    refine w_iload C (q := 63) at_61 rfl rfl ?_
    refine w_icne_f C (q := 66) at_63 rfl (by decide) ?_
    refine w_iconst C (q := 67) (1 : Int32) at_66 rfl (by decide) ?_
    refine w_goto C (q := 71) at_67 (by decide) (by decide) ?_
    exact w_retN C at_71 (by decide) (by decide) rfl
set_option maxRecDepth 65536 in
set_option maxHeartbeats 40000000 in
theorem comes_1 {Post : Tables → Env → Array Value → State → Outcome → State → Prop} (hpost : ∀ tb e args s v u, (limb_1_1.after args s (.returned v) u = true ∧ limb_1_2.after args s (.returned v) u = true ∧ True) → FrameEnd s (.returned v) u (Jvm.fieldLocs frame_1_writes args s ++ Jvm.arrayLocs frame_1_arrays args s ++ Jvm.staticLocs frame_1_statics s) 16 128 → Post tb e args s (.returned v) u) :
    ArmFor flags0 classFile x code maxLocals ret World_1 tables_1 room_1 Calls_1 rest_1 Pre_1 Post := by
  intro l hfl _ _ p e ha hc hk s m args below hf hA hF happ hP
  obtain ⟨hcalls, hrest, hpre⟩ := hP
  obtain ⟨-, -, -, hnamed, -, -, -, hat⟩ := (Spec.applies_iff hf).mp happ
  obtain ⟨hg, hn⟩ := and_e (Cond.before_iff.mp (show (Jvm.Cond.and given_1 narrow_1).before args s = true from hpre))
  obtain ⟨g0, g1⟩ := and_e hg
  obtain ⟨w0, rfl⟩ : ∃ w0 : Value, args = #[w0] := by
    have hs : args.size = 1 := by simpa [Cond.value, given_1] using g0
    obtain ⟨L⟩ := args
    match L, hs with
    | [w0], _ => exact ⟨w0, rfl⟩
  have hw := fun d (hd : d ∈ tables_1) => atoms_spec (ws := Jvm.Cond.code x code maxLocals ret :: tables_1) hat d (List.mem_cons_of_mem _ hd)
  have hfit : Fit s := fun {y c} hc i hi => by
    obtain ⟨ha, rfl⟩ := Array.getElem?_eq_some_iff.mp hc
    have q := List.all_eq_true.mp ((Array.all_eq_true_iff_forall_mem.mp hF) _ (Array.getElem_mem ha)) i (List.mem_range.mpr hi)
    simpa [Array.getElem?_eq_getElem hi] using q
  obtain ⟨p1, e0⟩ := is_v g1
  obtain rfl : w0 = (.int p1) := Option.some.inj e0
  obtain ⟨u1, r1⟩ := and_e hn
  obtain ⟨v1, r1'⟩ := and_e r1
  obtain ⟨b1, q1⟩ := and_e r1'
  obtain ⟨c1, ev1⟩ := exa_v u1
  have E1 := Exa.start ev1 u1
  have F1 := own_fld ev1 v1
  have B1 := own_fld ev1 b1
  have S1 := Sta.start ev1 (Or.inr ⟨(hw _ (List.mem_of_getElem? (i := 5) rfl)), (hw _ (List.mem_of_getElem? (i := 6) rfl))⟩)
  obtain ⟨u4, r4⟩ := and_e q1
  obtain ⟨v4, r4'⟩ := and_e r4
  obtain ⟨b4, q4⟩ := and_e r4'
  obtain ⟨c4, ev4⟩ := exa_v u4
  have E4 := Exa.start ev4 u4
  have F4 := own_fld ev4 v4
  have B4 := own_fld ev4 b4
  have S4 := Sta.start ev4 (Or.inr ⟨(hw _ (List.mem_of_getElem? (i := 5) rfl)), (hw _ (List.mem_of_getElem? (i := 23) rfl))⟩)
  obtain ⟨u3, r3⟩ := and_e q4
  obtain ⟨v3, r3'⟩ := and_e r3
  obtain ⟨b3, q3⟩ := and_e r3'
  obtain ⟨c3, ev3⟩ := exa_v u3
  have E3 := Exa.start ev3 u3
  have F3 := own_fld ev3 v3
  have B3 := own_fld ev3 b3
  have S3 := Sta.start ev3 (Or.inr ⟨(hw _ (List.mem_of_getElem? (i := 5) rfl)), (hw _ (List.mem_of_getElem? (i := 25) rfl))⟩)
  obtain ⟨u2, r2⟩ := and_e q3
  obtain ⟨v2, r2'⟩ := and_e r2
  obtain ⟨c2, ev2⟩ := exa_v u2
  have E2 := Exa.start ev2 u2
  have F2 := own_fld ev2 v2
  have B2 := own_fld ev2 r2'
  have S2 := Sta.start ev2 (Or.inr ⟨(hw _ (List.mem_of_getElem? (i := 5) rfl)), (hw _ (List.mem_of_getElem? (i := 27) rfl))⟩)
  obtain ⟨n, o, h1, h2, h3, _, L, rfl, ⟨hQ, N⟩, hq⟩ := rm0 l s _ hw p1 s.heap s.heap.size (Nat.le_refl _) c1 c2 c3 c4 S1 S2 S3 S4 E1 F1 B1 E2 F2 B2 E3 F3 B3 E4 F4 B4 tables_1 p e ha hc hk s m _ below hf ((Spec.applies_iff_loose hf).mp happ).1 ⟨rfl, State.Warmed39.refl s, rfl⟩ trivial
  cases hQ
  exact ⟨n, _, h1, h2, h3, hpost _ _ _ _ _ _ ⟨Cond.after_iff.mpr rfl, Cond.after_iff.mpr (eq_i res_at (Term.int_eval (1)) rfl), trivial⟩ ⟨hq.1, hq.2.1, (hq.2.2.sift fun y hy => Or.inr (N y hy)).mono (by decide) (by decide)⟩⟩
theorem main_1_1 : Claimed_1_1 := comes_1 fun _ _ _ _ _ _ h hF => ⟨h.1, hF⟩
theorem main_1_2 : Claimed_1_2 := comes_1 fun _ _ _ _ _ _ h hF => ⟨h.2.1, hF⟩
end Jvm.Pilot.@@N@@
namespace Jvm.Pilot.@@N@@
open Jvm Jvm.ClassFile Sem Op Lib Jvm.Free Jvm.Stand Jvm.Pilot.@@N@@.Jvm.D
/-! MADE BY PROGRAM (witnessworld.py) out of the Statement's table words and the real class files: 12 classes; the members and pool entries that the words name. The judged class is class 1, her method 2. -/
namespace start1
open Jvm.ClassFile
def u (s : String) : CpInfo := .utf8 (stringToUtf16 s)
/-- a pool by its gaps: so many unusable entries, then the entry; so many at the end -/
def gap : Nat → List CpInfo → List CpInfo
  | 0, r => r
  | n + 1, r => .unusable :: gap n r
def poolList (es : List (Nat × CpInfo)) (last : Nat) : List CpInfo := es.foldr (fun e r => gap e.1 (e.2 :: r)) (gap last [])
def pool (es : List (Nat × CpInfo)) (last : Nat) : Array CpInfo := ⟨poolList es last⟩
def fileOf (pool : Array CpInfo) (this : Nat) (attrs : Array Attribute := #[]) (ms : Array MethodInfo := #[]) (fl : Nat := 33) (sup : Nat := 0) (ifs : Array Nat := #[]) (fds : Array FieldInfo := #[]) : ClassFile where
  minorVersion := 0
  majorVersion := 65
  constantPool := pool
  accessFlags := fl
  thisClass := this
  superClass := sup
  interfaces := ifs
  fields := fds
  methods := ms
  attributes := attrs
def plain (name : String) (sup : Option ClassId) : Class where
  name := name
  kind := .ordinary
  loader := none
  accessFlags := 33
  super := sup
  interfaces := #[]
  cf := none
  fields := #[]
  methods := #[]
  instanceTypes := #[]
  staticTypes := #[]
  resolved := #[]
  callSites := []
  init := .initialized
  statics := none
  mirror := none

def pool0 : Array CpInfo := pool [(5, u "<init>"), (0, u "()V"), (1, .class_ 10), (1, u "java/lang/Object")] 113

def k0m0 : Method := { name := "<init>", desc := "()V", sig := { parameters := [], returnType := none }, accessFlags := 1, code := none }
/-- java/lang/Object -/
def k0 : Class := { plain "java/lang/Object" none with
  accessFlags := 33
  interfaces := #[]
  cf := some (fileOf pool0 8 #[] #[{ accessFlags := 1, nameIndex := 5, descriptorIndex := 6, attributes := #[] }] 33 0 #[] #[])
  fields := #[]
  methods := #[k0m0]
  instanceTypes := #[]
  staticTypes := #[]
  resolved := Array.replicate 124 none
  statics := none }

def pool1 : Array CpInfo := pool [(2, .class_ 4), (1, u "java/lang/Object"), (0, u "<init>"), (0, u "()V"), (0, .fieldref 8 9), (0, .class_ 10), (0, .nameAndType 11 12), (0, u "com/example/fieldstead/protocol/modbus/ReadCommand"), (0, u "READ_COIL_STATUS"), (0, u "Lcom/example/fieldstead/protocol/modbus/ReadCommand;"), (0, .fieldref 8 14), (0, .nameAndType 15 12), (0, u "READ_INPUT_STATUS"), (0, .fieldref 8 17), (0, .nameAndType 18 12), (0, u "READ_HOLDING_REGS"), (0, .fieldref 8 20), (0, .nameAndType 21 12), (0, u "READ_INPUT_REGS"), (0, .methodref 23 24), (0, .class_ 25), (0, .nameAndType 26 27), (0, u "com/example/fieldstead/protocol/modbus/ReadCommandMaxQuantityPinLaw"), (0, u "pick"), (0, u "(I)Lcom/example/fieldstead/protocol/modbus/ReadCommand;"), (0, .methodref 8 29), (0, .nameAndType 30 31), (0, u "request"), (0, u "(II)[B"), (0, .methodref 8 33), (0, .nameAndType 34 35), (0, u "maxQuantity"), (0, u "()I"), (3, u "law"), (0, u "(I)Z")] 4

def k1m0 : Method := { name := "<init>", desc := "()V", sig := { parameters := [], returnType := none }, accessFlags := 2, code := none }
def k1c1 : Code := { maxStack := 2, maxLocals := 1, code := method_2_code, exceptionTable := #[], attributes := #[] }
def k1m1 : Method := { name := "pick", desc := "(I)Lcom/example/fieldstead/protocol/modbus/ReadCommand;", sig := { parameters := [.int], returnType := some (.object "com/example/fieldstead/protocol/modbus/ReadCommand") }, accessFlags := 10, code := some k1c1 }
def k1c2 : Code := { maxStack := 3, maxLocals := 6, code := code, exceptionTable := #[], attributes := #[] }
def k1m2 : Method := { name := "law", desc := "(I)Z", sig := { parameters := [.int], returnType := some .boolean }, accessFlags := 9, code := some k1c2 }
/-- com/example/fieldstead/protocol/modbus/ReadCommandMaxQuantityPinLaw -/
def k1 : Class := { plain "com/example/fieldstead/protocol/modbus/ReadCommandMaxQuantityPinLaw" (some 0) with
  accessFlags := 49
  interfaces := #[]
  cf := some (fileOf pool1 23 #[] #[{ accessFlags := 2, nameIndex := 5, descriptorIndex := 6, attributes := #[] }, { accessFlags := 10, nameIndex := 26, descriptorIndex := 27, attributes := #[] }, { accessFlags := 9, nameIndex := 39, descriptorIndex := 40, attributes := #[] }] 49 2 #[] #[])
  fields := #[]
  methods := #[k1m0, k1m1, k1m2]
  instanceTypes := #[]
  staticTypes := #[]
  resolved := Array.replicate 45 none
  statics := none }

def pool2 : Array CpInfo := pool [(1, .class_ 2), (0, u "java/lang/constant/Constable"), (0, .class_ 4), (0, u "java/lang/Object")] 6

/-- java/lang/constant/Constable -/
def k2 : Class := { plain "java/lang/constant/Constable" (some 0) with
  accessFlags := 1537
  interfaces := #[]
  cf := some (fileOf pool2 1 #[] #[] 1537 3 #[] #[])
  fields := #[]
  methods := #[]
  instanceTypes := #[]
  staticTypes := #[]
  resolved := Array.replicate 11 none
  statics := none }

def pool3 : Array CpInfo := pool [(1, .class_ 2), (0, u "java/lang/Comparable"), (0, .class_ 4), (0, u "java/lang/Object")] 7

/-- java/lang/Comparable -/
def k3 : Class := { plain "java/lang/Comparable" (some 0) with
  accessFlags := 1537
  interfaces := #[]
  cf := some (fileOf pool3 1 #[] #[] 1537 3 #[] #[])
  fields := #[]
  methods := #[]
  instanceTypes := #[]
  staticTypes := #[]
  resolved := Array.replicate 12 none
  statics := none }

def pool4 : Array CpInfo := pool [(1, .class_ 2), (0, u "java/io/Serializable"), (0, .class_ 4), (0, u "java/lang/Object")] 2

/-- java/io/Serializable -/
def k4 : Class := { plain "java/io/Serializable" (some 0) with
  accessFlags := 1537
  interfaces := #[]
  cf := some (fileOf pool4 1 #[] #[] 1537 3 #[] #[])
  fields := #[]
  methods := #[]
  instanceTypes := #[]
  staticTypes := #[]
  resolved := Array.replicate 7 none
  statics := none }

def pool5 : Array CpInfo := pool [(2, .class_ 4), (1, u "java/lang/Enum"), (0, u "name"), (0, u "Ljava/lang/String;"), (2, u "ordinal"), (0, u "I"), (1, .class_ 14), (1, u "java/lang/Object"), (4, u "hash"), (86, .class_ 108), (1, u "java/lang/Enum$EnumDesc"), (2, .class_ 112), (0, u "java/lang/constant/Constable"), (0, .class_ 114), (0, u "java/lang/Comparable"), (0, .class_ 116), (0, u "java/io/Serializable")] 87

/-- java/lang/Enum -/
def k5 : Class := { plain "java/lang/Enum" (some 0) with
  accessFlags := 1057
  interfaces := #[2, 3, 4]
  cf := some (fileOf pool5 2 #[.nestMembers #[106]] #[] 1057 12 #[111, 113, 115] #[{ accessFlags := 18, nameIndex := 5, descriptorIndex := 6, attributes := #[] }, { accessFlags := 18, nameIndex := 9, descriptorIndex := 10, attributes := #[] }, { accessFlags := 2, nameIndex := 19, descriptorIndex := 10, attributes := #[] }])
  fields := #[{ name := "name", type := (.object "java/lang/String"), accessFlags := 18, slot := 0, constantValue := 0 }, { name := "ordinal", type := .int, accessFlags := 18, slot := 1, constantValue := 0 }, { name := "hash", type := .int, accessFlags := 2, slot := 2, constantValue := 0 }]
  methods := #[]
  instanceTypes := #[(.object "java/lang/String"), .int, .int]
  staticTypes := #[]
  resolved := Array.replicate 204 none
  statics := none }

def pool6 : Array CpInfo := pool [(1, .class_ 2), (0, u "com/example/fieldstead/protocol/modbus/ReadCommand"), (2, u "READ_COIL_STATUS"), (0, u "Lcom/example/fieldstead/protocol/modbus/ReadCommand;"), (2, u "READ_INPUT_STATUS"), (2, u "READ_HOLDING_REGS"), (2, u "READ_INPUT_REGS"), (2, u "$VALUES"), (0, u "[Lcom/example/fieldstead/protocol/modbus/ReadCommand;"), (6, .class_ 28), (1, u "java/lang/Enum"), (6, .fieldref 1 36), (0, .nameAndType 37 38), (0, u "function"), (0, u "I"), (2, u "item"), (0, u "Ljava/lang/String;"), (0, .fieldref 1 44), (0, .nameAndType 45 46), (0, u "bits"), (0, u "Z"), (115, u "MAX_BITS"), (2, u "MAX_REGISTERS"), (1, u "EXCEPTION_FLAG"), (9, u "maxQuantity"), (0, u "()I"), (1, u "request"), (0, u "(II)[B")] 30

def k6c0 : Code := { maxStack := 1, maxLocals := 1, code := prog_44_method_5_code, exceptionTable := #[], attributes := #[] }
def k6m0 : Method := { name := "maxQuantity", desc := "()I", sig := { parameters := [], returnType := some .int }, accessFlags := 0, code := some k6c0 }
def k6c1 : Code := { maxStack := 5, maxLocals := 3, code := prog_44_method_6_code, exceptionTable := #[], attributes := #[] }
def k6m1 : Method := { name := "request", desc := "(II)[B", sig := { parameters := [.int, .int], returnType := some (.array .byte) }, accessFlags := 0, code := some k6c1 }
/-- com/example/fieldstead/protocol/modbus/ReadCommand -/
def k6 : Class := { plain "com/example/fieldstead/protocol/modbus/ReadCommand" (some 5) with
  accessFlags := 16432
  interfaces := #[]
  cf := some (fileOf pool6 1 #[] #[{ accessFlags := 0, nameIndex := 177, descriptorIndex := 178, attributes := #[] }, { accessFlags := 0, nameIndex := 180, descriptorIndex := 181, attributes := #[] }] 16432 26 #[] #[{ accessFlags := 16409, nameIndex := 5, descriptorIndex := 6, attributes := #[] }, { accessFlags := 16409, nameIndex := 9, descriptorIndex := 6, attributes := #[] }, { accessFlags := 16409, nameIndex := 12, descriptorIndex := 6, attributes := #[] }, { accessFlags := 16409, nameIndex := 15, descriptorIndex := 6, attributes := #[] }, { accessFlags := 26, nameIndex := 162, descriptorIndex := 38, attributes := #[] }, { accessFlags := 26, nameIndex := 165, descriptorIndex := 38, attributes := #[] }, { accessFlags := 26, nameIndex := 167, descriptorIndex := 38, attributes := #[] }, { accessFlags := 18, nameIndex := 37, descriptorIndex := 38, attributes := #[] }, { accessFlags := 18, nameIndex := 41, descriptorIndex := 42, attributes := #[] }, { accessFlags := 18, nameIndex := 45, descriptorIndex := 46, attributes := #[] }, { accessFlags := 4122, nameIndex := 18, descriptorIndex := 19, attributes := #[] }])
  fields := #[{ name := "READ_COIL_STATUS", type := (.object "com/example/fieldstead/protocol/modbus/ReadCommand"), accessFlags := 16409, slot := 0, constantValue := 0 }, { name := "READ_INPUT_STATUS", type := (.object "com/example/fieldstead/protocol/modbus/ReadCommand"), accessFlags := 16409, slot := 1, constantValue := 0 }, { name := "READ_HOLDING_REGS", type := (.object "com/example/fieldstead/protocol/modbus/ReadCommand"), accessFlags := 16409, slot := 2, constantValue := 0 }, { name := "READ_INPUT_REGS", type := (.object "com/example/fieldstead/protocol/modbus/ReadCommand"), accessFlags := 16409, slot := 3, constantValue := 0 }, { name := "MAX_BITS", type := .int, accessFlags := 26, slot := 4, constantValue := 0 }, { name := "MAX_REGISTERS", type := .int, accessFlags := 26, slot := 5, constantValue := 0 }, { name := "EXCEPTION_FLAG", type := .int, accessFlags := 26, slot := 6, constantValue := 0 }, { name := "function", type := .int, accessFlags := 18, slot := 3, constantValue := 0 }, { name := "item", type := (.object "java/lang/String"), accessFlags := 18, slot := 4, constantValue := 0 }, { name := "bits", type := .boolean, accessFlags := 18, slot := 5, constantValue := 0 }, { name := "$VALUES", type := (.array (.object "com/example/fieldstead/protocol/modbus/ReadCommand")), accessFlags := 4122, slot := 7, constantValue := 0 }]
  methods := #[k6m0, k6m1]
  instanceTypes := #[(.object "java/lang/String"), .int, .int, .int, (.object "java/lang/String"), .boolean]
  staticTypes := #[(.object "com/example/fieldstead/protocol/modbus/ReadCommand"), (.object "com/example/fieldstead/protocol/modbus/ReadCommand"), (.object "com/example/fieldstead/protocol/modbus/ReadCommand"), (.object "com/example/fieldstead/protocol/modbus/ReadCommand"), .int, .int, .int, (.array (.object "com/example/fieldstead/protocol/modbus/ReadCommand"))]
  resolved := Array.replicate 212 none
  statics := some 0 }

def pool7 : Array CpInfo := pool [(1, u "java/lang/Cloneable"), (0, .class_ 1), (0, u "java/lang/Object"), (0, .class_ 3)] 3

/-- java/lang/Cloneable -/
def k7 : Class := { plain "java/lang/Cloneable" (some 0) with
  accessFlags := 1537
  interfaces := #[]
  cf := some (fileOf pool7 2 #[] #[] 1537 4 #[] #[])
  fields := #[]
  methods := #[]
  instanceTypes := #[]
  staticTypes := #[]
  resolved := Array.replicate 8 none
  statics := none }

/-- the primitive byte -/
def k8 : Class := { plain "byte" none with kind := .primitive 'B', accessFlags := 0x411 }
/-- [B -/
def k9 : Class := { plain "[B" (some 0) with kind := .array 8 .byte, interfaces := #[7, 4], accessFlags := 1041 }

/-- the primitive int -/
def k10 : Class := { plain "int" none with kind := .primitive 'I', accessFlags := 0x411 }
/-- [I -/
def k11 : Class := { plain "[I" (some 0) with kind := .array 10 .int, interfaces := #[7, 4], accessFlags := 1041 }

def heap : Heap := #[{ cls := 6, slots := #[.ref 1, .ref 2, .ref 3, .ref 4, .int 0, .int 0, .int 0, .null], vm := .statics 6 },
  { cls := 6, slots := #[.null, .int 0, .int 0, .int 1, .null, .int 1], vm := .none },
  { cls := 6, slots := #[.null, .int 1, .int 0, .int 2, .null, .int 1], vm := .none },
  { cls := 6, slots := #[.null, .int 2, .int 0, .int 3, .null, .int 0], vm := .none },
  { cls := 6, slots := #[.null, .int 3, .int 0, .int 4, .null, .int 0], vm := .none }]
def classes : Array Class := #[k0, k1, k2, k3, k4, k5, k6, k7, k8, k9, k10, k11]
def interned : List (Array UInt16 × Addr) := []
def slotsUsed : Nat := 32
def theMethod : MethodId := ⟨1, 2⟩
def args0 : Array Value := #[.int 5]
def aboutOver (below : List Frame) : State where
  vm := { classes := classes, interned := interned.toArray }
  heap := heap
  slotsUsed := slotsUsed
  threads := #[{ frames := .invoking theMethod args0 :: below }]
def below0 : List Frame := [.native { method := ⟨0, 0⟩, args := #[] }]
def about1 : State := aboutOver below0
def p0 : Program := .bare "" "" ""
def e0 : Env := launch0.env 0 0 0
theorem w_frames : about1.frames = Frame.invoking theMethod args0 :: below0 := rfl
set_option maxRecDepth 65536 in
theorem w_args : argsFit about1.vm theMethod args0 = true := by decide +kernel
set_option maxRecDepth 65536 in
theorem w_heap : heapFits about1 = true := by decide +kernel
set_option maxRecDepth 65536 in
theorem w_runnable : about1.curStatus? = some .runnable := by decide +kernel
set_option maxRecDepth 65536 in
theorem w_alone : about1.alone = true := by decide +kernel
set_option maxRecDepth 65536 in
theorem w_named : about1.methodNamed? x = some theMethod := by decide +kernel
set_option maxRecDepth 65536 in
theorem w_hears : about1.hears theMethod below0 = true := by decide +kernel
set_option maxRecDepth 65536 in
theorem w_ripe : about1.ripe theMethod args0 below0 = true := by decide +kernel
theorem w_running : about1.status = .running := rfl
set_option maxRecDepth 65536 in
theorem w_room : about1.hasRoom e0.platform room_1 = true :=
  launch0.hasRoom_least _ room_1 (by decide +kernel) (by decide +kernel) (by decide +kernel) (by decide +kernel) (by decide +kernel) (by decide +kernel)
theorem allAtoms_all (ts : List Jvm.Cond) (a : Array Jvm.Value) (st : Jvm.State) : (allAtoms ts).before a st = ts.all (fun c => c.before a st) := by
  induction ts with
  | nil => rfl
  | cons c t ih =>
    show (Jvm.Cond.and c (allAtoms t)).before a st = _
    rw [Jvm.Cond.before_and, ih, List.all_cons]
def words1 : List Jvm.Cond := Jvm.Cond.code x code maxLocals ret :: tables_1
/-- a 'code' word, met by the world's own term for the bytes: nothing is compared byte by byte -/
theorem code_word {y : MethodName} {bytes : ByteArray} {mx : Nat} {rt : Option FieldType} {a : Array Value} {s : State} {m : MethodId} {meth : Method} {c : Code} (h1 : s.methodNamed? y = some m) (h2 : s.vm.method? m = some meth) (h3 : meth.code = some c) (h4 : c.code = bytes)
    (h5 : (c.maxLocals == mx && c.exceptionTable.isEmpty && decide (c.maxStack ≤ mostOperands) && decide (meth.sig.returnType = rt) && !meth.locks && decide (parseMethodDescriptor y.desc = some meth.sig)) = true) : (Jvm.Cond.code y bytes mx rt).before a s = true := by
  simp only [Bool.and_eq_true, beq_iff_eq, Bool.not_eq_true', decide_eq_true_eq] at h5
  obtain ⟨⟨⟨⟨⟨g1, g2⟩, g3⟩, g4⟩, g5⟩, g6⟩ := h5
  simp [Cond.before, Cond.holds, Cond.value, h1, h2, h3, h4, g1, g2, g3, g4, g5, g6]
def isCode : Jvm.Cond → Bool
  | .code _ _ _ _ => true
  | _ => false
theorem all_split {L : List Jvm.Cond} {P : Jvm.Cond → Bool} (h1 : L.all (fun c => isCode c || P c) = true) (h2 : ∀ c ∈ L.filter isCode, P c = true) : L.all P = true := by
  refine List.all_eq_true.mpr fun c hc => ?_
  have h := List.all_eq_true.mp h1 c hc
  rcases Bool.eq_false_or_eq_true (isCode c) with hi | hi
  · exact h2 c (List.mem_filter.mpr ⟨hc, hi⟩)
  · simpa [hi] using h
set_option maxRecDepth 65536 in
theorem w_c0 : (Jvm.Cond.code x code maxLocals ret).before args0 about1 = true := code_word (m := ⟨1, 2⟩) (meth := k1m2) (c := k1c2) (by decide +kernel) rfl rfl rfl (by decide +kernel)
set_option maxRecDepth 65536 in
theorem w_c1 : (Jvm.Cond.code ({ cls := "com/example/fieldstead/protocol/modbus/ReadCommandMaxQuantityPinLaw", name := "pick", desc := "(I)Lcom/example/fieldstead/protocol/modbus/ReadCommand;" } : Jvm.MethodName) method_2_code (1 : Nat) (Option.some (Jvm.ClassFile.FieldType.object "com/example/fieldstead/protocol/modbus/ReadCommand"))).before args0 about1 = true := code_word (m := ⟨1, 1⟩) (meth := k1m1) (c := k1c1) (by decide +kernel) rfl rfl rfl (by decide +kernel)
set_option maxRecDepth 65536 in
theorem w_c2 : (Jvm.Cond.code ({ cls := "com/example/fieldstead/protocol/modbus/ReadCommand", name := "request", desc := "(II)[B" } : Jvm.MethodName) prog_44_method_6_code (3 : Nat) (Option.some (Jvm.ClassFile.FieldType.array Jvm.ClassFile.FieldType.byte))).before args0 about1 = true := code_word (m := ⟨6, 1⟩) (meth := k6m1) (c := k6c1) (by decide +kernel) rfl rfl rfl (by decide +kernel)
set_option maxRecDepth 65536 in
theorem w_c3 : (Jvm.Cond.code ({ cls := "com/example/fieldstead/protocol/modbus/ReadCommand", name := "maxQuantity", desc := "()I" } : Jvm.MethodName) prog_44_method_5_code (1 : Nat) (Option.some Jvm.ClassFile.FieldType.int)).before args0 about1 = true := code_word (m := ⟨6, 0⟩) (meth := k6m0) (c := k6c0) (by decide +kernel) rfl rfl rfl (by decide +kernel)
def codes1 : List Jvm.Cond := [Jvm.Cond.code x code maxLocals ret, Jvm.Cond.code ({ cls := "com/example/fieldstead/protocol/modbus/ReadCommandMaxQuantityPinLaw", name := "pick", desc := "(I)Lcom/example/fieldstead/protocol/modbus/ReadCommand;" } : Jvm.MethodName) method_2_code (1 : Nat) (Option.some (Jvm.ClassFile.FieldType.object "com/example/fieldstead/protocol/modbus/ReadCommand")), Jvm.Cond.code ({ cls := "com/example/fieldstead/protocol/modbus/ReadCommand", name := "request", desc := "(II)[B" } : Jvm.MethodName) prog_44_method_6_code (3 : Nat) (Option.some (Jvm.ClassFile.FieldType.array Jvm.ClassFile.FieldType.byte)), Jvm.Cond.code ({ cls := "com/example/fieldstead/protocol/modbus/ReadCommand", name := "maxQuantity", desc := "()I" } : Jvm.MethodName) prog_44_method_5_code (1 : Nat) (Option.some Jvm.ClassFile.FieldType.int)]
set_option maxRecDepth 65536 in
theorem codes_eq : words1.filter isCode = codes1 := rfl
theorem w_codes : ∀ c ∈ words1.filter isCode, c.before args0 about1 = true := by
  rw [codes_eq]
  intro c hc
  simp only [codes1, List.mem_cons, List.not_mem_nil, or_false] at hc
  rcases hc with rfl | rfl | rfl | rfl
  · exact w_c0
  · exact w_c1
  · exact w_c2
  · exact w_c3
set_option maxRecDepth 65536 in
theorem w_t1 : (words1.take 24).all (fun c => isCode c || c.before args0 about1) = true := by decide +kernel
set_option maxRecDepth 65536 in
theorem w_t2 : (words1.drop 24).all (fun c => isCode c || c.before args0 about1) = true := by decide +kernel
theorem w_tables : (allAtoms (Jvm.Cond.code x code maxLocals ret :: tables_1)).before args0 about1 = true := by
  rw [allAtoms_all]
  show words1.all (fun c => c.before args0 about1) = true
  refine all_split ?_ w_codes
  rw [← List.take_append_drop 24 words1, List.all_append, w_t1, w_t2]
  rfl
set_option maxRecDepth 65536 in
theorem w_case : (Jvm.Cond.and given_1 narrow_1).before args0 about1 = true := by decide +kernel
theorem w_applies : (headSpec (Jvm.Cond.code x code maxLocals ret :: tables_1) room_1).applies x e0.platform about1 = true :=
  (Spec.applies_iff w_frames).mpr ⟨w_running, w_runnable, w_alone, w_named, w_hears, w_ripe, w_room, w_tables⟩
theorem atStart : AtStart classFile x code maxLocals ret World_1 tables_1 room_1 Calls_1 rest_1 Pre_1 launch0 p0 e0 about1 theMethod args0 below0 :=
  ⟨lists_1, trivial, launch0.admits_env _ _ _, launch0.least_env, fairChoices_fair.cas, fairChoices_fair.clock, w_frames, w_args, w_heap, w_applies, trivial, trivial, w_case⟩
end start1
theorem witness_1 : WitnessClaimed_1 := ⟨start1.p0, start1.e0, start1.about1, start1.theMethod, start1.args0, start1.below0, start1.atStart⟩
end Jvm.Pilot.@@N@@
