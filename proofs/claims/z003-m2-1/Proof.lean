import JvmDerived
import JvmDerived.Pilot.@@N@@Statement
import JvmDerived.Pilot.@@N@@Code
set_option linter.unusedVariables false
set_option linter.unusedSimpArgs false
namespace Jvm.Own
open Sem ClassFile Op Lib Jvm.Stand Jvm.Free Jvm.LawKit Jvm.RoadKit
/-- what a walk knows of the method that it walks -/
def Cx (p : Program) (s : State) (m : MethodId) (meth : Method) (c : Code) (Z : State) (own nm : String) (bytes : ByteArray) (maxL : Nat) (ret : Option FieldType) : Prop :=
  p.tables.exec = Jvm.exec ∧ Z.Warmed39 s.vm ∧ c.code = bytes ∧ c.maxLocals = maxL ∧ s.vm.findClass own = some m.cls ∧ meth.name = nm ∧ meth.sig.returnType = ret ∧ meth.locks = false
/-- where a walk ends: what it returned and left, nothing old written -/
def PostW (n0 : Nat) (Q : Option Value → Heap → Prop) (R : Room) (s : State) (o : Outcome) (U : State) : Prop := ∃ v L, o = .returned v ∧ (Q v U.heap ∧ Fr n0 L) ∧ FrameEnd s o U L R.cells R.slots
/-- from every state with this heap and this frame on top the run comes to its end -/
def Wk (p : Program) (l : Launch) (e : Env) (R : Room) (s : State) (m : MethodId) (args : Array Value) (below : List Frame) (meth : Method) (c : Code) (n0 : Nat) (Q : Option Value → Heap → Prop) (h : Heap) (cells slots : Nat) (f : JFrame) : Prop :=
  ∀ T locs, Stand p l e R s m args below meth c T locs cells slots → T.heap = h → Fr n0 locs → ∃ U o, Steps p.tables e below (T.setTop f) U ∧ U.status = .running ∧ Ended U below o ∧ PostW n0 Q R s o U
/-- a method's contract at one heap and one row of arguments -/
def Met1 (l : Launch) (Z : State) (y : MethodName) (bytes : ByteArray) (maxL : Nat) (ret : Option FieldType) (rm : Room) (as : Array Value) (h0 : Heap) (n0 : Nat) (Q : Option Value → Heap → Prop) : Prop :=
  ∀ ws : List Jvm.Cond, MetFree l y (head1 (Jvm.Cond.code y bytes maxL ret :: ws) rm) (fun a U => a = as ∧ Z.Warmed39 U.vm ∧ U.heap = h0) (fun _ _ _ _ _ => True) (fun _ U o U' => ∃ v L, o = .returned v ∧ (Q v U'.heap ∧ Fr n0 L) ∧ FrameEnd U o U' L rm.cells rm.slots)
/-- an array, with all that lies in it -/
def Ars (Z : State) (h : Heap) (a : Addr) (k : ClassId) (ty : FieldType) (vs : List Value) : Prop := ∃ cl : Cell, Arr Z h a cl ty ∧ cl.cls = k ∧ cl.slots = vs.toArray ∧ vs.length < 2 ^ 31
section Laws
variable {p : Program} {l : Launch} {e : Env} {R : Room} {s : State} {m : MethodId} {args : Array Value} {below : List Frame} {meth : Method} {c : Code} {n0 : Nat} {Q : Option Value → Heap → Prop} {h : Heap} {cells slots : Nat} {Z : State} {a0 : Array Value} {own nm : String} {bytes : ByteArray} {maxL : Nat} {ret : Option FieldType}
theorem Met1.of_body {y : MethodName} {rm : Room} {as : Array Value} {h0 : Heap} (hpn : plainName y.cls = true) (hb : ∀ p e s m below meth c, Cx p s m meth c Z y.cls y.name bytes maxL ret → Wk p l e rm s m as below meth c n0 Q h0 0 0 (entryFrame m as maxL)) : Met1 l Z y bytes maxL ret rm as h0 n0 Q := by
  intro ws
  refine MetFree.of_bodySF (plainFor_of_name hpn) hisR ?_
  intro p e s m args below meth c s₁ Bd hml0 hP hK
  obtain ⟨rfl, hZ, hh⟩ := hP
  exact hb p e s m below meth c ⟨Bd.exec, hZ, Bd.bytes, hml0, findClass_of_methodNamed Bd.named, (name_of_methodNamed Bd.named Bd.method).1, Bd.returns, BodyLoose.notSynchronized Bd⟩ s₁ [] (Stand.of_body Bd) (by rw [← hh, Bd.state]; rfl) (Fr.nil n0)
theorem Met1.mono {y : MethodName} {rm : Room} {as : Array Value} {h0 : Heap} {Q' : Option Value → Heap → Prop} (hM : Met1 l Z y bytes maxL ret rm as h0 n0 Q) (hq : ∀ v h, Q v h → Q' v h) : Met1 l Z y bytes maxL ret rm as h0 n0 Q' := by
  intro ws p e ha hc hk s m args below hf happ hP hK
  obtain ⟨n, o, h1, h2, h3, v, L, r1, r2, r3⟩ := hM ws p e ha hc hk s m args below hf happ hP hK
  exact ⟨n, o, h1, h2, h3, v, L, r1, ⟨hq _ _ r2.1, r2.2⟩, r3⟩
theorem Wk.step {f f' : JFrame} (st : ∀ T locs t, Stand p l e R s m args below meth c T locs cells slots → Steps p.tables e below (T.setTop f') t → Steps p.tables e below (T.setTop f) t) (k : Wk p l e R s m args below meth c n0 Q h cells slots f') : Wk p l e R s m args below meth c n0 Q h cells slots f := fun T locs X hh N => by
  obtain ⟨U, o, h1, r⟩ := k T locs X hh N
  exact ⟨U, o, st T locs U X h1, r⟩
theorem Wk.cast {f f' : JFrame} (q : f = f') (k : Wk p l e R s m args below meth c n0 Q h cells slots f') : Wk p l e R s m args below meth c n0 Q h cells slots f := q ▸ k
theorem Wk.v1 {pc : Nat} {ls : Array Slot} {w : Value} {rest : List Value} (k : Wk p l e R s m args below meth c n0 Q h cells slots (mkF m pc ls (w :: rest))) : Wk p l e R s m args below meth c n0 Q h cells slots (mkF m pc ls ((some w).toList ++ rest)) := k
theorem w_iloadN (C : Cx p s m meth c Z own nm bytes maxL ret) {pc q : Nat} {ls : Array Slot} {rest : List Value} {j : Fin 4} {v : Int32} (hd : decode bytes pc = .ok (.iload_n j, 1)) (hq : pc + 1 = q) (hl : ls[j.val]? = some (.val (.int v))) (k : Wk p l e R s m args below meth c n0 Q h cells slots (mkF m q ls (.int v :: rest))) : Wk p l e R s m args below meth c n0 Q h cells slots (mkF m pc ls rest) := by
  subst hq; exact Wk.step (fun T _ t X k => XS.iloadN X.here C.1 rfl (hb C.2.2.1 hd) hl k) k
theorem w_aloadN (C : Cx p s m meth c Z own nm bytes maxL ret) {pc q : Nat} {ls : Array Slot} {rest : List Value} {j : Fin 4} {v : Value} (hd : decode bytes pc = .ok (.aload_n j, 1)) (hq : pc + 1 = q) (hl : ls[j.val]? = some (.val v)) (hv : v.isRef = true) (k : Wk p l e R s m args below meth c n0 Q h cells slots (mkF m q ls (v :: rest))) : Wk p l e R s m args below meth c n0 Q h cells slots (mkF m pc ls rest) := by
  subst hq; exact Wk.step (fun T _ t X k => XS.aloadN X.here C.1 rfl (hb C.2.2.1 hd) hl hv k) k
theorem w_aload (C : Cx p s m meth c Z own nm bytes maxL ret) {pc q : Nat} {ls : Array Slot} {rest : List Value} {j : Nat} {v : Value} (hd : decode bytes pc = .ok (.aload j, 2)) (hq : pc + 2 = q) (hl : ls[j]? = some (.val v)) (hv : v.isRef = true) (k : Wk p l e R s m args below meth c n0 Q h cells slots (mkF m q ls (v :: rest))) : Wk p l e R s m args below meth c n0 Q h cells slots (mkF m pc ls rest) := by
  subst hq; exact Wk.step (fun T _ t X k => XS.aload X.here C.1 rfl (hb C.2.2.1 hd) hl hv k) k
theorem w_istoreN (C : Cx p s m meth c Z own nm bytes maxL ret) {pc q : Nat} {ls : Array Slot} {rest : List Value} {j : Fin 4} {v : Int32} (ls' : Array Slot) (hd : decode bytes pc = .ok (.istore_n j, 1)) (hq : pc + 1 = q) (hl : storeLocals ls j.val (.int v) = some ls') (k : Wk p l e R s m args below meth c n0 Q h cells slots (mkF m q ls' rest)) : Wk p l e R s m args below meth c n0 Q h cells slots (mkF m pc ls (.int v :: rest)) := by
  subst hq; exact Wk.step (fun T _ t X k => XS.istoreN X.here C.1 rfl (hb C.2.2.1 hd) rfl hl k) k
theorem w_astoreN (C : Cx p s m meth c Z own nm bytes maxL ret) {pc q : Nat} {ls : Array Slot} {rest : List Value} {j : Fin 4} {v : Value} (ls' : Array Slot) (hd : decode bytes pc = .ok (.astore_n j, 1)) (hq : pc + 1 = q) (hv : v.isRef = true) (hl : storeLocals ls j.val v = some ls') (k : Wk p l e R s m args below meth c n0 Q h cells slots (mkF m q ls' rest)) : Wk p l e R s m args below meth c n0 Q h cells slots (mkF m pc ls (v :: rest)) := by
  subst hq; exact Wk.step (fun T _ t X k => XS.astoreN X.here C.1 rfl (hb C.2.2.1 hd) rfl hv hl k) k
theorem w_astore (C : Cx p s m meth c Z own nm bytes maxL ret) {pc q : Nat} {ls : Array Slot} {rest : List Value} {j : Nat} {v : Value} (ls' : Array Slot) (hd : decode bytes pc = .ok (.astore j, 2)) (hq : pc + 2 = q) (hv : v.isRef = true) (hl : storeLocals ls j v = some ls') (k : Wk p l e R s m args below meth c n0 Q h cells slots (mkF m q ls' rest)) : Wk p l e R s m args below meth c n0 Q h cells slots (mkF m pc ls (v :: rest)) := by
  subst hq; exact Wk.step (fun T _ t X k => XS.astore X.here C.1 rfl (hb C.2.2.1 hd) rfl hv hl k) k
theorem w_iinc (C : Cx p s m meth c Z own nm bytes maxL ret) {pc q : Nat} {ls : Array Slot} {rest : List Value} {j : Nat} {i : Int} {x : Int32} (v : Int32) (ls' : Array Slot) (hd : decode bytes pc = .ok (.iinc j i, 3)) (hq : pc + 3 = q) (hv : Int32.ofInt i = v) (hl : ls[j]? = some (.val (.int x))) (hl' : storeLocals ls j (.int (x + v)) = some ls') (k : Wk p l e R s m args below meth c n0 Q h cells slots (mkF m q ls' rest)) : Wk p l e R s m args below meth c n0 Q h cells slots (mkF m pc ls rest) := by
  subst hq; exact Wk.step (fun T _ t X k => XT.iincV X.here C.1 rfl v (hb C.2.2.1 hd) hv hl hl' k) k
theorem w_iconst (C : Cx p s m meth c Z own nm bytes maxL ret) {pc q : Nat} {ls : Array Slot} {rest : List Value} {i : Int} (v : Int32) (hd : decode bytes pc = .ok (.iconst i, 1)) (hq : pc + 1 = q) (hv : Int32.ofInt i = v) (k : Wk p l e R s m args below meth c n0 Q h cells slots (mkF m q ls (.int v :: rest))) : Wk p l e R s m args below meth c n0 Q h cells slots (mkF m pc ls rest) := by
  subst hq; exact Wk.step (fun T _ t X k => XT.iconstV X.here C.1 rfl v (hb C.2.2.1 hd) hv k) k
theorem w_bipush (C : Cx p s m meth c Z own nm bytes maxL ret) {pc q : Nat} {ls : Array Slot} {rest : List Value} {i : Int} (v : Int32) (hd : decode bytes pc = .ok (.bipush i, 2)) (hq : pc + 2 = q) (hv : (Int8.ofInt i).toInt32 = v) (k : Wk p l e R s m args below meth c n0 Q h cells slots (mkF m q ls (.int v :: rest))) : Wk p l e R s m args below meth c n0 Q h cells slots (mkF m pc ls rest) := by
  subst hq; exact Wk.step (fun T _ t X k => XT.bipushV X.here C.1 rfl v (hb C.2.2.1 hd) hv k) k
theorem w_aconstNull (C : Cx p s m meth c Z own nm bytes maxL ret) {pc q : Nat} {ls : Array Slot} {rest : List Value}  (hd : decode bytes pc = .ok (.aconst_null, 1)) (hq : pc + 1 = q) (k : Wk p l e R s m args below meth c n0 Q h cells slots (mkF m q ls (.null :: rest))) : Wk p l e R s m args below meth c n0 Q h cells slots (mkF m pc ls rest) := by
  subst hq; exact Wk.step (fun T _ t X k => XS.aconstNull X.here C.1 rfl (hb C.2.2.1 hd) k) k
theorem w_iadd (C : Cx p s m meth c Z own nm bytes maxL ret) {pc q : Nat} {ls : Array Slot} {rest : List Value} {x y : Int32} (hd : decode bytes pc = .ok (.iadd, 1)) (hq : pc + 1 = q) (k : Wk p l e R s m args below meth c n0 Q h cells slots (mkF m q ls (.int (x + y) :: rest))) : Wk p l e R s m args below meth c n0 Q h cells slots (mkF m pc ls (.int y :: .int x :: rest)) := by
  subst hq; exact Wk.step (fun T _ t X k => XS.iadd X.here C.1 rfl (hb C.2.2.1 hd) rfl k) k
theorem w_iand (C : Cx p s m meth c Z own nm bytes maxL ret) {pc q : Nat} {ls : Array Slot} {rest : List Value} {x y : Int32} (hd : decode bytes pc = .ok (.iand, 1)) (hq : pc + 1 = q) (k : Wk p l e R s m args below meth c n0 Q h cells slots (mkF m q ls (.int (x &&& y) :: rest))) : Wk p l e R s m args below meth c n0 Q h cells slots (mkF m pc ls (.int y :: .int x :: rest)) := by
  subst hq; exact Wk.step (fun T _ t X k => XS.iand X.here C.1 rfl (hb C.2.2.1 hd) rfl k) k
theorem w_goto (C : Cx p s m meth c Z own nm bytes maxL ret) {pc q : Nat} {ls : Array Slot} {rest : List Value} {o : Int} (hd : decode bytes pc = .ok (.goto o, 3)) (ho : 0 ≤ (pc : Int) + o) (hp : ((pc : Int) + o).toNat = q) (k : Wk p l e R s m args below meth c n0 Q h cells slots (mkF m q ls rest)) : Wk p l e R s m args below meth c n0 Q h cells slots (mkF m pc ls rest) :=
  Wk.step (fun T _ t X k => XS.goto X.here C.1 rfl rfl (hb C.2.2.1 hd) ho hp k) k
theorem w_ifne_t (C : Cx p s m meth c Z own nm bytes maxL ret) {pc q : Nat} {ls : Array Slot} {rest : List Value} {x : Int32} {o : Int} (hd : decode bytes pc = .ok (.ifCond .ne o, 3)) (ho : 0 ≤ (pc : Int) + o) (hp : ((pc : Int) + o).toNat = q) (hc : ¬ x = 0) (k : Wk p l e R s m args below meth c n0 Q h cells slots (mkF m q ls rest)) : Wk p l e R s m args below meth c n0 Q h cells slots (mkF m pc ls (.int x :: rest)) :=
  Wk.step (fun T _ t X k => XS.ifYes X.here C.1 rfl rfl (hb C.2.2.1 hd) rfl (XT.i0_ne_t hc) ho hp k) k
theorem w_ifne_f (C : Cx p s m meth c Z own nm bytes maxL ret) {pc q : Nat} {ls : Array Slot} {rest : List Value} {x : Int32} {o : Int} (hd : decode bytes pc = .ok (.ifCond .ne o, 3)) (hq : pc + 3 = q) (hc : x = 0) (k : Wk p l e R s m args below meth c n0 Q h cells slots (mkF m q ls rest)) : Wk p l e R s m args below meth c n0 Q h cells slots (mkF m pc ls (.int x :: rest)) := by
  subst hq; exact Wk.step (fun T _ t X k => XS.ifNo X.here C.1 rfl (hb C.2.2.1 hd) rfl (XT.i0_ne_f hc) k) k
theorem w_ifne (C : Cx p s m meth c Z own nm bytes maxL ret) {pc q : Nat} {ls : Array Slot} {rest : List Value} {q' : Nat} {x : Int32} {o : Int} (hd : decode bytes pc = .ok (.ifCond .ne o, 3)) (ho : 0 ≤ (pc : Int) + o) (hp : ((pc : Int) + o).toNat = q) (hq : pc + 3 = q') (kt : ¬ x = 0 → Wk p l e R s m args below meth c n0 Q h cells slots (mkF m q ls rest)) (kf : x = 0 → Wk p l e R s m args below meth c n0 Q h cells slots (mkF m q' ls rest)) : Wk p l e R s m args below meth c n0 Q h cells slots (mkF m pc ls (.int x :: rest)) := by
  by_cases hc : x = 0
  · exact w_ifne_f C hd hq hc (kf hc)
  · exact w_ifne_t C hd ho hp hc (kt hc)
theorem w_icne_t (C : Cx p s m meth c Z own nm bytes maxL ret) {pc q : Nat} {ls : Array Slot} {rest : List Value} {x y : Int32} {o : Int} (hd : decode bytes pc = .ok (.if_icmp .ne o, 3)) (ho : 0 ≤ (pc : Int) + o) (hp : ((pc : Int) + o).toNat = q) (hc : ¬ x = y) (k : Wk p l e R s m args below meth c n0 Q h cells slots (mkF m q ls rest)) : Wk p l e R s m args below meth c n0 Q h cells slots (mkF m pc ls (.int y :: .int x :: rest)) :=
  Wk.step (fun T _ t X k => XS.icmpYes X.here C.1 rfl rfl (hb C.2.2.1 hd) rfl (XT.ii_ne_t hc) ho hp k) k
theorem w_icne_f (C : Cx p s m meth c Z own nm bytes maxL ret) {pc q : Nat} {ls : Array Slot} {rest : List Value} {x y : Int32} {o : Int} (hd : decode bytes pc = .ok (.if_icmp .ne o, 3)) (hq : pc + 3 = q) (hc : x = y) (k : Wk p l e R s m args below meth c n0 Q h cells slots (mkF m q ls rest)) : Wk p l e R s m args below meth c n0 Q h cells slots (mkF m pc ls (.int y :: .int x :: rest)) := by
  subst hq; exact Wk.step (fun T _ t X k => XS.icmpNo X.here C.1 rfl (hb C.2.2.1 hd) rfl (XT.ii_ne_f hc) k) k
theorem w_icne (C : Cx p s m meth c Z own nm bytes maxL ret) {pc q : Nat} {ls : Array Slot} {rest : List Value} {q' : Nat} {x y : Int32} {o : Int} (hd : decode bytes pc = .ok (.if_icmp .ne o, 3)) (ho : 0 ≤ (pc : Int) + o) (hp : ((pc : Int) + o).toNat = q) (hq : pc + 3 = q') (kt : ¬ x = y → Wk p l e R s m args below meth c n0 Q h cells slots (mkF m q ls rest)) (kf : x = y → Wk p l e R s m args below meth c n0 Q h cells slots (mkF m q' ls rest)) : Wk p l e R s m args below meth c n0 Q h cells slots (mkF m pc ls (.int y :: .int x :: rest)) := by
  by_cases hc : x = y
  · exact w_icne_f C hd hq hc (kf hc)
  · exact w_icne_t C hd ho hp hc (kt hc)
theorem w_icge_t (C : Cx p s m meth c Z own nm bytes maxL ret) {pc q : Nat} {ls : Array Slot} {rest : List Value} {x y : Int32} {o : Int} (hd : decode bytes pc = .ok (.if_icmp .ge o, 3)) (ho : 0 ≤ (pc : Int) + o) (hp : ((pc : Int) + o).toNat = q) (hc : ¬ x < y) (k : Wk p l e R s m args below meth c n0 Q h cells slots (mkF m q ls rest)) : Wk p l e R s m args below meth c n0 Q h cells slots (mkF m pc ls (.int y :: .int x :: rest)) :=
  Wk.step (fun T _ t X k => XS.icmpYes X.here C.1 rfl rfl (hb C.2.2.1 hd) rfl (XT.ii_ge_t hc) ho hp k) k
theorem w_icge_f (C : Cx p s m meth c Z own nm bytes maxL ret) {pc q : Nat} {ls : Array Slot} {rest : List Value} {x y : Int32} {o : Int} (hd : decode bytes pc = .ok (.if_icmp .ge o, 3)) (hq : pc + 3 = q) (hc : x < y) (k : Wk p l e R s m args below meth c n0 Q h cells slots (mkF m q ls rest)) : Wk p l e R s m args below meth c n0 Q h cells slots (mkF m pc ls (.int y :: .int x :: rest)) := by
  subst hq; exact Wk.step (fun T _ t X k => XS.icmpNo X.here C.1 rfl (hb C.2.2.1 hd) rfl (XT.ii_ge_f hc) k) k
theorem w_acne_f (C : Cx p s m meth c Z own nm bytes maxL ret) {pc q : Nat} {ls : Array Slot} {rest : List Value} {x y : Value} {o : Int} (hd : decode bytes pc = .ok (.if_acmp .ne o, 3)) (hq : pc + 3 = q) (hx : x.isRef = true) (hy : y.isRef = true) (hc : x = y) (k : Wk p l e R s m args below meth c n0 Q h cells slots (mkF m q ls rest)) : Wk p l e R s m args below meth c n0 Q h cells slots (mkF m pc ls (y :: x :: rest)) := by
  subst hq; exact Wk.step (fun T _ t X k => XT.acmpNo X.here C.1 rfl (hb C.2.2.1 hd) rfl hx hy (XT.aa_ne_f hc) k) k
theorem w_getF (C : Cx p s m meth c Z own nm bytes maxL ret) {pc q : Nat} {ls : Array Slot} {rest : List Value} {O n d host : String} {i : Nat} {R0 : String} (w : (Jvm.Cond.fieldLink own i R0 n d).before a0 Z = true ∨ (Jvm.Cond.fieldLinkNest own i R0 n d host).before a0 Z = true) (via : Via Z R0 O n d) {a : Addr} {v : Value} (F : Fld Z h a O n d v) (hd : decode bytes pc = .ok (.getfield i, 3)) (hq : pc + 3 = q)
    (k : Wk p l e R s m args below meth c n0 Q h cells slots (mkF m q ls (v :: rest))) : Wk p l e R s m args below meth c n0 Q h cells slots (mkF m pc ls (.ref a :: rest)) := by
  subst hq
  intro T locs X eT N
  obtain ⟨T', X', e', st⟩ := getF X C.1 C.2.1 C.2.2.2.2.1 w via eT F (g := mkF m pc ls (.ref a :: rest)) rfl rfl (hb C.2.2.1 hd)
  obtain ⟨U, o, h1, r⟩ := k T' locs X' e' N
  exact ⟨U, o, st U h1, r⟩
theorem w_getS (C : Cx p s m meth c Z own nm bytes maxL ret) {pc q : Nat} {ls : Array Slot} {rest : List Value} {O n d host : String} {i : Nat} {R0 : String} (w : (Jvm.Cond.fieldLink own i R0 n d).before a0 Z = true ∨ (Jvm.Cond.fieldLinkNest own i R0 n d host).before a0 Z = true) (via : Via Z R0 O n d) {v : Value} (F : Sta Z h O n d v) (hd : decode bytes pc = .ok (.getstatic i, 3)) (hq : pc + 3 = q)
    (k : Wk p l e R s m args below meth c n0 Q h cells slots (mkF m q ls (v :: rest))) : Wk p l e R s m args below meth c n0 Q h cells slots (mkF m pc ls rest) := by
  subst hq
  intro T locs X eT N
  obtain ⟨T', X', e', st⟩ := getS2 X C.1 C.2.1 C.2.2.2.2.1 w via eT F (g := mkF m pc ls rest) rfl (hb C.2.2.1 hd)
  obtain ⟨U, o, h1, r⟩ := k T' locs X' e' N
  exact ⟨U, o, st U h1, r⟩
theorem Ars.ext {h' : Heap} {a : Addr} {kA : ClassId} {ty : FieldType} {vs : List Value} (F : Ars Z h a kA ty vs) (E : Ext h h') : Ars Z h' a kA ty vs := by obtain ⟨cl, A, r⟩ := F; exact ⟨cl, A.ext E, r⟩
theorem Ars.keep {h' : Heap} {a : Addr} {ws : List Addr} {kA : ClassId} {ty : FieldType} {vs : List Value} (F : Ars Z h a kA ty vs) (K : Keep h h' ws) (q : a ∉ ws) : Ars Z h' a kA ty vs := by obtain ⟨cl, A, r⟩ := F; exact ⟨cl, ⟨K.2.1 a cl A.1 q, A.2⟩, r⟩
theorem Ars.inb {a : Addr} {kA : ClassId} {ty : FieldType} {vs : List Value} {cl : Cell} (r2 : cl.slots = vs.toArray) {j : Int32} {v : Value} (hj : ¬ j < 0) (hv : vs[j.toNatClampNeg]? = some v) : ¬ (j < 0 ∨ cl.slots.size ≤ j.toNatClampNeg) := by
  intro q
  rcases q with q | q
  · exact hj q
  · rw [r2] at q
    have := (List.getElem?_eq_some_iff.mp hv).1
    simp at q
    omega
theorem w_aaload (C : Cx p s m meth c Z own nm bytes maxL ret) {pc q : Nat} {ls : Array Slot} {rest : List Value} {a : Addr} {kA : ClassId} {ty : FieldType} {vs : List Value} (F : Ars Z h a kA ty vs) (hty : ty.isReference = true) {j : Int32} (v : Value) (hj : ¬ j < 0) (hv : vs[j.toNatClampNeg]? = some v) (hd : decode bytes pc = .ok (.aaload, 1)) (hq : pc + 1 = q) (k : Wk p l e R s m args below meth c n0 Q h cells slots (mkF m q ls (v :: rest))) : Wk p l e R s m args below meth c n0 Q h cells slots (mkF m pc ls (.int j :: .ref a :: rest)) := by
  subst hq
  obtain ⟨cl, A, r1, r2, r3⟩ := F
  intro T locs X eT N
  obtain ⟨U, o, h1, r⟩ := k T locs X eT N
  exact ⟨U, o, X.aaload C.1 (by rw [eT]; exact A.1) (State.isArrayOf_alike C.2.1.alike A.2.1) hty A.2.2 (Ars.inb (a := a) (kA := kA) (ty := ty) r2 hj hv) (by rw [r2]; simpa using hv) (g := mkF m pc ls (.int j :: .ref a :: rest)) rfl rfl (hb C.2.2.1 hd) U h1, r⟩
theorem w_arraylength (C : Cx p s m meth c Z own nm bytes maxL ret) {pc q : Nat} {ls : Array Slot} {rest : List Value} {a : Addr} {kA : ClassId} {ty : FieldType} {vs : List Value} (F : Ars Z h a kA ty vs) (n : Int32) (hn : vs.length.toInt32 = n) (hd : decode bytes pc = .ok (.arraylength, 1)) (hq : pc + 1 = q) (k : Wk p l e R s m args below meth c n0 Q h cells slots (mkF m q ls (.int n :: rest))) : Wk p l e R s m args below meth c n0 Q h cells slots (mkF m pc ls (.ref a :: rest)) := by
  subst hq
  obtain ⟨cl, A, r1, r2, r3⟩ := F
  intro T locs X eT N
  obtain ⟨U, o, h1, r⟩ := k T locs X eT N
  refine ⟨U, o, X.arraylength C.1 (by rw [eT]; exact A.1) (State.isArrayOf_alike C.2.1.alike A.2.1) (g := mkF m pc ls (.ref a :: rest)) rfl rfl (hb C.2.2.1 hd) U ?_, r⟩
  have e2 : cl.slots.size.toInt32 = n := by rw [r2]; simpa using hn
  rw [e2]; exact h1
theorem w_castY (C : Cx p s m meth c Z own nm bytes maxL ret) {pc q : Nat} {ls : Array Slot} {rest : List Value} {K : String} {i : Nat} (w : (Jvm.Cond.classLink own i K).before a0 Z = true) {a : Addr} (F : Ins Z h a K true) (hd : decode bytes pc = .ok (.checkcast i, 3)) (hq : pc + 3 = q) (k : Wk p l e R s m args below meth c n0 Q h cells slots (mkF m q ls (.ref a :: rest))) : Wk p l e R s m args below meth c n0 Q h cells slots (mkF m pc ls (.ref a :: rest)) := by
  subst hq
  intro T locs X eT N
  obtain ⟨T', X', e', st⟩ := castY X C.1 C.2.1 C.2.2.2.2.1 w eT F (g := mkF m pc ls (.ref a :: rest)) rfl rfl (hb C.2.2.1 hd)
  obtain ⟨U, o, h1, r⟩ := k T' locs X' e' N
  exact ⟨U, o, st U h1, r⟩
theorem w_cloneA (C : Cx p s m meth c Z own nm bytes maxL ret) {pc q : Nat} {ls : Array Slot} {rest : List Value} {ad : String} {i : Nat} (w1 : (Jvm.Cond.methodLink own i ⟨ad, "clone", "()Ljava/lang/Object;"⟩).before a0 Z = true) (w2 : (Jvm.Cond.sameMethod ad "java/lang/Object" "clone" "()Ljava/lang/Object;").before a0 Z = true) (w3 : (Jvm.Cond.native ⟨"java/lang/Object", "clone", "()Ljava/lang/Object;"⟩).before a0 Z = true)
    (w4 : (Jvm.Cond.instanceMethod ⟨"java/lang/Object", "clone", "()Ljava/lang/Object;"⟩).before a0 Z = true) (w5 : (Jvm.Cond.selects ad ⟨ad, "clone", "()Ljava/lang/Object;"⟩ ⟨"java/lang/Object", "clone", "()Ljava/lang/Object;"⟩).before a0 Z = true) (w6 : (Jvm.Cond.castable ad "java/lang/Cloneable").before a0 Z = true)
    {a : Addr} {kA : ClassId} {ty : FieldType} {vs : List Value} (F : Ars Z h a kA ty vs) (E : Exa Z h a ad) (hfit : ∀ v ∈ vs, fits ty v = true) (hd : decode bytes pc = .ok (.invokevirtual i, 3)) (hq : pc + 3 = q) (hsz : ls.size = maxL) (hf : 1 ≤ R.frames) (hl : (rest.map fun v => v.category).sum + 14 ≤ R.locals) (cap : Nat) (hcap : vs.length ≤ cap) (hc : cells + 1 ≤ R.cells) (hs : slots + cap ≤ R.slots)
    (k : ∀ h' b, b = h.size → Ext h h' → Ars Z h' b kA ty vs → Exa Z h' b ad → Wk p l e R s m args below meth c n0 Q h' (cells + 1) (slots + cap) (mkF m q ls (.ref b :: rest))) : Wk p l e R s m args below meth c n0 Q h cells slots (mkF m pc ls (.ref a :: rest)) := by
  subst hq
  obtain ⟨cl, A, r1, r2, r3⟩ := F
  intro T locs X eT N
  have FC : FitC Z cl := fitC_of A fun j hj v hv => hfit v (by rw [r2] at hv; simp at hv; exact List.mem_of_getElem? hv)
  obtain ⟨T', h', X', e', E', A', B', st⟩ := cloneA X C.1 C.2.1 C.2.2.2.2.1 w1 w2 w3 w4 w5 w6 eT A E FC (g := mkF m pc ls (.ref a :: rest)) rfl (by rw [C.2.2.2.1]; exact hsz) rfl (hb C.2.2.1 hd) hf (W := (rest.map fun v => v.category).sum) (cap := cap) (by show 2 * 0 + _ ≤ _; omega) hl (by rw [r2]; simpa using hcap) hc hs
  obtain ⟨U, o, h1, r⟩ := k h' h.size rfl E' ⟨_, A', r1, r2, r3⟩ B' T' locs X' e' N
  exact ⟨U, o, st U h1, r⟩
/-! calls -/
theorem w_static (C : Cx p s m meth c Z own nm bytes maxL ret) {pc q : Nat} {ls : Array Slot} {rest : List Value} {y : MethodName} {yb : ByteArray} {yL : Nat} {yr : Option FieldType} {rm : Room} {i : Nat} {Qc : Option Value → Heap → Prop} {argsL : List Value} (w1 : (Jvm.Cond.methodLink own i y).before a0 Z = true) (w2 : (Jvm.Cond.static y).before a0 Z = true) (w3 : (Jvm.Cond.initialized y.cls).before a0 Z = true) (w4 : (Jvm.Cond.code y yb yL yr).before a0 Z = true) (hM : Met1 l Z y yb yL yr rm argsL.toArray h n0 Qc)
    (hy : y.cls ≠ "java/lang/invoke/MethodHandle" ∧ y.cls ≠ "java/lang/invoke/VarHandle") {st : List Value} (hlen : ∀ sig, parseMethodDescriptor y.desc = some sig → argsL.length = sig.parameters.length) (hst : st = argsL.reverse ++ rest) (hd : decode bytes pc = .ok (.invokestatic i, 3)) (hq : pc + 3 = q) (hsz : ls.size = maxL)
    (hf : rm.frames + 1 ≤ R.frames) (hl : (rest.map fun v => v.category).sum + (yL + 11) + rm.locals ≤ R.locals) (hc : cells + rm.cells ≤ R.cells) (hs : slots + rm.slots ≤ R.slots)
    (k : ∀ v h', Qc v h' → Wk p l e R s m args below meth c n0 Q h' (cells + rm.cells) (slots + rm.slots) (mkF m q ls (v.toList ++ rest))) : Wk p l e R s m args below meth c n0 Q h cells slots (mkF m pc ls st) := by
  subst hq
  intro T locs X eT N
  obtain ⟨v, _, ⟨T', L', k', n'⟩, -, X', ⟨Lc, hQ, l', y', z'⟩, stp⟩ := Jvm.LawKit.callS X C.1 (y := y) C.2.2.2.2.1 (mvT C.2.1 w1) (mvT C.2.1 w2) (mvT C.2.1 w3) (mvT C.2.1 w4) hy (backOf (Q := fun v h L => Qc v h ∧ Fr n0 L) (W := (rest.map fun v => v.category).sum) (hM []) C.2.1 w4 w3 hf hl) (g := mkF m pc ls st) rfl (by rw [C.2.2.2.1]; exact hsz) (argsL := argsL) (rest := rest) hlen hst (by show 2 * 0 + _ ≤ _; omega) (hb C.2.2.1 hd) (fun _ _ => ⟨rfl, eT, hc, hs⟩)
  dsimp only [Pt.U, Pt.locs, Pt.cells, Pt.slots] at X' l' y' z' stp hQ
  subst l' y' z'
  obtain ⟨U, o, h1, r⟩ := k v T'.heap hQ.1 T' _ X' rfl (Fr.app N hQ.2)
  exact ⟨U, o, stp U h1, r⟩
/-! returns -/
theorem w_retN (C : Cx p s m meth c Z own nm bytes maxL (some .boolean)) {pc : Nat} {ls : Array Slot} {rest : List Value} {z : Int32} (hd : decode bytes pc = .ok (.ireturn, 1)) (hc : cells ≤ R.cells) (hs : slots ≤ R.slots) (hq : Q (some (.int (z &&& 1))) h) : Wk p l e R s m args below meth c n0 Q h cells slots (mkF m pc ls (.int z :: rest)) := fun T locs X eT N => by
  have hlk := C.2.2.2.2.2.2.2
  obtain ⟨fs, hr, hrun, hended, hW, hsame⟩ := X.leave (v := some (.int (nar .boolean z))) (fun q => by rw [C.2.2.2.2.2.2.1] at q; cases q) hlk
  exact ⟨_, _, retN X C.1 (t := .boolean) C.2.2.2.2.2.2.1 (by simp) (hb C.2.2.1 hd) hr, hrun, hended, _, locs, rfl, ⟨by show Q _ T.heap; rw [eT]; exact hq, N⟩, ⟨_, rfl⟩, hW, hsame.mono hc hs⟩
theorem w_retA {ty : FieldType} (C : Cx p s m meth c Z own nm bytes maxL (some ty)) {pc : Nat} {ls : Array Slot} {rest : List Value} {v : Value} (hty : ty.isReference = true) (hv : v.isRef = true) (hd : decode bytes pc = .ok (.areturn, 1)) (hc : cells ≤ R.cells) (hs : slots ≤ R.slots) (hq : Q (some v) h) : Wk p l e R s m args below meth c n0 Q h cells slots (mkF m pc ls (v :: rest)) := fun T locs X eT N => by
  have hlk := C.2.2.2.2.2.2.2
  have hn : narrow ty v = v := by rcases ref_cases hv with rfl | ⟨y, rfl⟩ <;> cases ty <;> first | rfl | cases hty
  obtain ⟨fs, hr, hrun, hended, hW, hsame⟩ := X.leave (v := some v) (fun q => by rw [C.2.2.2.2.2.2.1] at q; cases q) hlk
  exact ⟨_, _, retOut X C.1 (t := ty) C.2.2.2.2.2.2.1 hn (Or.inr (Or.inr (Or.inr (Or.inr ⟨rfl, hty, hv⟩)))) (hb C.2.2.1 hd) hr, hrun, hended, _, locs, rfl, ⟨by show Q _ T.heap; rw [eT]; exact hq, N⟩, ⟨_, rfl⟩, hW, hsame.mono hc hs⟩
end Laws
end Jvm.Own
namespace Jvm.Pilot.@@N@@
open Jvm Jvm.ClassFile Sem Op Lib Jvm.Free Jvm.Stand Jvm.LawKit Jvm.RoadKit Bundle Jvm.Own Jvm.Pilot.@@N@@.Jvm.D
theorem pn_0 : plainName "com/example/bindwright/bindwright/protocol/UnservedRequestForRequestTagPinLaw" = true := by first | (simp [plainName, overriddenIn]; done) | decide +kernel
theorem pn_1 : plainName "com/example/bindwright/bindwright/protocol/UnservedRequest$Operation" = true := by first | (simp [plainName, overriddenIn]; done) | decide +kernel
theorem pn_2 : plainName "com/example/bindwright/bindwright/protocol/UnservedRequest$Operation" = true := by first | (simp [plainName, overriddenIn]; done) | decide +kernel
theorem pn_3 : plainName "com/example/bindwright/bindwright/protocol/UnservedRequestForRequestTagPinLaw" = true := by first | (simp [plainName, overriddenIn]; done) | decide +kernel
theorem d1_0 : decode prog_81_method_6_code 0 = .ok (.invokestatic 49, 3) := by decide +kernel
theorem d1_3 : decode prog_81_method_6_code 3 = .ok (.astore_n 1, 1) := by decide +kernel
theorem d1_4 : decode prog_81_method_6_code 4 = .ok (.aload_n 1, 1) := by decide +kernel
theorem d1_5 : decode prog_81_method_6_code 5 = .ok (.arraylength, 1) := by decide +kernel
theorem d1_6 : decode prog_81_method_6_code 6 = .ok (.istore_n 2, 1) := by decide +kernel
theorem d1_7 : decode prog_81_method_6_code 7 = .ok (.iconst 0, 1) := by decide +kernel
theorem d1_8 : decode prog_81_method_6_code 8 = .ok (.istore_n 3, 1) := by decide +kernel
theorem d1_9 : decode prog_81_method_6_code 9 = .ok (.iload_n 3, 1) := by decide +kernel
theorem d1_10 : decode prog_81_method_6_code 10 = .ok (.iload_n 2, 1) := by decide +kernel
theorem d1_11 : decode prog_81_method_6_code 11 = .ok (.if_icmp .ge 26, 3) := by decide +kernel
theorem d1_14 : decode prog_81_method_6_code 14 = .ok (.aload_n 1, 1) := by decide +kernel
theorem d1_15 : decode prog_81_method_6_code 15 = .ok (.iload_n 3, 1) := by decide +kernel
theorem d1_16 : decode prog_81_method_6_code 16 = .ok (.aaload, 1) := by decide +kernel
theorem d1_17 : decode prog_81_method_6_code 17 = .ok (.astore 4, 2) := by decide +kernel
theorem d1_19 : decode prog_81_method_6_code 19 = .ok (.aload 4, 2) := by decide +kernel
theorem d1_21 : decode prog_81_method_6_code 21 = .ok (.getfield 38, 3) := by decide +kernel
theorem d1_24 : decode prog_81_method_6_code 24 = .ok (.iload_n 0, 1) := by decide +kernel
theorem d1_25 : decode prog_81_method_6_code 25 = .ok (.if_icmp .ne 6, 3) := by decide +kernel
theorem d1_28 : decode prog_81_method_6_code 28 = .ok (.aload 4, 2) := by decide +kernel
theorem d1_30 : decode prog_81_method_6_code 30 = .ok (.areturn, 1) := by decide +kernel
theorem d1_31 : decode prog_81_method_6_code 31 = .ok (.iinc 3 1, 3) := by decide +kernel
theorem d1_34 : decode prog_81_method_6_code 34 = .ok (.goto (-25), 3) := by decide +kernel
theorem d1_37 : decode prog_81_method_6_code 37 = .ok (.aconst_null, 1) := by decide +kernel
theorem d1_38 : decode prog_81_method_6_code 38 = .ok (.areturn, 1) := by decide +kernel
theorem d2_0 : decode prog_81_method_1_code 0 = .ok (.getstatic 19, 3) := by decide +kernel
theorem d2_3 : decode prog_81_method_1_code 3 = .ok (.invokevirtual 23, 3) := by decide +kernel
theorem d2_6 : decode prog_81_method_1_code 6 = .ok (.checkcast 24, 3) := by decide +kernel
theorem d2_9 : decode prog_81_method_1_code 9 = .ok (.areturn, 1) := by decide +kernel
theorem d3_0 : decode method_2_code 0 = .ok (.iload_n 0, 1) := by decide +kernel
theorem d3_1 : decode method_2_code 1 = .ok (.bipush 104, 2) := by decide +kernel
theorem d3_3 : decode method_2_code 3 = .ok (.if_icmp .ne 7, 3) := by decide +kernel
theorem d3_6 : decode method_2_code 6 = .ok (.getstatic 7, 3) := by decide +kernel
theorem d3_9 : decode method_2_code 9 = .ok (.areturn, 1) := by decide +kernel
theorem d3_10 : decode method_2_code 10 = .ok (.iload_n 0, 1) := by decide +kernel
theorem d3_11 : decode method_2_code 11 = .ok (.bipush 74, 2) := by decide +kernel
theorem d3_13 : decode method_2_code 13 = .ok (.if_icmp .ne 7, 3) := by decide +kernel
theorem d3_16 : decode method_2_code 16 = .ok (.getstatic 13, 3) := by decide +kernel
theorem d3_19 : decode method_2_code 19 = .ok (.areturn, 1) := by decide +kernel
theorem d3_20 : decode method_2_code 20 = .ok (.iload_n 0, 1) := by decide +kernel
theorem d3_21 : decode method_2_code 21 = .ok (.bipush 102, 2) := by decide +kernel
theorem d3_23 : decode method_2_code 23 = .ok (.if_icmp .ne 7, 3) := by decide +kernel
theorem d3_26 : decode method_2_code 26 = .ok (.getstatic 16, 3) := by decide +kernel
theorem d3_29 : decode method_2_code 29 = .ok (.areturn, 1) := by decide +kernel
theorem d3_30 : decode method_2_code 30 = .ok (.iload_n 0, 1) := by decide +kernel
theorem d3_31 : decode method_2_code 31 = .ok (.bipush 108, 2) := by decide +kernel
theorem d3_33 : decode method_2_code 33 = .ok (.if_icmp .ne 7, 3) := by decide +kernel
theorem d3_36 : decode method_2_code 36 = .ok (.getstatic 19, 3) := by decide +kernel
theorem d3_39 : decode method_2_code 39 = .ok (.areturn, 1) := by decide +kernel
theorem d3_40 : decode method_2_code 40 = .ok (.iload_n 0, 1) := by decide +kernel
theorem d3_41 : decode method_2_code 41 = .ok (.bipush 110, 2) := by decide +kernel
theorem d3_43 : decode method_2_code 43 = .ok (.if_icmp .ne 7, 3) := by decide +kernel
theorem d3_46 : decode method_2_code 46 = .ok (.getstatic 22, 3) := by decide +kernel
theorem d3_49 : decode method_2_code 49 = .ok (.areturn, 1) := by decide +kernel
theorem d3_50 : decode method_2_code 50 = .ok (.aconst_null, 1) := by decide +kernel
theorem d3_51 : decode method_2_code 51 = .ok (.areturn, 1) := by decide +kernel
theorem pd_0 : parseMethodDescriptor "()[Lcom/example/bindwright/bindwright/protocol/UnservedRequest$Operation;" = some ⟨[], some (.array (.object "com/example/bindwright/bindwright/protocol/UnservedRequest$Operation"))⟩ := by decide +kernel
theorem pd_1 : parseMethodDescriptor "(I)Lcom/example/bindwright/bindwright/protocol/UnservedRequest$Operation;" = some ⟨[.int], some (.object "com/example/bindwright/bindwright/protocol/UnservedRequest$Operation")⟩ := by decide +kernel
def fr (t : Int32) (c1 c2 c3 c4 c5 : Addr) : Value := if (104 : Int32) = t then .ref c1 else if (74 : Int32) = t then .ref c2 else if (102 : Int32) = t then .ref c3 else if (108 : Int32) = t then .ref c4 else if (110 : Int32) = t then .ref c5 else .null
def ex (t : Int32) (c1 c2 c3 c4 c5 : Addr) : Value := if t = (104 : Int32) then .ref c1 else if t = (74 : Int32) then .ref c2 else if t = (102 : Int32) then .ref c3 else if t = (108 : Int32) then .ref c4 else if t = (110 : Int32) then .ref c5 else .null
theorem own_fr (t : Int32) (c1 c2 c3 c4 c5 : Addr) : fr t c1 c2 c3 c4 c5 = ex t c1 c2 c3 c4 c5 := by
  unfold fr ex
  simp only [eq_comm (a := t)]
theorem own_ref {v : Value} (h : v.isRef = true) (ls : Array Slot) (P : Prop) (h1 : v = .null → P) (h2 : ∀ y, v = .ref y → P) : P := by
  rcases ref_cases h with e | ⟨y, e⟩
  · exact h1 e
  · exact h2 y e
theorem own_frR (t : Int32) (c1 c2 c3 c4 c5 : Addr) : (fr t c1 c2 c3 c4 c5).isRef = true := by
  unfold fr
  (repeat' split) <;> rfl
theorem own_exR (t : Int32) (c1 c2 c3 c4 c5 : Addr) : (ex t c1 c2 c3 c4 c5).isRef = true := own_fr t c1 c2 c3 c4 c5 ▸ own_frR t c1 c2 c3 c4 c5
theorem own_eqI {args : Array Value} {Z : State} {t : Term} {n : Int32} (h : (Jvm.Cond.eq t (.int n)).value args Z none Z [] = some true) : t.eval args Z none [] Z = some (.int n) := by
  simp only [Cond.value] at h
  cases ht : t.eval args Z none [] Z with
  | none => simp [ht] at h
  | some x => cases x <;> simp [ht, Term.eval] at h ⊢; exact h
theorem own_eqR {args : Array Value} {Z : State} {t u : Term} {a : Addr} (hu : u.eval args Z none [] Z = some (.ref a)) (h : (Jvm.Cond.eq t u).value args Z none Z [] = some true) : t.eval args Z none [] Z = some (.ref a) := by
  simp only [Cond.value, hu] at h
  cases ht : t.eval args Z none [] Z with
  | none => simp [ht] at h
  | some x => cases x <;> simp [ht] at h ⊢; exact h
theorem own_fld {args : Array Value} {Z : State} {t : Term} {C n d : String} {a : Addr} {v : Int32} (ht : t.eval args Z none [] Z = some (.ref a)) (h : (Jvm.Cond.eq (.field t C n d) (.int v)).value args Z none Z [] = some true) : Fld Z Z.heap a C n d (.int v) :=
  Fld.start ((fld_at ht).symm.trans (own_eqI h))
theorem own_ars {args : Array Value} {Z : State} {t : Term} {ty : FieldType} {a x0 x1 x2 x3 x4 : Addr} (ht : t.eval args Z none [] Z = some (.ref a)) (hA : (Jvm.Cond.arrayOf t ty).value args Z none Z [] = some true) (hl : (Jvm.Cond.eq (.length t) (.int 5)).value args Z none Z [] = some true)
    (h0 : (Term.elem t (.int 0)).eval args Z none [] Z = some (.ref x0)) (h1 : (Term.elem t (.int 1)).eval args Z none [] Z = some (.ref x1)) (h2 : (Term.elem t (.int 2)).eval args Z none [] Z = some (.ref x2)) (h3 : (Term.elem t (.int 3)).eval args Z none [] Z = some (.ref x3)) (h4 : (Term.elem t (.int 4)).eval args Z none [] Z = some (.ref x4)) :
    ∃ kA, Ars Z Z.heap a kA ty [.ref x0, .ref x1, .ref x2, .ref x3, .ref x4] := by
  obtain ⟨cl, A⟩ := Arr.start ht hA
  obtain ⟨b, cell, q1, q2, q4⟩ := Term.length_spec (own_eqI hl)
  cases ht.symm.trans q1
  have q5 := (State.arrayAt?_spec q2).1
  obtain rfl : cl = cell := Option.some.inj (A.1.symm.trans q5)
  have q3 : cl.slots.size < 2 ^ 31 := by
    by_cases q : cl.slots.size < 2 ^ 31
    · exact q
    · have hl' := own_eqI hl
      simp [Term.eval, ht, q2, q] at hl'
  have hs : cl.slots.size = 5 := by
    have e : (5 : Int32) = cl.slots.size.toInt32 := by injection q4
    have e2 := congrArg Int32.toInt e
    rw [len_toInt q3] at e2
    have e3 : (5 : Int32).toInt = 5 := rfl
    omega
  have g0 := (elem_in h0 ht (Term.int_eval 0) A.1).2
  have g1 := (elem_in h1 ht (Term.int_eval 1) A.1).2
  have g2 := (elem_in h2 ht (Term.int_eval 2) A.1).2
  have g3 := (elem_in h3 ht (Term.int_eval 3) A.1).2
  have g4 := (elem_in h4 ht (Term.int_eval 4) A.1).2
  refine ⟨_, cl, A, rfl, ?_, by simp⟩
  apply Array.ext_getElem?
  intro i
  match i with
  | 0 => exact g0
  | 1 => exact g1
  | 2 => exact g2
  | 3 => exact g3
  | 4 => exact g4
  | n + 5 => rw [Array.getElem?_eq_none (by omega)]; simp
theorem ef_2 (m : MethodId)  : entryFrame m #[] 0 = mkF m 0 #[] [] := by first | (simp [entryFrame, mkF, argsToLocals, Value.category]; done) | rfl
set_option maxRecDepth 65536 in
set_option maxHeartbeats 40000000 in
theorem rm2 (l : Launch) (Z : State) (a0 : Array Value) (hw : ∀ d ∈ tables_1, d.before a0 Z = true)  (h0 : Heap) (n0 : Nat) (Z0 : n0 ≤ h0.size) (a1 : Addr) (kA : ClassId) (c1 c2 c3 c4 c5 : Addr) (S0 : Sta Z h0 "com/example/bindwright/bindwright/protocol/UnservedRequest$Operation" "$VALUES" "[Lcom/example/bindwright/bindwright/protocol/UnservedRequest$Operation;" (.ref a1)) (E0 : Exa Z h0 a1 "[Lcom/example/bindwright/bindwright/protocol/UnservedRequest$Operation;") (A0 : Ars Z h0 a1 kA (.object "com/example/bindwright/bindwright/protocol/UnservedRequest$Operation") [(.ref c1), (.ref c2), (.ref c3), (.ref c4), (.ref c5)]) :
    Met1 l Z ⟨"com/example/bindwright/bindwright/protocol/UnservedRequest$Operation", "values", "()[Lcom/example/bindwright/bindwright/protocol/UnservedRequest$Operation;"⟩ prog_81_method_1_code 0 (some (.array (.object "com/example/bindwright/bindwright/protocol/UnservedRequest$Operation"))) ({ frames := 1, cells := 1, slots := 5, locals := 14 } : Room) #[] h0 n0 (fun v h => ∃ b, v = some (.ref b) ∧ Keep h0 h [] ∧ Ars Z h b kA (.object "com/example/bindwright/bindwright/protocol/UnservedRequest$Operation") [(.ref c1), (.ref c2), (.ref c3), (.ref c4), (.ref c5)]) := by
  refine Met1.of_body pn_2 (fun p e s m below meth c C => ?_)
  replace C : Cx p s m meth c Z "com/example/bindwright/bindwright/protocol/UnservedRequest$Operation" "values" prog_81_method_1_code 0 (some (.array (.object "com/example/bindwright/bindwright/protocol/UnservedRequest$Operation"))) := C
  refine Wk.cast (ef_2 m ) ?_
  refine w_getS C (q := 3) (host := "") (Or.inl (hw _ (List.mem_of_getElem? (i := 7) rfl))) Via.refl S0 d2_0 rfl ?_
  refine w_cloneA C (q := 6) (ad := "[Lcom/example/bindwright/bindwright/protocol/UnservedRequest$Operation;") (hw _ (List.mem_of_getElem? (i := 9) rfl)) (hw _ (List.mem_of_getElem? (i := 10) rfl)) (hw _ (List.mem_of_getElem? (i := 14) rfl)) (hw _ (List.mem_of_getElem? (i := 12) rfl)) (hw _ (List.mem_of_getElem? (i := 13) rfl)) (hw _ (List.mem_of_getElem? (i := 15) rfl)) A0 E0 (fun v hv => by simp at hv; rcases hv with rfl | rfl | rfl | rfl | rfl <;> rfl) d2_3 rfl rfl (by decide) (Nat.le_of_ble_eq_true rfl) 5 (Nat.le_refl _) (by decide) (by decide) ?_
  intro h1 b eq_b Eh1 A1 E1
  refine w_castY C (q := 9) (hw _ (List.mem_of_getElem? (i := 22) rfl)) (Ins.self E1) d2_6 rfl ?_
  exact w_retA C rfl rfl d2_9 (by decide) (by decide) ⟨b, rfl, (Keep.refl _ _).ext Eh1, A1⟩
theorem ef_1 (m : MethodId) (x0 : Int32) : entryFrame m #[(.int x0)] 5 = mkF m 0 #[.val (.int x0), .unset, .unset, .unset, .unset] [] := by first | (simp [entryFrame, mkF, argsToLocals, Value.category]; done) | rfl
set_option maxRecDepth 65536 in
set_option maxHeartbeats 40000000 in
theorem rm1 (l : Launch) (Z : State) (a0 : Array Value) (hw : ∀ d ∈ tables_1, d.before a0 Z = true) (x0 : Int32) (h0 : Heap) (n0 : Nat) (Z0 : n0 ≤ h0.size) (a1 : Addr) (kA : ClassId) (c1 c2 c3 c4 c5 : Addr) (S0 : Sta Z h0 "com/example/bindwright/bindwright/protocol/UnservedRequest$Operation" "$VALUES" "[Lcom/example/bindwright/bindwright/protocol/UnservedRequest$Operation;" (.ref a1)) (E0 : Exa Z h0 a1 "[Lcom/example/bindwright/bindwright/protocol/UnservedRequest$Operation;") (A0 : Ars Z h0 a1 kA (.object "com/example/bindwright/bindwright/protocol/UnservedRequest$Operation") [(.ref c1), (.ref c2), (.ref c3), (.ref c4), (.ref c5)]) (F1 : Fld Z h0 c1 "com/example/bindwright/bindwright/protocol/UnservedRequest$Operation" "requestTag" "I" (.int (104 : Int32))) (F2 : Fld Z h0 c2 "com/example/bindwright/bindwright/protocol/UnservedRequest$Operation" "requestTag" "I" (.int (74 : Int32))) (F3 : Fld Z h0 c3 "com/example/bindwright/bindwright/protocol/UnservedRequest$Operation" "requestTag" "I" (.int (102 : Int32))) (F4 : Fld Z h0 c4 "com/example/bindwright/bindwright/protocol/UnservedRequest$Operation" "requestTag" "I" (.int (108 : Int32))) (F5 : Fld Z h0 c5 "com/example/bindwright/bindwright/protocol/UnservedRequest$Operation" "requestTag" "I" (.int (110 : Int32))) :
    Met1 l Z ⟨"com/example/bindwright/bindwright/protocol/UnservedRequest$Operation", "forRequestTag", "(I)Lcom/example/bindwright/bindwright/protocol/UnservedRequest$Operation;"⟩ prog_81_method_6_code 5 (some (.object "com/example/bindwright/bindwright/protocol/UnservedRequest$Operation")) ({ frames := 2, cells := 1, slots := 5, locals := 40 } : Room) #[(.int x0)] h0 n0 (fun v h => v = some (fr x0 c1 c2 c3 c4 c5) ∧ Keep h0 h []) := by
  refine Met1.of_body pn_1 (fun p e s m below meth c C => ?_)
  replace C : Cx p s m meth c Z "com/example/bindwright/bindwright/protocol/UnservedRequest$Operation" "forRequestTag" prog_81_method_6_code 5 (some (.object "com/example/bindwright/bindwright/protocol/UnservedRequest$Operation")) := C
  refine Wk.cast (ef_1 m x0) ?_
  refine w_static C (q := 3) (y := ⟨"com/example/bindwright/bindwright/protocol/UnservedRequest$Operation", "values", "()[Lcom/example/bindwright/bindwright/protocol/UnservedRequest$Operation;"⟩) (rm := ({ frames := 1, cells := 1, slots := 5, locals := 14 } : Room)) (argsL := []) (hw _ (List.mem_of_getElem? (i := 4) rfl)) (hw _ (List.mem_of_getElem? (i := 5) rfl)) (hw _ (List.mem_of_getElem? (i := 2) rfl)) (hw _ (List.mem_of_getElem? (i := 6) rfl)) (rm2 l Z a0 hw _ n0 Z0 a1 kA c1 c2 c3 c4 c5 S0 E0 A0) (by decide) (rest := []) (lenOf pd_0 rfl) rfl d1_0 rfl rfl (by decide) (Nat.le_of_ble_eq_true rfl) (by decide) (by decide) ?_
  intro v h1 hQ
  obtain ⟨b, rfl, K, A1⟩ := hQ
  replace F1 := F1.keep K nin0
  replace F2 := F2.keep K nin0
  replace F3 := F3.keep K nin0
  replace F4 := F4.keep K nin0
  replace F5 := F5.keep K nin0
  replace Z0 := Nat.le_trans Z0 K.1
  refine Wk.v1 ?_
  refine w_astoreN C (q := 4) #[.val (.int x0), .val (.ref b), .unset, .unset, .unset] d1_3 rfl rfl rfl ?_
  refine w_aloadN C (q := 5) d1_4 rfl rfl rfl ?_
  refine w_arraylength C (q := 6) A1 (5 : Int32) rfl d1_5 rfl ?_
  refine w_istoreN C (q := 7) #[.val (.int x0), .val (.ref b), .val (.int (5 : Int32)), .unset, .unset] d1_6 rfl rfl ?_
  refine w_iconst C (q := 8) (0 : Int32) d1_7 rfl (by decide) ?_
  refine w_istoreN C (q := 9) #[.val (.int x0), .val (.ref b), .val (.int (5 : Int32)), .val (.int (0 : Int32)), .unset] d1_8 rfl rfl ?_
  refine w_iloadN C (q := 10) d1_9 rfl rfl ?_
  refine w_iloadN C (q := 11) d1_10 rfl rfl ?_
  refine w_icge_f C (q := 14) d1_11 rfl (by decide) ?_
  refine w_aloadN C (q := 15) d1_14 rfl rfl rfl ?_
  refine w_iloadN C (q := 16) d1_15 rfl rfl ?_
  refine w_aaload C (q := 17) A1 rfl (.ref c1) (by decide) rfl d1_16 rfl ?_
  refine w_astore C (q := 19) #[.val (.int x0), .val (.ref b), .val (.int (5 : Int32)), .val (.int (0 : Int32)), .val (.ref c1)] d1_17 rfl rfl rfl ?_
  refine w_aload C (q := 21) d1_19 rfl rfl rfl ?_
  refine w_getF C (q := 24) (host := "") (Or.inl (hw _ (List.mem_of_getElem? (i := 24) rfl))) Via.refl F1 d1_21 rfl ?_
  refine w_iloadN C (q := 25) d1_24 rfl rfl ?_
  refine w_icne C (q := 31) (q' := 28) d1_25 (by decide) (by decide) rfl (fun hc25_0 => ?_) (fun hc25_0 => ?_)
  · refine w_iinc C (q := 34) (1 : Int32) #[.val (.int x0), .val (.ref b), .val (.int (5 : Int32)), .val (.int (1 : Int32)), .val (.ref c1)] d1_31 rfl (by decide) rfl rfl ?_
    refine w_goto C (q := 9) d1_34 (by decide) (by decide) ?_
    refine w_iloadN C (q := 10) d1_9 rfl rfl ?_
    refine w_iloadN C (q := 11) d1_10 rfl rfl ?_
    refine w_icge_f C (q := 14) d1_11 rfl (by decide) ?_
    refine w_aloadN C (q := 15) d1_14 rfl rfl rfl ?_
    refine w_iloadN C (q := 16) d1_15 rfl rfl ?_
    refine w_aaload C (q := 17) A1 rfl (.ref c2) (by decide) rfl d1_16 rfl ?_
    refine w_astore C (q := 19) #[.val (.int x0), .val (.ref b), .val (.int (5 : Int32)), .val (.int (1 : Int32)), .val (.ref c2)] d1_17 rfl rfl rfl ?_
    refine w_aload C (q := 21) d1_19 rfl rfl rfl ?_
    refine w_getF C (q := 24) (host := "") (Or.inl (hw _ (List.mem_of_getElem? (i := 24) rfl))) Via.refl F2 d1_21 rfl ?_
    refine w_iloadN C (q := 25) d1_24 rfl rfl ?_
    refine w_icne C (q := 31) (q' := 28) d1_25 (by decide) (by decide) rfl (fun hc25_1 => ?_) (fun hc25_1 => ?_)
    · refine w_iinc C (q := 34) (1 : Int32) #[.val (.int x0), .val (.ref b), .val (.int (5 : Int32)), .val (.int (2 : Int32)), .val (.ref c2)] d1_31 rfl (by decide) rfl rfl ?_
      refine w_goto C (q := 9) d1_34 (by decide) (by decide) ?_
      refine w_iloadN C (q := 10) d1_9 rfl rfl ?_
      refine w_iloadN C (q := 11) d1_10 rfl rfl ?_
      refine w_icge_f C (q := 14) d1_11 rfl (by decide) ?_
      refine w_aloadN C (q := 15) d1_14 rfl rfl rfl ?_
      refine w_iloadN C (q := 16) d1_15 rfl rfl ?_
      refine w_aaload C (q := 17) A1 rfl (.ref c3) (by decide) rfl d1_16 rfl ?_
      refine w_astore C (q := 19) #[.val (.int x0), .val (.ref b), .val (.int (5 : Int32)), .val (.int (2 : Int32)), .val (.ref c3)] d1_17 rfl rfl rfl ?_
      refine w_aload C (q := 21) d1_19 rfl rfl rfl ?_
      refine w_getF C (q := 24) (host := "") (Or.inl (hw _ (List.mem_of_getElem? (i := 24) rfl))) Via.refl F3 d1_21 rfl ?_
      refine w_iloadN C (q := 25) d1_24 rfl rfl ?_
      refine w_icne C (q := 31) (q' := 28) d1_25 (by decide) (by decide) rfl (fun hc25_2 => ?_) (fun hc25_2 => ?_)
      · refine w_iinc C (q := 34) (1 : Int32) #[.val (.int x0), .val (.ref b), .val (.int (5 : Int32)), .val (.int (3 : Int32)), .val (.ref c3)] d1_31 rfl (by decide) rfl rfl ?_
        refine w_goto C (q := 9) d1_34 (by decide) (by decide) ?_
        refine w_iloadN C (q := 10) d1_9 rfl rfl ?_
        refine w_iloadN C (q := 11) d1_10 rfl rfl ?_
        refine w_icge_f C (q := 14) d1_11 rfl (by decide) ?_
        refine w_aloadN C (q := 15) d1_14 rfl rfl rfl ?_
        refine w_iloadN C (q := 16) d1_15 rfl rfl ?_
        refine w_aaload C (q := 17) A1 rfl (.ref c4) (by decide) rfl d1_16 rfl ?_
        refine w_astore C (q := 19) #[.val (.int x0), .val (.ref b), .val (.int (5 : Int32)), .val (.int (3 : Int32)), .val (.ref c4)] d1_17 rfl rfl rfl ?_
        refine w_aload C (q := 21) d1_19 rfl rfl rfl ?_
        refine w_getF C (q := 24) (host := "") (Or.inl (hw _ (List.mem_of_getElem? (i := 24) rfl))) Via.refl F4 d1_21 rfl ?_
        refine w_iloadN C (q := 25) d1_24 rfl rfl ?_
        refine w_icne C (q := 31) (q' := 28) d1_25 (by decide) (by decide) rfl (fun hc25_3 => ?_) (fun hc25_3 => ?_)
        · refine w_iinc C (q := 34) (1 : Int32) #[.val (.int x0), .val (.ref b), .val (.int (5 : Int32)), .val (.int (4 : Int32)), .val (.ref c4)] d1_31 rfl (by decide) rfl rfl ?_
          refine w_goto C (q := 9) d1_34 (by decide) (by decide) ?_
          refine w_iloadN C (q := 10) d1_9 rfl rfl ?_
          refine w_iloadN C (q := 11) d1_10 rfl rfl ?_
          refine w_icge_f C (q := 14) d1_11 rfl (by decide) ?_
          refine w_aloadN C (q := 15) d1_14 rfl rfl rfl ?_
          refine w_iloadN C (q := 16) d1_15 rfl rfl ?_
          refine w_aaload C (q := 17) A1 rfl (.ref c5) (by decide) rfl d1_16 rfl ?_
          refine w_astore C (q := 19) #[.val (.int x0), .val (.ref b), .val (.int (5 : Int32)), .val (.int (4 : Int32)), .val (.ref c5)] d1_17 rfl rfl rfl ?_
          refine w_aload C (q := 21) d1_19 rfl rfl rfl ?_
          refine w_getF C (q := 24) (host := "") (Or.inl (hw _ (List.mem_of_getElem? (i := 24) rfl))) Via.refl F5 d1_21 rfl ?_
          refine w_iloadN C (q := 25) d1_24 rfl rfl ?_
          refine w_icne C (q := 31) (q' := 28) d1_25 (by decide) (by decide) rfl (fun hc25_4 => ?_) (fun hc25_4 => ?_)
          · refine w_iinc C (q := 34) (1 : Int32) #[.val (.int x0), .val (.ref b), .val (.int (5 : Int32)), .val (.int (5 : Int32)), .val (.ref c5)] d1_31 rfl (by decide) rfl rfl ?_
            refine w_goto C (q := 9) d1_34 (by decide) (by decide) ?_
            refine w_iloadN C (q := 10) d1_9 rfl rfl ?_
            refine w_iloadN C (q := 11) d1_10 rfl rfl ?_
            refine w_icge_t C (q := 37) d1_11 (by decide) (by decide) (by decide) ?_
            refine w_aconstNull C (q := 38) d1_37 rfl ?_
            exact w_retA C rfl rfl d1_38 (by decide) (by decide) ⟨by rw [fr, if_neg hc25_0, if_neg hc25_1, if_neg hc25_2, if_neg hc25_3, if_neg hc25_4], K⟩
          · refine w_aload C (q := 30) d1_28 rfl rfl rfl ?_
            exact w_retA C rfl rfl d1_30 (by decide) (by decide) ⟨by rw [fr, if_neg hc25_0, if_neg hc25_1, if_neg hc25_2, if_neg hc25_3, if_pos hc25_4], K⟩
        · refine w_aload C (q := 30) d1_28 rfl rfl rfl ?_
          exact w_retA C rfl rfl d1_30 (by decide) (by decide) ⟨by rw [fr, if_neg hc25_0, if_neg hc25_1, if_neg hc25_2, if_pos hc25_3], K⟩
      · refine w_aload C (q := 30) d1_28 rfl rfl rfl ?_
        exact w_retA C rfl rfl d1_30 (by decide) (by decide) ⟨by rw [fr, if_neg hc25_0, if_neg hc25_1, if_pos hc25_2], K⟩
    · refine w_aload C (q := 30) d1_28 rfl rfl rfl ?_
      exact w_retA C rfl rfl d1_30 (by decide) (by decide) ⟨by rw [fr, if_neg hc25_0, if_pos hc25_1], K⟩
  · refine w_aload C (q := 30) d1_28 rfl rfl rfl ?_
    exact w_retA C rfl rfl d1_30 (by decide) (by decide) ⟨by rw [fr, if_pos hc25_0], K⟩
theorem ef_3 (m : MethodId) (x0 : Int32) : entryFrame m #[(.int x0)] 1 = mkF m 0 #[.val (.int x0)] [] := by first | (simp [entryFrame, mkF, argsToLocals, Value.category]; done) | rfl
set_option maxRecDepth 65536 in
set_option maxHeartbeats 40000000 in
theorem rm3 (l : Launch) (Z : State) (a0 : Array Value) (hw : ∀ d ∈ tables_1, d.before a0 Z = true) (x0 : Int32) (h0 : Heap) (n0 : Nat) (Z0 : n0 ≤ h0.size) (c1 c2 c3 c4 c5 : Addr) (S1 : Sta Z h0 "com/example/bindwright/bindwright/protocol/UnservedRequest$Operation" "ADD" "Lcom/example/bindwright/bindwright/protocol/UnservedRequest$Operation;" (.ref c1)) (S2 : Sta Z h0 "com/example/bindwright/bindwright/protocol/UnservedRequest$Operation" "DELETE" "Lcom/example/bindwright/bindwright/protocol/UnservedRequest$Operation;" (.ref c2)) (S3 : Sta Z h0 "com/example/bindwright/bindwright/protocol/UnservedRequest$Operation" "MODIFY" "Lcom/example/bindwright/bindwright/protocol/UnservedRequest$Operation;" (.ref c3)) (S4 : Sta Z h0 "com/example/bindwright/bindwright/protocol/UnservedRequest$Operation" "MODIFY_DN" "Lcom/example/bindwright/bindwright/protocol/UnservedRequest$Operation;" (.ref c4)) (S5 : Sta Z h0 "com/example/bindwright/bindwright/protocol/UnservedRequest$Operation" "COMPARE" "Lcom/example/bindwright/bindwright/protocol/UnservedRequest$Operation;" (.ref c5)) :
    Met1 l Z ⟨"com/example/bindwright/bindwright/protocol/UnservedRequestForRequestTagPinLaw", "expected", "(I)Lcom/example/bindwright/bindwright/protocol/UnservedRequest$Operation;"⟩ method_2_code 1 (some (.object "com/example/bindwright/bindwright/protocol/UnservedRequest$Operation")) ({ frames := 0, cells := 0, slots := 0, locals := 0 } : Room) #[(.int x0)] h0 n0 (fun v h => v = some (ex x0 c1 c2 c3 c4 c5) ∧ h0 = h) := by
  refine Met1.of_body pn_3 (fun p e s m below meth c C => ?_)
  replace C : Cx p s m meth c Z "com/example/bindwright/bindwright/protocol/UnservedRequestForRequestTagPinLaw" "expected" method_2_code 1 (some (.object "com/example/bindwright/bindwright/protocol/UnservedRequest$Operation")) := C
  refine Wk.cast (ef_3 m x0) ?_
  refine w_iloadN C (q := 1) d3_0 rfl rfl ?_
  refine w_bipush C (q := 3) (104 : Int32) d3_1 rfl (by decide) ?_
  refine w_icne C (q := 10) (q' := 6) d3_3 (by decide) (by decide) rfl (fun hc3 => ?_) (fun hc3 => ?_)
  · refine w_iloadN C (q := 11) d3_10 rfl rfl ?_
    refine w_bipush C (q := 13) (74 : Int32) d3_11 rfl (by decide) ?_
    refine w_icne C (q := 20) (q' := 16) d3_13 (by decide) (by decide) rfl (fun hc13 => ?_) (fun hc13 => ?_)
    · refine w_iloadN C (q := 21) d3_20 rfl rfl ?_
      refine w_bipush C (q := 23) (102 : Int32) d3_21 rfl (by decide) ?_
      refine w_icne C (q := 30) (q' := 26) d3_23 (by decide) (by decide) rfl (fun hc23 => ?_) (fun hc23 => ?_)
      · refine w_iloadN C (q := 31) d3_30 rfl rfl ?_
        refine w_bipush C (q := 33) (108 : Int32) d3_31 rfl (by decide) ?_
        refine w_icne C (q := 40) (q' := 36) d3_33 (by decide) (by decide) rfl (fun hc33 => ?_) (fun hc33 => ?_)
        · refine w_iloadN C (q := 41) d3_40 rfl rfl ?_
          refine w_bipush C (q := 43) (110 : Int32) d3_41 rfl (by decide) ?_
          refine w_icne C (q := 50) (q' := 46) d3_43 (by decide) (by decide) rfl (fun hc43 => ?_) (fun hc43 => ?_)
          · refine w_aconstNull C (q := 51) d3_50 rfl ?_
            exact w_retA C rfl rfl d3_51 (by decide) (by decide) ⟨by rw [ex, if_neg hc3, if_neg hc13, if_neg hc23, if_neg hc33, if_neg hc43], rfl⟩
          · refine w_getS C (q := 49) (host := "") (Or.inl (hw _ (List.mem_of_getElem? (i := 32) rfl))) Via.refl S5 d3_46 rfl ?_
            exact w_retA C rfl rfl d3_49 (by decide) (by decide) ⟨by rw [ex, if_neg hc3, if_neg hc13, if_neg hc23, if_neg hc33, if_pos hc43], rfl⟩
        · refine w_getS C (q := 39) (host := "") (Or.inl (hw _ (List.mem_of_getElem? (i := 30) rfl))) Via.refl S4 d3_36 rfl ?_
          exact w_retA C rfl rfl d3_39 (by decide) (by decide) ⟨by rw [ex, if_neg hc3, if_neg hc13, if_neg hc23, if_pos hc33], rfl⟩
      · refine w_getS C (q := 29) (host := "") (Or.inl (hw _ (List.mem_of_getElem? (i := 33) rfl))) Via.refl S3 d3_26 rfl ?_
        exact w_retA C rfl rfl d3_29 (by decide) (by decide) ⟨by rw [ex, if_neg hc3, if_neg hc13, if_pos hc23], rfl⟩
    · refine w_getS C (q := 19) (host := "") (Or.inl (hw _ (List.mem_of_getElem? (i := 31) rfl))) Via.refl S2 d3_16 rfl ?_
      exact w_retA C rfl rfl d3_19 (by decide) (by decide) ⟨by rw [ex, if_neg hc3, if_pos hc13], rfl⟩
  · refine w_getS C (q := 9) (host := "") (Or.inl (hw _ (List.mem_of_getElem? (i := 34) rfl))) Via.refl S1 d3_6 rfl ?_
    exact w_retA C rfl rfl d3_9 (by decide) (by decide) ⟨by rw [ex, if_pos hc3], rfl⟩
theorem ef_0 (m : MethodId) (p1 : Int32) (p2 : Int32) : entryFrame m #[(.int p1), (.int p2)] maxLocals = mkF m 0 #[.val (.int p1), .val (.int p2), .unset, .unset] [] := by first | (simp [entryFrame, mkF, argsToLocals, Value.category, maxLocals]; done) | rfl
set_option maxRecDepth 65536 in
set_option maxHeartbeats 40000000 in
theorem rm0 (l : Launch) (Z : State) (a0 : Array Value) (hw : ∀ d ∈ tables_1, d.before a0 Z = true) (p1 : Int32) (p2 : Int32) (h0 : Heap) (n0 : Nat) (Z0 : n0 ≤ h0.size) (a1 : Addr) (kA : ClassId) (c1 c2 c3 c4 c5 : Addr) (S0 : Sta Z h0 "com/example/bindwright/bindwright/protocol/UnservedRequest$Operation" "$VALUES" "[Lcom/example/bindwright/bindwright/protocol/UnservedRequest$Operation;" (.ref a1)) (E0 : Exa Z h0 a1 "[Lcom/example/bindwright/bindwright/protocol/UnservedRequest$Operation;") (A0 : Ars Z h0 a1 kA (.object "com/example/bindwright/bindwright/protocol/UnservedRequest$Operation") [(.ref c1), (.ref c2), (.ref c3), (.ref c4), (.ref c5)]) (F1 : Fld Z h0 c1 "com/example/bindwright/bindwright/protocol/UnservedRequest$Operation" "requestTag" "I" (.int (104 : Int32))) (F2 : Fld Z h0 c2 "com/example/bindwright/bindwright/protocol/UnservedRequest$Operation" "requestTag" "I" (.int (74 : Int32))) (F3 : Fld Z h0 c3 "com/example/bindwright/bindwright/protocol/UnservedRequest$Operation" "requestTag" "I" (.int (102 : Int32))) (F4 : Fld Z h0 c4 "com/example/bindwright/bindwright/protocol/UnservedRequest$Operation" "requestTag" "I" (.int (108 : Int32))) (F5 : Fld Z h0 c5 "com/example/bindwright/bindwright/protocol/UnservedRequest$Operation" "requestTag" "I" (.int (110 : Int32))) (S1 : Sta Z h0 "com/example/bindwright/bindwright/protocol/UnservedRequest$Operation" "ADD" "Lcom/example/bindwright/bindwright/protocol/UnservedRequest$Operation;" (.ref c1)) (S2 : Sta Z h0 "com/example/bindwright/bindwright/protocol/UnservedRequest$Operation" "DELETE" "Lcom/example/bindwright/bindwright/protocol/UnservedRequest$Operation;" (.ref c2)) (S3 : Sta Z h0 "com/example/bindwright/bindwright/protocol/UnservedRequest$Operation" "MODIFY" "Lcom/example/bindwright/bindwright/protocol/UnservedRequest$Operation;" (.ref c3)) (S4 : Sta Z h0 "com/example/bindwright/bindwright/protocol/UnservedRequest$Operation" "MODIFY_DN" "Lcom/example/bindwright/bindwright/protocol/UnservedRequest$Operation;" (.ref c4)) (S5 : Sta Z h0 "com/example/bindwright/bindwright/protocol/UnservedRequest$Operation" "COMPARE" "Lcom/example/bindwright/bindwright/protocol/UnservedRequest$Operation;" (.ref c5)) :
    Met1 l Z x code maxLocals ret room_1 #[(.int p1), (.int p2)] h0 n0 (fun v h => v = some (.int 1)) := by
  refine Met1.of_body pn_0 (fun p e s m below meth c C => ?_)
  replace C : Cx p s m meth c Z "com/example/bindwright/bindwright/protocol/UnservedRequestForRequestTagPinLaw" "law" code 4 (some .boolean) := C
  refine Wk.cast (ef_0 m p1 p2) ?_
  have jn : ∀ (tag : Int32), Wk p l e room_1 s m #[(.int p1), (.int p2)] below meth c n0 (fun v h => v = some (.int 1)) h0 0 0 (mkF m 19 #[.val (.int p1), .val (.int p2), .val (.int tag), .unset] []) := by
    intro tag
    refine w_iloadN C (q := 20) at_19 rfl rfl ?_
    refine w_static C (q := 23) (y := ⟨"com/example/bindwright/bindwright/protocol/UnservedRequest$Operation", "forRequestTag", "(I)Lcom/example/bindwright/bindwright/protocol/UnservedRequest$Operation;"⟩) (rm := ({ frames := 2, cells := 1, slots := 5, locals := 40 } : Room)) (argsL := [(.int tag)]) (hw _ (List.mem_of_getElem? (i := 0) rfl)) (hw _ (List.mem_of_getElem? (i := 1) rfl)) (hw _ (List.mem_of_getElem? (i := 2) rfl)) (hw _ (List.mem_of_getElem? (i := 3) rfl)) (rm1 l Z a0 hw tag _ n0 Z0 a1 kA c1 c2 c3 c4 c5 S0 E0 A0 F1 F2 F3 F4 F5) (by decide) (rest := []) (lenOf pd_1 rfl) rfl at_20 rfl rfl (by decide) (Nat.le_of_ble_eq_true rfl) (by decide) (by decide) ?_
    intro v h2 hQ
    obtain ⟨rfl, K⟩ := hQ
    have X1 : Ext h0 h2 := ⟨K.1, fun a c q => K.2.1 a c q nin0⟩
    replace S1 := S1.ext X1
    replace S2 := S2.ext X1
    replace S3 := S3.ext X1
    replace S4 := S4.ext X1
    replace S5 := S5.ext X1
    replace Z0 := Nat.le_trans Z0 K.1
    refine Wk.v1 ?_
    refine w_astoreN C (q := 24) #[.val (.int p1), .val (.int p2), .val (.int tag), .val (fr tag c1 c2 c3 c4 c5)] at_23 rfl (own_frR tag c1 c2 c3 c4 c5) (by rcases ref_cases (own_frR tag c1 c2 c3 c4 c5) with h | ⟨y, h⟩ <;> rw [h] <;> rfl) ?_
    refine w_aloadN C (q := 25) at_24 rfl rfl (own_frR tag c1 c2 c3 c4 c5) ?_
    refine w_iloadN C (q := 26) at_25 rfl rfl ?_
    refine w_static C (q := 29) (y := ⟨"com/example/bindwright/bindwright/protocol/UnservedRequestForRequestTagPinLaw", "expected", "(I)Lcom/example/bindwright/bindwright/protocol/UnservedRequest$Operation;"⟩) (rm := ({ frames := 0, cells := 0, slots := 0, locals := 0 } : Room)) (argsL := [(.int tag)]) (hw _ (List.mem_of_getElem? (i := 26) rfl)) (hw _ (List.mem_of_getElem? (i := 27) rfl)) (hw _ (List.mem_of_getElem? (i := 28) rfl)) (hw _ (List.mem_of_getElem? (i := 29) rfl)) (rm3 l Z a0 hw tag _ n0 Z0 c1 c2 c3 c4 c5 S1 S2 S3 S4 S5) (by decide) (rest := [(fr tag c1 c2 c3 c4 c5)]) (lenOf pd_1 rfl) rfl at_26 rfl rfl (by decide) (by show (fr tag c1 c2 c3 c4 c5).category + 0 + (1 + 11) + 0 ≤ 128; rw [XT.cat1 (own_frR tag c1 c2 c3 c4 c5)]; decide) (by decide) (by decide) ?_
    intro v h3 hQ
    obtain ⟨rfl, rfl⟩ := hQ
    refine Wk.v1 ?_
    refine w_acne_f C (q := 32) at_29 rfl (own_frR tag c1 c2 c3 c4 c5) (own_exR tag c1 c2 c3 c4 c5) (own_fr tag c1 c2 c3 c4 c5) ?_
    refine w_iconst C (q := 33) (1 : Int32) at_32 rfl (by decide) ?_
    refine w_goto C (q := 37) at_33 (by decide) (by decide) ?_
    exact w_retN C at_37 (by decide) (by decide) rfl
  refine w_iloadN C (q := 1) at_0 rfl rfl ?_
  refine w_iconst C (q := 2) (3 : Int32) at_1 rfl (by decide) ?_
  refine w_iand C (q := 3) at_2 rfl ?_
  refine w_ifne C (q := 11) (q' := 6) at_3 (by decide) (by decide) rfl (fun hc3 => ?_) (fun hc3 => ?_)
  · refine w_bipush C (q := 13) (64 : Int32) at_11 rfl (by decide) ?_
    refine w_iloadN C (q := 14) at_13 rfl rfl ?_
    refine w_bipush C (q := 16) (63 : Int32) at_14 rfl (by decide) ?_
    refine w_iand C (q := 17) at_16 rfl ?_
    refine w_iadd C (q := 18) at_17 rfl ?_
    refine w_istoreN C (q := 19) #[.val (.int p1), .val (.int p2), .val (.int ((64 : Int32) + (p1 &&& (63 : Int32)))), .unset] at_18 rfl rfl ?_
    exact jn _
  · refine w_iloadN C (q := 7) at_6 rfl rfl ?_
    refine w_istoreN C (q := 8) #[.val (.int p1), .val (.int p2), .val (.int p1), .unset] at_7 rfl rfl ?_
    refine w_goto C (q := 19) at_8 (by decide) (by decide) ?_
    exact jn _
set_option maxRecDepth 65536 in
set_option maxHeartbeats 40000000 in
theorem comes_1 {Post : Tables → Env → Array Value → State → Outcome → State → Prop} (hpost : ∀ tb e args s v u, (limb_1_1.after args s (.returned v) u = true ∧ limb_1_2.after args s (.returned v) u = true ∧ True) → FrameEnd s (.returned v) u (Jvm.fieldLocs frame_1_writes args s ++ Jvm.arrayLocs frame_1_arrays args s ++ Jvm.staticLocs frame_1_statics s) 16 128 → Post tb e args s (.returned v) u) :
    ArmFor flags0 classFile x code maxLocals ret World_1 tables_1 room_1 Calls_1 rest_1 Pre_1 Post := by
  intro l hfl _ _ p e ha hc hk s m args below hf hA hF happ hP
  obtain ⟨hcalls, hrest, hpre⟩ := hP
  obtain ⟨-, -, -, hnamed, -, -, -, hat⟩ := (Spec.applies_iff hf).mp happ
  obtain ⟨hg, hn⟩ := and_e (Cond.before_iff.mp (show (Jvm.Cond.and given_1 narrow_1).before args s = true from hpre))
  obtain ⟨g0, g1⟩ := and_e hg
  obtain ⟨w0, w1, rfl⟩ : ∃ w0 w1 : Value, args = #[w0, w1] := by
    have hs : args.size = 2 := by simpa [Cond.value, given_1] using g0
    obtain ⟨L⟩ := args
    match L, hs with
    | [w0, w1], _ => exact ⟨w0, w1, rfl⟩
  have hw := fun d (hd : d ∈ tables_1) => atoms_spec (ws := Jvm.Cond.code x code maxLocals ret :: tables_1) hat d (List.mem_cons_of_mem _ hd)
  have hfit : Fit s := fun {y c} hc i hi => by
    obtain ⟨ha, rfl⟩ := Array.getElem?_eq_some_iff.mp hc
    have q := List.all_eq_true.mp ((Array.all_eq_true_iff_forall_mem.mp hF) _ (Array.getElem_mem ha)) i (List.mem_range.mpr hi)
    simpa [Array.getElem?_eq_getElem hi] using q
  obtain ⟨t0, g2⟩ := and_e g1
  obtain ⟨p1, e0⟩ := is_v t0
  obtain rfl : w0 = (.int p1) := Option.some.inj e0
  obtain ⟨p2, e1⟩ := is_v g2
  obtain rfl : w1 = (.int p2) := Option.some.inj e1
  obtain ⟨n1, m1⟩ := and_e hn
  obtain ⟨n2, m2⟩ := and_e m1
  obtain ⟨n3, m3⟩ := and_e m2
  obtain ⟨x1, m1a⟩ := and_e m3
  obtain ⟨y1, m1b⟩ := and_e m1a
  obtain ⟨x2, m2a⟩ := and_e m1b
  obtain ⟨y2, m2b⟩ := and_e m2a
  obtain ⟨x3, m3a⟩ := and_e m2b
  obtain ⟨y3, m3b⟩ := and_e m3a
  obtain ⟨x4, m4a⟩ := and_e m3b
  obtain ⟨y4, m4b⟩ := and_e m4a
  obtain ⟨x5, m5a⟩ := and_e m4b
  obtain ⟨y5, m5b⟩ := and_e m5a
  obtain ⟨z1, m1c⟩ := and_e m5b
  obtain ⟨z2, m2c⟩ := and_e m1c
  obtain ⟨z3, m3c⟩ := and_e m2c
  obtain ⟨z4, m4c⟩ := and_e m3c
  have z5 := m4c
  obtain ⟨a1, ev0⟩ := arr_v n1
  have E0 := Exa.start ev0 n2
  have S0 := Sta.start ev0 (Or.inr ⟨(hw _ (List.mem_of_getElem? (i := 2) rfl)), (hw _ (List.mem_of_getElem? (i := 8) rfl))⟩)
  obtain ⟨c1, ev1⟩ := exa_v x1
  have S1 := Sta.start ev1 (Or.inr ⟨(hw _ (List.mem_of_getElem? (i := 2) rfl)), (hw _ (List.mem_of_getElem? (i := 16) rfl))⟩)
  have F1 := own_fld ev1 z1
  obtain ⟨c2, ev2⟩ := exa_v x2
  have S2 := Sta.start ev2 (Or.inr ⟨(hw _ (List.mem_of_getElem? (i := 2) rfl)), (hw _ (List.mem_of_getElem? (i := 17) rfl))⟩)
  have F2 := own_fld ev2 z2
  obtain ⟨c3, ev3⟩ := exa_v x3
  have S3 := Sta.start ev3 (Or.inr ⟨(hw _ (List.mem_of_getElem? (i := 2) rfl)), (hw _ (List.mem_of_getElem? (i := 18) rfl))⟩)
  have F3 := own_fld ev3 z3
  obtain ⟨c4, ev4⟩ := exa_v x4
  have S4 := Sta.start ev4 (Or.inr ⟨(hw _ (List.mem_of_getElem? (i := 2) rfl)), (hw _ (List.mem_of_getElem? (i := 19) rfl))⟩)
  have F4 := own_fld ev4 z4
  obtain ⟨c5, ev5⟩ := exa_v x5
  have S5 := Sta.start ev5 (Or.inr ⟨(hw _ (List.mem_of_getElem? (i := 2) rfl)), (hw _ (List.mem_of_getElem? (i := 20) rfl))⟩)
  have F5 := own_fld ev5 z5
  obtain ⟨kA, A0⟩ := own_ars ev0 n1 n3 (own_eqR ev1 y1) (own_eqR ev2 y2) (own_eqR ev3 y3) (own_eqR ev4 y4) (own_eqR ev5 y5)
  obtain ⟨n, o, h1, h2, h3, _, L, rfl, ⟨hQ, N⟩, hq⟩ := rm0 l s _ hw p1 p2 s.heap s.heap.size (Nat.le_refl _) a1 kA c1 c2 c3 c4 c5 S0 E0 A0 F1 F2 F3 F4 F5 S1 S2 S3 S4 S5 tables_1 p e ha hc hk s m _ below hf ((Spec.applies_iff_loose hf).mp happ).1 ⟨rfl, State.Warmed39.refl s, rfl⟩ trivial
  cases hQ
  exact ⟨n, _, h1, h2, h3, hpost _ _ _ _ _ _ ⟨Cond.after_iff.mpr rfl, Cond.after_iff.mpr (eq_i res_at (Term.int_eval (1)) rfl), trivial⟩ ⟨hq.1, hq.2.1, (hq.2.2.sift fun y hy => Or.inr (N y hy)).mono (by decide) (by decide)⟩⟩
theorem main_1_1 : Claimed_1_1 := comes_1 fun _ _ _ _ _ _ h hF => ⟨h.1, hF⟩
theorem main_1_2 : Claimed_1_2 := comes_1 fun _ _ _ _ _ _ h hF => ⟨h.2.1, hF⟩
end Jvm.Pilot.@@N@@
namespace Jvm.Pilot.@@N@@
open Jvm Jvm.ClassFile Sem Op Lib Jvm.Free Jvm.Stand Jvm.Pilot.@@N@@.Jvm.D
/-! MADE BY PROGRAM (witnessworld.py) out of the Statement's table words and the real class files: 13 classes; the members and pool entries that the words name. The judged class is class 1, her method 2. -/
namespace start1
open Jvm.ClassFile
def u (s : String) : CpInfo := .utf8 (stringToUtf16 s)
/-- a pool by its gaps: so many unusable entries, then the entry; so many at the end -/
def gap : Nat → List CpInfo → List CpInfo
  | 0, r => r
  | n + 1, r => .unusable :: gap n r
def poolList (es : List (Nat × CpInfo)) (last : Nat) : List CpInfo := es.foldr (fun e r => gap e.1 (e.2 :: r)) (gap last [])
def pool (es : List (Nat × CpInfo)) (last : Nat) : Array CpInfo := ⟨poolList es last⟩
def fileOf (pool : Array CpInfo) (this : Nat) (attrs : Array Attribute := #[]) (ms : Array MethodInfo := #[]) (fl : Nat := 33) (sup : Nat := 0) (ifs : Array Nat := #[]) (fds : Array FieldInfo := #[]) : ClassFile where
  minorVersion := 0
  majorVersion := 65
  constantPool := pool
  accessFlags := fl
  thisClass := this
  superClass := sup
  interfaces := ifs
  fields := fds
  methods := ms
  attributes := attrs
def plain (name : String) (sup : Option ClassId) : Class where
  name := name
  kind := .ordinary
  loader := none
  accessFlags := 33
  super := sup
  interfaces := #[]
  cf := none
  fields := #[]
  methods := #[]
  instanceTypes := #[]
  staticTypes := #[]
  resolved := #[]
  callSites := []
  init := .initialized
  statics := none
  mirror := none

def pool0 : Array CpInfo := pool [(5, u "<init>"), (0, u "()V"), (1, .class_ 10), (1, u "java/lang/Object"), (85, u "clone"), (0, u "()Ljava/lang/Object;")] 26

def k0m0 : Method := { name := "<init>", desc := "()V", sig := { parameters := [], returnType := none }, accessFlags := 1, code := none }
def k0m1 : Method := { name := "clone", desc := "()Ljava/lang/Object;", sig := { parameters := [], returnType := some (.object "java/lang/Object") }, accessFlags := 260, code := none }
/-- java/lang/Object -/
def k0 : Class := { plain "java/lang/Object" none with
  accessFlags := 33
  interfaces := #[]
  cf := some (fileOf pool0 8 #[] #[{ accessFlags := 1, nameIndex := 5, descriptorIndex := 6, attributes := #[] }, { accessFlags := 260, nameIndex := 96, descriptorIndex := 97, attributes := #[] }] 33 0 #[] #[])
  fields := #[]
  methods := #[k0m0, k0m1]
  instanceTypes := #[]
  staticTypes := #[]
  resolved := Array.replicate 124 none
  statics := none }

def pool1 : Array CpInfo := pool [(2, .class_ 4), (1, u "java/lang/Object"), (0, u "<init>"), (0, u "()V"), (0, .fieldref 8 9), (0, .class_ 10), (0, .nameAndType 11 12), (0, u "com/example/bindwright/bindwright/protocol/UnservedRequest$Operation"), (0, u "ADD"), (0, u "Lcom/example/bindwright/bindwright/protocol/UnservedRequest$Operation;"), (0, .fieldref 8 14), (0, .nameAndType 15 12), (0, u "DELETE"), (0, .fieldref 8 17), (0, .nameAndType 18 12), (0, u "MODIFY"), (0, .fieldref 8 20), (0, .nameAndType 21 12), (0, u "MODIFY_DN"), (0, .fieldref 8 23), (0, .nameAndType 24 12), (0, u "COMPARE"), (0, .methodref 8 26), (0, .nameAndType 27 28), (0, u "forRequestTag"), (0, u "(I)Lcom/example/bindwright/bindwright/protocol/UnservedRequest$Operation;"), (0, .methodref 30 31), (0, .class_ 32), (0, .nameAndType 33 28), (0, u "com/example/bindwright/bindwright/protocol/UnservedRequestForRequestTagPinLaw"), (0, u "expected"), (3, u "law"), (0, u "(II)Z")] 6

def k1m0 : Method := { name := "<init>", desc := "()V", sig := { parameters := [], returnType := none }, accessFlags := 2, code := none }
def k1c1 : Code := { maxStack := 2, maxLocals := 1, code := method_2_code, exceptionTable := #[], attributes := #[] }
def k1m1 : Method := { name := "expected", desc := "(I)Lcom/example/bindwright/bindwright/protocol/UnservedRequest$Operation;", sig := { parameters := [.int], returnType := some (.object "com/example/bindwright/bindwright/protocol/UnservedRequest$Operation") }, accessFlags := 10, code := some k1c1 }
def k1c2 : Code := { maxStack := 3, maxLocals := 4, code := code, exceptionTable := #[], attributes := #[] }
def k1m2 : Method := { name := "law", desc := "(II)Z", sig := { parameters := [.int, .int], returnType := some .boolean }, accessFlags := 9, code := some k1c2 }
/-- com/example/bindwright/bindwright/protocol/UnservedRequestForRequestTagPinLaw -/
def k1 : Class := { plain "com/example/bindwright/bindwright/protocol/UnservedRequestForRequestTagPinLaw" (some 0) with
  accessFlags := 49
  interfaces := #[]
  cf := some (fileOf pool1 30 #[] #[{ accessFlags := 2, nameIndex := 5, descriptorIndex := 6, attributes := #[] }, { accessFlags := 10, nameIndex := 33, descriptorIndex := 28, attributes := #[] }, { accessFlags := 9, nameIndex := 37, descriptorIndex := 38, attributes := #[] }] 49 2 #[] #[])
  fields := #[]
  methods := #[k1m0, k1m1, k1m2]
  instanceTypes := #[]
  staticTypes := #[]
  resolved := Array.replicate 45 none
  statics := none }

def pool2 : Array CpInfo := pool [(1, .class_ 2), (0, u "java/lang/constant/Constable"), (0, .class_ 4), (0, u "java/lang/Object")] 6

/-- java/lang/constant/Constable -/
def k2 : Class := { plain "java/lang/constant/Constable" (some 0) with
  accessFlags := 1537
  interfaces := #[]
  cf := some (fileOf pool2 1 #[] #[] 1537 3 #[] #[])
  fields := #[]
  methods := #[]
  instanceTypes := #[]
  staticTypes := #[]
  resolved := Array.replicate 11 none
  statics := none }

def pool3 : Array CpInfo := pool [(1, .class_ 2), (0, u "java/lang/Comparable"), (0, .class_ 4), (0, u "java/lang/Object")] 7

/-- java/lang/Comparable -/
def k3 : Class := { plain "java/lang/Comparable" (some 0) with
  accessFlags := 1537
  interfaces := #[]
  cf := some (fileOf pool3 1 #[] #[] 1537 3 #[] #[])
  fields := #[]
  methods := #[]
  instanceTypes := #[]
  staticTypes := #[]
  resolved := Array.replicate 12 none
  statics := none }

def pool4 : Array CpInfo := pool [(1, .class_ 2), (0, u "java/io/Serializable"), (0, .class_ 4), (0, u "java/lang/Object")] 2

/-- java/io/Serializable -/
def k4 : Class := { plain "java/io/Serializable" (some 0) with
  accessFlags := 1537
  interfaces := #[]
  cf := some (fileOf pool4 1 #[] #[] 1537 3 #[] #[])
  fields := #[]
  methods := #[]
  instanceTypes := #[]
  staticTypes := #[]
  resolved := Array.replicate 7 none
  statics := none }

def pool5 : Array CpInfo := pool [(2, .class_ 4), (1, u "java/lang/Enum"), (0, u "name"), (0, u "Ljava/lang/String;"), (2, u "ordinal"), (0, u "I"), (1, .class_ 14), (1, u "java/lang/Object"), (4, u "hash"), (86, .class_ 108), (1, u "java/lang/Enum$EnumDesc"), (2, .class_ 112), (0, u "java/lang/constant/Constable"), (0, .class_ 114), (0, u "java/lang/Comparable"), (0, .class_ 116), (0, u "java/io/Serializable")] 87

/-- java/lang/Enum -/
def k5 : Class := { plain "java/lang/Enum" (some 0) with
  accessFlags := 1057
  interfaces := #[2, 3, 4]
  cf := some (fileOf pool5 2 #[.nestMembers #[106]] #[] 1057 12 #[111, 113, 115] #[{ accessFlags := 18, nameIndex := 5, descriptorIndex := 6, attributes := #[] }, { accessFlags := 18, nameIndex := 9, descriptorIndex := 10, attributes := #[] }, { accessFlags := 2, nameIndex := 19, descriptorIndex := 10, attributes := #[] }])
  fields := #[{ name := "name", type := (.object "java/lang/String"), accessFlags := 18, slot := 0, constantValue := 0 }, { name := "ordinal", type := .int, accessFlags := 18, slot := 1, constantValue := 0 }, { name := "hash", type := .int, accessFlags := 2, slot := 2, constantValue := 0 }]
  methods := #[]
  instanceTypes := #[(.object "java/lang/String"), .int, .int]
  staticTypes := #[]
  resolved := Array.replicate 204 none
  statics := none }

def pool6 : Array CpInfo := pool [(1, .class_ 2), (0, u "com/example/bindwright/bindwright/protocol/UnservedRequest$Operation"), (2, u "ADD"), (0, u "Lcom/example/bindwright/bindwright/protocol/UnservedRequest$Operation;"), (2, u "DELETE"), (2, u "MODIFY"), (2, u "MODIFY_DN"), (2, u "COMPARE"), (0, .fieldref 1 20), (0, .nameAndType 21 22), (0, u "$VALUES"), (0, u "[Lcom/example/bindwright/bindwright/protocol/UnservedRequest$Operation;"), (0, .methodref 24 25), (0, .class_ 22), (0, .nameAndType 26 27), (0, u "clone"), (0, u "()Ljava/lang/Object;"), (1, .class_ 31), (1, u "java/lang/Enum"), (6, .fieldref 1 39), (0, .nameAndType 40 41), (0, u "requestTag"), (0, u "I"), (2, u "responseTag"), (2, u "displayName"), (0, u "Ljava/lang/String;"), (0, .methodref 1 50), (0, .nameAndType 51 52), (0, u "values"), (0, u "()[Lcom/example/bindwright/bindwright/protocol/UnservedRequest$Operation;"), (29, u "forRequestTag"), (0, u "(I)Lcom/example/bindwright/bindwright/protocol/UnservedRequest$Operation;"), (7, .class_ 92), (0, u "com/example/bindwright/bindwright/protocol/UnservedRequest")] 2

def k6c0 : Code := { maxStack := 1, maxLocals := 0, code := prog_81_method_1_code, exceptionTable := #[], attributes := #[] }
def k6m0 : Method := { name := "values", desc := "()[Lcom/example/bindwright/bindwright/protocol/UnservedRequest$Operation;", sig := { parameters := [], returnType := some (.array (.object "com/example/bindwright/bindwright/protocol/UnservedRequest$Operation")) }, accessFlags := 9, code := some k6c0 }
def k6c1 : Code := { maxStack := 2, maxLocals := 5, code := prog_81_method_6_code, exceptionTable := #[], attributes := #[] }
def k6m1 : Method := { name := "forRequestTag", desc := "(I)Lcom/example/bindwright/bindwright/protocol/UnservedRequest$Operation;", sig := { parameters := [.int], returnType := some (.object "com/example/bindwright/bindwright/protocol/UnservedRequest$Operation") }, accessFlags := 8, code := some k6c1 }
/-- com/example/bindwright/bindwright/protocol/UnservedRequest$Operation -/
def k6 : Class := { plain "com/example/bindwright/bindwright/protocol/UnservedRequest$Operation" (some 5) with
  accessFlags := 16433
  interfaces := #[]
  cf := some (fileOf pool6 1 #[.nestHost 91] #[{ accessFlags := 9, nameIndex := 51, descriptorIndex := 52, attributes := #[] }, { accessFlags := 8, nameIndex := 82, descriptorIndex := 83, attributes := #[] }] 16433 29 #[] #[{ accessFlags := 16409, nameIndex := 5, descriptorIndex := 6, attributes := #[] }, { accessFlags := 16409, nameIndex := 9, descriptorIndex := 6, attributes := #[] }, { accessFlags := 16409, nameIndex := 12, descriptorIndex := 6, attributes := #[] }, { accessFlags := 16409, nameIndex := 15, descriptorIndex := 6, attributes := #[] }, { accessFlags := 16409, nameIndex := 18, descriptorIndex := 6, attributes := #[] }, { accessFlags := 18, nameIndex := 40, descriptorIndex := 41, attributes := #[] }, { accessFlags := 18, nameIndex := 44, descriptorIndex := 41, attributes := #[] }, { accessFlags := 18, nameIndex := 47, descriptorIndex := 48, attributes := #[] }, { accessFlags := 4122, nameIndex := 21, descriptorIndex := 22, attributes := #[] }])
  fields := #[{ name := "ADD", type := (.object "com/example/bindwright/bindwright/protocol/UnservedRequest$Operation"), accessFlags := 16409, slot := 0, constantValue := 0 }, { name := "DELETE", type := (.object "com/example/bindwright/bindwright/protocol/UnservedRequest$Operation"), accessFlags := 16409, slot := 1, constantValue := 0 }, { name := "MODIFY", type := (.object "com/example/bindwright/bindwright/protocol/UnservedRequest$Operation"), accessFlags := 16409, slot := 2, constantValue := 0 }, { name := "MODIFY_DN", type := (.object "com/example/bindwright/bindwright/protocol/UnservedRequest$Operation"), accessFlags := 16409, slot := 3, constantValue := 0 }, { name := "COMPARE", type := (.object "com/example/bindwright/bindwright/protocol/UnservedRequest$Operation"), accessFlags := 16409, slot := 4, constantValue := 0 }, { name := "requestTag", type := .int, accessFlags := 18, slot := 3, constantValue := 0 }, { name := "responseTag", type := .int, accessFlags := 18, slot := 4, constantValue := 0 }, { name := "displayName", type := (.object "java/lang/String"), accessFlags := 18, slot := 5, constantValue := 0 }, { name := "$VALUES", type := (.array (.object "com/example/bindwright/bindwright/protocol/UnservedRequest$Operation")), accessFlags := 4122, slot := 5, constantValue := 0 }]
  methods := #[k6m0, k6m1]
  instanceTypes := #[(.object "java/lang/String"), .int, .int, .int, .int, (.object "java/lang/String")]
  staticTypes := #[(.object "com/example/bindwright/bindwright/protocol/UnservedRequest$Operation"), (.object "com/example/bindwright/bindwright/protocol/UnservedRequest$Operation"), (.object "com/example/bindwright/bindwright/protocol/UnservedRequest$Operation"), (.object "com/example/bindwright/bindwright/protocol/UnservedRequest$Operation"), (.object "com/example/bindwright/bindwright/protocol/UnservedRequest$Operation"), (.array (.object "com/example/bindwright/bindwright/protocol/UnservedRequest$Operation"))]
  resolved := Array.replicate 95 none
  statics := some 0 }

def pool7 : Array CpInfo := pool [(1, .class_ 2), (0, u "java/lang/Cloneable"), (0, .class_ 4), (0, u "java/lang/Object")] 2

/-- java/lang/Cloneable -/
def k7 : Class := { plain "java/lang/Cloneable" (some 0) with
  accessFlags := 1537
  interfaces := #[]
  cf := some (fileOf pool7 1 #[] #[] 1537 3 #[] #[])
  fields := #[]
  methods := #[]
  instanceTypes := #[]
  staticTypes := #[]
  resolved := Array.replicate 7 none
  statics := none }

/-- the primitive byte -/
def k8 : Class := { plain "byte" none with kind := .primitive 'B', accessFlags := 0x411 }
/-- [B -/
def k9 : Class := { plain "[B" (some 0) with kind := .array 8 .byte, interfaces := #[7, 4], accessFlags := 1041 }

/-- the primitive int -/
def k10 : Class := { plain "int" none with kind := .primitive 'I', accessFlags := 0x411 }
/-- [I -/
def k11 : Class := { plain "[I" (some 0) with kind := .array 10 .int, interfaces := #[7, 4], accessFlags := 1041 }

/-- [Lcom/example/bindwright/bindwright/protocol/UnservedRequest$Operation; -/
def k12 : Class := { plain "[Lcom/example/bindwright/bindwright/protocol/UnservedRequest$Operation;" (some 0) with kind := .array 6 (.object "com/example/bindwright/bindwright/protocol/UnservedRequest$Operation"), interfaces := #[7, 4], accessFlags := 1041 }

def heap : Heap := #[{ cls := 6, slots := #[.ref 2, .ref 3, .ref 4, .ref 5, .ref 6, .ref 1], vm := .statics 6 },
  { cls := 12, slots := #[.ref 2, .ref 3, .ref 4, .ref 5, .ref 6], vm := .none },
  { cls := 6, slots := #[.null, .int 0, .int 0, .int 104, .int 0, .null], vm := .none },
  { cls := 6, slots := #[.null, .int 1, .int 0, .int 74, .int 0, .null], vm := .none },
  { cls := 6, slots := #[.null, .int 2, .int 0, .int 102, .int 0, .null], vm := .none },
  { cls := 6, slots := #[.null, .int 3, .int 0, .int 108, .int 0, .null], vm := .none },
  { cls := 6, slots := #[.null, .int 4, .int 0, .int 110, .int 0, .null], vm := .none }]
def classes : Array Class := #[k0, k1, k2, k3, k4, k5, k6, k7, k8, k9, k10, k11, k12]
def interned : List (Array UInt16 × Addr) := []
def slotsUsed : Nat := 41
def theMethod : MethodId := ⟨1, 2⟩
def args0 : Array Value := #[.int 5, .int 7]
def aboutOver (below : List Frame) : State where
  vm := { classes := classes, interned := interned.toArray }
  heap := heap
  slotsUsed := slotsUsed
  threads := #[{ frames := .invoking theMethod args0 :: below }]
def below0 : List Frame := [.native { method := ⟨0, 0⟩, args := #[] }]
def about1 : State := aboutOver below0
def p0 : Program := .bare "" "" ""
def e0 : Env := launch0.env 0 0 0
theorem w_frames : about1.frames = Frame.invoking theMethod args0 :: below0 := rfl
set_option maxRecDepth 65536 in
theorem w_args : argsFit about1.vm theMethod args0 = true := by decide +kernel
set_option maxRecDepth 65536 in
theorem w_heap : heapFits about1 = true := by decide +kernel
set_option maxRecDepth 65536 in
theorem w_runnable : about1.curStatus? = some .runnable := by decide +kernel
set_option maxRecDepth 65536 in
theorem w_alone : about1.alone = true := by decide +kernel
set_option maxRecDepth 65536 in
theorem w_named : about1.methodNamed? x = some theMethod := by decide +kernel
set_option maxRecDepth 65536 in
theorem w_hears : about1.hears theMethod below0 = true := by decide +kernel
set_option maxRecDepth 65536 in
theorem w_ripe : about1.ripe theMethod args0 below0 = true := by decide +kernel
theorem w_running : about1.status = .running := rfl
set_option maxRecDepth 65536 in
theorem w_room : about1.hasRoom e0.platform room_1 = true :=
  launch0.hasRoom_least _ room_1 (by decide +kernel) (by decide +kernel) (by decide +kernel) (by decide +kernel) (by decide +kernel) (by decide +kernel)
theorem allAtoms_all (ts : List Jvm.Cond) (a : Array Jvm.Value) (st : Jvm.State) : (allAtoms ts).before a st = ts.all (fun c => c.before a st) := by
  induction ts with
  | nil => rfl
  | cons c t ih =>
    show (Jvm.Cond.and c (allAtoms t)).before a st = _
    rw [Jvm.Cond.before_and, ih, List.all_cons]
def words1 : List Jvm.Cond := Jvm.Cond.code x code maxLocals ret :: tables_1
/-- a 'code' word, met by the world's own term for the bytes: nothing is compared byte by byte -/
theorem code_word {y : MethodName} {bytes : ByteArray} {mx : Nat} {rt : Option FieldType} {a : Array Value} {s : State} {m : MethodId} {meth : Method} {c : Code} (h1 : s.methodNamed? y = some m) (h2 : s.vm.method? m = some meth) (h3 : meth.code = some c) (h4 : c.code = bytes)
    (h5 : (c.maxLocals == mx && c.exceptionTable.isEmpty && decide (c.maxStack ≤ mostOperands) && decide (meth.sig.returnType = rt) && !meth.locks && decide (parseMethodDescriptor y.desc = some meth.sig)) = true) : (Jvm.Cond.code y bytes mx rt).before a s = true := by
  simp only [Bool.and_eq_true, beq_iff_eq, Bool.not_eq_true', decide_eq_true_eq] at h5
  obtain ⟨⟨⟨⟨⟨g1, g2⟩, g3⟩, g4⟩, g5⟩, g6⟩ := h5
  simp [Cond.before, Cond.holds, Cond.value, h1, h2, h3, h4, g1, g2, g3, g4, g5, g6]
def isCode : Jvm.Cond → Bool
  | .code _ _ _ _ => true
  | _ => false
theorem all_split {L : List Jvm.Cond} {P : Jvm.Cond → Bool} (h1 : L.all (fun c => isCode c || P c) = true) (h2 : ∀ c ∈ L.filter isCode, P c = true) : L.all P = true := by
  refine List.all_eq_true.mpr fun c hc => ?_
  have h := List.all_eq_true.mp h1 c hc
  rcases Bool.eq_false_or_eq_true (isCode c) with hi | hi
  · exact h2 c (List.mem_filter.mpr ⟨hc, hi⟩)
  · simpa [hi] using h
set_option maxRecDepth 65536 in
theorem w_c0 : (Jvm.Cond.code x code maxLocals ret).before args0 about1 = true := code_word (m := ⟨1, 2⟩) (meth := k1m2) (c := k1c2) (by decide +kernel) rfl rfl rfl (by decide +kernel)
set_option maxRecDepth 65536 in
theorem w_c1 : (Jvm.Cond.code ({ cls := "com/example/bindwright/bindwright/protocol/UnservedRequest$Operation", name := "forRequestTag", desc := "(I)Lcom/example/bindwright/bindwright/protocol/UnservedRequest$Operation;" } : Jvm.MethodName) prog_81_method_6_code (5 : Nat) (Option.some (Jvm.ClassFile.FieldType.object "com/example/bindwright/bindwright/protocol/UnservedRequest$Operation"))).before args0 about1 = true := code_word (m := ⟨6, 1⟩) (meth := k6m1) (c := k6c1) (by decide +kernel) rfl rfl rfl (by decide +kernel)
set_option maxRecDepth 65536 in
theorem w_c2 : (Jvm.Cond.code ({ cls := "com/example/bindwright/bindwright/protocol/UnservedRequest$Operation", name := "values", desc := "()[Lcom/example/bindwright/bindwright/protocol/UnservedRequest$Operation;" } : Jvm.MethodName) prog_81_method_1_code (0 : Nat) (Option.some (Jvm.ClassFile.FieldType.array (Jvm.ClassFile.FieldType.object "com/example/bindwright/bindwright/protocol/UnservedRequest$Operation")))).before args0 about1 = true := code_word (m := ⟨6, 0⟩) (meth := k6m0) (c := k6c0) (by decide +kernel) rfl rfl rfl (by decide +kernel)
set_option maxRecDepth 65536 in
theorem w_c3 : (Jvm.Cond.code ({ cls := "com/example/bindwright/bindwright/protocol/UnservedRequestForRequestTagPinLaw", name := "expected", desc := "(I)Lcom/example/bindwright/bindwright/protocol/UnservedRequest$Operation;" } : Jvm.MethodName) method_2_code (1 : Nat) (Option.some (Jvm.ClassFile.FieldType.object "com/example/bindwright/bindwright/protocol/UnservedRequest$Operation"))).before args0 about1 = true := code_word (m := ⟨1, 1⟩) (meth := k1m1) (c := k1c1) (by decide +kernel) rfl rfl rfl (by decide +kernel)
def codes1 : List Jvm.Cond := [Jvm.Cond.code x code maxLocals ret, Jvm.Cond.code ({ cls := "com/example/bindwright/bindwright/protocol/UnservedRequest$Operation", name := "forRequestTag", desc := "(I)Lcom/example/bindwright/bindwright/protocol/UnservedRequest$Operation;" } : Jvm.MethodName) prog_81_method_6_code (5 : Nat) (Option.some (Jvm.ClassFile.FieldType.object "com/example/bindwright/bindwright/protocol/UnservedRequest$Operation")), Jvm.Cond.code ({ cls := "com/example/bindwright/bindwright/protocol/UnservedRequest$Operation", name := "values", desc := "()[Lcom/example/bindwright/bindwright/protocol/UnservedRequest$Operation;" } : Jvm.MethodName) prog_81_method_1_code (0 : Nat) (Option.some (Jvm.ClassFile.FieldType.array (Jvm.ClassFile.FieldType.object "com/example/bindwright/bindwright/protocol/UnservedRequest$Operation"))), Jvm.Cond.code ({ cls := "com/example/bindwright/bindwright/protocol/UnservedRequestForRequestTagPinLaw", name := "expected", desc := "(I)Lcom/example/bindwright/bindwright/protocol/UnservedRequest$Operation;" } : Jvm.MethodName) method_2_code (1 : Nat) (Option.some (Jvm.ClassFile.FieldType.object "com/example/bindwright/bindwright/protocol/UnservedRequest$Operation"))]
set_option maxRecDepth 65536 in
theorem codes_eq : words1.filter isCode = codes1 := rfl
theorem w_codes : ∀ c ∈ words1.filter isCode, c.before args0 about1 = true := by
  rw [codes_eq]
  intro c hc
  simp only [codes1, List.mem_cons, List.not_mem_nil, or_false] at hc
  rcases hc with rfl | rfl | rfl | rfl
  · exact w_c0
  · exact w_c1
  · exact w_c2
  · exact w_c3
set_option maxRecDepth 65536 in
theorem w_t1 : (words1.take 24).all (fun c => isCode c || c.before args0 about1) = true := by decide +kernel
set_option maxRecDepth 65536 in
theorem w_t2 : (words1.drop 24).all (fun c => isCode c || c.before args0 about1) = true := by decide +kernel
theorem w_tables : (allAtoms (Jvm.Cond.code x code maxLocals ret :: tables_1)).before args0 about1 = true := by
  rw [allAtoms_all]
  show words1.all (fun c => c.before args0 about1) = true
  refine all_split ?_ w_codes
  rw [← List.take_append_drop 24 words1, List.all_append, w_t1, w_t2]
  rfl
set_option maxRecDepth 65536 in
theorem w_case : (Jvm.Cond.and given_1 narrow_1).before args0 about1 = true := by decide +kernel
theorem w_applies : (headSpec (Jvm.Cond.code x code maxLocals ret :: tables_1) room_1).applies x e0.platform about1 = true :=
  (Spec.applies_iff w_frames).mpr ⟨w_running, w_runnable, w_alone, w_named, w_hears, w_ripe, w_room, w_tables⟩
theorem atStart : AtStart classFile x code maxLocals ret World_1 tables_1 room_1 Calls_1 rest_1 Pre_1 launch0 p0 e0 about1 theMethod args0 below0 :=
  ⟨lists_1, trivial, launch0.admits_env _ _ _, launch0.least_env, fairChoices_fair.cas, fairChoices_fair.clock, w_frames, w_args, w_heap, w_applies, trivial, trivial, w_case⟩
end start1
theorem witness_1 : WitnessClaimed_1 := ⟨start1.p0, start1.e0, start1.about1, start1.theMethod, start1.args0, start1.below0, start1.atStart⟩
end Jvm.Pilot.@@N@@
