import JvmDerived
import JvmDerived.Pilot.@@N@@Statement
import JvmDerived.Pilot.@@N@@Code
set_option linter.unusedVariables false
set_option linter.unusedSimpArgs false
namespace Jvm.Own
open Sem ClassFile Op Lib Jvm.Stand Jvm.Free Jvm.LawKit Jvm.RoadKit
/-- what a walk knows of the method that it walks -/
def Cx (p : Program) (s : State) (m : MethodId) (meth : Method) (c : Code) (Z : State) (own nm : String) (bytes : ByteArray) (maxL : Nat) (ret : Option FieldType) : Prop :=
  p.tables.exec = Jvm.exec ∧ Z.Warmed39 s.vm ∧ c.code = bytes ∧ c.maxLocals = maxL ∧ s.vm.findClass own = some m.cls ∧ meth.name = nm ∧ meth.sig.returnType = ret ∧ meth.locks = false
/-- where a walk ends: what it returned and left, nothing old written -/
def PostW (n0 : Nat) (Q : Option Value → Heap → Prop) (R : Room) (s : State) (o : Outcome) (U : State) : Prop := ∃ v L, o = .returned v ∧ (Q v U.heap ∧ Fr n0 L) ∧ FrameEnd s o U L R.cells R.slots
/-- from every state with this heap and this frame on top the run comes to its end -/
def Wk (p : Program) (l : Launch) (e : Env) (R : Room) (s : State) (m : MethodId) (args : Array Value) (below : List Frame) (meth : Method) (c : Code) (n0 : Nat) (Q : Option Value → Heap → Prop) (h : Heap) (cells slots : Nat) (f : JFrame) : Prop :=
  ∀ T locs, Stand p l e R s m args below meth c T locs cells slots → T.heap = h → Fr n0 locs → ∃ U o, Steps p.tables e below (T.setTop f) U ∧ U.status = .running ∧ Ended U below o ∧ PostW n0 Q R s o U
/-- a method's contract at one heap and one row of arguments -/
def Met1 (l : Launch) (Z : State) (y : MethodName) (bytes : ByteArray) (maxL : Nat) (ret : Option FieldType) (rm : Room) (as : Array Value) (h0 : Heap) (n0 : Nat) (Q : Option Value → Heap → Prop) : Prop :=
  ∀ ws : List Jvm.Cond, MetFree l y (head1 (Jvm.Cond.code y bytes maxL ret :: ws) rm) (fun a U => a = as ∧ Z.Warmed39 U.vm ∧ U.heap = h0) (fun _ _ _ _ _ => True) (fun _ U o U' => ∃ v L, o = .returned v ∧ (Q v U'.heap ∧ Fr n0 L) ∧ FrameEnd U o U' L rm.cells rm.slots)
/-- an array, with all that lies in it -/
def Ars (Z : State) (h : Heap) (a : Addr) (k : ClassId) (ty : FieldType) (vs : List Value) : Prop := ∃ cl : Cell, Arr Z h a cl ty ∧ cl.cls = k ∧ cl.slots = vs.toArray ∧ vs.length < 2 ^ 31
section Laws
variable {p : Program} {l : Launch} {e : Env} {R : Room} {s : State} {m : MethodId} {args : Array Value} {below : List Frame} {meth : Method} {c : Code} {n0 : Nat} {Q : Option Value → Heap → Prop} {h : Heap} {cells slots : Nat} {Z : State} {a0 : Array Value} {own nm : String} {bytes : ByteArray} {maxL : Nat} {ret : Option FieldType}
theorem Met1.of_body {y : MethodName} {rm : Room} {as : Array Value} {h0 : Heap} (hpn : plainName y.cls = true) (hb : ∀ p e s m below meth c, Cx p s m meth c Z y.cls y.name bytes maxL ret → Wk p l e rm s m as below meth c n0 Q h0 0 0 (entryFrame m as maxL)) : Met1 l Z y bytes maxL ret rm as h0 n0 Q := by
  intro ws
  refine MetFree.of_bodySF (plainFor_of_name hpn) hisR ?_
  intro p e s m args below meth c s₁ Bd hml0 hP hK
  obtain ⟨rfl, hZ, hh⟩ := hP
  exact hb p e s m below meth c ⟨Bd.exec, hZ, Bd.bytes, hml0, findClass_of_methodNamed Bd.named, (name_of_methodNamed Bd.named Bd.method).1, Bd.returns, BodyLoose.notSynchronized Bd⟩ s₁ [] (Stand.of_body Bd) (by rw [← hh, Bd.state]; rfl) (Fr.nil n0)
theorem Met1.mono {y : MethodName} {rm : Room} {as : Array Value} {h0 : Heap} {Q' : Option Value → Heap → Prop} (hM : Met1 l Z y bytes maxL ret rm as h0 n0 Q) (hq : ∀ v h, Q v h → Q' v h) : Met1 l Z y bytes maxL ret rm as h0 n0 Q' := by
  intro ws p e ha hc hk s m args below hf happ hP hK
  obtain ⟨n, o, h1, h2, h3, v, L, r1, r2, r3⟩ := hM ws p e ha hc hk s m args below hf happ hP hK
  exact ⟨n, o, h1, h2, h3, v, L, r1, ⟨hq _ _ r2.1, r2.2⟩, r3⟩
theorem Wk.step {f f' : JFrame} (st : ∀ T locs t, Stand p l e R s m args below meth c T locs cells slots → Steps p.tables e below (T.setTop f') t → Steps p.tables e below (T.setTop f) t) (k : Wk p l e R s m args below meth c n0 Q h cells slots f') : Wk p l e R s m args below meth c n0 Q h cells slots f := fun T locs X hh N => by
  obtain ⟨U, o, h1, r⟩ := k T locs X hh N
  exact ⟨U, o, st T locs U X h1, r⟩
theorem Wk.cast {f f' : JFrame} (q : f = f') (k : Wk p l e R s m args below meth c n0 Q h cells slots f') : Wk p l e R s m args below meth c n0 Q h cells slots f := q ▸ k
theorem Wk.v1 {pc : Nat} {ls : Array Slot} {w : Value} {rest : List Value} (k : Wk p l e R s m args below meth c n0 Q h cells slots (mkF m pc ls (w :: rest))) : Wk p l e R s m args below meth c n0 Q h cells slots (mkF m pc ls ((some w).toList ++ rest)) := k
theorem Wk.v0 {pc : Nat} {ls : Array Slot} {rest : List Value} (k : Wk p l e R s m args below meth c n0 Q h cells slots (mkF m pc ls rest)) : Wk p l e R s m args below meth c n0 Q h cells slots (mkF m pc ls ((none : Option Value).toList ++ rest)) := k
theorem w_iloadN (C : Cx p s m meth c Z own nm bytes maxL ret) {pc q : Nat} {ls : Array Slot} {rest : List Value} {j : Fin 4} {v : Int32} (hd : decode bytes pc = .ok (.iload_n j, 1)) (hq : pc + 1 = q) (hl : ls[j.val]? = some (.val (.int v))) (k : Wk p l e R s m args below meth c n0 Q h cells slots (mkF m q ls (.int v :: rest))) : Wk p l e R s m args below meth c n0 Q h cells slots (mkF m pc ls rest) := by
  subst hq; exact Wk.step (fun T _ t X k => XS.iloadN X.here C.1 rfl (hb C.2.2.1 hd) hl k) k
theorem w_iload (C : Cx p s m meth c Z own nm bytes maxL ret) {pc q : Nat} {ls : Array Slot} {rest : List Value} {j : Nat} {v : Int32} (hd : decode bytes pc = .ok (.iload j, 2)) (hq : pc + 2 = q) (hl : ls[j]? = some (.val (.int v))) (k : Wk p l e R s m args below meth c n0 Q h cells slots (mkF m q ls (.int v :: rest))) : Wk p l e R s m args below meth c n0 Q h cells slots (mkF m pc ls rest) := by
  subst hq; exact Wk.step (fun T _ t X k => XS.iload X.here C.1 rfl (hb C.2.2.1 hd) hl k) k
theorem w_lloadN (C : Cx p s m meth c Z own nm bytes maxL ret) {pc q : Nat} {ls : Array Slot} {rest : List Value} {j : Fin 4} {v : Int64} (hd : decode bytes pc = .ok (.lload_n j, 1)) (hq : pc + 1 = q) (hl : ls[j.val]? = some (.val (.long v))) (k : Wk p l e R s m args below meth c n0 Q h cells slots (mkF m q ls (.long v :: rest))) : Wk p l e R s m args below meth c n0 Q h cells slots (mkF m pc ls rest) := by
  subst hq; exact Wk.step (fun T _ t X k => XT.lloadN X.here C.1 rfl (hb C.2.2.1 hd) hl k) k
theorem w_lload (C : Cx p s m meth c Z own nm bytes maxL ret) {pc q : Nat} {ls : Array Slot} {rest : List Value} {j : Nat} {v : Int64} (hd : decode bytes pc = .ok (.lload j, 2)) (hq : pc + 2 = q) (hl : ls[j]? = some (.val (.long v))) (k : Wk p l e R s m args below meth c n0 Q h cells slots (mkF m q ls (.long v :: rest))) : Wk p l e R s m args below meth c n0 Q h cells slots (mkF m pc ls rest) := by
  subst hq; exact Wk.step (fun T _ t X k => XT.lload X.here C.1 rfl (hb C.2.2.1 hd) hl k) k
theorem w_aloadN (C : Cx p s m meth c Z own nm bytes maxL ret) {pc q : Nat} {ls : Array Slot} {rest : List Value} {j : Fin 4} {v : Value} (hd : decode bytes pc = .ok (.aload_n j, 1)) (hq : pc + 1 = q) (hl : ls[j.val]? = some (.val v)) (hv : v.isRef = true) (k : Wk p l e R s m args below meth c n0 Q h cells slots (mkF m q ls (v :: rest))) : Wk p l e R s m args below meth c n0 Q h cells slots (mkF m pc ls rest) := by
  subst hq; exact Wk.step (fun T _ t X k => XS.aloadN X.here C.1 rfl (hb C.2.2.1 hd) hl hv k) k
theorem w_aload (C : Cx p s m meth c Z own nm bytes maxL ret) {pc q : Nat} {ls : Array Slot} {rest : List Value} {j : Nat} {v : Value} (hd : decode bytes pc = .ok (.aload j, 2)) (hq : pc + 2 = q) (hl : ls[j]? = some (.val v)) (hv : v.isRef = true) (k : Wk p l e R s m args below meth c n0 Q h cells slots (mkF m q ls (v :: rest))) : Wk p l e R s m args below meth c n0 Q h cells slots (mkF m pc ls rest) := by
  subst hq; exact Wk.step (fun T _ t X k => XS.aload X.here C.1 rfl (hb C.2.2.1 hd) hl hv k) k
theorem w_istoreN (C : Cx p s m meth c Z own nm bytes maxL ret) {pc q : Nat} {ls : Array Slot} {rest : List Value} {j : Fin 4} {v : Int32} (ls' : Array Slot) (hd : decode bytes pc = .ok (.istore_n j, 1)) (hq : pc + 1 = q) (hl : storeLocals ls j.val (.int v) = some ls') (k : Wk p l e R s m args below meth c n0 Q h cells slots (mkF m q ls' rest)) : Wk p l e R s m args below meth c n0 Q h cells slots (mkF m pc ls (.int v :: rest)) := by
  subst hq; exact Wk.step (fun T _ t X k => XS.istoreN X.here C.1 rfl (hb C.2.2.1 hd) rfl hl k) k
theorem w_istore (C : Cx p s m meth c Z own nm bytes maxL ret) {pc q : Nat} {ls : Array Slot} {rest : List Value} {j : Nat} {v : Int32} (ls' : Array Slot) (hd : decode bytes pc = .ok (.istore j, 2)) (hq : pc + 2 = q) (hl : storeLocals ls j (.int v) = some ls') (k : Wk p l e R s m args below meth c n0 Q h cells slots (mkF m q ls' rest)) : Wk p l e R s m args below meth c n0 Q h cells slots (mkF m pc ls (.int v :: rest)) := by
  subst hq; exact Wk.step (fun T _ t X k => XS.istore X.here C.1 rfl (hb C.2.2.1 hd) rfl hl k) k
theorem w_lstoreN (C : Cx p s m meth c Z own nm bytes maxL ret) {pc q : Nat} {ls : Array Slot} {rest : List Value} {j : Fin 4} {v : Int64} (ls' : Array Slot) (hd : decode bytes pc = .ok (.lstore_n j, 1)) (hq : pc + 1 = q) (hl : storeLocals ls j.val (.long v) = some ls') (k : Wk p l e R s m args below meth c n0 Q h cells slots (mkF m q ls' rest)) : Wk p l e R s m args below meth c n0 Q h cells slots (mkF m pc ls (.long v :: rest)) := by
  subst hq; exact Wk.step (fun T _ t X k => XT.lstoreN X.here C.1 rfl (hb C.2.2.1 hd) rfl hl k) k
theorem w_astoreN (C : Cx p s m meth c Z own nm bytes maxL ret) {pc q : Nat} {ls : Array Slot} {rest : List Value} {j : Fin 4} {v : Value} (ls' : Array Slot) (hd : decode bytes pc = .ok (.astore_n j, 1)) (hq : pc + 1 = q) (hv : v.isRef = true) (hl : storeLocals ls j.val v = some ls') (k : Wk p l e R s m args below meth c n0 Q h cells slots (mkF m q ls' rest)) : Wk p l e R s m args below meth c n0 Q h cells slots (mkF m pc ls (v :: rest)) := by
  subst hq; exact Wk.step (fun T _ t X k => XS.astoreN X.here C.1 rfl (hb C.2.2.1 hd) rfl hv hl k) k
theorem w_astore (C : Cx p s m meth c Z own nm bytes maxL ret) {pc q : Nat} {ls : Array Slot} {rest : List Value} {j : Nat} {v : Value} (ls' : Array Slot) (hd : decode bytes pc = .ok (.astore j, 2)) (hq : pc + 2 = q) (hv : v.isRef = true) (hl : storeLocals ls j v = some ls') (k : Wk p l e R s m args below meth c n0 Q h cells slots (mkF m q ls' rest)) : Wk p l e R s m args below meth c n0 Q h cells slots (mkF m pc ls (v :: rest)) := by
  subst hq; exact Wk.step (fun T _ t X k => XS.astore X.here C.1 rfl (hb C.2.2.1 hd) rfl hv hl k) k
theorem w_iconst (C : Cx p s m meth c Z own nm bytes maxL ret) {pc q : Nat} {ls : Array Slot} {rest : List Value} {i : Int} (v : Int32) (hd : decode bytes pc = .ok (.iconst i, 1)) (hq : pc + 1 = q) (hv : Int32.ofInt i = v) (k : Wk p l e R s m args below meth c n0 Q h cells slots (mkF m q ls (.int v :: rest))) : Wk p l e R s m args below meth c n0 Q h cells slots (mkF m pc ls rest) := by
  subst hq; exact Wk.step (fun T _ t X k => XT.iconstV X.here C.1 rfl v (hb C.2.2.1 hd) hv k) k
theorem w_bipush (C : Cx p s m meth c Z own nm bytes maxL ret) {pc q : Nat} {ls : Array Slot} {rest : List Value} {i : Int} (v : Int32) (hd : decode bytes pc = .ok (.bipush i, 2)) (hq : pc + 2 = q) (hv : (Int8.ofInt i).toInt32 = v) (k : Wk p l e R s m args below meth c n0 Q h cells slots (mkF m q ls (.int v :: rest))) : Wk p l e R s m args below meth c n0 Q h cells slots (mkF m pc ls rest) := by
  subst hq; exact Wk.step (fun T _ t X k => XT.bipushV X.here C.1 rfl v (hb C.2.2.1 hd) hv k) k
theorem w_lconst (C : Cx p s m meth c Z own nm bytes maxL ret) {pc q : Nat} {ls : Array Slot} {rest : List Value} {i : Fin 2} (v : Int64) (hd : decode bytes pc = .ok (.lconst i, 1)) (hq : pc + 1 = q) (hv : Int64.ofNat i = v) (k : Wk p l e R s m args below meth c n0 Q h cells slots (mkF m q ls (.long v :: rest))) : Wk p l e R s m args below meth c n0 Q h cells slots (mkF m pc ls rest) := by
  subst hq; exact Wk.step (fun T _ t X k => XT.lconstV X.here C.1 rfl v (hb C.2.2.1 hd) hv k) k
theorem w_aconstNull (C : Cx p s m meth c Z own nm bytes maxL ret) {pc q : Nat} {ls : Array Slot} {rest : List Value}  (hd : decode bytes pc = .ok (.aconst_null, 1)) (hq : pc + 1 = q) (k : Wk p l e R s m args below meth c n0 Q h cells slots (mkF m q ls (.null :: rest))) : Wk p l e R s m args below meth c n0 Q h cells slots (mkF m pc ls rest) := by
  subst hq; exact Wk.step (fun T _ t X k => XS.aconstNull X.here C.1 rfl (hb C.2.2.1 hd) k) k
theorem w_iadd (C : Cx p s m meth c Z own nm bytes maxL ret) {pc q : Nat} {ls : Array Slot} {rest : List Value} {x y : Int32} (hd : decode bytes pc = .ok (.iadd, 1)) (hq : pc + 1 = q) (k : Wk p l e R s m args below meth c n0 Q h cells slots (mkF m q ls (.int (x + y) :: rest))) : Wk p l e R s m args below meth c n0 Q h cells slots (mkF m pc ls (.int y :: .int x :: rest)) := by
  subst hq; exact Wk.step (fun T _ t X k => XS.iadd X.here C.1 rfl (hb C.2.2.1 hd) rfl k) k
theorem w_isub (C : Cx p s m meth c Z own nm bytes maxL ret) {pc q : Nat} {ls : Array Slot} {rest : List Value} {x y : Int32} (hd : decode bytes pc = .ok (.isub, 1)) (hq : pc + 1 = q) (k : Wk p l e R s m args below meth c n0 Q h cells slots (mkF m q ls (.int (x - y) :: rest))) : Wk p l e R s m args below meth c n0 Q h cells slots (mkF m pc ls (.int y :: .int x :: rest)) := by
  subst hq; exact Wk.step (fun T _ t X k => XS.isub X.here C.1 rfl (hb C.2.2.1 hd) rfl k) k
theorem w_imul (C : Cx p s m meth c Z own nm bytes maxL ret) {pc q : Nat} {ls : Array Slot} {rest : List Value} {x y : Int32} (hd : decode bytes pc = .ok (.imul, 1)) (hq : pc + 1 = q) (k : Wk p l e R s m args below meth c n0 Q h cells slots (mkF m q ls (.int (x * y) :: rest))) : Wk p l e R s m args below meth c n0 Q h cells slots (mkF m pc ls (.int y :: .int x :: rest)) := by
  subst hq; exact Wk.step (fun T _ t X k => XS.imul X.here C.1 rfl (hb C.2.2.1 hd) rfl k) k
theorem w_iand (C : Cx p s m meth c Z own nm bytes maxL ret) {pc q : Nat} {ls : Array Slot} {rest : List Value} {x y : Int32} (hd : decode bytes pc = .ok (.iand, 1)) (hq : pc + 1 = q) (k : Wk p l e R s m args below meth c n0 Q h cells slots (mkF m q ls (.int (x &&& y) :: rest))) : Wk p l e R s m args below meth c n0 Q h cells slots (mkF m pc ls (.int y :: .int x :: rest)) := by
  subst hq; exact Wk.step (fun T _ t X k => XS.iand X.here C.1 rfl (hb C.2.2.1 hd) rfl k) k
theorem w_iushr (C : Cx p s m meth c Z own nm bytes maxL ret) {pc q : Nat} {ls : Array Slot} {rest : List Value} {x y : Int32} (hd : decode bytes pc = .ok (.iushr, 1)) (hq : pc + 1 = q) (k : Wk p l e R s m args below meth c n0 Q h cells slots (mkF m q ls (.int (XT.ushr x y) :: rest))) : Wk p l e R s m args below meth c n0 Q h cells slots (mkF m pc ls (.int y :: .int x :: rest)) := by
  subst hq; exact Wk.step (fun T _ t X k => XT.iushr X.here C.1 rfl (hb C.2.2.1 hd) rfl k) k
theorem w_ladd (C : Cx p s m meth c Z own nm bytes maxL ret) {pc q : Nat} {ls : Array Slot} {rest : List Value} {x y : Int64} (hd : decode bytes pc = .ok (.ladd, 1)) (hq : pc + 1 = q) (k : Wk p l e R s m args below meth c n0 Q h cells slots (mkF m q ls (.long (x + y) :: rest))) : Wk p l e R s m args below meth c n0 Q h cells slots (mkF m pc ls (.long y :: .long x :: rest)) := by
  subst hq; exact Wk.step (fun T _ t X k => XT.ladd X.here C.1 rfl (hb C.2.2.1 hd) rfl k) k
theorem w_lsub (C : Cx p s m meth c Z own nm bytes maxL ret) {pc q : Nat} {ls : Array Slot} {rest : List Value} {x y : Int64} (hd : decode bytes pc = .ok (.lsub, 1)) (hq : pc + 1 = q) (k : Wk p l e R s m args below meth c n0 Q h cells slots (mkF m q ls (.long (x - y) :: rest))) : Wk p l e R s m args below meth c n0 Q h cells slots (mkF m pc ls (.long y :: .long x :: rest)) := by
  subst hq; exact Wk.step (fun T _ t X k => XT.lsub X.here C.1 rfl (hb C.2.2.1 hd) rfl k) k
theorem w_lor (C : Cx p s m meth c Z own nm bytes maxL ret) {pc q : Nat} {ls : Array Slot} {rest : List Value} {x y : Int64} (hd : decode bytes pc = .ok (.lor, 1)) (hq : pc + 1 = q) (k : Wk p l e R s m args below meth c n0 Q h cells slots (mkF m q ls (.long (x ||| y) :: rest))) : Wk p l e R s m args below meth c n0 Q h cells slots (mkF m pc ls (.long y :: .long x :: rest)) := by
  subst hq; exact Wk.step (fun T _ t X k => XT.lor X.here C.1 rfl (hb C.2.2.1 hd) rfl k) k
theorem w_lshr (C : Cx p s m meth c Z own nm bytes maxL ret) {pc q : Nat} {ls : Array Slot} {rest : List Value} {x : Int64} {y : Int32} (hd : decode bytes pc = .ok (.lshr, 1)) (hq : pc + 1 = q) (k : Wk p l e R s m args below meth c n0 Q h cells slots (mkF m q ls (.long (x >>> (y.toInt64 &&& 63)) :: rest))) : Wk p l e R s m args below meth c n0 Q h cells slots (mkF m pc ls (.int y :: .long x :: rest)) := by
  subst hq; exact Wk.step (fun T _ t X k => XT.lshr X.here C.1 rfl (hb C.2.2.1 hd) rfl k) k
theorem w_lushr (C : Cx p s m meth c Z own nm bytes maxL ret) {pc q : Nat} {ls : Array Slot} {rest : List Value} {x : Int64} {y : Int32} (hd : decode bytes pc = .ok (.lushr, 1)) (hq : pc + 1 = q) (k : Wk p l e R s m args below meth c n0 Q h cells slots (mkF m q ls (.long (XT.ushrL x y) :: rest))) : Wk p l e R s m args below meth c n0 Q h cells slots (mkF m pc ls (.int y :: .long x :: rest)) := by
  subst hq; exact Wk.step (fun T _ t X k => XT.lushr X.here C.1 rfl (hb C.2.2.1 hd) rfl k) k
theorem w_lneg (C : Cx p s m meth c Z own nm bytes maxL ret) {pc q : Nat} {ls : Array Slot} {rest : List Value} {x : Int64} (hd : decode bytes pc = .ok (.lneg, 1)) (hq : pc + 1 = q) (k : Wk p l e R s m args below meth c n0 Q h cells slots (mkF m q ls (.long (-x) :: rest))) : Wk p l e R s m args below meth c n0 Q h cells slots (mkF m pc ls (.long x :: rest)) := by
  subst hq; exact Wk.step (fun T _ t X k => XT.lneg X.here C.1 rfl (hb C.2.2.1 hd) rfl k) k
theorem w_l2i (C : Cx p s m meth c Z own nm bytes maxL ret) {pc q : Nat} {ls : Array Slot} {rest : List Value} {x : Int64} (hd : decode bytes pc = .ok (.l2i, 1)) (hq : pc + 1 = q) (k : Wk p l e R s m args below meth c n0 Q h cells slots (mkF m q ls (.int x.toInt32 :: rest))) : Wk p l e R s m args below meth c n0 Q h cells slots (mkF m pc ls (.long x :: rest)) := by
  subst hq; exact Wk.step (fun T _ t X k => XT.l2i X.here C.1 rfl (hb C.2.2.1 hd) rfl k) k
theorem w_lcmp (C : Cx p s m meth c Z own nm bytes maxL ret) {pc q : Nat} {ls : Array Slot} {rest : List Value} {x y : Int64} (hd : decode bytes pc = .ok (.lcmp, 1)) (hq : pc + 1 = q) (k : Wk p l e R s m args below meth c n0 Q h cells slots (mkF m q ls (.int (XT.cmpL x y) :: rest))) : Wk p l e R s m args below meth c n0 Q h cells slots (mkF m pc ls (.long y :: .long x :: rest)) := by
  subst hq; exact Wk.step (fun T _ t X k => XT.lcmp X.here C.1 rfl (hb C.2.2.1 hd) rfl k) k
theorem w_dup (C : Cx p s m meth c Z own nm bytes maxL ret) {pc q : Nat} {ls : Array Slot} {rest : List Value} {x : Value} (hd : decode bytes pc = .ok (.dup, 1)) (hq : pc + 1 = q) (hx : x.category = 1) (k : Wk p l e R s m args below meth c n0 Q h cells slots (mkF m q ls (x :: x :: rest))) : Wk p l e R s m args below meth c n0 Q h cells slots (mkF m pc ls (x :: rest)) := by
  subst hq; exact Wk.step (fun T _ t X k => XS.dup X.here C.1 rfl (hb C.2.2.1 hd) rfl hx k) k
theorem w_pop (C : Cx p s m meth c Z own nm bytes maxL ret) {pc q : Nat} {ls : Array Slot} {rest : List Value} {x : Value} (hd : decode bytes pc = .ok (.pop, 1)) (hq : pc + 1 = q) (hx : x.category = 1) (k : Wk p l e R s m args below meth c n0 Q h cells slots (mkF m q ls rest)) : Wk p l e R s m args below meth c n0 Q h cells slots (mkF m pc ls (x :: rest)) := by
  subst hq; exact Wk.step (fun T _ t X k => XT.pop X.here C.1 rfl (hb C.2.2.1 hd) rfl hx k) k
theorem w_dupX1 (C : Cx p s m meth c Z own nm bytes maxL ret) {pc q : Nat} {ls : Array Slot} {rest : List Value} {x y : Value} (hd : decode bytes pc = .ok (.dup_x1, 1)) (hq : pc + 1 = q) (hx : x.category = 1) (hy : y.category = 1) (k : Wk p l e R s m args below meth c n0 Q h cells slots (mkF m q ls (x :: y :: x :: rest))) : Wk p l e R s m args below meth c n0 Q h cells slots (mkF m pc ls (x :: y :: rest)) := by
  subst hq; exact Wk.step (fun T _ t X k => XT.dupX1 X.here C.1 rfl (hb C.2.2.1 hd) rfl hx hy k) k
theorem w_dup2X1L (C : Cx p s m meth c Z own nm bytes maxL ret) {pc q : Nat} {ls : Array Slot} {rest : List Value} {x : Int64} {y : Value} (hd : decode bytes pc = .ok (.dup2_x1, 1)) (hq : pc + 1 = q) (hy : y.category = 1) (k : Wk p l e R s m args below meth c n0 Q h cells slots (mkF m q ls (.long x :: y :: .long x :: rest))) : Wk p l e R s m args below meth c n0 Q h cells slots (mkF m pc ls (.long x :: y :: rest)) := by
  subst hq
  refine Wk.step (fun T _ t X k => ?_) k
  have hd' := hb C.2.2.1 hd
  have hx := C.1
  show Steps p.tables e below (T.setTop { method := m, pc := pc, locals := ls, stack := .long x :: y :: rest, locked := none }) _
  jvm_step X.here [X.here.top, hx, hd', Value.category, hy]
  exact ⟨hy, k⟩
theorem w_goto (C : Cx p s m meth c Z own nm bytes maxL ret) {pc q : Nat} {ls : Array Slot} {rest : List Value} {o : Int} (hd : decode bytes pc = .ok (.goto o, 3)) (ho : 0 ≤ (pc : Int) + o) (hp : ((pc : Int) + o).toNat = q) (k : Wk p l e R s m args below meth c n0 Q h cells slots (mkF m q ls rest)) : Wk p l e R s m args below meth c n0 Q h cells slots (mkF m pc ls rest) :=
  Wk.step (fun T _ t X k => XS.goto X.here C.1 rfl rfl (hb C.2.2.1 hd) ho hp k) k
theorem w_ifeq_t (C : Cx p s m meth c Z own nm bytes maxL ret) {pc q : Nat} {ls : Array Slot} {rest : List Value} {x : Int32} {o : Int} (hd : decode bytes pc = .ok (.ifCond .eq o, 3)) (ho : 0 ≤ (pc : Int) + o) (hp : ((pc : Int) + o).toNat = q) (hc : x = 0) (k : Wk p l e R s m args below meth c n0 Q h cells slots (mkF m q ls rest)) : Wk p l e R s m args below meth c n0 Q h cells slots (mkF m pc ls (.int x :: rest)) :=
  Wk.step (fun T _ t X k => XS.ifYes X.here C.1 rfl rfl (hb C.2.2.1 hd) rfl (XT.i0_eq_t hc) ho hp k) k
theorem w_ifeq_f (C : Cx p s m meth c Z own nm bytes maxL ret) {pc q : Nat} {ls : Array Slot} {rest : List Value} {x : Int32} {o : Int} (hd : decode bytes pc = .ok (.ifCond .eq o, 3)) (hq : pc + 3 = q) (hc : ¬ x = 0) (k : Wk p l e R s m args below meth c n0 Q h cells slots (mkF m q ls rest)) : Wk p l e R s m args below meth c n0 Q h cells slots (mkF m pc ls (.int x :: rest)) := by
  subst hq; exact Wk.step (fun T _ t X k => XS.ifNo X.here C.1 rfl (hb C.2.2.1 hd) rfl (XT.i0_eq_f hc) k) k
theorem w_ifeq (C : Cx p s m meth c Z own nm bytes maxL ret) {pc q : Nat} {ls : Array Slot} {rest : List Value} {q' : Nat} {x : Int32} {o : Int} (hd : decode bytes pc = .ok (.ifCond .eq o, 3)) (ho : 0 ≤ (pc : Int) + o) (hp : ((pc : Int) + o).toNat = q) (hq : pc + 3 = q') (kt : x = 0 → Wk p l e R s m args below meth c n0 Q h cells slots (mkF m q ls rest)) (kf : ¬ x = 0 → Wk p l e R s m args below meth c n0 Q h cells slots (mkF m q' ls rest)) : Wk p l e R s m args below meth c n0 Q h cells slots (mkF m pc ls (.int x :: rest)) := by
  by_cases hc : x = 0
  · exact w_ifeq_t C hd ho hp hc (kt hc)
  · exact w_ifeq_f C hd hq hc (kf hc)
theorem w_ifne_t (C : Cx p s m meth c Z own nm bytes maxL ret) {pc q : Nat} {ls : Array Slot} {rest : List Value} {x : Int32} {o : Int} (hd : decode bytes pc = .ok (.ifCond .ne o, 3)) (ho : 0 ≤ (pc : Int) + o) (hp : ((pc : Int) + o).toNat = q) (hc : ¬ x = 0) (k : Wk p l e R s m args below meth c n0 Q h cells slots (mkF m q ls rest)) : Wk p l e R s m args below meth c n0 Q h cells slots (mkF m pc ls (.int x :: rest)) :=
  Wk.step (fun T _ t X k => XS.ifYes X.here C.1 rfl rfl (hb C.2.2.1 hd) rfl (XT.i0_ne_t hc) ho hp k) k
theorem w_ifne_f (C : Cx p s m meth c Z own nm bytes maxL ret) {pc q : Nat} {ls : Array Slot} {rest : List Value} {x : Int32} {o : Int} (hd : decode bytes pc = .ok (.ifCond .ne o, 3)) (hq : pc + 3 = q) (hc : x = 0) (k : Wk p l e R s m args below meth c n0 Q h cells slots (mkF m q ls rest)) : Wk p l e R s m args below meth c n0 Q h cells slots (mkF m pc ls (.int x :: rest)) := by
  subst hq; exact Wk.step (fun T _ t X k => XS.ifNo X.here C.1 rfl (hb C.2.2.1 hd) rfl (XT.i0_ne_f hc) k) k
theorem w_ifne (C : Cx p s m meth c Z own nm bytes maxL ret) {pc q : Nat} {ls : Array Slot} {rest : List Value} {q' : Nat} {x : Int32} {o : Int} (hd : decode bytes pc = .ok (.ifCond .ne o, 3)) (ho : 0 ≤ (pc : Int) + o) (hp : ((pc : Int) + o).toNat = q) (hq : pc + 3 = q') (kt : ¬ x = 0 → Wk p l e R s m args below meth c n0 Q h cells slots (mkF m q ls rest)) (kf : x = 0 → Wk p l e R s m args below meth c n0 Q h cells slots (mkF m q' ls rest)) : Wk p l e R s m args below meth c n0 Q h cells slots (mkF m pc ls (.int x :: rest)) := by
  by_cases hc : x = 0
  · exact w_ifne_f C hd hq hc (kf hc)
  · exact w_ifne_t C hd ho hp hc (kt hc)
theorem w_icne_t (C : Cx p s m meth c Z own nm bytes maxL ret) {pc q : Nat} {ls : Array Slot} {rest : List Value} {x y : Int32} {o : Int} (hd : decode bytes pc = .ok (.if_icmp .ne o, 3)) (ho : 0 ≤ (pc : Int) + o) (hp : ((pc : Int) + o).toNat = q) (hc : ¬ x = y) (k : Wk p l e R s m args below meth c n0 Q h cells slots (mkF m q ls rest)) : Wk p l e R s m args below meth c n0 Q h cells slots (mkF m pc ls (.int y :: .int x :: rest)) :=
  Wk.step (fun T _ t X k => XS.icmpYes X.here C.1 rfl rfl (hb C.2.2.1 hd) rfl (XT.ii_ne_t hc) ho hp k) k
theorem w_icne_f (C : Cx p s m meth c Z own nm bytes maxL ret) {pc q : Nat} {ls : Array Slot} {rest : List Value} {x y : Int32} {o : Int} (hd : decode bytes pc = .ok (.if_icmp .ne o, 3)) (hq : pc + 3 = q) (hc : x = y) (k : Wk p l e R s m args below meth c n0 Q h cells slots (mkF m q ls rest)) : Wk p l e R s m args below meth c n0 Q h cells slots (mkF m pc ls (.int y :: .int x :: rest)) := by
  subst hq; exact Wk.step (fun T _ t X k => XS.icmpNo X.here C.1 rfl (hb C.2.2.1 hd) rfl (XT.ii_ne_f hc) k) k
theorem w_llne_t (C : Cx p s m meth c Z own nm bytes maxL ret) {pc q : Nat} {ls : Array Slot} {rest : List Value} {x y : Int64} {o : Int} (hd : decode bytes pc = .ok (.ifCond .ne o, 3)) (ho : 0 ≤ (pc : Int) + o) (hp : ((pc : Int) + o).toNat = q) (hc : ¬ x = y) (k : Wk p l e R s m args below meth c n0 Q h cells slots (mkF m q ls rest)) : Wk p l e R s m args below meth c n0 Q h cells slots (mkF m pc ls (.int (XT.cmpL x y) :: rest)) :=
  Wk.step (fun T _ t X k => XS.ifYes X.here C.1 rfl rfl (hb C.2.2.1 hd) rfl (XT.ll_ne_t hc) ho hp k) k
theorem w_llne_f (C : Cx p s m meth c Z own nm bytes maxL ret) {pc q : Nat} {ls : Array Slot} {rest : List Value} {x y : Int64} {o : Int} (hd : decode bytes pc = .ok (.ifCond .ne o, 3)) (hq : pc + 3 = q) (hc : x = y) (k : Wk p l e R s m args below meth c n0 Q h cells slots (mkF m q ls rest)) : Wk p l e R s m args below meth c n0 Q h cells slots (mkF m pc ls (.int (XT.cmpL x y) :: rest)) := by
  subst hq; exact Wk.step (fun T _ t X k => XS.ifNo X.here C.1 rfl (hb C.2.2.1 hd) rfl (XT.ll_ne_f hc) k) k
theorem w_llne (C : Cx p s m meth c Z own nm bytes maxL ret) {pc q : Nat} {ls : Array Slot} {rest : List Value} {q' : Nat} {x y : Int64} {o : Int} (hd : decode bytes pc = .ok (.ifCond .ne o, 3)) (ho : 0 ≤ (pc : Int) + o) (hp : ((pc : Int) + o).toNat = q) (hq : pc + 3 = q') (kt : ¬ x = y → Wk p l e R s m args below meth c n0 Q h cells slots (mkF m q ls rest)) (kf : x = y → Wk p l e R s m args below meth c n0 Q h cells slots (mkF m q' ls rest)) : Wk p l e R s m args below meth c n0 Q h cells slots (mkF m pc ls (.int (XT.cmpL x y) :: rest)) := by
  by_cases hc : x = y
  · exact w_llne_f C hd hq hc (kf hc)
  · exact w_llne_t C hd ho hp hc (kt hc)
theorem w_iflt_f (C : Cx p s m meth c Z own nm bytes maxL ret) {pc q : Nat} {ls : Array Slot} {rest : List Value} {x : Int32} {o : Int} (hd : decode bytes pc = .ok (.ifCond .lt o, 3)) (hq : pc + 3 = q) (hc : ¬ x < 0) (k : Wk p l e R s m args below meth c n0 Q h cells slots (mkF m q ls rest)) : Wk p l e R s m args below meth c n0 Q h cells slots (mkF m pc ls (.int x :: rest)) := by
  subst hq; exact Wk.step (fun T _ t X k => XS.ifNo X.here C.1 rfl (hb C.2.2.1 hd) rfl (XT.i0_lt_f hc) k) k
theorem w_iclt_t (C : Cx p s m meth c Z own nm bytes maxL ret) {pc q : Nat} {ls : Array Slot} {rest : List Value} {x y : Int32} {o : Int} (hd : decode bytes pc = .ok (.if_icmp .lt o, 3)) (ho : 0 ≤ (pc : Int) + o) (hp : ((pc : Int) + o).toNat = q) (hc : x < y) (k : Wk p l e R s m args below meth c n0 Q h cells slots (mkF m q ls rest)) : Wk p l e R s m args below meth c n0 Q h cells slots (mkF m pc ls (.int y :: .int x :: rest)) :=
  Wk.step (fun T _ t X k => XS.icmpYes X.here C.1 rfl rfl (hb C.2.2.1 hd) rfl (XT.ii_lt_t hc) ho hp k) k
theorem w_iclt_f (C : Cx p s m meth c Z own nm bytes maxL ret) {pc q : Nat} {ls : Array Slot} {rest : List Value} {x y : Int32} {o : Int} (hd : decode bytes pc = .ok (.if_icmp .lt o, 3)) (hq : pc + 3 = q) (hc : ¬ x < y) (k : Wk p l e R s m args below meth c n0 Q h cells slots (mkF m q ls rest)) : Wk p l e R s m args below meth c n0 Q h cells slots (mkF m pc ls (.int y :: .int x :: rest)) := by
  subst hq; exact Wk.step (fun T _ t X k => XS.icmpNo X.here C.1 rfl (hb C.2.2.1 hd) rfl (XT.ii_lt_f hc) k) k
theorem w_icge_t (C : Cx p s m meth c Z own nm bytes maxL ret) {pc q : Nat} {ls : Array Slot} {rest : List Value} {x y : Int32} {o : Int} (hd : decode bytes pc = .ok (.if_icmp .ge o, 3)) (ho : 0 ≤ (pc : Int) + o) (hp : ((pc : Int) + o).toNat = q) (hc : ¬ x < y) (k : Wk p l e R s m args below meth c n0 Q h cells slots (mkF m q ls rest)) : Wk p l e R s m args below meth c n0 Q h cells slots (mkF m pc ls (.int y :: .int x :: rest)) :=
  Wk.step (fun T _ t X k => XS.icmpYes X.here C.1 rfl rfl (hb C.2.2.1 hd) rfl (XT.ii_ge_t hc) ho hp k) k
theorem w_icge_f (C : Cx p s m meth c Z own nm bytes maxL ret) {pc q : Nat} {ls : Array Slot} {rest : List Value} {x y : Int32} {o : Int} (hd : decode bytes pc = .ok (.if_icmp .ge o, 3)) (hq : pc + 3 = q) (hc : x < y) (k : Wk p l e R s m args below meth c n0 Q h cells slots (mkF m q ls rest)) : Wk p l e R s m args below meth c n0 Q h cells slots (mkF m pc ls (.int y :: .int x :: rest)) := by
  subst hq; exact Wk.step (fun T _ t X k => XS.icmpNo X.here C.1 rfl (hb C.2.2.1 hd) rfl (XT.ii_ge_f hc) k) k
theorem w_llge_t (C : Cx p s m meth c Z own nm bytes maxL ret) {pc q : Nat} {ls : Array Slot} {rest : List Value} {x y : Int64} {o : Int} (hd : decode bytes pc = .ok (.ifCond .ge o, 3)) (ho : 0 ≤ (pc : Int) + o) (hp : ((pc : Int) + o).toNat = q) (hc : ¬ x < y) (k : Wk p l e R s m args below meth c n0 Q h cells slots (mkF m q ls rest)) : Wk p l e R s m args below meth c n0 Q h cells slots (mkF m pc ls (.int (XT.cmpL x y) :: rest)) :=
  Wk.step (fun T _ t X k => XS.ifYes X.here C.1 rfl rfl (hb C.2.2.1 hd) rfl (XT.ll_ge_t hc) ho hp k) k
theorem w_llge_f (C : Cx p s m meth c Z own nm bytes maxL ret) {pc q : Nat} {ls : Array Slot} {rest : List Value} {x y : Int64} {o : Int} (hd : decode bytes pc = .ok (.ifCond .ge o, 3)) (hq : pc + 3 = q) (hc : x < y) (k : Wk p l e R s m args below meth c n0 Q h cells slots (mkF m q ls rest)) : Wk p l e R s m args below meth c n0 Q h cells slots (mkF m pc ls (.int (XT.cmpL x y) :: rest)) := by
  subst hq; exact Wk.step (fun T _ t X k => XS.ifNo X.here C.1 rfl (hb C.2.2.1 hd) rfl (XT.ll_ge_f hc) k) k
theorem w_llge (C : Cx p s m meth c Z own nm bytes maxL ret) {pc q : Nat} {ls : Array Slot} {rest : List Value} {q' : Nat} {x y : Int64} {o : Int} (hd : decode bytes pc = .ok (.ifCond .ge o, 3)) (ho : 0 ≤ (pc : Int) + o) (hp : ((pc : Int) + o).toNat = q) (hq : pc + 3 = q') (kt : ¬ x < y → Wk p l e R s m args below meth c n0 Q h cells slots (mkF m q ls rest)) (kf : x < y → Wk p l e R s m args below meth c n0 Q h cells slots (mkF m q' ls rest)) : Wk p l e R s m args below meth c n0 Q h cells slots (mkF m pc ls (.int (XT.cmpL x y) :: rest)) := by
  by_cases hc : x < y
  · exact w_llge_f C hd hq hc (kf hc)
  · exact w_llge_t C hd ho hp hc (kt hc)
theorem w_ifgt_t (C : Cx p s m meth c Z own nm bytes maxL ret) {pc q : Nat} {ls : Array Slot} {rest : List Value} {x : Int32} {o : Int} (hd : decode bytes pc = .ok (.ifCond .gt o, 3)) (ho : 0 ≤ (pc : Int) + o) (hp : ((pc : Int) + o).toNat = q) (hc : 0 < x) (k : Wk p l e R s m args below meth c n0 Q h cells slots (mkF m q ls rest)) : Wk p l e R s m args below meth c n0 Q h cells slots (mkF m pc ls (.int x :: rest)) :=
  Wk.step (fun T _ t X k => XS.ifYes X.here C.1 rfl rfl (hb C.2.2.1 hd) rfl (XT.i0_gt_t hc) ho hp k) k
theorem w_ifgt_f (C : Cx p s m meth c Z own nm bytes maxL ret) {pc q : Nat} {ls : Array Slot} {rest : List Value} {x : Int32} {o : Int} (hd : decode bytes pc = .ok (.ifCond .gt o, 3)) (hq : pc + 3 = q) (hc : ¬ 0 < x) (k : Wk p l e R s m args below meth c n0 Q h cells slots (mkF m q ls rest)) : Wk p l e R s m args below meth c n0 Q h cells slots (mkF m pc ls (.int x :: rest)) := by
  subst hq; exact Wk.step (fun T _ t X k => XS.ifNo X.here C.1 rfl (hb C.2.2.1 hd) rfl (XT.i0_gt_f hc) k) k
theorem w_ifgt (C : Cx p s m meth c Z own nm bytes maxL ret) {pc q : Nat} {ls : Array Slot} {rest : List Value} {q' : Nat} {x : Int32} {o : Int} (hd : decode bytes pc = .ok (.ifCond .gt o, 3)) (ho : 0 ≤ (pc : Int) + o) (hp : ((pc : Int) + o).toNat = q) (hq : pc + 3 = q') (kt : 0 < x → Wk p l e R s m args below meth c n0 Q h cells slots (mkF m q ls rest)) (kf : ¬ 0 < x → Wk p l e R s m args below meth c n0 Q h cells slots (mkF m q' ls rest)) : Wk p l e R s m args below meth c n0 Q h cells slots (mkF m pc ls (.int x :: rest)) := by
  by_cases hc : 0 < x
  · exact w_ifgt_t C hd ho hp hc (kt hc)
  · exact w_ifgt_f C hd hq hc (kf hc)
theorem w_ifle_t (C : Cx p s m meth c Z own nm bytes maxL ret) {pc q : Nat} {ls : Array Slot} {rest : List Value} {x : Int32} {o : Int} (hd : decode bytes pc = .ok (.ifCond .le o, 3)) (ho : 0 ≤ (pc : Int) + o) (hp : ((pc : Int) + o).toNat = q) (hc : ¬ 0 < x) (k : Wk p l e R s m args below meth c n0 Q h cells slots (mkF m q ls rest)) : Wk p l e R s m args below meth c n0 Q h cells slots (mkF m pc ls (.int x :: rest)) :=
  Wk.step (fun T _ t X k => XS.ifYes X.here C.1 rfl rfl (hb C.2.2.1 hd) rfl (XT.i0_le_t hc) ho hp k) k
theorem w_ifle_f (C : Cx p s m meth c Z own nm bytes maxL ret) {pc q : Nat} {ls : Array Slot} {rest : List Value} {x : Int32} {o : Int} (hd : decode bytes pc = .ok (.ifCond .le o, 3)) (hq : pc + 3 = q) (hc : 0 < x) (k : Wk p l e R s m args below meth c n0 Q h cells slots (mkF m q ls rest)) : Wk p l e R s m args below meth c n0 Q h cells slots (mkF m pc ls (.int x :: rest)) := by
  subst hq; exact Wk.step (fun T _ t X k => XS.ifNo X.here C.1 rfl (hb C.2.2.1 hd) rfl (XT.i0_le_f hc) k) k
theorem w_aceq_t (C : Cx p s m meth c Z own nm bytes maxL ret) {pc q : Nat} {ls : Array Slot} {rest : List Value} {x y : Value} {o : Int} (hd : decode bytes pc = .ok (.if_acmp .eq o, 3)) (ho : 0 ≤ (pc : Int) + o) (hp : ((pc : Int) + o).toNat = q) (hx : x.isRef = true) (hy : y.isRef = true) (hc : x = y) (k : Wk p l e R s m args below meth c n0 Q h cells slots (mkF m q ls rest)) : Wk p l e R s m args below meth c n0 Q h cells slots (mkF m pc ls (y :: x :: rest)) :=
  Wk.step (fun T _ t X k => XT.acmpYes X.here C.1 rfl rfl (hb C.2.2.1 hd) rfl hx hy (XT.aa_eq_t hc) ho hp k) k
theorem w_aceq_f (C : Cx p s m meth c Z own nm bytes maxL ret) {pc q : Nat} {ls : Array Slot} {rest : List Value} {x y : Value} {o : Int} (hd : decode bytes pc = .ok (.if_acmp .eq o, 3)) (hq : pc + 3 = q) (hx : x.isRef = true) (hy : y.isRef = true) (hc : ¬ x = y) (k : Wk p l e R s m args below meth c n0 Q h cells slots (mkF m q ls rest)) : Wk p l e R s m args below meth c n0 Q h cells slots (mkF m pc ls (y :: x :: rest)) := by
  subst hq; exact Wk.step (fun T _ t X k => XT.acmpNo X.here C.1 rfl (hb C.2.2.1 hd) rfl hx hy (XT.aa_eq_f hc) k) k
theorem w_acne_t (C : Cx p s m meth c Z own nm bytes maxL ret) {pc q : Nat} {ls : Array Slot} {rest : List Value} {x y : Value} {o : Int} (hd : decode bytes pc = .ok (.if_acmp .ne o, 3)) (ho : 0 ≤ (pc : Int) + o) (hp : ((pc : Int) + o).toNat = q) (hx : x.isRef = true) (hy : y.isRef = true) (hc : ¬ x = y) (k : Wk p l e R s m args below meth c n0 Q h cells slots (mkF m q ls rest)) : Wk p l e R s m args below meth c n0 Q h cells slots (mkF m pc ls (y :: x :: rest)) :=
  Wk.step (fun T _ t X k => XT.acmpYes X.here C.1 rfl rfl (hb C.2.2.1 hd) rfl hx hy (XT.aa_ne_t hc) ho hp k) k
theorem w_acne_f (C : Cx p s m meth c Z own nm bytes maxL ret) {pc q : Nat} {ls : Array Slot} {rest : List Value} {x y : Value} {o : Int} (hd : decode bytes pc = .ok (.if_acmp .ne o, 3)) (hq : pc + 3 = q) (hx : x.isRef = true) (hy : y.isRef = true) (hc : x = y) (k : Wk p l e R s m args below meth c n0 Q h cells slots (mkF m q ls rest)) : Wk p l e R s m args below meth c n0 Q h cells slots (mkF m pc ls (y :: x :: rest)) := by
  subst hq; exact Wk.step (fun T _ t X k => XT.acmpNo X.here C.1 rfl (hb C.2.2.1 hd) rfl hx hy (XT.aa_ne_f hc) k) k
theorem w_getF (C : Cx p s m meth c Z own nm bytes maxL ret) {pc q : Nat} {ls : Array Slot} {rest : List Value} {O n d host : String} {i : Nat} {R0 : String} (w : (Jvm.Cond.fieldLink own i R0 n d).before a0 Z = true ∨ (Jvm.Cond.fieldLinkNest own i R0 n d host).before a0 Z = true) (via : Via Z R0 O n d) {a : Addr} {v : Value} (F : Fld Z h a O n d v) (hd : decode bytes pc = .ok (.getfield i, 3)) (hq : pc + 3 = q)
    (k : Wk p l e R s m args below meth c n0 Q h cells slots (mkF m q ls (v :: rest))) : Wk p l e R s m args below meth c n0 Q h cells slots (mkF m pc ls (.ref a :: rest)) := by
  subst hq
  intro T locs X eT N
  obtain ⟨T', X', e', st⟩ := getF X C.1 C.2.1 C.2.2.2.2.1 w via eT F (g := mkF m pc ls (.ref a :: rest)) rfl rfl (hb C.2.2.1 hd)
  obtain ⟨U, o, h1, r⟩ := k T' locs X' e' N
  exact ⟨U, o, st U h1, r⟩
theorem w_getS (C : Cx p s m meth c Z own nm bytes maxL ret) {pc q : Nat} {ls : Array Slot} {rest : List Value} {O n d host : String} {i : Nat} {R0 : String} (w : (Jvm.Cond.fieldLink own i R0 n d).before a0 Z = true ∨ (Jvm.Cond.fieldLinkNest own i R0 n d host).before a0 Z = true) (via : Via Z R0 O n d) {v : Value} (F : Sta Z h O n d v) (hd : decode bytes pc = .ok (.getstatic i, 3)) (hq : pc + 3 = q)
    (k : Wk p l e R s m args below meth c n0 Q h cells slots (mkF m q ls (v :: rest))) : Wk p l e R s m args below meth c n0 Q h cells slots (mkF m pc ls rest) := by
  subst hq
  intro T locs X eT N
  obtain ⟨T', X', e', st⟩ := getS2 X C.1 C.2.1 C.2.2.2.2.1 w via eT F (g := mkF m pc ls rest) rfl (hb C.2.2.1 hd)
  obtain ⟨U, o, h1, r⟩ := k T' locs X' e' N
  exact ⟨U, o, st U h1, r⟩
theorem w_putF (C : Cx p s m meth c Z own nm bytes maxL ret) {pc q : Nat} {ls : Array Slot} {rest : List Value} {O n d host K : String} {i kk : Nat} {ty : FieldType} {R0 : String} (w : (Jvm.Cond.fieldLink own i R0 n d).before a0 Z = true ∨ (Jvm.Cond.fieldLinkNest own i R0 n d host).before a0 Z = true) (via : Via Z R0 O n d) {a : Addr} {v old : Value} (F : Fld Z h a O n d old) (E : Exa Z h a K)
    (L : (Jvm.Cond.lays K O n d).before a0 Z = true ∨ ((Jvm.Cond.laysFinal K O n d).before a0 Z = true ∧ own = O ∧ nm = "<init>")) (wi : (Jvm.Cond.instantiable K kk).before a0 Z = true) (hty : parseFieldDescriptor d = some ty) (hn : narrow ty v = v) (hf : fits ty v = true) (hd : decode bytes pc = .ok (.putfield i, 3)) (hq : pc + 3 = q) (ha : n0 ≤ a)
    (k : ∀ h', Wr h h' a (Jvm.RoadKit.slotOf Z O n d) v → Wk p l e R s m args below meth c n0 Q h' cells slots (mkF m q ls rest)) : Wk p l e R s m args below meth c n0 Q h cells slots (mkF m pc ls (v :: .ref a :: rest)) := by
  subst hq
  intro T locs X eT N
  obtain ⟨T', h', X', e', W, st⟩ := putF X C.1 C.2.1 C.2.2.2.2.1 w via eT F E (L.imp id fun q => ⟨q.1, q.2.1, C.2.2.2.2.2.1.trans q.2.2⟩) wi hty hn hf (g := mkF m pc ls (v :: .ref a :: rest)) rfl rfl (hb C.2.2.1 hd)
  obtain ⟨U, o, h1, r⟩ := k h' W T' _ X' e' (Fr.snoc X' N ha)
  exact ⟨U, o, st U h1, r⟩
theorem w_newO (C : Cx p s m meth c Z own nm bytes maxL ret) {pc q : Nat} {ls : Array Slot} {rest : List Value} {K : String} {i n : Nat} (w : (Jvm.Cond.classLink own i K).before a0 Z = true) (wi : (Jvm.Cond.instantiable K n).before a0 Z = true) (wz : (Jvm.Cond.initialized K).before a0 Z = true) (hd : decode bytes pc = .ok (.new i, 3)) (hq : pc + 3 = q) (hc : cells + 1 ≤ R.cells) (hl : slots + n ≤ R.slots)
    (k : ∀ h' a, a = h.size → Ext h h' → Exa Z h' a K → (∀ {O nm d : String} {ty : FieldType}, Laid Z a0 K O nm d → parseFieldDescriptor d = some ty → Fld Z h' a O nm d (defaultValue ty)) → Wk p l e R s m args below meth c n0 Q h' (cells + 1) (slots + n) (mkF m q ls (.ref a :: rest))) : Wk p l e R s m args below meth c n0 Q h cells slots (mkF m pc ls rest) := by
  subst hq
  intro T locs X eT N
  obtain ⟨T', h', X', e', E, A, D, -, st⟩ := newO X C.1 C.2.1 C.2.2.2.2.1 w wi wz eT (g := mkF m pc ls rest) rfl (hb C.2.2.1 hd) hc hl
  obtain ⟨U, o, h1, r⟩ := k h' h.size rfl E A D T' locs X' e' N
  exact ⟨U, o, st U h1, r⟩
theorem Ars.of_new {h' : Heap} {a : Addr} {cA : ClassId} {ty : FieldType} {n : Int32} (hn : ¬ n < 0) (A : Arr Z h' a (newA cA ty n) ty) : Ars Z h' a cA ty (List.replicate n.toNatClampNeg (defaultValue ty)) :=
  ⟨_, A, rfl, by simp [newA], by simpa using (back32 hn).2⟩
theorem w_newR (C : Cx p s m meth c Z own nm bytes maxL ret) {pc q : Nat} {ls : Array Slot} {rest : List Value} {K : String} {i : Nat} (w : (Jvm.Cond.classLink own i K).before a0 Z = true) (w2 : (Jvm.Cond.arrayOver (.object K)).before a0 Z = true) (hd : decode bytes pc = .ok (.anewarray i, 3)) (hq : pc + 3 = q) {n : Int32} (hn : ¬ n < 0) (cap : Nat) (hcap : n.toNatClampNeg ≤ cap) (hbb : cap * 8 ≤ 536870912) (hc : cells + 1 ≤ R.cells) (hl : slots + cap ≤ R.slots)
    (k : ∀ h' a kA, a = h.size → Ext h h' → Ars Z h' a kA (.object K) (List.replicate n.toNatClampNeg .null) → Ovr Z kA K → Wk p l e R s m args below meth c n0 Q h' (cells + 1) (slots + cap) (mkF m q ls (.ref a :: rest))) : Wk p l e R s m args below meth c n0 Q h cells slots (mkF m pc ls (.int n :: rest)) := by
  subst hq
  intro T locs X eT N
  obtain ⟨T', h', cA, X', e', E, A, O, st⟩ := newR X C.1 C.2.1 C.2.2.2.2.1 w w2 eT (g := mkF m pc ls (.int n :: rest)) rfl (hb C.2.2.1 hd) rfl hn hcap hbb hc hl
  obtain ⟨U, o, h1, r⟩ := k h' h.size cA rfl E (Ars.of_new hn A) O T' locs X' e' N
  exact ⟨U, o, st U h1, r⟩
theorem Ars.lt {a : Addr} {kA : ClassId} {ty : FieldType} {vs : List Value} (F : Ars Z h a kA ty vs) : a < h.size := by obtain ⟨_, A, -⟩ := F; exact A.lt
theorem Ars.ext {h' : Heap} {a : Addr} {kA : ClassId} {ty : FieldType} {vs : List Value} (F : Ars Z h a kA ty vs) (E : Ext h h') : Ars Z h' a kA ty vs := by obtain ⟨cl, A, r⟩ := F; exact ⟨cl, A.ext E, r⟩
theorem Ars.other {h' : Heap} {a b : Addr} {sl : Nat} {v : Value} {kA : ClassId} {ty : FieldType} {vs : List Value} (F : Ars Z h b kA ty vs) (W : Wr h h' a sl v) (q : b ≠ a) : Ars Z h' b kA ty vs := by obtain ⟨cl, A, r⟩ := F; exact ⟨cl, A.other W q, r⟩
theorem Ars.keep {h' : Heap} {a : Addr} {ws : List Addr} {kA : ClassId} {ty : FieldType} {vs : List Value} (F : Ars Z h a kA ty vs) (K : Keep h h' ws) (q : a ∉ ws) : Ars Z h' a kA ty vs := by obtain ⟨cl, A, r⟩ := F; exact ⟨cl, ⟨K.2.1 a cl A.1 q, A.2⟩, r⟩
theorem Ars.set {h' : Heap} {a : Addr} {j : Nat} {v : Value} {kA : ClassId} {ty : FieldType} {vs : List Value} (F : Ars Z h a kA ty vs) (W : Wr h h' a j v) : Ars Z h' a kA ty (vs.set j v) := by
  obtain ⟨cl, A, r1, r2, r3⟩ := F
  refine ⟨_, A.same W, r1, ?_, by simpa using r3⟩
  simp [Cell.setSlot, r2]
theorem Ars.inb {a : Addr} {kA : ClassId} {ty : FieldType} {vs : List Value} {cl : Cell} (r2 : cl.slots = vs.toArray) {j : Int32} {v : Value} (hj : ¬ j < 0) (hv : vs[j.toNatClampNeg]? = some v) : ¬ (j < 0 ∨ cl.slots.size ≤ j.toNatClampNeg) := by
  intro q
  rcases q with q | q
  · exact hj q
  · rw [r2] at q
    have := (List.getElem?_eq_some_iff.mp hv).1
    simp at q
    omega
theorem w_aaload (C : Cx p s m meth c Z own nm bytes maxL ret) {pc q : Nat} {ls : Array Slot} {rest : List Value} {a : Addr} {kA : ClassId} {ty : FieldType} {vs : List Value} (F : Ars Z h a kA ty vs) (hty : ty.isReference = true) {j : Int32} (v : Value) (hj : ¬ j < 0) (hv : vs[j.toNatClampNeg]? = some v) (hd : decode bytes pc = .ok (.aaload, 1)) (hq : pc + 1 = q) (k : Wk p l e R s m args below meth c n0 Q h cells slots (mkF m q ls (v :: rest))) : Wk p l e R s m args below meth c n0 Q h cells slots (mkF m pc ls (.int j :: .ref a :: rest)) := by
  subst hq
  obtain ⟨cl, A, r1, r2, r3⟩ := F
  intro T locs X eT N
  obtain ⟨U, o, h1, r⟩ := k T locs X eT N
  exact ⟨U, o, X.aaload C.1 (by rw [eT]; exact A.1) (State.isArrayOf_alike C.2.1.alike A.2.1) hty A.2.2 (Ars.inb (a := a) (kA := kA) (ty := ty) r2 hj hv) (by rw [r2]; simpa using hv) (g := mkF m pc ls (.int j :: .ref a :: rest)) rfl rfl (hb C.2.2.1 hd) U h1, r⟩
theorem w_arraylength (C : Cx p s m meth c Z own nm bytes maxL ret) {pc q : Nat} {ls : Array Slot} {rest : List Value} {a : Addr} {kA : ClassId} {ty : FieldType} {vs : List Value} (F : Ars Z h a kA ty vs) (n : Int32) (hn : vs.length.toInt32 = n) (hd : decode bytes pc = .ok (.arraylength, 1)) (hq : pc + 1 = q) (k : Wk p l e R s m args below meth c n0 Q h cells slots (mkF m q ls (.int n :: rest))) : Wk p l e R s m args below meth c n0 Q h cells slots (mkF m pc ls (.ref a :: rest)) := by
  subst hq
  obtain ⟨cl, A, r1, r2, r3⟩ := F
  intro T locs X eT N
  obtain ⟨U, o, h1, r⟩ := k T locs X eT N
  refine ⟨U, o, X.arraylength C.1 (by rw [eT]; exact A.1) (State.isArrayOf_alike C.2.1.alike A.2.1) (g := mkF m pc ls (.ref a :: rest)) rfl rfl (hb C.2.2.1 hd) U ?_, r⟩
  have e2 : cl.slots.size.toInt32 = n := by rw [r2]; simpa using hn
  rw [e2]; exact h1
theorem w_aastore (C : Cx p s m meth c Z own nm bytes maxL ret) {pc q : Nat} {ls : Array Slot} {rest : List Value} {a : Addr} {kA : ClassId} {ty : FieldType} {vs : List Value} (F : Ars Z h a kA ty vs) (hty : ty.isReference = true) {j : Int32} {v : Value} (S : Sto Z h a v) (hj : ¬ j < 0) (hv : j.toNatClampNeg < vs.length) (hd : decode bytes pc = .ok (.aastore, 1)) (hq : pc + 1 = q) (ha : n0 ≤ a)
    (k : ∀ h', Wr h h' a j.toNatClampNeg v → Ars Z h' a kA ty (vs.set j.toNatClampNeg v) → Wk p l e R s m args below meth c n0 Q h' cells slots (mkF m q ls rest)) : Wk p l e R s m args below meth c n0 Q h cells slots (mkF m pc ls (v :: .int j :: .ref a :: rest)) := by
  subst hq
  have F' := F
  obtain ⟨cl, A, r1, r2, r3⟩ := F
  intro T locs X eT N
  obtain ⟨T', h', X', e', W, st⟩ := stR X C.1 C.2.1 eT A (j := j) (Ars.inb (a := a) (kA := kA) (ty := ty) r2 hj (List.getElem?_eq_getElem hv)) hty S (g := mkF m pc ls (v :: .int j :: .ref a :: rest)) rfl rfl (hb C.2.2.1 hd)
  obtain ⟨U, o, h1, r⟩ := k h' W (F'.set W) T' _ X' e' (Fr.snoc X' N ha)
  exact ⟨U, o, st U h1, r⟩
theorem Ars.sto {a y : Addr} {kA : ClassId} {ty : FieldType} {vs : List Value} {K : String} (F : Ars Z h a kA ty vs) (O : Ovr Z kA K) (I : Ins Z h y K true) : Sto Z h a (.ref y) := by obtain ⟨cl, A, r1, -⟩ := F; exact Sto.ofV A r1 O I
/-! calls -/
theorem w_initO (C : Cx p s m meth c Z own nm bytes maxL ret) {pc q : Nat} {ls : Array Slot} {rest : List Value} {i : Nat} (w1 : (Jvm.Cond.methodLink own i Lib.objectInit).before a0 Z = true) (w2 : (Jvm.Cond.instanceMethod Lib.objectInit).before a0 Z = true) (w3 : (Jvm.Cond.code Lib.objectInit ⟨#[0xb1]⟩ 1 none).before a0 Z = true) {a : Addr} (hd : decode bytes pc = .ok (.invokespecial i, 3)) (hq : pc + 3 = q) (hsz : ls.size = maxL)
    (hf : 1 ≤ R.frames) (hl : (rest.map fun v => v.category).sum + 12 ≤ R.locals) (k : Wk p l e R s m args below meth c n0 Q h cells slots (mkF m q ls rest)) : Wk p l e R s m args below meth c n0 Q h cells slots (mkF m pc ls (.ref a :: rest)) := by
  subst hq
  intro T locs X eT N
  obtain ⟨T', X', e', st⟩ := initO X C.1 C.2.1 C.2.2.2.2.1 w1 w2 w3 eT (g := mkF m pc ls (.ref a :: rest)) rfl (by rw [C.2.2.2.1]; exact hsz) rfl (hb C.2.2.1 hd) hf (W := (rest.map fun v => v.category).sum) (by show 2 * 0 + _ ≤ _; omega) hl
  obtain ⟨U, o, h1, r⟩ := k T' locs X' e' N
  exact ⟨U, o, st U h1, r⟩
theorem w_static (C : Cx p s m meth c Z own nm bytes maxL ret) {pc q : Nat} {ls : Array Slot} {rest : List Value} {y : MethodName} {yb : ByteArray} {yL : Nat} {yr : Option FieldType} {rm : Room} {i : Nat} {Qc : Option Value → Heap → Prop} {argsL : List Value} (w1 : (Jvm.Cond.methodLink own i y).before a0 Z = true) (w2 : (Jvm.Cond.static y).before a0 Z = true) (w3 : (Jvm.Cond.initialized y.cls).before a0 Z = true) (w4 : (Jvm.Cond.code y yb yL yr).before a0 Z = true) (hM : Met1 l Z y yb yL yr rm argsL.toArray h n0 Qc)
    (hy : y.cls ≠ "java/lang/invoke/MethodHandle" ∧ y.cls ≠ "java/lang/invoke/VarHandle") {st : List Value} (hlen : ∀ sig, parseMethodDescriptor y.desc = some sig → argsL.length = sig.parameters.length) (hst : st = argsL.reverse ++ rest) (hd : decode bytes pc = .ok (.invokestatic i, 3)) (hq : pc + 3 = q) (hsz : ls.size = maxL)
    (hf : rm.frames + 1 ≤ R.frames) (hl : (rest.map fun v => v.category).sum + (yL + 11) + rm.locals ≤ R.locals) (hc : cells + rm.cells ≤ R.cells) (hs : slots + rm.slots ≤ R.slots)
    (k : ∀ v h', Qc v h' → Wk p l e R s m args below meth c n0 Q h' (cells + rm.cells) (slots + rm.slots) (mkF m q ls (v.toList ++ rest))) : Wk p l e R s m args below meth c n0 Q h cells slots (mkF m pc ls st) := by
  subst hq
  intro T locs X eT N
  obtain ⟨v, _, ⟨T', L', k', n'⟩, -, X', ⟨Lc, hQ, l', y', z'⟩, stp⟩ := Jvm.LawKit.callS X C.1 (y := y) C.2.2.2.2.1 (mvT C.2.1 w1) (mvT C.2.1 w2) (mvT C.2.1 w3) (mvT C.2.1 w4) hy (backOf (Q := fun v h L => Qc v h ∧ Fr n0 L) (W := (rest.map fun v => v.category).sum) (hM []) C.2.1 w4 w3 hf hl) (g := mkF m pc ls st) rfl (by rw [C.2.2.2.1]; exact hsz) (argsL := argsL) (rest := rest) hlen hst (by show 2 * 0 + _ ≤ _; omega) (hb C.2.2.1 hd) (fun _ _ => ⟨rfl, eT, hc, hs⟩)
  dsimp only [Pt.U, Pt.locs, Pt.cells, Pt.slots] at X' l' y' z' stp hQ
  subst l' y' z'
  obtain ⟨U, o, h1, r⟩ := k v T'.heap hQ.1 T' _ X' rfl (Fr.app N hQ.2)
  exact ⟨U, o, stp U h1, r⟩
theorem w_special (C : Cx p s m meth c Z own nm bytes maxL ret) {pc q : Nat} {ls : Array Slot} {rest : List Value} {y : MethodName} {yb : ByteArray} {yL : Nat} {rm : Room} {i : Nat} {Qc : Option Value → Heap → Prop} {a : Addr} {argsL : List Value} (hy1 : y.name = "<init>") (w1 : (Jvm.Cond.methodLink own i y).before a0 Z = true) (w2 : (Jvm.Cond.instanceMethod y).before a0 Z = true) (w3 : (Jvm.Cond.initialized y.cls).before a0 Z = true) (w4 : (Jvm.Cond.code y yb yL none).before a0 Z = true) (hM : Met1 l Z y yb yL none rm (.ref a :: argsL).toArray h n0 Qc)
    (hy : y.cls ≠ "java/lang/invoke/MethodHandle" ∧ y.cls ≠ "java/lang/invoke/VarHandle") {st : List Value} (hlen : ∀ sig, parseMethodDescriptor y.desc = some sig → argsL.length = sig.parameters.length) (hst : st = argsL.reverse ++ .ref a :: rest) (hd : decode bytes pc = .ok (.invokespecial i, 3)) (hq : pc + 3 = q) (hsz : ls.size = maxL)
    (hf : rm.frames + 1 ≤ R.frames) (hl : (rest.map fun v => v.category).sum + (yL + 11) + rm.locals ≤ R.locals) (hc : cells + rm.cells ≤ R.cells) (hs : slots + rm.slots ≤ R.slots)
    (k : ∀ v h', Qc v h' → Wk p l e R s m args below meth c n0 Q h' (cells + rm.cells) (slots + rm.slots) (mkF m q ls (v.toList ++ rest))) : Wk p l e R s m args below meth c n0 Q h cells slots (mkF m pc ls st) := by
  subst hq
  intro T locs X eT N
  obtain ⟨v, _, ⟨T', L', k', n'⟩, -, X', ⟨Lc, hQ, l', y', z'⟩, stp⟩ := X.specialBack C.1 (y := y) hy1 C.2.2.2.2.1 (mvT C.2.1 w1) (mvT C.2.1 w2) (mvT C.2.1 w4) hy (backOf (Q := fun v h L => Qc v h ∧ Fr n0 L) (W := (rest.map fun v => v.category).sum) (hM []) C.2.1 w4 w3 hf hl) (g := mkF m pc ls st) rfl (by rw [C.2.2.2.1]; exact hsz) (Steps.refl _) (a := a) (argsL := argsL) (rest := rest) hlen hst (by show 2 * 0 + _ ≤ _; omega) (hb C.2.2.1 hd) (fun _ _ => ⟨rfl, eT, hc, hs⟩)
  dsimp only [Pt.U, Pt.locs, Pt.cells, Pt.slots] at X' l' y' z' stp hQ
  subst l' y' z'
  obtain ⟨U, o, h1, r⟩ := k v T'.heap hQ.1 T' _ X' rfl (Fr.app N hQ.2)
  exact ⟨U, o, stp.trans h1, r⟩
theorem w_virtual (C : Cx p s m meth c Z own nm bytes maxL ret) {pc q : Nat} {ls : Array Slot} {rest : List Value} {K : String} {y z : MethodName} {yb : ByteArray} {yL : Nat} {yr : Option FieldType} {rm : Room} {i : Nat} {Qc : Option Value → Heap → Prop} {a : Addr} {argsL : List Value} (w1 : (Jvm.Cond.methodLink own i y).before a0 Z = true) (w2 : (Jvm.Cond.declares y).before a0 Z = true) (w5 : (Jvm.Cond.selects y.cls y y).before a0 Z = true) (w6 : (Jvm.Cond.selects K y z).before a0 Z = true) (w7 : (Jvm.Cond.instanceMethod z).before a0 Z = true) (w3 : (Jvm.Cond.initialized z.cls).before a0 Z = true) (w4 : (Jvm.Cond.code z yb yL yr).before a0 Z = true) (E : Exa Z h a K) (hM : Met1 l Z z yb yL yr rm (.ref a :: argsL).toArray h n0 Qc)
    (hy : y.cls ≠ "java/lang/invoke/MethodHandle" ∧ y.cls ≠ "java/lang/invoke/VarHandle") {st : List Value} (hlen : ∀ sig, parseMethodDescriptor y.desc = some sig → argsL.length = sig.parameters.length) (hst : st = argsL.reverse ++ .ref a :: rest) (hd : decode bytes pc = .ok (.invokevirtual i, 3)) (hq : pc + 3 = q) (hsz : ls.size = maxL)
    (hf : rm.frames + 1 ≤ R.frames) (hl : (rest.map fun v => v.category).sum + (yL + 11) + rm.locals ≤ R.locals) (hc : cells + rm.cells ≤ R.cells) (hs : slots + rm.slots ≤ R.slots)
    (k : ∀ v h', Qc v h' → Wk p l e R s m args below meth c n0 Q h' (cells + rm.cells) (slots + rm.slots) (mkF m q ls (v.toList ++ rest))) : Wk p l e R s m args below meth c n0 Q h cells slots (mkF m pc ls st) := by
  subst hq
  intro T locs X eT N
  obtain ⟨cq, kq, q1, -, q3⟩ := isOf C.2.1 eT E
  obtain ⟨v, _, ⟨T', L', k', n'⟩, -, X', ⟨Lc, hQ, l', y', z'⟩, stp⟩ := X.virtualBack C.1 (y := y) (z := z) C.2.2.2.2.1 (mvT C.2.1 w1) (mvT C.2.1 w2) (notFace_of_selects (args := #[]) (mvT C.2.1 w5)) (mvT C.2.1 w6) (mvT C.2.1 w7) hy (backOf (Q := fun v h L => Qc v h ∧ Fr n0 L) (W := (rest.map fun v => v.category).sum) (hM []) C.2.1 w4 w3 hf hl) q1 q3 (g := mkF m pc ls st) rfl (by rw [C.2.2.2.1]; exact hsz) (Steps.refl _) (argsL := argsL) (rest := rest) hlen hst (by show 2 * 0 + _ ≤ _; omega) (hb C.2.2.1 hd) (fun _ _ => ⟨rfl, eT, hc, hs⟩)
  dsimp only [Pt.U, Pt.locs, Pt.cells, Pt.slots] at X' l' y' z' stp hQ
  subst l' y' z'
  obtain ⟨U, o, h1, r⟩ := k v T'.heap hQ.1 T' _ X' rfl (Fr.app N hQ.2)
  exact ⟨U, o, stp.trans h1, r⟩
theorem w_private (C : Cx p s m meth c Z own nm bytes maxL ret) {pc q : Nat} {ls : Array Slot} {rest : List Value} {y : MethodName} {yb : ByteArray} {yL : Nat} {yr : Option FieldType} {rm : Room} {i : Nat} {Qc : Option Value → Heap → Prop} {K : String} {a : Addr} {argsL : List Value} (w1 : (Jvm.Cond.methodLink own i y).before a0 Z = true) (w2 : (Jvm.Cond.instanceMethod y).before a0 Z = true) (w5 : (Jvm.Cond.selects y.cls y y).before a0 Z = true) (w6 : (Jvm.Cond.privateMethod y).before a0 Z = true) (w3 : (Jvm.Cond.initialized y.cls).before a0 Z = true) (w4 : (Jvm.Cond.code y yb yL yr).before a0 Z = true) (E : Exa Z h a K) (hM : Met1 l Z y yb yL yr rm (.ref a :: argsL).toArray h n0 Qc)
    (hy : y.cls ≠ "java/lang/invoke/MethodHandle" ∧ y.cls ≠ "java/lang/invoke/VarHandle") {st : List Value} (hlen : ∀ sig, parseMethodDescriptor y.desc = some sig → argsL.length = sig.parameters.length) (hst : st = argsL.reverse ++ .ref a :: rest) (hd : decode bytes pc = .ok (.invokevirtual i, 3)) (hq : pc + 3 = q) (hsz : ls.size = maxL)
    (hf : rm.frames + 1 ≤ R.frames) (hl : (rest.map fun v => v.category).sum + (yL + 11) + rm.locals ≤ R.locals) (hc : cells + rm.cells ≤ R.cells) (hs : slots + rm.slots ≤ R.slots)
    (k : ∀ v h', Qc v h' → Wk p l e R s m args below meth c n0 Q h' (cells + rm.cells) (slots + rm.slots) (mkF m q ls (v.toList ++ rest))) : Wk p l e R s m args below meth c n0 Q h cells slots (mkF m pc ls st) := by
  subst hq
  intro T locs X eT N
  obtain ⟨cq, q1, q2⟩ := E.cell
  obtain ⟨v, _, ⟨T', L', k', n'⟩, -, X', ⟨Lc, hQ, l', y', z'⟩, stp⟩ := X.privateBack C.1 (y := y) C.2.2.2.2.1 (mvT C.2.1 w1) (mvT C.2.1 w2) (mvT C.2.1 w5) (Cond.privateMethod_at (mvP C.2.1 w6 (args := #[]))) (mvT C.2.1 w4) hy (backOf (Q := fun v h L => Qc v h ∧ Fr n0 L) (W := (rest.map fun v => v.category).sum) (hM []) C.2.1 w4 w3 hf hl) (g := mkF m pc ls st) rfl (by rw [C.2.2.2.1]; exact hsz) (Steps.refl _) (a := a) (by rw [eT]; exact q1) q2 (argsL := argsL) (rest := rest) hlen hst (by show 2 * 0 + _ ≤ _; omega) (hb C.2.2.1 hd) (fun _ _ => ⟨rfl, eT, hc, hs⟩)
  dsimp only [Pt.U, Pt.locs, Pt.cells, Pt.slots] at X' l' y' z' stp hQ
  subst l' y' z'
  obtain ⟨U, o, h1, r⟩ := k v T'.heap hQ.1 T' _ X' rfl (Fr.app N hQ.2)
  exact ⟨U, o, stp.trans h1, r⟩
theorem w_getFR (C : Cx p s m meth c Z own nm bytes maxL ret) {pc q : Nat} {ls : Array Slot} {rest : List Value} {O n d : String} {i : Nat} (w : (Jvm.Cond.fieldRef own i O n d).before a0 Z = true) {a : Addr} {v : Value} (F : Fld Z h a O n d v) (hd : decode bytes pc = .ok (.getfield i, 3)) (hq : pc + 3 = q)
    (k : Wk p l e R s m args below meth c n0 Q h cells slots (mkF m q ls (v :: rest))) : Wk p l e R s m args below meth c n0 Q h cells slots (mkF m pc ls (.ref a :: rest)) := by
  subst hq
  intro T locs X eT N
  obtain ⟨U, o, h1, r⟩ := k T locs X eT N
  refine ⟨U, o, ?_, r⟩
  obtain ⟨cell, cf, kf, ix, f, f1, f2, f3, f4, -, -, f7⟩ := F
  have hU : Z.Warmed39 T.vm := wtrans C.2.1 X.warmed
  have hcur : (Z.setVm T.vm).vm.findClass own = some m.cls := by show T.vm.findClass own = _; rw [X.warmed.alike.findClass]; exact C.2.2.2.2.1
  obtain ⟨c', k', i', f', q1, q2⟩ := Cond.fieldRef_spec hcur (Cond.fieldRef_warmed39 hU w)
  obtain ⟨k'', q3, -⟩ := State.fieldFound?_setVm (s := Z) hU.alike f2
  cases q1.symm.trans q3
  have hd' := hb C.2.2.1 hd
  have hx := C.1
  jvm_step X.here [hx, hd', getfield.wp_ready (e := e) (s := T) (f := mkF m pc ls (.ref a :: rest)) X.here.top q2 f3 rfl (by rw [eT]; exact f1) f4 f7]
  exact h1
theorem w_putFR (C : Cx p s m meth c Z own nm bytes maxL ret) {pc q : Nat} {ls : Array Slot} {rest : List Value} {O n d K : String} {i kk : Nat} {ty : FieldType} (w : (Jvm.Cond.fieldRef own i O n d).before a0 Z = true) {a : Addr} {v old : Value} (F : Fld Z h a O n d old) (E : Exa Z h a K)
    (L : (Jvm.Cond.lays K O n d).before a0 Z = true) (wi : (Jvm.Cond.instantiable K kk).before a0 Z = true) (hty : parseFieldDescriptor d = some ty) (hn : narrow ty v = v) (hf : fits ty v = true) (hd : decode bytes pc = .ok (.putfield i, 3)) (hq : pc + 3 = q) (ha : n0 ≤ a)
    (k : ∀ h', Wr h h' a (Jvm.RoadKit.slotOf Z O n d) v → Wk p l e R s m args below meth c n0 Q h' cells slots (mkF m q ls rest)) : Wk p l e R s m args below meth c n0 Q h cells slots (mkF m pc ls (v :: .ref a :: rest)) := by
  subst hq
  intro T locs X eT N
  obtain ⟨cell, cf, kf, ix, f, f1, f2, f3, f4, f5, -, f7⟩ := F
  have hU : Z.Warmed39 T.vm := wtrans C.2.1 X.warmed
  have hcur : (Z.setVm T.vm).vm.findClass own = some m.cls := by show T.vm.findClass own = _; rw [X.warmed.alike.findClass]; exact C.2.2.2.2.1
  obtain ⟨c', k', i', f', q1, q2⟩ := Cond.fieldRef_spec hcur (Cond.fieldRef_warmed39 hU w)
  obtain ⟨k'', q3, -⟩ := State.fieldFound?_setVm (s := Z) hU.alike f2
  cases q1.symm.trans q3
  obtain ⟨cell', kc, e1, e2, e3, -⟩ := E
  cases f1.symm.trans e1
  obtain ⟨c1, k1, cf1, kf1, i1, g1, a1, a2, a3, -, -, a6, -⟩ := Laid.spec (Or.inl L)
  cases f2.symm.trans a3
  cases e2.symm.trans a1
  obtain ⟨c2, k2, j1, j2, j3, -⟩ := Cond.instantiable_spec wi
  cases e2.symm.trans j1
  cases a2.symm.trans j2
  have ht := (State.fieldFound?_type f2 hty).2
  have hfit : Z.fitsSlot cell.cls cell.vm f.slot v = true := by
    have q : Z.slotType? cell.cls cell.vm f.slot = some ty := by
      simp only [State.slotType?, a2, Option.bind_eq_bind, Option.bind_some, j3]
      cases hq : cell.vm <;> first | (rw [hq] at f5; exact Bool.noConfusion f5) | (rw [a6, ht])
    simp [State.fitsSlot, q, hf]
  have hfit' : T.fitsSlot cell.cls cell.vm f.slot v = true := by rw [← State.fitsSlot_setVm hU.alike] at hfit; exact hfit
  have hfin : hasFlag f.accessFlags Acc.final = false := by
    obtain ⟨_, _, _, _, _, _, -, -, b3, -, b5, -⟩ := Cond.lays_spec L
    cases f2.symm.trans b3
    exact b5
  have hlt := (Array.getElem?_eq_some_iff.mp f7).1
  have es : Jvm.RoadKit.slotOf Z O n d = f.slot := by simp [Jvm.RoadKit.slotOf, f2]
  rw [es] at k
  obtain ⟨X', st⟩ := X.putfieldReady C.1 q2 f3 (Or.inl hfin) (by rw [eT]; exact f1) f4 hlt (by rw [ht]; exact hn) hfit' (g := mkF m pc ls (v :: .ref a :: rest)) rfl rfl (hb C.2.2.1 hd)
  obtain ⟨U, o, h1, r⟩ := k _ ⟨cell, f1, f5, hlt, rfl⟩ _ _ X' (by rw [← eT]; rfl) (Fr.snoc X' N ha)
  exact ⟨U, o, st U h1, r⟩
theorem w_specialR (C : Cx p s m meth c Z own nm bytes maxL ret) {pc q : Nat} {ls : Array Slot} {rest : List Value} {y : MethodName} {yb : ByteArray} {yL : Nat} {rm : Room} {i : Nat} {Qc : Option Value → Heap → Prop} {a : Addr} {argsL : List Value} (hy1 : y.name = "<init>") (w1 : (Jvm.Cond.methodRef own i y).before a0 Z = true) (w2 : (Jvm.Cond.instanceMethod y).before a0 Z = true) (w3 : (Jvm.Cond.initialized y.cls).before a0 Z = true) (w4 : (Jvm.Cond.code y yb yL none).before a0 Z = true) (hM : Met1 l Z y yb yL none rm (.ref a :: argsL).toArray h n0 Qc)
    (hy : y.cls ≠ "java/lang/invoke/MethodHandle" ∧ y.cls ≠ "java/lang/invoke/VarHandle") {st : List Value} (hlen : ∀ sig, parseMethodDescriptor y.desc = some sig → argsL.length = sig.parameters.length) (hst : st = argsL.reverse ++ .ref a :: rest) (hd : decode bytes pc = .ok (.invokespecial i, 3)) (hq : pc + 3 = q) (hsz : ls.size = maxL)
    (hf : rm.frames + 1 ≤ R.frames) (hl : (rest.map fun v => v.category).sum + (yL + 11) + rm.locals ≤ R.locals) (hc : cells + rm.cells ≤ R.cells) (hs : slots + rm.slots ≤ R.slots)
    (k : ∀ v h', Qc v h' → Wk p l e R s m args below meth c n0 Q h' (cells + rm.cells) (slots + rm.slots) (mkF m q ls (v.toList ++ rest))) : Wk p l e R s m args below meth c n0 Q h cells slots (mkF m pc ls st) := by
  subst hq
  intro T locs X eT N
  have w2' : (Jvm.Cond.instanceMethod y).before a0 s = true := mvT C.2.1 w2
  have w4' : (Jvm.Cond.code y yb yL none).before a0 s = true := mvT C.2.1 w4
  obtain ⟨obj, methO, hnO, hmO, hstO, habO⟩ := Cond.instanceMethod_spec w2'
  obtain ⟨methO', cO, hmO', hcO, hbO, hlO, -, hlockO, -, hsigO⟩ := Cond.code_spec hnO w4'
  cases hmO.symm.trans hmO'
  obtain ⟨kO, hkO, hnameO⟩ := className_of_methodNamed hnO
  obtain ⟨hnameMO, hdescO⟩ := name_of_methodNamed hnO hmO
  have hU : Z.Warmed39 T.vm := wtrans C.2.1 X.warmed
  obtain ⟨objZ, methZ, hnZ, -, -, -⟩ := Cond.instanceMethod_spec w2
  have hcur : (Z.setVm T.vm).vm.findClass own = some m.cls := by show T.vm.findClass own = _; rw [X.warmed.alike.findClass]; exact C.2.2.2.2.1
  obtain ⟨m', c', r1, r2, r3, r4⟩ := Cond.methodRef_named e hcur (Cond.methodRef_warmed39 hU hnZ hy w1)
  have hnT : T.methodNamed? y = some obj := X.named hnO
  have hfT : (Z.setVm T.vm).methodFound? y.cls y.name y.desc = some obj := State.methodFound?_of_named (s := Z.setVm T.vm) hnT hy
  cases r1.symm.trans hfT
  have hcO' : c' = obj.cls := Option.some.inj (r3.symm.trans (findClass_of_methodNamed (s := Z.setVm T.vm) hnT))
  subst hcO'
  have hmT : T.vm.method? obj = some methO := by rw [X.warmed.alike.method?]; exact hmO
  obtain ⟨kT, hkT, -⟩ := X.warmed.alike.2.2 _ _ hkO
  have hfound : lookupSpecial T.vm obj.cls "<init>" methO.desc = .method obj := by
    rw [X.warmed.alike.lookupSpecial, hdescO, ← hy1]; exact lookupSpecial_of_named hnO hmO hstO
  have hK := backOf (len := 3) (args := args) (p := p) (e := e) (below := below) (R := R) (Q := fun v h L => Qc v h ∧ Fr n0 L) (W := (rest.map fun v => v.category).sum) (hM []) C.2.1 w4 w3 hf hl
  obtain ⟨v, ⟨T', L', k', n'⟩, X', ⟨Lc, hQ, l', y', z'⟩, hsteps⟩ := hK m meth c ⟨T, locs, cells, slots⟩ (mkF m pc ls rest) (.invokespecial i) obj (.ref a :: argsL).toArray X rfl (by rw [C.2.2.2.1]; exact hsz) (hb C.2.2.1 hd) (by show 2 * 0 + (rest.map fun v => v.category).sum ≤ _; omega) hnT ⟨rfl, eT, hc, hs⟩
  dsimp only [Pt.U, Pt.locs, Pt.cells, Pt.slots] at X' l' y' z' hsteps hQ
  subst l' y' z'
  obtain ⟨U, o, h1, r⟩ := k v T'.heap hQ.1 T' _ X' rfl (Fr.app N hQ.2)
  refine ⟨U, o, ?_, r⟩
  have hd' := hb C.2.2.1 hd
  have hx := C.1
  jvm_step X.here [hx, hd', invokespecial.wp_init (e := e) (s := T) (k := kT) (meth := methO) (m := obj) (a := a) (args := argsL) (rest := rest) (f := mkF m pc ls st) X.here.top r4 r2 hkT hmT (by rw [hnameMO]; exact hy1) hstO habO hfound (hlen _ hsigO) hst]
  first | (intro acts; rw [doInvoke_state]; exact hsteps.trans h1) | (rw [doInvoke_state]; exact hsteps.trans h1) | exact hsteps.trans h1
theorem sel_private {y : MethodName} {n : Nat} (hy : y.cls ≠ "java/lang/invoke/MethodHandle" ∧ y.cls ≠ "java/lang/invoke/VarHandle") (hins : (Jvm.Cond.instantiable y.cls n).before a0 Z = true) (hpriv : (Jvm.Cond.privateMethod y).before a0 Z = true) (hinst : (Jvm.Cond.instanceMethod y).before a0 Z = true) :
    (Jvm.Cond.selects y.cls y y).before a0 Z = true := by
  obtain ⟨c, k, hc, hk, -, hniab, -, -⟩ := Cond.instantiable_spec hins
  exact selects_self_of_private hc hk (Bool.or_eq_false_iff.mp hniab).1 (Cond.privateMethod_at hpriv) hinst hy
/-! returns -/
theorem w_retN (C : Cx p s m meth c Z own nm bytes maxL (some .boolean)) {pc : Nat} {ls : Array Slot} {rest : List Value} {z : Int32} (hd : decode bytes pc = .ok (.ireturn, 1)) (hc : cells ≤ R.cells) (hs : slots ≤ R.slots) (hq : Q (some (.int (z &&& 1))) h) : Wk p l e R s m args below meth c n0 Q h cells slots (mkF m pc ls (.int z :: rest)) := fun T locs X eT N => by
  have hlk := C.2.2.2.2.2.2.2
  obtain ⟨fs, hr, hrun, hended, hW, hsame⟩ := X.leave (v := some (.int (nar .boolean z))) (fun q => by rw [C.2.2.2.2.2.2.1] at q; cases q) hlk
  exact ⟨_, _, retN X C.1 (t := .boolean) C.2.2.2.2.2.2.1 (by simp) (hb C.2.2.1 hd) hr, hrun, hended, _, locs, rfl, ⟨by show Q _ T.heap; rw [eT]; exact hq, N⟩, ⟨_, rfl⟩, hW, hsame.mono hc hs⟩
theorem w_retI (C : Cx p s m meth c Z own nm bytes maxL (some .int)) {pc : Nat} {ls : Array Slot} {rest : List Value} {z : Int32} (hd : decode bytes pc = .ok (.ireturn, 1)) (hc : cells ≤ R.cells) (hs : slots ≤ R.slots) (hq : Q (some (.int z)) h) : Wk p l e R s m args below meth c n0 Q h cells slots (mkF m pc ls (.int z :: rest)) := fun T locs X eT N => by
  have hlk := C.2.2.2.2.2.2.2
  obtain ⟨fs, hr, hrun, hended, hW, hsame⟩ := X.leave (v := some (.int z)) (fun q => by rw [C.2.2.2.2.2.2.1] at q; cases q) hlk
  exact ⟨_, _, retOut X C.1 (t := .int) C.2.2.2.2.2.2.1 rfl (Or.inl ⟨rfl, Or.inl rfl, z, rfl⟩) (hb C.2.2.1 hd) hr, hrun, hended, _, locs, rfl, ⟨by show Q _ T.heap; rw [eT]; exact hq, N⟩, ⟨_, rfl⟩, hW, hsame.mono hc hs⟩
theorem w_retA {ty : FieldType} (C : Cx p s m meth c Z own nm bytes maxL (some ty)) {pc : Nat} {ls : Array Slot} {rest : List Value} {v : Value} (hty : ty.isReference = true) (hv : v.isRef = true) (hd : decode bytes pc = .ok (.areturn, 1)) (hc : cells ≤ R.cells) (hs : slots ≤ R.slots) (hq : Q (some v) h) : Wk p l e R s m args below meth c n0 Q h cells slots (mkF m pc ls (v :: rest)) := fun T locs X eT N => by
  have hlk := C.2.2.2.2.2.2.2
  have hn : narrow ty v = v := by rcases ref_cases hv with rfl | ⟨y, rfl⟩ <;> cases ty <;> first | rfl | cases hty
  obtain ⟨fs, hr, hrun, hended, hW, hsame⟩ := X.leave (v := some v) (fun q => by rw [C.2.2.2.2.2.2.1] at q; cases q) hlk
  exact ⟨_, _, retOut X C.1 (t := ty) C.2.2.2.2.2.2.1 hn (Or.inr (Or.inr (Or.inr (Or.inr ⟨rfl, hty, hv⟩)))) (hb C.2.2.1 hd) hr, hrun, hended, _, locs, rfl, ⟨by show Q _ T.heap; rw [eT]; exact hq, N⟩, ⟨_, rfl⟩, hW, hsame.mono hc hs⟩
theorem w_ret0 (C : Cx p s m meth c Z own nm bytes maxL none) {pc : Nat} {ls : Array Slot} (hd : decode bytes pc = .ok (.return_, 1)) (hc : cells ≤ R.cells) (hs : slots ≤ R.slots) (hq : Q none h) : Wk p l e R s m args below meth c n0 Q h cells slots (mkF m pc ls []) := fun T locs X eT N => by
  have hlk := C.2.2.2.2.2.2.2
  obtain ⟨fs, hr, hrun, hended, hW, hsame⟩ := X.leave (v := none) (fun _ => rfl) hlk
  exact ⟨_, _, X.returnOut C.1 C.2.2.2.2.2.2.1 (hb C.2.2.1 hd) hr, hrun, hended, _, locs, rfl, ⟨by show Q _ T.heap; rw [eT]; exact hq, N⟩, ⟨_, rfl⟩, hW, hsame.mono hc hs⟩
end Laws
end Jvm.Own
namespace Jvm.Pilot.@@N@@
open Jvm Jvm.ClassFile Sem Op Lib Jvm.Free Jvm.Stand Jvm.LawKit Jvm.RoadKit Bundle Jvm.Own Jvm.Pilot.@@N@@.Jvm.D
theorem pn_0 : plainName "com/example/orderly_dispatch/orderlydispatch/TimerQueueIsEmptyPinLaw" = true := by first | (simp [plainName, overriddenIn]; done) | decide +kernel
theorem pn_1 : plainName "com/example/orderly_dispatch/orderlydispatch/TimerQueue" = true := by first | (simp [plainName, overriddenIn]; done) | decide +kernel
theorem pn_3 : plainName "com/example/orderly_dispatch/orderlydispatch/TimerQueue" = true := by first | (simp [plainName, overriddenIn]; done) | decide +kernel
theorem pn_4 : plainName "com/example/orderly_dispatch/orderlydispatch/TimerQueue" = true := by first | (simp [plainName, overriddenIn]; done) | decide +kernel
theorem pn_5 : plainName "com/example/orderly_dispatch/orderlydispatch/TimerQueue$Timer" = true := by first | (simp [plainName, overriddenIn]; done) | decide +kernel
theorem pn_6 : plainName "com/example/orderly_dispatch/orderlydispatch/TimerQueue" = true := by first | (simp [plainName, overriddenIn]; done) | decide +kernel
theorem pn_7 : plainName "com/example/orderly_dispatch/orderlydispatch/TimerQueue" = true := by first | (simp [plainName, overriddenIn]; done) | decide +kernel
theorem pn_8 : plainName "com/example/orderly_dispatch/orderlydispatch/TimerQueue$Timer" = true := by first | (simp [plainName, overriddenIn]; done) | decide +kernel
theorem pn_9 : plainName "java/lang/Long" = true := by first | (simp [plainName, overriddenIn]; done) | decide +kernel
theorem pn_10 : plainName "com/example/orderly_dispatch/orderlydispatch/TimerQueue" = true := by first | (simp [plainName, overriddenIn]; done) | decide +kernel
theorem pn_11 : plainName "com/example/orderly_dispatch/orderlydispatch/TimerQueue$Timer" = true := by first | (simp [plainName, overriddenIn]; done) | decide +kernel
theorem pn_12 : plainName "com/example/orderly_dispatch/orderlydispatch/TimerQueue" = true := by first | (simp [plainName, overriddenIn]; done) | decide +kernel
theorem pn_13 : plainName "com/example/orderly_dispatch/orderlydispatch/TimerQueue" = true := by first | (simp [plainName, overriddenIn]; done) | decide +kernel
theorem pn_14 : plainName "java/util/ArrayList" = true := by first | (simp [plainName, overriddenIn]; done) | decide +kernel
theorem pn_15 : plainName "java/util/AbstractList" = true := by first | (simp [plainName, overriddenIn]; done) | decide +kernel
theorem pn_16 : plainName "java/util/AbstractCollection" = true := by first | (simp [plainName, overriddenIn]; done) | decide +kernel
theorem pn_17 : plainName "com/example/orderly_dispatch/orderlydispatch/TimerQueue" = true := by first | (simp [plainName, overriddenIn]; done) | decide +kernel
theorem pn_18 : plainName "java/lang/Long" = true := by first | (simp [plainName, overriddenIn]; done) | decide +kernel
theorem pn_19 : plainName "java/util/ArrayList" = true := by first | (simp [plainName, overriddenIn]; done) | decide +kernel
theorem pn_20 : plainName "java/util/ArrayList" = true := by first | (simp [plainName, overriddenIn]; done) | decide +kernel
theorem d1_0 : decode prog_25_method_1_code 0 = .ok (.aload_n 0, 1) := by decide +kernel
theorem d1_1 : decode prog_25_method_1_code 1 = .ok (.invokespecial 1, 3) := by decide +kernel
theorem d1_4 : decode prog_25_method_1_code 4 = .ok (.aload_n 0, 1) := by decide +kernel
theorem d1_5 : decode prog_25_method_1_code 5 = .ok (.bipush 16, 2) := by decide +kernel
theorem d1_7 : decode prog_25_method_1_code 7 = .ok (.anewarray 9, 3) := by decide +kernel
theorem d1_10 : decode prog_25_method_1_code 10 = .ok (.putfield 11, 3) := by decide +kernel
theorem d1_13 : decode prog_25_method_1_code 13 = .ok (.return_, 1) := by decide +kernel
theorem d3_0 : decode prog_25_method_9_code 0 = .ok (.aload_n 0, 1) := by decide +kernel
theorem d3_1 : decode prog_25_method_9_code 1 = .ok (.getfield 22, 3) := by decide +kernel
theorem d3_4 : decode prog_25_method_9_code 4 = .ok (.ifCond .ne 7, 3) := by decide +kernel
theorem d3_7 : decode prog_25_method_9_code 7 = .ok (.iconst 1, 1) := by decide +kernel
theorem d3_8 : decode prog_25_method_9_code 8 = .ok (.goto 4, 3) := by decide +kernel
theorem d3_11 : decode prog_25_method_9_code 11 = .ok (.iconst 0, 1) := by decide +kernel
theorem d3_12 : decode prog_25_method_9_code 12 = .ok (.ireturn, 1) := by decide +kernel
theorem d4_0 : decode prog_25_method_2_code 0 = .ok (.new 9, 3) := by decide +kernel
theorem d4_3 : decode prog_25_method_2_code 3 = .ok (.dup, 1) := by decide +kernel
theorem d4_4 : decode prog_25_method_2_code 4 = .ok (.aload_n 0, 1) := by decide +kernel
theorem d4_5 : decode prog_25_method_2_code 5 = .ok (.aload_n 1, 1) := by decide +kernel
theorem d4_6 : decode prog_25_method_2_code 6 = .ok (.lload_n 2, 1) := by decide +kernel
theorem d4_7 : decode prog_25_method_2_code 7 = .ok (.aload_n 0, 1) := by decide +kernel
theorem d4_8 : decode prog_25_method_2_code 8 = .ok (.dup, 1) := by decide +kernel
theorem d4_9 : decode prog_25_method_2_code 9 = .ok (.getfield 15, 3) := by decide +kernel
theorem d4_12 : decode prog_25_method_2_code 12 = .ok (.dup2_x1, 1) := by decide +kernel
theorem d4_13 : decode prog_25_method_2_code 13 = .ok (.lconst 1, 1) := by decide +kernel
theorem d4_14 : decode prog_25_method_2_code 14 = .ok (.ladd, 1) := by decide +kernel
theorem d4_15 : decode prog_25_method_2_code 15 = .ok (.putfield 15, 3) := by decide +kernel
theorem d4_18 : decode prog_25_method_2_code 18 = .ok (.invokespecial 19, 3) := by decide +kernel
theorem d4_21 : decode prog_25_method_2_code 21 = .ok (.astore 4, 2) := by decide +kernel
theorem d4_23 : decode prog_25_method_2_code 23 = .ok (.aload_n 0, 1) := by decide +kernel
theorem d4_24 : decode prog_25_method_2_code 24 = .ok (.getfield 22, 3) := by decide +kernel
theorem d4_27 : decode prog_25_method_2_code 27 = .ok (.aload_n 0, 1) := by decide +kernel
theorem d4_28 : decode prog_25_method_2_code 28 = .ok (.getfield 11, 3) := by decide +kernel
theorem d4_31 : decode prog_25_method_2_code 31 = .ok (.arraylength, 1) := by decide +kernel
theorem d4_32 : decode prog_25_method_2_code 32 = .ok (.if_icmp .ne 28, 3) := by decide +kernel
theorem d4_60 : decode prog_25_method_2_code 60 = .ok (.aload_n 0, 1) := by decide +kernel
theorem d4_61 : decode prog_25_method_2_code 61 = .ok (.aload_n 0, 1) := by decide +kernel
theorem d4_62 : decode prog_25_method_2_code 62 = .ok (.dup, 1) := by decide +kernel
theorem d4_63 : decode prog_25_method_2_code 63 = .ok (.getfield 22, 3) := by decide +kernel
theorem d4_66 : decode prog_25_method_2_code 66 = .ok (.dup_x1, 1) := by decide +kernel
theorem d4_67 : decode prog_25_method_2_code 67 = .ok (.iconst 1, 1) := by decide +kernel
theorem d4_68 : decode prog_25_method_2_code 68 = .ok (.iadd, 1) := by decide +kernel
theorem d4_69 : decode prog_25_method_2_code 69 = .ok (.putfield 22, 3) := by decide +kernel
theorem d4_72 : decode prog_25_method_2_code 72 = .ok (.aload 4, 2) := by decide +kernel
theorem d4_74 : decode prog_25_method_2_code 74 = .ok (.invokevirtual 33, 3) := by decide +kernel
theorem d4_77 : decode prog_25_method_2_code 77 = .ok (.aload 4, 2) := by decide +kernel
theorem d4_79 : decode prog_25_method_2_code 79 = .ok (.areturn, 1) := by decide +kernel
theorem d5_0 : decode prog_26_method_1_code 0 = .ok (.aload_n 0, 1) := by decide +kernel
theorem d5_1 : decode prog_26_method_1_code 1 = .ok (.aload_n 1, 1) := by decide +kernel
theorem d5_2 : decode prog_26_method_1_code 2 = .ok (.putfield 1, 3) := by decide +kernel
theorem d5_5 : decode prog_26_method_1_code 5 = .ok (.aload_n 0, 1) := by decide +kernel
theorem d5_6 : decode prog_26_method_1_code 6 = .ok (.invokespecial 7, 3) := by decide +kernel
theorem d5_9 : decode prog_26_method_1_code 9 = .ok (.aload_n 0, 1) := by decide +kernel
theorem d5_10 : decode prog_26_method_1_code 10 = .ok (.iconst (-1), 1) := by decide +kernel
theorem d5_11 : decode prog_26_method_1_code 11 = .ok (.putfield 13, 3) := by decide +kernel
theorem d5_14 : decode prog_26_method_1_code 14 = .ok (.aload_n 0, 1) := by decide +kernel
theorem d5_15 : decode prog_26_method_1_code 15 = .ok (.aload_n 2, 1) := by decide +kernel
theorem d5_16 : decode prog_26_method_1_code 16 = .ok (.putfield 17, 3) := by decide +kernel
theorem d5_19 : decode prog_26_method_1_code 19 = .ok (.aload_n 0, 1) := by decide +kernel
theorem d5_20 : decode prog_26_method_1_code 20 = .ok (.lload_n 3, 1) := by decide +kernel
theorem d5_21 : decode prog_26_method_1_code 21 = .ok (.putfield 21, 3) := by decide +kernel
theorem d5_24 : decode prog_26_method_1_code 24 = .ok (.aload_n 0, 1) := by decide +kernel
theorem d5_25 : decode prog_26_method_1_code 25 = .ok (.lload 5, 2) := by decide +kernel
theorem d5_27 : decode prog_26_method_1_code 27 = .ok (.putfield 25, 3) := by decide +kernel
theorem d5_30 : decode prog_26_method_1_code 30 = .ok (.return_, 1) := by decide +kernel
theorem d6_0 : decode prog_25_method_11_code 0 = .ok (.iload_n 1, 1) := by decide +kernel
theorem d6_1 : decode prog_25_method_11_code 1 = .ok (.istore_n 3, 1) := by decide +kernel
theorem d6_2 : decode prog_25_method_11_code 2 = .ok (.iload_n 3, 1) := by decide +kernel
theorem d6_3 : decode prog_25_method_11_code 3 = .ok (.ifCond .le 45, 3) := by decide +kernel
theorem d6_6 : decode prog_25_method_11_code 6 = .ok (.iload_n 3, 1) := by decide +kernel
theorem d6_7 : decode prog_25_method_11_code 7 = .ok (.iconst 1, 1) := by decide +kernel
theorem d6_8 : decode prog_25_method_11_code 8 = .ok (.isub, 1) := by decide +kernel
theorem d6_9 : decode prog_25_method_11_code 9 = .ok (.iconst 1, 1) := by decide +kernel
theorem d6_10 : decode prog_25_method_11_code 10 = .ok (.iushr, 1) := by decide +kernel
theorem d6_11 : decode prog_25_method_11_code 11 = .ok (.istore 4, 2) := by decide +kernel
theorem d6_13 : decode prog_25_method_11_code 13 = .ok (.aload_n 0, 1) := by decide +kernel
theorem d6_14 : decode prog_25_method_11_code 14 = .ok (.getfield 11, 3) := by decide +kernel
theorem d6_17 : decode prog_25_method_11_code 17 = .ok (.iload 4, 2) := by decide +kernel
theorem d6_19 : decode prog_25_method_11_code 19 = .ok (.aaload, 1) := by decide +kernel
theorem d6_20 : decode prog_25_method_11_code 20 = .ok (.aload_n 2, 1) := by decide +kernel
theorem d6_21 : decode prog_25_method_11_code 21 = .ok (.invokevirtual 92, 3) := by decide +kernel
theorem d6_24 : decode prog_25_method_11_code 24 = .ok (.ifCond .gt 6, 3) := by decide +kernel
theorem d6_27 : decode prog_25_method_11_code 27 = .ok (.goto 21, 3) := by decide +kernel
theorem d6_30 : decode prog_25_method_11_code 30 = .ok (.aload_n 0, 1) := by decide +kernel
theorem d6_31 : decode prog_25_method_11_code 31 = .ok (.iload_n 3, 1) := by decide +kernel
theorem d6_32 : decode prog_25_method_11_code 32 = .ok (.aload_n 0, 1) := by decide +kernel
theorem d6_33 : decode prog_25_method_11_code 33 = .ok (.getfield 11, 3) := by decide +kernel
theorem d6_36 : decode prog_25_method_11_code 36 = .ok (.iload 4, 2) := by decide +kernel
theorem d6_38 : decode prog_25_method_11_code 38 = .ok (.aaload, 1) := by decide +kernel
theorem d6_39 : decode prog_25_method_11_code 39 = .ok (.invokevirtual 96, 3) := by decide +kernel
theorem d6_42 : decode prog_25_method_11_code 42 = .ok (.iload 4, 2) := by decide +kernel
theorem d6_44 : decode prog_25_method_11_code 44 = .ok (.istore_n 3, 1) := by decide +kernel
theorem d6_45 : decode prog_25_method_11_code 45 = .ok (.goto (-43), 3) := by decide +kernel
theorem d6_48 : decode prog_25_method_11_code 48 = .ok (.aload_n 0, 1) := by decide +kernel
theorem d6_49 : decode prog_25_method_11_code 49 = .ok (.iload_n 3, 1) := by decide +kernel
theorem d6_50 : decode prog_25_method_11_code 50 = .ok (.aload_n 2, 1) := by decide +kernel
theorem d6_51 : decode prog_25_method_11_code 51 = .ok (.invokevirtual 96, 3) := by decide +kernel
theorem d6_54 : decode prog_25_method_11_code 54 = .ok (.return_, 1) := by decide +kernel
theorem d7_0 : decode prog_25_method_13_code 0 = .ok (.aload_n 0, 1) := by decide +kernel
theorem d7_1 : decode prog_25_method_13_code 1 = .ok (.getfield 11, 3) := by decide +kernel
theorem d7_4 : decode prog_25_method_13_code 4 = .ok (.iload_n 1, 1) := by decide +kernel
theorem d7_5 : decode prog_25_method_13_code 5 = .ok (.aload_n 2, 1) := by decide +kernel
theorem d7_6 : decode prog_25_method_13_code 6 = .ok (.aastore, 1) := by decide +kernel
theorem d7_7 : decode prog_25_method_13_code 7 = .ok (.aload_n 2, 1) := by decide +kernel
theorem d7_8 : decode prog_25_method_13_code 8 = .ok (.iload_n 1, 1) := by decide +kernel
theorem d7_9 : decode prog_25_method_13_code 9 = .ok (.putfield 52, 3) := by decide +kernel
theorem d7_12 : decode prog_25_method_13_code 12 = .ok (.return_, 1) := by decide +kernel
theorem d8_0 : decode prog_26_method_6_code 0 = .ok (.aload_n 0, 1) := by decide +kernel
theorem d8_1 : decode prog_26_method_6_code 1 = .ok (.getfield 21, 3) := by decide +kernel
theorem d8_4 : decode prog_26_method_6_code 4 = .ok (.aload_n 1, 1) := by decide +kernel
theorem d8_5 : decode prog_26_method_6_code 5 = .ok (.getfield 21, 3) := by decide +kernel
theorem d8_8 : decode prog_26_method_6_code 8 = .ok (.lsub, 1) := by decide +kernel
theorem d8_9 : decode prog_26_method_6_code 9 = .ok (.lstore_n 2, 1) := by decide +kernel
theorem d8_10 : decode prog_26_method_6_code 10 = .ok (.lload_n 2, 1) := by decide +kernel
theorem d8_11 : decode prog_26_method_6_code 11 = .ok (.lconst 0, 1) := by decide +kernel
theorem d8_12 : decode prog_26_method_6_code 12 = .ok (.lcmp, 1) := by decide +kernel
theorem d8_13 : decode prog_26_method_6_code 13 = .ok (.ifCond .ne 17, 3) := by decide +kernel
theorem d8_16 : decode prog_26_method_6_code 16 = .ok (.aload_n 0, 1) := by decide +kernel
theorem d8_17 : decode prog_26_method_6_code 17 = .ok (.getfield 25, 3) := by decide +kernel
theorem d8_20 : decode prog_26_method_6_code 20 = .ok (.aload_n 1, 1) := by decide +kernel
theorem d8_21 : decode prog_26_method_6_code 21 = .ok (.getfield 25, 3) := by decide +kernel
theorem d8_24 : decode prog_26_method_6_code 24 = .ok (.invokestatic 34, 3) := by decide +kernel
theorem d8_27 : decode prog_26_method_6_code 27 = .ok (.goto 7, 3) := by decide +kernel
theorem d8_30 : decode prog_26_method_6_code 30 = .ok (.lload_n 2, 1) := by decide +kernel
theorem d8_31 : decode prog_26_method_6_code 31 = .ok (.invokestatic 40, 3) := by decide +kernel
theorem d8_34 : decode prog_26_method_6_code 34 = .ok (.ireturn, 1) := by decide +kernel
theorem d9_0 : decode jdk_35_method_57_code 0 = .ok (.lload_n 0, 1) := by decide +kernel
theorem d9_1 : decode jdk_35_method_57_code 1 = .ok (.bipush 63, 2) := by decide +kernel
theorem d9_3 : decode jdk_35_method_57_code 3 = .ok (.lshr, 1) := by decide +kernel
theorem d9_4 : decode jdk_35_method_57_code 4 = .ok (.lload_n 0, 1) := by decide +kernel
theorem d9_5 : decode jdk_35_method_57_code 5 = .ok (.lneg, 1) := by decide +kernel
theorem d9_6 : decode jdk_35_method_57_code 6 = .ok (.bipush 63, 2) := by decide +kernel
theorem d9_8 : decode jdk_35_method_57_code 8 = .ok (.lushr, 1) := by decide +kernel
theorem d9_9 : decode jdk_35_method_57_code 9 = .ok (.lor, 1) := by decide +kernel
theorem d9_10 : decode jdk_35_method_57_code 10 = .ok (.l2i, 1) := by decide +kernel
theorem d9_11 : decode jdk_35_method_57_code 11 = .ok (.ireturn, 1) := by decide +kernel
theorem d10_0 : decode prog_25_method_5_code 0 = .ok (.aload_n 1, 1) := by decide +kernel
theorem d10_1 : decode prog_25_method_5_code 1 = .ok (.invokevirtual 48, 3) := by decide +kernel
theorem d10_4 : decode prog_25_method_5_code 4 = .ok (.istore_n 2, 1) := by decide +kernel
theorem d10_5 : decode prog_25_method_5_code 5 = .ok (.iload_n 2, 1) := by decide +kernel
theorem d10_6 : decode prog_25_method_5_code 6 = .ok (.ifCond .eq 11, 3) := by decide +kernel
theorem d10_9 : decode prog_25_method_5_code 9 = .ok (.aload_n 0, 1) := by decide +kernel
theorem d10_10 : decode prog_25_method_5_code 10 = .ok (.aload_n 1, 1) := by decide +kernel
theorem d10_11 : decode prog_25_method_5_code 11 = .ok (.getfield 52, 3) := by decide +kernel
theorem d10_14 : decode prog_25_method_5_code 14 = .ok (.invokevirtual 40, 3) := by decide +kernel
theorem d10_17 : decode prog_25_method_5_code 17 = .ok (.iload_n 2, 1) := by decide +kernel
theorem d10_18 : decode prog_25_method_5_code 18 = .ok (.ireturn, 1) := by decide +kernel
theorem d11_0 : decode prog_26_method_4_code 0 = .ok (.aload_n 0, 1) := by decide +kernel
theorem d11_1 : decode prog_26_method_4_code 1 = .ok (.getfield 13, 3) := by decide +kernel
theorem d11_4 : decode prog_26_method_4_code 4 = .ok (.ifCond .lt 7, 3) := by decide +kernel
theorem d11_7 : decode prog_26_method_4_code 7 = .ok (.iconst 1, 1) := by decide +kernel
theorem d11_8 : decode prog_26_method_4_code 8 = .ok (.goto 4, 3) := by decide +kernel
theorem d11_12 : decode prog_26_method_4_code 12 = .ok (.ireturn, 1) := by decide +kernel
theorem d12_0 : decode prog_25_method_10_code 0 = .ok (.aload_n 0, 1) := by decide +kernel
theorem d12_1 : decode prog_25_method_10_code 1 = .ok (.getfield 11, 3) := by decide +kernel
theorem d12_4 : decode prog_25_method_10_code 4 = .ok (.iload_n 1, 1) := by decide +kernel
theorem d12_5 : decode prog_25_method_10_code 5 = .ok (.aaload, 1) := by decide +kernel
theorem d12_6 : decode prog_25_method_10_code 6 = .ok (.astore_n 2, 1) := by decide +kernel
theorem d12_7 : decode prog_25_method_10_code 7 = .ok (.aload_n 0, 1) := by decide +kernel
theorem d12_8 : decode prog_25_method_10_code 8 = .ok (.getfield 11, 3) := by decide +kernel
theorem d12_11 : decode prog_25_method_10_code 11 = .ok (.aload_n 0, 1) := by decide +kernel
theorem d12_12 : decode prog_25_method_10_code 12 = .ok (.dup, 1) := by decide +kernel
theorem d12_13 : decode prog_25_method_10_code 13 = .ok (.getfield 22, 3) := by decide +kernel
theorem d12_16 : decode prog_25_method_10_code 16 = .ok (.iconst 1, 1) := by decide +kernel
theorem d12_17 : decode prog_25_method_10_code 17 = .ok (.isub, 1) := by decide +kernel
theorem d12_18 : decode prog_25_method_10_code 18 = .ok (.dup_x1, 1) := by decide +kernel
theorem d12_19 : decode prog_25_method_10_code 19 = .ok (.putfield 22, 3) := by decide +kernel
theorem d12_22 : decode prog_25_method_10_code 22 = .ok (.aaload, 1) := by decide +kernel
theorem d12_23 : decode prog_25_method_10_code 23 = .ok (.astore_n 3, 1) := by decide +kernel
theorem d12_24 : decode prog_25_method_10_code 24 = .ok (.aload_n 0, 1) := by decide +kernel
theorem d12_25 : decode prog_25_method_10_code 25 = .ok (.getfield 11, 3) := by decide +kernel
theorem d12_28 : decode prog_25_method_10_code 28 = .ok (.aload_n 0, 1) := by decide +kernel
theorem d12_29 : decode prog_25_method_10_code 29 = .ok (.getfield 22, 3) := by decide +kernel
theorem d12_32 : decode prog_25_method_10_code 32 = .ok (.aconst_null, 1) := by decide +kernel
theorem d12_33 : decode prog_25_method_10_code 33 = .ok (.aastore, 1) := by decide +kernel
theorem d12_34 : decode prog_25_method_10_code 34 = .ok (.aload_n 3, 1) := by decide +kernel
theorem d12_35 : decode prog_25_method_10_code 35 = .ok (.aload_n 2, 1) := by decide +kernel
theorem d12_36 : decode prog_25_method_10_code 36 = .ok (.if_acmp .eq 25, 3) := by decide +kernel
theorem d12_39 : decode prog_25_method_10_code 39 = .ok (.aload_n 0, 1) := by decide +kernel
theorem d12_40 : decode prog_25_method_10_code 40 = .ok (.iload_n 1, 1) := by decide +kernel
theorem d12_41 : decode prog_25_method_10_code 41 = .ok (.aload_n 3, 1) := by decide +kernel
theorem d12_42 : decode prog_25_method_10_code 42 = .ok (.invokevirtual 89, 3) := by decide +kernel
theorem d12_45 : decode prog_25_method_10_code 45 = .ok (.aload_n 0, 1) := by decide +kernel
theorem d12_46 : decode prog_25_method_10_code 46 = .ok (.getfield 11, 3) := by decide +kernel
theorem d12_49 : decode prog_25_method_10_code 49 = .ok (.iload_n 1, 1) := by decide +kernel
theorem d12_50 : decode prog_25_method_10_code 50 = .ok (.aaload, 1) := by decide +kernel
theorem d12_51 : decode prog_25_method_10_code 51 = .ok (.aload_n 3, 1) := by decide +kernel
theorem d12_52 : decode prog_25_method_10_code 52 = .ok (.if_acmp .ne 9, 3) := by decide +kernel
theorem d12_55 : decode prog_25_method_10_code 55 = .ok (.aload_n 0, 1) := by decide +kernel
theorem d12_56 : decode prog_25_method_10_code 56 = .ok (.iload_n 1, 1) := by decide +kernel
theorem d12_57 : decode prog_25_method_10_code 57 = .ok (.aload_n 3, 1) := by decide +kernel
theorem d12_58 : decode prog_25_method_10_code 58 = .ok (.invokevirtual 33, 3) := by decide +kernel
theorem d12_61 : decode prog_25_method_10_code 61 = .ok (.aload_n 2, 1) := by decide +kernel
theorem d12_62 : decode prog_25_method_10_code 62 = .ok (.iconst (-1), 1) := by decide +kernel
theorem d12_63 : decode prog_25_method_10_code 63 = .ok (.putfield 52, 3) := by decide +kernel
theorem d12_66 : decode prog_25_method_10_code 66 = .ok (.return_, 1) := by decide +kernel
theorem d13_0 : decode prog_25_method_7_code 0 = .ok (.new 55, 3) := by decide +kernel
theorem d13_3 : decode prog_25_method_7_code 3 = .ok (.dup, 1) := by decide +kernel
theorem d13_4 : decode prog_25_method_7_code 4 = .ok (.aload_n 0, 1) := by decide +kernel
theorem d13_5 : decode prog_25_method_7_code 5 = .ok (.getfield 22, 3) := by decide +kernel
theorem d13_8 : decode prog_25_method_7_code 8 = .ok (.invokespecial 70, 3) := by decide +kernel
theorem d13_11 : decode prog_25_method_7_code 11 = .ok (.astore_n 1, 1) := by decide +kernel
theorem d13_12 : decode prog_25_method_7_code 12 = .ok (.aload_n 0, 1) := by decide +kernel
theorem d13_13 : decode prog_25_method_7_code 13 = .ok (.getfield 22, 3) := by decide +kernel
theorem d13_16 : decode prog_25_method_7_code 16 = .ok (.ifCond .le 25, 3) := by decide +kernel
theorem d13_19 : decode prog_25_method_7_code 19 = .ok (.aload_n 1, 1) := by decide +kernel
theorem d13_20 : decode prog_25_method_7_code 20 = .ok (.aload_n 0, 1) := by decide +kernel
theorem d13_21 : decode prog_25_method_7_code 21 = .ok (.getfield 11, 3) := by decide +kernel
theorem d13_24 : decode prog_25_method_7_code 24 = .ok (.iconst 0, 1) := by decide +kernel
theorem d13_25 : decode prog_25_method_7_code 25 = .ok (.aaload, 1) := by decide +kernel
theorem d13_26 : decode prog_25_method_7_code 26 = .ok (.getfield 44, 3) := by decide +kernel
theorem d13_29 : decode prog_25_method_7_code 29 = .ok (.invokevirtual 64, 3) := by decide +kernel
theorem d13_32 : decode prog_25_method_7_code 32 = .ok (.pop, 1) := by decide +kernel
theorem d13_33 : decode prog_25_method_7_code 33 = .ok (.aload_n 0, 1) := by decide +kernel
theorem d13_34 : decode prog_25_method_7_code 34 = .ok (.iconst 0, 1) := by decide +kernel
theorem d13_35 : decode prog_25_method_7_code 35 = .ok (.invokevirtual 40, 3) := by decide +kernel
theorem d13_38 : decode prog_25_method_7_code 38 = .ok (.goto (-26), 3) := by decide +kernel
theorem d13_41 : decode prog_25_method_7_code 41 = .ok (.aload_n 1, 1) := by decide +kernel
theorem d13_42 : decode prog_25_method_7_code 42 = .ok (.areturn, 1) := by decide +kernel
theorem d14_0 : decode jdk_38_method_1_code 0 = .ok (.aload_n 0, 1) := by decide +kernel
theorem d14_1 : decode jdk_38_method_1_code 1 = .ok (.invokespecial 1, 3) := by decide +kernel
theorem d14_4 : decode jdk_38_method_1_code 4 = .ok (.iload_n 1, 1) := by decide +kernel
theorem d14_5 : decode jdk_38_method_1_code 5 = .ok (.ifCond .le 14, 3) := by decide +kernel
theorem d14_8 : decode jdk_38_method_1_code 8 = .ok (.aload_n 0, 1) := by decide +kernel
theorem d14_9 : decode jdk_38_method_1_code 9 = .ok (.iload_n 1, 1) := by decide +kernel
theorem d14_10 : decode jdk_38_method_1_code 10 = .ok (.anewarray 7, 3) := by decide +kernel
theorem d14_13 : decode jdk_38_method_1_code 13 = .ok (.putfield 9, 3) := by decide +kernel
theorem d14_16 : decode jdk_38_method_1_code 16 = .ok (.goto 44, 3) := by decide +kernel
theorem d14_19 : decode jdk_38_method_1_code 19 = .ok (.iload_n 1, 1) := by decide +kernel
theorem d14_20 : decode jdk_38_method_1_code 20 = .ok (.ifCond .ne 13, 3) := by decide +kernel
theorem d14_23 : decode jdk_38_method_1_code 23 = .ok (.aload_n 0, 1) := by decide +kernel
theorem d14_24 : decode jdk_38_method_1_code 24 = .ok (.getstatic 15, 3) := by decide +kernel
theorem d14_27 : decode jdk_38_method_1_code 27 = .ok (.putfield 9, 3) := by decide +kernel
theorem d14_30 : decode jdk_38_method_1_code 30 = .ok (.goto 30, 3) := by decide +kernel
theorem d14_60 : decode jdk_38_method_1_code 60 = .ok (.return_, 1) := by decide +kernel
theorem d15_0 : decode jdk_39_method_1_code 0 = .ok (.aload_n 0, 1) := by decide +kernel
theorem d15_1 : decode jdk_39_method_1_code 1 = .ok (.invokespecial 1, 3) := by decide +kernel
theorem d15_4 : decode jdk_39_method_1_code 4 = .ok (.aload_n 0, 1) := by decide +kernel
theorem d15_5 : decode jdk_39_method_1_code 5 = .ok (.iconst 0, 1) := by decide +kernel
theorem d15_6 : decode jdk_39_method_1_code 6 = .ok (.putfield 7, 3) := by decide +kernel
theorem d15_9 : decode jdk_39_method_1_code 9 = .ok (.return_, 1) := by decide +kernel
theorem d16_0 : decode jdk_22_method_1_code 0 = .ok (.aload_n 0, 1) := by decide +kernel
theorem d16_1 : decode jdk_22_method_1_code 1 = .ok (.invokespecial 1, 3) := by decide +kernel
theorem d16_4 : decode jdk_22_method_1_code 4 = .ok (.return_, 1) := by decide +kernel
theorem d17_0 : decode prog_25_method_12_code 0 = .ok (.iload_n 1, 1) := by decide +kernel
theorem d17_1 : decode prog_25_method_12_code 1 = .ok (.istore_n 3, 1) := by decide +kernel
theorem d17_2 : decode prog_25_method_12_code 2 = .ok (.aload_n 0, 1) := by decide +kernel
theorem d17_3 : decode prog_25_method_12_code 3 = .ok (.getfield 22, 3) := by decide +kernel
theorem d17_6 : decode prog_25_method_12_code 6 = .ok (.iconst 1, 1) := by decide +kernel
theorem d17_7 : decode prog_25_method_12_code 7 = .ok (.iushr, 1) := by decide +kernel
theorem d17_8 : decode prog_25_method_12_code 8 = .ok (.istore 4, 2) := by decide +kernel
theorem d17_10 : decode prog_25_method_12_code 10 = .ok (.iload_n 3, 1) := by decide +kernel
theorem d17_11 : decode prog_25_method_12_code 11 = .ok (.iload 4, 2) := by decide +kernel
theorem d17_13 : decode prog_25_method_12_code 13 = .ok (.if_icmp .ge 84, 3) := by decide +kernel
theorem d17_16 : decode prog_25_method_12_code 16 = .ok (.iconst 2, 1) := by decide +kernel
theorem d17_17 : decode prog_25_method_12_code 17 = .ok (.iload_n 3, 1) := by decide +kernel
theorem d17_18 : decode prog_25_method_12_code 18 = .ok (.imul, 1) := by decide +kernel
theorem d17_19 : decode prog_25_method_12_code 19 = .ok (.iconst 1, 1) := by decide +kernel
theorem d17_20 : decode prog_25_method_12_code 20 = .ok (.iadd, 1) := by decide +kernel
theorem d17_21 : decode prog_25_method_12_code 21 = .ok (.istore 5, 2) := by decide +kernel
theorem d17_23 : decode prog_25_method_12_code 23 = .ok (.iload 5, 2) := by decide +kernel
theorem d17_25 : decode prog_25_method_12_code 25 = .ok (.iconst 1, 1) := by decide +kernel
theorem d17_26 : decode prog_25_method_12_code 26 = .ok (.iadd, 1) := by decide +kernel
theorem d17_27 : decode prog_25_method_12_code 27 = .ok (.istore 6, 2) := by decide +kernel
theorem d17_29 : decode prog_25_method_12_code 29 = .ok (.iload 6, 2) := by decide +kernel
theorem d17_31 : decode prog_25_method_12_code 31 = .ok (.aload_n 0, 1) := by decide +kernel
theorem d17_32 : decode prog_25_method_12_code 32 = .ok (.getfield 22, 3) := by decide +kernel
theorem d17_35 : decode prog_25_method_12_code 35 = .ok (.if_icmp .ge 27, 3) := by decide +kernel
theorem d17_62 : decode prog_25_method_12_code 62 = .ok (.aload_n 2, 1) := by decide +kernel
theorem d17_63 : decode prog_25_method_12_code 63 = .ok (.aload_n 0, 1) := by decide +kernel
theorem d17_64 : decode prog_25_method_12_code 64 = .ok (.getfield 11, 3) := by decide +kernel
theorem d17_67 : decode prog_25_method_12_code 67 = .ok (.iload 5, 2) := by decide +kernel
theorem d17_69 : decode prog_25_method_12_code 69 = .ok (.aaload, 1) := by decide +kernel
theorem d17_70 : decode prog_25_method_12_code 70 = .ok (.invokevirtual 92, 3) := by decide +kernel
theorem d17_73 : decode prog_25_method_12_code 73 = .ok (.ifCond .gt 6, 3) := by decide +kernel
theorem d17_76 : decode prog_25_method_12_code 76 = .ok (.goto 21, 3) := by decide +kernel
theorem d17_79 : decode prog_25_method_12_code 79 = .ok (.aload_n 0, 1) := by decide +kernel
theorem d17_80 : decode prog_25_method_12_code 80 = .ok (.iload_n 3, 1) := by decide +kernel
theorem d17_81 : decode prog_25_method_12_code 81 = .ok (.aload_n 0, 1) := by decide +kernel
theorem d17_82 : decode prog_25_method_12_code 82 = .ok (.getfield 11, 3) := by decide +kernel
theorem d17_85 : decode prog_25_method_12_code 85 = .ok (.iload 5, 2) := by decide +kernel
theorem d17_87 : decode prog_25_method_12_code 87 = .ok (.aaload, 1) := by decide +kernel
theorem d17_88 : decode prog_25_method_12_code 88 = .ok (.invokevirtual 96, 3) := by decide +kernel
theorem d17_91 : decode prog_25_method_12_code 91 = .ok (.iload 5, 2) := by decide +kernel
theorem d17_93 : decode prog_25_method_12_code 93 = .ok (.istore_n 3, 1) := by decide +kernel
theorem d17_94 : decode prog_25_method_12_code 94 = .ok (.goto (-84), 3) := by decide +kernel
theorem d17_97 : decode prog_25_method_12_code 97 = .ok (.aload_n 0, 1) := by decide +kernel
theorem d17_98 : decode prog_25_method_12_code 98 = .ok (.iload_n 3, 1) := by decide +kernel
theorem d17_99 : decode prog_25_method_12_code 99 = .ok (.aload_n 2, 1) := by decide +kernel
theorem d17_100 : decode prog_25_method_12_code 100 = .ok (.invokevirtual 96, 3) := by decide +kernel
theorem d17_103 : decode prog_25_method_12_code 103 = .ok (.return_, 1) := by decide +kernel
theorem d18_0 : decode jdk_35_method_42_code 0 = .ok (.lload_n 0, 1) := by decide +kernel
theorem d18_1 : decode jdk_35_method_42_code 1 = .ok (.lload_n 2, 1) := by decide +kernel
theorem d18_2 : decode jdk_35_method_42_code 2 = .ok (.lcmp, 1) := by decide +kernel
theorem d18_3 : decode jdk_35_method_42_code 3 = .ok (.ifCond .ge 7, 3) := by decide +kernel
theorem d18_6 : decode jdk_35_method_42_code 6 = .ok (.iconst (-1), 1) := by decide +kernel
theorem d18_7 : decode jdk_35_method_42_code 7 = .ok (.goto 14, 3) := by decide +kernel
theorem d18_10 : decode jdk_35_method_42_code 10 = .ok (.lload_n 0, 1) := by decide +kernel
theorem d18_11 : decode jdk_35_method_42_code 11 = .ok (.lload_n 2, 1) := by decide +kernel
theorem d18_12 : decode jdk_35_method_42_code 12 = .ok (.lcmp, 1) := by decide +kernel
theorem d18_13 : decode jdk_35_method_42_code 13 = .ok (.ifCond .ne 7, 3) := by decide +kernel
theorem d18_16 : decode jdk_35_method_42_code 16 = .ok (.iconst 0, 1) := by decide +kernel
theorem d18_17 : decode jdk_35_method_42_code 17 = .ok (.goto 4, 3) := by decide +kernel
theorem d18_20 : decode jdk_35_method_42_code 20 = .ok (.iconst 1, 1) := by decide +kernel
theorem d18_21 : decode jdk_35_method_42_code 21 = .ok (.ireturn, 1) := by decide +kernel
theorem d19_0 : decode jdk_38_method_25_code 0 = .ok (.aload_n 0, 1) := by decide +kernel
theorem d19_1 : decode jdk_38_method_25_code 1 = .ok (.dup, 1) := by decide +kernel
theorem d19_2 : decode jdk_38_method_25_code 2 = .ok (.getfield 63, 3) := by decide +kernel
theorem d19_5 : decode jdk_38_method_25_code 5 = .ok (.iconst 1, 1) := by decide +kernel
theorem d19_6 : decode jdk_38_method_25_code 6 = .ok (.iadd, 1) := by decide +kernel
theorem d19_7 : decode jdk_38_method_25_code 7 = .ok (.putfield 63, 3) := by decide +kernel
theorem d19_10 : decode jdk_38_method_25_code 10 = .ok (.aload_n 0, 1) := by decide +kernel
theorem d19_11 : decode jdk_38_method_25_code 11 = .ok (.aload_n 1, 1) := by decide +kernel
theorem d19_12 : decode jdk_38_method_25_code 12 = .ok (.aload_n 0, 1) := by decide +kernel
theorem d19_13 : decode jdk_38_method_25_code 13 = .ok (.getfield 9, 3) := by decide +kernel
theorem d19_16 : decode jdk_38_method_25_code 16 = .ok (.aload_n 0, 1) := by decide +kernel
theorem d19_17 : decode jdk_38_method_25_code 17 = .ok (.getfield 48, 3) := by decide +kernel
theorem d19_20 : decode jdk_38_method_25_code 20 = .ok (.invokevirtual 131, 3) := by decide +kernel
theorem d19_23 : decode jdk_38_method_25_code 23 = .ok (.iconst 1, 1) := by decide +kernel
theorem d19_24 : decode jdk_38_method_25_code 24 = .ok (.ireturn, 1) := by decide +kernel
theorem d20_0 : decode jdk_38_method_24_code 0 = .ok (.iload_n 3, 1) := by decide +kernel
theorem d20_1 : decode jdk_38_method_24_code 1 = .ok (.aload_n 2, 1) := by decide +kernel
theorem d20_2 : decode jdk_38_method_24_code 2 = .ok (.arraylength, 1) := by decide +kernel
theorem d20_3 : decode jdk_38_method_24_code 3 = .ok (.if_icmp .ne 8, 3) := by decide +kernel
theorem d20_11 : decode jdk_38_method_24_code 11 = .ok (.aload_n 2, 1) := by decide +kernel
theorem d20_12 : decode jdk_38_method_24_code 12 = .ok (.iload_n 3, 1) := by decide +kernel
theorem d20_13 : decode jdk_38_method_24_code 13 = .ok (.aload_n 1, 1) := by decide +kernel
theorem d20_14 : decode jdk_38_method_24_code 14 = .ok (.aastore, 1) := by decide +kernel
theorem d20_15 : decode jdk_38_method_24_code 15 = .ok (.aload_n 0, 1) := by decide +kernel
theorem d20_16 : decode jdk_38_method_24_code 16 = .ok (.iload_n 3, 1) := by decide +kernel
theorem d20_17 : decode jdk_38_method_24_code 17 = .ok (.iconst 1, 1) := by decide +kernel
theorem d20_18 : decode jdk_38_method_24_code 18 = .ok (.iadd, 1) := by decide +kernel
theorem d20_19 : decode jdk_38_method_24_code 19 = .ok (.putfield 48, 3) := by decide +kernel
theorem d20_22 : decode jdk_38_method_24_code 22 = .ok (.return_, 1) := by decide +kernel
theorem pd_0 : parseMethodDescriptor "(J)I" = some ⟨[.long], some .int⟩ := by decide +kernel
theorem pd_1 : parseMethodDescriptor "(JJ)I" = some ⟨[.long, .long], some .int⟩ := by decide +kernel
theorem pd_2 : parseMethodDescriptor "(ILcom/example/orderly_dispatch/orderlydispatch/TimerQueue$Timer;)V" = some ⟨[.int, (.object "com/example/orderly_dispatch/orderlydispatch/TimerQueue$Timer")], none⟩ := by decide +kernel
theorem pd_3 : parseMethodDescriptor "(Lcom/example/orderly_dispatch/orderlydispatch/TimerQueue$Timer;)I" = some ⟨[(.object "com/example/orderly_dispatch/orderlydispatch/TimerQueue$Timer")], some .int⟩ := by decide +kernel
theorem pd_4 : parseMethodDescriptor "()Z" = some ⟨[], some .boolean⟩ := by decide +kernel
theorem pd_5 : parseMethodDescriptor "(I)V" = some ⟨[.int], none⟩ := by decide +kernel
theorem pd_6 : parseMethodDescriptor "(Lcom/example/orderly_dispatch/orderlydispatch/TimerQueue;Ljava/lang/Runnable;JJ)V" = some ⟨[(.object "com/example/orderly_dispatch/orderlydispatch/TimerQueue"), (.object "java/lang/Runnable"), .long, .long], none⟩ := by decide +kernel
theorem pd_7 : parseMethodDescriptor "()V" = some ⟨[], none⟩ := by decide +kernel
theorem pd_8 : parseMethodDescriptor "(Ljava/lang/Object;[Ljava/lang/Object;I)V" = some ⟨[(.object "java/lang/Object"), (.array (.object "java/lang/Object")), .int], none⟩ := by decide +kernel
theorem pd_9 : parseMethodDescriptor "(Ljava/lang/Object;)Z" = some ⟨[(.object "java/lang/Object")], some .boolean⟩ := by decide +kernel
theorem pd_10 : parseMethodDescriptor "()Ljava/util/List;" = some ⟨[], some (.object "java/util/List")⟩ := by decide +kernel
theorem pd_11 : parseMethodDescriptor "(Ljava/lang/Runnable;J)Lcom/example/orderly_dispatch/orderlydispatch/TimerQueue$Timer;" = some ⟨[(.object "java/lang/Runnable"), .long], some (.object "com/example/orderly_dispatch/orderlydispatch/TimerQueue$Timer")⟩ := by decide +kernel
theorem pd_12 : parseMethodDescriptor "(Lcom/example/orderly_dispatch/orderlydispatch/TimerQueue$Timer;)Z" = some ⟨[(.object "com/example/orderly_dispatch/orderlydispatch/TimerQueue$Timer")], some .boolean⟩ := by decide +kernel
/-- a timer that is queued at the place i -/
def Tm (Z : State) (h : Heap) (t : Addr) (i : Int32) : Prop := Exa Z h t "com/example/orderly_dispatch/orderlydispatch/TimerQueue$Timer" ∧ Fld Z h t "com/example/orderly_dispatch/orderlydispatch/TimerQueue$Timer" "index" "I" (.int i) ∧ (∃ d, Fld Z h t "com/example/orderly_dispatch/orderlydispatch/TimerQueue$Timer" "dueNanos" "J" (.long d)) ∧ (∃ q, Fld Z h t "com/example/orderly_dispatch/orderlydispatch/TimerQueue$Timer" "sequence" "J" (.long q)) ∧ Fld Z h t "com/example/orderly_dispatch/orderlydispatch/TimerQueue$Timer" "task" "Ljava/lang/Runnable;" .null
theorem Tm.keep {Z : State} {h h' : Heap} {t : Addr} {i : Int32} {ws : List Addr} (T : Tm Z h t i) (K : Keep h h' ws) (q : t ∉ ws) : Tm Z h' t i := by
  obtain ⟨a, b, ⟨d, c⟩, ⟨e, f⟩, g⟩ := T
  exact ⟨a.keep K, b.keep K q, ⟨d, c.keep K q⟩, ⟨e, f.keep K q⟩, g.keep K q⟩
/-- the array's content: the timers, then nulls -/
def pad (ts : List Addr) : List Value := ts.map (fun t => Value.ref t) ++ List.replicate (16 - ts.length) .null
/-- the queue q with its array b and its timers ts -/
def TQ (Z : State) (n0 : Nat) (h : Heap) (q b : Addr) (k : ClassId) (ts : List Addr) : Prop :=
  Exa Z h q "com/example/orderly_dispatch/orderlydispatch/TimerQueue" ∧ Fld Z h q "com/example/orderly_dispatch/orderlydispatch/TimerQueue" "heap" "[Lcom/example/orderly_dispatch/orderlydispatch/TimerQueue$Timer;" (.ref b) ∧ Fld Z h q "com/example/orderly_dispatch/orderlydispatch/TimerQueue" "size" "I" (.int ts.length.toInt32) ∧ (∃ a, Fld Z h q "com/example/orderly_dispatch/orderlydispatch/TimerQueue" "added" "J" (.long a)) ∧ Ars Z h b k (.object "com/example/orderly_dispatch/orderlydispatch/TimerQueue$Timer") (pad ts) ∧ Ovr Z k "com/example/orderly_dispatch/orderlydispatch/TimerQueue$Timer" ∧
  (∀ (i : Nat) (t : Addr), ts[i]? = some t → Tm Z h t i.toInt32) ∧ ts.Nodup ∧ q ≠ b ∧ (∀ t ∈ ts, t ≠ q ∧ t ≠ b ∧ n0 ≤ t) ∧ n0 ≤ q ∧ n0 ≤ b
theorem TQ.keep {Z : State} {n0 : Nat} {h h' : Heap} {q b : Addr} {k : ClassId} {ts ws : List Addr} (T : TQ Z n0 h q b k ts) (K : Keep h h' ws) (u : ∀ x ∈ ws, x ∉ q :: b :: ts) : TQ Z n0 h' q b k ts := by
  obtain ⟨e1, e2, e3, ⟨a, e4⟩, e5, e6, e7, r⟩ := T
  have hq : q ∉ ws := fun z => u q z (List.mem_cons_self ..)
  have hb : b ∉ ws := fun z => u b z (List.mem_cons_of_mem _ (List.mem_cons_self ..))
  exact ⟨e1.keep K, e2.keep K hq, e3.keep K hq, ⟨a, e4.keep K hq⟩, e5.keep K hb, e6, fun i t hi => (e7 i t hi).keep K fun z => u t z (List.mem_cons_of_mem _ (List.mem_cons_of_mem _ (List.mem_of_getElem? hi))), r⟩
theorem TQ.above {Z : State} {n0 : Nat} {h : Heap} {q b : Addr} {k : ClassId} {ts : List Addr} (T : TQ Z n0 h q b k ts) : ∀ x ∈ q :: b :: ts, n0 ≤ x := by
  obtain ⟨-, -, -, -, -, -, -, -, -, r1, r2, r3⟩ := T
  intro x hx
  rcases List.mem_cons.mp hx with rfl | hx
  · exact r2
  · rcases List.mem_cons.mp hx with rfl | hx
    · exact r3
    · exact (r1 x hx).2.2
theorem TQ.lt {Z : State} {n0 : Nat} {h : Heap} {q b : Addr} {k : ClassId} {ts : List Addr} (T : TQ Z n0 h q b k ts) : ∀ x ∈ q :: b :: ts, x < h.size := by
  obtain ⟨e1, e2, e3, e4, e5, e6, e7, -⟩ := T
  intro x hx
  rcases List.mem_cons.mp hx with rfl | hx
  · exact e1.lt
  · rcases List.mem_cons.mp hx with rfl | hx
    · exact e5.lt
    · obtain ⟨i, hi⟩ := List.mem_iff_getElem?.mp hx
      exact (e7 i x hi).1.lt
theorem TQ.open0 {Z : State} {n0 : Nat} {h : Heap} {q b : Addr} {k : ClassId} (T : TQ Z n0 h q b k []) : Exa Z h q "com/example/orderly_dispatch/orderlydispatch/TimerQueue" ∧ Fld Z h q "com/example/orderly_dispatch/orderlydispatch/TimerQueue" "heap" "[Lcom/example/orderly_dispatch/orderlydispatch/TimerQueue$Timer;" (.ref b) ∧ Fld Z h q "com/example/orderly_dispatch/orderlydispatch/TimerQueue" "size" "I" (.int (0 : Int32)) ∧ (∃ a, Fld Z h q "com/example/orderly_dispatch/orderlydispatch/TimerQueue" "added" "J" (.long a)) ∧ Ars Z h b k (.object "com/example/orderly_dispatch/orderlydispatch/TimerQueue$Timer") [.null, .null, .null, .null, .null, .null, .null, .null, .null, .null, .null, .null, .null, .null, .null, .null] ∧ Ovr Z k "com/example/orderly_dispatch/orderlydispatch/TimerQueue$Timer" ∧ q ≠ b ∧ n0 ≤ q ∧ n0 ≤ b := by
  obtain ⟨e1, e2, e3, e4, e5, e6, e7, e8, e9, e10, e11, e12⟩ := T
  exact ⟨e1, e2, e3, e4, e5, e6, e9, e11, e12⟩
theorem TQ.build0 {Z : State} {n0 : Nat} {h : Heap} {q b : Addr} {k : ClassId} (T : Exa Z h q "com/example/orderly_dispatch/orderlydispatch/TimerQueue" ∧ Fld Z h q "com/example/orderly_dispatch/orderlydispatch/TimerQueue" "heap" "[Lcom/example/orderly_dispatch/orderlydispatch/TimerQueue$Timer;" (.ref b) ∧ Fld Z h q "com/example/orderly_dispatch/orderlydispatch/TimerQueue" "size" "I" (.int (0 : Int32)) ∧ (∃ a, Fld Z h q "com/example/orderly_dispatch/orderlydispatch/TimerQueue" "added" "J" (.long a)) ∧ Ars Z h b k (.object "com/example/orderly_dispatch/orderlydispatch/TimerQueue$Timer") [.null, .null, .null, .null, .null, .null, .null, .null, .null, .null, .null, .null, .null, .null, .null, .null] ∧ Ovr Z k "com/example/orderly_dispatch/orderlydispatch/TimerQueue$Timer" ∧ q ≠ b ∧ n0 ≤ q ∧ n0 ≤ b) : TQ Z n0 h q b k [] := by
  obtain ⟨c0, c1, c2, c3, c4, c5, c6, c7, c8⟩ := T
  refine ⟨c0, c1, c2, c3, c4, c5, fun i t hi => ?_, ?_, c6, fun t ht => ?_, c7, c8⟩
  · match i, hi with
    | j, hi => simp at hi
  · simp
  · simp at ht
theorem TQ.open1 {Z : State} {n0 : Nat} {h : Heap} {q b : Addr} {k : ClassId} {t0 : Addr} (T : TQ Z n0 h q b k [t0]) : Exa Z h q "com/example/orderly_dispatch/orderlydispatch/TimerQueue" ∧ Fld Z h q "com/example/orderly_dispatch/orderlydispatch/TimerQueue" "heap" "[Lcom/example/orderly_dispatch/orderlydispatch/TimerQueue$Timer;" (.ref b) ∧ Fld Z h q "com/example/orderly_dispatch/orderlydispatch/TimerQueue" "size" "I" (.int (1 : Int32)) ∧ (∃ a, Fld Z h q "com/example/orderly_dispatch/orderlydispatch/TimerQueue" "added" "J" (.long a)) ∧ Ars Z h b k (.object "com/example/orderly_dispatch/orderlydispatch/TimerQueue$Timer") [(.ref t0), .null, .null, .null, .null, .null, .null, .null, .null, .null, .null, .null, .null, .null, .null, .null] ∧ Ovr Z k "com/example/orderly_dispatch/orderlydispatch/TimerQueue$Timer" ∧ Tm Z h t0 (0 : Int32) ∧ q ≠ b ∧ t0 ≠ q ∧ t0 ≠ b ∧ n0 ≤ t0 ∧ n0 ≤ q ∧ n0 ≤ b := by
  obtain ⟨e1, e2, e3, e4, e5, e6, e7, e8, e9, e10, e11, e12⟩ := T
  obtain ⟨f0, g0, i0⟩ := e10 t0 (by simp)
  exact ⟨e1, e2, e3, e4, e5, e6, e7 0 t0 rfl, e9, f0, g0, i0, e11, e12⟩
theorem TQ.build1 {Z : State} {n0 : Nat} {h : Heap} {q b : Addr} {k : ClassId} {t0 : Addr} (T : Exa Z h q "com/example/orderly_dispatch/orderlydispatch/TimerQueue" ∧ Fld Z h q "com/example/orderly_dispatch/orderlydispatch/TimerQueue" "heap" "[Lcom/example/orderly_dispatch/orderlydispatch/TimerQueue$Timer;" (.ref b) ∧ Fld Z h q "com/example/orderly_dispatch/orderlydispatch/TimerQueue" "size" "I" (.int (1 : Int32)) ∧ (∃ a, Fld Z h q "com/example/orderly_dispatch/orderlydispatch/TimerQueue" "added" "J" (.long a)) ∧ Ars Z h b k (.object "com/example/orderly_dispatch/orderlydispatch/TimerQueue$Timer") [(.ref t0), .null, .null, .null, .null, .null, .null, .null, .null, .null, .null, .null, .null, .null, .null, .null] ∧ Ovr Z k "com/example/orderly_dispatch/orderlydispatch/TimerQueue$Timer" ∧ Tm Z h t0 (0 : Int32) ∧ q ≠ b ∧ t0 ≠ q ∧ t0 ≠ b ∧ n0 ≤ t0 ∧ n0 ≤ q ∧ n0 ≤ b) : TQ Z n0 h q b k [t0] := by
  obtain ⟨c0, c1, c2, c3, c4, c5, c6, c7, c8, c9, c10, c11, c12⟩ := T
  refine ⟨c0, c1, c2, c3, c4, c5, fun i t hi => ?_, ?_, c7, fun t ht => ?_, c11, c12⟩
  · match i, hi with
    | 0, hi => cases hi; exact c6
    | j + 1, hi => simp at hi
  · simp
  · simp at ht; subst ht; exact ⟨c8, c9, c10⟩
theorem TQ.open2 {Z : State} {n0 : Nat} {h : Heap} {q b : Addr} {k : ClassId} {t0 t1 : Addr} (T : TQ Z n0 h q b k [t0, t1]) : Exa Z h q "com/example/orderly_dispatch/orderlydispatch/TimerQueue" ∧ Fld Z h q "com/example/orderly_dispatch/orderlydispatch/TimerQueue" "heap" "[Lcom/example/orderly_dispatch/orderlydispatch/TimerQueue$Timer;" (.ref b) ∧ Fld Z h q "com/example/orderly_dispatch/orderlydispatch/TimerQueue" "size" "I" (.int (2 : Int32)) ∧ (∃ a, Fld Z h q "com/example/orderly_dispatch/orderlydispatch/TimerQueue" "added" "J" (.long a)) ∧ Ars Z h b k (.object "com/example/orderly_dispatch/orderlydispatch/TimerQueue$Timer") [(.ref t0), (.ref t1), .null, .null, .null, .null, .null, .null, .null, .null, .null, .null, .null, .null, .null, .null] ∧ Ovr Z k "com/example/orderly_dispatch/orderlydispatch/TimerQueue$Timer" ∧ Tm Z h t0 (0 : Int32) ∧ Tm Z h t1 (1 : Int32) ∧ t0 ≠ t1 ∧ q ≠ b ∧ t0 ≠ q ∧ t0 ≠ b ∧ n0 ≤ t0 ∧ t1 ≠ q ∧ t1 ≠ b ∧ n0 ≤ t1 ∧ n0 ≤ q ∧ n0 ≤ b := by
  obtain ⟨e1, e2, e3, e4, e5, e6, e7, e8, e9, e10, e11, e12⟩ := T
  have d01 : t0 ≠ t1 := fun q => by subst q; simp at e8
  obtain ⟨f0, g0, i0⟩ := e10 t0 (by simp)
  obtain ⟨f1, g1, i1⟩ := e10 t1 (by simp)
  exact ⟨e1, e2, e3, e4, e5, e6, e7 0 t0 rfl, e7 1 t1 rfl, d01, e9, f0, g0, i0, f1, g1, i1, e11, e12⟩
theorem TQ.build2 {Z : State} {n0 : Nat} {h : Heap} {q b : Addr} {k : ClassId} {t0 t1 : Addr} (T : Exa Z h q "com/example/orderly_dispatch/orderlydispatch/TimerQueue" ∧ Fld Z h q "com/example/orderly_dispatch/orderlydispatch/TimerQueue" "heap" "[Lcom/example/orderly_dispatch/orderlydispatch/TimerQueue$Timer;" (.ref b) ∧ Fld Z h q "com/example/orderly_dispatch/orderlydispatch/TimerQueue" "size" "I" (.int (2 : Int32)) ∧ (∃ a, Fld Z h q "com/example/orderly_dispatch/orderlydispatch/TimerQueue" "added" "J" (.long a)) ∧ Ars Z h b k (.object "com/example/orderly_dispatch/orderlydispatch/TimerQueue$Timer") [(.ref t0), (.ref t1), .null, .null, .null, .null, .null, .null, .null, .null, .null, .null, .null, .null, .null, .null] ∧ Ovr Z k "com/example/orderly_dispatch/orderlydispatch/TimerQueue$Timer" ∧ Tm Z h t0 (0 : Int32) ∧ Tm Z h t1 (1 : Int32) ∧ t0 ≠ t1 ∧ q ≠ b ∧ t0 ≠ q ∧ t0 ≠ b ∧ n0 ≤ t0 ∧ t1 ≠ q ∧ t1 ≠ b ∧ n0 ≤ t1 ∧ n0 ≤ q ∧ n0 ≤ b) : TQ Z n0 h q b k [t0, t1] := by
  obtain ⟨c0, c1, c2, c3, c4, c5, c6, c7, c8, c9, c10, c11, c12, c13, c14, c15, c16, c17⟩ := T
  refine ⟨c0, c1, c2, c3, c4, c5, fun i t hi => ?_, ?_, c9, fun t ht => ?_, c16, c17⟩
  · match i, hi with
    | 0, hi => cases hi; exact c6
    | 1, hi => cases hi; exact c7
    | j + 2, hi => simp at hi
  · simp [c8]
  · simp at ht
    rcases ht with rfl | rfl
    · exact ⟨c10, c11, c12⟩
    · exact ⟨c13, c14, c15⟩
theorem TQ.open3 {Z : State} {n0 : Nat} {h : Heap} {q b : Addr} {k : ClassId} {t0 t1 t2 : Addr} (T : TQ Z n0 h q b k [t0, t1, t2]) : Exa Z h q "com/example/orderly_dispatch/orderlydispatch/TimerQueue" ∧ Fld Z h q "com/example/orderly_dispatch/orderlydispatch/TimerQueue" "heap" "[Lcom/example/orderly_dispatch/orderlydispatch/TimerQueue$Timer;" (.ref b) ∧ Fld Z h q "com/example/orderly_dispatch/orderlydispatch/TimerQueue" "size" "I" (.int (3 : Int32)) ∧ (∃ a, Fld Z h q "com/example/orderly_dispatch/orderlydispatch/TimerQueue" "added" "J" (.long a)) ∧ Ars Z h b k (.object "com/example/orderly_dispatch/orderlydispatch/TimerQueue$Timer") [(.ref t0), (.ref t1), (.ref t2), .null, .null, .null, .null, .null, .null, .null, .null, .null, .null, .null, .null, .null] ∧ Ovr Z k "com/example/orderly_dispatch/orderlydispatch/TimerQueue$Timer" ∧ Tm Z h t0 (0 : Int32) ∧ Tm Z h t1 (1 : Int32) ∧ Tm Z h t2 (2 : Int32) ∧ t0 ≠ t1 ∧ t0 ≠ t2 ∧ t1 ≠ t2 ∧ q ≠ b ∧ t0 ≠ q ∧ t0 ≠ b ∧ n0 ≤ t0 ∧ t1 ≠ q ∧ t1 ≠ b ∧ n0 ≤ t1 ∧ t2 ≠ q ∧ t2 ≠ b ∧ n0 ≤ t2 ∧ n0 ≤ q ∧ n0 ≤ b := by
  obtain ⟨e1, e2, e3, e4, e5, e6, e7, e8, e9, e10, e11, e12⟩ := T
  have d01 : t0 ≠ t1 := fun q => by subst q; simp at e8
  have d02 : t0 ≠ t2 := fun q => by subst q; simp at e8
  have d12 : t1 ≠ t2 := fun q => by subst q; simp at e8
  obtain ⟨f0, g0, i0⟩ := e10 t0 (by simp)
  obtain ⟨f1, g1, i1⟩ := e10 t1 (by simp)
  obtain ⟨f2, g2, i2⟩ := e10 t2 (by simp)
  exact ⟨e1, e2, e3, e4, e5, e6, e7 0 t0 rfl, e7 1 t1 rfl, e7 2 t2 rfl, d01, d02, d12, e9, f0, g0, i0, f1, g1, i1, f2, g2, i2, e11, e12⟩
theorem TQ.build3 {Z : State} {n0 : Nat} {h : Heap} {q b : Addr} {k : ClassId} {t0 t1 t2 : Addr} (T : Exa Z h q "com/example/orderly_dispatch/orderlydispatch/TimerQueue" ∧ Fld Z h q "com/example/orderly_dispatch/orderlydispatch/TimerQueue" "heap" "[Lcom/example/orderly_dispatch/orderlydispatch/TimerQueue$Timer;" (.ref b) ∧ Fld Z h q "com/example/orderly_dispatch/orderlydispatch/TimerQueue" "size" "I" (.int (3 : Int32)) ∧ (∃ a, Fld Z h q "com/example/orderly_dispatch/orderlydispatch/TimerQueue" "added" "J" (.long a)) ∧ Ars Z h b k (.object "com/example/orderly_dispatch/orderlydispatch/TimerQueue$Timer") [(.ref t0), (.ref t1), (.ref t2), .null, .null, .null, .null, .null, .null, .null, .null, .null, .null, .null, .null, .null] ∧ Ovr Z k "com/example/orderly_dispatch/orderlydispatch/TimerQueue$Timer" ∧ Tm Z h t0 (0 : Int32) ∧ Tm Z h t1 (1 : Int32) ∧ Tm Z h t2 (2 : Int32) ∧ t0 ≠ t1 ∧ t0 ≠ t2 ∧ t1 ≠ t2 ∧ q ≠ b ∧ t0 ≠ q ∧ t0 ≠ b ∧ n0 ≤ t0 ∧ t1 ≠ q ∧ t1 ≠ b ∧ n0 ≤ t1 ∧ t2 ≠ q ∧ t2 ≠ b ∧ n0 ≤ t2 ∧ n0 ≤ q ∧ n0 ≤ b) : TQ Z n0 h q b k [t0, t1, t2] := by
  obtain ⟨c0, c1, c2, c3, c4, c5, c6, c7, c8, c9, c10, c11, c12, c13, c14, c15, c16, c17, c18, c19, c20, c21, c22, c23⟩ := T
  refine ⟨c0, c1, c2, c3, c4, c5, fun i t hi => ?_, ?_, c12, fun t ht => ?_, c22, c23⟩
  · match i, hi with
    | 0, hi => cases hi; exact c6
    | 1, hi => cases hi; exact c7
    | 2, hi => cases hi; exact c8
    | j + 3, hi => simp at hi
  · simp [c9, c10, c11]
  · simp at ht
    rcases ht with rfl | rfl | rfl
    · exact ⟨c13, c14, c15⟩
    · exact ⟨c16, c17, c18⟩
    · exact ⟨c19, c20, c21⟩
theorem ef_Sg (m : MethodId) (x0 : Int64) : entryFrame m #[(.long x0)] 2 = mkF m 0 #[.val (.long x0), .second] [] := by first | (simp [entryFrame, mkF, argsToLocals, Value.category]; done) | rfl
set_option maxRecDepth 65536 in
set_option maxHeartbeats 40000000 in
theorem rmSg (l : Launch) (Z : State) (a0 : Array Value) (hw : ∀ d ∈ tables_1, d.before a0 Z = true) (x0 : Int64) (h0 : Heap) (n0 : Nat) (Z0 : n0 ≤ h0.size) :
    Met1 l Z ⟨"java/lang/Long", "signum", "(J)I"⟩ jdk_35_method_57_code 2 (some .int) ({ frames := 0, cells := 0, slots := 0, locals := 0 } : Room) #[(.long x0)] h0 n0 (fun v h => (∃ y, v = some (.int y)) ∧ h0 = h) := by
  refine Met1.of_body pn_9 (fun p e s m below meth c C => ?_)
  replace C : Cx p s m meth c Z "java/lang/Long" "signum" jdk_35_method_57_code 2 (some .int) := C
  refine Wk.cast (ef_Sg m x0) ?_
  refine w_lloadN C (q := 1) d9_0 rfl rfl ?_
  refine w_bipush C (q := 3) (63 : Int32) d9_1 rfl (by decide) ?_
  refine w_lshr C (q := 4) d9_3 rfl ?_
  refine w_lloadN C (q := 5) d9_4 rfl rfl ?_
  refine w_lneg C (q := 6) d9_5 rfl ?_
  refine w_bipush C (q := 8) (63 : Int32) d9_6 rfl (by decide) ?_
  refine w_lushr C (q := 9) d9_8 rfl ?_
  refine w_lor C (q := 10) d9_9 rfl ?_
  refine w_l2i C (q := 11) d9_10 rfl ?_
  exact w_retI C d9_11 (by decide) (by decide) ⟨⟨_, rfl⟩, rfl⟩
theorem ef_Cm (m : MethodId) (x0 : Int64) (x1 : Int64) : entryFrame m #[(.long x0), (.long x1)] 4 = mkF m 0 #[.val (.long x0), .second, .val (.long x1), .second] [] := by first | (simp [entryFrame, mkF, argsToLocals, Value.category]; done) | rfl
set_option maxRecDepth 65536 in
set_option maxHeartbeats 40000000 in
theorem rmCm (l : Launch) (Z : State) (a0 : Array Value) (hw : ∀ d ∈ tables_1, d.before a0 Z = true) (x0 : Int64) (x1 : Int64) (h0 : Heap) (n0 : Nat) (Z0 : n0 ≤ h0.size) :
    Met1 l Z ⟨"java/lang/Long", "compare", "(JJ)I"⟩ jdk_35_method_42_code 4 (some .int) ({ frames := 0, cells := 0, slots := 0, locals := 0 } : Room) #[(.long x0), (.long x1)] h0 n0 (fun v h => (∃ y, v = some (.int y)) ∧ h0 = h) := by
  refine Met1.of_body pn_18 (fun p e s m below meth c C => ?_)
  replace C : Cx p s m meth c Z "java/lang/Long" "compare" jdk_35_method_42_code 4 (some .int) := C
  refine Wk.cast (ef_Cm m x0 x1) ?_
  refine w_lloadN C (q := 1) d18_0 rfl rfl ?_
  refine w_lloadN C (q := 2) d18_1 rfl rfl ?_
  refine w_lcmp C (q := 3) d18_2 rfl ?_
  refine w_llge C (q := 10) (q' := 6) d18_3 (by decide) (by decide) rfl (fun hc3 => ?_) (fun hc3 => ?_)
  · refine w_lloadN C (q := 11) d18_10 rfl rfl ?_
    refine w_lloadN C (q := 12) d18_11 rfl rfl ?_
    refine w_lcmp C (q := 13) d18_12 rfl ?_
    refine w_llne C (q := 20) (q' := 16) d18_13 (by decide) (by decide) rfl (fun hc13 => ?_) (fun hc13 => ?_)
    · refine w_iconst C (q := 21) (1 : Int32) d18_20 rfl (by decide) ?_
      exact w_retI C d18_21 (by decide) (by decide) ⟨⟨_, rfl⟩, rfl⟩
    · refine w_iconst C (q := 17) (0 : Int32) d18_16 rfl (by decide) ?_
      refine w_goto C (q := 21) d18_17 (by decide) (by decide) ?_
      exact w_retI C d18_21 (by decide) (by decide) ⟨⟨_, rfl⟩, rfl⟩
  · refine w_iconst C (q := 7) (-1 : Int32) d18_6 rfl (by decide) ?_
    refine w_goto C (q := 21) d18_7 (by decide) (by decide) ?_
    exact w_retI C d18_21 (by decide) (by decide) ⟨⟨_, rfl⟩, rfl⟩
theorem ef_CT (m : MethodId) (a1 : Nat) (a2 : Nat) : entryFrame m #[(.ref a1), (.ref a2)] 4 = mkF m 0 #[.val (.ref a1), .val (.ref a2), .unset, .unset] [] := by first | (simp [entryFrame, mkF, argsToLocals, Value.category]; done) | rfl
set_option maxRecDepth 65536 in
set_option maxHeartbeats 40000000 in
theorem rmCT (l : Launch) (Z : State) (a0 : Array Value) (hw : ∀ d ∈ tables_1, d.before a0 Z = true) (a1 : Nat) (a2 : Nat) (h0 : Heap) (n0 : Nat) (Z0 : n0 ≤ h0.size) (d1 q1 : Int64) (D_a1 : Fld Z h0 a1 "com/example/orderly_dispatch/orderlydispatch/TimerQueue$Timer" "dueNanos" "J" (.long d1)) (S_a1 : Fld Z h0 a1 "com/example/orderly_dispatch/orderlydispatch/TimerQueue$Timer" "sequence" "J" (.long q1)) (d2 q2 : Int64) (D_a2 : Fld Z h0 a2 "com/example/orderly_dispatch/orderlydispatch/TimerQueue$Timer" "dueNanos" "J" (.long d2)) (S_a2 : Fld Z h0 a2 "com/example/orderly_dispatch/orderlydispatch/TimerQueue$Timer" "sequence" "J" (.long q2)) :
    Met1 l Z ⟨"com/example/orderly_dispatch/orderlydispatch/TimerQueue$Timer", "compareTo", "(Lcom/example/orderly_dispatch/orderlydispatch/TimerQueue$Timer;)I"⟩ prog_26_method_6_code 4 (some .int) ({ frames := 1, cells := 0, slots := 0, locals := 15 } : Room) #[(.ref a1), (.ref a2)] h0 n0 (fun v h => (∃ y, v = some (.int y)) ∧ h0 = h) := by
  refine Met1.of_body pn_8 (fun p e s m below meth c C => ?_)
  replace C : Cx p s m meth c Z "com/example/orderly_dispatch/orderlydispatch/TimerQueue$Timer" "compareTo" prog_26_method_6_code 4 (some .int) := C
  refine Wk.cast (ef_CT m a1 a2) ?_
  refine w_aloadN C (q := 1) d8_0 rfl rfl rfl ?_
  refine w_getF C (q := 4) (host := "") (Or.inl (hw _ (List.mem_of_getElem? (i := 39) rfl))) Via.refl D_a1 d8_1 rfl ?_
  refine w_aloadN C (q := 5) d8_4 rfl rfl rfl ?_
  refine w_getF C (q := 8) (host := "") (Or.inl (hw _ (List.mem_of_getElem? (i := 39) rfl))) Via.refl D_a2 d8_5 rfl ?_
  refine w_lsub C (q := 9) d8_8 rfl ?_
  refine w_lstoreN C (q := 10) #[.val (.ref a1), .val (.ref a2), .val (.long (d1 - d2)), .second] d8_9 rfl rfl ?_
  refine w_lloadN C (q := 11) d8_10 rfl rfl ?_
  refine w_lconst C (q := 12) (0 : Int64) d8_11 rfl (by decide) ?_
  refine w_lcmp C (q := 13) d8_12 rfl ?_
  refine w_llne C (q := 30) (q' := 16) d8_13 (by decide) (by decide) rfl (fun hc13 => ?_) (fun hc13 => ?_)
  · refine w_lloadN C (q := 31) d8_30 rfl rfl ?_
    refine w_static C (q := 34) (y := ⟨"java/lang/Long", "signum", "(J)I"⟩) (rm := ({ frames := 0, cells := 0, slots := 0, locals := 0 } : Room)) (argsL := [(.long (d1 - d2))]) (hw _ (List.mem_of_getElem? (i := 58) rfl)) (hw _ (List.mem_of_getElem? (i := 59) rfl)) (hw _ (List.mem_of_getElem? (i := 60) rfl)) (hw _ (List.mem_of_getElem? (i := 61) rfl)) (rmSg l Z a0 hw _ _ n0 Z0) (by decide) (rest := []) (lenOf pd_0 rfl) rfl d8_31 rfl rfl (by decide) (Nat.le_of_ble_eq_true rfl) (by decide) (by decide) ?_
    intro v h1 hQ
    obtain ⟨⟨y, rfl⟩, rfl⟩ := hQ
    refine Wk.v1 ?_
    exact w_retI C d8_34 (by decide) (by decide) ⟨⟨_, rfl⟩, rfl⟩
  · refine w_aloadN C (q := 17) d8_16 rfl rfl rfl ?_
    refine w_getF C (q := 20) (host := "") (Or.inl (hw _ (List.mem_of_getElem? (i := 41) rfl))) Via.refl S_a1 d8_17 rfl ?_
    refine w_aloadN C (q := 21) d8_20 rfl rfl rfl ?_
    refine w_getF C (q := 24) (host := "") (Or.inl (hw _ (List.mem_of_getElem? (i := 41) rfl))) Via.refl S_a2 d8_21 rfl ?_
    refine w_static C (q := 27) (y := ⟨"java/lang/Long", "compare", "(JJ)I"⟩) (rm := ({ frames := 0, cells := 0, slots := 0, locals := 0 } : Room)) (argsL := [(.long q1), (.long q2)]) (hw _ (List.mem_of_getElem? (i := 109) rfl)) (hw _ (List.mem_of_getElem? (i := 110) rfl)) (hw _ (List.mem_of_getElem? (i := 60) rfl)) (hw _ (List.mem_of_getElem? (i := 111) rfl)) (rmCm l Z a0 hw q1 q2 _ n0 Z0) (by decide) (rest := []) (lenOf pd_1 rfl) rfl d8_24 rfl rfl (by decide) (Nat.le_of_ble_eq_true rfl) (by decide) (by decide) ?_
    intro v h2 hQ
    obtain ⟨⟨y, rfl⟩, rfl⟩ := hQ
    refine Wk.v1 ?_
    refine w_goto C (q := 34) d8_27 (by decide) (by decide) ?_
    exact w_retI C d8_34 (by decide) (by decide) ⟨⟨_, rfl⟩, rfl⟩
theorem ef_IQ (m : MethodId) (a1 : Nat) : entryFrame m #[(.ref a1)] 1 = mkF m 0 #[.val (.ref a1)] [] := by first | (simp [entryFrame, mkF, argsToLocals, Value.category]; done) | rfl
set_option maxRecDepth 65536 in
set_option maxHeartbeats 40000000 in
theorem rmIQ (l : Launch) (Z : State) (a0 : Array Value) (hw : ∀ d ∈ tables_1, d.before a0 Z = true) (a1 : Nat) (h0 : Heap) (n0 : Nat) (Z0 : n0 ≤ h0.size) (i : Int32) (X : Fld Z h0 a1 "com/example/orderly_dispatch/orderlydispatch/TimerQueue$Timer" "index" "I" (.int i)) (hi : ¬ i < 0) :
    Met1 l Z ⟨"com/example/orderly_dispatch/orderlydispatch/TimerQueue$Timer", "isQueued", "()Z"⟩ prog_26_method_4_code 1 (some .boolean) ({ frames := 0, cells := 0, slots := 0, locals := 0 } : Room) #[(.ref a1)] h0 n0 (fun v h => v = some (.int 1) ∧ h0 = h) := by
  refine Met1.of_body pn_11 (fun p e s m below meth c C => ?_)
  replace C : Cx p s m meth c Z "com/example/orderly_dispatch/orderlydispatch/TimerQueue$Timer" "isQueued" prog_26_method_4_code 1 (some .boolean) := C
  refine Wk.cast (ef_IQ m a1) ?_
  refine w_aloadN C (q := 1) d11_0 rfl rfl rfl ?_
  refine w_getF C (q := 4) (host := "") (Or.inl (hw _ (List.mem_of_getElem? (i := 35) rfl))) Via.refl X d11_1 rfl ?_
  refine w_iflt_f C (q := 7) d11_4 rfl hi ?_
  refine w_iconst C (q := 8) (1 : Int32) d11_7 rfl (by decide) ?_
  refine w_goto C (q := 12) d11_8 (by decide) (by decide) ?_
  exact w_retN C d11_12 (by decide) (by decide) ⟨rfl, rfl⟩
theorem ef_IE (m : MethodId) (a1 : Nat) : entryFrame m #[(.ref a1)] 1 = mkF m 0 #[.val (.ref a1)] [] := by first | (simp [entryFrame, mkF, argsToLocals, Value.category]; done) | rfl
set_option maxRecDepth 65536 in
set_option maxHeartbeats 40000000 in
theorem rmIE (l : Launch) (Z : State) (a0 : Array Value) (hw : ∀ d ∈ tables_1, d.before a0 Z = true) (a1 : Nat) (h0 : Heap) (n0 : Nat) (Z0 : n0 ≤ h0.size) (i : Int32) (X : Fld Z h0 a1 "com/example/orderly_dispatch/orderlydispatch/TimerQueue" "size" "I" (.int i)) :
    Met1 l Z ⟨"com/example/orderly_dispatch/orderlydispatch/TimerQueue", "isEmpty", "()Z"⟩ prog_25_method_9_code 1 (some .boolean) ({ frames := 0, cells := 0, slots := 0, locals := 0 } : Room) #[(.ref a1)] h0 n0 (fun v h => v = some (.int (if i = 0 then (1 : Int32) else 0)) ∧ h0 = h) := by
  refine Met1.of_body pn_3 (fun p e s m below meth c C => ?_)
  replace C : Cx p s m meth c Z "com/example/orderly_dispatch/orderlydispatch/TimerQueue" "isEmpty" prog_25_method_9_code 1 (some .boolean) := C
  refine Wk.cast (ef_IE m a1) ?_
  refine w_aloadN C (q := 1) d3_0 rfl rfl rfl ?_
  refine w_getF C (q := 4) (host := "") (Or.inl (hw _ (List.mem_of_getElem? (i := 18) rfl))) Via.refl X d3_1 rfl ?_
  refine w_ifne C (q := 11) (q' := 7) d3_4 (by decide) (by decide) rfl (fun hc4 => ?_) (fun hc4 => ?_)
  · refine w_iconst C (q := 12) (0 : Int32) d3_11 rfl (by decide) ?_
    exact w_retN C d3_12 (by decide) (by decide) ⟨by rw [if_neg hc4]; rfl, rfl⟩
  · refine w_iconst C (q := 8) (1 : Int32) d3_7 rfl (by decide) ?_
    refine w_goto C (q := 12) d3_8 (by decide) (by decide) ?_
    exact w_retN C d3_12 (by decide) (by decide) ⟨by rw [if_pos hc4]; rfl, rfl⟩
/-- put(i, t): the place i of the array b holds t, and t knows its place -/
def Put (Z : State) (h h' : Heap) (b t : Addr) (i : Int32) : Prop := ∃ h1, Wr h h1 b i.toNatClampNeg (.ref t) ∧ Wr h1 h' t (Jvm.RoadKit.slotOf Z "com/example/orderly_dispatch/orderlydispatch/TimerQueue$Timer" "index" "I") (.int i)
theorem ef_Put (m : MethodId) (q : Nat) (x0 : Int32) (t : Nat) : entryFrame m #[(.ref q), (.int x0), (.ref t)] 3 = mkF m 0 #[.val (.ref q), .val (.int x0), .val (.ref t)] [] := by first | (simp [entryFrame, mkF, argsToLocals, Value.category]; done) | rfl
set_option maxRecDepth 65536 in
set_option maxHeartbeats 40000000 in
theorem rmPut (l : Launch) (Z : State) (a0 : Array Value) (hw : ∀ d ∈ tables_1, d.before a0 Z = true) (q : Nat) (x0 : Int32) (t : Nat) (h0 : Heap) (n0 : Nat) (Z0 : n0 ≤ h0.size) (b : Addr) (k : ClassId) (vs : List Value) (j : Int32) (H : Fld Z h0 q "com/example/orderly_dispatch/orderlydispatch/TimerQueue" "heap" "[Lcom/example/orderly_dispatch/orderlydispatch/TimerQueue$Timer;" (.ref b)) (A : Ars Z h0 b k (.object "com/example/orderly_dispatch/orderlydispatch/TimerQueue$Timer") vs) (O : Ovr Z k "com/example/orderly_dispatch/orderlydispatch/TimerQueue$Timer") (E : Exa Z h0 t "com/example/orderly_dispatch/orderlydispatch/TimerQueue$Timer") (X : Fld Z h0 t "com/example/orderly_dispatch/orderlydispatch/TimerQueue$Timer" "index" "I" (.int j)) (hi : ¬ x0 < 0) (hlt : x0.toNatClampNeg < vs.length) (hne : t ≠ b) (g_b : n0 ≤ b) (g_t : n0 ≤ t) :
    Met1 l Z ⟨"com/example/orderly_dispatch/orderlydispatch/TimerQueue", "put", "(ILcom/example/orderly_dispatch/orderlydispatch/TimerQueue$Timer;)V"⟩ prog_25_method_13_code 3 none ({ frames := 0, cells := 0, slots := 0, locals := 0 } : Room) #[(.ref q), (.int x0), (.ref t)] h0 n0 (fun v h => v = none ∧ Put Z h0 h b t x0) := by
  refine Met1.of_body pn_7 (fun p e s m below meth c C => ?_)
  replace C : Cx p s m meth c Z "com/example/orderly_dispatch/orderlydispatch/TimerQueue" "put" prog_25_method_13_code 3 none := C
  refine Wk.cast (ef_Put m q x0 t) ?_
  refine w_aloadN C (q := 1) d7_0 rfl rfl rfl ?_
  refine w_getF C (q := 4) (host := "") (Or.inl (hw _ (List.mem_of_getElem? (i := 11) rfl))) Via.refl H d7_1 rfl ?_
  refine w_iloadN C (q := 5) d7_4 rfl rfl ?_
  refine w_aloadN C (q := 6) d7_5 rfl rfl rfl ?_
  refine w_aastore C (q := 7) A rfl (A.sto O (Ins.self E)) hi hlt d7_6 rfl g_b ?_
  intro h1 W1 A'
  replace E := E.wr W1
  replace X := X.other W1 (Or.inl hne)
  refine w_aloadN C (q := 8) d7_7 rfl rfl rfl ?_
  refine w_iloadN C (q := 9) d7_8 rfl rfl ?_
  refine w_putFR C (q := 12) (hw _ (List.mem_of_getElem? (i := 52) rfl)) X E (hw _ (List.mem_of_getElem? (i := 36) rfl)) (hw _ (List.mem_of_getElem? (i := 25) rfl)) (ty := .int) (by decide) rfl rfl d7_9 rfl g_t ?_
  intro h2 W2
  exact w_ret0 C d7_12 (by decide) (by decide) ⟨rfl, h1, W1, W2⟩
theorem Put.size {Z : State} {h h' : Heap} {b t : Addr} {i : Int32} (P : Put Z h h' b t i) : h.size ≤ h'.size := by
  obtain ⟨h1, W1, W2⟩ := P
  rw [W2.size, W1.size]; exact Nat.le_refl _
theorem ef_U0 (m : MethodId) (q : Nat) (t : Nat) : entryFrame m #[(.ref q), (.int (0 : Int32)), (.ref t)] 5 = mkF m 0 #[.val (.ref q), .val (.int (0 : Int32)), .val (.ref t), .unset, .unset] [] := by first | (simp [entryFrame, mkF, argsToLocals, Value.category]; done) | rfl
set_option maxRecDepth 65536 in
set_option maxHeartbeats 40000000 in
theorem rmU0 (l : Launch) (Z : State) (a0 : Array Value) (hw : ∀ d ∈ tables_1, d.before a0 Z = true) (q : Nat) (t : Nat) (h0 : Heap) (n0 : Nat) (Z0 : n0 ≤ h0.size) (b : Addr) (k : ClassId) (E_q : Exa Z h0 q "com/example/orderly_dispatch/orderlydispatch/TimerQueue") (H : Fld Z h0 q "com/example/orderly_dispatch/orderlydispatch/TimerQueue" "heap" "[Lcom/example/orderly_dispatch/orderlydispatch/TimerQueue$Timer;" (.ref b)) (O : Ovr Z k "com/example/orderly_dispatch/orderlydispatch/TimerQueue$Timer") (g_b : n0 ≤ b) (vs : List Value) (A : Ars Z h0 b k (.object "com/example/orderly_dispatch/orderlydispatch/TimerQueue$Timer") vs) (hlen : vs.length = 16) (j : Int32) (d_t s_t : Int64) (E_t : Exa Z h0 t "com/example/orderly_dispatch/orderlydispatch/TimerQueue$Timer") (X_t : Fld Z h0 t "com/example/orderly_dispatch/orderlydispatch/TimerQueue$Timer" "index" "I" (.int j)) (D_t : Fld Z h0 t "com/example/orderly_dispatch/orderlydispatch/TimerQueue$Timer" "dueNanos" "J" (.long d_t)) (S_t : Fld Z h0 t "com/example/orderly_dispatch/orderlydispatch/TimerQueue$Timer" "sequence" "J" (.long s_t)) (n_t_b : t ≠ b) (n_q_b : q ≠ b) (n_t_q : t ≠ q) (g_t : n0 ≤ t) :
    Met1 l Z ⟨"com/example/orderly_dispatch/orderlydispatch/TimerQueue", "siftUp", "(ILcom/example/orderly_dispatch/orderlydispatch/TimerQueue$Timer;)V"⟩ prog_25_method_11_code 5 none ({ frames := 2, cells := 0, slots := 0, locals := 33 } : Room) #[(.ref q), (.int (0 : Int32)), (.ref t)] h0 n0 (fun v h => v = none ∧ Put Z h0 h b t (0 : Int32)) := by
  refine Met1.of_body pn_6 (fun p e s m below meth c C => ?_)
  replace C : Cx p s m meth c Z "com/example/orderly_dispatch/orderlydispatch/TimerQueue" "siftUp" prog_25_method_11_code 5 none := C
  refine Wk.cast (ef_U0 m q t) ?_
  refine w_iloadN C (q := 1) d6_0 rfl rfl ?_
  refine w_istoreN C (q := 2) #[.val (.ref q), .val (.int (0 : Int32)), .val (.ref t), .val (.int (0 : Int32)), .unset] d6_1 rfl rfl ?_
  refine w_iloadN C (q := 3) d6_2 rfl rfl ?_
  refine w_ifle_t C (q := 48) d6_3 (by decide) (by decide) (by decide) ?_
  refine w_aloadN C (q := 49) d6_48 rfl rfl rfl ?_
  refine w_iloadN C (q := 50) d6_49 rfl rfl ?_
  refine w_aloadN C (q := 51) d6_50 rfl rfl rfl ?_
  refine w_private C (q := 54) (y := ⟨"com/example/orderly_dispatch/orderlydispatch/TimerQueue", "put", "(ILcom/example/orderly_dispatch/orderlydispatch/TimerQueue$Timer;)V"⟩) (rm := ({ frames := 0, cells := 0, slots := 0, locals := 0 } : Room)) (a := q) (argsL := [(.int (0 : Int32)), (.ref t)]) (hw _ (List.mem_of_getElem? (i := 47) rfl)) (hw _ (List.mem_of_getElem? (i := 48) rfl)) (sel_private (by decide) (hw _ (List.mem_of_getElem? (i := 1) rfl)) (hw _ (List.mem_of_getElem? (i := 49) rfl)) (hw _ (List.mem_of_getElem? (i := 48) rfl))) (hw _ (List.mem_of_getElem? (i := 49) rfl)) (hw _ (List.mem_of_getElem? (i := 2) rfl)) (hw _ (List.mem_of_getElem? (i := 50) rfl)) E_q (rmPut l Z a0 hw q (0 : Int32) t _ n0 Z0 b k _ j H A O E_t X_t (by decide) (by rw [hlen]; decide) n_t_b g_b g_t) (by decide) (rest := []) (lenOf pd_2 rfl) rfl d6_51 rfl rfl (by decide) (Nat.le_of_ble_eq_true rfl) (by decide) (by decide) ?_
  intro v h3 hQ
  obtain ⟨rfl, hPut⟩ := hQ
  refine Wk.v0 ?_
  exact w_ret0 C d6_54 (by decide) (by decide) ⟨rfl, hPut⟩
theorem ef_U1 (m : MethodId) (q : Nat) (t : Nat) : entryFrame m #[(.ref q), (.int (1 : Int32)), (.ref t)] 5 = mkF m 0 #[.val (.ref q), .val (.int (1 : Int32)), .val (.ref t), .unset, .unset] [] := by first | (simp [entryFrame, mkF, argsToLocals, Value.category]; done) | rfl
set_option maxRecDepth 65536 in
set_option maxHeartbeats 40000000 in
theorem rmU1 (l : Launch) (Z : State) (a0 : Array Value) (hw : ∀ d ∈ tables_1, d.before a0 Z = true) (q : Nat) (t : Nat) (h0 : Heap) (n0 : Nat) (Z0 : n0 ≤ h0.size) (b : Addr) (k : ClassId) (E_q : Exa Z h0 q "com/example/orderly_dispatch/orderlydispatch/TimerQueue") (H : Fld Z h0 q "com/example/orderly_dispatch/orderlydispatch/TimerQueue" "heap" "[Lcom/example/orderly_dispatch/orderlydispatch/TimerQueue$Timer;" (.ref b)) (O : Ovr Z k "com/example/orderly_dispatch/orderlydispatch/TimerQueue$Timer") (g_b : n0 ≤ b) (vs : List Value) (A : Ars Z h0 b k (.object "com/example/orderly_dispatch/orderlydispatch/TimerQueue$Timer") vs) (hlen : vs.length = 16) (t0 : Addr) (hat : vs[0]? = some (.ref t0)) (j j0 : Int32) (d_t s_t : Int64) (E_t : Exa Z h0 t "com/example/orderly_dispatch/orderlydispatch/TimerQueue$Timer") (X_t : Fld Z h0 t "com/example/orderly_dispatch/orderlydispatch/TimerQueue$Timer" "index" "I" (.int j)) (D_t : Fld Z h0 t "com/example/orderly_dispatch/orderlydispatch/TimerQueue$Timer" "dueNanos" "J" (.long d_t)) (S_t : Fld Z h0 t "com/example/orderly_dispatch/orderlydispatch/TimerQueue$Timer" "sequence" "J" (.long s_t)) (d_t0 s_t0 : Int64) (E_t0 : Exa Z h0 t0 "com/example/orderly_dispatch/orderlydispatch/TimerQueue$Timer") (X_t0 : Fld Z h0 t0 "com/example/orderly_dispatch/orderlydispatch/TimerQueue$Timer" "index" "I" (.int j0)) (D_t0 : Fld Z h0 t0 "com/example/orderly_dispatch/orderlydispatch/TimerQueue$Timer" "dueNanos" "J" (.long d_t0)) (S_t0 : Fld Z h0 t0 "com/example/orderly_dispatch/orderlydispatch/TimerQueue$Timer" "sequence" "J" (.long s_t0)) (n_t_b : t ≠ b) (n_q_b : q ≠ b) (n_t_q : t ≠ q) (n_t0_b : t0 ≠ b) (n_t0_q : t0 ≠ q) (n_t_t0 : t ≠ t0) (g_t : n0 ≤ t) (g_t0 : n0 ≤ t0) :
    Met1 l Z ⟨"com/example/orderly_dispatch/orderlydispatch/TimerQueue", "siftUp", "(ILcom/example/orderly_dispatch/orderlydispatch/TimerQueue$Timer;)V"⟩ prog_25_method_11_code 5 none ({ frames := 2, cells := 0, slots := 0, locals := 33 } : Room) #[(.ref q), (.int (1 : Int32)), (.ref t)] h0 n0 (fun v h => v = none ∧ (Put Z h0 h b t (1 : Int32) ∨ ∃ h1, Put Z h0 h1 b t0 (1 : Int32) ∧ Put Z h1 h b t (0 : Int32))) := by
  refine Met1.of_body pn_6 (fun p e s m below meth c C => ?_)
  replace C : Cx p s m meth c Z "com/example/orderly_dispatch/orderlydispatch/TimerQueue" "siftUp" prog_25_method_11_code 5 none := C
  refine Wk.cast (ef_U1 m q t) ?_
  refine w_iloadN C (q := 1) d6_0 rfl rfl ?_
  refine w_istoreN C (q := 2) #[.val (.ref q), .val (.int (1 : Int32)), .val (.ref t), .val (.int (1 : Int32)), .unset] d6_1 rfl rfl ?_
  refine w_iloadN C (q := 3) d6_2 rfl rfl ?_
  refine w_ifle_f C (q := 6) d6_3 rfl (by decide) ?_
  refine w_iloadN C (q := 7) d6_6 rfl rfl ?_
  refine w_iconst C (q := 8) (1 : Int32) d6_7 rfl (by decide) ?_
  refine w_isub C (q := 9) d6_8 rfl ?_
  refine w_iconst C (q := 10) (1 : Int32) d6_9 rfl (by decide) ?_
  refine w_iushr C (q := 11) d6_10 rfl ?_
  refine w_istore C (q := 13) #[.val (.ref q), .val (.int (1 : Int32)), .val (.ref t), .val (.int (1 : Int32)), .val (.int (0 : Int32))] d6_11 rfl rfl ?_
  refine w_aloadN C (q := 14) d6_13 rfl rfl rfl ?_
  refine w_getF C (q := 17) (host := "") (Or.inl (hw _ (List.mem_of_getElem? (i := 11) rfl))) Via.refl H d6_14 rfl ?_
  refine w_iload C (q := 19) d6_17 rfl rfl ?_
  refine w_aaload C (q := 20) A rfl (.ref t0) (by decide) hat d6_19 rfl ?_
  refine w_aloadN C (q := 21) d6_20 rfl rfl rfl ?_
  refine w_virtual C (q := 24) (y := ⟨"com/example/orderly_dispatch/orderlydispatch/TimerQueue$Timer", "compareTo", "(Lcom/example/orderly_dispatch/orderlydispatch/TimerQueue$Timer;)I"⟩) (z := ⟨"com/example/orderly_dispatch/orderlydispatch/TimerQueue$Timer", "compareTo", "(Lcom/example/orderly_dispatch/orderlydispatch/TimerQueue$Timer;)I"⟩) (rm := ({ frames := 1, cells := 0, slots := 0, locals := 15 } : Room)) (a := t0) (argsL := [(.ref t)]) (hw _ (List.mem_of_getElem? (i := 53) rfl)) (hw _ (List.mem_of_getElem? (i := 54) rfl)) (hw _ (List.mem_of_getElem? (i := 56) rfl)) (hw _ (List.mem_of_getElem? (i := 56) rfl)) (hw _ (List.mem_of_getElem? (i := 55) rfl)) (hw _ (List.mem_of_getElem? (i := 26) rfl)) (hw _ (List.mem_of_getElem? (i := 57) rfl)) E_t0 (rmCT l Z a0 hw t0 t _ n0 Z0 d_t0 s_t0 D_t0 S_t0 d_t s_t D_t S_t) (by decide) (rest := []) (lenOf pd_3 rfl) rfl d6_21 rfl rfl (by decide) (Nat.le_of_ble_eq_true rfl) (by decide) (by decide) ?_
  intro v h4 hQ
  obtain ⟨⟨y, rfl⟩, rfl⟩ := hQ
  refine Wk.v1 ?_
  refine w_ifgt C (q := 30) (q' := 27) d6_24 (by decide) (by decide) rfl (fun hc24 => ?_) (fun hc24 => ?_)
  · refine w_aloadN C (q := 31) d6_30 rfl rfl rfl ?_
    refine w_iloadN C (q := 32) d6_31 rfl rfl ?_
    refine w_aloadN C (q := 33) d6_32 rfl rfl rfl ?_
    refine w_getF C (q := 36) (host := "") (Or.inl (hw _ (List.mem_of_getElem? (i := 11) rfl))) Via.refl H d6_33 rfl ?_
    refine w_iload C (q := 38) d6_36 rfl rfl ?_
    refine w_aaload C (q := 39) A rfl (.ref t0) (by decide) hat d6_38 rfl ?_
    refine w_private C (q := 42) (y := ⟨"com/example/orderly_dispatch/orderlydispatch/TimerQueue", "put", "(ILcom/example/orderly_dispatch/orderlydispatch/TimerQueue$Timer;)V"⟩) (rm := ({ frames := 0, cells := 0, slots := 0, locals := 0 } : Room)) (a := q) (argsL := [(.int (1 : Int32)), (.ref t0)]) (hw _ (List.mem_of_getElem? (i := 47) rfl)) (hw _ (List.mem_of_getElem? (i := 48) rfl)) (sel_private (by decide) (hw _ (List.mem_of_getElem? (i := 1) rfl)) (hw _ (List.mem_of_getElem? (i := 49) rfl)) (hw _ (List.mem_of_getElem? (i := 48) rfl))) (hw _ (List.mem_of_getElem? (i := 49) rfl)) (hw _ (List.mem_of_getElem? (i := 2) rfl)) (hw _ (List.mem_of_getElem? (i := 50) rfl)) E_q (rmPut l Z a0 hw q (1 : Int32) t0 _ n0 Z0 b k _ j0 H A O E_t0 X_t0 (by decide) (by rw [hlen]; decide) n_t0_b g_b g_t0) (by decide) (rest := []) (lenOf pd_2 rfl) rfl d6_39 rfl rfl (by decide) (Nat.le_of_ble_eq_true rfl) (by decide) (by decide) ?_
    intro v h5 hQ
    obtain ⟨rfl, hP1⟩ := hQ
    have hP1' := hP1
    obtain ⟨hp1, WA1, WB1⟩ := hP1'
    replace A := A.set WA1
    replace E_q := E_q.wr WA1
    replace H := H.other WA1 (Or.inl n_q_b)
    replace E_t := E_t.wr WA1
    replace X_t := X_t.other WA1 (Or.inl n_t_b)
    replace D_t := D_t.other WA1 (Or.inl n_t_b)
    replace S_t := S_t.other WA1 (Or.inl n_t_b)
    replace E_t0 := E_t0.wr WA1
    replace X_t0 := X_t0.other WA1 (Or.inl n_t0_b)
    replace D_t0 := D_t0.other WA1 (Or.inl n_t0_b)
    replace S_t0 := S_t0.other WA1 (Or.inl n_t0_b)
    replace Z0 := Nat.le_trans Z0 (Nat.le_of_eq (Wr.size WA1).symm)
    replace E_q := E_q.wr WB1
    replace H := H.other WB1 (Or.inl (Ne.symm n_t0_q))
    replace A := A.other WB1 (Ne.symm n_t0_b)
    replace E_t := E_t.wr WB1
    replace X_t := X_t.other WB1 (Or.inl n_t_t0)
    replace D_t := D_t.other WB1 (Or.inl n_t_t0)
    replace S_t := S_t.other WB1 (Or.inl n_t_t0)
    replace E_t0 := E_t0.wr WB1
    replace X_t0 := X_t0.same WB1
    replace D_t0 := D_t0.other WB1 (Or.inr (slot_ne (Or.inr (hw _ (List.mem_of_getElem? (i := 40) rfl))) (Or.inl (hw _ (List.mem_of_getElem? (i := 36) rfl))) (by decide) (t := .long) (t' := .int) (by decide) (by decide)))
    replace S_t0 := S_t0.other WB1 (Or.inr (slot_ne (Or.inr (hw _ (List.mem_of_getElem? (i := 42) rfl))) (Or.inl (hw _ (List.mem_of_getElem? (i := 36) rfl))) (by decide) (t := .long) (t' := .int) (by decide) (by decide)))
    replace Z0 := Nat.le_trans Z0 (Nat.le_of_eq (Wr.size WB1).symm)
    refine Wk.v0 ?_
    refine w_iload C (q := 44) d6_42 rfl rfl ?_
    refine w_istoreN C (q := 45) #[.val (.ref q), .val (.int (1 : Int32)), .val (.ref t), .val (.int (0 : Int32)), .val (.int (0 : Int32))] d6_44 rfl rfl ?_
    refine w_goto C (q := 2) d6_45 (by decide) (by decide) ?_
    refine w_iloadN C (q := 3) d6_2 rfl rfl ?_
    refine w_ifle_t C (q := 48) d6_3 (by decide) (by decide) (by decide) ?_
    refine w_aloadN C (q := 49) d6_48 rfl rfl rfl ?_
    refine w_iloadN C (q := 50) d6_49 rfl rfl ?_
    refine w_aloadN C (q := 51) d6_50 rfl rfl rfl ?_
    refine w_private C (q := 54) (y := ⟨"com/example/orderly_dispatch/orderlydispatch/TimerQueue", "put", "(ILcom/example/orderly_dispatch/orderlydispatch/TimerQueue$Timer;)V"⟩) (rm := ({ frames := 0, cells := 0, slots := 0, locals := 0 } : Room)) (a := q) (argsL := [(.int (0 : Int32)), (.ref t)]) (hw _ (List.mem_of_getElem? (i := 47) rfl)) (hw _ (List.mem_of_getElem? (i := 48) rfl)) (sel_private (by decide) (hw _ (List.mem_of_getElem? (i := 1) rfl)) (hw _ (List.mem_of_getElem? (i := 49) rfl)) (hw _ (List.mem_of_getElem? (i := 48) rfl))) (hw _ (List.mem_of_getElem? (i := 49) rfl)) (hw _ (List.mem_of_getElem? (i := 2) rfl)) (hw _ (List.mem_of_getElem? (i := 50) rfl)) E_q (rmPut l Z a0 hw q (0 : Int32) t _ n0 Z0 b k _ j H A O E_t X_t (by decide) (by rw [List.length_set, hlen]; decide) n_t_b g_b g_t) (by decide) (rest := []) (lenOf pd_2 rfl) rfl d6_51 rfl rfl (by decide) (Nat.le_of_ble_eq_true rfl) (by decide) (by decide) ?_
    intro v h6 hQ
    obtain ⟨rfl, hP2⟩ := hQ
    refine Wk.v0 ?_
    exact w_ret0 C d6_54 (by decide) (by decide) ⟨rfl, Or.inr ⟨_, hP1, hP2⟩⟩
  · refine w_goto C (q := 48) d6_27 (by decide) (by decide) ?_
    refine w_aloadN C (q := 49) d6_48 rfl rfl rfl ?_
    refine w_iloadN C (q := 50) d6_49 rfl rfl ?_
    refine w_aloadN C (q := 51) d6_50 rfl rfl rfl ?_
    refine w_private C (q := 54) (y := ⟨"com/example/orderly_dispatch/orderlydispatch/TimerQueue", "put", "(ILcom/example/orderly_dispatch/orderlydispatch/TimerQueue$Timer;)V"⟩) (rm := ({ frames := 0, cells := 0, slots := 0, locals := 0 } : Room)) (a := q) (argsL := [(.int (1 : Int32)), (.ref t)]) (hw _ (List.mem_of_getElem? (i := 47) rfl)) (hw _ (List.mem_of_getElem? (i := 48) rfl)) (sel_private (by decide) (hw _ (List.mem_of_getElem? (i := 1) rfl)) (hw _ (List.mem_of_getElem? (i := 49) rfl)) (hw _ (List.mem_of_getElem? (i := 48) rfl))) (hw _ (List.mem_of_getElem? (i := 49) rfl)) (hw _ (List.mem_of_getElem? (i := 2) rfl)) (hw _ (List.mem_of_getElem? (i := 50) rfl)) E_q (rmPut l Z a0 hw q (1 : Int32) t _ n0 Z0 b k _ j H A O E_t X_t (by decide) (by rw [hlen]; decide) n_t_b g_b g_t) (by decide) (rest := []) (lenOf pd_2 rfl) rfl d6_51 rfl rfl (by decide) (Nat.le_of_ble_eq_true rfl) (by decide) (by decide) ?_
    intro v h7 hQ
    obtain ⟨rfl, hP2⟩ := hQ
    refine Wk.v0 ?_
    exact w_ret0 C d6_54 (by decide) (by decide) ⟨rfl, Or.inl hP2⟩
theorem ef_U2 (m : MethodId) (q : Nat) (t : Nat) : entryFrame m #[(.ref q), (.int (2 : Int32)), (.ref t)] 5 = mkF m 0 #[.val (.ref q), .val (.int (2 : Int32)), .val (.ref t), .unset, .unset] [] := by first | (simp [entryFrame, mkF, argsToLocals, Value.category]; done) | rfl
set_option maxRecDepth 65536 in
set_option maxHeartbeats 40000000 in
theorem rmU2 (l : Launch) (Z : State) (a0 : Array Value) (hw : ∀ d ∈ tables_1, d.before a0 Z = true) (q : Nat) (t : Nat) (h0 : Heap) (n0 : Nat) (Z0 : n0 ≤ h0.size) (b : Addr) (k : ClassId) (E_q : Exa Z h0 q "com/example/orderly_dispatch/orderlydispatch/TimerQueue") (H : Fld Z h0 q "com/example/orderly_dispatch/orderlydispatch/TimerQueue" "heap" "[Lcom/example/orderly_dispatch/orderlydispatch/TimerQueue$Timer;" (.ref b)) (O : Ovr Z k "com/example/orderly_dispatch/orderlydispatch/TimerQueue$Timer") (g_b : n0 ≤ b) (vs : List Value) (A : Ars Z h0 b k (.object "com/example/orderly_dispatch/orderlydispatch/TimerQueue$Timer") vs) (hlen : vs.length = 16) (t0 : Addr) (hat : vs[0]? = some (.ref t0)) (j j0 : Int32) (d_t s_t : Int64) (E_t : Exa Z h0 t "com/example/orderly_dispatch/orderlydispatch/TimerQueue$Timer") (X_t : Fld Z h0 t "com/example/orderly_dispatch/orderlydispatch/TimerQueue$Timer" "index" "I" (.int j)) (D_t : Fld Z h0 t "com/example/orderly_dispatch/orderlydispatch/TimerQueue$Timer" "dueNanos" "J" (.long d_t)) (S_t : Fld Z h0 t "com/example/orderly_dispatch/orderlydispatch/TimerQueue$Timer" "sequence" "J" (.long s_t)) (d_t0 s_t0 : Int64) (E_t0 : Exa Z h0 t0 "com/example/orderly_dispatch/orderlydispatch/TimerQueue$Timer") (X_t0 : Fld Z h0 t0 "com/example/orderly_dispatch/orderlydispatch/TimerQueue$Timer" "index" "I" (.int j0)) (D_t0 : Fld Z h0 t0 "com/example/orderly_dispatch/orderlydispatch/TimerQueue$Timer" "dueNanos" "J" (.long d_t0)) (S_t0 : Fld Z h0 t0 "com/example/orderly_dispatch/orderlydispatch/TimerQueue$Timer" "sequence" "J" (.long s_t0)) (n_t_b : t ≠ b) (n_q_b : q ≠ b) (n_t_q : t ≠ q) (n_t0_b : t0 ≠ b) (n_t0_q : t0 ≠ q) (n_t_t0 : t ≠ t0) (g_t : n0 ≤ t) (g_t0 : n0 ≤ t0) :
    Met1 l Z ⟨"com/example/orderly_dispatch/orderlydispatch/TimerQueue", "siftUp", "(ILcom/example/orderly_dispatch/orderlydispatch/TimerQueue$Timer;)V"⟩ prog_25_method_11_code 5 none ({ frames := 2, cells := 0, slots := 0, locals := 33 } : Room) #[(.ref q), (.int (2 : Int32)), (.ref t)] h0 n0 (fun v h => v = none ∧ (Put Z h0 h b t (2 : Int32) ∨ ∃ h1, Put Z h0 h1 b t0 (2 : Int32) ∧ Put Z h1 h b t (0 : Int32))) := by
  refine Met1.of_body pn_6 (fun p e s m below meth c C => ?_)
  replace C : Cx p s m meth c Z "com/example/orderly_dispatch/orderlydispatch/TimerQueue" "siftUp" prog_25_method_11_code 5 none := C
  refine Wk.cast (ef_U2 m q t) ?_
  refine w_iloadN C (q := 1) d6_0 rfl rfl ?_
  refine w_istoreN C (q := 2) #[.val (.ref q), .val (.int (2 : Int32)), .val (.ref t), .val (.int (2 : Int32)), .unset] d6_1 rfl rfl ?_
  refine w_iloadN C (q := 3) d6_2 rfl rfl ?_
  refine w_ifle_f C (q := 6) d6_3 rfl (by decide) ?_
  refine w_iloadN C (q := 7) d6_6 rfl rfl ?_
  refine w_iconst C (q := 8) (1 : Int32) d6_7 rfl (by decide) ?_
  refine w_isub C (q := 9) d6_8 rfl ?_
  refine w_iconst C (q := 10) (1 : Int32) d6_9 rfl (by decide) ?_
  refine w_iushr C (q := 11) d6_10 rfl ?_
  refine w_istore C (q := 13) #[.val (.ref q), .val (.int (2 : Int32)), .val (.ref t), .val (.int (2 : Int32)), .val (.int (0 : Int32))] d6_11 rfl rfl ?_
  refine w_aloadN C (q := 14) d6_13 rfl rfl rfl ?_
  refine w_getF C (q := 17) (host := "") (Or.inl (hw _ (List.mem_of_getElem? (i := 11) rfl))) Via.refl H d6_14 rfl ?_
  refine w_iload C (q := 19) d6_17 rfl rfl ?_
  refine w_aaload C (q := 20) A rfl (.ref t0) (by decide) hat d6_19 rfl ?_
  refine w_aloadN C (q := 21) d6_20 rfl rfl rfl ?_
  refine w_virtual C (q := 24) (y := ⟨"com/example/orderly_dispatch/orderlydispatch/TimerQueue$Timer", "compareTo", "(Lcom/example/orderly_dispatch/orderlydispatch/TimerQueue$Timer;)I"⟩) (z := ⟨"com/example/orderly_dispatch/orderlydispatch/TimerQueue$Timer", "compareTo", "(Lcom/example/orderly_dispatch/orderlydispatch/TimerQueue$Timer;)I"⟩) (rm := ({ frames := 1, cells := 0, slots := 0, locals := 15 } : Room)) (a := t0) (argsL := [(.ref t)]) (hw _ (List.mem_of_getElem? (i := 53) rfl)) (hw _ (List.mem_of_getElem? (i := 54) rfl)) (hw _ (List.mem_of_getElem? (i := 56) rfl)) (hw _ (List.mem_of_getElem? (i := 56) rfl)) (hw _ (List.mem_of_getElem? (i := 55) rfl)) (hw _ (List.mem_of_getElem? (i := 26) rfl)) (hw _ (List.mem_of_getElem? (i := 57) rfl)) E_t0 (rmCT l Z a0 hw t0 t _ n0 Z0 d_t0 s_t0 D_t0 S_t0 d_t s_t D_t S_t) (by decide) (rest := []) (lenOf pd_3 rfl) rfl d6_21 rfl rfl (by decide) (Nat.le_of_ble_eq_true rfl) (by decide) (by decide) ?_
  intro v h8 hQ
  obtain ⟨⟨y, rfl⟩, rfl⟩ := hQ
  refine Wk.v1 ?_
  refine w_ifgt C (q := 30) (q' := 27) d6_24 (by decide) (by decide) rfl (fun hc24 => ?_) (fun hc24 => ?_)
  · refine w_aloadN C (q := 31) d6_30 rfl rfl rfl ?_
    refine w_iloadN C (q := 32) d6_31 rfl rfl ?_
    refine w_aloadN C (q := 33) d6_32 rfl rfl rfl ?_
    refine w_getF C (q := 36) (host := "") (Or.inl (hw _ (List.mem_of_getElem? (i := 11) rfl))) Via.refl H d6_33 rfl ?_
    refine w_iload C (q := 38) d6_36 rfl rfl ?_
    refine w_aaload C (q := 39) A rfl (.ref t0) (by decide) hat d6_38 rfl ?_
    refine w_private C (q := 42) (y := ⟨"com/example/orderly_dispatch/orderlydispatch/TimerQueue", "put", "(ILcom/example/orderly_dispatch/orderlydispatch/TimerQueue$Timer;)V"⟩) (rm := ({ frames := 0, cells := 0, slots := 0, locals := 0 } : Room)) (a := q) (argsL := [(.int (2 : Int32)), (.ref t0)]) (hw _ (List.mem_of_getElem? (i := 47) rfl)) (hw _ (List.mem_of_getElem? (i := 48) rfl)) (sel_private (by decide) (hw _ (List.mem_of_getElem? (i := 1) rfl)) (hw _ (List.mem_of_getElem? (i := 49) rfl)) (hw _ (List.mem_of_getElem? (i := 48) rfl))) (hw _ (List.mem_of_getElem? (i := 49) rfl)) (hw _ (List.mem_of_getElem? (i := 2) rfl)) (hw _ (List.mem_of_getElem? (i := 50) rfl)) E_q (rmPut l Z a0 hw q (2 : Int32) t0 _ n0 Z0 b k _ j0 H A O E_t0 X_t0 (by decide) (by rw [hlen]; decide) n_t0_b g_b g_t0) (by decide) (rest := []) (lenOf pd_2 rfl) rfl d6_39 rfl rfl (by decide) (Nat.le_of_ble_eq_true rfl) (by decide) (by decide) ?_
    intro v h9 hQ
    obtain ⟨rfl, hP1⟩ := hQ
    have hP1' := hP1
    obtain ⟨hp2, WA2, WB2⟩ := hP1'
    replace A := A.set WA2
    replace E_q := E_q.wr WA2
    replace H := H.other WA2 (Or.inl n_q_b)
    replace E_t := E_t.wr WA2
    replace X_t := X_t.other WA2 (Or.inl n_t_b)
    replace D_t := D_t.other WA2 (Or.inl n_t_b)
    replace S_t := S_t.other WA2 (Or.inl n_t_b)
    replace E_t0 := E_t0.wr WA2
    replace X_t0 := X_t0.other WA2 (Or.inl n_t0_b)
    replace D_t0 := D_t0.other WA2 (Or.inl n_t0_b)
    replace S_t0 := S_t0.other WA2 (Or.inl n_t0_b)
    replace Z0 := Nat.le_trans Z0 (Nat.le_of_eq (Wr.size WA2).symm)
    replace E_q := E_q.wr WB2
    replace H := H.other WB2 (Or.inl (Ne.symm n_t0_q))
    replace A := A.other WB2 (Ne.symm n_t0_b)
    replace E_t := E_t.wr WB2
    replace X_t := X_t.other WB2 (Or.inl n_t_t0)
    replace D_t := D_t.other WB2 (Or.inl n_t_t0)
    replace S_t := S_t.other WB2 (Or.inl n_t_t0)
    replace E_t0 := E_t0.wr WB2
    replace X_t0 := X_t0.same WB2
    replace D_t0 := D_t0.other WB2 (Or.inr (slot_ne (Or.inr (hw _ (List.mem_of_getElem? (i := 40) rfl))) (Or.inl (hw _ (List.mem_of_getElem? (i := 36) rfl))) (by decide) (t := .long) (t' := .int) (by decide) (by decide)))
    replace S_t0 := S_t0.other WB2 (Or.inr (slot_ne (Or.inr (hw _ (List.mem_of_getElem? (i := 42) rfl))) (Or.inl (hw _ (List.mem_of_getElem? (i := 36) rfl))) (by decide) (t := .long) (t' := .int) (by decide) (by decide)))
    replace Z0 := Nat.le_trans Z0 (Nat.le_of_eq (Wr.size WB2).symm)
    refine Wk.v0 ?_
    refine w_iload C (q := 44) d6_42 rfl rfl ?_
    refine w_istoreN C (q := 45) #[.val (.ref q), .val (.int (2 : Int32)), .val (.ref t), .val (.int (0 : Int32)), .val (.int (0 : Int32))] d6_44 rfl rfl ?_
    refine w_goto C (q := 2) d6_45 (by decide) (by decide) ?_
    refine w_iloadN C (q := 3) d6_2 rfl rfl ?_
    refine w_ifle_t C (q := 48) d6_3 (by decide) (by decide) (by decide) ?_
    refine w_aloadN C (q := 49) d6_48 rfl rfl rfl ?_
    refine w_iloadN C (q := 50) d6_49 rfl rfl ?_
    refine w_aloadN C (q := 51) d6_50 rfl rfl rfl ?_
    refine w_private C (q := 54) (y := ⟨"com/example/orderly_dispatch/orderlydispatch/TimerQueue", "put", "(ILcom/example/orderly_dispatch/orderlydispatch/TimerQueue$Timer;)V"⟩) (rm := ({ frames := 0, cells := 0, slots := 0, locals := 0 } : Room)) (a := q) (argsL := [(.int (0 : Int32)), (.ref t)]) (hw _ (List.mem_of_getElem? (i := 47) rfl)) (hw _ (List.mem_of_getElem? (i := 48) rfl)) (sel_private (by decide) (hw _ (List.mem_of_getElem? (i := 1) rfl)) (hw _ (List.mem_of_getElem? (i := 49) rfl)) (hw _ (List.mem_of_getElem? (i := 48) rfl))) (hw _ (List.mem_of_getElem? (i := 49) rfl)) (hw _ (List.mem_of_getElem? (i := 2) rfl)) (hw _ (List.mem_of_getElem? (i := 50) rfl)) E_q (rmPut l Z a0 hw q (0 : Int32) t _ n0 Z0 b k _ j H A O E_t X_t (by decide) (by rw [List.length_set, hlen]; decide) n_t_b g_b g_t) (by decide) (rest := []) (lenOf pd_2 rfl) rfl d6_51 rfl rfl (by decide) (Nat.le_of_ble_eq_true rfl) (by decide) (by decide) ?_
    intro v h10 hQ
    obtain ⟨rfl, hP2⟩ := hQ
    refine Wk.v0 ?_
    exact w_ret0 C d6_54 (by decide) (by decide) ⟨rfl, Or.inr ⟨_, hP1, hP2⟩⟩
  · refine w_goto C (q := 48) d6_27 (by decide) (by decide) ?_
    refine w_aloadN C (q := 49) d6_48 rfl rfl rfl ?_
    refine w_iloadN C (q := 50) d6_49 rfl rfl ?_
    refine w_aloadN C (q := 51) d6_50 rfl rfl rfl ?_
    refine w_private C (q := 54) (y := ⟨"com/example/orderly_dispatch/orderlydispatch/TimerQueue", "put", "(ILcom/example/orderly_dispatch/orderlydispatch/TimerQueue$Timer;)V"⟩) (rm := ({ frames := 0, cells := 0, slots := 0, locals := 0 } : Room)) (a := q) (argsL := [(.int (2 : Int32)), (.ref t)]) (hw _ (List.mem_of_getElem? (i := 47) rfl)) (hw _ (List.mem_of_getElem? (i := 48) rfl)) (sel_private (by decide) (hw _ (List.mem_of_getElem? (i := 1) rfl)) (hw _ (List.mem_of_getElem? (i := 49) rfl)) (hw _ (List.mem_of_getElem? (i := 48) rfl))) (hw _ (List.mem_of_getElem? (i := 49) rfl)) (hw _ (List.mem_of_getElem? (i := 2) rfl)) (hw _ (List.mem_of_getElem? (i := 50) rfl)) E_q (rmPut l Z a0 hw q (2 : Int32) t _ n0 Z0 b k _ j H A O E_t X_t (by decide) (by rw [hlen]; decide) n_t_b g_b g_t) (by decide) (rest := []) (lenOf pd_2 rfl) rfl d6_51 rfl rfl (by decide) (Nat.le_of_ble_eq_true rfl) (by decide) (by decide) ?_
    intro v h11 hQ
    obtain ⟨rfl, hP2⟩ := hQ
    refine Wk.v0 ?_
    exact w_ret0 C d6_54 (by decide) (by decide) ⟨rfl, Or.inl hP2⟩
theorem ef_D10 (m : MethodId) (q : Nat) (t : Nat) : entryFrame m #[(.ref q), (.int (0 : Int32)), (.ref t)] 7 = mkF m 0 #[.val (.ref q), .val (.int (0 : Int32)), .val (.ref t), .unset, .unset, .unset, .unset] [] := by first | (simp [entryFrame, mkF, argsToLocals, Value.category]; done) | rfl
set_option maxRecDepth 65536 in
set_option maxHeartbeats 40000000 in
theorem rmD10 (l : Launch) (Z : State) (a0 : Array Value) (hw : ∀ d ∈ tables_1, d.before a0 Z = true) (q : Nat) (t : Nat) (h0 : Heap) (n0 : Nat) (Z0 : n0 ≤ h0.size) (b : Addr) (k : ClassId) (E_q : Exa Z h0 q "com/example/orderly_dispatch/orderlydispatch/TimerQueue") (H : Fld Z h0 q "com/example/orderly_dispatch/orderlydispatch/TimerQueue" "heap" "[Lcom/example/orderly_dispatch/orderlydispatch/TimerQueue$Timer;" (.ref b)) (O : Ovr Z k "com/example/orderly_dispatch/orderlydispatch/TimerQueue$Timer") (g_b : n0 ≤ b) (N : Fld Z h0 q "com/example/orderly_dispatch/orderlydispatch/TimerQueue" "size" "I" (.int (1 : Int32))) (vs : List Value) (A : Ars Z h0 b k (.object "com/example/orderly_dispatch/orderlydispatch/TimerQueue$Timer") vs) (hlen : vs.length = 16) (j : Int32) (d_t s_t : Int64) (E_t : Exa Z h0 t "com/example/orderly_dispatch/orderlydispatch/TimerQueue$Timer") (X_t : Fld Z h0 t "com/example/orderly_dispatch/orderlydispatch/TimerQueue$Timer" "index" "I" (.int j)) (D_t : Fld Z h0 t "com/example/orderly_dispatch/orderlydispatch/TimerQueue$Timer" "dueNanos" "J" (.long d_t)) (S_t : Fld Z h0 t "com/example/orderly_dispatch/orderlydispatch/TimerQueue$Timer" "sequence" "J" (.long s_t)) (n_t_b : t ≠ b) (n_q_b : q ≠ b) (n_t_q : t ≠ q) (g_t : n0 ≤ t) :
    Met1 l Z ⟨"com/example/orderly_dispatch/orderlydispatch/TimerQueue", "siftDown", "(ILcom/example/orderly_dispatch/orderlydispatch/TimerQueue$Timer;)V"⟩ prog_25_method_12_code 7 none ({ frames := 2, cells := 0, slots := 0, locals := 33 } : Room) #[(.ref q), (.int (0 : Int32)), (.ref t)] h0 n0 (fun v h => v = none ∧ Put Z h0 h b t (0 : Int32)) := by
  refine Met1.of_body pn_17 (fun p e s m below meth c C => ?_)
  replace C : Cx p s m meth c Z "com/example/orderly_dispatch/orderlydispatch/TimerQueue" "siftDown" prog_25_method_12_code 7 none := C
  refine Wk.cast (ef_D10 m q t) ?_
  refine w_iloadN C (q := 1) d17_0 rfl rfl ?_
  refine w_istoreN C (q := 2) #[.val (.ref q), .val (.int (0 : Int32)), .val (.ref t), .val (.int (0 : Int32)), .unset, .unset, .unset] d17_1 rfl rfl ?_
  refine w_aloadN C (q := 3) d17_2 rfl rfl rfl ?_
  refine w_getF C (q := 6) (host := "") (Or.inl (hw _ (List.mem_of_getElem? (i := 18) rfl))) Via.refl N d17_3 rfl ?_
  refine w_iconst C (q := 7) (1 : Int32) d17_6 rfl (by decide) ?_
  refine w_iushr C (q := 8) d17_7 rfl ?_
  refine w_istore C (q := 10) #[.val (.ref q), .val (.int (0 : Int32)), .val (.ref t), .val (.int (0 : Int32)), .val (.int (0 : Int32)), .unset, .unset] d17_8 rfl rfl ?_
  refine w_iloadN C (q := 11) d17_10 rfl rfl ?_
  refine w_iload C (q := 13) d17_11 rfl rfl ?_
  refine w_icge_t C (q := 97) d17_13 (by decide) (by decide) (by decide) ?_
  refine w_aloadN C (q := 98) d17_97 rfl rfl rfl ?_
  refine w_iloadN C (q := 99) d17_98 rfl rfl ?_
  refine w_aloadN C (q := 100) d17_99 rfl rfl rfl ?_
  refine w_private C (q := 103) (y := ⟨"com/example/orderly_dispatch/orderlydispatch/TimerQueue", "put", "(ILcom/example/orderly_dispatch/orderlydispatch/TimerQueue$Timer;)V"⟩) (rm := ({ frames := 0, cells := 0, slots := 0, locals := 0 } : Room)) (a := q) (argsL := [(.int (0 : Int32)), (.ref t)]) (hw _ (List.mem_of_getElem? (i := 47) rfl)) (hw _ (List.mem_of_getElem? (i := 48) rfl)) (sel_private (by decide) (hw _ (List.mem_of_getElem? (i := 1) rfl)) (hw _ (List.mem_of_getElem? (i := 49) rfl)) (hw _ (List.mem_of_getElem? (i := 48) rfl))) (hw _ (List.mem_of_getElem? (i := 49) rfl)) (hw _ (List.mem_of_getElem? (i := 2) rfl)) (hw _ (List.mem_of_getElem? (i := 50) rfl)) E_q (rmPut l Z a0 hw q (0 : Int32) t _ n0 Z0 b k _ j H A O E_t X_t (by decide) (by rw [hlen]; decide) n_t_b g_b g_t) (by decide) (rest := []) (lenOf pd_2 rfl) rfl d17_100 rfl rfl (by decide) (Nat.le_of_ble_eq_true rfl) (by decide) (by decide) ?_
  intro v h12 hQ
  obtain ⟨rfl, hPut⟩ := hQ
  refine Wk.v0 ?_
  exact w_ret0 C d17_103 (by decide) (by decide) ⟨rfl, hPut⟩
theorem ef_D21 (m : MethodId) (q : Nat) (t : Nat) : entryFrame m #[(.ref q), (.int (1 : Int32)), (.ref t)] 7 = mkF m 0 #[.val (.ref q), .val (.int (1 : Int32)), .val (.ref t), .unset, .unset, .unset, .unset] [] := by first | (simp [entryFrame, mkF, argsToLocals, Value.category]; done) | rfl
set_option maxRecDepth 65536 in
set_option maxHeartbeats 40000000 in
theorem rmD21 (l : Launch) (Z : State) (a0 : Array Value) (hw : ∀ d ∈ tables_1, d.before a0 Z = true) (q : Nat) (t : Nat) (h0 : Heap) (n0 : Nat) (Z0 : n0 ≤ h0.size) (b : Addr) (k : ClassId) (E_q : Exa Z h0 q "com/example/orderly_dispatch/orderlydispatch/TimerQueue") (H : Fld Z h0 q "com/example/orderly_dispatch/orderlydispatch/TimerQueue" "heap" "[Lcom/example/orderly_dispatch/orderlydispatch/TimerQueue$Timer;" (.ref b)) (O : Ovr Z k "com/example/orderly_dispatch/orderlydispatch/TimerQueue$Timer") (g_b : n0 ≤ b) (N : Fld Z h0 q "com/example/orderly_dispatch/orderlydispatch/TimerQueue" "size" "I" (.int (2 : Int32))) (vs : List Value) (A : Ars Z h0 b k (.object "com/example/orderly_dispatch/orderlydispatch/TimerQueue$Timer") vs) (hlen : vs.length = 16) (j : Int32) (d_t s_t : Int64) (E_t : Exa Z h0 t "com/example/orderly_dispatch/orderlydispatch/TimerQueue$Timer") (X_t : Fld Z h0 t "com/example/orderly_dispatch/orderlydispatch/TimerQueue$Timer" "index" "I" (.int j)) (D_t : Fld Z h0 t "com/example/orderly_dispatch/orderlydispatch/TimerQueue$Timer" "dueNanos" "J" (.long d_t)) (S_t : Fld Z h0 t "com/example/orderly_dispatch/orderlydispatch/TimerQueue$Timer" "sequence" "J" (.long s_t)) (n_t_b : t ≠ b) (n_q_b : q ≠ b) (n_t_q : t ≠ q) (g_t : n0 ≤ t) :
    Met1 l Z ⟨"com/example/orderly_dispatch/orderlydispatch/TimerQueue", "siftDown", "(ILcom/example/orderly_dispatch/orderlydispatch/TimerQueue$Timer;)V"⟩ prog_25_method_12_code 7 none ({ frames := 2, cells := 0, slots := 0, locals := 33 } : Room) #[(.ref q), (.int (1 : Int32)), (.ref t)] h0 n0 (fun v h => v = none ∧ Put Z h0 h b t (1 : Int32)) := by
  refine Met1.of_body pn_17 (fun p e s m below meth c C => ?_)
  replace C : Cx p s m meth c Z "com/example/orderly_dispatch/orderlydispatch/TimerQueue" "siftDown" prog_25_method_12_code 7 none := C
  refine Wk.cast (ef_D21 m q t) ?_
  refine w_iloadN C (q := 1) d17_0 rfl rfl ?_
  refine w_istoreN C (q := 2) #[.val (.ref q), .val (.int (1 : Int32)), .val (.ref t), .val (.int (1 : Int32)), .unset, .unset, .unset] d17_1 rfl rfl ?_
  refine w_aloadN C (q := 3) d17_2 rfl rfl rfl ?_
  refine w_getF C (q := 6) (host := "") (Or.inl (hw _ (List.mem_of_getElem? (i := 18) rfl))) Via.refl N d17_3 rfl ?_
  refine w_iconst C (q := 7) (1 : Int32) d17_6 rfl (by decide) ?_
  refine w_iushr C (q := 8) d17_7 rfl ?_
  refine w_istore C (q := 10) #[.val (.ref q), .val (.int (1 : Int32)), .val (.ref t), .val (.int (1 : Int32)), .val (.int (1 : Int32)), .unset, .unset] d17_8 rfl rfl ?_
  refine w_iloadN C (q := 11) d17_10 rfl rfl ?_
  refine w_iload C (q := 13) d17_11 rfl rfl ?_
  refine w_icge_t C (q := 97) d17_13 (by decide) (by decide) (by decide) ?_
  refine w_aloadN C (q := 98) d17_97 rfl rfl rfl ?_
  refine w_iloadN C (q := 99) d17_98 rfl rfl ?_
  refine w_aloadN C (q := 100) d17_99 rfl rfl rfl ?_
  refine w_private C (q := 103) (y := ⟨"com/example/orderly_dispatch/orderlydispatch/TimerQueue", "put", "(ILcom/example/orderly_dispatch/orderlydispatch/TimerQueue$Timer;)V"⟩) (rm := ({ frames := 0, cells := 0, slots := 0, locals := 0 } : Room)) (a := q) (argsL := [(.int (1 : Int32)), (.ref t)]) (hw _ (List.mem_of_getElem? (i := 47) rfl)) (hw _ (List.mem_of_getElem? (i := 48) rfl)) (sel_private (by decide) (hw _ (List.mem_of_getElem? (i := 1) rfl)) (hw _ (List.mem_of_getElem? (i := 49) rfl)) (hw _ (List.mem_of_getElem? (i := 48) rfl))) (hw _ (List.mem_of_getElem? (i := 49) rfl)) (hw _ (List.mem_of_getElem? (i := 2) rfl)) (hw _ (List.mem_of_getElem? (i := 50) rfl)) E_q (rmPut l Z a0 hw q (1 : Int32) t _ n0 Z0 b k _ j H A O E_t X_t (by decide) (by rw [hlen]; decide) n_t_b g_b g_t) (by decide) (rest := []) (lenOf pd_2 rfl) rfl d17_100 rfl rfl (by decide) (Nat.le_of_ble_eq_true rfl) (by decide) (by decide) ?_
  intro v h13 hQ
  obtain ⟨rfl, hPut⟩ := hQ
  refine Wk.v0 ?_
  exact w_ret0 C d17_103 (by decide) (by decide) ⟨rfl, hPut⟩
theorem ef_D20 (m : MethodId) (q : Nat) (t : Nat) : entryFrame m #[(.ref q), (.int (0 : Int32)), (.ref t)] 7 = mkF m 0 #[.val (.ref q), .val (.int (0 : Int32)), .val (.ref t), .unset, .unset, .unset, .unset] [] := by first | (simp [entryFrame, mkF, argsToLocals, Value.category]; done) | rfl
set_option maxRecDepth 65536 in
set_option maxHeartbeats 40000000 in
theorem rmD20 (l : Launch) (Z : State) (a0 : Array Value) (hw : ∀ d ∈ tables_1, d.before a0 Z = true) (q : Nat) (t : Nat) (h0 : Heap) (n0 : Nat) (Z0 : n0 ≤ h0.size) (b : Addr) (k : ClassId) (E_q : Exa Z h0 q "com/example/orderly_dispatch/orderlydispatch/TimerQueue") (H : Fld Z h0 q "com/example/orderly_dispatch/orderlydispatch/TimerQueue" "heap" "[Lcom/example/orderly_dispatch/orderlydispatch/TimerQueue$Timer;" (.ref b)) (O : Ovr Z k "com/example/orderly_dispatch/orderlydispatch/TimerQueue$Timer") (g_b : n0 ≤ b) (N : Fld Z h0 q "com/example/orderly_dispatch/orderlydispatch/TimerQueue" "size" "I" (.int (2 : Int32))) (vs : List Value) (A : Ars Z h0 b k (.object "com/example/orderly_dispatch/orderlydispatch/TimerQueue$Timer") vs) (hlen : vs.length = 16) (t1 : Addr) (hat : vs[1]? = some (.ref t1)) (j j1 : Int32) (d_t s_t : Int64) (E_t : Exa Z h0 t "com/example/orderly_dispatch/orderlydispatch/TimerQueue$Timer") (X_t : Fld Z h0 t "com/example/orderly_dispatch/orderlydispatch/TimerQueue$Timer" "index" "I" (.int j)) (D_t : Fld Z h0 t "com/example/orderly_dispatch/orderlydispatch/TimerQueue$Timer" "dueNanos" "J" (.long d_t)) (S_t : Fld Z h0 t "com/example/orderly_dispatch/orderlydispatch/TimerQueue$Timer" "sequence" "J" (.long s_t)) (d_t1 s_t1 : Int64) (E_t1 : Exa Z h0 t1 "com/example/orderly_dispatch/orderlydispatch/TimerQueue$Timer") (X_t1 : Fld Z h0 t1 "com/example/orderly_dispatch/orderlydispatch/TimerQueue$Timer" "index" "I" (.int j1)) (D_t1 : Fld Z h0 t1 "com/example/orderly_dispatch/orderlydispatch/TimerQueue$Timer" "dueNanos" "J" (.long d_t1)) (S_t1 : Fld Z h0 t1 "com/example/orderly_dispatch/orderlydispatch/TimerQueue$Timer" "sequence" "J" (.long s_t1)) (n_t_b : t ≠ b) (n_q_b : q ≠ b) (n_t_q : t ≠ q) (n_t1_b : t1 ≠ b) (n_t1_q : t1 ≠ q) (n_t_t1 : t ≠ t1) (g_t : n0 ≤ t) (g_t1 : n0 ≤ t1) :
    Met1 l Z ⟨"com/example/orderly_dispatch/orderlydispatch/TimerQueue", "siftDown", "(ILcom/example/orderly_dispatch/orderlydispatch/TimerQueue$Timer;)V"⟩ prog_25_method_12_code 7 none ({ frames := 2, cells := 0, slots := 0, locals := 33 } : Room) #[(.ref q), (.int (0 : Int32)), (.ref t)] h0 n0 (fun v h => v = none ∧ (Put Z h0 h b t (0 : Int32) ∨ ∃ h1, Put Z h0 h1 b t1 (0 : Int32) ∧ Put Z h1 h b t (1 : Int32))) := by
  refine Met1.of_body pn_17 (fun p e s m below meth c C => ?_)
  replace C : Cx p s m meth c Z "com/example/orderly_dispatch/orderlydispatch/TimerQueue" "siftDown" prog_25_method_12_code 7 none := C
  refine Wk.cast (ef_D20 m q t) ?_
  refine w_iloadN C (q := 1) d17_0 rfl rfl ?_
  refine w_istoreN C (q := 2) #[.val (.ref q), .val (.int (0 : Int32)), .val (.ref t), .val (.int (0 : Int32)), .unset, .unset, .unset] d17_1 rfl rfl ?_
  refine w_aloadN C (q := 3) d17_2 rfl rfl rfl ?_
  refine w_getF C (q := 6) (host := "") (Or.inl (hw _ (List.mem_of_getElem? (i := 18) rfl))) Via.refl N d17_3 rfl ?_
  refine w_iconst C (q := 7) (1 : Int32) d17_6 rfl (by decide) ?_
  refine w_iushr C (q := 8) d17_7 rfl ?_
  refine w_istore C (q := 10) #[.val (.ref q), .val (.int (0 : Int32)), .val (.ref t), .val (.int (0 : Int32)), .val (.int (1 : Int32)), .unset, .unset] d17_8 rfl rfl ?_
  refine w_iloadN C (q := 11) d17_10 rfl rfl ?_
  refine w_iload C (q := 13) d17_11 rfl rfl ?_
  refine w_icge_f C (q := 16) d17_13 rfl (by decide) ?_
  refine w_iconst C (q := 17) (2 : Int32) d17_16 rfl (by decide) ?_
  refine w_iloadN C (q := 18) d17_17 rfl rfl ?_
  refine w_imul C (q := 19) d17_18 rfl ?_
  refine w_iconst C (q := 20) (1 : Int32) d17_19 rfl (by decide) ?_
  refine w_iadd C (q := 21) d17_20 rfl ?_
  refine w_istore C (q := 23) #[.val (.ref q), .val (.int (0 : Int32)), .val (.ref t), .val (.int (0 : Int32)), .val (.int (1 : Int32)), .val (.int (1 : Int32)), .unset] d17_21 rfl rfl ?_
  refine w_iload C (q := 25) d17_23 rfl rfl ?_
  refine w_iconst C (q := 26) (1 : Int32) d17_25 rfl (by decide) ?_
  refine w_iadd C (q := 27) d17_26 rfl ?_
  refine w_istore C (q := 29) #[.val (.ref q), .val (.int (0 : Int32)), .val (.ref t), .val (.int (0 : Int32)), .val (.int (1 : Int32)), .val (.int (1 : Int32)), .val (.int (2 : Int32))] d17_27 rfl rfl ?_
  refine w_iload C (q := 31) d17_29 rfl rfl ?_
  refine w_aloadN C (q := 32) d17_31 rfl rfl rfl ?_
  refine w_getF C (q := 35) (host := "") (Or.inl (hw _ (List.mem_of_getElem? (i := 18) rfl))) Via.refl N d17_32 rfl ?_
  refine w_icge_t C (q := 62) d17_35 (by decide) (by decide) (by decide) ?_
  refine w_aloadN C (q := 63) d17_62 rfl rfl rfl ?_
  refine w_aloadN C (q := 64) d17_63 rfl rfl rfl ?_
  refine w_getF C (q := 67) (host := "") (Or.inl (hw _ (List.mem_of_getElem? (i := 11) rfl))) Via.refl H d17_64 rfl ?_
  refine w_iload C (q := 69) d17_67 rfl rfl ?_
  refine w_aaload C (q := 70) A rfl (.ref t1) (by decide) hat d17_69 rfl ?_
  refine w_virtual C (q := 73) (y := ⟨"com/example/orderly_dispatch/orderlydispatch/TimerQueue$Timer", "compareTo", "(Lcom/example/orderly_dispatch/orderlydispatch/TimerQueue$Timer;)I"⟩) (z := ⟨"com/example/orderly_dispatch/orderlydispatch/TimerQueue$Timer", "compareTo", "(Lcom/example/orderly_dispatch/orderlydispatch/TimerQueue$Timer;)I"⟩) (rm := ({ frames := 1, cells := 0, slots := 0, locals := 15 } : Room)) (a := t) (argsL := [(.ref t1)]) (hw _ (List.mem_of_getElem? (i := 53) rfl)) (hw _ (List.mem_of_getElem? (i := 54) rfl)) (hw _ (List.mem_of_getElem? (i := 56) rfl)) (hw _ (List.mem_of_getElem? (i := 56) rfl)) (hw _ (List.mem_of_getElem? (i := 55) rfl)) (hw _ (List.mem_of_getElem? (i := 26) rfl)) (hw _ (List.mem_of_getElem? (i := 57) rfl)) E_t (rmCT l Z a0 hw t t1 _ n0 Z0 d_t s_t D_t S_t d_t1 s_t1 D_t1 S_t1) (by decide) (rest := []) (lenOf pd_3 rfl) rfl d17_70 rfl rfl (by decide) (Nat.le_of_ble_eq_true rfl) (by decide) (by decide) ?_
  intro v h14 hQ
  obtain ⟨⟨y, rfl⟩, rfl⟩ := hQ
  refine Wk.v1 ?_
  refine w_ifgt C (q := 79) (q' := 76) d17_73 (by decide) (by decide) rfl (fun hc73 => ?_) (fun hc73 => ?_)
  · refine w_aloadN C (q := 80) d17_79 rfl rfl rfl ?_
    refine w_iloadN C (q := 81) d17_80 rfl rfl ?_
    refine w_aloadN C (q := 82) d17_81 rfl rfl rfl ?_
    refine w_getF C (q := 85) (host := "") (Or.inl (hw _ (List.mem_of_getElem? (i := 11) rfl))) Via.refl H d17_82 rfl ?_
    refine w_iload C (q := 87) d17_85 rfl rfl ?_
    refine w_aaload C (q := 88) A rfl (.ref t1) (by decide) hat d17_87 rfl ?_
    refine w_private C (q := 91) (y := ⟨"com/example/orderly_dispatch/orderlydispatch/TimerQueue", "put", "(ILcom/example/orderly_dispatch/orderlydispatch/TimerQueue$Timer;)V"⟩) (rm := ({ frames := 0, cells := 0, slots := 0, locals := 0 } : Room)) (a := q) (argsL := [(.int (0 : Int32)), (.ref t1)]) (hw _ (List.mem_of_getElem? (i := 47) rfl)) (hw _ (List.mem_of_getElem? (i := 48) rfl)) (sel_private (by decide) (hw _ (List.mem_of_getElem? (i := 1) rfl)) (hw _ (List.mem_of_getElem? (i := 49) rfl)) (hw _ (List.mem_of_getElem? (i := 48) rfl))) (hw _ (List.mem_of_getElem? (i := 49) rfl)) (hw _ (List.mem_of_getElem? (i := 2) rfl)) (hw _ (List.mem_of_getElem? (i := 50) rfl)) E_q (rmPut l Z a0 hw q (0 : Int32) t1 _ n0 Z0 b k _ j1 H A O E_t1 X_t1 (by decide) (by rw [hlen]; decide) n_t1_b g_b g_t1) (by decide) (rest := []) (lenOf pd_2 rfl) rfl d17_88 rfl rfl (by decide) (Nat.le_of_ble_eq_true rfl) (by decide) (by decide) ?_
    intro v h15 hQ
    obtain ⟨rfl, hP1⟩ := hQ
    have hP1' := hP1
    obtain ⟨hp3, WA3, WB3⟩ := hP1'
    replace A := A.set WA3
    replace E_q := E_q.wr WA3
    replace H := H.other WA3 (Or.inl n_q_b)
    replace N := N.other WA3 (Or.inl n_q_b)
    replace E_t := E_t.wr WA3
    replace X_t := X_t.other WA3 (Or.inl n_t_b)
    replace D_t := D_t.other WA3 (Or.inl n_t_b)
    replace S_t := S_t.other WA3 (Or.inl n_t_b)
    replace E_t1 := E_t1.wr WA3
    replace X_t1 := X_t1.other WA3 (Or.inl n_t1_b)
    replace D_t1 := D_t1.other WA3 (Or.inl n_t1_b)
    replace S_t1 := S_t1.other WA3 (Or.inl n_t1_b)
    replace Z0 := Nat.le_trans Z0 (Nat.le_of_eq (Wr.size WA3).symm)
    replace E_q := E_q.wr WB3
    replace H := H.other WB3 (Or.inl (Ne.symm n_t1_q))
    replace A := A.other WB3 (Ne.symm n_t1_b)
    replace N := N.other WB3 (Or.inl (Ne.symm n_t1_q))
    replace E_t := E_t.wr WB3
    replace X_t := X_t.other WB3 (Or.inl n_t_t1)
    replace D_t := D_t.other WB3 (Or.inl n_t_t1)
    replace S_t := S_t.other WB3 (Or.inl n_t_t1)
    replace E_t1 := E_t1.wr WB3
    replace X_t1 := X_t1.same WB3
    replace D_t1 := D_t1.other WB3 (Or.inr (slot_ne (Or.inr (hw _ (List.mem_of_getElem? (i := 40) rfl))) (Or.inl (hw _ (List.mem_of_getElem? (i := 36) rfl))) (by decide) (t := .long) (t' := .int) (by decide) (by decide)))
    replace S_t1 := S_t1.other WB3 (Or.inr (slot_ne (Or.inr (hw _ (List.mem_of_getElem? (i := 42) rfl))) (Or.inl (hw _ (List.mem_of_getElem? (i := 36) rfl))) (by decide) (t := .long) (t' := .int) (by decide) (by decide)))
    replace Z0 := Nat.le_trans Z0 (Nat.le_of_eq (Wr.size WB3).symm)
    refine Wk.v0 ?_
    refine w_iload C (q := 93) d17_91 rfl rfl ?_
    refine w_istoreN C (q := 94) #[.val (.ref q), .val (.int (0 : Int32)), .val (.ref t), .val (.int (1 : Int32)), .val (.int (1 : Int32)), .val (.int (1 : Int32)), .val (.int (2 : Int32))] d17_93 rfl rfl ?_
    refine w_goto C (q := 10) d17_94 (by decide) (by decide) ?_
    refine w_iloadN C (q := 11) d17_10 rfl rfl ?_
    refine w_iload C (q := 13) d17_11 rfl rfl ?_
    refine w_icge_t C (q := 97) d17_13 (by decide) (by decide) (by decide) ?_
    refine w_aloadN C (q := 98) d17_97 rfl rfl rfl ?_
    refine w_iloadN C (q := 99) d17_98 rfl rfl ?_
    refine w_aloadN C (q := 100) d17_99 rfl rfl rfl ?_
    refine w_private C (q := 103) (y := ⟨"com/example/orderly_dispatch/orderlydispatch/TimerQueue", "put", "(ILcom/example/orderly_dispatch/orderlydispatch/TimerQueue$Timer;)V"⟩) (rm := ({ frames := 0, cells := 0, slots := 0, locals := 0 } : Room)) (a := q) (argsL := [(.int (1 : Int32)), (.ref t)]) (hw _ (List.mem_of_getElem? (i := 47) rfl)) (hw _ (List.mem_of_getElem? (i := 48) rfl)) (sel_private (by decide) (hw _ (List.mem_of_getElem? (i := 1) rfl)) (hw _ (List.mem_of_getElem? (i := 49) rfl)) (hw _ (List.mem_of_getElem? (i := 48) rfl))) (hw _ (List.mem_of_getElem? (i := 49) rfl)) (hw _ (List.mem_of_getElem? (i := 2) rfl)) (hw _ (List.mem_of_getElem? (i := 50) rfl)) E_q (rmPut l Z a0 hw q (1 : Int32) t _ n0 Z0 b k _ j H A O E_t X_t (by decide) (by rw [List.length_set, hlen]; decide) n_t_b g_b g_t) (by decide) (rest := []) (lenOf pd_2 rfl) rfl d17_100 rfl rfl (by decide) (Nat.le_of_ble_eq_true rfl) (by decide) (by decide) ?_
    intro v h16 hQ
    obtain ⟨rfl, hP2⟩ := hQ
    refine Wk.v0 ?_
    exact w_ret0 C d17_103 (by decide) (by decide) ⟨rfl, Or.inr ⟨_, hP1, hP2⟩⟩
  · refine w_goto C (q := 97) d17_76 (by decide) (by decide) ?_
    refine w_aloadN C (q := 98) d17_97 rfl rfl rfl ?_
    refine w_iloadN C (q := 99) d17_98 rfl rfl ?_
    refine w_aloadN C (q := 100) d17_99 rfl rfl rfl ?_
    refine w_private C (q := 103) (y := ⟨"com/example/orderly_dispatch/orderlydispatch/TimerQueue", "put", "(ILcom/example/orderly_dispatch/orderlydispatch/TimerQueue$Timer;)V"⟩) (rm := ({ frames := 0, cells := 0, slots := 0, locals := 0 } : Room)) (a := q) (argsL := [(.int (0 : Int32)), (.ref t)]) (hw _ (List.mem_of_getElem? (i := 47) rfl)) (hw _ (List.mem_of_getElem? (i := 48) rfl)) (sel_private (by decide) (hw _ (List.mem_of_getElem? (i := 1) rfl)) (hw _ (List.mem_of_getElem? (i := 49) rfl)) (hw _ (List.mem_of_getElem? (i := 48) rfl))) (hw _ (List.mem_of_getElem? (i := 49) rfl)) (hw _ (List.mem_of_getElem? (i := 2) rfl)) (hw _ (List.mem_of_getElem? (i := 50) rfl)) E_q (rmPut l Z a0 hw q (0 : Int32) t _ n0 Z0 b k _ j H A O E_t X_t (by decide) (by rw [hlen]; decide) n_t_b g_b g_t) (by decide) (rest := []) (lenOf pd_2 rfl) rfl d17_100 rfl rfl (by decide) (Nat.le_of_ble_eq_true rfl) (by decide) (by decide) ?_
    intro v h17 hQ
    obtain ⟨rfl, hP2⟩ := hQ
    refine Wk.v0 ?_
    exact w_ret0 C d17_103 (by decide) (by decide) ⟨rfl, Or.inl hP2⟩
/-- ts' is ts less t -/
def Rem (ts ts' : List Addr) (t : Addr) : Prop := ts'.length + 1 = ts.length ∧ (∀ u ∈ ts, u ≠ t → u ∈ ts') ∧ ∀ u ∈ ts', u ∈ ts
theorem ef_RA10 (m : MethodId) (q : Nat) : entryFrame m #[(.ref q), (.int (0 : Int32))] 4 = mkF m 0 #[.val (.ref q), .val (.int (0 : Int32)), .unset, .unset] [] := by first | (simp [entryFrame, mkF, argsToLocals, Value.category]; done) | rfl
set_option maxRecDepth 65536 in
set_option maxHeartbeats 40000000 in
theorem rmRA10 (l : Launch) (Z : State) (a0 : Array Value) (hw : ∀ d ∈ tables_1, d.before a0 Z = true) (q : Nat) (h0 : Heap) (n0 : Nat) (Z0 : n0 ≤ h0.size) (b : Addr) (k : ClassId) (t0 : Addr) (hTQ : TQ Z n0 h0 q b k [t0]) :
    Met1 l Z ⟨"com/example/orderly_dispatch/orderlydispatch/TimerQueue", "removeAt", "(I)V"⟩ prog_25_method_10_code 4 none ({ frames := 3, cells := 0, slots := 0, locals := 54 } : Room) #[(.ref q), (.int (0 : Int32))] h0 n0 (fun v h => v = none ∧ ∃ ts', TQ Z n0 h q b k ts' ∧ Rem [t0] ts' t0 ∧ Keep h0 h (q :: b :: [t0])) := by
  refine Met1.of_body pn_12 (fun p e s m below meth c C => ?_)
  replace C : Cx p s m meth c Z "com/example/orderly_dispatch/orderlydispatch/TimerQueue" "removeAt" prog_25_method_10_code 4 none := C
  refine Wk.cast (ef_RA10 m q) ?_
  obtain ⟨E_q, H, N, ⟨ad, G⟩, A, O, ⟨E_t0, X_t0, ⟨d_t0, D_t0⟩, ⟨s_t0, S_t0⟩, T_t0⟩, n_q_b, n_t0_q, n_t0_b, g_t0, g_q, g_b⟩ := hTQ.open1
  have K : Keep h0 h0 (q :: b :: [t0]) := Keep.refl _ _
  refine w_aloadN C (q := 1) d12_0 rfl rfl rfl ?_
  refine w_getF C (q := 4) (host := "") (Or.inl (hw _ (List.mem_of_getElem? (i := 11) rfl))) Via.refl H d12_1 rfl ?_
  refine w_iloadN C (q := 5) d12_4 rfl rfl ?_
  refine w_aaload C (q := 6) A rfl (.ref t0) (by decide) rfl d12_5 rfl ?_
  refine w_astoreN C (q := 7) #[.val (.ref q), .val (.int (0 : Int32)), .val (.ref t0), .unset] d12_6 rfl rfl rfl ?_
  refine w_aloadN C (q := 8) d12_7 rfl rfl rfl ?_
  refine w_getF C (q := 11) (host := "") (Or.inl (hw _ (List.mem_of_getElem? (i := 11) rfl))) Via.refl H d12_8 rfl ?_
  refine w_aloadN C (q := 12) d12_11 rfl rfl rfl ?_
  refine w_dup C (q := 13) d12_12 rfl rfl ?_
  refine w_getF C (q := 16) (host := "") (Or.inl (hw _ (List.mem_of_getElem? (i := 18) rfl))) Via.refl N d12_13 rfl ?_
  refine w_iconst C (q := 17) (1 : Int32) d12_16 rfl (by decide) ?_
  refine w_isub C (q := 18) d12_17 rfl ?_
  refine w_dupX1 C (q := 19) d12_18 rfl rfl rfl ?_
  refine w_putF C (q := 22) (host := "") (Or.inl (hw _ (List.mem_of_getElem? (i := 18) rfl))) Via.refl N E_q (Or.inl (hw _ (List.mem_of_getElem? (i := 19) rfl))) (hw _ (List.mem_of_getElem? (i := 1) rfl)) (ty := .int) (by decide) rfl rfl d12_19 rfl g_q ?_
  intro h18 Wh18
  replace E_q := E_q.wr Wh18
  replace H := H.other Wh18 (Or.inr (slot_ne (Or.inl (hw _ (List.mem_of_getElem? (i := 12) rfl))) (Or.inl (hw _ (List.mem_of_getElem? (i := 19) rfl))) (by decide) (t := (.array (.object "com/example/orderly_dispatch/orderlydispatch/TimerQueue$Timer"))) (t' := .int) (by decide) (by decide)))
  replace A := A.other Wh18 (Ne.symm n_q_b)
  replace N := N.same Wh18
  replace G := G.other Wh18 (Or.inr (slot_ne (Or.inl (hw _ (List.mem_of_getElem? (i := 28) rfl))) (Or.inl (hw _ (List.mem_of_getElem? (i := 19) rfl))) (by decide) (t := .long) (t' := .int) (by decide) (by decide)))
  replace E_t0 := E_t0.wr Wh18
  replace X_t0 := X_t0.other Wh18 (Or.inl n_t0_q)
  replace D_t0 := D_t0.other Wh18 (Or.inl n_t0_q)
  replace S_t0 := S_t0.other Wh18 (Or.inl n_t0_q)
  replace T_t0 := T_t0.other Wh18 (Or.inl n_t0_q)
  replace Z0 := Nat.le_trans Z0 (Nat.le_of_eq (Wr.size Wh18).symm)
  replace K := K.wr Wh18 (Or.inl (List.mem_of_getElem? (i := 0) rfl))
  refine w_aaload C (q := 23) A rfl (.ref t0) (by decide) rfl d12_22 rfl ?_
  refine w_astoreN C (q := 24) #[.val (.ref q), .val (.int (0 : Int32)), .val (.ref t0), .val (.ref t0)] d12_23 rfl rfl rfl ?_
  refine w_aloadN C (q := 25) d12_24 rfl rfl rfl ?_
  refine w_getF C (q := 28) (host := "") (Or.inl (hw _ (List.mem_of_getElem? (i := 11) rfl))) Via.refl H d12_25 rfl ?_
  refine w_aloadN C (q := 29) d12_28 rfl rfl rfl ?_
  refine w_getF C (q := 32) (host := "") (Or.inl (hw _ (List.mem_of_getElem? (i := 18) rfl))) Via.refl N d12_29 rfl ?_
  refine w_aconstNull C (q := 33) d12_32 rfl ?_
  refine w_aastore C (q := 34) A rfl (Or.inl rfl) (by decide) (Nat.le_of_ble_eq_true rfl) d12_33 rfl g_b ?_
  intro h19 Wh19 A'
  replace A : Ars Z h19 b k (.object "com/example/orderly_dispatch/orderlydispatch/TimerQueue$Timer") [.null, .null, .null, .null, .null, .null, .null, .null, .null, .null, .null, .null, .null, .null, .null, .null] := A'
  skip
  replace E_q := E_q.wr Wh19
  replace H := H.other Wh19 (Or.inl n_q_b)
  replace N := N.other Wh19 (Or.inl n_q_b)
  replace G := G.other Wh19 (Or.inl n_q_b)
  replace E_t0 := E_t0.wr Wh19
  replace X_t0 := X_t0.other Wh19 (Or.inl n_t0_b)
  replace D_t0 := D_t0.other Wh19 (Or.inl n_t0_b)
  replace S_t0 := S_t0.other Wh19 (Or.inl n_t0_b)
  replace T_t0 := T_t0.other Wh19 (Or.inl n_t0_b)
  replace Z0 := Nat.le_trans Z0 (Nat.le_of_eq (Wr.size Wh19).symm)
  replace K := K.wr Wh19 (Or.inl (List.mem_of_getElem? (i := 1) rfl))
  refine w_aloadN C (q := 35) d12_34 rfl rfl rfl ?_
  refine w_aloadN C (q := 36) d12_35 rfl rfl rfl ?_
  refine w_aceq_t C (q := 61) d12_36 (by decide) (by decide) rfl rfl rfl ?_
  refine w_aloadN C (q := 62) d12_61 rfl rfl rfl ?_
  refine w_iconst C (q := 63) (-1 : Int32) d12_62 rfl (by decide) ?_
  refine w_putFR C (q := 66) (hw _ (List.mem_of_getElem? (i := 52) rfl)) X_t0 E_t0 (hw _ (List.mem_of_getElem? (i := 36) rfl)) (hw _ (List.mem_of_getElem? (i := 25) rfl)) (ty := .int) (by decide) rfl rfl d12_63 rfl g_t0 ?_
  intro h20 Wh20
  replace E_q := E_q.wr Wh20
  replace H := H.other Wh20 (Or.inl (Ne.symm n_t0_q))
  replace A := A.other Wh20 (Ne.symm n_t0_b)
  replace N := N.other Wh20 (Or.inl (Ne.symm n_t0_q))
  replace G := G.other Wh20 (Or.inl (Ne.symm n_t0_q))
  replace E_t0 := E_t0.wr Wh20
  replace X_t0 := X_t0.same Wh20
  replace D_t0 := D_t0.other Wh20 (Or.inr (slot_ne (Or.inr (hw _ (List.mem_of_getElem? (i := 40) rfl))) (Or.inl (hw _ (List.mem_of_getElem? (i := 36) rfl))) (by decide) (t := .long) (t' := .int) (by decide) (by decide)))
  replace S_t0 := S_t0.other Wh20 (Or.inr (slot_ne (Or.inr (hw _ (List.mem_of_getElem? (i := 42) rfl))) (Or.inl (hw _ (List.mem_of_getElem? (i := 36) rfl))) (by decide) (t := .long) (t' := .int) (by decide) (by decide)))
  replace T_t0 := T_t0.other Wh20 (Or.inr (slot_ne (Or.inr (hw _ (List.mem_of_getElem? (i := 38) rfl))) (Or.inl (hw _ (List.mem_of_getElem? (i := 36) rfl))) (by decide) (t := (.object "java/lang/Runnable")) (t' := .int) (by decide) (by decide)))
  replace Z0 := Nat.le_trans Z0 (Nat.le_of_eq (Wr.size Wh20).symm)
  replace K := K.wr Wh20 (Or.inl (List.mem_of_getElem? (i := 2) rfl))
  exact w_ret0 C d12_66 (by decide) (by decide) ⟨rfl, [], TQ.build0 ⟨E_q, H, N, ⟨_, G⟩, A, O, n_q_b, g_q, g_b⟩, ⟨rfl, by simp_all, by simp_all⟩, K⟩
theorem ef_RA20 (m : MethodId) (q : Nat) : entryFrame m #[(.ref q), (.int (0 : Int32))] 4 = mkF m 0 #[.val (.ref q), .val (.int (0 : Int32)), .unset, .unset] [] := by first | (simp [entryFrame, mkF, argsToLocals, Value.category]; done) | rfl
set_option maxRecDepth 65536 in
set_option maxHeartbeats 40000000 in
theorem rmRA20 (l : Launch) (Z : State) (a0 : Array Value) (hw : ∀ d ∈ tables_1, d.before a0 Z = true) (q : Nat) (h0 : Heap) (n0 : Nat) (Z0 : n0 ≤ h0.size) (b : Addr) (k : ClassId) (t0 : Addr) (t1 : Addr) (hTQ : TQ Z n0 h0 q b k [t0, t1]) :
    Met1 l Z ⟨"com/example/orderly_dispatch/orderlydispatch/TimerQueue", "removeAt", "(I)V"⟩ prog_25_method_10_code 4 none ({ frames := 3, cells := 0, slots := 0, locals := 54 } : Room) #[(.ref q), (.int (0 : Int32))] h0 n0 (fun v h => v = none ∧ ∃ ts', TQ Z n0 h q b k ts' ∧ Rem [t0, t1] ts' t0 ∧ Keep h0 h (q :: b :: [t0, t1])) := by
  refine Met1.of_body pn_12 (fun p e s m below meth c C => ?_)
  replace C : Cx p s m meth c Z "com/example/orderly_dispatch/orderlydispatch/TimerQueue" "removeAt" prog_25_method_10_code 4 none := C
  refine Wk.cast (ef_RA20 m q) ?_
  obtain ⟨E_q, H, N, ⟨ad, G⟩, A, O, ⟨E_t0, X_t0, ⟨d_t0, D_t0⟩, ⟨s_t0, S_t0⟩, T_t0⟩, ⟨E_t1, X_t1, ⟨d_t1, D_t1⟩, ⟨s_t1, S_t1⟩, T_t1⟩, n_t0_t1, n_q_b, n_t0_q, n_t0_b, g_t0, n_t1_q, n_t1_b, g_t1, g_q, g_b⟩ := hTQ.open2
  have K : Keep h0 h0 (q :: b :: [t0, t1]) := Keep.refl _ _
  refine w_aloadN C (q := 1) d12_0 rfl rfl rfl ?_
  refine w_getF C (q := 4) (host := "") (Or.inl (hw _ (List.mem_of_getElem? (i := 11) rfl))) Via.refl H d12_1 rfl ?_
  refine w_iloadN C (q := 5) d12_4 rfl rfl ?_
  refine w_aaload C (q := 6) A rfl (.ref t0) (by decide) rfl d12_5 rfl ?_
  refine w_astoreN C (q := 7) #[.val (.ref q), .val (.int (0 : Int32)), .val (.ref t0), .unset] d12_6 rfl rfl rfl ?_
  refine w_aloadN C (q := 8) d12_7 rfl rfl rfl ?_
  refine w_getF C (q := 11) (host := "") (Or.inl (hw _ (List.mem_of_getElem? (i := 11) rfl))) Via.refl H d12_8 rfl ?_
  refine w_aloadN C (q := 12) d12_11 rfl rfl rfl ?_
  refine w_dup C (q := 13) d12_12 rfl rfl ?_
  refine w_getF C (q := 16) (host := "") (Or.inl (hw _ (List.mem_of_getElem? (i := 18) rfl))) Via.refl N d12_13 rfl ?_
  refine w_iconst C (q := 17) (1 : Int32) d12_16 rfl (by decide) ?_
  refine w_isub C (q := 18) d12_17 rfl ?_
  refine w_dupX1 C (q := 19) d12_18 rfl rfl rfl ?_
  refine w_putF C (q := 22) (host := "") (Or.inl (hw _ (List.mem_of_getElem? (i := 18) rfl))) Via.refl N E_q (Or.inl (hw _ (List.mem_of_getElem? (i := 19) rfl))) (hw _ (List.mem_of_getElem? (i := 1) rfl)) (ty := .int) (by decide) rfl rfl d12_19 rfl g_q ?_
  intro h21 Wh21
  replace E_q := E_q.wr Wh21
  replace H := H.other Wh21 (Or.inr (slot_ne (Or.inl (hw _ (List.mem_of_getElem? (i := 12) rfl))) (Or.inl (hw _ (List.mem_of_getElem? (i := 19) rfl))) (by decide) (t := (.array (.object "com/example/orderly_dispatch/orderlydispatch/TimerQueue$Timer"))) (t' := .int) (by decide) (by decide)))
  replace A := A.other Wh21 (Ne.symm n_q_b)
  replace N := N.same Wh21
  replace G := G.other Wh21 (Or.inr (slot_ne (Or.inl (hw _ (List.mem_of_getElem? (i := 28) rfl))) (Or.inl (hw _ (List.mem_of_getElem? (i := 19) rfl))) (by decide) (t := .long) (t' := .int) (by decide) (by decide)))
  replace E_t0 := E_t0.wr Wh21
  replace X_t0 := X_t0.other Wh21 (Or.inl n_t0_q)
  replace D_t0 := D_t0.other Wh21 (Or.inl n_t0_q)
  replace S_t0 := S_t0.other Wh21 (Or.inl n_t0_q)
  replace T_t0 := T_t0.other Wh21 (Or.inl n_t0_q)
  replace E_t1 := E_t1.wr Wh21
  replace X_t1 := X_t1.other Wh21 (Or.inl n_t1_q)
  replace D_t1 := D_t1.other Wh21 (Or.inl n_t1_q)
  replace S_t1 := S_t1.other Wh21 (Or.inl n_t1_q)
  replace T_t1 := T_t1.other Wh21 (Or.inl n_t1_q)
  replace Z0 := Nat.le_trans Z0 (Nat.le_of_eq (Wr.size Wh21).symm)
  replace K := K.wr Wh21 (Or.inl (List.mem_of_getElem? (i := 0) rfl))
  refine w_aaload C (q := 23) A rfl (.ref t1) (by decide) rfl d12_22 rfl ?_
  refine w_astoreN C (q := 24) #[.val (.ref q), .val (.int (0 : Int32)), .val (.ref t0), .val (.ref t1)] d12_23 rfl rfl rfl ?_
  refine w_aloadN C (q := 25) d12_24 rfl rfl rfl ?_
  refine w_getF C (q := 28) (host := "") (Or.inl (hw _ (List.mem_of_getElem? (i := 11) rfl))) Via.refl H d12_25 rfl ?_
  refine w_aloadN C (q := 29) d12_28 rfl rfl rfl ?_
  refine w_getF C (q := 32) (host := "") (Or.inl (hw _ (List.mem_of_getElem? (i := 18) rfl))) Via.refl N d12_29 rfl ?_
  refine w_aconstNull C (q := 33) d12_32 rfl ?_
  refine w_aastore C (q := 34) A rfl (Or.inl rfl) (by decide) (Nat.le_of_ble_eq_true rfl) d12_33 rfl g_b ?_
  intro h22 Wh22 A'
  replace A : Ars Z h22 b k (.object "com/example/orderly_dispatch/orderlydispatch/TimerQueue$Timer") [(.ref t0), .null, .null, .null, .null, .null, .null, .null, .null, .null, .null, .null, .null, .null, .null, .null] := A'
  skip
  replace E_q := E_q.wr Wh22
  replace H := H.other Wh22 (Or.inl n_q_b)
  replace N := N.other Wh22 (Or.inl n_q_b)
  replace G := G.other Wh22 (Or.inl n_q_b)
  replace E_t0 := E_t0.wr Wh22
  replace X_t0 := X_t0.other Wh22 (Or.inl n_t0_b)
  replace D_t0 := D_t0.other Wh22 (Or.inl n_t0_b)
  replace S_t0 := S_t0.other Wh22 (Or.inl n_t0_b)
  replace T_t0 := T_t0.other Wh22 (Or.inl n_t0_b)
  replace E_t1 := E_t1.wr Wh22
  replace X_t1 := X_t1.other Wh22 (Or.inl n_t1_b)
  replace D_t1 := D_t1.other Wh22 (Or.inl n_t1_b)
  replace S_t1 := S_t1.other Wh22 (Or.inl n_t1_b)
  replace T_t1 := T_t1.other Wh22 (Or.inl n_t1_b)
  replace Z0 := Nat.le_trans Z0 (Nat.le_of_eq (Wr.size Wh22).symm)
  replace K := K.wr Wh22 (Or.inl (List.mem_of_getElem? (i := 1) rfl))
  refine w_aloadN C (q := 35) d12_34 rfl rfl rfl ?_
  refine w_aloadN C (q := 36) d12_35 rfl rfl rfl ?_
  refine w_aceq_f C (q := 39) d12_36 rfl rfl rfl (fun z => (Ne.symm n_t0_t1) (Value.ref.inj z)) ?_
  refine w_aloadN C (q := 40) d12_39 rfl rfl rfl ?_
  refine w_iloadN C (q := 41) d12_40 rfl rfl ?_
  refine w_aloadN C (q := 42) d12_41 rfl rfl rfl ?_
  refine w_private C (q := 45) (y := ⟨"com/example/orderly_dispatch/orderlydispatch/TimerQueue", "siftDown", "(ILcom/example/orderly_dispatch/orderlydispatch/TimerQueue$Timer;)V"⟩) (rm := ({ frames := 2, cells := 0, slots := 0, locals := 33 } : Room)) (a := q) (argsL := [(.int (0 : Int32)), (.ref t1)]) (hw _ (List.mem_of_getElem? (i := 105) rfl)) (hw _ (List.mem_of_getElem? (i := 106) rfl)) (sel_private (by decide) (hw _ (List.mem_of_getElem? (i := 1) rfl)) (hw _ (List.mem_of_getElem? (i := 107) rfl)) (hw _ (List.mem_of_getElem? (i := 106) rfl))) (hw _ (List.mem_of_getElem? (i := 107) rfl)) (hw _ (List.mem_of_getElem? (i := 2) rfl)) (hw _ (List.mem_of_getElem? (i := 108) rfl)) E_q (rmD10 l Z a0 hw q t1 _ n0 Z0 b k E_q H O g_b N _ A rfl (1 : Int32) d_t1 s_t1 E_t1 X_t1 D_t1 S_t1 n_t1_b n_q_b n_t1_q g_t1) (by decide) (rest := []) (lenOf pd_2 rfl) rfl d12_42 rfl rfl (by decide) (Nat.le_of_ble_eq_true rfl) (by decide) (by decide) ?_
  intro v h23 hQ
  obtain ⟨rfl, hP⟩ := hQ
  obtain ⟨hp4, WA4, WB4⟩ := hP
  replace A : Ars Z hp4 b k (.object "com/example/orderly_dispatch/orderlydispatch/TimerQueue$Timer") [(.ref t1), .null, .null, .null, .null, .null, .null, .null, .null, .null, .null, .null, .null, .null, .null, .null] := A.set WA4
  replace E_q := E_q.wr WA4
  replace H := H.other WA4 (Or.inl n_q_b)
  replace N := N.other WA4 (Or.inl n_q_b)
  replace G := G.other WA4 (Or.inl n_q_b)
  replace E_t0 := E_t0.wr WA4
  replace X_t0 := X_t0.other WA4 (Or.inl n_t0_b)
  replace D_t0 := D_t0.other WA4 (Or.inl n_t0_b)
  replace S_t0 := S_t0.other WA4 (Or.inl n_t0_b)
  replace T_t0 := T_t0.other WA4 (Or.inl n_t0_b)
  replace E_t1 := E_t1.wr WA4
  replace X_t1 := X_t1.other WA4 (Or.inl n_t1_b)
  replace D_t1 := D_t1.other WA4 (Or.inl n_t1_b)
  replace S_t1 := S_t1.other WA4 (Or.inl n_t1_b)
  replace T_t1 := T_t1.other WA4 (Or.inl n_t1_b)
  replace Z0 := Nat.le_trans Z0 (Nat.le_of_eq (Wr.size WA4).symm)
  replace K := K.wr WA4 (Or.inl (List.mem_of_getElem? (i := 1) rfl))
  replace E_q := E_q.wr WB4
  replace H := H.other WB4 (Or.inl (Ne.symm n_t1_q))
  replace A := A.other WB4 (Ne.symm n_t1_b)
  replace N := N.other WB4 (Or.inl (Ne.symm n_t1_q))
  replace G := G.other WB4 (Or.inl (Ne.symm n_t1_q))
  replace E_t0 := E_t0.wr WB4
  replace X_t0 := X_t0.other WB4 (Or.inl n_t0_t1)
  replace D_t0 := D_t0.other WB4 (Or.inl n_t0_t1)
  replace S_t0 := S_t0.other WB4 (Or.inl n_t0_t1)
  replace T_t0 := T_t0.other WB4 (Or.inl n_t0_t1)
  replace E_t1 := E_t1.wr WB4
  replace X_t1 := X_t1.same WB4
  replace D_t1 := D_t1.other WB4 (Or.inr (slot_ne (Or.inr (hw _ (List.mem_of_getElem? (i := 40) rfl))) (Or.inl (hw _ (List.mem_of_getElem? (i := 36) rfl))) (by decide) (t := .long) (t' := .int) (by decide) (by decide)))
  replace S_t1 := S_t1.other WB4 (Or.inr (slot_ne (Or.inr (hw _ (List.mem_of_getElem? (i := 42) rfl))) (Or.inl (hw _ (List.mem_of_getElem? (i := 36) rfl))) (by decide) (t := .long) (t' := .int) (by decide) (by decide)))
  replace T_t1 := T_t1.other WB4 (Or.inr (slot_ne (Or.inr (hw _ (List.mem_of_getElem? (i := 38) rfl))) (Or.inl (hw _ (List.mem_of_getElem? (i := 36) rfl))) (by decide) (t := (.object "java/lang/Runnable")) (t' := .int) (by decide) (by decide)))
  replace Z0 := Nat.le_trans Z0 (Nat.le_of_eq (Wr.size WB4).symm)
  replace K := K.wr WB4 (Or.inl (List.mem_of_getElem? (i := 3) rfl))
  refine Wk.v0 ?_
  refine w_aloadN C (q := 46) d12_45 rfl rfl rfl ?_
  refine w_getF C (q := 49) (host := "") (Or.inl (hw _ (List.mem_of_getElem? (i := 11) rfl))) Via.refl H d12_46 rfl ?_
  refine w_iloadN C (q := 50) d12_49 rfl rfl ?_
  refine w_aaload C (q := 51) A rfl (.ref t1) (by decide) rfl d12_50 rfl ?_
  refine w_aloadN C (q := 52) d12_51 rfl rfl rfl ?_
  refine w_acne_f C (q := 55) d12_52 rfl rfl rfl rfl ?_
  refine w_aloadN C (q := 56) d12_55 rfl rfl rfl ?_
  refine w_iloadN C (q := 57) d12_56 rfl rfl ?_
  refine w_aloadN C (q := 58) d12_57 rfl rfl rfl ?_
  refine w_private C (q := 61) (y := ⟨"com/example/orderly_dispatch/orderlydispatch/TimerQueue", "siftUp", "(ILcom/example/orderly_dispatch/orderlydispatch/TimerQueue$Timer;)V"⟩) (rm := ({ frames := 2, cells := 0, slots := 0, locals := 33 } : Room)) (a := q) (argsL := [(.int (0 : Int32)), (.ref t1)]) (hw _ (List.mem_of_getElem? (i := 43) rfl)) (hw _ (List.mem_of_getElem? (i := 44) rfl)) (sel_private (by decide) (hw _ (List.mem_of_getElem? (i := 1) rfl)) (hw _ (List.mem_of_getElem? (i := 45) rfl)) (hw _ (List.mem_of_getElem? (i := 44) rfl))) (hw _ (List.mem_of_getElem? (i := 45) rfl)) (hw _ (List.mem_of_getElem? (i := 2) rfl)) (hw _ (List.mem_of_getElem? (i := 46) rfl)) E_q (rmU0 l Z a0 hw q t1 _ n0 Z0 b k E_q H O g_b _ A rfl (0 : Int32) d_t1 s_t1 E_t1 X_t1 D_t1 S_t1 n_t1_b n_q_b n_t1_q g_t1) (by decide) (rest := []) (lenOf pd_2 rfl) rfl d12_58 rfl rfl (by decide) (Nat.le_of_ble_eq_true rfl) (by decide) (by decide) ?_
  intro v h24 hQ
  obtain ⟨rfl, hP⟩ := hQ
  obtain ⟨hp5, WA5, WB5⟩ := hP
  replace A : Ars Z hp5 b k (.object "com/example/orderly_dispatch/orderlydispatch/TimerQueue$Timer") [(.ref t1), .null, .null, .null, .null, .null, .null, .null, .null, .null, .null, .null, .null, .null, .null, .null] := A.set WA5
  replace E_q := E_q.wr WA5
  replace H := H.other WA5 (Or.inl n_q_b)
  replace N := N.other WA5 (Or.inl n_q_b)
  replace G := G.other WA5 (Or.inl n_q_b)
  replace E_t0 := E_t0.wr WA5
  replace X_t0 := X_t0.other WA5 (Or.inl n_t0_b)
  replace D_t0 := D_t0.other WA5 (Or.inl n_t0_b)
  replace S_t0 := S_t0.other WA5 (Or.inl n_t0_b)
  replace T_t0 := T_t0.other WA5 (Or.inl n_t0_b)
  replace E_t1 := E_t1.wr WA5
  replace X_t1 := X_t1.other WA5 (Or.inl n_t1_b)
  replace D_t1 := D_t1.other WA5 (Or.inl n_t1_b)
  replace S_t1 := S_t1.other WA5 (Or.inl n_t1_b)
  replace T_t1 := T_t1.other WA5 (Or.inl n_t1_b)
  replace Z0 := Nat.le_trans Z0 (Nat.le_of_eq (Wr.size WA5).symm)
  replace K := K.wr WA5 (Or.inl (List.mem_of_getElem? (i := 1) rfl))
  replace E_q := E_q.wr WB5
  replace H := H.other WB5 (Or.inl (Ne.symm n_t1_q))
  replace A := A.other WB5 (Ne.symm n_t1_b)
  replace N := N.other WB5 (Or.inl (Ne.symm n_t1_q))
  replace G := G.other WB5 (Or.inl (Ne.symm n_t1_q))
  replace E_t0 := E_t0.wr WB5
  replace X_t0 := X_t0.other WB5 (Or.inl n_t0_t1)
  replace D_t0 := D_t0.other WB5 (Or.inl n_t0_t1)
  replace S_t0 := S_t0.other WB5 (Or.inl n_t0_t1)
  replace T_t0 := T_t0.other WB5 (Or.inl n_t0_t1)
  replace E_t1 := E_t1.wr WB5
  replace X_t1 := X_t1.same WB5
  replace D_t1 := D_t1.other WB5 (Or.inr (slot_ne (Or.inr (hw _ (List.mem_of_getElem? (i := 40) rfl))) (Or.inl (hw _ (List.mem_of_getElem? (i := 36) rfl))) (by decide) (t := .long) (t' := .int) (by decide) (by decide)))
  replace S_t1 := S_t1.other WB5 (Or.inr (slot_ne (Or.inr (hw _ (List.mem_of_getElem? (i := 42) rfl))) (Or.inl (hw _ (List.mem_of_getElem? (i := 36) rfl))) (by decide) (t := .long) (t' := .int) (by decide) (by decide)))
  replace T_t1 := T_t1.other WB5 (Or.inr (slot_ne (Or.inr (hw _ (List.mem_of_getElem? (i := 38) rfl))) (Or.inl (hw _ (List.mem_of_getElem? (i := 36) rfl))) (by decide) (t := (.object "java/lang/Runnable")) (t' := .int) (by decide) (by decide)))
  replace Z0 := Nat.le_trans Z0 (Nat.le_of_eq (Wr.size WB5).symm)
  replace K := K.wr WB5 (Or.inl (List.mem_of_getElem? (i := 3) rfl))
  refine Wk.v0 ?_
  refine w_aloadN C (q := 62) d12_61 rfl rfl rfl ?_
  refine w_iconst C (q := 63) (-1 : Int32) d12_62 rfl (by decide) ?_
  refine w_putFR C (q := 66) (hw _ (List.mem_of_getElem? (i := 52) rfl)) X_t0 E_t0 (hw _ (List.mem_of_getElem? (i := 36) rfl)) (hw _ (List.mem_of_getElem? (i := 25) rfl)) (ty := .int) (by decide) rfl rfl d12_63 rfl g_t0 ?_
  intro h25 Wh25
  replace E_q := E_q.wr Wh25
  replace H := H.other Wh25 (Or.inl (Ne.symm n_t0_q))
  replace A := A.other Wh25 (Ne.symm n_t0_b)
  replace N := N.other Wh25 (Or.inl (Ne.symm n_t0_q))
  replace G := G.other Wh25 (Or.inl (Ne.symm n_t0_q))
  replace E_t0 := E_t0.wr Wh25
  replace X_t0 := X_t0.same Wh25
  replace D_t0 := D_t0.other Wh25 (Or.inr (slot_ne (Or.inr (hw _ (List.mem_of_getElem? (i := 40) rfl))) (Or.inl (hw _ (List.mem_of_getElem? (i := 36) rfl))) (by decide) (t := .long) (t' := .int) (by decide) (by decide)))
  replace S_t0 := S_t0.other Wh25 (Or.inr (slot_ne (Or.inr (hw _ (List.mem_of_getElem? (i := 42) rfl))) (Or.inl (hw _ (List.mem_of_getElem? (i := 36) rfl))) (by decide) (t := .long) (t' := .int) (by decide) (by decide)))
  replace T_t0 := T_t0.other Wh25 (Or.inr (slot_ne (Or.inr (hw _ (List.mem_of_getElem? (i := 38) rfl))) (Or.inl (hw _ (List.mem_of_getElem? (i := 36) rfl))) (by decide) (t := (.object "java/lang/Runnable")) (t' := .int) (by decide) (by decide)))
  replace E_t1 := E_t1.wr Wh25
  replace X_t1 := X_t1.other Wh25 (Or.inl (Ne.symm n_t0_t1))
  replace D_t1 := D_t1.other Wh25 (Or.inl (Ne.symm n_t0_t1))
  replace S_t1 := S_t1.other Wh25 (Or.inl (Ne.symm n_t0_t1))
  replace T_t1 := T_t1.other Wh25 (Or.inl (Ne.symm n_t0_t1))
  replace Z0 := Nat.le_trans Z0 (Nat.le_of_eq (Wr.size Wh25).symm)
  replace K := K.wr Wh25 (Or.inl (List.mem_of_getElem? (i := 2) rfl))
  exact w_ret0 C d12_66 (by decide) (by decide) ⟨rfl, [t1], TQ.build1 ⟨E_q, H, N, ⟨_, G⟩, A, O, ⟨E_t1, X_t1, ⟨_, D_t1⟩, ⟨_, S_t1⟩, T_t1⟩, n_q_b, n_t1_q, n_t1_b, g_t1, g_q, g_b⟩, ⟨rfl, by simp_all, by simp_all⟩, K⟩
theorem ef_RA21 (m : MethodId) (q : Nat) : entryFrame m #[(.ref q), (.int (1 : Int32))] 4 = mkF m 0 #[.val (.ref q), .val (.int (1 : Int32)), .unset, .unset] [] := by first | (simp [entryFrame, mkF, argsToLocals, Value.category]; done) | rfl
set_option maxRecDepth 65536 in
set_option maxHeartbeats 40000000 in
theorem rmRA21 (l : Launch) (Z : State) (a0 : Array Value) (hw : ∀ d ∈ tables_1, d.before a0 Z = true) (q : Nat) (h0 : Heap) (n0 : Nat) (Z0 : n0 ≤ h0.size) (b : Addr) (k : ClassId) (t0 : Addr) (t1 : Addr) (hTQ : TQ Z n0 h0 q b k [t0, t1]) :
    Met1 l Z ⟨"com/example/orderly_dispatch/orderlydispatch/TimerQueue", "removeAt", "(I)V"⟩ prog_25_method_10_code 4 none ({ frames := 3, cells := 0, slots := 0, locals := 54 } : Room) #[(.ref q), (.int (1 : Int32))] h0 n0 (fun v h => v = none ∧ ∃ ts', TQ Z n0 h q b k ts' ∧ Rem [t0, t1] ts' t1 ∧ Keep h0 h (q :: b :: [t0, t1])) := by
  refine Met1.of_body pn_12 (fun p e s m below meth c C => ?_)
  replace C : Cx p s m meth c Z "com/example/orderly_dispatch/orderlydispatch/TimerQueue" "removeAt" prog_25_method_10_code 4 none := C
  refine Wk.cast (ef_RA21 m q) ?_
  obtain ⟨E_q, H, N, ⟨ad, G⟩, A, O, ⟨E_t0, X_t0, ⟨d_t0, D_t0⟩, ⟨s_t0, S_t0⟩, T_t0⟩, ⟨E_t1, X_t1, ⟨d_t1, D_t1⟩, ⟨s_t1, S_t1⟩, T_t1⟩, n_t0_t1, n_q_b, n_t0_q, n_t0_b, g_t0, n_t1_q, n_t1_b, g_t1, g_q, g_b⟩ := hTQ.open2
  have K : Keep h0 h0 (q :: b :: [t0, t1]) := Keep.refl _ _
  refine w_aloadN C (q := 1) d12_0 rfl rfl rfl ?_
  refine w_getF C (q := 4) (host := "") (Or.inl (hw _ (List.mem_of_getElem? (i := 11) rfl))) Via.refl H d12_1 rfl ?_
  refine w_iloadN C (q := 5) d12_4 rfl rfl ?_
  refine w_aaload C (q := 6) A rfl (.ref t1) (by decide) rfl d12_5 rfl ?_
  refine w_astoreN C (q := 7) #[.val (.ref q), .val (.int (1 : Int32)), .val (.ref t1), .unset] d12_6 rfl rfl rfl ?_
  refine w_aloadN C (q := 8) d12_7 rfl rfl rfl ?_
  refine w_getF C (q := 11) (host := "") (Or.inl (hw _ (List.mem_of_getElem? (i := 11) rfl))) Via.refl H d12_8 rfl ?_
  refine w_aloadN C (q := 12) d12_11 rfl rfl rfl ?_
  refine w_dup C (q := 13) d12_12 rfl rfl ?_
  refine w_getF C (q := 16) (host := "") (Or.inl (hw _ (List.mem_of_getElem? (i := 18) rfl))) Via.refl N d12_13 rfl ?_
  refine w_iconst C (q := 17) (1 : Int32) d12_16 rfl (by decide) ?_
  refine w_isub C (q := 18) d12_17 rfl ?_
  refine w_dupX1 C (q := 19) d12_18 rfl rfl rfl ?_
  refine w_putF C (q := 22) (host := "") (Or.inl (hw _ (List.mem_of_getElem? (i := 18) rfl))) Via.refl N E_q (Or.inl (hw _ (List.mem_of_getElem? (i := 19) rfl))) (hw _ (List.mem_of_getElem? (i := 1) rfl)) (ty := .int) (by decide) rfl rfl d12_19 rfl g_q ?_
  intro h26 Wh26
  replace E_q := E_q.wr Wh26
  replace H := H.other Wh26 (Or.inr (slot_ne (Or.inl (hw _ (List.mem_of_getElem? (i := 12) rfl))) (Or.inl (hw _ (List.mem_of_getElem? (i := 19) rfl))) (by decide) (t := (.array (.object "com/example/orderly_dispatch/orderlydispatch/TimerQueue$Timer"))) (t' := .int) (by decide) (by decide)))
  replace A := A.other Wh26 (Ne.symm n_q_b)
  replace N := N.same Wh26
  replace G := G.other Wh26 (Or.inr (slot_ne (Or.inl (hw _ (List.mem_of_getElem? (i := 28) rfl))) (Or.inl (hw _ (List.mem_of_getElem? (i := 19) rfl))) (by decide) (t := .long) (t' := .int) (by decide) (by decide)))
  replace E_t0 := E_t0.wr Wh26
  replace X_t0 := X_t0.other Wh26 (Or.inl n_t0_q)
  replace D_t0 := D_t0.other Wh26 (Or.inl n_t0_q)
  replace S_t0 := S_t0.other Wh26 (Or.inl n_t0_q)
  replace T_t0 := T_t0.other Wh26 (Or.inl n_t0_q)
  replace E_t1 := E_t1.wr Wh26
  replace X_t1 := X_t1.other Wh26 (Or.inl n_t1_q)
  replace D_t1 := D_t1.other Wh26 (Or.inl n_t1_q)
  replace S_t1 := S_t1.other Wh26 (Or.inl n_t1_q)
  replace T_t1 := T_t1.other Wh26 (Or.inl n_t1_q)
  replace Z0 := Nat.le_trans Z0 (Nat.le_of_eq (Wr.size Wh26).symm)
  replace K := K.wr Wh26 (Or.inl (List.mem_of_getElem? (i := 0) rfl))
  refine w_aaload C (q := 23) A rfl (.ref t1) (by decide) rfl d12_22 rfl ?_
  refine w_astoreN C (q := 24) #[.val (.ref q), .val (.int (1 : Int32)), .val (.ref t1), .val (.ref t1)] d12_23 rfl rfl rfl ?_
  refine w_aloadN C (q := 25) d12_24 rfl rfl rfl ?_
  refine w_getF C (q := 28) (host := "") (Or.inl (hw _ (List.mem_of_getElem? (i := 11) rfl))) Via.refl H d12_25 rfl ?_
  refine w_aloadN C (q := 29) d12_28 rfl rfl rfl ?_
  refine w_getF C (q := 32) (host := "") (Or.inl (hw _ (List.mem_of_getElem? (i := 18) rfl))) Via.refl N d12_29 rfl ?_
  refine w_aconstNull C (q := 33) d12_32 rfl ?_
  refine w_aastore C (q := 34) A rfl (Or.inl rfl) (by decide) (Nat.le_of_ble_eq_true rfl) d12_33 rfl g_b ?_
  intro h27 Wh27 A'
  replace A : Ars Z h27 b k (.object "com/example/orderly_dispatch/orderlydispatch/TimerQueue$Timer") [(.ref t0), .null, .null, .null, .null, .null, .null, .null, .null, .null, .null, .null, .null, .null, .null, .null] := A'
  skip
  replace E_q := E_q.wr Wh27
  replace H := H.other Wh27 (Or.inl n_q_b)
  replace N := N.other Wh27 (Or.inl n_q_b)
  replace G := G.other Wh27 (Or.inl n_q_b)
  replace E_t0 := E_t0.wr Wh27
  replace X_t0 := X_t0.other Wh27 (Or.inl n_t0_b)
  replace D_t0 := D_t0.other Wh27 (Or.inl n_t0_b)
  replace S_t0 := S_t0.other Wh27 (Or.inl n_t0_b)
  replace T_t0 := T_t0.other Wh27 (Or.inl n_t0_b)
  replace E_t1 := E_t1.wr Wh27
  replace X_t1 := X_t1.other Wh27 (Or.inl n_t1_b)
  replace D_t1 := D_t1.other Wh27 (Or.inl n_t1_b)
  replace S_t1 := S_t1.other Wh27 (Or.inl n_t1_b)
  replace T_t1 := T_t1.other Wh27 (Or.inl n_t1_b)
  replace Z0 := Nat.le_trans Z0 (Nat.le_of_eq (Wr.size Wh27).symm)
  replace K := K.wr Wh27 (Or.inl (List.mem_of_getElem? (i := 1) rfl))
  refine w_aloadN C (q := 35) d12_34 rfl rfl rfl ?_
  refine w_aloadN C (q := 36) d12_35 rfl rfl rfl ?_
  refine w_aceq_t C (q := 61) d12_36 (by decide) (by decide) rfl rfl rfl ?_
  refine w_aloadN C (q := 62) d12_61 rfl rfl rfl ?_
  refine w_iconst C (q := 63) (-1 : Int32) d12_62 rfl (by decide) ?_
  refine w_putFR C (q := 66) (hw _ (List.mem_of_getElem? (i := 52) rfl)) X_t1 E_t1 (hw _ (List.mem_of_getElem? (i := 36) rfl)) (hw _ (List.mem_of_getElem? (i := 25) rfl)) (ty := .int) (by decide) rfl rfl d12_63 rfl g_t1 ?_
  intro h28 Wh28
  replace E_q := E_q.wr Wh28
  replace H := H.other Wh28 (Or.inl (Ne.symm n_t1_q))
  replace A := A.other Wh28 (Ne.symm n_t1_b)
  replace N := N.other Wh28 (Or.inl (Ne.symm n_t1_q))
  replace G := G.other Wh28 (Or.inl (Ne.symm n_t1_q))
  replace E_t0 := E_t0.wr Wh28
  replace X_t0 := X_t0.other Wh28 (Or.inl n_t0_t1)
  replace D_t0 := D_t0.other Wh28 (Or.inl n_t0_t1)
  replace S_t0 := S_t0.other Wh28 (Or.inl n_t0_t1)
  replace T_t0 := T_t0.other Wh28 (Or.inl n_t0_t1)
  replace E_t1 := E_t1.wr Wh28
  replace X_t1 := X_t1.same Wh28
  replace D_t1 := D_t1.other Wh28 (Or.inr (slot_ne (Or.inr (hw _ (List.mem_of_getElem? (i := 40) rfl))) (Or.inl (hw _ (List.mem_of_getElem? (i := 36) rfl))) (by decide) (t := .long) (t' := .int) (by decide) (by decide)))
  replace S_t1 := S_t1.other Wh28 (Or.inr (slot_ne (Or.inr (hw _ (List.mem_of_getElem? (i := 42) rfl))) (Or.inl (hw _ (List.mem_of_getElem? (i := 36) rfl))) (by decide) (t := .long) (t' := .int) (by decide) (by decide)))
  replace T_t1 := T_t1.other Wh28 (Or.inr (slot_ne (Or.inr (hw _ (List.mem_of_getElem? (i := 38) rfl))) (Or.inl (hw _ (List.mem_of_getElem? (i := 36) rfl))) (by decide) (t := (.object "java/lang/Runnable")) (t' := .int) (by decide) (by decide)))
  replace Z0 := Nat.le_trans Z0 (Nat.le_of_eq (Wr.size Wh28).symm)
  replace K := K.wr Wh28 (Or.inl (List.mem_of_getElem? (i := 3) rfl))
  exact w_ret0 C d12_66 (by decide) (by decide) ⟨rfl, [t0], TQ.build1 ⟨E_q, H, N, ⟨_, G⟩, A, O, ⟨E_t0, X_t0, ⟨_, D_t0⟩, ⟨_, S_t0⟩, T_t0⟩, n_q_b, n_t0_q, n_t0_b, g_t0, g_q, g_b⟩, ⟨rfl, by simp_all, by simp_all⟩, K⟩
theorem ef_RA30 (m : MethodId) (q : Nat) : entryFrame m #[(.ref q), (.int (0 : Int32))] 4 = mkF m 0 #[.val (.ref q), .val (.int (0 : Int32)), .unset, .unset] [] := by first | (simp [entryFrame, mkF, argsToLocals, Value.category]; done) | rfl
set_option maxRecDepth 65536 in
set_option maxHeartbeats 40000000 in
theorem rmRA30 (l : Launch) (Z : State) (a0 : Array Value) (hw : ∀ d ∈ tables_1, d.before a0 Z = true) (q : Nat) (h0 : Heap) (n0 : Nat) (Z0 : n0 ≤ h0.size) (b : Addr) (k : ClassId) (t0 : Addr) (t1 : Addr) (t2 : Addr) (hTQ : TQ Z n0 h0 q b k [t0, t1, t2]) :
    Met1 l Z ⟨"com/example/orderly_dispatch/orderlydispatch/TimerQueue", "removeAt", "(I)V"⟩ prog_25_method_10_code 4 none ({ frames := 3, cells := 0, slots := 0, locals := 54 } : Room) #[(.ref q), (.int (0 : Int32))] h0 n0 (fun v h => v = none ∧ ∃ ts', TQ Z n0 h q b k ts' ∧ Rem [t0, t1, t2] ts' t0 ∧ Keep h0 h (q :: b :: [t0, t1, t2])) := by
  refine Met1.of_body pn_12 (fun p e s m below meth c C => ?_)
  replace C : Cx p s m meth c Z "com/example/orderly_dispatch/orderlydispatch/TimerQueue" "removeAt" prog_25_method_10_code 4 none := C
  refine Wk.cast (ef_RA30 m q) ?_
  obtain ⟨E_q, H, N, ⟨ad, G⟩, A, O, ⟨E_t0, X_t0, ⟨d_t0, D_t0⟩, ⟨s_t0, S_t0⟩, T_t0⟩, ⟨E_t1, X_t1, ⟨d_t1, D_t1⟩, ⟨s_t1, S_t1⟩, T_t1⟩, ⟨E_t2, X_t2, ⟨d_t2, D_t2⟩, ⟨s_t2, S_t2⟩, T_t2⟩, n_t0_t1, n_t0_t2, n_t1_t2, n_q_b, n_t0_q, n_t0_b, g_t0, n_t1_q, n_t1_b, g_t1, n_t2_q, n_t2_b, g_t2, g_q, g_b⟩ := hTQ.open3
  have K : Keep h0 h0 (q :: b :: [t0, t1, t2]) := Keep.refl _ _
  refine w_aloadN C (q := 1) d12_0 rfl rfl rfl ?_
  refine w_getF C (q := 4) (host := "") (Or.inl (hw _ (List.mem_of_getElem? (i := 11) rfl))) Via.refl H d12_1 rfl ?_
  refine w_iloadN C (q := 5) d12_4 rfl rfl ?_
  refine w_aaload C (q := 6) A rfl (.ref t0) (by decide) rfl d12_5 rfl ?_
  refine w_astoreN C (q := 7) #[.val (.ref q), .val (.int (0 : Int32)), .val (.ref t0), .unset] d12_6 rfl rfl rfl ?_
  refine w_aloadN C (q := 8) d12_7 rfl rfl rfl ?_
  refine w_getF C (q := 11) (host := "") (Or.inl (hw _ (List.mem_of_getElem? (i := 11) rfl))) Via.refl H d12_8 rfl ?_
  refine w_aloadN C (q := 12) d12_11 rfl rfl rfl ?_
  refine w_dup C (q := 13) d12_12 rfl rfl ?_
  refine w_getF C (q := 16) (host := "") (Or.inl (hw _ (List.mem_of_getElem? (i := 18) rfl))) Via.refl N d12_13 rfl ?_
  refine w_iconst C (q := 17) (1 : Int32) d12_16 rfl (by decide) ?_
  refine w_isub C (q := 18) d12_17 rfl ?_
  refine w_dupX1 C (q := 19) d12_18 rfl rfl rfl ?_
  refine w_putF C (q := 22) (host := "") (Or.inl (hw _ (List.mem_of_getElem? (i := 18) rfl))) Via.refl N E_q (Or.inl (hw _ (List.mem_of_getElem? (i := 19) rfl))) (hw _ (List.mem_of_getElem? (i := 1) rfl)) (ty := .int) (by decide) rfl rfl d12_19 rfl g_q ?_
  intro h29 Wh29
  replace E_q := E_q.wr Wh29
  replace H := H.other Wh29 (Or.inr (slot_ne (Or.inl (hw _ (List.mem_of_getElem? (i := 12) rfl))) (Or.inl (hw _ (List.mem_of_getElem? (i := 19) rfl))) (by decide) (t := (.array (.object "com/example/orderly_dispatch/orderlydispatch/TimerQueue$Timer"))) (t' := .int) (by decide) (by decide)))
  replace A := A.other Wh29 (Ne.symm n_q_b)
  replace N := N.same Wh29
  replace G := G.other Wh29 (Or.inr (slot_ne (Or.inl (hw _ (List.mem_of_getElem? (i := 28) rfl))) (Or.inl (hw _ (List.mem_of_getElem? (i := 19) rfl))) (by decide) (t := .long) (t' := .int) (by decide) (by decide)))
  replace E_t0 := E_t0.wr Wh29
  replace X_t0 := X_t0.other Wh29 (Or.inl n_t0_q)
  replace D_t0 := D_t0.other Wh29 (Or.inl n_t0_q)
  replace S_t0 := S_t0.other Wh29 (Or.inl n_t0_q)
  replace T_t0 := T_t0.other Wh29 (Or.inl n_t0_q)
  replace E_t1 := E_t1.wr Wh29
  replace X_t1 := X_t1.other Wh29 (Or.inl n_t1_q)
  replace D_t1 := D_t1.other Wh29 (Or.inl n_t1_q)
  replace S_t1 := S_t1.other Wh29 (Or.inl n_t1_q)
  replace T_t1 := T_t1.other Wh29 (Or.inl n_t1_q)
  replace E_t2 := E_t2.wr Wh29
  replace X_t2 := X_t2.other Wh29 (Or.inl n_t2_q)
  replace D_t2 := D_t2.other Wh29 (Or.inl n_t2_q)
  replace S_t2 := S_t2.other Wh29 (Or.inl n_t2_q)
  replace T_t2 := T_t2.other Wh29 (Or.inl n_t2_q)
  replace Z0 := Nat.le_trans Z0 (Nat.le_of_eq (Wr.size Wh29).symm)
  replace K := K.wr Wh29 (Or.inl (List.mem_of_getElem? (i := 0) rfl))
  refine w_aaload C (q := 23) A rfl (.ref t2) (by decide) rfl d12_22 rfl ?_
  refine w_astoreN C (q := 24) #[.val (.ref q), .val (.int (0 : Int32)), .val (.ref t0), .val (.ref t2)] d12_23 rfl rfl rfl ?_
  refine w_aloadN C (q := 25) d12_24 rfl rfl rfl ?_
  refine w_getF C (q := 28) (host := "") (Or.inl (hw _ (List.mem_of_getElem? (i := 11) rfl))) Via.refl H d12_25 rfl ?_
  refine w_aloadN C (q := 29) d12_28 rfl rfl rfl ?_
  refine w_getF C (q := 32) (host := "") (Or.inl (hw _ (List.mem_of_getElem? (i := 18) rfl))) Via.refl N d12_29 rfl ?_
  refine w_aconstNull C (q := 33) d12_32 rfl ?_
  refine w_aastore C (q := 34) A rfl (Or.inl rfl) (by decide) (Nat.le_of_ble_eq_true rfl) d12_33 rfl g_b ?_
  intro h30 Wh30 A'
  replace A : Ars Z h30 b k (.object "com/example/orderly_dispatch/orderlydispatch/TimerQueue$Timer") [(.ref t0), (.ref t1), .null, .null, .null, .null, .null, .null, .null, .null, .null, .null, .null, .null, .null, .null] := A'
  skip
  replace E_q := E_q.wr Wh30
  replace H := H.other Wh30 (Or.inl n_q_b)
  replace N := N.other Wh30 (Or.inl n_q_b)
  replace G := G.other Wh30 (Or.inl n_q_b)
  replace E_t0 := E_t0.wr Wh30
  replace X_t0 := X_t0.other Wh30 (Or.inl n_t0_b)
  replace D_t0 := D_t0.other Wh30 (Or.inl n_t0_b)
  replace S_t0 := S_t0.other Wh30 (Or.inl n_t0_b)
  replace T_t0 := T_t0.other Wh30 (Or.inl n_t0_b)
  replace E_t1 := E_t1.wr Wh30
  replace X_t1 := X_t1.other Wh30 (Or.inl n_t1_b)
  replace D_t1 := D_t1.other Wh30 (Or.inl n_t1_b)
  replace S_t1 := S_t1.other Wh30 (Or.inl n_t1_b)
  replace T_t1 := T_t1.other Wh30 (Or.inl n_t1_b)
  replace E_t2 := E_t2.wr Wh30
  replace X_t2 := X_t2.other Wh30 (Or.inl n_t2_b)
  replace D_t2 := D_t2.other Wh30 (Or.inl n_t2_b)
  replace S_t2 := S_t2.other Wh30 (Or.inl n_t2_b)
  replace T_t2 := T_t2.other Wh30 (Or.inl n_t2_b)
  replace Z0 := Nat.le_trans Z0 (Nat.le_of_eq (Wr.size Wh30).symm)
  replace K := K.wr Wh30 (Or.inl (List.mem_of_getElem? (i := 1) rfl))
  refine w_aloadN C (q := 35) d12_34 rfl rfl rfl ?_
  refine w_aloadN C (q := 36) d12_35 rfl rfl rfl ?_
  refine w_aceq_f C (q := 39) d12_36 rfl rfl rfl (fun z => (Ne.symm n_t0_t2) (Value.ref.inj z)) ?_
  refine w_aloadN C (q := 40) d12_39 rfl rfl rfl ?_
  refine w_iloadN C (q := 41) d12_40 rfl rfl ?_
  refine w_aloadN C (q := 42) d12_41 rfl rfl rfl ?_
  refine w_private C (q := 45) (y := ⟨"com/example/orderly_dispatch/orderlydispatch/TimerQueue", "siftDown", "(ILcom/example/orderly_dispatch/orderlydispatch/TimerQueue$Timer;)V"⟩) (rm := ({ frames := 2, cells := 0, slots := 0, locals := 33 } : Room)) (a := q) (argsL := [(.int (0 : Int32)), (.ref t2)]) (hw _ (List.mem_of_getElem? (i := 105) rfl)) (hw _ (List.mem_of_getElem? (i := 106) rfl)) (sel_private (by decide) (hw _ (List.mem_of_getElem? (i := 1) rfl)) (hw _ (List.mem_of_getElem? (i := 107) rfl)) (hw _ (List.mem_of_getElem? (i := 106) rfl))) (hw _ (List.mem_of_getElem? (i := 107) rfl)) (hw _ (List.mem_of_getElem? (i := 2) rfl)) (hw _ (List.mem_of_getElem? (i := 108) rfl)) E_q (rmD20 l Z a0 hw q t2 _ n0 Z0 b k E_q H O g_b N _ A rfl t1 rfl (2 : Int32) (1 : Int32) d_t2 s_t2 E_t2 X_t2 D_t2 S_t2 d_t1 s_t1 E_t1 X_t1 D_t1 S_t1 n_t2_b n_q_b n_t2_q n_t1_b n_t1_q (Ne.symm n_t1_t2) g_t2 g_t1) (by decide) (rest := []) (lenOf pd_2 rfl) rfl d12_42 rfl rfl (by decide) (Nat.le_of_ble_eq_true rfl) (by decide) (by decide) ?_
  intro v h31 hQ
  obtain ⟨rfl, hP⟩ := hQ
  refine Wk.v0 ?_
  rcases hP with hP | ⟨hm, hP1, hP⟩
  · obtain ⟨hp6, WA6, WB6⟩ := hP
    replace A : Ars Z hp6 b k (.object "com/example/orderly_dispatch/orderlydispatch/TimerQueue$Timer") [(.ref t2), (.ref t1), .null, .null, .null, .null, .null, .null, .null, .null, .null, .null, .null, .null, .null, .null] := A.set WA6
    replace E_q := E_q.wr WA6
    replace H := H.other WA6 (Or.inl n_q_b)
    replace N := N.other WA6 (Or.inl n_q_b)
    replace G := G.other WA6 (Or.inl n_q_b)
    replace E_t0 := E_t0.wr WA6
    replace X_t0 := X_t0.other WA6 (Or.inl n_t0_b)
    replace D_t0 := D_t0.other WA6 (Or.inl n_t0_b)
    replace S_t0 := S_t0.other WA6 (Or.inl n_t0_b)
    replace T_t0 := T_t0.other WA6 (Or.inl n_t0_b)
    replace E_t1 := E_t1.wr WA6
    replace X_t1 := X_t1.other WA6 (Or.inl n_t1_b)
    replace D_t1 := D_t1.other WA6 (Or.inl n_t1_b)
    replace S_t1 := S_t1.other WA6 (Or.inl n_t1_b)
    replace T_t1 := T_t1.other WA6 (Or.inl n_t1_b)
    replace E_t2 := E_t2.wr WA6
    replace X_t2 := X_t2.other WA6 (Or.inl n_t2_b)
    replace D_t2 := D_t2.other WA6 (Or.inl n_t2_b)
    replace S_t2 := S_t2.other WA6 (Or.inl n_t2_b)
    replace T_t2 := T_t2.other WA6 (Or.inl n_t2_b)
    replace Z0 := Nat.le_trans Z0 (Nat.le_of_eq (Wr.size WA6).symm)
    replace K := K.wr WA6 (Or.inl (List.mem_of_getElem? (i := 1) rfl))
    replace E_q := E_q.wr WB6
    replace H := H.other WB6 (Or.inl (Ne.symm n_t2_q))
    replace A := A.other WB6 (Ne.symm n_t2_b)
    replace N := N.other WB6 (Or.inl (Ne.symm n_t2_q))
    replace G := G.other WB6 (Or.inl (Ne.symm n_t2_q))
    replace E_t0 := E_t0.wr WB6
    replace X_t0 := X_t0.other WB6 (Or.inl n_t0_t2)
    replace D_t0 := D_t0.other WB6 (Or.inl n_t0_t2)
    replace S_t0 := S_t0.other WB6 (Or.inl n_t0_t2)
    replace T_t0 := T_t0.other WB6 (Or.inl n_t0_t2)
    replace E_t1 := E_t1.wr WB6
    replace X_t1 := X_t1.other WB6 (Or.inl n_t1_t2)
    replace D_t1 := D_t1.other WB6 (Or.inl n_t1_t2)
    replace S_t1 := S_t1.other WB6 (Or.inl n_t1_t2)
    replace T_t1 := T_t1.other WB6 (Or.inl n_t1_t2)
    replace E_t2 := E_t2.wr WB6
    replace X_t2 := X_t2.same WB6
    replace D_t2 := D_t2.other WB6 (Or.inr (slot_ne (Or.inr (hw _ (List.mem_of_getElem? (i := 40) rfl))) (Or.inl (hw _ (List.mem_of_getElem? (i := 36) rfl))) (by decide) (t := .long) (t' := .int) (by decide) (by decide)))
    replace S_t2 := S_t2.other WB6 (Or.inr (slot_ne (Or.inr (hw _ (List.mem_of_getElem? (i := 42) rfl))) (Or.inl (hw _ (List.mem_of_getElem? (i := 36) rfl))) (by decide) (t := .long) (t' := .int) (by decide) (by decide)))
    replace T_t2 := T_t2.other WB6 (Or.inr (slot_ne (Or.inr (hw _ (List.mem_of_getElem? (i := 38) rfl))) (Or.inl (hw _ (List.mem_of_getElem? (i := 36) rfl))) (by decide) (t := (.object "java/lang/Runnable")) (t' := .int) (by decide) (by decide)))
    replace Z0 := Nat.le_trans Z0 (Nat.le_of_eq (Wr.size WB6).symm)
    replace K := K.wr WB6 (Or.inl (List.mem_of_getElem? (i := 4) rfl))
    refine w_aloadN C (q := 46) d12_45 rfl rfl rfl ?_
    refine w_getF C (q := 49) (host := "") (Or.inl (hw _ (List.mem_of_getElem? (i := 11) rfl))) Via.refl H d12_46 rfl ?_
    refine w_iloadN C (q := 50) d12_49 rfl rfl ?_
    refine w_aaload C (q := 51) A rfl (.ref t2) (by decide) rfl d12_50 rfl ?_
    refine w_aloadN C (q := 52) d12_51 rfl rfl rfl ?_
    refine w_acne_f C (q := 55) d12_52 rfl rfl rfl rfl ?_
    refine w_aloadN C (q := 56) d12_55 rfl rfl rfl ?_
    refine w_iloadN C (q := 57) d12_56 rfl rfl ?_
    refine w_aloadN C (q := 58) d12_57 rfl rfl rfl ?_
    refine w_private C (q := 61) (y := ⟨"com/example/orderly_dispatch/orderlydispatch/TimerQueue", "siftUp", "(ILcom/example/orderly_dispatch/orderlydispatch/TimerQueue$Timer;)V"⟩) (rm := ({ frames := 2, cells := 0, slots := 0, locals := 33 } : Room)) (a := q) (argsL := [(.int (0 : Int32)), (.ref t2)]) (hw _ (List.mem_of_getElem? (i := 43) rfl)) (hw _ (List.mem_of_getElem? (i := 44) rfl)) (sel_private (by decide) (hw _ (List.mem_of_getElem? (i := 1) rfl)) (hw _ (List.mem_of_getElem? (i := 45) rfl)) (hw _ (List.mem_of_getElem? (i := 44) rfl))) (hw _ (List.mem_of_getElem? (i := 45) rfl)) (hw _ (List.mem_of_getElem? (i := 2) rfl)) (hw _ (List.mem_of_getElem? (i := 46) rfl)) E_q (rmU0 l Z a0 hw q t2 _ n0 Z0 b k E_q H O g_b _ A rfl (0 : Int32) d_t2 s_t2 E_t2 X_t2 D_t2 S_t2 n_t2_b n_q_b n_t2_q g_t2) (by decide) (rest := []) (lenOf pd_2 rfl) rfl d12_58 rfl rfl (by decide) (Nat.le_of_ble_eq_true rfl) (by decide) (by decide) ?_
    intro v h32 hQ
    obtain ⟨rfl, hP⟩ := hQ
    obtain ⟨hp7, WA7, WB7⟩ := hP
    replace A : Ars Z hp7 b k (.object "com/example/orderly_dispatch/orderlydispatch/TimerQueue$Timer") [(.ref t2), (.ref t1), .null, .null, .null, .null, .null, .null, .null, .null, .null, .null, .null, .null, .null, .null] := A.set WA7
    replace E_q := E_q.wr WA7
    replace H := H.other WA7 (Or.inl n_q_b)
    replace N := N.other WA7 (Or.inl n_q_b)
    replace G := G.other WA7 (Or.inl n_q_b)
    replace E_t0 := E_t0.wr WA7
    replace X_t0 := X_t0.other WA7 (Or.inl n_t0_b)
    replace D_t0 := D_t0.other WA7 (Or.inl n_t0_b)
    replace S_t0 := S_t0.other WA7 (Or.inl n_t0_b)
    replace T_t0 := T_t0.other WA7 (Or.inl n_t0_b)
    replace E_t1 := E_t1.wr WA7
    replace X_t1 := X_t1.other WA7 (Or.inl n_t1_b)
    replace D_t1 := D_t1.other WA7 (Or.inl n_t1_b)
    replace S_t1 := S_t1.other WA7 (Or.inl n_t1_b)
    replace T_t1 := T_t1.other WA7 (Or.inl n_t1_b)
    replace E_t2 := E_t2.wr WA7
    replace X_t2 := X_t2.other WA7 (Or.inl n_t2_b)
    replace D_t2 := D_t2.other WA7 (Or.inl n_t2_b)
    replace S_t2 := S_t2.other WA7 (Or.inl n_t2_b)
    replace T_t2 := T_t2.other WA7 (Or.inl n_t2_b)
    replace Z0 := Nat.le_trans Z0 (Nat.le_of_eq (Wr.size WA7).symm)
    replace K := K.wr WA7 (Or.inl (List.mem_of_getElem? (i := 1) rfl))
    replace E_q := E_q.wr WB7
    replace H := H.other WB7 (Or.inl (Ne.symm n_t2_q))
    replace A := A.other WB7 (Ne.symm n_t2_b)
    replace N := N.other WB7 (Or.inl (Ne.symm n_t2_q))
    replace G := G.other WB7 (Or.inl (Ne.symm n_t2_q))
    replace E_t0 := E_t0.wr WB7
    replace X_t0 := X_t0.other WB7 (Or.inl n_t0_t2)
    replace D_t0 := D_t0.other WB7 (Or.inl n_t0_t2)
    replace S_t0 := S_t0.other WB7 (Or.inl n_t0_t2)
    replace T_t0 := T_t0.other WB7 (Or.inl n_t0_t2)
    replace E_t1 := E_t1.wr WB7
    replace X_t1 := X_t1.other WB7 (Or.inl n_t1_t2)
    replace D_t1 := D_t1.other WB7 (Or.inl n_t1_t2)
    replace S_t1 := S_t1.other WB7 (Or.inl n_t1_t2)
    replace T_t1 := T_t1.other WB7 (Or.inl n_t1_t2)
    replace E_t2 := E_t2.wr WB7
    replace X_t2 := X_t2.same WB7
    replace D_t2 := D_t2.other WB7 (Or.inr (slot_ne (Or.inr (hw _ (List.mem_of_getElem? (i := 40) rfl))) (Or.inl (hw _ (List.mem_of_getElem? (i := 36) rfl))) (by decide) (t := .long) (t' := .int) (by decide) (by decide)))
    replace S_t2 := S_t2.other WB7 (Or.inr (slot_ne (Or.inr (hw _ (List.mem_of_getElem? (i := 42) rfl))) (Or.inl (hw _ (List.mem_of_getElem? (i := 36) rfl))) (by decide) (t := .long) (t' := .int) (by decide) (by decide)))
    replace T_t2 := T_t2.other WB7 (Or.inr (slot_ne (Or.inr (hw _ (List.mem_of_getElem? (i := 38) rfl))) (Or.inl (hw _ (List.mem_of_getElem? (i := 36) rfl))) (by decide) (t := (.object "java/lang/Runnable")) (t' := .int) (by decide) (by decide)))
    replace Z0 := Nat.le_trans Z0 (Nat.le_of_eq (Wr.size WB7).symm)
    replace K := K.wr WB7 (Or.inl (List.mem_of_getElem? (i := 4) rfl))
    refine Wk.v0 ?_
    refine w_aloadN C (q := 62) d12_61 rfl rfl rfl ?_
    refine w_iconst C (q := 63) (-1 : Int32) d12_62 rfl (by decide) ?_
    refine w_putFR C (q := 66) (hw _ (List.mem_of_getElem? (i := 52) rfl)) X_t0 E_t0 (hw _ (List.mem_of_getElem? (i := 36) rfl)) (hw _ (List.mem_of_getElem? (i := 25) rfl)) (ty := .int) (by decide) rfl rfl d12_63 rfl g_t0 ?_
    intro h33 Wh33
    replace E_q := E_q.wr Wh33
    replace H := H.other Wh33 (Or.inl (Ne.symm n_t0_q))
    replace A := A.other Wh33 (Ne.symm n_t0_b)
    replace N := N.other Wh33 (Or.inl (Ne.symm n_t0_q))
    replace G := G.other Wh33 (Or.inl (Ne.symm n_t0_q))
    replace E_t0 := E_t0.wr Wh33
    replace X_t0 := X_t0.same Wh33
    replace D_t0 := D_t0.other Wh33 (Or.inr (slot_ne (Or.inr (hw _ (List.mem_of_getElem? (i := 40) rfl))) (Or.inl (hw _ (List.mem_of_getElem? (i := 36) rfl))) (by decide) (t := .long) (t' := .int) (by decide) (by decide)))
    replace S_t0 := S_t0.other Wh33 (Or.inr (slot_ne (Or.inr (hw _ (List.mem_of_getElem? (i := 42) rfl))) (Or.inl (hw _ (List.mem_of_getElem? (i := 36) rfl))) (by decide) (t := .long) (t' := .int) (by decide) (by decide)))
    replace T_t0 := T_t0.other Wh33 (Or.inr (slot_ne (Or.inr (hw _ (List.mem_of_getElem? (i := 38) rfl))) (Or.inl (hw _ (List.mem_of_getElem? (i := 36) rfl))) (by decide) (t := (.object "java/lang/Runnable")) (t' := .int) (by decide) (by decide)))
    replace E_t1 := E_t1.wr Wh33
    replace X_t1 := X_t1.other Wh33 (Or.inl (Ne.symm n_t0_t1))
    replace D_t1 := D_t1.other Wh33 (Or.inl (Ne.symm n_t0_t1))
    replace S_t1 := S_t1.other Wh33 (Or.inl (Ne.symm n_t0_t1))
    replace T_t1 := T_t1.other Wh33 (Or.inl (Ne.symm n_t0_t1))
    replace E_t2 := E_t2.wr Wh33
    replace X_t2 := X_t2.other Wh33 (Or.inl (Ne.symm n_t0_t2))
    replace D_t2 := D_t2.other Wh33 (Or.inl (Ne.symm n_t0_t2))
    replace S_t2 := S_t2.other Wh33 (Or.inl (Ne.symm n_t0_t2))
    replace T_t2 := T_t2.other Wh33 (Or.inl (Ne.symm n_t0_t2))
    replace Z0 := Nat.le_trans Z0 (Nat.le_of_eq (Wr.size Wh33).symm)
    replace K := K.wr Wh33 (Or.inl (List.mem_of_getElem? (i := 2) rfl))
    exact w_ret0 C d12_66 (by decide) (by decide) ⟨rfl, [t2, t1], TQ.build2 ⟨E_q, H, N, ⟨_, G⟩, A, O, ⟨E_t2, X_t2, ⟨_, D_t2⟩, ⟨_, S_t2⟩, T_t2⟩, ⟨E_t1, X_t1, ⟨_, D_t1⟩, ⟨_, S_t1⟩, T_t1⟩, (Ne.symm n_t1_t2), n_q_b, n_t2_q, n_t2_b, g_t2, n_t1_q, n_t1_b, g_t1, g_q, g_b⟩, ⟨rfl, by simp_all, by simp_all⟩, K⟩
  · obtain ⟨hp8, WA8, WB8⟩ := hP1
    replace A : Ars Z hp8 b k (.object "com/example/orderly_dispatch/orderlydispatch/TimerQueue$Timer") [(.ref t1), (.ref t1), .null, .null, .null, .null, .null, .null, .null, .null, .null, .null, .null, .null, .null, .null] := A.set WA8
    replace E_q := E_q.wr WA8
    replace H := H.other WA8 (Or.inl n_q_b)
    replace N := N.other WA8 (Or.inl n_q_b)
    replace G := G.other WA8 (Or.inl n_q_b)
    replace E_t0 := E_t0.wr WA8
    replace X_t0 := X_t0.other WA8 (Or.inl n_t0_b)
    replace D_t0 := D_t0.other WA8 (Or.inl n_t0_b)
    replace S_t0 := S_t0.other WA8 (Or.inl n_t0_b)
    replace T_t0 := T_t0.other WA8 (Or.inl n_t0_b)
    replace E_t1 := E_t1.wr WA8
    replace X_t1 := X_t1.other WA8 (Or.inl n_t1_b)
    replace D_t1 := D_t1.other WA8 (Or.inl n_t1_b)
    replace S_t1 := S_t1.other WA8 (Or.inl n_t1_b)
    replace T_t1 := T_t1.other WA8 (Or.inl n_t1_b)
    replace E_t2 := E_t2.wr WA8
    replace X_t2 := X_t2.other WA8 (Or.inl n_t2_b)
    replace D_t2 := D_t2.other WA8 (Or.inl n_t2_b)
    replace S_t2 := S_t2.other WA8 (Or.inl n_t2_b)
    replace T_t2 := T_t2.other WA8 (Or.inl n_t2_b)
    replace Z0 := Nat.le_trans Z0 (Nat.le_of_eq (Wr.size WA8).symm)
    replace K := K.wr WA8 (Or.inl (List.mem_of_getElem? (i := 1) rfl))
    replace E_q := E_q.wr WB8
    replace H := H.other WB8 (Or.inl (Ne.symm n_t1_q))
    replace A := A.other WB8 (Ne.symm n_t1_b)
    replace N := N.other WB8 (Or.inl (Ne.symm n_t1_q))
    replace G := G.other WB8 (Or.inl (Ne.symm n_t1_q))
    replace E_t0 := E_t0.wr WB8
    replace X_t0 := X_t0.other WB8 (Or.inl n_t0_t1)
    replace D_t0 := D_t0.other WB8 (Or.inl n_t0_t1)
    replace S_t0 := S_t0.other WB8 (Or.inl n_t0_t1)
    replace T_t0 := T_t0.other WB8 (Or.inl n_t0_t1)
    replace E_t1 := E_t1.wr WB8
    replace X_t1 := X_t1.same WB8
    replace D_t1 := D_t1.other WB8 (Or.inr (slot_ne (Or.inr (hw _ (List.mem_of_getElem? (i := 40) rfl))) (Or.inl (hw _ (List.mem_of_getElem? (i := 36) rfl))) (by decide) (t := .long) (t' := .int) (by decide) (by decide)))
    replace S_t1 := S_t1.other WB8 (Or.inr (slot_ne (Or.inr (hw _ (List.mem_of_getElem? (i := 42) rfl))) (Or.inl (hw _ (List.mem_of_getElem? (i := 36) rfl))) (by decide) (t := .long) (t' := .int) (by decide) (by decide)))
    replace T_t1 := T_t1.other WB8 (Or.inr (slot_ne (Or.inr (hw _ (List.mem_of_getElem? (i := 38) rfl))) (Or.inl (hw _ (List.mem_of_getElem? (i := 36) rfl))) (by decide) (t := (.object "java/lang/Runnable")) (t' := .int) (by decide) (by decide)))
    replace E_t2 := E_t2.wr WB8
    replace X_t2 := X_t2.other WB8 (Or.inl (Ne.symm n_t1_t2))
    replace D_t2 := D_t2.other WB8 (Or.inl (Ne.symm n_t1_t2))
    replace S_t2 := S_t2.other WB8 (Or.inl (Ne.symm n_t1_t2))
    replace T_t2 := T_t2.other WB8 (Or.inl (Ne.symm n_t1_t2))
    replace Z0 := Nat.le_trans Z0 (Nat.le_of_eq (Wr.size WB8).symm)
    replace K := K.wr WB8 (Or.inl (List.mem_of_getElem? (i := 3) rfl))
    obtain ⟨hp9, WA9, WB9⟩ := hP
    replace A : Ars Z hp9 b k (.object "com/example/orderly_dispatch/orderlydispatch/TimerQueue$Timer") [(.ref t1), (.ref t2), .null, .null, .null, .null, .null, .null, .null, .null, .null, .null, .null, .null, .null, .null] := A.set WA9
    replace E_q := E_q.wr WA9
    replace H := H.other WA9 (Or.inl n_q_b)
    replace N := N.other WA9 (Or.inl n_q_b)
    replace G := G.other WA9 (Or.inl n_q_b)
    replace E_t0 := E_t0.wr WA9
    replace X_t0 := X_t0.other WA9 (Or.inl n_t0_b)
    replace D_t0 := D_t0.other WA9 (Or.inl n_t0_b)
    replace S_t0 := S_t0.other WA9 (Or.inl n_t0_b)
    replace T_t0 := T_t0.other WA9 (Or.inl n_t0_b)
    replace E_t1 := E_t1.wr WA9
    replace X_t1 := X_t1.other WA9 (Or.inl n_t1_b)
    replace D_t1 := D_t1.other WA9 (Or.inl n_t1_b)
    replace S_t1 := S_t1.other WA9 (Or.inl n_t1_b)
    replace T_t1 := T_t1.other WA9 (Or.inl n_t1_b)
    replace E_t2 := E_t2.wr WA9
    replace X_t2 := X_t2.other WA9 (Or.inl n_t2_b)
    replace D_t2 := D_t2.other WA9 (Or.inl n_t2_b)
    replace S_t2 := S_t2.other WA9 (Or.inl n_t2_b)
    replace T_t2 := T_t2.other WA9 (Or.inl n_t2_b)
    replace Z0 := Nat.le_trans Z0 (Nat.le_of_eq (Wr.size WA9).symm)
    replace K := K.wr WA9 (Or.inl (List.mem_of_getElem? (i := 1) rfl))
    replace E_q := E_q.wr WB9
    replace H := H.other WB9 (Or.inl (Ne.symm n_t2_q))
    replace A := A.other WB9 (Ne.symm n_t2_b)
    replace N := N.other WB9 (Or.inl (Ne.symm n_t2_q))
    replace G := G.other WB9 (Or.inl (Ne.symm n_t2_q))
    replace E_t0 := E_t0.wr WB9
    replace X_t0 := X_t0.other WB9 (Or.inl n_t0_t2)
    replace D_t0 := D_t0.other WB9 (Or.inl n_t0_t2)
    replace S_t0 := S_t0.other WB9 (Or.inl n_t0_t2)
    replace T_t0 := T_t0.other WB9 (Or.inl n_t0_t2)
    replace E_t1 := E_t1.wr WB9
    replace X_t1 := X_t1.other WB9 (Or.inl n_t1_t2)
    replace D_t1 := D_t1.other WB9 (Or.inl n_t1_t2)
    replace S_t1 := S_t1.other WB9 (Or.inl n_t1_t2)
    replace T_t1 := T_t1.other WB9 (Or.inl n_t1_t2)
    replace E_t2 := E_t2.wr WB9
    replace X_t2 := X_t2.same WB9
    replace D_t2 := D_t2.other WB9 (Or.inr (slot_ne (Or.inr (hw _ (List.mem_of_getElem? (i := 40) rfl))) (Or.inl (hw _ (List.mem_of_getElem? (i := 36) rfl))) (by decide) (t := .long) (t' := .int) (by decide) (by decide)))
    replace S_t2 := S_t2.other WB9 (Or.inr (slot_ne (Or.inr (hw _ (List.mem_of_getElem? (i := 42) rfl))) (Or.inl (hw _ (List.mem_of_getElem? (i := 36) rfl))) (by decide) (t := .long) (t' := .int) (by decide) (by decide)))
    replace T_t2 := T_t2.other WB9 (Or.inr (slot_ne (Or.inr (hw _ (List.mem_of_getElem? (i := 38) rfl))) (Or.inl (hw _ (List.mem_of_getElem? (i := 36) rfl))) (by decide) (t := (.object "java/lang/Runnable")) (t' := .int) (by decide) (by decide)))
    replace Z0 := Nat.le_trans Z0 (Nat.le_of_eq (Wr.size WB9).symm)
    replace K := K.wr WB9 (Or.inl (List.mem_of_getElem? (i := 4) rfl))
    refine w_aloadN C (q := 46) d12_45 rfl rfl rfl ?_
    refine w_getF C (q := 49) (host := "") (Or.inl (hw _ (List.mem_of_getElem? (i := 11) rfl))) Via.refl H d12_46 rfl ?_
    refine w_iloadN C (q := 50) d12_49 rfl rfl ?_
    refine w_aaload C (q := 51) A rfl (.ref t1) (by decide) rfl d12_50 rfl ?_
    refine w_aloadN C (q := 52) d12_51 rfl rfl rfl ?_
    refine w_acne_t C (q := 61) d12_52 (by decide) (by decide) rfl rfl (fun z => n_t1_t2 (Value.ref.inj z)) ?_
    refine w_aloadN C (q := 62) d12_61 rfl rfl rfl ?_
    refine w_iconst C (q := 63) (-1 : Int32) d12_62 rfl (by decide) ?_
    refine w_putFR C (q := 66) (hw _ (List.mem_of_getElem? (i := 52) rfl)) X_t0 E_t0 (hw _ (List.mem_of_getElem? (i := 36) rfl)) (hw _ (List.mem_of_getElem? (i := 25) rfl)) (ty := .int) (by decide) rfl rfl d12_63 rfl g_t0 ?_
    intro h34 Wh34
    replace E_q := E_q.wr Wh34
    replace H := H.other Wh34 (Or.inl (Ne.symm n_t0_q))
    replace A := A.other Wh34 (Ne.symm n_t0_b)
    replace N := N.other Wh34 (Or.inl (Ne.symm n_t0_q))
    replace G := G.other Wh34 (Or.inl (Ne.symm n_t0_q))
    replace E_t0 := E_t0.wr Wh34
    replace X_t0 := X_t0.same Wh34
    replace D_t0 := D_t0.other Wh34 (Or.inr (slot_ne (Or.inr (hw _ (List.mem_of_getElem? (i := 40) rfl))) (Or.inl (hw _ (List.mem_of_getElem? (i := 36) rfl))) (by decide) (t := .long) (t' := .int) (by decide) (by decide)))
    replace S_t0 := S_t0.other Wh34 (Or.inr (slot_ne (Or.inr (hw _ (List.mem_of_getElem? (i := 42) rfl))) (Or.inl (hw _ (List.mem_of_getElem? (i := 36) rfl))) (by decide) (t := .long) (t' := .int) (by decide) (by decide)))
    replace T_t0 := T_t0.other Wh34 (Or.inr (slot_ne (Or.inr (hw _ (List.mem_of_getElem? (i := 38) rfl))) (Or.inl (hw _ (List.mem_of_getElem? (i := 36) rfl))) (by decide) (t := (.object "java/lang/Runnable")) (t' := .int) (by decide) (by decide)))
    replace E_t1 := E_t1.wr Wh34
    replace X_t1 := X_t1.other Wh34 (Or.inl (Ne.symm n_t0_t1))
    replace D_t1 := D_t1.other Wh34 (Or.inl (Ne.symm n_t0_t1))
    replace S_t1 := S_t1.other Wh34 (Or.inl (Ne.symm n_t0_t1))
    replace T_t1 := T_t1.other Wh34 (Or.inl (Ne.symm n_t0_t1))
    replace E_t2 := E_t2.wr Wh34
    replace X_t2 := X_t2.other Wh34 (Or.inl (Ne.symm n_t0_t2))
    replace D_t2 := D_t2.other Wh34 (Or.inl (Ne.symm n_t0_t2))
    replace S_t2 := S_t2.other Wh34 (Or.inl (Ne.symm n_t0_t2))
    replace T_t2 := T_t2.other Wh34 (Or.inl (Ne.symm n_t0_t2))
    replace Z0 := Nat.le_trans Z0 (Nat.le_of_eq (Wr.size Wh34).symm)
    replace K := K.wr Wh34 (Or.inl (List.mem_of_getElem? (i := 2) rfl))
    exact w_ret0 C d12_66 (by decide) (by decide) ⟨rfl, [t1, t2], TQ.build2 ⟨E_q, H, N, ⟨_, G⟩, A, O, ⟨E_t1, X_t1, ⟨_, D_t1⟩, ⟨_, S_t1⟩, T_t1⟩, ⟨E_t2, X_t2, ⟨_, D_t2⟩, ⟨_, S_t2⟩, T_t2⟩, n_t1_t2, n_q_b, n_t1_q, n_t1_b, g_t1, n_t2_q, n_t2_b, g_t2, g_q, g_b⟩, ⟨rfl, by simp_all, by simp_all⟩, K⟩
theorem ef_RA31 (m : MethodId) (q : Nat) : entryFrame m #[(.ref q), (.int (1 : Int32))] 4 = mkF m 0 #[.val (.ref q), .val (.int (1 : Int32)), .unset, .unset] [] := by first | (simp [entryFrame, mkF, argsToLocals, Value.category]; done) | rfl
set_option maxRecDepth 65536 in
set_option maxHeartbeats 40000000 in
theorem rmRA31 (l : Launch) (Z : State) (a0 : Array Value) (hw : ∀ d ∈ tables_1, d.before a0 Z = true) (q : Nat) (h0 : Heap) (n0 : Nat) (Z0 : n0 ≤ h0.size) (b : Addr) (k : ClassId) (t0 : Addr) (t1 : Addr) (t2 : Addr) (hTQ : TQ Z n0 h0 q b k [t0, t1, t2]) :
    Met1 l Z ⟨"com/example/orderly_dispatch/orderlydispatch/TimerQueue", "removeAt", "(I)V"⟩ prog_25_method_10_code 4 none ({ frames := 3, cells := 0, slots := 0, locals := 54 } : Room) #[(.ref q), (.int (1 : Int32))] h0 n0 (fun v h => v = none ∧ ∃ ts', TQ Z n0 h q b k ts' ∧ Rem [t0, t1, t2] ts' t1 ∧ Keep h0 h (q :: b :: [t0, t1, t2])) := by
  refine Met1.of_body pn_12 (fun p e s m below meth c C => ?_)
  replace C : Cx p s m meth c Z "com/example/orderly_dispatch/orderlydispatch/TimerQueue" "removeAt" prog_25_method_10_code 4 none := C
  refine Wk.cast (ef_RA31 m q) ?_
  obtain ⟨E_q, H, N, ⟨ad, G⟩, A, O, ⟨E_t0, X_t0, ⟨d_t0, D_t0⟩, ⟨s_t0, S_t0⟩, T_t0⟩, ⟨E_t1, X_t1, ⟨d_t1, D_t1⟩, ⟨s_t1, S_t1⟩, T_t1⟩, ⟨E_t2, X_t2, ⟨d_t2, D_t2⟩, ⟨s_t2, S_t2⟩, T_t2⟩, n_t0_t1, n_t0_t2, n_t1_t2, n_q_b, n_t0_q, n_t0_b, g_t0, n_t1_q, n_t1_b, g_t1, n_t2_q, n_t2_b, g_t2, g_q, g_b⟩ := hTQ.open3
  have K : Keep h0 h0 (q :: b :: [t0, t1, t2]) := Keep.refl _ _
  refine w_aloadN C (q := 1) d12_0 rfl rfl rfl ?_
  refine w_getF C (q := 4) (host := "") (Or.inl (hw _ (List.mem_of_getElem? (i := 11) rfl))) Via.refl H d12_1 rfl ?_
  refine w_iloadN C (q := 5) d12_4 rfl rfl ?_
  refine w_aaload C (q := 6) A rfl (.ref t1) (by decide) rfl d12_5 rfl ?_
  refine w_astoreN C (q := 7) #[.val (.ref q), .val (.int (1 : Int32)), .val (.ref t1), .unset] d12_6 rfl rfl rfl ?_
  refine w_aloadN C (q := 8) d12_7 rfl rfl rfl ?_
  refine w_getF C (q := 11) (host := "") (Or.inl (hw _ (List.mem_of_getElem? (i := 11) rfl))) Via.refl H d12_8 rfl ?_
  refine w_aloadN C (q := 12) d12_11 rfl rfl rfl ?_
  refine w_dup C (q := 13) d12_12 rfl rfl ?_
  refine w_getF C (q := 16) (host := "") (Or.inl (hw _ (List.mem_of_getElem? (i := 18) rfl))) Via.refl N d12_13 rfl ?_
  refine w_iconst C (q := 17) (1 : Int32) d12_16 rfl (by decide) ?_
  refine w_isub C (q := 18) d12_17 rfl ?_
  refine w_dupX1 C (q := 19) d12_18 rfl rfl rfl ?_
  refine w_putF C (q := 22) (host := "") (Or.inl (hw _ (List.mem_of_getElem? (i := 18) rfl))) Via.refl N E_q (Or.inl (hw _ (List.mem_of_getElem? (i := 19) rfl))) (hw _ (List.mem_of_getElem? (i := 1) rfl)) (ty := .int) (by decide) rfl rfl d12_19 rfl g_q ?_
  intro h35 Wh35
  replace E_q := E_q.wr Wh35
  replace H := H.other Wh35 (Or.inr (slot_ne (Or.inl (hw _ (List.mem_of_getElem? (i := 12) rfl))) (Or.inl (hw _ (List.mem_of_getElem? (i := 19) rfl))) (by decide) (t := (.array (.object "com/example/orderly_dispatch/orderlydispatch/TimerQueue$Timer"))) (t' := .int) (by decide) (by decide)))
  replace A := A.other Wh35 (Ne.symm n_q_b)
  replace N := N.same Wh35
  replace G := G.other Wh35 (Or.inr (slot_ne (Or.inl (hw _ (List.mem_of_getElem? (i := 28) rfl))) (Or.inl (hw _ (List.mem_of_getElem? (i := 19) rfl))) (by decide) (t := .long) (t' := .int) (by decide) (by decide)))
  replace E_t0 := E_t0.wr Wh35
  replace X_t0 := X_t0.other Wh35 (Or.inl n_t0_q)
  replace D_t0 := D_t0.other Wh35 (Or.inl n_t0_q)
  replace S_t0 := S_t0.other Wh35 (Or.inl n_t0_q)
  replace T_t0 := T_t0.other Wh35 (Or.inl n_t0_q)
  replace E_t1 := E_t1.wr Wh35
  replace X_t1 := X_t1.other Wh35 (Or.inl n_t1_q)
  replace D_t1 := D_t1.other Wh35 (Or.inl n_t1_q)
  replace S_t1 := S_t1.other Wh35 (Or.inl n_t1_q)
  replace T_t1 := T_t1.other Wh35 (Or.inl n_t1_q)
  replace E_t2 := E_t2.wr Wh35
  replace X_t2 := X_t2.other Wh35 (Or.inl n_t2_q)
  replace D_t2 := D_t2.other Wh35 (Or.inl n_t2_q)
  replace S_t2 := S_t2.other Wh35 (Or.inl n_t2_q)
  replace T_t2 := T_t2.other Wh35 (Or.inl n_t2_q)
  replace Z0 := Nat.le_trans Z0 (Nat.le_of_eq (Wr.size Wh35).symm)
  replace K := K.wr Wh35 (Or.inl (List.mem_of_getElem? (i := 0) rfl))
  refine w_aaload C (q := 23) A rfl (.ref t2) (by decide) rfl d12_22 rfl ?_
  refine w_astoreN C (q := 24) #[.val (.ref q), .val (.int (1 : Int32)), .val (.ref t1), .val (.ref t2)] d12_23 rfl rfl rfl ?_
  refine w_aloadN C (q := 25) d12_24 rfl rfl rfl ?_
  refine w_getF C (q := 28) (host := "") (Or.inl (hw _ (List.mem_of_getElem? (i := 11) rfl))) Via.refl H d12_25 rfl ?_
  refine w_aloadN C (q := 29) d12_28 rfl rfl rfl ?_
  refine w_getF C (q := 32) (host := "") (Or.inl (hw _ (List.mem_of_getElem? (i := 18) rfl))) Via.refl N d12_29 rfl ?_
  refine w_aconstNull C (q := 33) d12_32 rfl ?_
  refine w_aastore C (q := 34) A rfl (Or.inl rfl) (by decide) (Nat.le_of_ble_eq_true rfl) d12_33 rfl g_b ?_
  intro h36 Wh36 A'
  replace A : Ars Z h36 b k (.object "com/example/orderly_dispatch/orderlydispatch/TimerQueue$Timer") [(.ref t0), (.ref t1), .null, .null, .null, .null, .null, .null, .null, .null, .null, .null, .null, .null, .null, .null] := A'
  skip
  replace E_q := E_q.wr Wh36
  replace H := H.other Wh36 (Or.inl n_q_b)
  replace N := N.other Wh36 (Or.inl n_q_b)
  replace G := G.other Wh36 (Or.inl n_q_b)
  replace E_t0 := E_t0.wr Wh36
  replace X_t0 := X_t0.other Wh36 (Or.inl n_t0_b)
  replace D_t0 := D_t0.other Wh36 (Or.inl n_t0_b)
  replace S_t0 := S_t0.other Wh36 (Or.inl n_t0_b)
  replace T_t0 := T_t0.other Wh36 (Or.inl n_t0_b)
  replace E_t1 := E_t1.wr Wh36
  replace X_t1 := X_t1.other Wh36 (Or.inl n_t1_b)
  replace D_t1 := D_t1.other Wh36 (Or.inl n_t1_b)
  replace S_t1 := S_t1.other Wh36 (Or.inl n_t1_b)
  replace T_t1 := T_t1.other Wh36 (Or.inl n_t1_b)
  replace E_t2 := E_t2.wr Wh36
  replace X_t2 := X_t2.other Wh36 (Or.inl n_t2_b)
  replace D_t2 := D_t2.other Wh36 (Or.inl n_t2_b)
  replace S_t2 := S_t2.other Wh36 (Or.inl n_t2_b)
  replace T_t2 := T_t2.other Wh36 (Or.inl n_t2_b)
  replace Z0 := Nat.le_trans Z0 (Nat.le_of_eq (Wr.size Wh36).symm)
  replace K := K.wr Wh36 (Or.inl (List.mem_of_getElem? (i := 1) rfl))
  refine w_aloadN C (q := 35) d12_34 rfl rfl rfl ?_
  refine w_aloadN C (q := 36) d12_35 rfl rfl rfl ?_
  refine w_aceq_f C (q := 39) d12_36 rfl rfl rfl (fun z => (Ne.symm n_t1_t2) (Value.ref.inj z)) ?_
  refine w_aloadN C (q := 40) d12_39 rfl rfl rfl ?_
  refine w_iloadN C (q := 41) d12_40 rfl rfl ?_
  refine w_aloadN C (q := 42) d12_41 rfl rfl rfl ?_
  refine w_private C (q := 45) (y := ⟨"com/example/orderly_dispatch/orderlydispatch/TimerQueue", "siftDown", "(ILcom/example/orderly_dispatch/orderlydispatch/TimerQueue$Timer;)V"⟩) (rm := ({ frames := 2, cells := 0, slots := 0, locals := 33 } : Room)) (a := q) (argsL := [(.int (1 : Int32)), (.ref t2)]) (hw _ (List.mem_of_getElem? (i := 105) rfl)) (hw _ (List.mem_of_getElem? (i := 106) rfl)) (sel_private (by decide) (hw _ (List.mem_of_getElem? (i := 1) rfl)) (hw _ (List.mem_of_getElem? (i := 107) rfl)) (hw _ (List.mem_of_getElem? (i := 106) rfl))) (hw _ (List.mem_of_getElem? (i := 107) rfl)) (hw _ (List.mem_of_getElem? (i := 2) rfl)) (hw _ (List.mem_of_getElem? (i := 108) rfl)) E_q (rmD21 l Z a0 hw q t2 _ n0 Z0 b k E_q H O g_b N _ A rfl (2 : Int32) d_t2 s_t2 E_t2 X_t2 D_t2 S_t2 n_t2_b n_q_b n_t2_q g_t2) (by decide) (rest := []) (lenOf pd_2 rfl) rfl d12_42 rfl rfl (by decide) (Nat.le_of_ble_eq_true rfl) (by decide) (by decide) ?_
  intro v h37 hQ
  obtain ⟨rfl, hP⟩ := hQ
  obtain ⟨hp10, WA10, WB10⟩ := hP
  replace A : Ars Z hp10 b k (.object "com/example/orderly_dispatch/orderlydispatch/TimerQueue$Timer") [(.ref t0), (.ref t2), .null, .null, .null, .null, .null, .null, .null, .null, .null, .null, .null, .null, .null, .null] := A.set WA10
  replace E_q := E_q.wr WA10
  replace H := H.other WA10 (Or.inl n_q_b)
  replace N := N.other WA10 (Or.inl n_q_b)
  replace G := G.other WA10 (Or.inl n_q_b)
  replace E_t0 := E_t0.wr WA10
  replace X_t0 := X_t0.other WA10 (Or.inl n_t0_b)
  replace D_t0 := D_t0.other WA10 (Or.inl n_t0_b)
  replace S_t0 := S_t0.other WA10 (Or.inl n_t0_b)
  replace T_t0 := T_t0.other WA10 (Or.inl n_t0_b)
  replace E_t1 := E_t1.wr WA10
  replace X_t1 := X_t1.other WA10 (Or.inl n_t1_b)
  replace D_t1 := D_t1.other WA10 (Or.inl n_t1_b)
  replace S_t1 := S_t1.other WA10 (Or.inl n_t1_b)
  replace T_t1 := T_t1.other WA10 (Or.inl n_t1_b)
  replace E_t2 := E_t2.wr WA10
  replace X_t2 := X_t2.other WA10 (Or.inl n_t2_b)
  replace D_t2 := D_t2.other WA10 (Or.inl n_t2_b)
  replace S_t2 := S_t2.other WA10 (Or.inl n_t2_b)
  replace T_t2 := T_t2.other WA10 (Or.inl n_t2_b)
  replace Z0 := Nat.le_trans Z0 (Nat.le_of_eq (Wr.size WA10).symm)
  replace K := K.wr WA10 (Or.inl (List.mem_of_getElem? (i := 1) rfl))
  replace E_q := E_q.wr WB10
  replace H := H.other WB10 (Or.inl (Ne.symm n_t2_q))
  replace A := A.other WB10 (Ne.symm n_t2_b)
  replace N := N.other WB10 (Or.inl (Ne.symm n_t2_q))
  replace G := G.other WB10 (Or.inl (Ne.symm n_t2_q))
  replace E_t0 := E_t0.wr WB10
  replace X_t0 := X_t0.other WB10 (Or.inl n_t0_t2)
  replace D_t0 := D_t0.other WB10 (Or.inl n_t0_t2)
  replace S_t0 := S_t0.other WB10 (Or.inl n_t0_t2)
  replace T_t0 := T_t0.other WB10 (Or.inl n_t0_t2)
  replace E_t1 := E_t1.wr WB10
  replace X_t1 := X_t1.other WB10 (Or.inl n_t1_t2)
  replace D_t1 := D_t1.other WB10 (Or.inl n_t1_t2)
  replace S_t1 := S_t1.other WB10 (Or.inl n_t1_t2)
  replace T_t1 := T_t1.other WB10 (Or.inl n_t1_t2)
  replace E_t2 := E_t2.wr WB10
  replace X_t2 := X_t2.same WB10
  replace D_t2 := D_t2.other WB10 (Or.inr (slot_ne (Or.inr (hw _ (List.mem_of_getElem? (i := 40) rfl))) (Or.inl (hw _ (List.mem_of_getElem? (i := 36) rfl))) (by decide) (t := .long) (t' := .int) (by decide) (by decide)))
  replace S_t2 := S_t2.other WB10 (Or.inr (slot_ne (Or.inr (hw _ (List.mem_of_getElem? (i := 42) rfl))) (Or.inl (hw _ (List.mem_of_getElem? (i := 36) rfl))) (by decide) (t := .long) (t' := .int) (by decide) (by decide)))
  replace T_t2 := T_t2.other WB10 (Or.inr (slot_ne (Or.inr (hw _ (List.mem_of_getElem? (i := 38) rfl))) (Or.inl (hw _ (List.mem_of_getElem? (i := 36) rfl))) (by decide) (t := (.object "java/lang/Runnable")) (t' := .int) (by decide) (by decide)))
  replace Z0 := Nat.le_trans Z0 (Nat.le_of_eq (Wr.size WB10).symm)
  replace K := K.wr WB10 (Or.inl (List.mem_of_getElem? (i := 4) rfl))
  refine Wk.v0 ?_
  refine w_aloadN C (q := 46) d12_45 rfl rfl rfl ?_
  refine w_getF C (q := 49) (host := "") (Or.inl (hw _ (List.mem_of_getElem? (i := 11) rfl))) Via.refl H d12_46 rfl ?_
  refine w_iloadN C (q := 50) d12_49 rfl rfl ?_
  refine w_aaload C (q := 51) A rfl (.ref t2) (by decide) rfl d12_50 rfl ?_
  refine w_aloadN C (q := 52) d12_51 rfl rfl rfl ?_
  refine w_acne_f C (q := 55) d12_52 rfl rfl rfl rfl ?_
  refine w_aloadN C (q := 56) d12_55 rfl rfl rfl ?_
  refine w_iloadN C (q := 57) d12_56 rfl rfl ?_
  refine w_aloadN C (q := 58) d12_57 rfl rfl rfl ?_
  refine w_private C (q := 61) (y := ⟨"com/example/orderly_dispatch/orderlydispatch/TimerQueue", "siftUp", "(ILcom/example/orderly_dispatch/orderlydispatch/TimerQueue$Timer;)V"⟩) (rm := ({ frames := 2, cells := 0, slots := 0, locals := 33 } : Room)) (a := q) (argsL := [(.int (1 : Int32)), (.ref t2)]) (hw _ (List.mem_of_getElem? (i := 43) rfl)) (hw _ (List.mem_of_getElem? (i := 44) rfl)) (sel_private (by decide) (hw _ (List.mem_of_getElem? (i := 1) rfl)) (hw _ (List.mem_of_getElem? (i := 45) rfl)) (hw _ (List.mem_of_getElem? (i := 44) rfl))) (hw _ (List.mem_of_getElem? (i := 45) rfl)) (hw _ (List.mem_of_getElem? (i := 2) rfl)) (hw _ (List.mem_of_getElem? (i := 46) rfl)) E_q (rmU1 l Z a0 hw q t2 _ n0 Z0 b k E_q H O g_b _ A rfl t0 rfl (1 : Int32) (0 : Int32) d_t2 s_t2 E_t2 X_t2 D_t2 S_t2 d_t0 s_t0 E_t0 X_t0 D_t0 S_t0 n_t2_b n_q_b n_t2_q n_t0_b n_t0_q (Ne.symm n_t0_t2) g_t2 g_t0) (by decide) (rest := []) (lenOf pd_2 rfl) rfl d12_58 rfl rfl (by decide) (Nat.le_of_ble_eq_true rfl) (by decide) (by decide) ?_
  intro v h38 hQ
  obtain ⟨rfl, hP⟩ := hQ
  refine Wk.v0 ?_
  rcases hP with hP | ⟨hm, hP1, hP⟩
  · obtain ⟨hp11, WA11, WB11⟩ := hP
    replace A : Ars Z hp11 b k (.object "com/example/orderly_dispatch/orderlydispatch/TimerQueue$Timer") [(.ref t0), (.ref t2), .null, .null, .null, .null, .null, .null, .null, .null, .null, .null, .null, .null, .null, .null] := A.set WA11
    replace E_q := E_q.wr WA11
    replace H := H.other WA11 (Or.inl n_q_b)
    replace N := N.other WA11 (Or.inl n_q_b)
    replace G := G.other WA11 (Or.inl n_q_b)
    replace E_t0 := E_t0.wr WA11
    replace X_t0 := X_t0.other WA11 (Or.inl n_t0_b)
    replace D_t0 := D_t0.other WA11 (Or.inl n_t0_b)
    replace S_t0 := S_t0.other WA11 (Or.inl n_t0_b)
    replace T_t0 := T_t0.other WA11 (Or.inl n_t0_b)
    replace E_t1 := E_t1.wr WA11
    replace X_t1 := X_t1.other WA11 (Or.inl n_t1_b)
    replace D_t1 := D_t1.other WA11 (Or.inl n_t1_b)
    replace S_t1 := S_t1.other WA11 (Or.inl n_t1_b)
    replace T_t1 := T_t1.other WA11 (Or.inl n_t1_b)
    replace E_t2 := E_t2.wr WA11
    replace X_t2 := X_t2.other WA11 (Or.inl n_t2_b)
    replace D_t2 := D_t2.other WA11 (Or.inl n_t2_b)
    replace S_t2 := S_t2.other WA11 (Or.inl n_t2_b)
    replace T_t2 := T_t2.other WA11 (Or.inl n_t2_b)
    replace Z0 := Nat.le_trans Z0 (Nat.le_of_eq (Wr.size WA11).symm)
    replace K := K.wr WA11 (Or.inl (List.mem_of_getElem? (i := 1) rfl))
    replace E_q := E_q.wr WB11
    replace H := H.other WB11 (Or.inl (Ne.symm n_t2_q))
    replace A := A.other WB11 (Ne.symm n_t2_b)
    replace N := N.other WB11 (Or.inl (Ne.symm n_t2_q))
    replace G := G.other WB11 (Or.inl (Ne.symm n_t2_q))
    replace E_t0 := E_t0.wr WB11
    replace X_t0 := X_t0.other WB11 (Or.inl n_t0_t2)
    replace D_t0 := D_t0.other WB11 (Or.inl n_t0_t2)
    replace S_t0 := S_t0.other WB11 (Or.inl n_t0_t2)
    replace T_t0 := T_t0.other WB11 (Or.inl n_t0_t2)
    replace E_t1 := E_t1.wr WB11
    replace X_t1 := X_t1.other WB11 (Or.inl n_t1_t2)
    replace D_t1 := D_t1.other WB11 (Or.inl n_t1_t2)
    replace S_t1 := S_t1.other WB11 (Or.inl n_t1_t2)
    replace T_t1 := T_t1.other WB11 (Or.inl n_t1_t2)
    replace E_t2 := E_t2.wr WB11
    replace X_t2 := X_t2.same WB11
    replace D_t2 := D_t2.other WB11 (Or.inr (slot_ne (Or.inr (hw _ (List.mem_of_getElem? (i := 40) rfl))) (Or.inl (hw _ (List.mem_of_getElem? (i := 36) rfl))) (by decide) (t := .long) (t' := .int) (by decide) (by decide)))
    replace S_t2 := S_t2.other WB11 (Or.inr (slot_ne (Or.inr (hw _ (List.mem_of_getElem? (i := 42) rfl))) (Or.inl (hw _ (List.mem_of_getElem? (i := 36) rfl))) (by decide) (t := .long) (t' := .int) (by decide) (by decide)))
    replace T_t2 := T_t2.other WB11 (Or.inr (slot_ne (Or.inr (hw _ (List.mem_of_getElem? (i := 38) rfl))) (Or.inl (hw _ (List.mem_of_getElem? (i := 36) rfl))) (by decide) (t := (.object "java/lang/Runnable")) (t' := .int) (by decide) (by decide)))
    replace Z0 := Nat.le_trans Z0 (Nat.le_of_eq (Wr.size WB11).symm)
    replace K := K.wr WB11 (Or.inl (List.mem_of_getElem? (i := 4) rfl))
    refine w_aloadN C (q := 62) d12_61 rfl rfl rfl ?_
    refine w_iconst C (q := 63) (-1 : Int32) d12_62 rfl (by decide) ?_
    refine w_putFR C (q := 66) (hw _ (List.mem_of_getElem? (i := 52) rfl)) X_t1 E_t1 (hw _ (List.mem_of_getElem? (i := 36) rfl)) (hw _ (List.mem_of_getElem? (i := 25) rfl)) (ty := .int) (by decide) rfl rfl d12_63 rfl g_t1 ?_
    intro h39 Wh39
    replace E_q := E_q.wr Wh39
    replace H := H.other Wh39 (Or.inl (Ne.symm n_t1_q))
    replace A := A.other Wh39 (Ne.symm n_t1_b)
    replace N := N.other Wh39 (Or.inl (Ne.symm n_t1_q))
    replace G := G.other Wh39 (Or.inl (Ne.symm n_t1_q))
    replace E_t0 := E_t0.wr Wh39
    replace X_t0 := X_t0.other Wh39 (Or.inl n_t0_t1)
    replace D_t0 := D_t0.other Wh39 (Or.inl n_t0_t1)
    replace S_t0 := S_t0.other Wh39 (Or.inl n_t0_t1)
    replace T_t0 := T_t0.other Wh39 (Or.inl n_t0_t1)
    replace E_t1 := E_t1.wr Wh39
    replace X_t1 := X_t1.same Wh39
    replace D_t1 := D_t1.other Wh39 (Or.inr (slot_ne (Or.inr (hw _ (List.mem_of_getElem? (i := 40) rfl))) (Or.inl (hw _ (List.mem_of_getElem? (i := 36) rfl))) (by decide) (t := .long) (t' := .int) (by decide) (by decide)))
    replace S_t1 := S_t1.other Wh39 (Or.inr (slot_ne (Or.inr (hw _ (List.mem_of_getElem? (i := 42) rfl))) (Or.inl (hw _ (List.mem_of_getElem? (i := 36) rfl))) (by decide) (t := .long) (t' := .int) (by decide) (by decide)))
    replace T_t1 := T_t1.other Wh39 (Or.inr (slot_ne (Or.inr (hw _ (List.mem_of_getElem? (i := 38) rfl))) (Or.inl (hw _ (List.mem_of_getElem? (i := 36) rfl))) (by decide) (t := (.object "java/lang/Runnable")) (t' := .int) (by decide) (by decide)))
    replace E_t2 := E_t2.wr Wh39
    replace X_t2 := X_t2.other Wh39 (Or.inl (Ne.symm n_t1_t2))
    replace D_t2 := D_t2.other Wh39 (Or.inl (Ne.symm n_t1_t2))
    replace S_t2 := S_t2.other Wh39 (Or.inl (Ne.symm n_t1_t2))
    replace T_t2 := T_t2.other Wh39 (Or.inl (Ne.symm n_t1_t2))
    replace Z0 := Nat.le_trans Z0 (Nat.le_of_eq (Wr.size Wh39).symm)
    replace K := K.wr Wh39 (Or.inl (List.mem_of_getElem? (i := 3) rfl))
    exact w_ret0 C d12_66 (by decide) (by decide) ⟨rfl, [t0, t2], TQ.build2 ⟨E_q, H, N, ⟨_, G⟩, A, O, ⟨E_t0, X_t0, ⟨_, D_t0⟩, ⟨_, S_t0⟩, T_t0⟩, ⟨E_t2, X_t2, ⟨_, D_t2⟩, ⟨_, S_t2⟩, T_t2⟩, n_t0_t2, n_q_b, n_t0_q, n_t0_b, g_t0, n_t2_q, n_t2_b, g_t2, g_q, g_b⟩, ⟨rfl, by simp_all, by simp_all⟩, K⟩
  · obtain ⟨hp12, WA12, WB12⟩ := hP1
    replace A : Ars Z hp12 b k (.object "com/example/orderly_dispatch/orderlydispatch/TimerQueue$Timer") [(.ref t0), (.ref t0), .null, .null, .null, .null, .null, .null, .null, .null, .null, .null, .null, .null, .null, .null] := A.set WA12
    replace E_q := E_q.wr WA12
    replace H := H.other WA12 (Or.inl n_q_b)
    replace N := N.other WA12 (Or.inl n_q_b)
    replace G := G.other WA12 (Or.inl n_q_b)
    replace E_t0 := E_t0.wr WA12
    replace X_t0 := X_t0.other WA12 (Or.inl n_t0_b)
    replace D_t0 := D_t0.other WA12 (Or.inl n_t0_b)
    replace S_t0 := S_t0.other WA12 (Or.inl n_t0_b)
    replace T_t0 := T_t0.other WA12 (Or.inl n_t0_b)
    replace E_t1 := E_t1.wr WA12
    replace X_t1 := X_t1.other WA12 (Or.inl n_t1_b)
    replace D_t1 := D_t1.other WA12 (Or.inl n_t1_b)
    replace S_t1 := S_t1.other WA12 (Or.inl n_t1_b)
    replace T_t1 := T_t1.other WA12 (Or.inl n_t1_b)
    replace E_t2 := E_t2.wr WA12
    replace X_t2 := X_t2.other WA12 (Or.inl n_t2_b)
    replace D_t2 := D_t2.other WA12 (Or.inl n_t2_b)
    replace S_t2 := S_t2.other WA12 (Or.inl n_t2_b)
    replace T_t2 := T_t2.other WA12 (Or.inl n_t2_b)
    replace Z0 := Nat.le_trans Z0 (Nat.le_of_eq (Wr.size WA12).symm)
    replace K := K.wr WA12 (Or.inl (List.mem_of_getElem? (i := 1) rfl))
    replace E_q := E_q.wr WB12
    replace H := H.other WB12 (Or.inl (Ne.symm n_t0_q))
    replace A := A.other WB12 (Ne.symm n_t0_b)
    replace N := N.other WB12 (Or.inl (Ne.symm n_t0_q))
    replace G := G.other WB12 (Or.inl (Ne.symm n_t0_q))
    replace E_t0 := E_t0.wr WB12
    replace X_t0 := X_t0.same WB12
    replace D_t0 := D_t0.other WB12 (Or.inr (slot_ne (Or.inr (hw _ (List.mem_of_getElem? (i := 40) rfl))) (Or.inl (hw _ (List.mem_of_getElem? (i := 36) rfl))) (by decide) (t := .long) (t' := .int) (by decide) (by decide)))
    replace S_t0 := S_t0.other WB12 (Or.inr (slot_ne (Or.inr (hw _ (List.mem_of_getElem? (i := 42) rfl))) (Or.inl (hw _ (List.mem_of_getElem? (i := 36) rfl))) (by decide) (t := .long) (t' := .int) (by decide) (by decide)))
    replace T_t0 := T_t0.other WB12 (Or.inr (slot_ne (Or.inr (hw _ (List.mem_of_getElem? (i := 38) rfl))) (Or.inl (hw _ (List.mem_of_getElem? (i := 36) rfl))) (by decide) (t := (.object "java/lang/Runnable")) (t' := .int) (by decide) (by decide)))
    replace E_t1 := E_t1.wr WB12
    replace X_t1 := X_t1.other WB12 (Or.inl (Ne.symm n_t0_t1))
    replace D_t1 := D_t1.other WB12 (Or.inl (Ne.symm n_t0_t1))
    replace S_t1 := S_t1.other WB12 (Or.inl (Ne.symm n_t0_t1))
    replace T_t1 := T_t1.other WB12 (Or.inl (Ne.symm n_t0_t1))
    replace E_t2 := E_t2.wr WB12
    replace X_t2 := X_t2.other WB12 (Or.inl (Ne.symm n_t0_t2))
    replace D_t2 := D_t2.other WB12 (Or.inl (Ne.symm n_t0_t2))
    replace S_t2 := S_t2.other WB12 (Or.inl (Ne.symm n_t0_t2))
    replace T_t2 := T_t2.other WB12 (Or.inl (Ne.symm n_t0_t2))
    replace Z0 := Nat.le_trans Z0 (Nat.le_of_eq (Wr.size WB12).symm)
    replace K := K.wr WB12 (Or.inl (List.mem_of_getElem? (i := 2) rfl))
    obtain ⟨hp13, WA13, WB13⟩ := hP
    replace A : Ars Z hp13 b k (.object "com/example/orderly_dispatch/orderlydispatch/TimerQueue$Timer") [(.ref t2), (.ref t0), .null, .null, .null, .null, .null, .null, .null, .null, .null, .null, .null, .null, .null, .null] := A.set WA13
    replace E_q := E_q.wr WA13
    replace H := H.other WA13 (Or.inl n_q_b)
    replace N := N.other WA13 (Or.inl n_q_b)
    replace G := G.other WA13 (Or.inl n_q_b)
    replace E_t0 := E_t0.wr WA13
    replace X_t0 := X_t0.other WA13 (Or.inl n_t0_b)
    replace D_t0 := D_t0.other WA13 (Or.inl n_t0_b)
    replace S_t0 := S_t0.other WA13 (Or.inl n_t0_b)
    replace T_t0 := T_t0.other WA13 (Or.inl n_t0_b)
    replace E_t1 := E_t1.wr WA13
    replace X_t1 := X_t1.other WA13 (Or.inl n_t1_b)
    replace D_t1 := D_t1.other WA13 (Or.inl n_t1_b)
    replace S_t1 := S_t1.other WA13 (Or.inl n_t1_b)
    replace T_t1 := T_t1.other WA13 (Or.inl n_t1_b)
    replace E_t2 := E_t2.wr WA13
    replace X_t2 := X_t2.other WA13 (Or.inl n_t2_b)
    replace D_t2 := D_t2.other WA13 (Or.inl n_t2_b)
    replace S_t2 := S_t2.other WA13 (Or.inl n_t2_b)
    replace T_t2 := T_t2.other WA13 (Or.inl n_t2_b)
    replace Z0 := Nat.le_trans Z0 (Nat.le_of_eq (Wr.size WA13).symm)
    replace K := K.wr WA13 (Or.inl (List.mem_of_getElem? (i := 1) rfl))
    replace E_q := E_q.wr WB13
    replace H := H.other WB13 (Or.inl (Ne.symm n_t2_q))
    replace A := A.other WB13 (Ne.symm n_t2_b)
    replace N := N.other WB13 (Or.inl (Ne.symm n_t2_q))
    replace G := G.other WB13 (Or.inl (Ne.symm n_t2_q))
    replace E_t0 := E_t0.wr WB13
    replace X_t0 := X_t0.other WB13 (Or.inl n_t0_t2)
    replace D_t0 := D_t0.other WB13 (Or.inl n_t0_t2)
    replace S_t0 := S_t0.other WB13 (Or.inl n_t0_t2)
    replace T_t0 := T_t0.other WB13 (Or.inl n_t0_t2)
    replace E_t1 := E_t1.wr WB13
    replace X_t1 := X_t1.other WB13 (Or.inl n_t1_t2)
    replace D_t1 := D_t1.other WB13 (Or.inl n_t1_t2)
    replace S_t1 := S_t1.other WB13 (Or.inl n_t1_t2)
    replace T_t1 := T_t1.other WB13 (Or.inl n_t1_t2)
    replace E_t2 := E_t2.wr WB13
    replace X_t2 := X_t2.same WB13
    replace D_t2 := D_t2.other WB13 (Or.inr (slot_ne (Or.inr (hw _ (List.mem_of_getElem? (i := 40) rfl))) (Or.inl (hw _ (List.mem_of_getElem? (i := 36) rfl))) (by decide) (t := .long) (t' := .int) (by decide) (by decide)))
    replace S_t2 := S_t2.other WB13 (Or.inr (slot_ne (Or.inr (hw _ (List.mem_of_getElem? (i := 42) rfl))) (Or.inl (hw _ (List.mem_of_getElem? (i := 36) rfl))) (by decide) (t := .long) (t' := .int) (by decide) (by decide)))
    replace T_t2 := T_t2.other WB13 (Or.inr (slot_ne (Or.inr (hw _ (List.mem_of_getElem? (i := 38) rfl))) (Or.inl (hw _ (List.mem_of_getElem? (i := 36) rfl))) (by decide) (t := (.object "java/lang/Runnable")) (t' := .int) (by decide) (by decide)))
    replace Z0 := Nat.le_trans Z0 (Nat.le_of_eq (Wr.size WB13).symm)
    replace K := K.wr WB13 (Or.inl (List.mem_of_getElem? (i := 4) rfl))
    refine w_aloadN C (q := 62) d12_61 rfl rfl rfl ?_
    refine w_iconst C (q := 63) (-1 : Int32) d12_62 rfl (by decide) ?_
    refine w_putFR C (q := 66) (hw _ (List.mem_of_getElem? (i := 52) rfl)) X_t1 E_t1 (hw _ (List.mem_of_getElem? (i := 36) rfl)) (hw _ (List.mem_of_getElem? (i := 25) rfl)) (ty := .int) (by decide) rfl rfl d12_63 rfl g_t1 ?_
    intro h40 Wh40
    replace E_q := E_q.wr Wh40
    replace H := H.other Wh40 (Or.inl (Ne.symm n_t1_q))
    replace A := A.other Wh40 (Ne.symm n_t1_b)
    replace N := N.other Wh40 (Or.inl (Ne.symm n_t1_q))
    replace G := G.other Wh40 (Or.inl (Ne.symm n_t1_q))
    replace E_t0 := E_t0.wr Wh40
    replace X_t0 := X_t0.other Wh40 (Or.inl n_t0_t1)
    replace D_t0 := D_t0.other Wh40 (Or.inl n_t0_t1)
    replace S_t0 := S_t0.other Wh40 (Or.inl n_t0_t1)
    replace T_t0 := T_t0.other Wh40 (Or.inl n_t0_t1)
    replace E_t1 := E_t1.wr Wh40
    replace X_t1 := X_t1.same Wh40
    replace D_t1 := D_t1.other Wh40 (Or.inr (slot_ne (Or.inr (hw _ (List.mem_of_getElem? (i := 40) rfl))) (Or.inl (hw _ (List.mem_of_getElem? (i := 36) rfl))) (by decide) (t := .long) (t' := .int) (by decide) (by decide)))
    replace S_t1 := S_t1.other Wh40 (Or.inr (slot_ne (Or.inr (hw _ (List.mem_of_getElem? (i := 42) rfl))) (Or.inl (hw _ (List.mem_of_getElem? (i := 36) rfl))) (by decide) (t := .long) (t' := .int) (by decide) (by decide)))
    replace T_t1 := T_t1.other Wh40 (Or.inr (slot_ne (Or.inr (hw _ (List.mem_of_getElem? (i := 38) rfl))) (Or.inl (hw _ (List.mem_of_getElem? (i := 36) rfl))) (by decide) (t := (.object "java/lang/Runnable")) (t' := .int) (by decide) (by decide)))
    replace E_t2 := E_t2.wr Wh40
    replace X_t2 := X_t2.other Wh40 (Or.inl (Ne.symm n_t1_t2))
    replace D_t2 := D_t2.other Wh40 (Or.inl (Ne.symm n_t1_t2))
    replace S_t2 := S_t2.other Wh40 (Or.inl (Ne.symm n_t1_t2))
    replace T_t2 := T_t2.other Wh40 (Or.inl (Ne.symm n_t1_t2))
    replace Z0 := Nat.le_trans Z0 (Nat.le_of_eq (Wr.size Wh40).symm)
    replace K := K.wr Wh40 (Or.inl (List.mem_of_getElem? (i := 3) rfl))
    exact w_ret0 C d12_66 (by decide) (by decide) ⟨rfl, [t2, t0], TQ.build2 ⟨E_q, H, N, ⟨_, G⟩, A, O, ⟨E_t2, X_t2, ⟨_, D_t2⟩, ⟨_, S_t2⟩, T_t2⟩, ⟨E_t0, X_t0, ⟨_, D_t0⟩, ⟨_, S_t0⟩, T_t0⟩, (Ne.symm n_t0_t2), n_q_b, n_t2_q, n_t2_b, g_t2, n_t0_q, n_t0_b, g_t0, g_q, g_b⟩, ⟨rfl, by simp_all, by simp_all⟩, K⟩
theorem ef_RA32 (m : MethodId) (q : Nat) : entryFrame m #[(.ref q), (.int (2 : Int32))] 4 = mkF m 0 #[.val (.ref q), .val (.int (2 : Int32)), .unset, .unset] [] := by first | (simp [entryFrame, mkF, argsToLocals, Value.category]; done) | rfl
set_option maxRecDepth 65536 in
set_option maxHeartbeats 40000000 in
theorem rmRA32 (l : Launch) (Z : State) (a0 : Array Value) (hw : ∀ d ∈ tables_1, d.before a0 Z = true) (q : Nat) (h0 : Heap) (n0 : Nat) (Z0 : n0 ≤ h0.size) (b : Addr) (k : ClassId) (t0 : Addr) (t1 : Addr) (t2 : Addr) (hTQ : TQ Z n0 h0 q b k [t0, t1, t2]) :
    Met1 l Z ⟨"com/example/orderly_dispatch/orderlydispatch/TimerQueue", "removeAt", "(I)V"⟩ prog_25_method_10_code 4 none ({ frames := 3, cells := 0, slots := 0, locals := 54 } : Room) #[(.ref q), (.int (2 : Int32))] h0 n0 (fun v h => v = none ∧ ∃ ts', TQ Z n0 h q b k ts' ∧ Rem [t0, t1, t2] ts' t2 ∧ Keep h0 h (q :: b :: [t0, t1, t2])) := by
  refine Met1.of_body pn_12 (fun p e s m below meth c C => ?_)
  replace C : Cx p s m meth c Z "com/example/orderly_dispatch/orderlydispatch/TimerQueue" "removeAt" prog_25_method_10_code 4 none := C
  refine Wk.cast (ef_RA32 m q) ?_
  obtain ⟨E_q, H, N, ⟨ad, G⟩, A, O, ⟨E_t0, X_t0, ⟨d_t0, D_t0⟩, ⟨s_t0, S_t0⟩, T_t0⟩, ⟨E_t1, X_t1, ⟨d_t1, D_t1⟩, ⟨s_t1, S_t1⟩, T_t1⟩, ⟨E_t2, X_t2, ⟨d_t2, D_t2⟩, ⟨s_t2, S_t2⟩, T_t2⟩, n_t0_t1, n_t0_t2, n_t1_t2, n_q_b, n_t0_q, n_t0_b, g_t0, n_t1_q, n_t1_b, g_t1, n_t2_q, n_t2_b, g_t2, g_q, g_b⟩ := hTQ.open3
  have K : Keep h0 h0 (q :: b :: [t0, t1, t2]) := Keep.refl _ _
  refine w_aloadN C (q := 1) d12_0 rfl rfl rfl ?_
  refine w_getF C (q := 4) (host := "") (Or.inl (hw _ (List.mem_of_getElem? (i := 11) rfl))) Via.refl H d12_1 rfl ?_
  refine w_iloadN C (q := 5) d12_4 rfl rfl ?_
  refine w_aaload C (q := 6) A rfl (.ref t2) (by decide) rfl d12_5 rfl ?_
  refine w_astoreN C (q := 7) #[.val (.ref q), .val (.int (2 : Int32)), .val (.ref t2), .unset] d12_6 rfl rfl rfl ?_
  refine w_aloadN C (q := 8) d12_7 rfl rfl rfl ?_
  refine w_getF C (q := 11) (host := "") (Or.inl (hw _ (List.mem_of_getElem? (i := 11) rfl))) Via.refl H d12_8 rfl ?_
  refine w_aloadN C (q := 12) d12_11 rfl rfl rfl ?_
  refine w_dup C (q := 13) d12_12 rfl rfl ?_
  refine w_getF C (q := 16) (host := "") (Or.inl (hw _ (List.mem_of_getElem? (i := 18) rfl))) Via.refl N d12_13 rfl ?_
  refine w_iconst C (q := 17) (1 : Int32) d12_16 rfl (by decide) ?_
  refine w_isub C (q := 18) d12_17 rfl ?_
  refine w_dupX1 C (q := 19) d12_18 rfl rfl rfl ?_
  refine w_putF C (q := 22) (host := "") (Or.inl (hw _ (List.mem_of_getElem? (i := 18) rfl))) Via.refl N E_q (Or.inl (hw _ (List.mem_of_getElem? (i := 19) rfl))) (hw _ (List.mem_of_getElem? (i := 1) rfl)) (ty := .int) (by decide) rfl rfl d12_19 rfl g_q ?_
  intro h41 Wh41
  replace E_q := E_q.wr Wh41
  replace H := H.other Wh41 (Or.inr (slot_ne (Or.inl (hw _ (List.mem_of_getElem? (i := 12) rfl))) (Or.inl (hw _ (List.mem_of_getElem? (i := 19) rfl))) (by decide) (t := (.array (.object "com/example/orderly_dispatch/orderlydispatch/TimerQueue$Timer"))) (t' := .int) (by decide) (by decide)))
  replace A := A.other Wh41 (Ne.symm n_q_b)
  replace N := N.same Wh41
  replace G := G.other Wh41 (Or.inr (slot_ne (Or.inl (hw _ (List.mem_of_getElem? (i := 28) rfl))) (Or.inl (hw _ (List.mem_of_getElem? (i := 19) rfl))) (by decide) (t := .long) (t' := .int) (by decide) (by decide)))
  replace E_t0 := E_t0.wr Wh41
  replace X_t0 := X_t0.other Wh41 (Or.inl n_t0_q)
  replace D_t0 := D_t0.other Wh41 (Or.inl n_t0_q)
  replace S_t0 := S_t0.other Wh41 (Or.inl n_t0_q)
  replace T_t0 := T_t0.other Wh41 (Or.inl n_t0_q)
  replace E_t1 := E_t1.wr Wh41
  replace X_t1 := X_t1.other Wh41 (Or.inl n_t1_q)
  replace D_t1 := D_t1.other Wh41 (Or.inl n_t1_q)
  replace S_t1 := S_t1.other Wh41 (Or.inl n_t1_q)
  replace T_t1 := T_t1.other Wh41 (Or.inl n_t1_q)
  replace E_t2 := E_t2.wr Wh41
  replace X_t2 := X_t2.other Wh41 (Or.inl n_t2_q)
  replace D_t2 := D_t2.other Wh41 (Or.inl n_t2_q)
  replace S_t2 := S_t2.other Wh41 (Or.inl n_t2_q)
  replace T_t2 := T_t2.other Wh41 (Or.inl n_t2_q)
  replace Z0 := Nat.le_trans Z0 (Nat.le_of_eq (Wr.size Wh41).symm)
  replace K := K.wr Wh41 (Or.inl (List.mem_of_getElem? (i := 0) rfl))
  refine w_aaload C (q := 23) A rfl (.ref t2) (by decide) rfl d12_22 rfl ?_
  refine w_astoreN C (q := 24) #[.val (.ref q), .val (.int (2 : Int32)), .val (.ref t2), .val (.ref t2)] d12_23 rfl rfl rfl ?_
  refine w_aloadN C (q := 25) d12_24 rfl rfl rfl ?_
  refine w_getF C (q := 28) (host := "") (Or.inl (hw _ (List.mem_of_getElem? (i := 11) rfl))) Via.refl H d12_25 rfl ?_
  refine w_aloadN C (q := 29) d12_28 rfl rfl rfl ?_
  refine w_getF C (q := 32) (host := "") (Or.inl (hw _ (List.mem_of_getElem? (i := 18) rfl))) Via.refl N d12_29 rfl ?_
  refine w_aconstNull C (q := 33) d12_32 rfl ?_
  refine w_aastore C (q := 34) A rfl (Or.inl rfl) (by decide) (Nat.le_of_ble_eq_true rfl) d12_33 rfl g_b ?_
  intro h42 Wh42 A'
  replace A : Ars Z h42 b k (.object "com/example/orderly_dispatch/orderlydispatch/TimerQueue$Timer") [(.ref t0), (.ref t1), .null, .null, .null, .null, .null, .null, .null, .null, .null, .null, .null, .null, .null, .null] := A'
  skip
  replace E_q := E_q.wr Wh42
  replace H := H.other Wh42 (Or.inl n_q_b)
  replace N := N.other Wh42 (Or.inl n_q_b)
  replace G := G.other Wh42 (Or.inl n_q_b)
  replace E_t0 := E_t0.wr Wh42
  replace X_t0 := X_t0.other Wh42 (Or.inl n_t0_b)
  replace D_t0 := D_t0.other Wh42 (Or.inl n_t0_b)
  replace S_t0 := S_t0.other Wh42 (Or.inl n_t0_b)
  replace T_t0 := T_t0.other Wh42 (Or.inl n_t0_b)
  replace E_t1 := E_t1.wr Wh42
  replace X_t1 := X_t1.other Wh42 (Or.inl n_t1_b)
  replace D_t1 := D_t1.other Wh42 (Or.inl n_t1_b)
  replace S_t1 := S_t1.other Wh42 (Or.inl n_t1_b)
  replace T_t1 := T_t1.other Wh42 (Or.inl n_t1_b)
  replace E_t2 := E_t2.wr Wh42
  replace X_t2 := X_t2.other Wh42 (Or.inl n_t2_b)
  replace D_t2 := D_t2.other Wh42 (Or.inl n_t2_b)
  replace S_t2 := S_t2.other Wh42 (Or.inl n_t2_b)
  replace T_t2 := T_t2.other Wh42 (Or.inl n_t2_b)
  replace Z0 := Nat.le_trans Z0 (Nat.le_of_eq (Wr.size Wh42).symm)
  replace K := K.wr Wh42 (Or.inl (List.mem_of_getElem? (i := 1) rfl))
  refine w_aloadN C (q := 35) d12_34 rfl rfl rfl ?_
  refine w_aloadN C (q := 36) d12_35 rfl rfl rfl ?_
  refine w_aceq_t C (q := 61) d12_36 (by decide) (by decide) rfl rfl rfl ?_
  refine w_aloadN C (q := 62) d12_61 rfl rfl rfl ?_
  refine w_iconst C (q := 63) (-1 : Int32) d12_62 rfl (by decide) ?_
  refine w_putFR C (q := 66) (hw _ (List.mem_of_getElem? (i := 52) rfl)) X_t2 E_t2 (hw _ (List.mem_of_getElem? (i := 36) rfl)) (hw _ (List.mem_of_getElem? (i := 25) rfl)) (ty := .int) (by decide) rfl rfl d12_63 rfl g_t2 ?_
  intro h43 Wh43
  replace E_q := E_q.wr Wh43
  replace H := H.other Wh43 (Or.inl (Ne.symm n_t2_q))
  replace A := A.other Wh43 (Ne.symm n_t2_b)
  replace N := N.other Wh43 (Or.inl (Ne.symm n_t2_q))
  replace G := G.other Wh43 (Or.inl (Ne.symm n_t2_q))
  replace E_t0 := E_t0.wr Wh43
  replace X_t0 := X_t0.other Wh43 (Or.inl n_t0_t2)
  replace D_t0 := D_t0.other Wh43 (Or.inl n_t0_t2)
  replace S_t0 := S_t0.other Wh43 (Or.inl n_t0_t2)
  replace T_t0 := T_t0.other Wh43 (Or.inl n_t0_t2)
  replace E_t1 := E_t1.wr Wh43
  replace X_t1 := X_t1.other Wh43 (Or.inl n_t1_t2)
  replace D_t1 := D_t1.other Wh43 (Or.inl n_t1_t2)
  replace S_t1 := S_t1.other Wh43 (Or.inl n_t1_t2)
  replace T_t1 := T_t1.other Wh43 (Or.inl n_t1_t2)
  replace E_t2 := E_t2.wr Wh43
  replace X_t2 := X_t2.same Wh43
  replace D_t2 := D_t2.other Wh43 (Or.inr (slot_ne (Or.inr (hw _ (List.mem_of_getElem? (i := 40) rfl))) (Or.inl (hw _ (List.mem_of_getElem? (i := 36) rfl))) (by decide) (t := .long) (t' := .int) (by decide) (by decide)))
  replace S_t2 := S_t2.other Wh43 (Or.inr (slot_ne (Or.inr (hw _ (List.mem_of_getElem? (i := 42) rfl))) (Or.inl (hw _ (List.mem_of_getElem? (i := 36) rfl))) (by decide) (t := .long) (t' := .int) (by decide) (by decide)))
  replace T_t2 := T_t2.other Wh43 (Or.inr (slot_ne (Or.inr (hw _ (List.mem_of_getElem? (i := 38) rfl))) (Or.inl (hw _ (List.mem_of_getElem? (i := 36) rfl))) (by decide) (t := (.object "java/lang/Runnable")) (t' := .int) (by decide) (by decide)))
  replace Z0 := Nat.le_trans Z0 (Nat.le_of_eq (Wr.size Wh43).symm)
  replace K := K.wr Wh43 (Or.inl (List.mem_of_getElem? (i := 4) rfl))
  exact w_ret0 C d12_66 (by decide) (by decide) ⟨rfl, [t0, t1], TQ.build2 ⟨E_q, H, N, ⟨_, G⟩, A, O, ⟨E_t0, X_t0, ⟨_, D_t0⟩, ⟨_, S_t0⟩, T_t0⟩, ⟨E_t1, X_t1, ⟨_, D_t1⟩, ⟨_, S_t1⟩, T_t1⟩, n_t0_t1, n_q_b, n_t0_q, n_t0_b, g_t0, n_t1_q, n_t1_b, g_t1, g_q, g_b⟩, ⟨rfl, by simp_all, by simp_all⟩, K⟩
set_option maxRecDepth 65536 in
theorem rmRA (l : Launch) (Z : State) (a0 : Array Value) (hw : ∀ d ∈ tables_1, d.before a0 Z = true) (q : Addr) (i : Nat) (h0 : Heap) (n0 : Nat) (Z0 : n0 ≤ h0.size) (b : Addr) (k : ClassId) (ts : List Addr) (t : Addr) (hTQ : TQ Z n0 h0 q b k ts) (hlen : ts.length ≤ 3) (hi : ts[i]? = some t) :
    Met1 l Z ⟨"com/example/orderly_dispatch/orderlydispatch/TimerQueue", "removeAt", "(I)V"⟩ prog_25_method_10_code 4 none ({ frames := 3, cells := 0, slots := 0, locals := 54 } : Room) #[(.ref q), (.int i.toInt32)] h0 n0 (fun v h => v = none ∧ ∃ ts', TQ Z n0 h q b k ts' ∧ Rem ts ts' t ∧ Keep h0 h (q :: b :: ts)) := by
  rcases ts with _ | ⟨t0, _ | ⟨t1, _ | ⟨t2, _ | ⟨t3, tl⟩⟩⟩⟩
  · simp at hi
  · rcases i with _ | i
    · cases hi; exact rmRA10 l Z a0 hw q h0 n0 Z0 b k _ hTQ
    · simp at hi
  · rcases i with _ | _ | i
    · cases hi; exact rmRA20 l Z a0 hw q h0 n0 Z0 b k _ _ hTQ
    · cases hi; exact rmRA21 l Z a0 hw q h0 n0 Z0 b k _ _ hTQ
    · simp at hi
  · rcases i with _ | _ | _ | i
    · cases hi; exact rmRA30 l Z a0 hw q h0 n0 Z0 b k _ _ _ hTQ
    · cases hi; exact rmRA31 l Z a0 hw q h0 n0 Z0 b k _ _ _ hTQ
    · cases hi; exact rmRA32 l Z a0 hw q h0 n0 Z0 b k _ _ _ hTQ
    · simp at hi
  · simp at hlen <;> omega
theorem ef_Rm (m : MethodId) (q : Nat) (t : Nat) : entryFrame m #[(.ref q), (.ref t)] 3 = mkF m 0 #[.val (.ref q), .val (.ref t), .unset] [] := by first | (simp [entryFrame, mkF, argsToLocals, Value.category]; done) | rfl
set_option maxRecDepth 65536 in
set_option maxHeartbeats 40000000 in
theorem rmRm (l : Launch) (Z : State) (a0 : Array Value) (hw : ∀ d ∈ tables_1, d.before a0 Z = true) (q : Nat) (t : Nat) (h0 : Heap) (n0 : Nat) (Z0 : n0 ≤ h0.size) (b : Addr) (k : ClassId) (ts : List Addr) (i : Nat) (hTQ : TQ Z n0 h0 q b k ts) (hlen : ts.length ≤ 3) (hi : ts[i]? = some t) :
    Met1 l Z ⟨"com/example/orderly_dispatch/orderlydispatch/TimerQueue", "remove", "(Lcom/example/orderly_dispatch/orderlydispatch/TimerQueue$Timer;)Z"⟩ prog_25_method_5_code 3 (some .boolean) ({ frames := 4, cells := 0, slots := 0, locals := 69 } : Room) #[(.ref q), (.ref t)] h0 n0 (fun v h => v = some (.int 1) ∧ ∃ ts', TQ Z n0 h q b k ts' ∧ Rem ts ts' t ∧ Keep h0 h (q :: b :: ts)) := by
  refine Met1.of_body pn_10 (fun p e s m below meth c C => ?_)
  replace C : Cx p s m meth c Z "com/example/orderly_dispatch/orderlydispatch/TimerQueue" "remove" prog_25_method_5_code 3 (some .boolean) := C
  refine Wk.cast (ef_Rm m q t) ?_
  have hT := hTQ.2.2.2.2.2.2.1 i t hi
  have hi3 : i < 3 := Nat.lt_of_lt_of_le (List.getElem?_eq_some_iff.mp hi).1 hlen
  have hneg : ¬ i.toInt32 < 0 := Int32.ofNat_not_neg (show i < 2 ^ 31 by omega)
  refine w_aloadN C (q := 1) d10_0 rfl rfl rfl ?_
  refine w_virtual C (q := 4) (y := ⟨"com/example/orderly_dispatch/orderlydispatch/TimerQueue$Timer", "isQueued", "()Z"⟩) (z := ⟨"com/example/orderly_dispatch/orderlydispatch/TimerQueue$Timer", "isQueued", "()Z"⟩) (rm := ({ frames := 0, cells := 0, slots := 0, locals := 0 } : Room)) (a := t) (argsL := []) (hw _ (List.mem_of_getElem? (i := 67) rfl)) (hw _ (List.mem_of_getElem? (i := 68) rfl)) (hw _ (List.mem_of_getElem? (i := 70) rfl)) (hw _ (List.mem_of_getElem? (i := 70) rfl)) (hw _ (List.mem_of_getElem? (i := 69) rfl)) (hw _ (List.mem_of_getElem? (i := 26) rfl)) (hw _ (List.mem_of_getElem? (i := 71) rfl)) hT.1 (rmIQ l Z a0 hw t _ n0 Z0 i.toInt32 hT.2.1 hneg) (by decide) (rest := []) (lenOf pd_4 rfl) rfl d10_1 rfl rfl (by decide) (Nat.le_of_ble_eq_true rfl) (by decide) (by decide) ?_
  intro v h44 hQ
  obtain ⟨rfl, rfl⟩ := hQ
  refine Wk.v1 ?_
  refine w_istoreN C (q := 5) #[.val (.ref q), .val (.ref t), .val (.int (1 : Int32))] d10_4 rfl rfl ?_
  refine w_iloadN C (q := 6) d10_5 rfl rfl ?_
  refine w_ifeq_f C (q := 9) d10_6 rfl (by decide) ?_
  refine w_aloadN C (q := 10) d10_9 rfl rfl rfl ?_
  refine w_aloadN C (q := 11) d10_10 rfl rfl rfl ?_
  refine w_getFR C (q := 14) (hw _ (List.mem_of_getElem? (i := 52) rfl)) hT.2.1 d10_11 rfl ?_
  refine w_private C (q := 17) (y := ⟨"com/example/orderly_dispatch/orderlydispatch/TimerQueue", "removeAt", "(I)V"⟩) (rm := ({ frames := 3, cells := 0, slots := 0, locals := 54 } : Room)) (a := q) (argsL := [(.int i.toInt32)]) (hw _ (List.mem_of_getElem? (i := 72) rfl)) (hw _ (List.mem_of_getElem? (i := 73) rfl)) (sel_private (by decide) (hw _ (List.mem_of_getElem? (i := 1) rfl)) (hw _ (List.mem_of_getElem? (i := 74) rfl)) (hw _ (List.mem_of_getElem? (i := 73) rfl))) (hw _ (List.mem_of_getElem? (i := 74) rfl)) (hw _ (List.mem_of_getElem? (i := 2) rfl)) (hw _ (List.mem_of_getElem? (i := 75) rfl)) hTQ.1 (rmRA l Z a0 hw q i _ n0 Z0 b k ts t hTQ hlen hi) (by decide) (rest := []) (lenOf pd_5 rfl) rfl d10_14 rfl rfl (by decide) (Nat.le_of_ble_eq_true rfl) (by decide) (by decide) ?_
  intro v h45 hQ
  obtain ⟨rfl, ts', hTQ', hR, K⟩ := hQ
  refine Wk.v0 ?_
  refine w_iloadN C (q := 18) d10_17 rfl rfl ?_
  exact w_retN C d10_18 (by decide) (by decide) ⟨rfl, ts', hTQ', hR, K⟩
theorem ef_TI (m : MethodId) (t : Nat) (q : Nat) (x0 : Int64) (x1 : Int64) : entryFrame m #[(.ref t), (.ref q), .null, (.long x0), (.long x1)] 7 = mkF m 0 #[.val (.ref t), .val (.ref q), .val .null, .val (.long x0), .second, .val (.long x1), .second] [] := by first | (simp [entryFrame, mkF, argsToLocals, Value.category]; done) | rfl
set_option maxRecDepth 65536 in
set_option maxHeartbeats 40000000 in
theorem rmTI (l : Launch) (Z : State) (a0 : Array Value) (hw : ∀ d ∈ tables_1, d.before a0 Z = true) (t : Nat) (q : Nat) (x0 : Int64) (x1 : Int64) (h0 : Heap) (n0 : Nat) (Z0 : n0 ≤ h0.size) (E_t : Exa Z h0 t "com/example/orderly_dispatch/orderlydispatch/TimerQueue$Timer") (g_t : n0 ≤ t) (F0 : Fld Z h0 t "com/example/orderly_dispatch/orderlydispatch/TimerQueue$Timer" "this$0" "Lcom/example/orderly_dispatch/orderlydispatch/TimerQueue;" .null) (F1 : Fld Z h0 t "com/example/orderly_dispatch/orderlydispatch/TimerQueue$Timer" "index" "I" (.int (0 : Int32))) (F2 : Fld Z h0 t "com/example/orderly_dispatch/orderlydispatch/TimerQueue$Timer" "task" "Ljava/lang/Runnable;" .null) (F3 : Fld Z h0 t "com/example/orderly_dispatch/orderlydispatch/TimerQueue$Timer" "dueNanos" "J" (.long (0 : Int64))) (F4 : Fld Z h0 t "com/example/orderly_dispatch/orderlydispatch/TimerQueue$Timer" "sequence" "J" (.long (0 : Int64))) :
    Met1 l Z ⟨"com/example/orderly_dispatch/orderlydispatch/TimerQueue$Timer", "<init>", "(Lcom/example/orderly_dispatch/orderlydispatch/TimerQueue;Ljava/lang/Runnable;JJ)V"⟩ prog_26_method_1_code 7 none ({ frames := 1, cells := 0, slots := 0, locals := 12 } : Room) #[(.ref t), (.ref q), .null, (.long x0), (.long x1)] h0 n0 (fun v h => v = none ∧ Keep h0 h [t] ∧ Exa Z h t "com/example/orderly_dispatch/orderlydispatch/TimerQueue$Timer" ∧ Fld Z h t "com/example/orderly_dispatch/orderlydispatch/TimerQueue$Timer" "index" "I" (.int (-1 : Int32)) ∧ Fld Z h t "com/example/orderly_dispatch/orderlydispatch/TimerQueue$Timer" "dueNanos" "J" (.long x0) ∧ Fld Z h t "com/example/orderly_dispatch/orderlydispatch/TimerQueue$Timer" "sequence" "J" (.long x1) ∧ Fld Z h t "com/example/orderly_dispatch/orderlydispatch/TimerQueue$Timer" "task" "Ljava/lang/Runnable;" .null) := by
  refine Met1.of_body pn_5 (fun p e s m below meth c C => ?_)
  replace C : Cx p s m meth c Z "com/example/orderly_dispatch/orderlydispatch/TimerQueue$Timer" "<init>" prog_26_method_1_code 7 none := C
  refine Wk.cast (ef_TI m t q x0 x1) ?_
  have K : Keep h0 h0 [t] := Keep.refl _ _
  refine w_aloadN C (q := 1) d5_0 rfl rfl rfl ?_
  refine w_aloadN C (q := 2) d5_1 rfl rfl rfl ?_
  refine w_putF C (q := 5) (host := "") (Or.inl (hw _ (List.mem_of_getElem? (i := 32) rfl))) Via.refl F0 E_t (Or.inr ⟨(hw _ (List.mem_of_getElem? (i := 33) rfl)), rfl, rfl⟩) (hw _ (List.mem_of_getElem? (i := 25) rfl)) (ty := (.object "com/example/orderly_dispatch/orderlydispatch/TimerQueue")) (by decide) rfl rfl d5_2 rfl g_t ?_
  intro h46 Wh46
  replace E_t := E_t.wr Wh46
  replace F0 := F0.same Wh46
  replace F1 := F1.other Wh46 (Or.inr (slot_ne (Or.inl (hw _ (List.mem_of_getElem? (i := 36) rfl))) (Or.inr (hw _ (List.mem_of_getElem? (i := 33) rfl))) (by decide) (t := .int) (t' := (.object "com/example/orderly_dispatch/orderlydispatch/TimerQueue")) (by decide) (by decide)))
  replace F2 := F2.other Wh46 (Or.inr (slot_ne (Or.inr (hw _ (List.mem_of_getElem? (i := 38) rfl))) (Or.inr (hw _ (List.mem_of_getElem? (i := 33) rfl))) (by decide) (t := (.object "java/lang/Runnable")) (t' := (.object "com/example/orderly_dispatch/orderlydispatch/TimerQueue")) (by decide) (by decide)))
  replace F3 := F3.other Wh46 (Or.inr (slot_ne (Or.inr (hw _ (List.mem_of_getElem? (i := 40) rfl))) (Or.inr (hw _ (List.mem_of_getElem? (i := 33) rfl))) (by decide) (t := .long) (t' := (.object "com/example/orderly_dispatch/orderlydispatch/TimerQueue")) (by decide) (by decide)))
  replace F4 := F4.other Wh46 (Or.inr (slot_ne (Or.inr (hw _ (List.mem_of_getElem? (i := 42) rfl))) (Or.inr (hw _ (List.mem_of_getElem? (i := 33) rfl))) (by decide) (t := .long) (t' := (.object "com/example/orderly_dispatch/orderlydispatch/TimerQueue")) (by decide) (by decide)))
  replace Z0 := Nat.le_trans Z0 (Nat.le_of_eq (Wr.size Wh46).symm)
  replace K := K.wr Wh46 (Or.inl (List.mem_of_getElem? (i := 0) rfl))
  refine w_aloadN C (q := 6) d5_5 rfl rfl rfl ?_
  refine w_initO C (q := 9) (hw _ (List.mem_of_getElem? (i := 34) rfl)) (hw _ (List.mem_of_getElem? (i := 7) rfl)) (hw _ (List.mem_of_getElem? (i := 8) rfl)) d5_6 rfl rfl (by decide) (Nat.le_of_ble_eq_true rfl) ?_
  refine w_aloadN C (q := 10) d5_9 rfl rfl rfl ?_
  refine w_iconst C (q := 11) (-1 : Int32) d5_10 rfl (by decide) ?_
  refine w_putF C (q := 14) (host := "") (Or.inl (hw _ (List.mem_of_getElem? (i := 35) rfl))) Via.refl F1 E_t (Or.inl (hw _ (List.mem_of_getElem? (i := 36) rfl))) (hw _ (List.mem_of_getElem? (i := 25) rfl)) (ty := .int) (by decide) rfl rfl d5_11 rfl g_t ?_
  intro h47 Wh47
  replace E_t := E_t.wr Wh47
  replace F0 := F0.other Wh47 (Or.inr (slot_ne (Or.inr (hw _ (List.mem_of_getElem? (i := 33) rfl))) (Or.inl (hw _ (List.mem_of_getElem? (i := 36) rfl))) (by decide) (t := (.object "com/example/orderly_dispatch/orderlydispatch/TimerQueue")) (t' := .int) (by decide) (by decide)))
  replace F1 := F1.same Wh47
  replace F2 := F2.other Wh47 (Or.inr (slot_ne (Or.inr (hw _ (List.mem_of_getElem? (i := 38) rfl))) (Or.inl (hw _ (List.mem_of_getElem? (i := 36) rfl))) (by decide) (t := (.object "java/lang/Runnable")) (t' := .int) (by decide) (by decide)))
  replace F3 := F3.other Wh47 (Or.inr (slot_ne (Or.inr (hw _ (List.mem_of_getElem? (i := 40) rfl))) (Or.inl (hw _ (List.mem_of_getElem? (i := 36) rfl))) (by decide) (t := .long) (t' := .int) (by decide) (by decide)))
  replace F4 := F4.other Wh47 (Or.inr (slot_ne (Or.inr (hw _ (List.mem_of_getElem? (i := 42) rfl))) (Or.inl (hw _ (List.mem_of_getElem? (i := 36) rfl))) (by decide) (t := .long) (t' := .int) (by decide) (by decide)))
  replace Z0 := Nat.le_trans Z0 (Nat.le_of_eq (Wr.size Wh47).symm)
  replace K := K.wr Wh47 (Or.inl (List.mem_of_getElem? (i := 0) rfl))
  refine w_aloadN C (q := 15) d5_14 rfl rfl rfl ?_
  refine w_aloadN C (q := 16) d5_15 rfl rfl rfl ?_
  refine w_putF C (q := 19) (host := "") (Or.inl (hw _ (List.mem_of_getElem? (i := 37) rfl))) Via.refl F2 E_t (Or.inr ⟨(hw _ (List.mem_of_getElem? (i := 38) rfl)), rfl, rfl⟩) (hw _ (List.mem_of_getElem? (i := 25) rfl)) (ty := (.object "java/lang/Runnable")) (by decide) rfl rfl d5_16 rfl g_t ?_
  intro h48 Wh48
  replace E_t := E_t.wr Wh48
  replace F0 := F0.other Wh48 (Or.inr (slot_ne (Or.inr (hw _ (List.mem_of_getElem? (i := 33) rfl))) (Or.inr (hw _ (List.mem_of_getElem? (i := 38) rfl))) (by decide) (t := (.object "com/example/orderly_dispatch/orderlydispatch/TimerQueue")) (t' := (.object "java/lang/Runnable")) (by decide) (by decide)))
  replace F1 := F1.other Wh48 (Or.inr (slot_ne (Or.inl (hw _ (List.mem_of_getElem? (i := 36) rfl))) (Or.inr (hw _ (List.mem_of_getElem? (i := 38) rfl))) (by decide) (t := .int) (t' := (.object "java/lang/Runnable")) (by decide) (by decide)))
  replace F2 := F2.same Wh48
  replace F3 := F3.other Wh48 (Or.inr (slot_ne (Or.inr (hw _ (List.mem_of_getElem? (i := 40) rfl))) (Or.inr (hw _ (List.mem_of_getElem? (i := 38) rfl))) (by decide) (t := .long) (t' := (.object "java/lang/Runnable")) (by decide) (by decide)))
  replace F4 := F4.other Wh48 (Or.inr (slot_ne (Or.inr (hw _ (List.mem_of_getElem? (i := 42) rfl))) (Or.inr (hw _ (List.mem_of_getElem? (i := 38) rfl))) (by decide) (t := .long) (t' := (.object "java/lang/Runnable")) (by decide) (by decide)))
  replace Z0 := Nat.le_trans Z0 (Nat.le_of_eq (Wr.size Wh48).symm)
  replace K := K.wr Wh48 (Or.inl (List.mem_of_getElem? (i := 0) rfl))
  refine w_aloadN C (q := 20) d5_19 rfl rfl rfl ?_
  refine w_lloadN C (q := 21) d5_20 rfl rfl ?_
  refine w_putF C (q := 24) (host := "") (Or.inl (hw _ (List.mem_of_getElem? (i := 39) rfl))) Via.refl F3 E_t (Or.inr ⟨(hw _ (List.mem_of_getElem? (i := 40) rfl)), rfl, rfl⟩) (hw _ (List.mem_of_getElem? (i := 25) rfl)) (ty := .long) (by decide) rfl rfl d5_21 rfl g_t ?_
  intro h49 Wh49
  replace E_t := E_t.wr Wh49
  replace F0 := F0.other Wh49 (Or.inr (slot_ne (Or.inr (hw _ (List.mem_of_getElem? (i := 33) rfl))) (Or.inr (hw _ (List.mem_of_getElem? (i := 40) rfl))) (by decide) (t := (.object "com/example/orderly_dispatch/orderlydispatch/TimerQueue")) (t' := .long) (by decide) (by decide)))
  replace F1 := F1.other Wh49 (Or.inr (slot_ne (Or.inl (hw _ (List.mem_of_getElem? (i := 36) rfl))) (Or.inr (hw _ (List.mem_of_getElem? (i := 40) rfl))) (by decide) (t := .int) (t' := .long) (by decide) (by decide)))
  replace F2 := F2.other Wh49 (Or.inr (slot_ne (Or.inr (hw _ (List.mem_of_getElem? (i := 38) rfl))) (Or.inr (hw _ (List.mem_of_getElem? (i := 40) rfl))) (by decide) (t := (.object "java/lang/Runnable")) (t' := .long) (by decide) (by decide)))
  replace F3 := F3.same Wh49
  replace F4 := F4.other Wh49 (Or.inr (slot_ne (Or.inr (hw _ (List.mem_of_getElem? (i := 42) rfl))) (Or.inr (hw _ (List.mem_of_getElem? (i := 40) rfl))) (by decide) (t := .long) (t' := .long) (by decide) (by decide)))
  replace Z0 := Nat.le_trans Z0 (Nat.le_of_eq (Wr.size Wh49).symm)
  replace K := K.wr Wh49 (Or.inl (List.mem_of_getElem? (i := 0) rfl))
  refine w_aloadN C (q := 25) d5_24 rfl rfl rfl ?_
  refine w_lload C (q := 27) d5_25 rfl rfl ?_
  refine w_putF C (q := 30) (host := "") (Or.inl (hw _ (List.mem_of_getElem? (i := 41) rfl))) Via.refl F4 E_t (Or.inr ⟨(hw _ (List.mem_of_getElem? (i := 42) rfl)), rfl, rfl⟩) (hw _ (List.mem_of_getElem? (i := 25) rfl)) (ty := .long) (by decide) rfl rfl d5_27 rfl g_t ?_
  intro h50 Wh50
  replace E_t := E_t.wr Wh50
  replace F0 := F0.other Wh50 (Or.inr (slot_ne (Or.inr (hw _ (List.mem_of_getElem? (i := 33) rfl))) (Or.inr (hw _ (List.mem_of_getElem? (i := 42) rfl))) (by decide) (t := (.object "com/example/orderly_dispatch/orderlydispatch/TimerQueue")) (t' := .long) (by decide) (by decide)))
  replace F1 := F1.other Wh50 (Or.inr (slot_ne (Or.inl (hw _ (List.mem_of_getElem? (i := 36) rfl))) (Or.inr (hw _ (List.mem_of_getElem? (i := 42) rfl))) (by decide) (t := .int) (t' := .long) (by decide) (by decide)))
  replace F2 := F2.other Wh50 (Or.inr (slot_ne (Or.inr (hw _ (List.mem_of_getElem? (i := 38) rfl))) (Or.inr (hw _ (List.mem_of_getElem? (i := 42) rfl))) (by decide) (t := (.object "java/lang/Runnable")) (t' := .long) (by decide) (by decide)))
  replace F3 := F3.other Wh50 (Or.inr (slot_ne (Or.inr (hw _ (List.mem_of_getElem? (i := 40) rfl))) (Or.inr (hw _ (List.mem_of_getElem? (i := 42) rfl))) (by decide) (t := .long) (t' := .long) (by decide) (by decide)))
  replace F4 := F4.same Wh50
  replace Z0 := Nat.le_trans Z0 (Nat.le_of_eq (Wr.size Wh50).symm)
  replace K := K.wr Wh50 (Or.inl (List.mem_of_getElem? (i := 0) rfl))
  exact w_ret0 C d5_30 (by decide) (by decide) ⟨rfl, K, E_t, F1, F3, F4, F2⟩
theorem ef_QI (m : MethodId) (q : Nat) : entryFrame m #[(.ref q)] 1 = mkF m 0 #[.val (.ref q)] [] := by first | (simp [entryFrame, mkF, argsToLocals, Value.category]; done) | rfl
set_option maxRecDepth 65536 in
set_option maxHeartbeats 40000000 in
theorem rmQI (l : Launch) (Z : State) (a0 : Array Value) (hw : ∀ d ∈ tables_1, d.before a0 Z = true) (q : Nat) (h0 : Heap) (n0 : Nat) (Z0 : n0 ≤ h0.size) (E_q : Exa Z h0 q "com/example/orderly_dispatch/orderlydispatch/TimerQueue") (H : Fld Z h0 q "com/example/orderly_dispatch/orderlydispatch/TimerQueue" "heap" "[Lcom/example/orderly_dispatch/orderlydispatch/TimerQueue$Timer;" .null) (N : Fld Z h0 q "com/example/orderly_dispatch/orderlydispatch/TimerQueue" "size" "I" (.int (0 : Int32))) (G : Fld Z h0 q "com/example/orderly_dispatch/orderlydispatch/TimerQueue" "added" "J" (.long (0 : Int64))) (g_q : n0 ≤ q) :
    Met1 l Z ⟨"com/example/orderly_dispatch/orderlydispatch/TimerQueue", "<init>", "()V"⟩ prog_25_method_1_code 1 none ({ frames := 1, cells := 1, slots := 16, locals := 12 } : Room) #[(.ref q)] h0 n0 (fun v h => v = none ∧ Keep h0 h [q] ∧ ∃ b k, TQ Z n0 h q b k []) := by
  refine Met1.of_body pn_1 (fun p e s m below meth c C => ?_)
  replace C : Cx p s m meth c Z "com/example/orderly_dispatch/orderlydispatch/TimerQueue" "<init>" prog_25_method_1_code 1 none := C
  refine Wk.cast (ef_QI m q) ?_
  have K : Keep h0 h0 [q] := Keep.refl _ _
  refine w_aloadN C (q := 1) d1_0 rfl rfl rfl ?_
  refine w_initO C (q := 4) (hw _ (List.mem_of_getElem? (i := 6) rfl)) (hw _ (List.mem_of_getElem? (i := 7) rfl)) (hw _ (List.mem_of_getElem? (i := 8) rfl)) d1_1 rfl rfl (by decide) (Nat.le_of_ble_eq_true rfl) ?_
  refine w_aloadN C (q := 5) d1_4 rfl rfl rfl ?_
  refine w_bipush C (q := 7) (16 : Int32) d1_5 rfl (by decide) ?_
  refine w_newR C (q := 10) (hw _ (List.mem_of_getElem? (i := 9) rfl)) (hw _ (List.mem_of_getElem? (i := 10) rfl)) d1_7 rfl (by decide) 16 (by decide) (by decide) (by decide) (by decide) ?_
  intro h51 b k_b eq_b Ehh51 A_b O_b
  replace A_b : Ars Z h51 b k_b (.object "com/example/orderly_dispatch/orderlydispatch/TimerQueue$Timer") [.null, .null, .null, .null, .null, .null, .null, .null, .null, .null, .null, .null, .null, .null, .null, .null] := A_b
  have lt_q_b : (q : Nat) < (b : Nat) := Nat.lt_of_lt_of_le E_q.lt (Nat.le_of_eq eq_b.symm)
  have g_b : n0 ≤ b := Nat.le_trans Z0 (Nat.le_of_eq eq_b.symm)
  have sz_b : h0.size ≤ b := Nat.le_trans K.1 (Nat.le_of_eq eq_b.symm)
  replace Z0 := Nat.le_trans Z0 Ehh51.1
  replace E_q := E_q.ext Ehh51
  replace H := H.ext Ehh51
  replace N := N.ext Ehh51
  replace G := G.ext Ehh51
  replace K := K.ext Ehh51
  refine w_putF C (q := 13) (host := "") (Or.inl (hw _ (List.mem_of_getElem? (i := 11) rfl))) Via.refl H E_q (Or.inl (hw _ (List.mem_of_getElem? (i := 12) rfl))) (hw _ (List.mem_of_getElem? (i := 1) rfl)) (ty := (.array (.object "com/example/orderly_dispatch/orderlydispatch/TimerQueue$Timer"))) (by decide) rfl rfl d1_10 rfl g_q ?_
  intro h52 Wh52
  replace E_q := E_q.wr Wh52
  replace H := H.same Wh52
  replace N := N.other Wh52 (Or.inr (slot_ne (Or.inl (hw _ (List.mem_of_getElem? (i := 19) rfl))) (Or.inl (hw _ (List.mem_of_getElem? (i := 12) rfl))) (by decide) (t := .int) (t' := (.array (.object "com/example/orderly_dispatch/orderlydispatch/TimerQueue$Timer"))) (by decide) (by decide)))
  replace G := G.other Wh52 (Or.inr (slot_ne (Or.inl (hw _ (List.mem_of_getElem? (i := 28) rfl))) (Or.inl (hw _ (List.mem_of_getElem? (i := 12) rfl))) (by decide) (t := .long) (t' := (.array (.object "com/example/orderly_dispatch/orderlydispatch/TimerQueue$Timer"))) (by decide) (by decide)))
  replace A_b := A_b.other Wh52 (Ne.symm (Nat.ne_of_lt lt_q_b))
  replace Z0 := Nat.le_trans Z0 (Nat.le_of_eq (Wr.size Wh52).symm)
  replace K := K.wr Wh52 (Or.inl (List.mem_of_getElem? (i := 0) rfl))
  exact w_ret0 C d1_13 (by decide) (by decide) ⟨rfl, K, b, k_b, TQ.build0 ⟨E_q, H, N, ⟨_, G⟩, A_b, O_b, Nat.ne_of_lt lt_q_b, g_q, g_b⟩⟩
/-- ts' is ts and t -/
def Ins1 (ts ts' : List Addr) (t : Addr) : Prop := ts'.length = ts.length + 1 ∧ t ∈ ts' ∧ ∀ u ∈ ts, u ∈ ts'
theorem ef_Add0 (m : MethodId) (q : Nat) (x0 : Int64) : entryFrame m #[(.ref q), .null, (.long x0)] 5 = mkF m 0 #[.val (.ref q), .val .null, .val (.long x0), .second, .unset] [] := by first | (simp [entryFrame, mkF, argsToLocals, Value.category]; done) | rfl
set_option maxRecDepth 65536 in
set_option maxHeartbeats 40000000 in
theorem rmAdd0 (l : Launch) (Z : State) (a0 : Array Value) (hw : ∀ d ∈ tables_1, d.before a0 Z = true) (q : Nat) (x0 : Int64) (h0 : Heap) (n0 : Nat) (Z0 : n0 ≤ h0.size) (b : Addr) (k : ClassId) (hTQ : TQ Z n0 h0 q b k []) :
    Met1 l Z ⟨"com/example/orderly_dispatch/orderlydispatch/TimerQueue", "add", "(Ljava/lang/Runnable;J)Lcom/example/orderly_dispatch/orderlydispatch/TimerQueue$Timer;"⟩ prog_25_method_2_code 5 (some (.object "com/example/orderly_dispatch/orderlydispatch/TimerQueue$Timer")) ({ frames := 3, cells := 1, slots := 5, locals := 50 } : Room) #[(.ref q), .null, (.long x0)] h0 n0 (fun v h => ∃ t ts', v = some (.ref t) ∧ TQ Z n0 h q b k ts' ∧ Ins1 [] ts' t ∧ h0.size ≤ t ∧ Keep h0 h (q :: b :: [])) := by
  refine Met1.of_body pn_4 (fun p e s m below meth c C => ?_)
  replace C : Cx p s m meth c Z "com/example/orderly_dispatch/orderlydispatch/TimerQueue" "add" prog_25_method_2_code 5 (some (.object "com/example/orderly_dispatch/orderlydispatch/TimerQueue$Timer")) := C
  refine Wk.cast (ef_Add0 m q x0) ?_
  obtain ⟨E_q, H, N, ⟨ad, G⟩, A, O, n_q_b, g_q, g_b⟩ := hTQ.open0
  have K : Keep h0 h0 (q :: b :: []) := Keep.refl _ _
  refine w_newO C (q := 3) (hw _ (List.mem_of_getElem? (i := 9) rfl)) (hw _ (List.mem_of_getElem? (i := 25) rfl)) (hw _ (List.mem_of_getElem? (i := 26) rfl)) d4_0 rfl (by decide) (by decide) ?_
  intro h53 t eq_t Ehh53 E_t D_t
  have lt_q_t : (q : Nat) < (t : Nat) := Nat.lt_of_lt_of_le E_q.lt (Nat.le_of_eq eq_t.symm)
  have lt_b_t : (b : Nat) < (t : Nat) := Nat.lt_of_lt_of_le A.lt (Nat.le_of_eq eq_t.symm)
  have g_t : n0 ≤ t := Nat.le_trans Z0 (Nat.le_of_eq eq_t.symm)
  have sz_t : h0.size ≤ t := Nat.le_trans K.1 (Nat.le_of_eq eq_t.symm)
  replace Z0 := Nat.le_trans Z0 Ehh53.1
  replace E_q := E_q.ext Ehh53
  replace H := H.ext Ehh53
  replace A := A.ext Ehh53
  replace N := N.ext Ehh53
  replace G := G.ext Ehh53
  replace K := K.ext Ehh53
  have F_t_this : Fld Z h53 t "com/example/orderly_dispatch/orderlydispatch/TimerQueue$Timer" "this$0" "Lcom/example/orderly_dispatch/orderlydispatch/TimerQueue;" .null := D_t (Or.inr (hw _ (List.mem_of_getElem? (i := 33) rfl))) (ty := (.object "com/example/orderly_dispatch/orderlydispatch/TimerQueue")) (by decide)
  have F_t_index : Fld Z h53 t "com/example/orderly_dispatch/orderlydispatch/TimerQueue$Timer" "index" "I" (.int (0 : Int32)) := D_t (Or.inl (hw _ (List.mem_of_getElem? (i := 36) rfl))) (ty := .int) (by decide)
  have F_t_task : Fld Z h53 t "com/example/orderly_dispatch/orderlydispatch/TimerQueue$Timer" "task" "Ljava/lang/Runnable;" .null := D_t (Or.inr (hw _ (List.mem_of_getElem? (i := 38) rfl))) (ty := (.object "java/lang/Runnable")) (by decide)
  have F_t_dueNanos : Fld Z h53 t "com/example/orderly_dispatch/orderlydispatch/TimerQueue$Timer" "dueNanos" "J" (.long (0 : Int64)) := D_t (Or.inr (hw _ (List.mem_of_getElem? (i := 40) rfl))) (ty := .long) (by decide)
  have F_t_sequence : Fld Z h53 t "com/example/orderly_dispatch/orderlydispatch/TimerQueue$Timer" "sequence" "J" (.long (0 : Int64)) := D_t (Or.inr (hw _ (List.mem_of_getElem? (i := 42) rfl))) (ty := .long) (by decide)
  clear D_t
  refine w_dup C (q := 4) d4_3 rfl rfl ?_
  refine w_aloadN C (q := 5) d4_4 rfl rfl rfl ?_
  refine w_aloadN C (q := 6) d4_5 rfl rfl rfl ?_
  refine w_lloadN C (q := 7) d4_6 rfl rfl ?_
  refine w_aloadN C (q := 8) d4_7 rfl rfl rfl ?_
  refine w_dup C (q := 9) d4_8 rfl rfl ?_
  refine w_getF C (q := 12) (host := "") (Or.inl (hw _ (List.mem_of_getElem? (i := 27) rfl))) Via.refl G d4_9 rfl ?_
  refine w_dup2X1L C (q := 13) d4_12 rfl rfl ?_
  refine w_lconst C (q := 14) (1 : Int64) d4_13 rfl (by decide) ?_
  refine w_ladd C (q := 15) d4_14 rfl ?_
  refine w_putF C (q := 18) (host := "") (Or.inl (hw _ (List.mem_of_getElem? (i := 27) rfl))) Via.refl G E_q (Or.inl (hw _ (List.mem_of_getElem? (i := 28) rfl))) (hw _ (List.mem_of_getElem? (i := 1) rfl)) (ty := .long) (by decide) rfl rfl d4_15 rfl g_q ?_
  intro h54 Wh54
  replace E_q := E_q.wr Wh54
  replace H := H.other Wh54 (Or.inr (slot_ne (Or.inl (hw _ (List.mem_of_getElem? (i := 12) rfl))) (Or.inl (hw _ (List.mem_of_getElem? (i := 28) rfl))) (by decide) (t := (.array (.object "com/example/orderly_dispatch/orderlydispatch/TimerQueue$Timer"))) (t' := .long) (by decide) (by decide)))
  replace A := A.other Wh54 (Ne.symm n_q_b)
  replace N := N.other Wh54 (Or.inr (slot_ne (Or.inl (hw _ (List.mem_of_getElem? (i := 19) rfl))) (Or.inl (hw _ (List.mem_of_getElem? (i := 28) rfl))) (by decide) (t := .int) (t' := .long) (by decide) (by decide)))
  replace G := G.same Wh54
  replace E_t := E_t.wr Wh54
  replace F_t_index := F_t_index.other Wh54 (Or.inl (Ne.symm (Nat.ne_of_lt lt_q_t)))
  replace F_t_task := F_t_task.other Wh54 (Or.inl (Ne.symm (Nat.ne_of_lt lt_q_t)))
  replace F_t_dueNanos := F_t_dueNanos.other Wh54 (Or.inl (Ne.symm (Nat.ne_of_lt lt_q_t)))
  replace F_t_sequence := F_t_sequence.other Wh54 (Or.inl (Ne.symm (Nat.ne_of_lt lt_q_t)))
  replace F_t_this := F_t_this.other Wh54 (Or.inl (Ne.symm (Nat.ne_of_lt lt_q_t)))
  replace Z0 := Nat.le_trans Z0 (Nat.le_of_eq (Wr.size Wh54).symm)
  replace K := K.wr Wh54 (Or.inl (List.mem_of_getElem? (i := 0) rfl))
  refine w_specialR C (q := 21) (y := ⟨"com/example/orderly_dispatch/orderlydispatch/TimerQueue$Timer", "<init>", "(Lcom/example/orderly_dispatch/orderlydispatch/TimerQueue;Ljava/lang/Runnable;JJ)V"⟩) (rm := ({ frames := 1, cells := 0, slots := 0, locals := 12 } : Room)) (a := t) (argsL := [(.ref q), .null, (.long x0), (.long ad)]) rfl (hw _ (List.mem_of_getElem? (i := 29) rfl)) (hw _ (List.mem_of_getElem? (i := 30) rfl)) (hw _ (List.mem_of_getElem? (i := 26) rfl)) (hw _ (List.mem_of_getElem? (i := 31) rfl)) (rmTI l Z a0 hw t q x0 ad _ n0 Z0 E_t g_t F_t_this F_t_index F_t_task F_t_dueNanos F_t_sequence) (by decide) (rest := [(.ref t)]) (lenOf pd_6 rfl) rfl d4_18 rfl rfl (by decide) (Nat.le_of_ble_eq_true rfl) (by decide) (by decide) ?_
  intro v h55 hQ
  obtain ⟨rfl, Kt, E_t', X_t, D_t, S_t, T_t⟩ := hQ
  replace E_q := E_q.keep Kt
  replace H := H.keep Kt (ninS (Nat.ne_of_lt lt_q_t) nin0)
  replace A := A.keep Kt (ninS (Nat.ne_of_lt lt_b_t) nin0)
  replace N := N.keep Kt (ninS (Nat.ne_of_lt lt_q_t) nin0)
  replace G := G.keep Kt (ninS (Nat.ne_of_lt lt_q_t) nin0)
  replace E_t := E_t.keep Kt
  replace K := K.trans Kt (allS (Or.inr sz_t) all0)
  replace Z0 := Nat.le_trans Z0 Kt.1
  refine Wk.v0 ?_
  refine w_astore C (q := 23) #[.val (.ref q), .val .null, .val (.long x0), .second, .val (.ref t)] d4_21 rfl rfl rfl ?_
  refine w_aloadN C (q := 24) d4_23 rfl rfl rfl ?_
  refine w_getF C (q := 27) (host := "") (Or.inl (hw _ (List.mem_of_getElem? (i := 18) rfl))) Via.refl N d4_24 rfl ?_
  refine w_aloadN C (q := 28) d4_27 rfl rfl rfl ?_
  refine w_getF C (q := 31) (host := "") (Or.inl (hw _ (List.mem_of_getElem? (i := 11) rfl))) Via.refl H d4_28 rfl ?_
  refine w_arraylength C (q := 32) A (16 : Int32) rfl d4_31 rfl ?_
  refine w_icne_t C (q := 60) d4_32 (by decide) (by decide) (by decide) ?_
  refine w_aloadN C (q := 61) d4_60 rfl rfl rfl ?_
  refine w_aloadN C (q := 62) d4_61 rfl rfl rfl ?_
  refine w_dup C (q := 63) d4_62 rfl rfl ?_
  refine w_getF C (q := 66) (host := "") (Or.inl (hw _ (List.mem_of_getElem? (i := 18) rfl))) Via.refl N d4_63 rfl ?_
  refine w_dupX1 C (q := 67) d4_66 rfl rfl rfl ?_
  refine w_iconst C (q := 68) (1 : Int32) d4_67 rfl (by decide) ?_
  refine w_iadd C (q := 69) d4_68 rfl ?_
  refine w_putF C (q := 72) (host := "") (Or.inl (hw _ (List.mem_of_getElem? (i := 18) rfl))) Via.refl N E_q (Or.inl (hw _ (List.mem_of_getElem? (i := 19) rfl))) (hw _ (List.mem_of_getElem? (i := 1) rfl)) (ty := .int) (by decide) rfl rfl d4_69 rfl g_q ?_
  intro h56 Wh56
  replace E_q := E_q.wr Wh56
  replace H := H.other Wh56 (Or.inr (slot_ne (Or.inl (hw _ (List.mem_of_getElem? (i := 12) rfl))) (Or.inl (hw _ (List.mem_of_getElem? (i := 19) rfl))) (by decide) (t := (.array (.object "com/example/orderly_dispatch/orderlydispatch/TimerQueue$Timer"))) (t' := .int) (by decide) (by decide)))
  replace A := A.other Wh56 (Ne.symm n_q_b)
  replace N := N.same Wh56
  replace G := G.other Wh56 (Or.inr (slot_ne (Or.inl (hw _ (List.mem_of_getElem? (i := 28) rfl))) (Or.inl (hw _ (List.mem_of_getElem? (i := 19) rfl))) (by decide) (t := .long) (t' := .int) (by decide) (by decide)))
  replace E_t' := E_t'.wr Wh56
  replace X_t := X_t.other Wh56 (Or.inl (Ne.symm (Nat.ne_of_lt lt_q_t)))
  replace D_t := D_t.other Wh56 (Or.inl (Ne.symm (Nat.ne_of_lt lt_q_t)))
  replace S_t := S_t.other Wh56 (Or.inl (Ne.symm (Nat.ne_of_lt lt_q_t)))
  replace T_t := T_t.other Wh56 (Or.inl (Ne.symm (Nat.ne_of_lt lt_q_t)))
  replace Z0 := Nat.le_trans Z0 (Nat.le_of_eq (Wr.size Wh56).symm)
  replace K := K.wr Wh56 (Or.inl (List.mem_of_getElem? (i := 0) rfl))
  refine w_aload C (q := 74) d4_72 rfl rfl rfl ?_
  refine w_private C (q := 77) (y := ⟨"com/example/orderly_dispatch/orderlydispatch/TimerQueue", "siftUp", "(ILcom/example/orderly_dispatch/orderlydispatch/TimerQueue$Timer;)V"⟩) (rm := ({ frames := 2, cells := 0, slots := 0, locals := 33 } : Room)) (a := q) (argsL := [(.int (0 : Int32)), (.ref t)]) (hw _ (List.mem_of_getElem? (i := 43) rfl)) (hw _ (List.mem_of_getElem? (i := 44) rfl)) (sel_private (by decide) (hw _ (List.mem_of_getElem? (i := 1) rfl)) (hw _ (List.mem_of_getElem? (i := 45) rfl)) (hw _ (List.mem_of_getElem? (i := 44) rfl))) (hw _ (List.mem_of_getElem? (i := 45) rfl)) (hw _ (List.mem_of_getElem? (i := 2) rfl)) (hw _ (List.mem_of_getElem? (i := 46) rfl)) E_q (rmU0 l Z a0 hw q t _ n0 Z0 b k E_q H O g_b _ A rfl (-1 : Int32) x0 ad E_t' X_t D_t S_t (Ne.symm (Nat.ne_of_lt lt_b_t)) n_q_b (Ne.symm (Nat.ne_of_lt lt_q_t)) g_t) (by decide) (rest := []) (lenOf pd_2 rfl) rfl d4_74 rfl rfl (by decide) (Nat.le_of_ble_eq_true rfl) (by decide) (by decide) ?_
  intro v h57 hQ
  obtain ⟨rfl, hP⟩ := hQ
  obtain ⟨hp14, WA14, WB14⟩ := hP
  replace A : Ars Z hp14 b k (.object "com/example/orderly_dispatch/orderlydispatch/TimerQueue$Timer") [(.ref t), .null, .null, .null, .null, .null, .null, .null, .null, .null, .null, .null, .null, .null, .null, .null] := A.set WA14
  replace E_q := E_q.wr WA14
  replace H := H.other WA14 (Or.inl n_q_b)
  replace N := N.other WA14 (Or.inl n_q_b)
  replace G := G.other WA14 (Or.inl n_q_b)
  replace E_t' := E_t'.wr WA14
  replace X_t := X_t.other WA14 (Or.inl (Ne.symm (Nat.ne_of_lt lt_b_t)))
  replace D_t := D_t.other WA14 (Or.inl (Ne.symm (Nat.ne_of_lt lt_b_t)))
  replace S_t := S_t.other WA14 (Or.inl (Ne.symm (Nat.ne_of_lt lt_b_t)))
  replace T_t := T_t.other WA14 (Or.inl (Ne.symm (Nat.ne_of_lt lt_b_t)))
  replace Z0 := Nat.le_trans Z0 (Nat.le_of_eq (Wr.size WA14).symm)
  replace K := K.wr WA14 (Or.inl (List.mem_of_getElem? (i := 1) rfl))
  replace E_q := E_q.wr WB14
  replace H := H.other WB14 (Or.inl (Nat.ne_of_lt lt_q_t))
  replace A := A.other WB14 (Nat.ne_of_lt lt_b_t)
  replace N := N.other WB14 (Or.inl (Nat.ne_of_lt lt_q_t))
  replace G := G.other WB14 (Or.inl (Nat.ne_of_lt lt_q_t))
  replace E_t' := E_t'.wr WB14
  replace X_t := X_t.same WB14
  replace D_t := D_t.other WB14 (Or.inr (slot_ne (Or.inr (hw _ (List.mem_of_getElem? (i := 40) rfl))) (Or.inl (hw _ (List.mem_of_getElem? (i := 36) rfl))) (by decide) (t := .long) (t' := .int) (by decide) (by decide)))
  replace S_t := S_t.other WB14 (Or.inr (slot_ne (Or.inr (hw _ (List.mem_of_getElem? (i := 42) rfl))) (Or.inl (hw _ (List.mem_of_getElem? (i := 36) rfl))) (by decide) (t := .long) (t' := .int) (by decide) (by decide)))
  replace T_t := T_t.other WB14 (Or.inr (slot_ne (Or.inr (hw _ (List.mem_of_getElem? (i := 38) rfl))) (Or.inl (hw _ (List.mem_of_getElem? (i := 36) rfl))) (by decide) (t := (.object "java/lang/Runnable")) (t' := .int) (by decide) (by decide)))
  replace Z0 := Nat.le_trans Z0 (Nat.le_of_eq (Wr.size WB14).symm)
  replace K := K.wr WB14 (Or.inr sz_t)
  refine Wk.v0 ?_
  refine w_aload C (q := 79) d4_77 rfl rfl rfl ?_
  exact w_retA C rfl rfl d4_79 (by decide) (by decide) ⟨t, [t], rfl, TQ.build1 ⟨E_q, H, N, ⟨_, G⟩, A, O, ⟨E_t', X_t, ⟨_, D_t⟩, ⟨_, S_t⟩, T_t⟩, n_q_b, (Ne.symm (Nat.ne_of_lt lt_q_t)), (Ne.symm (Nat.ne_of_lt lt_b_t)), g_t, g_q, g_b⟩, ⟨rfl, by simp, by simp⟩, sz_t, K⟩
theorem ef_Add1 (m : MethodId) (q : Nat) (x0 : Int64) : entryFrame m #[(.ref q), .null, (.long x0)] 5 = mkF m 0 #[.val (.ref q), .val .null, .val (.long x0), .second, .unset] [] := by first | (simp [entryFrame, mkF, argsToLocals, Value.category]; done) | rfl
set_option maxRecDepth 65536 in
set_option maxHeartbeats 40000000 in
theorem rmAdd1 (l : Launch) (Z : State) (a0 : Array Value) (hw : ∀ d ∈ tables_1, d.before a0 Z = true) (q : Nat) (x0 : Int64) (h0 : Heap) (n0 : Nat) (Z0 : n0 ≤ h0.size) (b : Addr) (k : ClassId) (t0 : Addr) (hTQ : TQ Z n0 h0 q b k [t0]) :
    Met1 l Z ⟨"com/example/orderly_dispatch/orderlydispatch/TimerQueue", "add", "(Ljava/lang/Runnable;J)Lcom/example/orderly_dispatch/orderlydispatch/TimerQueue$Timer;"⟩ prog_25_method_2_code 5 (some (.object "com/example/orderly_dispatch/orderlydispatch/TimerQueue$Timer")) ({ frames := 3, cells := 1, slots := 5, locals := 50 } : Room) #[(.ref q), .null, (.long x0)] h0 n0 (fun v h => ∃ t ts', v = some (.ref t) ∧ TQ Z n0 h q b k ts' ∧ Ins1 [t0] ts' t ∧ h0.size ≤ t ∧ Keep h0 h (q :: b :: [t0])) := by
  refine Met1.of_body pn_4 (fun p e s m below meth c C => ?_)
  replace C : Cx p s m meth c Z "com/example/orderly_dispatch/orderlydispatch/TimerQueue" "add" prog_25_method_2_code 5 (some (.object "com/example/orderly_dispatch/orderlydispatch/TimerQueue$Timer")) := C
  refine Wk.cast (ef_Add1 m q x0) ?_
  obtain ⟨E_q, H, N, ⟨ad, G⟩, A, O, ⟨E_t0, X_t0, ⟨d_t0, D_t0⟩, ⟨s_t0, S_t0⟩, T_t0⟩, n_q_b, n_t0_q, n_t0_b, g_t0, g_q, g_b⟩ := hTQ.open1
  have K : Keep h0 h0 (q :: b :: [t0]) := Keep.refl _ _
  refine w_newO C (q := 3) (hw _ (List.mem_of_getElem? (i := 9) rfl)) (hw _ (List.mem_of_getElem? (i := 25) rfl)) (hw _ (List.mem_of_getElem? (i := 26) rfl)) d4_0 rfl (by decide) (by decide) ?_
  intro h58 t eq_t Ehh58 E_t D_t
  have lt_q_t : (q : Nat) < (t : Nat) := Nat.lt_of_lt_of_le E_q.lt (Nat.le_of_eq eq_t.symm)
  have lt_b_t : (b : Nat) < (t : Nat) := Nat.lt_of_lt_of_le A.lt (Nat.le_of_eq eq_t.symm)
  have lt_t0_t : (t0 : Nat) < (t : Nat) := Nat.lt_of_lt_of_le E_t0.lt (Nat.le_of_eq eq_t.symm)
  have g_t : n0 ≤ t := Nat.le_trans Z0 (Nat.le_of_eq eq_t.symm)
  have sz_t : h0.size ≤ t := Nat.le_trans K.1 (Nat.le_of_eq eq_t.symm)
  replace Z0 := Nat.le_trans Z0 Ehh58.1
  replace E_q := E_q.ext Ehh58
  replace H := H.ext Ehh58
  replace A := A.ext Ehh58
  replace N := N.ext Ehh58
  replace G := G.ext Ehh58
  replace E_t0 := E_t0.ext Ehh58
  replace X_t0 := X_t0.ext Ehh58
  replace D_t0 := D_t0.ext Ehh58
  replace S_t0 := S_t0.ext Ehh58
  replace T_t0 := T_t0.ext Ehh58
  replace K := K.ext Ehh58
  have F_t_this : Fld Z h58 t "com/example/orderly_dispatch/orderlydispatch/TimerQueue$Timer" "this$0" "Lcom/example/orderly_dispatch/orderlydispatch/TimerQueue;" .null := D_t (Or.inr (hw _ (List.mem_of_getElem? (i := 33) rfl))) (ty := (.object "com/example/orderly_dispatch/orderlydispatch/TimerQueue")) (by decide)
  have F_t_index : Fld Z h58 t "com/example/orderly_dispatch/orderlydispatch/TimerQueue$Timer" "index" "I" (.int (0 : Int32)) := D_t (Or.inl (hw _ (List.mem_of_getElem? (i := 36) rfl))) (ty := .int) (by decide)
  have F_t_task : Fld Z h58 t "com/example/orderly_dispatch/orderlydispatch/TimerQueue$Timer" "task" "Ljava/lang/Runnable;" .null := D_t (Or.inr (hw _ (List.mem_of_getElem? (i := 38) rfl))) (ty := (.object "java/lang/Runnable")) (by decide)
  have F_t_dueNanos : Fld Z h58 t "com/example/orderly_dispatch/orderlydispatch/TimerQueue$Timer" "dueNanos" "J" (.long (0 : Int64)) := D_t (Or.inr (hw _ (List.mem_of_getElem? (i := 40) rfl))) (ty := .long) (by decide)
  have F_t_sequence : Fld Z h58 t "com/example/orderly_dispatch/orderlydispatch/TimerQueue$Timer" "sequence" "J" (.long (0 : Int64)) := D_t (Or.inr (hw _ (List.mem_of_getElem? (i := 42) rfl))) (ty := .long) (by decide)
  clear D_t
  refine w_dup C (q := 4) d4_3 rfl rfl ?_
  refine w_aloadN C (q := 5) d4_4 rfl rfl rfl ?_
  refine w_aloadN C (q := 6) d4_5 rfl rfl rfl ?_
  refine w_lloadN C (q := 7) d4_6 rfl rfl ?_
  refine w_aloadN C (q := 8) d4_7 rfl rfl rfl ?_
  refine w_dup C (q := 9) d4_8 rfl rfl ?_
  refine w_getF C (q := 12) (host := "") (Or.inl (hw _ (List.mem_of_getElem? (i := 27) rfl))) Via.refl G d4_9 rfl ?_
  refine w_dup2X1L C (q := 13) d4_12 rfl rfl ?_
  refine w_lconst C (q := 14) (1 : Int64) d4_13 rfl (by decide) ?_
  refine w_ladd C (q := 15) d4_14 rfl ?_
  refine w_putF C (q := 18) (host := "") (Or.inl (hw _ (List.mem_of_getElem? (i := 27) rfl))) Via.refl G E_q (Or.inl (hw _ (List.mem_of_getElem? (i := 28) rfl))) (hw _ (List.mem_of_getElem? (i := 1) rfl)) (ty := .long) (by decide) rfl rfl d4_15 rfl g_q ?_
  intro h59 Wh59
  replace E_q := E_q.wr Wh59
  replace H := H.other Wh59 (Or.inr (slot_ne (Or.inl (hw _ (List.mem_of_getElem? (i := 12) rfl))) (Or.inl (hw _ (List.mem_of_getElem? (i := 28) rfl))) (by decide) (t := (.array (.object "com/example/orderly_dispatch/orderlydispatch/TimerQueue$Timer"))) (t' := .long) (by decide) (by decide)))
  replace A := A.other Wh59 (Ne.symm n_q_b)
  replace N := N.other Wh59 (Or.inr (slot_ne (Or.inl (hw _ (List.mem_of_getElem? (i := 19) rfl))) (Or.inl (hw _ (List.mem_of_getElem? (i := 28) rfl))) (by decide) (t := .int) (t' := .long) (by decide) (by decide)))
  replace G := G.same Wh59
  replace E_t0 := E_t0.wr Wh59
  replace X_t0 := X_t0.other Wh59 (Or.inl n_t0_q)
  replace D_t0 := D_t0.other Wh59 (Or.inl n_t0_q)
  replace S_t0 := S_t0.other Wh59 (Or.inl n_t0_q)
  replace T_t0 := T_t0.other Wh59 (Or.inl n_t0_q)
  replace E_t := E_t.wr Wh59
  replace F_t_index := F_t_index.other Wh59 (Or.inl (Ne.symm (Nat.ne_of_lt lt_q_t)))
  replace F_t_task := F_t_task.other Wh59 (Or.inl (Ne.symm (Nat.ne_of_lt lt_q_t)))
  replace F_t_dueNanos := F_t_dueNanos.other Wh59 (Or.inl (Ne.symm (Nat.ne_of_lt lt_q_t)))
  replace F_t_sequence := F_t_sequence.other Wh59 (Or.inl (Ne.symm (Nat.ne_of_lt lt_q_t)))
  replace F_t_this := F_t_this.other Wh59 (Or.inl (Ne.symm (Nat.ne_of_lt lt_q_t)))
  replace Z0 := Nat.le_trans Z0 (Nat.le_of_eq (Wr.size Wh59).symm)
  replace K := K.wr Wh59 (Or.inl (List.mem_of_getElem? (i := 0) rfl))
  refine w_specialR C (q := 21) (y := ⟨"com/example/orderly_dispatch/orderlydispatch/TimerQueue$Timer", "<init>", "(Lcom/example/orderly_dispatch/orderlydispatch/TimerQueue;Ljava/lang/Runnable;JJ)V"⟩) (rm := ({ frames := 1, cells := 0, slots := 0, locals := 12 } : Room)) (a := t) (argsL := [(.ref q), .null, (.long x0), (.long ad)]) rfl (hw _ (List.mem_of_getElem? (i := 29) rfl)) (hw _ (List.mem_of_getElem? (i := 30) rfl)) (hw _ (List.mem_of_getElem? (i := 26) rfl)) (hw _ (List.mem_of_getElem? (i := 31) rfl)) (rmTI l Z a0 hw t q x0 ad _ n0 Z0 E_t g_t F_t_this F_t_index F_t_task F_t_dueNanos F_t_sequence) (by decide) (rest := [(.ref t)]) (lenOf pd_6 rfl) rfl d4_18 rfl rfl (by decide) (Nat.le_of_ble_eq_true rfl) (by decide) (by decide) ?_
  intro v h60 hQ
  obtain ⟨rfl, Kt, E_t', X_t, D_t, S_t, T_t⟩ := hQ
  replace E_q := E_q.keep Kt
  replace H := H.keep Kt (ninS (Nat.ne_of_lt lt_q_t) nin0)
  replace A := A.keep Kt (ninS (Nat.ne_of_lt lt_b_t) nin0)
  replace N := N.keep Kt (ninS (Nat.ne_of_lt lt_q_t) nin0)
  replace G := G.keep Kt (ninS (Nat.ne_of_lt lt_q_t) nin0)
  replace E_t0 := E_t0.keep Kt
  replace X_t0 := X_t0.keep Kt (ninS (Nat.ne_of_lt lt_t0_t) nin0)
  replace D_t0 := D_t0.keep Kt (ninS (Nat.ne_of_lt lt_t0_t) nin0)
  replace S_t0 := S_t0.keep Kt (ninS (Nat.ne_of_lt lt_t0_t) nin0)
  replace T_t0 := T_t0.keep Kt (ninS (Nat.ne_of_lt lt_t0_t) nin0)
  replace E_t := E_t.keep Kt
  replace K := K.trans Kt (allS (Or.inr sz_t) all0)
  replace Z0 := Nat.le_trans Z0 Kt.1
  refine Wk.v0 ?_
  refine w_astore C (q := 23) #[.val (.ref q), .val .null, .val (.long x0), .second, .val (.ref t)] d4_21 rfl rfl rfl ?_
  refine w_aloadN C (q := 24) d4_23 rfl rfl rfl ?_
  refine w_getF C (q := 27) (host := "") (Or.inl (hw _ (List.mem_of_getElem? (i := 18) rfl))) Via.refl N d4_24 rfl ?_
  refine w_aloadN C (q := 28) d4_27 rfl rfl rfl ?_
  refine w_getF C (q := 31) (host := "") (Or.inl (hw _ (List.mem_of_getElem? (i := 11) rfl))) Via.refl H d4_28 rfl ?_
  refine w_arraylength C (q := 32) A (16 : Int32) rfl d4_31 rfl ?_
  refine w_icne_t C (q := 60) d4_32 (by decide) (by decide) (by decide) ?_
  refine w_aloadN C (q := 61) d4_60 rfl rfl rfl ?_
  refine w_aloadN C (q := 62) d4_61 rfl rfl rfl ?_
  refine w_dup C (q := 63) d4_62 rfl rfl ?_
  refine w_getF C (q := 66) (host := "") (Or.inl (hw _ (List.mem_of_getElem? (i := 18) rfl))) Via.refl N d4_63 rfl ?_
  refine w_dupX1 C (q := 67) d4_66 rfl rfl rfl ?_
  refine w_iconst C (q := 68) (1 : Int32) d4_67 rfl (by decide) ?_
  refine w_iadd C (q := 69) d4_68 rfl ?_
  refine w_putF C (q := 72) (host := "") (Or.inl (hw _ (List.mem_of_getElem? (i := 18) rfl))) Via.refl N E_q (Or.inl (hw _ (List.mem_of_getElem? (i := 19) rfl))) (hw _ (List.mem_of_getElem? (i := 1) rfl)) (ty := .int) (by decide) rfl rfl d4_69 rfl g_q ?_
  intro h61 Wh61
  replace E_q := E_q.wr Wh61
  replace H := H.other Wh61 (Or.inr (slot_ne (Or.inl (hw _ (List.mem_of_getElem? (i := 12) rfl))) (Or.inl (hw _ (List.mem_of_getElem? (i := 19) rfl))) (by decide) (t := (.array (.object "com/example/orderly_dispatch/orderlydispatch/TimerQueue$Timer"))) (t' := .int) (by decide) (by decide)))
  replace A := A.other Wh61 (Ne.symm n_q_b)
  replace N := N.same Wh61
  replace G := G.other Wh61 (Or.inr (slot_ne (Or.inl (hw _ (List.mem_of_getElem? (i := 28) rfl))) (Or.inl (hw _ (List.mem_of_getElem? (i := 19) rfl))) (by decide) (t := .long) (t' := .int) (by decide) (by decide)))
  replace E_t0 := E_t0.wr Wh61
  replace X_t0 := X_t0.other Wh61 (Or.inl n_t0_q)
  replace D_t0 := D_t0.other Wh61 (Or.inl n_t0_q)
  replace S_t0 := S_t0.other Wh61 (Or.inl n_t0_q)
  replace T_t0 := T_t0.other Wh61 (Or.inl n_t0_q)
  replace E_t' := E_t'.wr Wh61
  replace X_t := X_t.other Wh61 (Or.inl (Ne.symm (Nat.ne_of_lt lt_q_t)))
  replace D_t := D_t.other Wh61 (Or.inl (Ne.symm (Nat.ne_of_lt lt_q_t)))
  replace S_t := S_t.other Wh61 (Or.inl (Ne.symm (Nat.ne_of_lt lt_q_t)))
  replace T_t := T_t.other Wh61 (Or.inl (Ne.symm (Nat.ne_of_lt lt_q_t)))
  replace Z0 := Nat.le_trans Z0 (Nat.le_of_eq (Wr.size Wh61).symm)
  replace K := K.wr Wh61 (Or.inl (List.mem_of_getElem? (i := 0) rfl))
  refine w_aload C (q := 74) d4_72 rfl rfl rfl ?_
  refine w_private C (q := 77) (y := ⟨"com/example/orderly_dispatch/orderlydispatch/TimerQueue", "siftUp", "(ILcom/example/orderly_dispatch/orderlydispatch/TimerQueue$Timer;)V"⟩) (rm := ({ frames := 2, cells := 0, slots := 0, locals := 33 } : Room)) (a := q) (argsL := [(.int (1 : Int32)), (.ref t)]) (hw _ (List.mem_of_getElem? (i := 43) rfl)) (hw _ (List.mem_of_getElem? (i := 44) rfl)) (sel_private (by decide) (hw _ (List.mem_of_getElem? (i := 1) rfl)) (hw _ (List.mem_of_getElem? (i := 45) rfl)) (hw _ (List.mem_of_getElem? (i := 44) rfl))) (hw _ (List.mem_of_getElem? (i := 45) rfl)) (hw _ (List.mem_of_getElem? (i := 2) rfl)) (hw _ (List.mem_of_getElem? (i := 46) rfl)) E_q (rmU1 l Z a0 hw q t _ n0 Z0 b k E_q H O g_b _ A rfl t0 rfl (-1 : Int32) (0 : Int32) x0 ad E_t' X_t D_t S_t d_t0 s_t0 E_t0 X_t0 D_t0 S_t0 (Ne.symm (Nat.ne_of_lt lt_b_t)) n_q_b (Ne.symm (Nat.ne_of_lt lt_q_t)) n_t0_b n_t0_q (Ne.symm (Nat.ne_of_lt lt_t0_t)) g_t g_t0) (by decide) (rest := []) (lenOf pd_2 rfl) rfl d4_74 rfl rfl (by decide) (Nat.le_of_ble_eq_true rfl) (by decide) (by decide) ?_
  intro v h62 hQ
  obtain ⟨rfl, hP⟩ := hQ
  refine Wk.v0 ?_
  rcases hP with hP | ⟨hm, hP1, hP⟩
  · obtain ⟨hp15, WA15, WB15⟩ := hP
    replace A : Ars Z hp15 b k (.object "com/example/orderly_dispatch/orderlydispatch/TimerQueue$Timer") [(.ref t0), (.ref t), .null, .null, .null, .null, .null, .null, .null, .null, .null, .null, .null, .null, .null, .null] := A.set WA15
    replace E_q := E_q.wr WA15
    replace H := H.other WA15 (Or.inl n_q_b)
    replace N := N.other WA15 (Or.inl n_q_b)
    replace G := G.other WA15 (Or.inl n_q_b)
    replace E_t0 := E_t0.wr WA15
    replace X_t0 := X_t0.other WA15 (Or.inl n_t0_b)
    replace D_t0 := D_t0.other WA15 (Or.inl n_t0_b)
    replace S_t0 := S_t0.other WA15 (Or.inl n_t0_b)
    replace T_t0 := T_t0.other WA15 (Or.inl n_t0_b)
    replace E_t' := E_t'.wr WA15
    replace X_t := X_t.other WA15 (Or.inl (Ne.symm (Nat.ne_of_lt lt_b_t)))
    replace D_t := D_t.other WA15 (Or.inl (Ne.symm (Nat.ne_of_lt lt_b_t)))
    replace S_t := S_t.other WA15 (Or.inl (Ne.symm (Nat.ne_of_lt lt_b_t)))
    replace T_t := T_t.other WA15 (Or.inl (Ne.symm (Nat.ne_of_lt lt_b_t)))
    replace Z0 := Nat.le_trans Z0 (Nat.le_of_eq (Wr.size WA15).symm)
    replace K := K.wr WA15 (Or.inl (List.mem_of_getElem? (i := 1) rfl))
    replace E_q := E_q.wr WB15
    replace H := H.other WB15 (Or.inl (Nat.ne_of_lt lt_q_t))
    replace A := A.other WB15 (Nat.ne_of_lt lt_b_t)
    replace N := N.other WB15 (Or.inl (Nat.ne_of_lt lt_q_t))
    replace G := G.other WB15 (Or.inl (Nat.ne_of_lt lt_q_t))
    replace E_t0 := E_t0.wr WB15
    replace X_t0 := X_t0.other WB15 (Or.inl (Nat.ne_of_lt lt_t0_t))
    replace D_t0 := D_t0.other WB15 (Or.inl (Nat.ne_of_lt lt_t0_t))
    replace S_t0 := S_t0.other WB15 (Or.inl (Nat.ne_of_lt lt_t0_t))
    replace T_t0 := T_t0.other WB15 (Or.inl (Nat.ne_of_lt lt_t0_t))
    replace E_t' := E_t'.wr WB15
    replace X_t := X_t.same WB15
    replace D_t := D_t.other WB15 (Or.inr (slot_ne (Or.inr (hw _ (List.mem_of_getElem? (i := 40) rfl))) (Or.inl (hw _ (List.mem_of_getElem? (i := 36) rfl))) (by decide) (t := .long) (t' := .int) (by decide) (by decide)))
    replace S_t := S_t.other WB15 (Or.inr (slot_ne (Or.inr (hw _ (List.mem_of_getElem? (i := 42) rfl))) (Or.inl (hw _ (List.mem_of_getElem? (i := 36) rfl))) (by decide) (t := .long) (t' := .int) (by decide) (by decide)))
    replace T_t := T_t.other WB15 (Or.inr (slot_ne (Or.inr (hw _ (List.mem_of_getElem? (i := 38) rfl))) (Or.inl (hw _ (List.mem_of_getElem? (i := 36) rfl))) (by decide) (t := (.object "java/lang/Runnable")) (t' := .int) (by decide) (by decide)))
    replace Z0 := Nat.le_trans Z0 (Nat.le_of_eq (Wr.size WB15).symm)
    replace K := K.wr WB15 (Or.inr sz_t)
    refine w_aload C (q := 79) d4_77 rfl rfl rfl ?_
    exact w_retA C rfl rfl d4_79 (by decide) (by decide) ⟨t, [t0, t], rfl, TQ.build2 ⟨E_q, H, N, ⟨_, G⟩, A, O, ⟨E_t0, X_t0, ⟨_, D_t0⟩, ⟨_, S_t0⟩, T_t0⟩, ⟨E_t', X_t, ⟨_, D_t⟩, ⟨_, S_t⟩, T_t⟩, (Nat.ne_of_lt lt_t0_t), n_q_b, n_t0_q, n_t0_b, g_t0, (Ne.symm (Nat.ne_of_lt lt_q_t)), (Ne.symm (Nat.ne_of_lt lt_b_t)), g_t, g_q, g_b⟩, ⟨rfl, by simp, by simp⟩, sz_t, K⟩
  · obtain ⟨hp16, WA16, WB16⟩ := hP1
    replace A : Ars Z hp16 b k (.object "com/example/orderly_dispatch/orderlydispatch/TimerQueue$Timer") [(.ref t0), (.ref t0), .null, .null, .null, .null, .null, .null, .null, .null, .null, .null, .null, .null, .null, .null] := A.set WA16
    replace E_q := E_q.wr WA16
    replace H := H.other WA16 (Or.inl n_q_b)
    replace N := N.other WA16 (Or.inl n_q_b)
    replace G := G.other WA16 (Or.inl n_q_b)
    replace E_t0 := E_t0.wr WA16
    replace X_t0 := X_t0.other WA16 (Or.inl n_t0_b)
    replace D_t0 := D_t0.other WA16 (Or.inl n_t0_b)
    replace S_t0 := S_t0.other WA16 (Or.inl n_t0_b)
    replace T_t0 := T_t0.other WA16 (Or.inl n_t0_b)
    replace E_t' := E_t'.wr WA16
    replace X_t := X_t.other WA16 (Or.inl (Ne.symm (Nat.ne_of_lt lt_b_t)))
    replace D_t := D_t.other WA16 (Or.inl (Ne.symm (Nat.ne_of_lt lt_b_t)))
    replace S_t := S_t.other WA16 (Or.inl (Ne.symm (Nat.ne_of_lt lt_b_t)))
    replace T_t := T_t.other WA16 (Or.inl (Ne.symm (Nat.ne_of_lt lt_b_t)))
    replace Z0 := Nat.le_trans Z0 (Nat.le_of_eq (Wr.size WA16).symm)
    replace K := K.wr WA16 (Or.inl (List.mem_of_getElem? (i := 1) rfl))
    replace E_q := E_q.wr WB16
    replace H := H.other WB16 (Or.inl (Ne.symm n_t0_q))
    replace A := A.other WB16 (Ne.symm n_t0_b)
    replace N := N.other WB16 (Or.inl (Ne.symm n_t0_q))
    replace G := G.other WB16 (Or.inl (Ne.symm n_t0_q))
    replace E_t0 := E_t0.wr WB16
    replace X_t0 := X_t0.same WB16
    replace D_t0 := D_t0.other WB16 (Or.inr (slot_ne (Or.inr (hw _ (List.mem_of_getElem? (i := 40) rfl))) (Or.inl (hw _ (List.mem_of_getElem? (i := 36) rfl))) (by decide) (t := .long) (t' := .int) (by decide) (by decide)))
    replace S_t0 := S_t0.other WB16 (Or.inr (slot_ne (Or.inr (hw _ (List.mem_of_getElem? (i := 42) rfl))) (Or.inl (hw _ (List.mem_of_getElem? (i := 36) rfl))) (by decide) (t := .long) (t' := .int) (by decide) (by decide)))
    replace T_t0 := T_t0.other WB16 (Or.inr (slot_ne (Or.inr (hw _ (List.mem_of_getElem? (i := 38) rfl))) (Or.inl (hw _ (List.mem_of_getElem? (i := 36) rfl))) (by decide) (t := (.object "java/lang/Runnable")) (t' := .int) (by decide) (by decide)))
    replace E_t' := E_t'.wr WB16
    replace X_t := X_t.other WB16 (Or.inl (Ne.symm (Nat.ne_of_lt lt_t0_t)))
    replace D_t := D_t.other WB16 (Or.inl (Ne.symm (Nat.ne_of_lt lt_t0_t)))
    replace S_t := S_t.other WB16 (Or.inl (Ne.symm (Nat.ne_of_lt lt_t0_t)))
    replace T_t := T_t.other WB16 (Or.inl (Ne.symm (Nat.ne_of_lt lt_t0_t)))
    replace Z0 := Nat.le_trans Z0 (Nat.le_of_eq (Wr.size WB16).symm)
    replace K := K.wr WB16 (Or.inl (List.mem_of_getElem? (i := 2) rfl))
    obtain ⟨hp17, WA17, WB17⟩ := hP
    replace A : Ars Z hp17 b k (.object "com/example/orderly_dispatch/orderlydispatch/TimerQueue$Timer") [(.ref t), (.ref t0), .null, .null, .null, .null, .null, .null, .null, .null, .null, .null, .null, .null, .null, .null] := A.set WA17
    replace E_q := E_q.wr WA17
    replace H := H.other WA17 (Or.inl n_q_b)
    replace N := N.other WA17 (Or.inl n_q_b)
    replace G := G.other WA17 (Or.inl n_q_b)
    replace E_t0 := E_t0.wr WA17
    replace X_t0 := X_t0.other WA17 (Or.inl n_t0_b)
    replace D_t0 := D_t0.other WA17 (Or.inl n_t0_b)
    replace S_t0 := S_t0.other WA17 (Or.inl n_t0_b)
    replace T_t0 := T_t0.other WA17 (Or.inl n_t0_b)
    replace E_t' := E_t'.wr WA17
    replace X_t := X_t.other WA17 (Or.inl (Ne.symm (Nat.ne_of_lt lt_b_t)))
    replace D_t := D_t.other WA17 (Or.inl (Ne.symm (Nat.ne_of_lt lt_b_t)))
    replace S_t := S_t.other WA17 (Or.inl (Ne.symm (Nat.ne_of_lt lt_b_t)))
    replace T_t := T_t.other WA17 (Or.inl (Ne.symm (Nat.ne_of_lt lt_b_t)))
    replace Z0 := Nat.le_trans Z0 (Nat.le_of_eq (Wr.size WA17).symm)
    replace K := K.wr WA17 (Or.inl (List.mem_of_getElem? (i := 1) rfl))
    replace E_q := E_q.wr WB17
    replace H := H.other WB17 (Or.inl (Nat.ne_of_lt lt_q_t))
    replace A := A.other WB17 (Nat.ne_of_lt lt_b_t)
    replace N := N.other WB17 (Or.inl (Nat.ne_of_lt lt_q_t))
    replace G := G.other WB17 (Or.inl (Nat.ne_of_lt lt_q_t))
    replace E_t0 := E_t0.wr WB17
    replace X_t0 := X_t0.other WB17 (Or.inl (Nat.ne_of_lt lt_t0_t))
    replace D_t0 := D_t0.other WB17 (Or.inl (Nat.ne_of_lt lt_t0_t))
    replace S_t0 := S_t0.other WB17 (Or.inl (Nat.ne_of_lt lt_t0_t))
    replace T_t0 := T_t0.other WB17 (Or.inl (Nat.ne_of_lt lt_t0_t))
    replace E_t' := E_t'.wr WB17
    replace X_t := X_t.same WB17
    replace D_t := D_t.other WB17 (Or.inr (slot_ne (Or.inr (hw _ (List.mem_of_getElem? (i := 40) rfl))) (Or.inl (hw _ (List.mem_of_getElem? (i := 36) rfl))) (by decide) (t := .long) (t' := .int) (by decide) (by decide)))
    replace S_t := S_t.other WB17 (Or.inr (slot_ne (Or.inr (hw _ (List.mem_of_getElem? (i := 42) rfl))) (Or.inl (hw _ (List.mem_of_getElem? (i := 36) rfl))) (by decide) (t := .long) (t' := .int) (by decide) (by decide)))
    replace T_t := T_t.other WB17 (Or.inr (slot_ne (Or.inr (hw _ (List.mem_of_getElem? (i := 38) rfl))) (Or.inl (hw _ (List.mem_of_getElem? (i := 36) rfl))) (by decide) (t := (.object "java/lang/Runnable")) (t' := .int) (by decide) (by decide)))
    replace Z0 := Nat.le_trans Z0 (Nat.le_of_eq (Wr.size WB17).symm)
    replace K := K.wr WB17 (Or.inr sz_t)
    refine w_aload C (q := 79) d4_77 rfl rfl rfl ?_
    exact w_retA C rfl rfl d4_79 (by decide) (by decide) ⟨t, [t, t0], rfl, TQ.build2 ⟨E_q, H, N, ⟨_, G⟩, A, O, ⟨E_t', X_t, ⟨_, D_t⟩, ⟨_, S_t⟩, T_t⟩, ⟨E_t0, X_t0, ⟨_, D_t0⟩, ⟨_, S_t0⟩, T_t0⟩, (Ne.symm (Nat.ne_of_lt lt_t0_t)), n_q_b, (Ne.symm (Nat.ne_of_lt lt_q_t)), (Ne.symm (Nat.ne_of_lt lt_b_t)), g_t, n_t0_q, n_t0_b, g_t0, g_q, g_b⟩, ⟨rfl, by simp, by simp⟩, sz_t, K⟩
theorem ef_Add2 (m : MethodId) (q : Nat) (x0 : Int64) : entryFrame m #[(.ref q), .null, (.long x0)] 5 = mkF m 0 #[.val (.ref q), .val .null, .val (.long x0), .second, .unset] [] := by first | (simp [entryFrame, mkF, argsToLocals, Value.category]; done) | rfl
set_option maxRecDepth 65536 in
set_option maxHeartbeats 40000000 in
theorem rmAdd2 (l : Launch) (Z : State) (a0 : Array Value) (hw : ∀ d ∈ tables_1, d.before a0 Z = true) (q : Nat) (x0 : Int64) (h0 : Heap) (n0 : Nat) (Z0 : n0 ≤ h0.size) (b : Addr) (k : ClassId) (t0 : Addr) (t1 : Addr) (hTQ : TQ Z n0 h0 q b k [t0, t1]) :
    Met1 l Z ⟨"com/example/orderly_dispatch/orderlydispatch/TimerQueue", "add", "(Ljava/lang/Runnable;J)Lcom/example/orderly_dispatch/orderlydispatch/TimerQueue$Timer;"⟩ prog_25_method_2_code 5 (some (.object "com/example/orderly_dispatch/orderlydispatch/TimerQueue$Timer")) ({ frames := 3, cells := 1, slots := 5, locals := 50 } : Room) #[(.ref q), .null, (.long x0)] h0 n0 (fun v h => ∃ t ts', v = some (.ref t) ∧ TQ Z n0 h q b k ts' ∧ Ins1 [t0, t1] ts' t ∧ h0.size ≤ t ∧ Keep h0 h (q :: b :: [t0, t1])) := by
  refine Met1.of_body pn_4 (fun p e s m below meth c C => ?_)
  replace C : Cx p s m meth c Z "com/example/orderly_dispatch/orderlydispatch/TimerQueue" "add" prog_25_method_2_code 5 (some (.object "com/example/orderly_dispatch/orderlydispatch/TimerQueue$Timer")) := C
  refine Wk.cast (ef_Add2 m q x0) ?_
  obtain ⟨E_q, H, N, ⟨ad, G⟩, A, O, ⟨E_t0, X_t0, ⟨d_t0, D_t0⟩, ⟨s_t0, S_t0⟩, T_t0⟩, ⟨E_t1, X_t1, ⟨d_t1, D_t1⟩, ⟨s_t1, S_t1⟩, T_t1⟩, n_t0_t1, n_q_b, n_t0_q, n_t0_b, g_t0, n_t1_q, n_t1_b, g_t1, g_q, g_b⟩ := hTQ.open2
  have K : Keep h0 h0 (q :: b :: [t0, t1]) := Keep.refl _ _
  refine w_newO C (q := 3) (hw _ (List.mem_of_getElem? (i := 9) rfl)) (hw _ (List.mem_of_getElem? (i := 25) rfl)) (hw _ (List.mem_of_getElem? (i := 26) rfl)) d4_0 rfl (by decide) (by decide) ?_
  intro h63 t eq_t Ehh63 E_t D_t
  have lt_q_t : (q : Nat) < (t : Nat) := Nat.lt_of_lt_of_le E_q.lt (Nat.le_of_eq eq_t.symm)
  have lt_b_t : (b : Nat) < (t : Nat) := Nat.lt_of_lt_of_le A.lt (Nat.le_of_eq eq_t.symm)
  have lt_t0_t : (t0 : Nat) < (t : Nat) := Nat.lt_of_lt_of_le E_t0.lt (Nat.le_of_eq eq_t.symm)
  have lt_t1_t : (t1 : Nat) < (t : Nat) := Nat.lt_of_lt_of_le E_t1.lt (Nat.le_of_eq eq_t.symm)
  have g_t : n0 ≤ t := Nat.le_trans Z0 (Nat.le_of_eq eq_t.symm)
  have sz_t : h0.size ≤ t := Nat.le_trans K.1 (Nat.le_of_eq eq_t.symm)
  replace Z0 := Nat.le_trans Z0 Ehh63.1
  replace E_q := E_q.ext Ehh63
  replace H := H.ext Ehh63
  replace A := A.ext Ehh63
  replace N := N.ext Ehh63
  replace G := G.ext Ehh63
  replace E_t0 := E_t0.ext Ehh63
  replace X_t0 := X_t0.ext Ehh63
  replace D_t0 := D_t0.ext Ehh63
  replace S_t0 := S_t0.ext Ehh63
  replace T_t0 := T_t0.ext Ehh63
  replace E_t1 := E_t1.ext Ehh63
  replace X_t1 := X_t1.ext Ehh63
  replace D_t1 := D_t1.ext Ehh63
  replace S_t1 := S_t1.ext Ehh63
  replace T_t1 := T_t1.ext Ehh63
  replace K := K.ext Ehh63
  have F_t_this : Fld Z h63 t "com/example/orderly_dispatch/orderlydispatch/TimerQueue$Timer" "this$0" "Lcom/example/orderly_dispatch/orderlydispatch/TimerQueue;" .null := D_t (Or.inr (hw _ (List.mem_of_getElem? (i := 33) rfl))) (ty := (.object "com/example/orderly_dispatch/orderlydispatch/TimerQueue")) (by decide)
  have F_t_index : Fld Z h63 t "com/example/orderly_dispatch/orderlydispatch/TimerQueue$Timer" "index" "I" (.int (0 : Int32)) := D_t (Or.inl (hw _ (List.mem_of_getElem? (i := 36) rfl))) (ty := .int) (by decide)
  have F_t_task : Fld Z h63 t "com/example/orderly_dispatch/orderlydispatch/TimerQueue$Timer" "task" "Ljava/lang/Runnable;" .null := D_t (Or.inr (hw _ (List.mem_of_getElem? (i := 38) rfl))) (ty := (.object "java/lang/Runnable")) (by decide)
  have F_t_dueNanos : Fld Z h63 t "com/example/orderly_dispatch/orderlydispatch/TimerQueue$Timer" "dueNanos" "J" (.long (0 : Int64)) := D_t (Or.inr (hw _ (List.mem_of_getElem? (i := 40) rfl))) (ty := .long) (by decide)
  have F_t_sequence : Fld Z h63 t "com/example/orderly_dispatch/orderlydispatch/TimerQueue$Timer" "sequence" "J" (.long (0 : Int64)) := D_t (Or.inr (hw _ (List.mem_of_getElem? (i := 42) rfl))) (ty := .long) (by decide)
  clear D_t
  refine w_dup C (q := 4) d4_3 rfl rfl ?_
  refine w_aloadN C (q := 5) d4_4 rfl rfl rfl ?_
  refine w_aloadN C (q := 6) d4_5 rfl rfl rfl ?_
  refine w_lloadN C (q := 7) d4_6 rfl rfl ?_
  refine w_aloadN C (q := 8) d4_7 rfl rfl rfl ?_
  refine w_dup C (q := 9) d4_8 rfl rfl ?_
  refine w_getF C (q := 12) (host := "") (Or.inl (hw _ (List.mem_of_getElem? (i := 27) rfl))) Via.refl G d4_9 rfl ?_
  refine w_dup2X1L C (q := 13) d4_12 rfl rfl ?_
  refine w_lconst C (q := 14) (1 : Int64) d4_13 rfl (by decide) ?_
  refine w_ladd C (q := 15) d4_14 rfl ?_
  refine w_putF C (q := 18) (host := "") (Or.inl (hw _ (List.mem_of_getElem? (i := 27) rfl))) Via.refl G E_q (Or.inl (hw _ (List.mem_of_getElem? (i := 28) rfl))) (hw _ (List.mem_of_getElem? (i := 1) rfl)) (ty := .long) (by decide) rfl rfl d4_15 rfl g_q ?_
  intro h64 Wh64
  replace E_q := E_q.wr Wh64
  replace H := H.other Wh64 (Or.inr (slot_ne (Or.inl (hw _ (List.mem_of_getElem? (i := 12) rfl))) (Or.inl (hw _ (List.mem_of_getElem? (i := 28) rfl))) (by decide) (t := (.array (.object "com/example/orderly_dispatch/orderlydispatch/TimerQueue$Timer"))) (t' := .long) (by decide) (by decide)))
  replace A := A.other Wh64 (Ne.symm n_q_b)
  replace N := N.other Wh64 (Or.inr (slot_ne (Or.inl (hw _ (List.mem_of_getElem? (i := 19) rfl))) (Or.inl (hw _ (List.mem_of_getElem? (i := 28) rfl))) (by decide) (t := .int) (t' := .long) (by decide) (by decide)))
  replace G := G.same Wh64
  replace E_t0 := E_t0.wr Wh64
  replace X_t0 := X_t0.other Wh64 (Or.inl n_t0_q)
  replace D_t0 := D_t0.other Wh64 (Or.inl n_t0_q)
  replace S_t0 := S_t0.other Wh64 (Or.inl n_t0_q)
  replace T_t0 := T_t0.other Wh64 (Or.inl n_t0_q)
  replace E_t1 := E_t1.wr Wh64
  replace X_t1 := X_t1.other Wh64 (Or.inl n_t1_q)
  replace D_t1 := D_t1.other Wh64 (Or.inl n_t1_q)
  replace S_t1 := S_t1.other Wh64 (Or.inl n_t1_q)
  replace T_t1 := T_t1.other Wh64 (Or.inl n_t1_q)
  replace E_t := E_t.wr Wh64
  replace F_t_index := F_t_index.other Wh64 (Or.inl (Ne.symm (Nat.ne_of_lt lt_q_t)))
  replace F_t_task := F_t_task.other Wh64 (Or.inl (Ne.symm (Nat.ne_of_lt lt_q_t)))
  replace F_t_dueNanos := F_t_dueNanos.other Wh64 (Or.inl (Ne.symm (Nat.ne_of_lt lt_q_t)))
  replace F_t_sequence := F_t_sequence.other Wh64 (Or.inl (Ne.symm (Nat.ne_of_lt lt_q_t)))
  replace F_t_this := F_t_this.other Wh64 (Or.inl (Ne.symm (Nat.ne_of_lt lt_q_t)))
  replace Z0 := Nat.le_trans Z0 (Nat.le_of_eq (Wr.size Wh64).symm)
  replace K := K.wr Wh64 (Or.inl (List.mem_of_getElem? (i := 0) rfl))
  refine w_specialR C (q := 21) (y := ⟨"com/example/orderly_dispatch/orderlydispatch/TimerQueue$Timer", "<init>", "(Lcom/example/orderly_dispatch/orderlydispatch/TimerQueue;Ljava/lang/Runnable;JJ)V"⟩) (rm := ({ frames := 1, cells := 0, slots := 0, locals := 12 } : Room)) (a := t) (argsL := [(.ref q), .null, (.long x0), (.long ad)]) rfl (hw _ (List.mem_of_getElem? (i := 29) rfl)) (hw _ (List.mem_of_getElem? (i := 30) rfl)) (hw _ (List.mem_of_getElem? (i := 26) rfl)) (hw _ (List.mem_of_getElem? (i := 31) rfl)) (rmTI l Z a0 hw t q x0 ad _ n0 Z0 E_t g_t F_t_this F_t_index F_t_task F_t_dueNanos F_t_sequence) (by decide) (rest := [(.ref t)]) (lenOf pd_6 rfl) rfl d4_18 rfl rfl (by decide) (Nat.le_of_ble_eq_true rfl) (by decide) (by decide) ?_
  intro v h65 hQ
  obtain ⟨rfl, Kt, E_t', X_t, D_t, S_t, T_t⟩ := hQ
  replace E_q := E_q.keep Kt
  replace H := H.keep Kt (ninS (Nat.ne_of_lt lt_q_t) nin0)
  replace A := A.keep Kt (ninS (Nat.ne_of_lt lt_b_t) nin0)
  replace N := N.keep Kt (ninS (Nat.ne_of_lt lt_q_t) nin0)
  replace G := G.keep Kt (ninS (Nat.ne_of_lt lt_q_t) nin0)
  replace E_t0 := E_t0.keep Kt
  replace X_t0 := X_t0.keep Kt (ninS (Nat.ne_of_lt lt_t0_t) nin0)
  replace D_t0 := D_t0.keep Kt (ninS (Nat.ne_of_lt lt_t0_t) nin0)
  replace S_t0 := S_t0.keep Kt (ninS (Nat.ne_of_lt lt_t0_t) nin0)
  replace T_t0 := T_t0.keep Kt (ninS (Nat.ne_of_lt lt_t0_t) nin0)
  replace E_t1 := E_t1.keep Kt
  replace X_t1 := X_t1.keep Kt (ninS (Nat.ne_of_lt lt_t1_t) nin0)
  replace D_t1 := D_t1.keep Kt (ninS (Nat.ne_of_lt lt_t1_t) nin0)
  replace S_t1 := S_t1.keep Kt (ninS (Nat.ne_of_lt lt_t1_t) nin0)
  replace T_t1 := T_t1.keep Kt (ninS (Nat.ne_of_lt lt_t1_t) nin0)
  replace E_t := E_t.keep Kt
  replace K := K.trans Kt (allS (Or.inr sz_t) all0)
  replace Z0 := Nat.le_trans Z0 Kt.1
  refine Wk.v0 ?_
  refine w_astore C (q := 23) #[.val (.ref q), .val .null, .val (.long x0), .second, .val (.ref t)] d4_21 rfl rfl rfl ?_
  refine w_aloadN C (q := 24) d4_23 rfl rfl rfl ?_
  refine w_getF C (q := 27) (host := "") (Or.inl (hw _ (List.mem_of_getElem? (i := 18) rfl))) Via.refl N d4_24 rfl ?_
  refine w_aloadN C (q := 28) d4_27 rfl rfl rfl ?_
  refine w_getF C (q := 31) (host := "") (Or.inl (hw _ (List.mem_of_getElem? (i := 11) rfl))) Via.refl H d4_28 rfl ?_
  refine w_arraylength C (q := 32) A (16 : Int32) rfl d4_31 rfl ?_
  refine w_icne_t C (q := 60) d4_32 (by decide) (by decide) (by decide) ?_
  refine w_aloadN C (q := 61) d4_60 rfl rfl rfl ?_
  refine w_aloadN C (q := 62) d4_61 rfl rfl rfl ?_
  refine w_dup C (q := 63) d4_62 rfl rfl ?_
  refine w_getF C (q := 66) (host := "") (Or.inl (hw _ (List.mem_of_getElem? (i := 18) rfl))) Via.refl N d4_63 rfl ?_
  refine w_dupX1 C (q := 67) d4_66 rfl rfl rfl ?_
  refine w_iconst C (q := 68) (1 : Int32) d4_67 rfl (by decide) ?_
  refine w_iadd C (q := 69) d4_68 rfl ?_
  refine w_putF C (q := 72) (host := "") (Or.inl (hw _ (List.mem_of_getElem? (i := 18) rfl))) Via.refl N E_q (Or.inl (hw _ (List.mem_of_getElem? (i := 19) rfl))) (hw _ (List.mem_of_getElem? (i := 1) rfl)) (ty := .int) (by decide) rfl rfl d4_69 rfl g_q ?_
  intro h66 Wh66
  replace E_q := E_q.wr Wh66
  replace H := H.other Wh66 (Or.inr (slot_ne (Or.inl (hw _ (List.mem_of_getElem? (i := 12) rfl))) (Or.inl (hw _ (List.mem_of_getElem? (i := 19) rfl))) (by decide) (t := (.array (.object "com/example/orderly_dispatch/orderlydispatch/TimerQueue$Timer"))) (t' := .int) (by decide) (by decide)))
  replace A := A.other Wh66 (Ne.symm n_q_b)
  replace N := N.same Wh66
  replace G := G.other Wh66 (Or.inr (slot_ne (Or.inl (hw _ (List.mem_of_getElem? (i := 28) rfl))) (Or.inl (hw _ (List.mem_of_getElem? (i := 19) rfl))) (by decide) (t := .long) (t' := .int) (by decide) (by decide)))
  replace E_t0 := E_t0.wr Wh66
  replace X_t0 := X_t0.other Wh66 (Or.inl n_t0_q)
  replace D_t0 := D_t0.other Wh66 (Or.inl n_t0_q)
  replace S_t0 := S_t0.other Wh66 (Or.inl n_t0_q)
  replace T_t0 := T_t0.other Wh66 (Or.inl n_t0_q)
  replace E_t1 := E_t1.wr Wh66
  replace X_t1 := X_t1.other Wh66 (Or.inl n_t1_q)
  replace D_t1 := D_t1.other Wh66 (Or.inl n_t1_q)
  replace S_t1 := S_t1.other Wh66 (Or.inl n_t1_q)
  replace T_t1 := T_t1.other Wh66 (Or.inl n_t1_q)
  replace E_t' := E_t'.wr Wh66
  replace X_t := X_t.other Wh66 (Or.inl (Ne.symm (Nat.ne_of_lt lt_q_t)))
  replace D_t := D_t.other Wh66 (Or.inl (Ne.symm (Nat.ne_of_lt lt_q_t)))
  replace S_t := S_t.other Wh66 (Or.inl (Ne.symm (Nat.ne_of_lt lt_q_t)))
  replace T_t := T_t.other Wh66 (Or.inl (Ne.symm (Nat.ne_of_lt lt_q_t)))
  replace Z0 := Nat.le_trans Z0 (Nat.le_of_eq (Wr.size Wh66).symm)
  replace K := K.wr Wh66 (Or.inl (List.mem_of_getElem? (i := 0) rfl))
  refine w_aload C (q := 74) d4_72 rfl rfl rfl ?_
  refine w_private C (q := 77) (y := ⟨"com/example/orderly_dispatch/orderlydispatch/TimerQueue", "siftUp", "(ILcom/example/orderly_dispatch/orderlydispatch/TimerQueue$Timer;)V"⟩) (rm := ({ frames := 2, cells := 0, slots := 0, locals := 33 } : Room)) (a := q) (argsL := [(.int (2 : Int32)), (.ref t)]) (hw _ (List.mem_of_getElem? (i := 43) rfl)) (hw _ (List.mem_of_getElem? (i := 44) rfl)) (sel_private (by decide) (hw _ (List.mem_of_getElem? (i := 1) rfl)) (hw _ (List.mem_of_getElem? (i := 45) rfl)) (hw _ (List.mem_of_getElem? (i := 44) rfl))) (hw _ (List.mem_of_getElem? (i := 45) rfl)) (hw _ (List.mem_of_getElem? (i := 2) rfl)) (hw _ (List.mem_of_getElem? (i := 46) rfl)) E_q (rmU2 l Z a0 hw q t _ n0 Z0 b k E_q H O g_b _ A rfl t0 rfl (-1 : Int32) (0 : Int32) x0 ad E_t' X_t D_t S_t d_t0 s_t0 E_t0 X_t0 D_t0 S_t0 (Ne.symm (Nat.ne_of_lt lt_b_t)) n_q_b (Ne.symm (Nat.ne_of_lt lt_q_t)) n_t0_b n_t0_q (Ne.symm (Nat.ne_of_lt lt_t0_t)) g_t g_t0) (by decide) (rest := []) (lenOf pd_2 rfl) rfl d4_74 rfl rfl (by decide) (Nat.le_of_ble_eq_true rfl) (by decide) (by decide) ?_
  intro v h67 hQ
  obtain ⟨rfl, hP⟩ := hQ
  refine Wk.v0 ?_
  rcases hP with hP | ⟨hm, hP1, hP⟩
  · obtain ⟨hp18, WA18, WB18⟩ := hP
    replace A : Ars Z hp18 b k (.object "com/example/orderly_dispatch/orderlydispatch/TimerQueue$Timer") [(.ref t0), (.ref t1), (.ref t), .null, .null, .null, .null, .null, .null, .null, .null, .null, .null, .null, .null, .null] := A.set WA18
    replace E_q := E_q.wr WA18
    replace H := H.other WA18 (Or.inl n_q_b)
    replace N := N.other WA18 (Or.inl n_q_b)
    replace G := G.other WA18 (Or.inl n_q_b)
    replace E_t0 := E_t0.wr WA18
    replace X_t0 := X_t0.other WA18 (Or.inl n_t0_b)
    replace D_t0 := D_t0.other WA18 (Or.inl n_t0_b)
    replace S_t0 := S_t0.other WA18 (Or.inl n_t0_b)
    replace T_t0 := T_t0.other WA18 (Or.inl n_t0_b)
    replace E_t1 := E_t1.wr WA18
    replace X_t1 := X_t1.other WA18 (Or.inl n_t1_b)
    replace D_t1 := D_t1.other WA18 (Or.inl n_t1_b)
    replace S_t1 := S_t1.other WA18 (Or.inl n_t1_b)
    replace T_t1 := T_t1.other WA18 (Or.inl n_t1_b)
    replace E_t' := E_t'.wr WA18
    replace X_t := X_t.other WA18 (Or.inl (Ne.symm (Nat.ne_of_lt lt_b_t)))
    replace D_t := D_t.other WA18 (Or.inl (Ne.symm (Nat.ne_of_lt lt_b_t)))
    replace S_t := S_t.other WA18 (Or.inl (Ne.symm (Nat.ne_of_lt lt_b_t)))
    replace T_t := T_t.other WA18 (Or.inl (Ne.symm (Nat.ne_of_lt lt_b_t)))
    replace Z0 := Nat.le_trans Z0 (Nat.le_of_eq (Wr.size WA18).symm)
    replace K := K.wr WA18 (Or.inl (List.mem_of_getElem? (i := 1) rfl))
    replace E_q := E_q.wr WB18
    replace H := H.other WB18 (Or.inl (Nat.ne_of_lt lt_q_t))
    replace A := A.other WB18 (Nat.ne_of_lt lt_b_t)
    replace N := N.other WB18 (Or.inl (Nat.ne_of_lt lt_q_t))
    replace G := G.other WB18 (Or.inl (Nat.ne_of_lt lt_q_t))
    replace E_t0 := E_t0.wr WB18
    replace X_t0 := X_t0.other WB18 (Or.inl (Nat.ne_of_lt lt_t0_t))
    replace D_t0 := D_t0.other WB18 (Or.inl (Nat.ne_of_lt lt_t0_t))
    replace S_t0 := S_t0.other WB18 (Or.inl (Nat.ne_of_lt lt_t0_t))
    replace T_t0 := T_t0.other WB18 (Or.inl (Nat.ne_of_lt lt_t0_t))
    replace E_t1 := E_t1.wr WB18
    replace X_t1 := X_t1.other WB18 (Or.inl (Nat.ne_of_lt lt_t1_t))
    replace D_t1 := D_t1.other WB18 (Or.inl (Nat.ne_of_lt lt_t1_t))
    replace S_t1 := S_t1.other WB18 (Or.inl (Nat.ne_of_lt lt_t1_t))
    replace T_t1 := T_t1.other WB18 (Or.inl (Nat.ne_of_lt lt_t1_t))
    replace E_t' := E_t'.wr WB18
    replace X_t := X_t.same WB18
    replace D_t := D_t.other WB18 (Or.inr (slot_ne (Or.inr (hw _ (List.mem_of_getElem? (i := 40) rfl))) (Or.inl (hw _ (List.mem_of_getElem? (i := 36) rfl))) (by decide) (t := .long) (t' := .int) (by decide) (by decide)))
    replace S_t := S_t.other WB18 (Or.inr (slot_ne (Or.inr (hw _ (List.mem_of_getElem? (i := 42) rfl))) (Or.inl (hw _ (List.mem_of_getElem? (i := 36) rfl))) (by decide) (t := .long) (t' := .int) (by decide) (by decide)))
    replace T_t := T_t.other WB18 (Or.inr (slot_ne (Or.inr (hw _ (List.mem_of_getElem? (i := 38) rfl))) (Or.inl (hw _ (List.mem_of_getElem? (i := 36) rfl))) (by decide) (t := (.object "java/lang/Runnable")) (t' := .int) (by decide) (by decide)))
    replace Z0 := Nat.le_trans Z0 (Nat.le_of_eq (Wr.size WB18).symm)
    replace K := K.wr WB18 (Or.inr sz_t)
    refine w_aload C (q := 79) d4_77 rfl rfl rfl ?_
    exact w_retA C rfl rfl d4_79 (by decide) (by decide) ⟨t, [t0, t1, t], rfl, TQ.build3 ⟨E_q, H, N, ⟨_, G⟩, A, O, ⟨E_t0, X_t0, ⟨_, D_t0⟩, ⟨_, S_t0⟩, T_t0⟩, ⟨E_t1, X_t1, ⟨_, D_t1⟩, ⟨_, S_t1⟩, T_t1⟩, ⟨E_t', X_t, ⟨_, D_t⟩, ⟨_, S_t⟩, T_t⟩, n_t0_t1, (Nat.ne_of_lt lt_t0_t), (Nat.ne_of_lt lt_t1_t), n_q_b, n_t0_q, n_t0_b, g_t0, n_t1_q, n_t1_b, g_t1, (Ne.symm (Nat.ne_of_lt lt_q_t)), (Ne.symm (Nat.ne_of_lt lt_b_t)), g_t, g_q, g_b⟩, ⟨rfl, by simp, by simp⟩, sz_t, K⟩
  · obtain ⟨hp19, WA19, WB19⟩ := hP1
    replace A : Ars Z hp19 b k (.object "com/example/orderly_dispatch/orderlydispatch/TimerQueue$Timer") [(.ref t0), (.ref t1), (.ref t0), .null, .null, .null, .null, .null, .null, .null, .null, .null, .null, .null, .null, .null] := A.set WA19
    replace E_q := E_q.wr WA19
    replace H := H.other WA19 (Or.inl n_q_b)
    replace N := N.other WA19 (Or.inl n_q_b)
    replace G := G.other WA19 (Or.inl n_q_b)
    replace E_t0 := E_t0.wr WA19
    replace X_t0 := X_t0.other WA19 (Or.inl n_t0_b)
    replace D_t0 := D_t0.other WA19 (Or.inl n_t0_b)
    replace S_t0 := S_t0.other WA19 (Or.inl n_t0_b)
    replace T_t0 := T_t0.other WA19 (Or.inl n_t0_b)
    replace E_t1 := E_t1.wr WA19
    replace X_t1 := X_t1.other WA19 (Or.inl n_t1_b)
    replace D_t1 := D_t1.other WA19 (Or.inl n_t1_b)
    replace S_t1 := S_t1.other WA19 (Or.inl n_t1_b)
    replace T_t1 := T_t1.other WA19 (Or.inl n_t1_b)
    replace E_t' := E_t'.wr WA19
    replace X_t := X_t.other WA19 (Or.inl (Ne.symm (Nat.ne_of_lt lt_b_t)))
    replace D_t := D_t.other WA19 (Or.inl (Ne.symm (Nat.ne_of_lt lt_b_t)))
    replace S_t := S_t.other WA19 (Or.inl (Ne.symm (Nat.ne_of_lt lt_b_t)))
    replace T_t := T_t.other WA19 (Or.inl (Ne.symm (Nat.ne_of_lt lt_b_t)))
    replace Z0 := Nat.le_trans Z0 (Nat.le_of_eq (Wr.size WA19).symm)
    replace K := K.wr WA19 (Or.inl (List.mem_of_getElem? (i := 1) rfl))
    replace E_q := E_q.wr WB19
    replace H := H.other WB19 (Or.inl (Ne.symm n_t0_q))
    replace A := A.other WB19 (Ne.symm n_t0_b)
    replace N := N.other WB19 (Or.inl (Ne.symm n_t0_q))
    replace G := G.other WB19 (Or.inl (Ne.symm n_t0_q))
    replace E_t0 := E_t0.wr WB19
    replace X_t0 := X_t0.same WB19
    replace D_t0 := D_t0.other WB19 (Or.inr (slot_ne (Or.inr (hw _ (List.mem_of_getElem? (i := 40) rfl))) (Or.inl (hw _ (List.mem_of_getElem? (i := 36) rfl))) (by decide) (t := .long) (t' := .int) (by decide) (by decide)))
    replace S_t0 := S_t0.other WB19 (Or.inr (slot_ne (Or.inr (hw _ (List.mem_of_getElem? (i := 42) rfl))) (Or.inl (hw _ (List.mem_of_getElem? (i := 36) rfl))) (by decide) (t := .long) (t' := .int) (by decide) (by decide)))
    replace T_t0 := T_t0.other WB19 (Or.inr (slot_ne (Or.inr (hw _ (List.mem_of_getElem? (i := 38) rfl))) (Or.inl (hw _ (List.mem_of_getElem? (i := 36) rfl))) (by decide) (t := (.object "java/lang/Runnable")) (t' := .int) (by decide) (by decide)))
    replace E_t1 := E_t1.wr WB19
    replace X_t1 := X_t1.other WB19 (Or.inl (Ne.symm n_t0_t1))
    replace D_t1 := D_t1.other WB19 (Or.inl (Ne.symm n_t0_t1))
    replace S_t1 := S_t1.other WB19 (Or.inl (Ne.symm n_t0_t1))
    replace T_t1 := T_t1.other WB19 (Or.inl (Ne.symm n_t0_t1))
    replace E_t' := E_t'.wr WB19
    replace X_t := X_t.other WB19 (Or.inl (Ne.symm (Nat.ne_of_lt lt_t0_t)))
    replace D_t := D_t.other WB19 (Or.inl (Ne.symm (Nat.ne_of_lt lt_t0_t)))
    replace S_t := S_t.other WB19 (Or.inl (Ne.symm (Nat.ne_of_lt lt_t0_t)))
    replace T_t := T_t.other WB19 (Or.inl (Ne.symm (Nat.ne_of_lt lt_t0_t)))
    replace Z0 := Nat.le_trans Z0 (Nat.le_of_eq (Wr.size WB19).symm)
    replace K := K.wr WB19 (Or.inl (List.mem_of_getElem? (i := 2) rfl))
    obtain ⟨hp20, WA20, WB20⟩ := hP
    replace A : Ars Z hp20 b k (.object "com/example/orderly_dispatch/orderlydispatch/TimerQueue$Timer") [(.ref t), (.ref t1), (.ref t0), .null, .null, .null, .null, .null, .null, .null, .null, .null, .null, .null, .null, .null] := A.set WA20
    replace E_q := E_q.wr WA20
    replace H := H.other WA20 (Or.inl n_q_b)
    replace N := N.other WA20 (Or.inl n_q_b)
    replace G := G.other WA20 (Or.inl n_q_b)
    replace E_t0 := E_t0.wr WA20
    replace X_t0 := X_t0.other WA20 (Or.inl n_t0_b)
    replace D_t0 := D_t0.other WA20 (Or.inl n_t0_b)
    replace S_t0 := S_t0.other WA20 (Or.inl n_t0_b)
    replace T_t0 := T_t0.other WA20 (Or.inl n_t0_b)
    replace E_t1 := E_t1.wr WA20
    replace X_t1 := X_t1.other WA20 (Or.inl n_t1_b)
    replace D_t1 := D_t1.other WA20 (Or.inl n_t1_b)
    replace S_t1 := S_t1.other WA20 (Or.inl n_t1_b)
    replace T_t1 := T_t1.other WA20 (Or.inl n_t1_b)
    replace E_t' := E_t'.wr WA20
    replace X_t := X_t.other WA20 (Or.inl (Ne.symm (Nat.ne_of_lt lt_b_t)))
    replace D_t := D_t.other WA20 (Or.inl (Ne.symm (Nat.ne_of_lt lt_b_t)))
    replace S_t := S_t.other WA20 (Or.inl (Ne.symm (Nat.ne_of_lt lt_b_t)))
    replace T_t := T_t.other WA20 (Or.inl (Ne.symm (Nat.ne_of_lt lt_b_t)))
    replace Z0 := Nat.le_trans Z0 (Nat.le_of_eq (Wr.size WA20).symm)
    replace K := K.wr WA20 (Or.inl (List.mem_of_getElem? (i := 1) rfl))
    replace E_q := E_q.wr WB20
    replace H := H.other WB20 (Or.inl (Nat.ne_of_lt lt_q_t))
    replace A := A.other WB20 (Nat.ne_of_lt lt_b_t)
    replace N := N.other WB20 (Or.inl (Nat.ne_of_lt lt_q_t))
    replace G := G.other WB20 (Or.inl (Nat.ne_of_lt lt_q_t))
    replace E_t0 := E_t0.wr WB20
    replace X_t0 := X_t0.other WB20 (Or.inl (Nat.ne_of_lt lt_t0_t))
    replace D_t0 := D_t0.other WB20 (Or.inl (Nat.ne_of_lt lt_t0_t))
    replace S_t0 := S_t0.other WB20 (Or.inl (Nat.ne_of_lt lt_t0_t))
    replace T_t0 := T_t0.other WB20 (Or.inl (Nat.ne_of_lt lt_t0_t))
    replace E_t1 := E_t1.wr WB20
    replace X_t1 := X_t1.other WB20 (Or.inl (Nat.ne_of_lt lt_t1_t))
    replace D_t1 := D_t1.other WB20 (Or.inl (Nat.ne_of_lt lt_t1_t))
    replace S_t1 := S_t1.other WB20 (Or.inl (Nat.ne_of_lt lt_t1_t))
    replace T_t1 := T_t1.other WB20 (Or.inl (Nat.ne_of_lt lt_t1_t))
    replace E_t' := E_t'.wr WB20
    replace X_t := X_t.same WB20
    replace D_t := D_t.other WB20 (Or.inr (slot_ne (Or.inr (hw _ (List.mem_of_getElem? (i := 40) rfl))) (Or.inl (hw _ (List.mem_of_getElem? (i := 36) rfl))) (by decide) (t := .long) (t' := .int) (by decide) (by decide)))
    replace S_t := S_t.other WB20 (Or.inr (slot_ne (Or.inr (hw _ (List.mem_of_getElem? (i := 42) rfl))) (Or.inl (hw _ (List.mem_of_getElem? (i := 36) rfl))) (by decide) (t := .long) (t' := .int) (by decide) (by decide)))
    replace T_t := T_t.other WB20 (Or.inr (slot_ne (Or.inr (hw _ (List.mem_of_getElem? (i := 38) rfl))) (Or.inl (hw _ (List.mem_of_getElem? (i := 36) rfl))) (by decide) (t := (.object "java/lang/Runnable")) (t' := .int) (by decide) (by decide)))
    replace Z0 := Nat.le_trans Z0 (Nat.le_of_eq (Wr.size WB20).symm)
    replace K := K.wr WB20 (Or.inr sz_t)
    refine w_aload C (q := 79) d4_77 rfl rfl rfl ?_
    exact w_retA C rfl rfl d4_79 (by decide) (by decide) ⟨t, [t, t1, t0], rfl, TQ.build3 ⟨E_q, H, N, ⟨_, G⟩, A, O, ⟨E_t', X_t, ⟨_, D_t⟩, ⟨_, S_t⟩, T_t⟩, ⟨E_t1, X_t1, ⟨_, D_t1⟩, ⟨_, S_t1⟩, T_t1⟩, ⟨E_t0, X_t0, ⟨_, D_t0⟩, ⟨_, S_t0⟩, T_t0⟩, (Ne.symm (Nat.ne_of_lt lt_t1_t)), (Ne.symm (Nat.ne_of_lt lt_t0_t)), (Ne.symm n_t0_t1), n_q_b, (Ne.symm (Nat.ne_of_lt lt_q_t)), (Ne.symm (Nat.ne_of_lt lt_b_t)), g_t, n_t1_q, n_t1_b, g_t1, n_t0_q, n_t0_b, g_t0, g_q, g_b⟩, ⟨rfl, by simp, by simp⟩, sz_t, K⟩
set_option maxRecDepth 65536 in
theorem rmAdd (l : Launch) (Z : State) (a0 : Array Value) (hw : ∀ d ∈ tables_1, d.before a0 Z = true) (q : Addr) (x0 : Int64) (h0 : Heap) (n0 : Nat) (Z0 : n0 ≤ h0.size) (b : Addr) (k : ClassId) (ts : List Addr) (hTQ : TQ Z n0 h0 q b k ts) (hlen : ts.length ≤ 2) :
    Met1 l Z ⟨"com/example/orderly_dispatch/orderlydispatch/TimerQueue", "add", "(Ljava/lang/Runnable;J)Lcom/example/orderly_dispatch/orderlydispatch/TimerQueue$Timer;"⟩ prog_25_method_2_code 5 (some (.object "com/example/orderly_dispatch/orderlydispatch/TimerQueue$Timer")) ({ frames := 3, cells := 1, slots := 5, locals := 50 } : Room) #[(.ref q), .null, (.long x0)] h0 n0 (fun v h => ∃ t ts', v = some (.ref t) ∧ TQ Z n0 h q b k ts' ∧ Ins1 ts ts' t ∧ h0.size ≤ t ∧ Keep h0 h (q :: b :: ts)) := by
  rcases ts with _ | ⟨t0, _ | ⟨t1, _ | ⟨t2, tl⟩⟩⟩
  · exact rmAdd0 l Z a0 hw q x0 h0 n0 Z0 b k  hTQ
  · exact rmAdd1 l Z a0 hw q x0 h0 n0 Z0 b k _ hTQ
  · exact rmAdd2 l Z a0 hw q x0 h0 n0 Z0 b k _ _ hTQ
  · simp at hlen <;> omega
theorem ef_ABc (m : MethodId) (a1 : Nat) : entryFrame m #[(.ref a1)] 1 = mkF m 0 #[.val (.ref a1)] [] := by first | (simp [entryFrame, mkF, argsToLocals, Value.category]; done) | rfl
set_option maxRecDepth 65536 in
set_option maxHeartbeats 40000000 in
theorem rmABc (l : Launch) (Z : State) (a0 : Array Value) (hw : ∀ d ∈ tables_1, d.before a0 Z = true) (a1 : Nat) (h0 : Heap) (n0 : Nat) (Z0 : n0 ≤ h0.size) :
    Met1 l Z ⟨"java/util/AbstractCollection", "<init>", "()V"⟩ jdk_22_method_1_code 1 none ({ frames := 1, cells := 0, slots := 0, locals := 12 } : Room) #[(.ref a1)] h0 n0 (fun v h => v = none ∧ h0 = h) := by
  refine Met1.of_body pn_16 (fun p e s m below meth c C => ?_)
  replace C : Cx p s m meth c Z "java/util/AbstractCollection" "<init>" jdk_22_method_1_code 1 none := C
  refine Wk.cast (ef_ABc m a1) ?_
  refine w_aloadN C (q := 1) d16_0 rfl rfl rfl ?_
  refine w_initO C (q := 4) (hw _ (List.mem_of_getElem? (i := 99) rfl)) (hw _ (List.mem_of_getElem? (i := 7) rfl)) (hw _ (List.mem_of_getElem? (i := 8) rfl)) d16_1 rfl rfl (by decide) (Nat.le_of_ble_eq_true rfl) ?_
  exact w_ret0 C d16_4 (by decide) (by decide) ⟨rfl, rfl⟩
theorem ef_ABl (m : MethodId) (a1 : Nat) : entryFrame m #[(.ref a1)] 1 = mkF m 0 #[.val (.ref a1)] [] := by first | (simp [entryFrame, mkF, argsToLocals, Value.category]; done) | rfl
set_option maxRecDepth 65536 in
set_option maxHeartbeats 40000000 in
theorem rmABl (l : Launch) (Z : State) (a0 : Array Value) (hw : ∀ d ∈ tables_1, d.before a0 Z = true) (a1 : Nat) (h0 : Heap) (n0 : Nat) (Z0 : n0 ≤ h0.size) (E : Exa Z h0 a1 "java/util/ArrayList") (M : Fld Z h0 a1 "java/util/AbstractList" "modCount" "I" (.int (0 : Int32))) (D : Fld Z h0 a1 "java/util/ArrayList" "elementData" "[Ljava/lang/Object;" .null) (N : Fld Z h0 a1 "java/util/ArrayList" "size" "I" (.int (0 : Int32))) (g_a1 : n0 ≤ a1) :
    Met1 l Z ⟨"java/util/AbstractList", "<init>", "()V"⟩ jdk_39_method_1_code 1 none ({ frames := 2, cells := 0, slots := 0, locals := 24 } : Room) #[(.ref a1)] h0 n0 (fun v h => v = none ∧ Keep h0 h [a1] ∧ Exa Z h a1 "java/util/ArrayList" ∧ Fld Z h a1 "java/util/AbstractList" "modCount" "I" (.int (0 : Int32)) ∧ Fld Z h a1 "java/util/ArrayList" "elementData" "[Ljava/lang/Object;" .null ∧ Fld Z h a1 "java/util/ArrayList" "size" "I" (.int (0 : Int32))) := by
  refine Met1.of_body pn_15 (fun p e s m below meth c C => ?_)
  replace C : Cx p s m meth c Z "java/util/AbstractList" "<init>" jdk_39_method_1_code 1 none := C
  refine Wk.cast (ef_ABl m a1) ?_
  have K : Keep h0 h0 [a1] := Keep.refl _ _
  refine w_aloadN C (q := 1) d15_0 rfl rfl rfl ?_
  refine w_special C (q := 4) (y := ⟨"java/util/AbstractCollection", "<init>", "()V"⟩) (rm := ({ frames := 1, cells := 0, slots := 0, locals := 12 } : Room)) (a := a1) (argsL := []) rfl (hw _ (List.mem_of_getElem? (i := 93) rfl)) (hw _ (List.mem_of_getElem? (i := 94) rfl)) (hw _ (List.mem_of_getElem? (i := 97) rfl)) (hw _ (List.mem_of_getElem? (i := 98) rfl)) (rmABc l Z a0 hw a1 _ n0 Z0) (by decide) (rest := []) (lenOf pd_7 rfl) rfl d15_1 rfl rfl (by decide) (Nat.le_of_ble_eq_true rfl) (by decide) (by decide) ?_
  intro v h68 hQ
  obtain ⟨rfl, rfl⟩ := hQ
  refine Wk.v0 ?_
  refine w_aloadN C (q := 5) d15_4 rfl rfl rfl ?_
  refine w_iconst C (q := 6) (0 : Int32) d15_5 rfl (by decide) ?_
  refine w_putF C (q := 9) (host := "") (Or.inl (hw _ (List.mem_of_getElem? (i := 100) rfl))) Via.refl M E (Or.inl (hw _ (List.mem_of_getElem? (i := 101) rfl))) (hw _ (List.mem_of_getElem? (i := 82) rfl)) (ty := .int) (by decide) rfl rfl d15_6 rfl g_a1 ?_
  intro h69 Wh69
  replace E := E.wr Wh69
  replace M := M.same Wh69
  replace D := D.other Wh69 (Or.inr (slot_ne (Or.inl (hw _ (List.mem_of_getElem? (i := 104) rfl))) (Or.inl (hw _ (List.mem_of_getElem? (i := 101) rfl))) (by decide) (t := (.array (.object "java/lang/Object"))) (t' := .int) (by decide) (by decide)))
  replace N := N.other Wh69 (Or.inr (slot_ne (Or.inl (hw _ (List.mem_of_getElem? (i := 123) rfl))) (Or.inl (hw _ (List.mem_of_getElem? (i := 101) rfl))) (by decide) (t := .int) (t' := .int) (by decide) (by decide)))
  replace Z0 := Nat.le_trans Z0 (Nat.le_of_eq (Wr.size Wh69).symm)
  replace K := K.wr Wh69 (Or.inl (List.mem_of_getElem? (i := 0) rfl))
  exact w_ret0 C d15_9 (by decide) (by decide) ⟨rfl, K, E, M, D, N⟩
theorem ef_ALi0 (m : MethodId) (a1 : Nat) : entryFrame m #[(.ref a1), (.int (0 : Int32))] 2 = mkF m 0 #[.val (.ref a1), .val (.int (0 : Int32))] [] := by first | (simp [entryFrame, mkF, argsToLocals, Value.category]; done) | rfl
set_option maxRecDepth 65536 in
set_option maxHeartbeats 40000000 in
theorem rmALi0 (l : Launch) (Z : State) (a0 : Array Value) (hw : ∀ d ∈ tables_1, d.before a0 Z = true) (a1 : Nat) (h0 : Heap) (n0 : Nat) (Z0 : n0 ≤ h0.size) (E : Exa Z h0 a1 "java/util/ArrayList") (M : Fld Z h0 a1 "java/util/AbstractList" "modCount" "I" (.int (0 : Int32))) (D : Fld Z h0 a1 "java/util/ArrayList" "elementData" "[Ljava/lang/Object;" .null) (N : Fld Z h0 a1 "java/util/ArrayList" "size" "I" (.int (0 : Int32))) (g_a1 : n0 ≤ a1) (e0 : Addr) (OL : Old Z n0 h0) (S0 : Sta Z Z.heap "java/util/ArrayList" "EMPTY_ELEMENTDATA" "[Ljava/lang/Object;" (.ref e0)) :
    Met1 l Z ⟨"java/util/ArrayList", "<init>", "(I)V"⟩ jdk_38_method_1_code 2 none ({ frames := 3, cells := 1, slots := 3, locals := 36 } : Room) #[(.ref a1), (.int (0 : Int32))] h0 n0 (fun v h => v = none ∧ Keep h0 h [a1] ∧ ∃ ea, Exa Z h a1 "java/util/ArrayList" ∧ Fld Z h a1 "java/util/AbstractList" "modCount" "I" (.int (0 : Int32)) ∧ Fld Z h a1 "java/util/ArrayList" "elementData" "[Ljava/lang/Object;" (.ref ea) ∧ Fld Z h a1 "java/util/ArrayList" "size" "I" (.int (0 : Int32))) := by
  refine Met1.of_body pn_14 (fun p e s m below meth c C => ?_)
  replace C : Cx p s m meth c Z "java/util/ArrayList" "<init>" jdk_38_method_1_code 2 none := C
  refine Wk.cast (ef_ALi0 m a1) ?_
  have K : Keep h0 h0 [a1] := Keep.refl _ _
  refine w_aloadN C (q := 1) d14_0 rfl rfl rfl ?_
  refine w_special C (q := 4) (y := ⟨"java/util/AbstractList", "<init>", "()V"⟩) (rm := ({ frames := 2, cells := 0, slots := 0, locals := 24 } : Room)) (a := a1) (argsL := []) rfl (hw _ (List.mem_of_getElem? (i := 87) rfl)) (hw _ (List.mem_of_getElem? (i := 88) rfl)) (hw _ (List.mem_of_getElem? (i := 91) rfl)) (hw _ (List.mem_of_getElem? (i := 92) rfl)) (rmABl l Z a0 hw a1 _ n0 Z0 E M D N g_a1) (by decide) (rest := []) (lenOf pd_7 rfl) rfl d14_1 rfl rfl (by decide) (Nat.le_of_ble_eq_true rfl) (by decide) (by decide) ?_
  intro v h70 hQ
  obtain ⟨rfl, K1, E', M', D', N'⟩ := hQ
  replace K := K.trans K1 (allS (Or.inl (List.mem_of_getElem? (i := 0) rfl)) all0)
  replace Z0 := Nat.le_trans Z0 K1.1
  refine Wk.v0 ?_
  refine w_iloadN C (q := 5) d14_4 rfl rfl ?_
  refine w_ifle_t C (q := 19) d14_5 (by decide) (by decide) (by decide) ?_
  refine w_iloadN C (q := 20) d14_19 rfl rfl ?_
  refine w_ifne_f C (q := 23) d14_20 rfl (by decide) ?_
  refine w_aloadN C (q := 24) d14_23 rfl rfl rfl ?_
  refine w_getS C (q := 27) (host := "") (Or.inl (hw _ (List.mem_of_getElem? (i := 102) rfl))) Via.refl (Sta.ext (OL.keep K1 (allS g_a1 all0)).2 S0) d14_24 rfl ?_
  refine w_putF C (q := 30) (host := "") (Or.inl (hw _ (List.mem_of_getElem? (i := 103) rfl))) Via.refl D' E' (Or.inl (hw _ (List.mem_of_getElem? (i := 104) rfl))) (hw _ (List.mem_of_getElem? (i := 82) rfl)) (ty := (.array (.object "java/lang/Object"))) (by decide) rfl rfl d14_27 rfl g_a1 ?_
  intro h71 Wh71
  replace E' := E'.wr Wh71
  replace M' := M'.other Wh71 (Or.inr (slot_ne (Or.inl (hw _ (List.mem_of_getElem? (i := 101) rfl))) (Or.inl (hw _ (List.mem_of_getElem? (i := 104) rfl))) (by decide) (t := .int) (t' := (.array (.object "java/lang/Object"))) (by decide) (by decide)))
  replace D' := D'.same Wh71
  replace N' := N'.other Wh71 (Or.inr (slot_ne (Or.inl (hw _ (List.mem_of_getElem? (i := 123) rfl))) (Or.inl (hw _ (List.mem_of_getElem? (i := 104) rfl))) (by decide) (t := .int) (t' := (.array (.object "java/lang/Object"))) (by decide) (by decide)))
  replace Z0 := Nat.le_trans Z0 (Nat.le_of_eq (Wr.size Wh71).symm)
  replace K := K.wr Wh71 (Or.inl (List.mem_of_getElem? (i := 0) rfl))
  refine w_goto C (q := 60) d14_30 (by decide) (by decide) ?_
  exact w_ret0 C d14_60 (by decide) (by decide) ⟨rfl, K, e0, E', M', D', N'⟩
theorem ef_ALi1 (m : MethodId) (a1 : Nat) : entryFrame m #[(.ref a1), (.int (1 : Int32))] 2 = mkF m 0 #[.val (.ref a1), .val (.int (1 : Int32))] [] := by first | (simp [entryFrame, mkF, argsToLocals, Value.category]; done) | rfl
set_option maxRecDepth 65536 in
set_option maxHeartbeats 40000000 in
theorem rmALi1 (l : Launch) (Z : State) (a0 : Array Value) (hw : ∀ d ∈ tables_1, d.before a0 Z = true) (a1 : Nat) (h0 : Heap) (n0 : Nat) (Z0 : n0 ≤ h0.size) (E : Exa Z h0 a1 "java/util/ArrayList") (M : Fld Z h0 a1 "java/util/AbstractList" "modCount" "I" (.int (0 : Int32))) (D : Fld Z h0 a1 "java/util/ArrayList" "elementData" "[Ljava/lang/Object;" .null) (N : Fld Z h0 a1 "java/util/ArrayList" "size" "I" (.int (0 : Int32))) (g_a1 : n0 ≤ a1) :
    Met1 l Z ⟨"java/util/ArrayList", "<init>", "(I)V"⟩ jdk_38_method_1_code 2 none ({ frames := 3, cells := 1, slots := 3, locals := 36 } : Room) #[(.ref a1), (.int (1 : Int32))] h0 n0 (fun v h => v = none ∧ Keep h0 h [a1] ∧ ∃ ea ke, h0.size ≤ ea ∧ n0 ≤ ea ∧ Ars Z h ea ke (.object "java/lang/Object") [.null] ∧ Exa Z h a1 "java/util/ArrayList" ∧ Fld Z h a1 "java/util/AbstractList" "modCount" "I" (.int (0 : Int32)) ∧ Fld Z h a1 "java/util/ArrayList" "elementData" "[Ljava/lang/Object;" (.ref ea) ∧ Fld Z h a1 "java/util/ArrayList" "size" "I" (.int (0 : Int32))) := by
  refine Met1.of_body pn_14 (fun p e s m below meth c C => ?_)
  replace C : Cx p s m meth c Z "java/util/ArrayList" "<init>" jdk_38_method_1_code 2 none := C
  refine Wk.cast (ef_ALi1 m a1) ?_
  have K : Keep h0 h0 [a1] := Keep.refl _ _
  refine w_aloadN C (q := 1) d14_0 rfl rfl rfl ?_
  refine w_special C (q := 4) (y := ⟨"java/util/AbstractList", "<init>", "()V"⟩) (rm := ({ frames := 2, cells := 0, slots := 0, locals := 24 } : Room)) (a := a1) (argsL := []) rfl (hw _ (List.mem_of_getElem? (i := 87) rfl)) (hw _ (List.mem_of_getElem? (i := 88) rfl)) (hw _ (List.mem_of_getElem? (i := 91) rfl)) (hw _ (List.mem_of_getElem? (i := 92) rfl)) (rmABl l Z a0 hw a1 _ n0 Z0 E M D N g_a1) (by decide) (rest := []) (lenOf pd_7 rfl) rfl d14_1 rfl rfl (by decide) (Nat.le_of_ble_eq_true rfl) (by decide) (by decide) ?_
  intro v h72 hQ
  obtain ⟨rfl, K1, E', M', D', N'⟩ := hQ
  replace K := K.trans K1 (allS (Or.inl (List.mem_of_getElem? (i := 0) rfl)) all0)
  replace Z0 := Nat.le_trans Z0 K1.1
  refine Wk.v0 ?_
  refine w_iloadN C (q := 5) d14_4 rfl rfl ?_
  refine w_ifle_f C (q := 8) d14_5 rfl (by decide) ?_
  refine w_aloadN C (q := 9) d14_8 rfl rfl rfl ?_
  refine w_iloadN C (q := 10) d14_9 rfl rfl ?_
  refine w_newR C (q := 13) (hw _ (List.mem_of_getElem? (i := 112) rfl)) (hw _ (List.mem_of_getElem? (i := 113) rfl)) d14_10 rfl (by decide) 1 (by decide) (by decide) (by decide) (by decide) ?_
  intro h73 ea k_ea eq_ea Ehh73 A_ea O_ea
  replace A_ea : Ars Z h73 ea k_ea (.object "java/lang/Object") [.null] := A_ea
  have lt_a1_ea : (a1 : Nat) < (ea : Nat) := Nat.lt_of_lt_of_le E'.lt (Nat.le_of_eq eq_ea.symm)
  have g_ea : n0 ≤ ea := Nat.le_trans Z0 (Nat.le_of_eq eq_ea.symm)
  have sz_ea : h0.size ≤ ea := Nat.le_trans K.1 (Nat.le_of_eq eq_ea.symm)
  replace Z0 := Nat.le_trans Z0 Ehh73.1
  replace E' := E'.ext Ehh73
  replace M' := M'.ext Ehh73
  replace D' := D'.ext Ehh73
  replace N' := N'.ext Ehh73
  replace K := K.ext Ehh73
  refine w_putF C (q := 16) (host := "") (Or.inl (hw _ (List.mem_of_getElem? (i := 103) rfl))) Via.refl D' E' (Or.inl (hw _ (List.mem_of_getElem? (i := 104) rfl))) (hw _ (List.mem_of_getElem? (i := 82) rfl)) (ty := (.array (.object "java/lang/Object"))) (by decide) rfl rfl d14_13 rfl g_a1 ?_
  intro h74 Wh74
  replace E' := E'.wr Wh74
  replace M' := M'.other Wh74 (Or.inr (slot_ne (Or.inl (hw _ (List.mem_of_getElem? (i := 101) rfl))) (Or.inl (hw _ (List.mem_of_getElem? (i := 104) rfl))) (by decide) (t := .int) (t' := (.array (.object "java/lang/Object"))) (by decide) (by decide)))
  replace D' := D'.same Wh74
  replace N' := N'.other Wh74 (Or.inr (slot_ne (Or.inl (hw _ (List.mem_of_getElem? (i := 123) rfl))) (Or.inl (hw _ (List.mem_of_getElem? (i := 104) rfl))) (by decide) (t := .int) (t' := (.array (.object "java/lang/Object"))) (by decide) (by decide)))
  replace A_ea := A_ea.other Wh74 (Ne.symm (Nat.ne_of_lt lt_a1_ea))
  replace Z0 := Nat.le_trans Z0 (Nat.le_of_eq (Wr.size Wh74).symm)
  replace K := K.wr Wh74 (Or.inl (List.mem_of_getElem? (i := 0) rfl))
  refine w_goto C (q := 60) d14_16 (by decide) (by decide) ?_
  exact w_ret0 C d14_60 (by decide) (by decide) ⟨rfl, K, ea, k_ea, sz_ea, g_ea, A_ea, E', M', D', N'⟩
theorem ef_ALi2 (m : MethodId) (a1 : Nat) : entryFrame m #[(.ref a1), (.int (2 : Int32))] 2 = mkF m 0 #[.val (.ref a1), .val (.int (2 : Int32))] [] := by first | (simp [entryFrame, mkF, argsToLocals, Value.category]; done) | rfl
set_option maxRecDepth 65536 in
set_option maxHeartbeats 40000000 in
theorem rmALi2 (l : Launch) (Z : State) (a0 : Array Value) (hw : ∀ d ∈ tables_1, d.before a0 Z = true) (a1 : Nat) (h0 : Heap) (n0 : Nat) (Z0 : n0 ≤ h0.size) (E : Exa Z h0 a1 "java/util/ArrayList") (M : Fld Z h0 a1 "java/util/AbstractList" "modCount" "I" (.int (0 : Int32))) (D : Fld Z h0 a1 "java/util/ArrayList" "elementData" "[Ljava/lang/Object;" .null) (N : Fld Z h0 a1 "java/util/ArrayList" "size" "I" (.int (0 : Int32))) (g_a1 : n0 ≤ a1) :
    Met1 l Z ⟨"java/util/ArrayList", "<init>", "(I)V"⟩ jdk_38_method_1_code 2 none ({ frames := 3, cells := 1, slots := 3, locals := 36 } : Room) #[(.ref a1), (.int (2 : Int32))] h0 n0 (fun v h => v = none ∧ Keep h0 h [a1] ∧ ∃ ea ke, h0.size ≤ ea ∧ n0 ≤ ea ∧ Ars Z h ea ke (.object "java/lang/Object") [.null, .null] ∧ Exa Z h a1 "java/util/ArrayList" ∧ Fld Z h a1 "java/util/AbstractList" "modCount" "I" (.int (0 : Int32)) ∧ Fld Z h a1 "java/util/ArrayList" "elementData" "[Ljava/lang/Object;" (.ref ea) ∧ Fld Z h a1 "java/util/ArrayList" "size" "I" (.int (0 : Int32))) := by
  refine Met1.of_body pn_14 (fun p e s m below meth c C => ?_)
  replace C : Cx p s m meth c Z "java/util/ArrayList" "<init>" jdk_38_method_1_code 2 none := C
  refine Wk.cast (ef_ALi2 m a1) ?_
  have K : Keep h0 h0 [a1] := Keep.refl _ _
  refine w_aloadN C (q := 1) d14_0 rfl rfl rfl ?_
  refine w_special C (q := 4) (y := ⟨"java/util/AbstractList", "<init>", "()V"⟩) (rm := ({ frames := 2, cells := 0, slots := 0, locals := 24 } : Room)) (a := a1) (argsL := []) rfl (hw _ (List.mem_of_getElem? (i := 87) rfl)) (hw _ (List.mem_of_getElem? (i := 88) rfl)) (hw _ (List.mem_of_getElem? (i := 91) rfl)) (hw _ (List.mem_of_getElem? (i := 92) rfl)) (rmABl l Z a0 hw a1 _ n0 Z0 E M D N g_a1) (by decide) (rest := []) (lenOf pd_7 rfl) rfl d14_1 rfl rfl (by decide) (Nat.le_of_ble_eq_true rfl) (by decide) (by decide) ?_
  intro v h75 hQ
  obtain ⟨rfl, K1, E', M', D', N'⟩ := hQ
  replace K := K.trans K1 (allS (Or.inl (List.mem_of_getElem? (i := 0) rfl)) all0)
  replace Z0 := Nat.le_trans Z0 K1.1
  refine Wk.v0 ?_
  refine w_iloadN C (q := 5) d14_4 rfl rfl ?_
  refine w_ifle_f C (q := 8) d14_5 rfl (by decide) ?_
  refine w_aloadN C (q := 9) d14_8 rfl rfl rfl ?_
  refine w_iloadN C (q := 10) d14_9 rfl rfl ?_
  refine w_newR C (q := 13) (hw _ (List.mem_of_getElem? (i := 112) rfl)) (hw _ (List.mem_of_getElem? (i := 113) rfl)) d14_10 rfl (by decide) 2 (by decide) (by decide) (by decide) (by decide) ?_
  intro h76 ea k_ea eq_ea Ehh76 A_ea O_ea
  replace A_ea : Ars Z h76 ea k_ea (.object "java/lang/Object") [.null, .null] := A_ea
  have lt_a1_ea : (a1 : Nat) < (ea : Nat) := Nat.lt_of_lt_of_le E'.lt (Nat.le_of_eq eq_ea.symm)
  have g_ea : n0 ≤ ea := Nat.le_trans Z0 (Nat.le_of_eq eq_ea.symm)
  have sz_ea : h0.size ≤ ea := Nat.le_trans K.1 (Nat.le_of_eq eq_ea.symm)
  replace Z0 := Nat.le_trans Z0 Ehh76.1
  replace E' := E'.ext Ehh76
  replace M' := M'.ext Ehh76
  replace D' := D'.ext Ehh76
  replace N' := N'.ext Ehh76
  replace K := K.ext Ehh76
  refine w_putF C (q := 16) (host := "") (Or.inl (hw _ (List.mem_of_getElem? (i := 103) rfl))) Via.refl D' E' (Or.inl (hw _ (List.mem_of_getElem? (i := 104) rfl))) (hw _ (List.mem_of_getElem? (i := 82) rfl)) (ty := (.array (.object "java/lang/Object"))) (by decide) rfl rfl d14_13 rfl g_a1 ?_
  intro h77 Wh77
  replace E' := E'.wr Wh77
  replace M' := M'.other Wh77 (Or.inr (slot_ne (Or.inl (hw _ (List.mem_of_getElem? (i := 101) rfl))) (Or.inl (hw _ (List.mem_of_getElem? (i := 104) rfl))) (by decide) (t := .int) (t' := (.array (.object "java/lang/Object"))) (by decide) (by decide)))
  replace D' := D'.same Wh77
  replace N' := N'.other Wh77 (Or.inr (slot_ne (Or.inl (hw _ (List.mem_of_getElem? (i := 123) rfl))) (Or.inl (hw _ (List.mem_of_getElem? (i := 104) rfl))) (by decide) (t := .int) (t' := (.array (.object "java/lang/Object"))) (by decide) (by decide)))
  replace A_ea := A_ea.other Wh77 (Ne.symm (Nat.ne_of_lt lt_a1_ea))
  replace Z0 := Nat.le_trans Z0 (Nat.le_of_eq (Wr.size Wh77).symm)
  replace K := K.wr Wh77 (Or.inl (List.mem_of_getElem? (i := 0) rfl))
  refine w_goto C (q := 60) d14_16 (by decide) (by decide) ?_
  exact w_ret0 C d14_60 (by decide) (by decide) ⟨rfl, K, ea, k_ea, sz_ea, g_ea, A_ea, E', M', D', N'⟩
theorem ef_ALi3 (m : MethodId) (a1 : Nat) : entryFrame m #[(.ref a1), (.int (3 : Int32))] 2 = mkF m 0 #[.val (.ref a1), .val (.int (3 : Int32))] [] := by first | (simp [entryFrame, mkF, argsToLocals, Value.category]; done) | rfl
set_option maxRecDepth 65536 in
set_option maxHeartbeats 40000000 in
theorem rmALi3 (l : Launch) (Z : State) (a0 : Array Value) (hw : ∀ d ∈ tables_1, d.before a0 Z = true) (a1 : Nat) (h0 : Heap) (n0 : Nat) (Z0 : n0 ≤ h0.size) (E : Exa Z h0 a1 "java/util/ArrayList") (M : Fld Z h0 a1 "java/util/AbstractList" "modCount" "I" (.int (0 : Int32))) (D : Fld Z h0 a1 "java/util/ArrayList" "elementData" "[Ljava/lang/Object;" .null) (N : Fld Z h0 a1 "java/util/ArrayList" "size" "I" (.int (0 : Int32))) (g_a1 : n0 ≤ a1) :
    Met1 l Z ⟨"java/util/ArrayList", "<init>", "(I)V"⟩ jdk_38_method_1_code 2 none ({ frames := 3, cells := 1, slots := 3, locals := 36 } : Room) #[(.ref a1), (.int (3 : Int32))] h0 n0 (fun v h => v = none ∧ Keep h0 h [a1] ∧ ∃ ea ke, h0.size ≤ ea ∧ n0 ≤ ea ∧ Ars Z h ea ke (.object "java/lang/Object") [.null, .null, .null] ∧ Exa Z h a1 "java/util/ArrayList" ∧ Fld Z h a1 "java/util/AbstractList" "modCount" "I" (.int (0 : Int32)) ∧ Fld Z h a1 "java/util/ArrayList" "elementData" "[Ljava/lang/Object;" (.ref ea) ∧ Fld Z h a1 "java/util/ArrayList" "size" "I" (.int (0 : Int32))) := by
  refine Met1.of_body pn_14 (fun p e s m below meth c C => ?_)
  replace C : Cx p s m meth c Z "java/util/ArrayList" "<init>" jdk_38_method_1_code 2 none := C
  refine Wk.cast (ef_ALi3 m a1) ?_
  have K : Keep h0 h0 [a1] := Keep.refl _ _
  refine w_aloadN C (q := 1) d14_0 rfl rfl rfl ?_
  refine w_special C (q := 4) (y := ⟨"java/util/AbstractList", "<init>", "()V"⟩) (rm := ({ frames := 2, cells := 0, slots := 0, locals := 24 } : Room)) (a := a1) (argsL := []) rfl (hw _ (List.mem_of_getElem? (i := 87) rfl)) (hw _ (List.mem_of_getElem? (i := 88) rfl)) (hw _ (List.mem_of_getElem? (i := 91) rfl)) (hw _ (List.mem_of_getElem? (i := 92) rfl)) (rmABl l Z a0 hw a1 _ n0 Z0 E M D N g_a1) (by decide) (rest := []) (lenOf pd_7 rfl) rfl d14_1 rfl rfl (by decide) (Nat.le_of_ble_eq_true rfl) (by decide) (by decide) ?_
  intro v h78 hQ
  obtain ⟨rfl, K1, E', M', D', N'⟩ := hQ
  replace K := K.trans K1 (allS (Or.inl (List.mem_of_getElem? (i := 0) rfl)) all0)
  replace Z0 := Nat.le_trans Z0 K1.1
  refine Wk.v0 ?_
  refine w_iloadN C (q := 5) d14_4 rfl rfl ?_
  refine w_ifle_f C (q := 8) d14_5 rfl (by decide) ?_
  refine w_aloadN C (q := 9) d14_8 rfl rfl rfl ?_
  refine w_iloadN C (q := 10) d14_9 rfl rfl ?_
  refine w_newR C (q := 13) (hw _ (List.mem_of_getElem? (i := 112) rfl)) (hw _ (List.mem_of_getElem? (i := 113) rfl)) d14_10 rfl (by decide) 3 (by decide) (by decide) (by decide) (by decide) ?_
  intro h79 ea k_ea eq_ea Ehh79 A_ea O_ea
  replace A_ea : Ars Z h79 ea k_ea (.object "java/lang/Object") [.null, .null, .null] := A_ea
  have lt_a1_ea : (a1 : Nat) < (ea : Nat) := Nat.lt_of_lt_of_le E'.lt (Nat.le_of_eq eq_ea.symm)
  have g_ea : n0 ≤ ea := Nat.le_trans Z0 (Nat.le_of_eq eq_ea.symm)
  have sz_ea : h0.size ≤ ea := Nat.le_trans K.1 (Nat.le_of_eq eq_ea.symm)
  replace Z0 := Nat.le_trans Z0 Ehh79.1
  replace E' := E'.ext Ehh79
  replace M' := M'.ext Ehh79
  replace D' := D'.ext Ehh79
  replace N' := N'.ext Ehh79
  replace K := K.ext Ehh79
  refine w_putF C (q := 16) (host := "") (Or.inl (hw _ (List.mem_of_getElem? (i := 103) rfl))) Via.refl D' E' (Or.inl (hw _ (List.mem_of_getElem? (i := 104) rfl))) (hw _ (List.mem_of_getElem? (i := 82) rfl)) (ty := (.array (.object "java/lang/Object"))) (by decide) rfl rfl d14_13 rfl g_a1 ?_
  intro h80 Wh80
  replace E' := E'.wr Wh80
  replace M' := M'.other Wh80 (Or.inr (slot_ne (Or.inl (hw _ (List.mem_of_getElem? (i := 101) rfl))) (Or.inl (hw _ (List.mem_of_getElem? (i := 104) rfl))) (by decide) (t := .int) (t' := (.array (.object "java/lang/Object"))) (by decide) (by decide)))
  replace D' := D'.same Wh80
  replace N' := N'.other Wh80 (Or.inr (slot_ne (Or.inl (hw _ (List.mem_of_getElem? (i := 123) rfl))) (Or.inl (hw _ (List.mem_of_getElem? (i := 104) rfl))) (by decide) (t := .int) (t' := (.array (.object "java/lang/Object"))) (by decide) (by decide)))
  replace A_ea := A_ea.other Wh80 (Ne.symm (Nat.ne_of_lt lt_a1_ea))
  replace Z0 := Nat.le_trans Z0 (Nat.le_of_eq (Wr.size Wh80).symm)
  replace K := K.wr Wh80 (Or.inl (List.mem_of_getElem? (i := 0) rfl))
  refine w_goto C (q := 60) d14_16 (by decide) (by decide) ?_
  exact w_ret0 C d14_60 (by decide) (by decide) ⟨rfl, K, ea, k_ea, sz_ea, g_ea, A_ea, E', M', D', N'⟩
theorem ef_A3 (m : MethodId) (a1 : Nat) (ea : Nat) (x0 : Int32) : entryFrame m #[(.ref a1), .null, (.ref ea), (.int x0)] 4 = mkF m 0 #[.val (.ref a1), .val .null, .val (.ref ea), .val (.int x0)] [] := by first | (simp [entryFrame, mkF, argsToLocals, Value.category]; done) | rfl
set_option maxRecDepth 65536 in
set_option maxHeartbeats 40000000 in
theorem rmA3 (l : Launch) (Z : State) (a0 : Array Value) (hw : ∀ d ∈ tables_1, d.before a0 Z = true) (a1 : Nat) (ea : Nat) (x0 : Int32) (h0 : Heap) (n0 : Nat) (Z0 : n0 ≤ h0.size) (ke : ClassId) (vs : List Value) (mc : Int32) (A : Ars Z h0 ea ke (.object "java/lang/Object") vs) (hs0 : ¬ x0 < 0) (hs1 : x0.toNatClampNeg < vs.length) (hs2 : ¬ x0 = vs.length.toInt32) (ne1 : a1 ≠ ea) (g_a1 : n0 ≤ a1) (g_ea : n0 ≤ ea) (E : Exa Z h0 a1 "java/util/ArrayList") (M : Fld Z h0 a1 "java/util/AbstractList" "modCount" "I" (.int mc)) (D : Fld Z h0 a1 "java/util/ArrayList" "elementData" "[Ljava/lang/Object;" (.ref ea)) (N : Fld Z h0 a1 "java/util/ArrayList" "size" "I" (.int x0)) :
    Met1 l Z ⟨"java/util/ArrayList", "add", "(Ljava/lang/Object;[Ljava/lang/Object;I)V"⟩ jdk_38_method_24_code 4 none ({ frames := 0, cells := 0, slots := 0, locals := 0 } : Room) #[(.ref a1), .null, (.ref ea), (.int x0)] h0 n0 (fun v h => v = none ∧ Keep h0 h [ea, a1] ∧ Ars Z h ea ke (.object "java/lang/Object") (vs.set x0.toNatClampNeg .null) ∧ Exa Z h a1 "java/util/ArrayList" ∧ Fld Z h a1 "java/util/AbstractList" "modCount" "I" (.int mc) ∧ Fld Z h a1 "java/util/ArrayList" "elementData" "[Ljava/lang/Object;" (.ref ea) ∧ Fld Z h a1 "java/util/ArrayList" "size" "I" (.int (x0 + (1 : Int32)))) := by
  refine Met1.of_body pn_20 (fun p e s m below meth c C => ?_)
  replace C : Cx p s m meth c Z "java/util/ArrayList" "add" jdk_38_method_24_code 4 none := C
  refine Wk.cast (ef_A3 m a1 ea x0) ?_
  have K : Keep h0 h0 [ea, a1] := Keep.refl _ _
  refine w_iloadN C (q := 1) d20_0 rfl rfl ?_
  refine w_aloadN C (q := 2) d20_1 rfl rfl rfl ?_
  refine w_arraylength C (q := 3) A _ rfl d20_2 rfl ?_
  refine w_icne_t C (q := 11) d20_3 (by decide) (by decide) hs2 ?_
  refine w_aloadN C (q := 12) d20_11 rfl rfl rfl ?_
  refine w_iloadN C (q := 13) d20_12 rfl rfl ?_
  refine w_aloadN C (q := 14) d20_13 rfl rfl rfl ?_
  refine w_aastore C (q := 15) A rfl (Or.inl rfl) hs0 hs1 d20_14 rfl g_ea ?_
  intro h81 Wh81 A'
  replace A := A'
  replace E := E.wr Wh81
  replace M := M.other Wh81 (Or.inl ne1)
  replace D := D.other Wh81 (Or.inl ne1)
  replace N := N.other Wh81 (Or.inl ne1)
  replace Z0 := Nat.le_trans Z0 (Nat.le_of_eq (Wr.size Wh81).symm)
  replace K := K.wr Wh81 (Or.inl (List.mem_of_getElem? (i := 0) rfl))
  refine w_aloadN C (q := 16) d20_15 rfl rfl rfl ?_
  refine w_iloadN C (q := 17) d20_16 rfl rfl ?_
  refine w_iconst C (q := 18) (1 : Int32) d20_17 rfl (by decide) ?_
  refine w_iadd C (q := 19) d20_18 rfl ?_
  refine w_putF C (q := 22) (host := "") (Or.inl (hw _ (List.mem_of_getElem? (i := 122) rfl))) Via.refl N E (Or.inl (hw _ (List.mem_of_getElem? (i := 123) rfl))) (hw _ (List.mem_of_getElem? (i := 82) rfl)) (ty := .int) (by decide) rfl rfl d20_19 rfl g_a1 ?_
  intro h82 Wh82
  replace E := E.wr Wh82
  replace M := M.other Wh82 (Or.inr (slot_ne (Or.inl (hw _ (List.mem_of_getElem? (i := 101) rfl))) (Or.inl (hw _ (List.mem_of_getElem? (i := 123) rfl))) (by decide) (t := .int) (t' := .int) (by decide) (by decide)))
  replace D := D.other Wh82 (Or.inr (slot_ne (Or.inl (hw _ (List.mem_of_getElem? (i := 104) rfl))) (Or.inl (hw _ (List.mem_of_getElem? (i := 123) rfl))) (by decide) (t := (.array (.object "java/lang/Object"))) (t' := .int) (by decide) (by decide)))
  replace N := N.same Wh82
  replace A := A.other Wh82 (Ne.symm ne1)
  replace Z0 := Nat.le_trans Z0 (Nat.le_of_eq (Wr.size Wh82).symm)
  replace K := K.wr Wh82 (Or.inl (List.mem_of_getElem? (i := 1) rfl))
  exact w_ret0 C d20_22 (by decide) (by decide) ⟨rfl, K, A, E, M, D, N⟩
theorem ef_A1 (m : MethodId) (a1 : Nat) : entryFrame m #[(.ref a1), .null] 2 = mkF m 0 #[.val (.ref a1), .val .null] [] := by first | (simp [entryFrame, mkF, argsToLocals, Value.category]; done) | rfl
set_option maxRecDepth 65536 in
set_option maxHeartbeats 40000000 in
theorem rmA1 (l : Launch) (Z : State) (a0 : Array Value) (hw : ∀ d ∈ tables_1, d.before a0 Z = true) (a1 : Nat) (h0 : Heap) (n0 : Nat) (Z0 : n0 ≤ h0.size) (x0 : Int32) (ea : Addr) (ke : ClassId) (vs : List Value) (mc : Int32) (A : Ars Z h0 ea ke (.object "java/lang/Object") vs) (hs0 : ¬ x0 < 0) (hs1 : x0.toNatClampNeg < vs.length) (hs2 : ¬ x0 = vs.length.toInt32) (ne1 : a1 ≠ ea) (g_a1 : n0 ≤ a1) (g_ea : n0 ≤ ea) (E : Exa Z h0 a1 "java/util/ArrayList") (M : Fld Z h0 a1 "java/util/AbstractList" "modCount" "I" (.int mc)) (D : Fld Z h0 a1 "java/util/ArrayList" "elementData" "[Ljava/lang/Object;" (.ref ea)) (N : Fld Z h0 a1 "java/util/ArrayList" "size" "I" (.int x0)) :
    Met1 l Z ⟨"java/util/ArrayList", "add", "(Ljava/lang/Object;)Z"⟩ jdk_38_method_25_code 2 (some .boolean) ({ frames := 1, cells := 0, slots := 0, locals := 16 } : Room) #[(.ref a1), .null] h0 n0 (fun v h => v = some (.int 1) ∧ Keep h0 h [ea, a1] ∧ Ars Z h ea ke (.object "java/lang/Object") (vs.set x0.toNatClampNeg .null) ∧ Exa Z h a1 "java/util/ArrayList" ∧ (∃ mc, Fld Z h a1 "java/util/AbstractList" "modCount" "I" (.int mc)) ∧ Fld Z h a1 "java/util/ArrayList" "elementData" "[Ljava/lang/Object;" (.ref ea) ∧ Fld Z h a1 "java/util/ArrayList" "size" "I" (.int (x0 + (1 : Int32)))) := by
  refine Met1.of_body pn_19 (fun p e s m below meth c C => ?_)
  replace C : Cx p s m meth c Z "java/util/ArrayList" "add" jdk_38_method_25_code 2 (some .boolean) := C
  refine Wk.cast (ef_A1 m a1) ?_
  have K : Keep h0 h0 [ea, a1] := Keep.refl _ _
  refine w_aloadN C (q := 1) d19_0 rfl rfl rfl ?_
  refine w_dup C (q := 2) d19_1 rfl rfl ?_
  refine w_getF C (q := 5) (host := "") (Or.inl (hw _ (List.mem_of_getElem? (i := 120) rfl))) (Via.of (hw _ (List.mem_of_getElem? (i := 121) rfl))) M d19_2 rfl ?_
  refine w_iconst C (q := 6) (1 : Int32) d19_5 rfl (by decide) ?_
  refine w_iadd C (q := 7) d19_6 rfl ?_
  refine w_putF C (q := 10) (host := "") (Or.inl (hw _ (List.mem_of_getElem? (i := 120) rfl))) (Via.of (hw _ (List.mem_of_getElem? (i := 121) rfl))) M E (Or.inl (hw _ (List.mem_of_getElem? (i := 101) rfl))) (hw _ (List.mem_of_getElem? (i := 82) rfl)) (ty := .int) (by decide) rfl rfl d19_7 rfl g_a1 ?_
  intro h83 Wh83
  replace E := E.wr Wh83
  replace M := M.same Wh83
  replace D := D.other Wh83 (Or.inr (slot_ne (Or.inl (hw _ (List.mem_of_getElem? (i := 104) rfl))) (Or.inl (hw _ (List.mem_of_getElem? (i := 101) rfl))) (by decide) (t := (.array (.object "java/lang/Object"))) (t' := .int) (by decide) (by decide)))
  replace N := N.other Wh83 (Or.inr (slot_ne (Or.inl (hw _ (List.mem_of_getElem? (i := 123) rfl))) (Or.inl (hw _ (List.mem_of_getElem? (i := 101) rfl))) (by decide) (t := .int) (t' := .int) (by decide) (by decide)))
  replace A := A.other Wh83 (Ne.symm ne1)
  replace Z0 := Nat.le_trans Z0 (Nat.le_of_eq (Wr.size Wh83).symm)
  replace K := K.wr Wh83 (Or.inl (List.mem_of_getElem? (i := 1) rfl))
  refine w_aloadN C (q := 11) d19_10 rfl rfl rfl ?_
  refine w_aloadN C (q := 12) d19_11 rfl rfl rfl ?_
  refine w_aloadN C (q := 13) d19_12 rfl rfl rfl ?_
  refine w_getF C (q := 16) (host := "") (Or.inl (hw _ (List.mem_of_getElem? (i := 103) rfl))) Via.refl D d19_13 rfl ?_
  refine w_aloadN C (q := 17) d19_16 rfl rfl rfl ?_
  refine w_getF C (q := 20) (host := "") (Or.inl (hw _ (List.mem_of_getElem? (i := 122) rfl))) Via.refl N d19_17 rfl ?_
  refine w_private C (q := 23) (y := ⟨"java/util/ArrayList", "add", "(Ljava/lang/Object;[Ljava/lang/Object;I)V"⟩) (rm := ({ frames := 0, cells := 0, slots := 0, locals := 0 } : Room)) (a := a1) (argsL := [.null, (.ref ea), (.int x0)]) (hw _ (List.mem_of_getElem? (i := 124) rfl)) (hw _ (List.mem_of_getElem? (i := 125) rfl)) (hw _ (List.mem_of_getElem? (i := 127) rfl)) (hw _ (List.mem_of_getElem? (i := 126) rfl)) (hw _ (List.mem_of_getElem? (i := 83) rfl)) (hw _ (List.mem_of_getElem? (i := 128) rfl)) E (rmA3 l Z a0 hw a1 ea x0 _ n0 Z0 ke vs (mc + (1 : Int32)) A hs0 hs1 hs2 ne1 g_a1 g_ea E M D N) (by decide) (rest := []) (lenOf pd_8 rfl) rfl d19_20 rfl rfl (by decide) (Nat.le_of_ble_eq_true rfl) (by decide) (by decide) ?_
  intro v h84 hQ
  obtain ⟨rfl, K3, A', E', M', D', N'⟩ := hQ
  replace E := E.keep K3
  replace K := K.trans K3 (allS (Or.inl (List.mem_of_getElem? (i := 0) rfl)) (allS (Or.inl (List.mem_of_getElem? (i := 1) rfl)) all0))
  replace Z0 := Nat.le_trans Z0 K3.1
  refine Wk.v0 ?_
  refine w_iconst C (q := 24) (1 : Int32) d19_23 rfl (by decide) ?_
  exact w_retN C d19_24 (by decide) (by decide) ⟨rfl, K, A', E', ⟨_, M'⟩, D', N'⟩
theorem ef_Dr0 (m : MethodId) (q : Nat) : entryFrame m #[(.ref q)] 2 = mkF m 0 #[.val (.ref q), .unset] [] := by first | (simp [entryFrame, mkF, argsToLocals, Value.category]; done) | rfl
set_option maxRecDepth 65536 in
set_option maxHeartbeats 40000000 in
theorem rmDr0 (l : Launch) (Z : State) (a0 : Array Value) (hw : ∀ d ∈ tables_1, d.before a0 Z = true) (q : Nat) (h0 : Heap) (n0 : Nat) (Z0 : n0 ≤ h0.size) (b : Addr) (k : ClassId) (ts : List Addr) (hTQ : TQ Z n0 h0 q b k ts) (hL : ts.length = 0) (e0 : Addr) (OL : Old Z n0 h0) (S0 : Sta Z Z.heap "java/util/ArrayList" "EMPTY_ELEMENTDATA" "[Ljava/lang/Object;" (.ref e0)) :
    Met1 l Z ⟨"com/example/orderly_dispatch/orderlydispatch/TimerQueue", "drain", "()Ljava/util/List;"⟩ prog_25_method_7_code 2 (some (.object "java/util/List")) ({ frames := 5, cells := 2, slots := 6, locals := 72 } : Room) #[(.ref q)] h0 n0 (fun v h => ∃ al ts', v = some (.ref al) ∧ TQ Z n0 h q b k ts' ∧ ts'.length = 0 ∧ Keep h0 h (q :: b :: ts)) := by
  refine Met1.of_body pn_13 (fun p e s m below meth c C => ?_)
  replace C : Cx p s m meth c Z "com/example/orderly_dispatch/orderlydispatch/TimerQueue" "drain" prog_25_method_7_code 2 (some (.object "java/util/List")) := C
  refine Wk.cast (ef_Dr0 m q) ?_
  have K : Keep h0 h0 (q :: b :: ts) := Keep.refl _ _
  refine w_newO C (q := 3) (hw _ (List.mem_of_getElem? (i := 81) rfl)) (hw _ (List.mem_of_getElem? (i := 82) rfl)) (hw _ (List.mem_of_getElem? (i := 83) rfl)) d13_0 rfl (by decide) (by decide) ?_
  intro h85 al eq_al Ehh85 E_al D_al
  have g_al : n0 ≤ al := Nat.le_trans Z0 (Nat.le_of_eq eq_al.symm)
  replace Z0 := Nat.le_trans Z0 Ehh85.1
  have F_al_modCount : Fld Z h85 al "java/util/AbstractList" "modCount" "I" (.int (0 : Int32)) := D_al (Or.inl (hw _ (List.mem_of_getElem? (i := 101) rfl))) (ty := .int) (by decide)
  have F_al_elementData : Fld Z h85 al "java/util/ArrayList" "elementData" "[Ljava/lang/Object;" .null := D_al (Or.inl (hw _ (List.mem_of_getElem? (i := 104) rfl))) (ty := (.array (.object "java/lang/Object"))) (by decide)
  have F_al_size : Fld Z h85 al "java/util/ArrayList" "size" "I" (.int (0 : Int32)) := D_al (Or.inl (hw _ (List.mem_of_getElem? (i := 123) rfl))) (ty := .int) (by decide)
  clear D_al
  have hal : ∀ x ∈ q :: b :: ts, x < al := fun x hx => Nat.lt_of_lt_of_le (hTQ.lt x hx) (Nat.le_of_eq eq_al.symm)
  replace hTQ := hTQ.keep ((Keep.refl _ []).ext Ehh85) (fun x hx => nomatch hx)
  have sz_al : h0.size ≤ al := Nat.le_trans K.1 (Nat.le_of_eq eq_al.symm)
  replace K := K.ext Ehh85
  replace OL := OL.ext Ehh85
  refine w_dup C (q := 4) d13_3 rfl rfl ?_
  refine w_aloadN C (q := 5) d13_4 rfl rfl rfl ?_
  refine w_getF C (q := 8) (host := "") (Or.inl (hw _ (List.mem_of_getElem? (i := 18) rfl))) Via.refl hTQ.2.2.1 d13_5 rfl ?_
  rw [hL]
  refine w_special C (q := 11) (y := ⟨"java/util/ArrayList", "<init>", "(I)V"⟩) (rm := ({ frames := 3, cells := 1, slots := 3, locals := 36 } : Room)) (a := al) (argsL := [(.int (0 : Int32))]) rfl (hw _ (List.mem_of_getElem? (i := 84) rfl)) (hw _ (List.mem_of_getElem? (i := 85) rfl)) (hw _ (List.mem_of_getElem? (i := 83) rfl)) (hw _ (List.mem_of_getElem? (i := 86) rfl)) (rmALi0 l Z a0 hw al _ n0 Z0 E_al F_al_modCount F_al_elementData F_al_size g_al e0 OL S0) (by decide) (rest := [(.ref al)]) (lenOf pd_5 rfl) rfl d13_8 rfl rfl (by decide) (Nat.le_of_ble_eq_true rfl) (by decide) (by decide) ?_
  intro v h86 hQ
  obtain ⟨rfl, K1, ea, E, M, D, N⟩ := hQ
  replace hTQ := hTQ.keep K1 (fun x hx z => Nat.lt_irrefl _ (List.mem_singleton.mp hx ▸ hal x z))
  replace K := K.trans K1 (allS (Or.inr sz_al) all0)
  replace Z0 := Nat.le_trans Z0 K1.1
  refine Wk.v0 ?_
  refine w_astoreN C (q := 12) #[.val (.ref q), .val (.ref al)] d13_11 rfl rfl rfl ?_
  refine w_aloadN C (q := 13) d13_12 rfl rfl rfl ?_
  refine w_getF C (q := 16) (host := "") (Or.inl (hw _ (List.mem_of_getElem? (i := 18) rfl))) Via.refl hTQ.2.2.1 d13_13 rfl ?_
  rw [hL]
  refine w_ifle_t C (q := 41) d13_16 (by decide) (by decide) (by decide) ?_
  refine w_aloadN C (q := 42) d13_41 rfl rfl rfl ?_
  exact w_retA C rfl rfl d13_42 (by decide) (by decide) ⟨al, ts, rfl, hTQ, hL, K⟩
theorem ef_Dr1 (m : MethodId) (q : Nat) : entryFrame m #[(.ref q)] 2 = mkF m 0 #[.val (.ref q), .unset] [] := by first | (simp [entryFrame, mkF, argsToLocals, Value.category]; done) | rfl
set_option maxRecDepth 65536 in
set_option maxHeartbeats 40000000 in
theorem rmDr1 (l : Launch) (Z : State) (a0 : Array Value) (hw : ∀ d ∈ tables_1, d.before a0 Z = true) (q : Nat) (h0 : Heap) (n0 : Nat) (Z0 : n0 ≤ h0.size) (b : Addr) (k : ClassId) (ts : List Addr) (hTQ : TQ Z n0 h0 q b k ts) (hL : ts.length = 1) (e0 : Addr) (OL : Old Z n0 h0) (S0 : Sta Z Z.heap "java/util/ArrayList" "EMPTY_ELEMENTDATA" "[Ljava/lang/Object;" (.ref e0)) :
    Met1 l Z ⟨"com/example/orderly_dispatch/orderlydispatch/TimerQueue", "drain", "()Ljava/util/List;"⟩ prog_25_method_7_code 2 (some (.object "java/util/List")) ({ frames := 5, cells := 2, slots := 6, locals := 72 } : Room) #[(.ref q)] h0 n0 (fun v h => ∃ al ts', v = some (.ref al) ∧ TQ Z n0 h q b k ts' ∧ ts'.length = 0 ∧ Keep h0 h (q :: b :: ts)) := by
  refine Met1.of_body pn_13 (fun p e s m below meth c C => ?_)
  replace C : Cx p s m meth c Z "com/example/orderly_dispatch/orderlydispatch/TimerQueue" "drain" prog_25_method_7_code 2 (some (.object "java/util/List")) := C
  refine Wk.cast (ef_Dr1 m q) ?_
  have K : Keep h0 h0 (q :: b :: ts) := Keep.refl _ _
  refine w_newO C (q := 3) (hw _ (List.mem_of_getElem? (i := 81) rfl)) (hw _ (List.mem_of_getElem? (i := 82) rfl)) (hw _ (List.mem_of_getElem? (i := 83) rfl)) d13_0 rfl (by decide) (by decide) ?_
  intro h87 al eq_al Ehh87 E_al D_al
  have g_al : n0 ≤ al := Nat.le_trans Z0 (Nat.le_of_eq eq_al.symm)
  replace Z0 := Nat.le_trans Z0 Ehh87.1
  have F_al_modCount : Fld Z h87 al "java/util/AbstractList" "modCount" "I" (.int (0 : Int32)) := D_al (Or.inl (hw _ (List.mem_of_getElem? (i := 101) rfl))) (ty := .int) (by decide)
  have F_al_elementData : Fld Z h87 al "java/util/ArrayList" "elementData" "[Ljava/lang/Object;" .null := D_al (Or.inl (hw _ (List.mem_of_getElem? (i := 104) rfl))) (ty := (.array (.object "java/lang/Object"))) (by decide)
  have F_al_size : Fld Z h87 al "java/util/ArrayList" "size" "I" (.int (0 : Int32)) := D_al (Or.inl (hw _ (List.mem_of_getElem? (i := 123) rfl))) (ty := .int) (by decide)
  clear D_al
  have hal : ∀ x ∈ q :: b :: ts, x < al := fun x hx => Nat.lt_of_lt_of_le (hTQ.lt x hx) (Nat.le_of_eq eq_al.symm)
  replace hTQ := hTQ.keep ((Keep.refl _ []).ext Ehh87) (fun x hx => nomatch hx)
  have sz_al : h0.size ≤ al := Nat.le_trans K.1 (Nat.le_of_eq eq_al.symm)
  replace K := K.ext Ehh87
  replace OL := OL.ext Ehh87
  refine w_dup C (q := 4) d13_3 rfl rfl ?_
  refine w_aloadN C (q := 5) d13_4 rfl rfl rfl ?_
  refine w_getF C (q := 8) (host := "") (Or.inl (hw _ (List.mem_of_getElem? (i := 18) rfl))) Via.refl hTQ.2.2.1 d13_5 rfl ?_
  rw [hL]
  refine w_special C (q := 11) (y := ⟨"java/util/ArrayList", "<init>", "(I)V"⟩) (rm := ({ frames := 3, cells := 1, slots := 3, locals := 36 } : Room)) (a := al) (argsL := [(.int (1 : Int32))]) rfl (hw _ (List.mem_of_getElem? (i := 84) rfl)) (hw _ (List.mem_of_getElem? (i := 85) rfl)) (hw _ (List.mem_of_getElem? (i := 83) rfl)) (hw _ (List.mem_of_getElem? (i := 86) rfl)) (rmALi1 l Z a0 hw al _ n0 Z0 E_al F_al_modCount F_al_elementData F_al_size g_al) (by decide) (rest := [(.ref al)]) (lenOf pd_5 rfl) rfl d13_8 rfl rfl (by decide) (Nat.le_of_ble_eq_true rfl) (by decide) (by decide) ?_
  intro v h88 hQ
  obtain ⟨rfl, K1, ea, ke, hea1, g_ea, A, E, M, D, N⟩ := hQ
  have hea : ∀ x ∈ q :: b :: ts, x < ea := fun x hx => Nat.lt_of_lt_of_le (hTQ.lt x hx) hea1
  have n_al_ea : al ≠ ea := Nat.ne_of_lt (Nat.lt_of_lt_of_le E_al.lt hea1)
  have sz_ea : h0.size ≤ ea := Nat.le_trans K.1 hea1
  replace hTQ := hTQ.keep K1 (fun x hx z => Nat.lt_irrefl _ (List.mem_singleton.mp hx ▸ hal x z))
  replace K := K.trans K1 (allS (Or.inr sz_al) all0)
  replace Z0 := Nat.le_trans Z0 K1.1
  refine Wk.v0 ?_
  refine w_astoreN C (q := 12) #[.val (.ref q), .val (.ref al)] d13_11 rfl rfl rfl ?_
  refine w_aloadN C (q := 13) d13_12 rfl rfl rfl ?_
  refine w_getF C (q := 16) (host := "") (Or.inl (hw _ (List.mem_of_getElem? (i := 18) rfl))) Via.refl hTQ.2.2.1 d13_13 rfl ?_
  rw [hL]
  refine w_ifle_f C (q := 19) d13_16 rfl (by decide) ?_
  obtain ⟨u0, tl0, rfl⟩ : ∃ u tl, ts = u :: tl := by
    rcases ts with _ | ⟨u, tl⟩
    · simp at hL
    · exact ⟨u, tl, rfl⟩
  refine w_aloadN C (q := 20) d13_19 rfl rfl rfl ?_
  refine w_aloadN C (q := 21) d13_20 rfl rfl rfl ?_
  refine w_getF C (q := 24) (host := "") (Or.inl (hw _ (List.mem_of_getElem? (i := 11) rfl))) Via.refl hTQ.2.1 d13_21 rfl ?_
  refine w_iconst C (q := 25) (0 : Int32) d13_24 rfl (by decide) ?_
  refine w_aaload C (q := 26) hTQ.2.2.2.2.1 rfl (.ref u0) (by decide) rfl d13_25 rfl ?_
  have hT := hTQ.2.2.2.2.2.2.1 0 u0 rfl
  refine w_getFR C (q := 29) (hw _ (List.mem_of_getElem? (i := 114) rfl)) hT.2.2.2.2 d13_26 rfl ?_
  refine w_virtual C (q := 32) (y := ⟨"java/util/ArrayList", "add", "(Ljava/lang/Object;)Z"⟩) (z := ⟨"java/util/ArrayList", "add", "(Ljava/lang/Object;)Z"⟩) (rm := ({ frames := 1, cells := 0, slots := 0, locals := 16 } : Room)) (a := al) (argsL := [.null]) (hw _ (List.mem_of_getElem? (i := 115) rfl)) (hw _ (List.mem_of_getElem? (i := 116) rfl)) (hw _ (List.mem_of_getElem? (i := 118) rfl)) (hw _ (List.mem_of_getElem? (i := 118) rfl)) (hw _ (List.mem_of_getElem? (i := 117) rfl)) (hw _ (List.mem_of_getElem? (i := 83) rfl)) (hw _ (List.mem_of_getElem? (i := 119) rfl)) E (rmA1 l Z a0 hw al _ n0 Z0 (0 : Int32) ea ke _ (0 : Int32) A (by decide) (by simp) (by decide) n_al_ea g_al g_ea E M D N) (by decide) (rest := []) (lenOf pd_9 rfl) rfl d13_29 rfl rfl (by decide) (Nat.le_of_ble_eq_true rfl) (by decide) (by decide) ?_
  intro v h89 hQ
  obtain ⟨rfl, K2, A', E', ⟨mc0, M'⟩, D', N'⟩ := hQ
  replace A := A'
  replace E := E'
  replace M := M'
  replace D := D'
  replace N := N'
  clear A' E' M' D' N'
  replace hTQ := hTQ.keep K2 (fun x hx z => by rcases List.mem_cons.mp hx with rfl | hx; exact Nat.lt_irrefl _ (hea _ z); cases List.mem_singleton.mp hx; exact Nat.lt_irrefl _ (hal _ z))
  replace K := K.trans K2 (allS (Or.inr sz_ea) (allS (Or.inr sz_al) all0))
  replace Z0 := Nat.le_trans Z0 K2.1
  refine Wk.v1 ?_
  refine w_pop C (q := 33) d13_32 rfl rfl ?_
  refine w_aloadN C (q := 34) d13_33 rfl rfl rfl ?_
  refine w_iconst C (q := 35) (0 : Int32) d13_34 rfl (by decide) ?_
  refine w_private C (q := 38) (y := ⟨"com/example/orderly_dispatch/orderlydispatch/TimerQueue", "removeAt", "(I)V"⟩) (rm := ({ frames := 3, cells := 0, slots := 0, locals := 54 } : Room)) (a := q) (argsL := [(.int (0 : Int32))]) (hw _ (List.mem_of_getElem? (i := 72) rfl)) (hw _ (List.mem_of_getElem? (i := 73) rfl)) (sel_private (by decide) (hw _ (List.mem_of_getElem? (i := 1) rfl)) (hw _ (List.mem_of_getElem? (i := 74) rfl)) (hw _ (List.mem_of_getElem? (i := 73) rfl))) (hw _ (List.mem_of_getElem? (i := 74) rfl)) (hw _ (List.mem_of_getElem? (i := 2) rfl)) (hw _ (List.mem_of_getElem? (i := 75) rfl)) hTQ.1 (rmRA l Z a0 hw q 0 _ n0 Z0 b k (u0 :: tl0) u0 hTQ (by rw [hL]; decide) rfl) (by decide) (rest := []) (lenOf pd_5 rfl) rfl d13_35 rfl rfl (by decide) (Nat.le_of_ble_eq_true rfl) (by decide) (by decide) ?_
  intro v h90 hQ
  obtain ⟨rfl, ts0, hTQ', hR, K3⟩ := hQ
  have na : al ∉ q :: b :: (u0 :: tl0) := fun z => Nat.lt_irrefl _ (hal _ z)
  have nb : ea ∉ q :: b :: (u0 :: tl0) := fun z => Nat.lt_irrefl _ (hea _ z)
  replace A := A.keep K3 nb
  replace E := E.keep K3
  replace M := M.keep K3 na
  replace D := D.keep K3 na
  replace N := N.keep K3 na
  have sub : ∀ x ∈ q :: b :: ts0, x ∈ q :: b :: (u0 :: tl0) := fun x hx => by rcases List.mem_cons.mp hx with rfl | hx; exact List.mem_cons_self ..; rcases List.mem_cons.mp hx with rfl | hx; exact List.mem_cons_of_mem _ (List.mem_cons_self ..); exact List.mem_cons_of_mem _ (List.mem_cons_of_mem _ (hR.2.2 x hx))
  replace K := K.trans K3 (fun x hx => Or.inl hx)
  have hsub0 : ∀ x ∈ q :: b :: ts0, x ∈ q :: b :: (u0 :: tl0) := fun x hx => sub x hx
  replace hal : ∀ x ∈ q :: b :: ts0, x < al := fun x hx => hal x (sub x hx)
  replace hea : ∀ x ∈ q :: b :: ts0, x < ea := fun x hx => hea x (sub x hx)
  replace hL : ts0.length = 0 := by have := hR.1; rw [hL] at this; omega
  replace hTQ := hTQ'
  clear hTQ' sub na nb
  replace Z0 := Nat.le_trans Z0 K3.1
  have hsub := hsub0
  refine Wk.v0 ?_
  refine w_goto C (q := 12) d13_38 (by decide) (by decide) ?_
  refine w_aloadN C (q := 13) d13_12 rfl rfl rfl ?_
  refine w_getF C (q := 16) (host := "") (Or.inl (hw _ (List.mem_of_getElem? (i := 18) rfl))) Via.refl hTQ.2.2.1 d13_13 rfl ?_
  rw [hL]
  refine w_ifle_t C (q := 41) d13_16 (by decide) (by decide) (by decide) ?_
  refine w_aloadN C (q := 42) d13_41 rfl rfl rfl ?_
  exact w_retA C rfl rfl d13_42 (by decide) (by decide) ⟨al, ts0, rfl, hTQ, hL, K⟩
theorem ef_Dr2 (m : MethodId) (q : Nat) : entryFrame m #[(.ref q)] 2 = mkF m 0 #[.val (.ref q), .unset] [] := by first | (simp [entryFrame, mkF, argsToLocals, Value.category]; done) | rfl
set_option maxRecDepth 65536 in
set_option maxHeartbeats 40000000 in
theorem rmDr2 (l : Launch) (Z : State) (a0 : Array Value) (hw : ∀ d ∈ tables_1, d.before a0 Z = true) (q : Nat) (h0 : Heap) (n0 : Nat) (Z0 : n0 ≤ h0.size) (b : Addr) (k : ClassId) (ts : List Addr) (hTQ : TQ Z n0 h0 q b k ts) (hL : ts.length = 2) (e0 : Addr) (OL : Old Z n0 h0) (S0 : Sta Z Z.heap "java/util/ArrayList" "EMPTY_ELEMENTDATA" "[Ljava/lang/Object;" (.ref e0)) :
    Met1 l Z ⟨"com/example/orderly_dispatch/orderlydispatch/TimerQueue", "drain", "()Ljava/util/List;"⟩ prog_25_method_7_code 2 (some (.object "java/util/List")) ({ frames := 5, cells := 2, slots := 6, locals := 72 } : Room) #[(.ref q)] h0 n0 (fun v h => ∃ al ts', v = some (.ref al) ∧ TQ Z n0 h q b k ts' ∧ ts'.length = 0 ∧ Keep h0 h (q :: b :: ts)) := by
  refine Met1.of_body pn_13 (fun p e s m below meth c C => ?_)
  replace C : Cx p s m meth c Z "com/example/orderly_dispatch/orderlydispatch/TimerQueue" "drain" prog_25_method_7_code 2 (some (.object "java/util/List")) := C
  refine Wk.cast (ef_Dr2 m q) ?_
  have K : Keep h0 h0 (q :: b :: ts) := Keep.refl _ _
  refine w_newO C (q := 3) (hw _ (List.mem_of_getElem? (i := 81) rfl)) (hw _ (List.mem_of_getElem? (i := 82) rfl)) (hw _ (List.mem_of_getElem? (i := 83) rfl)) d13_0 rfl (by decide) (by decide) ?_
  intro h91 al eq_al Ehh91 E_al D_al
  have g_al : n0 ≤ al := Nat.le_trans Z0 (Nat.le_of_eq eq_al.symm)
  replace Z0 := Nat.le_trans Z0 Ehh91.1
  have F_al_modCount : Fld Z h91 al "java/util/AbstractList" "modCount" "I" (.int (0 : Int32)) := D_al (Or.inl (hw _ (List.mem_of_getElem? (i := 101) rfl))) (ty := .int) (by decide)
  have F_al_elementData : Fld Z h91 al "java/util/ArrayList" "elementData" "[Ljava/lang/Object;" .null := D_al (Or.inl (hw _ (List.mem_of_getElem? (i := 104) rfl))) (ty := (.array (.object "java/lang/Object"))) (by decide)
  have F_al_size : Fld Z h91 al "java/util/ArrayList" "size" "I" (.int (0 : Int32)) := D_al (Or.inl (hw _ (List.mem_of_getElem? (i := 123) rfl))) (ty := .int) (by decide)
  clear D_al
  have hal : ∀ x ∈ q :: b :: ts, x < al := fun x hx => Nat.lt_of_lt_of_le (hTQ.lt x hx) (Nat.le_of_eq eq_al.symm)
  replace hTQ := hTQ.keep ((Keep.refl _ []).ext Ehh91) (fun x hx => nomatch hx)
  have sz_al : h0.size ≤ al := Nat.le_trans K.1 (Nat.le_of_eq eq_al.symm)
  replace K := K.ext Ehh91
  replace OL := OL.ext Ehh91
  refine w_dup C (q := 4) d13_3 rfl rfl ?_
  refine w_aloadN C (q := 5) d13_4 rfl rfl rfl ?_
  refine w_getF C (q := 8) (host := "") (Or.inl (hw _ (List.mem_of_getElem? (i := 18) rfl))) Via.refl hTQ.2.2.1 d13_5 rfl ?_
  rw [hL]
  refine w_special C (q := 11) (y := ⟨"java/util/ArrayList", "<init>", "(I)V"⟩) (rm := ({ frames := 3, cells := 1, slots := 3, locals := 36 } : Room)) (a := al) (argsL := [(.int (2 : Int32))]) rfl (hw _ (List.mem_of_getElem? (i := 84) rfl)) (hw _ (List.mem_of_getElem? (i := 85) rfl)) (hw _ (List.mem_of_getElem? (i := 83) rfl)) (hw _ (List.mem_of_getElem? (i := 86) rfl)) (rmALi2 l Z a0 hw al _ n0 Z0 E_al F_al_modCount F_al_elementData F_al_size g_al) (by decide) (rest := [(.ref al)]) (lenOf pd_5 rfl) rfl d13_8 rfl rfl (by decide) (Nat.le_of_ble_eq_true rfl) (by decide) (by decide) ?_
  intro v h92 hQ
  obtain ⟨rfl, K1, ea, ke, hea1, g_ea, A, E, M, D, N⟩ := hQ
  have hea : ∀ x ∈ q :: b :: ts, x < ea := fun x hx => Nat.lt_of_lt_of_le (hTQ.lt x hx) hea1
  have n_al_ea : al ≠ ea := Nat.ne_of_lt (Nat.lt_of_lt_of_le E_al.lt hea1)
  have sz_ea : h0.size ≤ ea := Nat.le_trans K.1 hea1
  replace hTQ := hTQ.keep K1 (fun x hx z => Nat.lt_irrefl _ (List.mem_singleton.mp hx ▸ hal x z))
  replace K := K.trans K1 (allS (Or.inr sz_al) all0)
  replace Z0 := Nat.le_trans Z0 K1.1
  refine Wk.v0 ?_
  refine w_astoreN C (q := 12) #[.val (.ref q), .val (.ref al)] d13_11 rfl rfl rfl ?_
  refine w_aloadN C (q := 13) d13_12 rfl rfl rfl ?_
  refine w_getF C (q := 16) (host := "") (Or.inl (hw _ (List.mem_of_getElem? (i := 18) rfl))) Via.refl hTQ.2.2.1 d13_13 rfl ?_
  rw [hL]
  refine w_ifle_f C (q := 19) d13_16 rfl (by decide) ?_
  obtain ⟨u0, tl0, rfl⟩ : ∃ u tl, ts = u :: tl := by
    rcases ts with _ | ⟨u, tl⟩
    · simp at hL
    · exact ⟨u, tl, rfl⟩
  refine w_aloadN C (q := 20) d13_19 rfl rfl rfl ?_
  refine w_aloadN C (q := 21) d13_20 rfl rfl rfl ?_
  refine w_getF C (q := 24) (host := "") (Or.inl (hw _ (List.mem_of_getElem? (i := 11) rfl))) Via.refl hTQ.2.1 d13_21 rfl ?_
  refine w_iconst C (q := 25) (0 : Int32) d13_24 rfl (by decide) ?_
  refine w_aaload C (q := 26) hTQ.2.2.2.2.1 rfl (.ref u0) (by decide) rfl d13_25 rfl ?_
  have hT := hTQ.2.2.2.2.2.2.1 0 u0 rfl
  refine w_getFR C (q := 29) (hw _ (List.mem_of_getElem? (i := 114) rfl)) hT.2.2.2.2 d13_26 rfl ?_
  refine w_virtual C (q := 32) (y := ⟨"java/util/ArrayList", "add", "(Ljava/lang/Object;)Z"⟩) (z := ⟨"java/util/ArrayList", "add", "(Ljava/lang/Object;)Z"⟩) (rm := ({ frames := 1, cells := 0, slots := 0, locals := 16 } : Room)) (a := al) (argsL := [.null]) (hw _ (List.mem_of_getElem? (i := 115) rfl)) (hw _ (List.mem_of_getElem? (i := 116) rfl)) (hw _ (List.mem_of_getElem? (i := 118) rfl)) (hw _ (List.mem_of_getElem? (i := 118) rfl)) (hw _ (List.mem_of_getElem? (i := 117) rfl)) (hw _ (List.mem_of_getElem? (i := 83) rfl)) (hw _ (List.mem_of_getElem? (i := 119) rfl)) E (rmA1 l Z a0 hw al _ n0 Z0 (0 : Int32) ea ke _ (0 : Int32) A (by decide) (by simp) (by decide) n_al_ea g_al g_ea E M D N) (by decide) (rest := []) (lenOf pd_9 rfl) rfl d13_29 rfl rfl (by decide) (Nat.le_of_ble_eq_true rfl) (by decide) (by decide) ?_
  intro v h93 hQ
  obtain ⟨rfl, K2, A', E', ⟨mc0, M'⟩, D', N'⟩ := hQ
  replace A := A'
  replace E := E'
  replace M := M'
  replace D := D'
  replace N := N'
  clear A' E' M' D' N'
  replace hTQ := hTQ.keep K2 (fun x hx z => by rcases List.mem_cons.mp hx with rfl | hx; exact Nat.lt_irrefl _ (hea _ z); cases List.mem_singleton.mp hx; exact Nat.lt_irrefl _ (hal _ z))
  replace K := K.trans K2 (allS (Or.inr sz_ea) (allS (Or.inr sz_al) all0))
  replace Z0 := Nat.le_trans Z0 K2.1
  refine Wk.v1 ?_
  refine w_pop C (q := 33) d13_32 rfl rfl ?_
  refine w_aloadN C (q := 34) d13_33 rfl rfl rfl ?_
  refine w_iconst C (q := 35) (0 : Int32) d13_34 rfl (by decide) ?_
  refine w_private C (q := 38) (y := ⟨"com/example/orderly_dispatch/orderlydispatch/TimerQueue", "removeAt", "(I)V"⟩) (rm := ({ frames := 3, cells := 0, slots := 0, locals := 54 } : Room)) (a := q) (argsL := [(.int (0 : Int32))]) (hw _ (List.mem_of_getElem? (i := 72) rfl)) (hw _ (List.mem_of_getElem? (i := 73) rfl)) (sel_private (by decide) (hw _ (List.mem_of_getElem? (i := 1) rfl)) (hw _ (List.mem_of_getElem? (i := 74) rfl)) (hw _ (List.mem_of_getElem? (i := 73) rfl))) (hw _ (List.mem_of_getElem? (i := 74) rfl)) (hw _ (List.mem_of_getElem? (i := 2) rfl)) (hw _ (List.mem_of_getElem? (i := 75) rfl)) hTQ.1 (rmRA l Z a0 hw q 0 _ n0 Z0 b k (u0 :: tl0) u0 hTQ (by rw [hL]; decide) rfl) (by decide) (rest := []) (lenOf pd_5 rfl) rfl d13_35 rfl rfl (by decide) (Nat.le_of_ble_eq_true rfl) (by decide) (by decide) ?_
  intro v h94 hQ
  obtain ⟨rfl, ts0, hTQ', hR, K3⟩ := hQ
  have na : al ∉ q :: b :: (u0 :: tl0) := fun z => Nat.lt_irrefl _ (hal _ z)
  have nb : ea ∉ q :: b :: (u0 :: tl0) := fun z => Nat.lt_irrefl _ (hea _ z)
  replace A := A.keep K3 nb
  replace E := E.keep K3
  replace M := M.keep K3 na
  replace D := D.keep K3 na
  replace N := N.keep K3 na
  have sub : ∀ x ∈ q :: b :: ts0, x ∈ q :: b :: (u0 :: tl0) := fun x hx => by rcases List.mem_cons.mp hx with rfl | hx; exact List.mem_cons_self ..; rcases List.mem_cons.mp hx with rfl | hx; exact List.mem_cons_of_mem _ (List.mem_cons_self ..); exact List.mem_cons_of_mem _ (List.mem_cons_of_mem _ (hR.2.2 x hx))
  replace K := K.trans K3 (fun x hx => Or.inl hx)
  have hsub0 : ∀ x ∈ q :: b :: ts0, x ∈ q :: b :: (u0 :: tl0) := fun x hx => sub x hx
  replace hal : ∀ x ∈ q :: b :: ts0, x < al := fun x hx => hal x (sub x hx)
  replace hea : ∀ x ∈ q :: b :: ts0, x < ea := fun x hx => hea x (sub x hx)
  replace hL : ts0.length = 1 := by have := hR.1; rw [hL] at this; omega
  replace hTQ := hTQ'
  clear hTQ' sub na nb
  replace Z0 := Nat.le_trans Z0 K3.1
  have hsub := hsub0
  refine Wk.v0 ?_
  refine w_goto C (q := 12) d13_38 (by decide) (by decide) ?_
  refine w_aloadN C (q := 13) d13_12 rfl rfl rfl ?_
  refine w_getF C (q := 16) (host := "") (Or.inl (hw _ (List.mem_of_getElem? (i := 18) rfl))) Via.refl hTQ.2.2.1 d13_13 rfl ?_
  rw [hL]
  refine w_ifle_f C (q := 19) d13_16 rfl (by decide) ?_
  obtain ⟨u1, tl1, rfl⟩ : ∃ u tl, ts0 = u :: tl := by
    rcases ts0 with _ | ⟨u, tl⟩
    · simp at hL
    · exact ⟨u, tl, rfl⟩
  refine w_aloadN C (q := 20) d13_19 rfl rfl rfl ?_
  refine w_aloadN C (q := 21) d13_20 rfl rfl rfl ?_
  refine w_getF C (q := 24) (host := "") (Or.inl (hw _ (List.mem_of_getElem? (i := 11) rfl))) Via.refl hTQ.2.1 d13_21 rfl ?_
  refine w_iconst C (q := 25) (0 : Int32) d13_24 rfl (by decide) ?_
  refine w_aaload C (q := 26) hTQ.2.2.2.2.1 rfl (.ref u1) (by decide) rfl d13_25 rfl ?_
  have hT := hTQ.2.2.2.2.2.2.1 0 u1 rfl
  refine w_getFR C (q := 29) (hw _ (List.mem_of_getElem? (i := 114) rfl)) hT.2.2.2.2 d13_26 rfl ?_
  refine w_virtual C (q := 32) (y := ⟨"java/util/ArrayList", "add", "(Ljava/lang/Object;)Z"⟩) (z := ⟨"java/util/ArrayList", "add", "(Ljava/lang/Object;)Z"⟩) (rm := ({ frames := 1, cells := 0, slots := 0, locals := 16 } : Room)) (a := al) (argsL := [.null]) (hw _ (List.mem_of_getElem? (i := 115) rfl)) (hw _ (List.mem_of_getElem? (i := 116) rfl)) (hw _ (List.mem_of_getElem? (i := 118) rfl)) (hw _ (List.mem_of_getElem? (i := 118) rfl)) (hw _ (List.mem_of_getElem? (i := 117) rfl)) (hw _ (List.mem_of_getElem? (i := 83) rfl)) (hw _ (List.mem_of_getElem? (i := 119) rfl)) E (rmA1 l Z a0 hw al _ n0 Z0 (1 : Int32) ea ke _ mc0 A (by decide) (by simp) (by decide) n_al_ea g_al g_ea E M D N) (by decide) (rest := []) (lenOf pd_9 rfl) rfl d13_29 rfl rfl (by decide) (Nat.le_of_ble_eq_true rfl) (by decide) (by decide) ?_
  intro v h95 hQ
  obtain ⟨rfl, K2, A', E', ⟨mc1, M'⟩, D', N'⟩ := hQ
  replace A := A'
  replace E := E'
  replace M := M'
  replace D := D'
  replace N := N'
  clear A' E' M' D' N'
  replace hTQ := hTQ.keep K2 (fun x hx z => by rcases List.mem_cons.mp hx with rfl | hx; exact Nat.lt_irrefl _ (hea _ z); cases List.mem_singleton.mp hx; exact Nat.lt_irrefl _ (hal _ z))
  replace K := K.trans K2 (allS (Or.inr sz_ea) (allS (Or.inr sz_al) all0))
  replace Z0 := Nat.le_trans Z0 K2.1
  refine Wk.v1 ?_
  refine w_pop C (q := 33) d13_32 rfl rfl ?_
  refine w_aloadN C (q := 34) d13_33 rfl rfl rfl ?_
  refine w_iconst C (q := 35) (0 : Int32) d13_34 rfl (by decide) ?_
  refine w_private C (q := 38) (y := ⟨"com/example/orderly_dispatch/orderlydispatch/TimerQueue", "removeAt", "(I)V"⟩) (rm := ({ frames := 3, cells := 0, slots := 0, locals := 54 } : Room)) (a := q) (argsL := [(.int (0 : Int32))]) (hw _ (List.mem_of_getElem? (i := 72) rfl)) (hw _ (List.mem_of_getElem? (i := 73) rfl)) (sel_private (by decide) (hw _ (List.mem_of_getElem? (i := 1) rfl)) (hw _ (List.mem_of_getElem? (i := 74) rfl)) (hw _ (List.mem_of_getElem? (i := 73) rfl))) (hw _ (List.mem_of_getElem? (i := 74) rfl)) (hw _ (List.mem_of_getElem? (i := 2) rfl)) (hw _ (List.mem_of_getElem? (i := 75) rfl)) hTQ.1 (rmRA l Z a0 hw q 0 _ n0 Z0 b k (u1 :: tl1) u1 hTQ (by rw [hL]; decide) rfl) (by decide) (rest := []) (lenOf pd_5 rfl) rfl d13_35 rfl rfl (by decide) (Nat.le_of_ble_eq_true rfl) (by decide) (by decide) ?_
  intro v h96 hQ
  obtain ⟨rfl, ts1, hTQ', hR, K3⟩ := hQ
  have na : al ∉ q :: b :: (u1 :: tl1) := fun z => Nat.lt_irrefl _ (hal _ z)
  have nb : ea ∉ q :: b :: (u1 :: tl1) := fun z => Nat.lt_irrefl _ (hea _ z)
  replace A := A.keep K3 nb
  replace E := E.keep K3
  replace M := M.keep K3 na
  replace D := D.keep K3 na
  replace N := N.keep K3 na
  have sub : ∀ x ∈ q :: b :: ts1, x ∈ q :: b :: (u1 :: tl1) := fun x hx => by rcases List.mem_cons.mp hx with rfl | hx; exact List.mem_cons_self ..; rcases List.mem_cons.mp hx with rfl | hx; exact List.mem_cons_of_mem _ (List.mem_cons_self ..); exact List.mem_cons_of_mem _ (List.mem_cons_of_mem _ (hR.2.2 x hx))
  replace K := K.trans K3 (fun x hx => Or.inl (hsub x hx))
  have hsub1 : ∀ x ∈ q :: b :: ts1, x ∈ q :: b :: (u0 :: tl0) := fun x hx => hsub x (sub x hx)
  replace hal : ∀ x ∈ q :: b :: ts1, x < al := fun x hx => hal x (sub x hx)
  replace hea : ∀ x ∈ q :: b :: ts1, x < ea := fun x hx => hea x (sub x hx)
  replace hL : ts1.length = 0 := by have := hR.1; rw [hL] at this; omega
  replace hTQ := hTQ'
  clear hTQ' sub na nb
  replace Z0 := Nat.le_trans Z0 K3.1
  have hsub := hsub1
  refine Wk.v0 ?_
  refine w_goto C (q := 12) d13_38 (by decide) (by decide) ?_
  refine w_aloadN C (q := 13) d13_12 rfl rfl rfl ?_
  refine w_getF C (q := 16) (host := "") (Or.inl (hw _ (List.mem_of_getElem? (i := 18) rfl))) Via.refl hTQ.2.2.1 d13_13 rfl ?_
  rw [hL]
  refine w_ifle_t C (q := 41) d13_16 (by decide) (by decide) (by decide) ?_
  refine w_aloadN C (q := 42) d13_41 rfl rfl rfl ?_
  exact w_retA C rfl rfl d13_42 (by decide) (by decide) ⟨al, ts1, rfl, hTQ, hL, K⟩
theorem ef_Dr3 (m : MethodId) (q : Nat) : entryFrame m #[(.ref q)] 2 = mkF m 0 #[.val (.ref q), .unset] [] := by first | (simp [entryFrame, mkF, argsToLocals, Value.category]; done) | rfl
set_option maxRecDepth 65536 in
set_option maxHeartbeats 40000000 in
theorem rmDr3 (l : Launch) (Z : State) (a0 : Array Value) (hw : ∀ d ∈ tables_1, d.before a0 Z = true) (q : Nat) (h0 : Heap) (n0 : Nat) (Z0 : n0 ≤ h0.size) (b : Addr) (k : ClassId) (ts : List Addr) (hTQ : TQ Z n0 h0 q b k ts) (hL : ts.length = 3) (e0 : Addr) (OL : Old Z n0 h0) (S0 : Sta Z Z.heap "java/util/ArrayList" "EMPTY_ELEMENTDATA" "[Ljava/lang/Object;" (.ref e0)) :
    Met1 l Z ⟨"com/example/orderly_dispatch/orderlydispatch/TimerQueue", "drain", "()Ljava/util/List;"⟩ prog_25_method_7_code 2 (some (.object "java/util/List")) ({ frames := 5, cells := 2, slots := 6, locals := 72 } : Room) #[(.ref q)] h0 n0 (fun v h => ∃ al ts', v = some (.ref al) ∧ TQ Z n0 h q b k ts' ∧ ts'.length = 0 ∧ Keep h0 h (q :: b :: ts)) := by
  refine Met1.of_body pn_13 (fun p e s m below meth c C => ?_)
  replace C : Cx p s m meth c Z "com/example/orderly_dispatch/orderlydispatch/TimerQueue" "drain" prog_25_method_7_code 2 (some (.object "java/util/List")) := C
  refine Wk.cast (ef_Dr3 m q) ?_
  have K : Keep h0 h0 (q :: b :: ts) := Keep.refl _ _
  refine w_newO C (q := 3) (hw _ (List.mem_of_getElem? (i := 81) rfl)) (hw _ (List.mem_of_getElem? (i := 82) rfl)) (hw _ (List.mem_of_getElem? (i := 83) rfl)) d13_0 rfl (by decide) (by decide) ?_
  intro h97 al eq_al Ehh97 E_al D_al
  have g_al : n0 ≤ al := Nat.le_trans Z0 (Nat.le_of_eq eq_al.symm)
  replace Z0 := Nat.le_trans Z0 Ehh97.1
  have F_al_modCount : Fld Z h97 al "java/util/AbstractList" "modCount" "I" (.int (0 : Int32)) := D_al (Or.inl (hw _ (List.mem_of_getElem? (i := 101) rfl))) (ty := .int) (by decide)
  have F_al_elementData : Fld Z h97 al "java/util/ArrayList" "elementData" "[Ljava/lang/Object;" .null := D_al (Or.inl (hw _ (List.mem_of_getElem? (i := 104) rfl))) (ty := (.array (.object "java/lang/Object"))) (by decide)
  have F_al_size : Fld Z h97 al "java/util/ArrayList" "size" "I" (.int (0 : Int32)) := D_al (Or.inl (hw _ (List.mem_of_getElem? (i := 123) rfl))) (ty := .int) (by decide)
  clear D_al
  have hal : ∀ x ∈ q :: b :: ts, x < al := fun x hx => Nat.lt_of_lt_of_le (hTQ.lt x hx) (Nat.le_of_eq eq_al.symm)
  replace hTQ := hTQ.keep ((Keep.refl _ []).ext Ehh97) (fun x hx => nomatch hx)
  have sz_al : h0.size ≤ al := Nat.le_trans K.1 (Nat.le_of_eq eq_al.symm)
  replace K := K.ext Ehh97
  replace OL := OL.ext Ehh97
  refine w_dup C (q := 4) d13_3 rfl rfl ?_
  refine w_aloadN C (q := 5) d13_4 rfl rfl rfl ?_
  refine w_getF C (q := 8) (host := "") (Or.inl (hw _ (List.mem_of_getElem? (i := 18) rfl))) Via.refl hTQ.2.2.1 d13_5 rfl ?_
  rw [hL]
  refine w_special C (q := 11) (y := ⟨"java/util/ArrayList", "<init>", "(I)V"⟩) (rm := ({ frames := 3, cells := 1, slots := 3, locals := 36 } : Room)) (a := al) (argsL := [(.int (3 : Int32))]) rfl (hw _ (List.mem_of_getElem? (i := 84) rfl)) (hw _ (List.mem_of_getElem? (i := 85) rfl)) (hw _ (List.mem_of_getElem? (i := 83) rfl)) (hw _ (List.mem_of_getElem? (i := 86) rfl)) (rmALi3 l Z a0 hw al _ n0 Z0 E_al F_al_modCount F_al_elementData F_al_size g_al) (by decide) (rest := [(.ref al)]) (lenOf pd_5 rfl) rfl d13_8 rfl rfl (by decide) (Nat.le_of_ble_eq_true rfl) (by decide) (by decide) ?_
  intro v h98 hQ
  obtain ⟨rfl, K1, ea, ke, hea1, g_ea, A, E, M, D, N⟩ := hQ
  have hea : ∀ x ∈ q :: b :: ts, x < ea := fun x hx => Nat.lt_of_lt_of_le (hTQ.lt x hx) hea1
  have n_al_ea : al ≠ ea := Nat.ne_of_lt (Nat.lt_of_lt_of_le E_al.lt hea1)
  have sz_ea : h0.size ≤ ea := Nat.le_trans K.1 hea1
  replace hTQ := hTQ.keep K1 (fun x hx z => Nat.lt_irrefl _ (List.mem_singleton.mp hx ▸ hal x z))
  replace K := K.trans K1 (allS (Or.inr sz_al) all0)
  replace Z0 := Nat.le_trans Z0 K1.1
  refine Wk.v0 ?_
  refine w_astoreN C (q := 12) #[.val (.ref q), .val (.ref al)] d13_11 rfl rfl rfl ?_
  refine w_aloadN C (q := 13) d13_12 rfl rfl rfl ?_
  refine w_getF C (q := 16) (host := "") (Or.inl (hw _ (List.mem_of_getElem? (i := 18) rfl))) Via.refl hTQ.2.2.1 d13_13 rfl ?_
  rw [hL]
  refine w_ifle_f C (q := 19) d13_16 rfl (by decide) ?_
  obtain ⟨u0, tl0, rfl⟩ : ∃ u tl, ts = u :: tl := by
    rcases ts with _ | ⟨u, tl⟩
    · simp at hL
    · exact ⟨u, tl, rfl⟩
  refine w_aloadN C (q := 20) d13_19 rfl rfl rfl ?_
  refine w_aloadN C (q := 21) d13_20 rfl rfl rfl ?_
  refine w_getF C (q := 24) (host := "") (Or.inl (hw _ (List.mem_of_getElem? (i := 11) rfl))) Via.refl hTQ.2.1 d13_21 rfl ?_
  refine w_iconst C (q := 25) (0 : Int32) d13_24 rfl (by decide) ?_
  refine w_aaload C (q := 26) hTQ.2.2.2.2.1 rfl (.ref u0) (by decide) rfl d13_25 rfl ?_
  have hT := hTQ.2.2.2.2.2.2.1 0 u0 rfl
  refine w_getFR C (q := 29) (hw _ (List.mem_of_getElem? (i := 114) rfl)) hT.2.2.2.2 d13_26 rfl ?_
  refine w_virtual C (q := 32) (y := ⟨"java/util/ArrayList", "add", "(Ljava/lang/Object;)Z"⟩) (z := ⟨"java/util/ArrayList", "add", "(Ljava/lang/Object;)Z"⟩) (rm := ({ frames := 1, cells := 0, slots := 0, locals := 16 } : Room)) (a := al) (argsL := [.null]) (hw _ (List.mem_of_getElem? (i := 115) rfl)) (hw _ (List.mem_of_getElem? (i := 116) rfl)) (hw _ (List.mem_of_getElem? (i := 118) rfl)) (hw _ (List.mem_of_getElem? (i := 118) rfl)) (hw _ (List.mem_of_getElem? (i := 117) rfl)) (hw _ (List.mem_of_getElem? (i := 83) rfl)) (hw _ (List.mem_of_getElem? (i := 119) rfl)) E (rmA1 l Z a0 hw al _ n0 Z0 (0 : Int32) ea ke _ (0 : Int32) A (by decide) (by simp) (by decide) n_al_ea g_al g_ea E M D N) (by decide) (rest := []) (lenOf pd_9 rfl) rfl d13_29 rfl rfl (by decide) (Nat.le_of_ble_eq_true rfl) (by decide) (by decide) ?_
  intro v h99 hQ
  obtain ⟨rfl, K2, A', E', ⟨mc0, M'⟩, D', N'⟩ := hQ
  replace A := A'
  replace E := E'
  replace M := M'
  replace D := D'
  replace N := N'
  clear A' E' M' D' N'
  replace hTQ := hTQ.keep K2 (fun x hx z => by rcases List.mem_cons.mp hx with rfl | hx; exact Nat.lt_irrefl _ (hea _ z); cases List.mem_singleton.mp hx; exact Nat.lt_irrefl _ (hal _ z))
  replace K := K.trans K2 (allS (Or.inr sz_ea) (allS (Or.inr sz_al) all0))
  replace Z0 := Nat.le_trans Z0 K2.1
  refine Wk.v1 ?_
  refine w_pop C (q := 33) d13_32 rfl rfl ?_
  refine w_aloadN C (q := 34) d13_33 rfl rfl rfl ?_
  refine w_iconst C (q := 35) (0 : Int32) d13_34 rfl (by decide) ?_
  refine w_private C (q := 38) (y := ⟨"com/example/orderly_dispatch/orderlydispatch/TimerQueue", "removeAt", "(I)V"⟩) (rm := ({ frames := 3, cells := 0, slots := 0, locals := 54 } : Room)) (a := q) (argsL := [(.int (0 : Int32))]) (hw _ (List.mem_of_getElem? (i := 72) rfl)) (hw _ (List.mem_of_getElem? (i := 73) rfl)) (sel_private (by decide) (hw _ (List.mem_of_getElem? (i := 1) rfl)) (hw _ (List.mem_of_getElem? (i := 74) rfl)) (hw _ (List.mem_of_getElem? (i := 73) rfl))) (hw _ (List.mem_of_getElem? (i := 74) rfl)) (hw _ (List.mem_of_getElem? (i := 2) rfl)) (hw _ (List.mem_of_getElem? (i := 75) rfl)) hTQ.1 (rmRA l Z a0 hw q 0 _ n0 Z0 b k (u0 :: tl0) u0 hTQ (by rw [hL]; decide) rfl) (by decide) (rest := []) (lenOf pd_5 rfl) rfl d13_35 rfl rfl (by decide) (Nat.le_of_ble_eq_true rfl) (by decide) (by decide) ?_
  intro v h100 hQ
  obtain ⟨rfl, ts0, hTQ', hR, K3⟩ := hQ
  have na : al ∉ q :: b :: (u0 :: tl0) := fun z => Nat.lt_irrefl _ (hal _ z)
  have nb : ea ∉ q :: b :: (u0 :: tl0) := fun z => Nat.lt_irrefl _ (hea _ z)
  replace A := A.keep K3 nb
  replace E := E.keep K3
  replace M := M.keep K3 na
  replace D := D.keep K3 na
  replace N := N.keep K3 na
  have sub : ∀ x ∈ q :: b :: ts0, x ∈ q :: b :: (u0 :: tl0) := fun x hx => by rcases List.mem_cons.mp hx with rfl | hx; exact List.mem_cons_self ..; rcases List.mem_cons.mp hx with rfl | hx; exact List.mem_cons_of_mem _ (List.mem_cons_self ..); exact List.mem_cons_of_mem _ (List.mem_cons_of_mem _ (hR.2.2 x hx))
  replace K := K.trans K3 (fun x hx => Or.inl hx)
  have hsub0 : ∀ x ∈ q :: b :: ts0, x ∈ q :: b :: (u0 :: tl0) := fun x hx => sub x hx
  replace hal : ∀ x ∈ q :: b :: ts0, x < al := fun x hx => hal x (sub x hx)
  replace hea : ∀ x ∈ q :: b :: ts0, x < ea := fun x hx => hea x (sub x hx)
  replace hL : ts0.length = 2 := by have := hR.1; rw [hL] at this; omega
  replace hTQ := hTQ'
  clear hTQ' sub na nb
  replace Z0 := Nat.le_trans Z0 K3.1
  have hsub := hsub0
  refine Wk.v0 ?_
  refine w_goto C (q := 12) d13_38 (by decide) (by decide) ?_
  refine w_aloadN C (q := 13) d13_12 rfl rfl rfl ?_
  refine w_getF C (q := 16) (host := "") (Or.inl (hw _ (List.mem_of_getElem? (i := 18) rfl))) Via.refl hTQ.2.2.1 d13_13 rfl ?_
  rw [hL]
  refine w_ifle_f C (q := 19) d13_16 rfl (by decide) ?_
  obtain ⟨u1, tl1, rfl⟩ : ∃ u tl, ts0 = u :: tl := by
    rcases ts0 with _ | ⟨u, tl⟩
    · simp at hL
    · exact ⟨u, tl, rfl⟩
  refine w_aloadN C (q := 20) d13_19 rfl rfl rfl ?_
  refine w_aloadN C (q := 21) d13_20 rfl rfl rfl ?_
  refine w_getF C (q := 24) (host := "") (Or.inl (hw _ (List.mem_of_getElem? (i := 11) rfl))) Via.refl hTQ.2.1 d13_21 rfl ?_
  refine w_iconst C (q := 25) (0 : Int32) d13_24 rfl (by decide) ?_
  refine w_aaload C (q := 26) hTQ.2.2.2.2.1 rfl (.ref u1) (by decide) rfl d13_25 rfl ?_
  have hT := hTQ.2.2.2.2.2.2.1 0 u1 rfl
  refine w_getFR C (q := 29) (hw _ (List.mem_of_getElem? (i := 114) rfl)) hT.2.2.2.2 d13_26 rfl ?_
  refine w_virtual C (q := 32) (y := ⟨"java/util/ArrayList", "add", "(Ljava/lang/Object;)Z"⟩) (z := ⟨"java/util/ArrayList", "add", "(Ljava/lang/Object;)Z"⟩) (rm := ({ frames := 1, cells := 0, slots := 0, locals := 16 } : Room)) (a := al) (argsL := [.null]) (hw _ (List.mem_of_getElem? (i := 115) rfl)) (hw _ (List.mem_of_getElem? (i := 116) rfl)) (hw _ (List.mem_of_getElem? (i := 118) rfl)) (hw _ (List.mem_of_getElem? (i := 118) rfl)) (hw _ (List.mem_of_getElem? (i := 117) rfl)) (hw _ (List.mem_of_getElem? (i := 83) rfl)) (hw _ (List.mem_of_getElem? (i := 119) rfl)) E (rmA1 l Z a0 hw al _ n0 Z0 (1 : Int32) ea ke _ mc0 A (by decide) (by simp) (by decide) n_al_ea g_al g_ea E M D N) (by decide) (rest := []) (lenOf pd_9 rfl) rfl d13_29 rfl rfl (by decide) (Nat.le_of_ble_eq_true rfl) (by decide) (by decide) ?_
  intro v h101 hQ
  obtain ⟨rfl, K2, A', E', ⟨mc1, M'⟩, D', N'⟩ := hQ
  replace A := A'
  replace E := E'
  replace M := M'
  replace D := D'
  replace N := N'
  clear A' E' M' D' N'
  replace hTQ := hTQ.keep K2 (fun x hx z => by rcases List.mem_cons.mp hx with rfl | hx; exact Nat.lt_irrefl _ (hea _ z); cases List.mem_singleton.mp hx; exact Nat.lt_irrefl _ (hal _ z))
  replace K := K.trans K2 (allS (Or.inr sz_ea) (allS (Or.inr sz_al) all0))
  replace Z0 := Nat.le_trans Z0 K2.1
  refine Wk.v1 ?_
  refine w_pop C (q := 33) d13_32 rfl rfl ?_
  refine w_aloadN C (q := 34) d13_33 rfl rfl rfl ?_
  refine w_iconst C (q := 35) (0 : Int32) d13_34 rfl (by decide) ?_
  refine w_private C (q := 38) (y := ⟨"com/example/orderly_dispatch/orderlydispatch/TimerQueue", "removeAt", "(I)V"⟩) (rm := ({ frames := 3, cells := 0, slots := 0, locals := 54 } : Room)) (a := q) (argsL := [(.int (0 : Int32))]) (hw _ (List.mem_of_getElem? (i := 72) rfl)) (hw _ (List.mem_of_getElem? (i := 73) rfl)) (sel_private (by decide) (hw _ (List.mem_of_getElem? (i := 1) rfl)) (hw _ (List.mem_of_getElem? (i := 74) rfl)) (hw _ (List.mem_of_getElem? (i := 73) rfl))) (hw _ (List.mem_of_getElem? (i := 74) rfl)) (hw _ (List.mem_of_getElem? (i := 2) rfl)) (hw _ (List.mem_of_getElem? (i := 75) rfl)) hTQ.1 (rmRA l Z a0 hw q 0 _ n0 Z0 b k (u1 :: tl1) u1 hTQ (by rw [hL]; decide) rfl) (by decide) (rest := []) (lenOf pd_5 rfl) rfl d13_35 rfl rfl (by decide) (Nat.le_of_ble_eq_true rfl) (by decide) (by decide) ?_
  intro v h102 hQ
  obtain ⟨rfl, ts1, hTQ', hR, K3⟩ := hQ
  have na : al ∉ q :: b :: (u1 :: tl1) := fun z => Nat.lt_irrefl _ (hal _ z)
  have nb : ea ∉ q :: b :: (u1 :: tl1) := fun z => Nat.lt_irrefl _ (hea _ z)
  replace A := A.keep K3 nb
  replace E := E.keep K3
  replace M := M.keep K3 na
  replace D := D.keep K3 na
  replace N := N.keep K3 na
  have sub : ∀ x ∈ q :: b :: ts1, x ∈ q :: b :: (u1 :: tl1) := fun x hx => by rcases List.mem_cons.mp hx with rfl | hx; exact List.mem_cons_self ..; rcases List.mem_cons.mp hx with rfl | hx; exact List.mem_cons_of_mem _ (List.mem_cons_self ..); exact List.mem_cons_of_mem _ (List.mem_cons_of_mem _ (hR.2.2 x hx))
  replace K := K.trans K3 (fun x hx => Or.inl (hsub x hx))
  have hsub1 : ∀ x ∈ q :: b :: ts1, x ∈ q :: b :: (u0 :: tl0) := fun x hx => hsub x (sub x hx)
  replace hal : ∀ x ∈ q :: b :: ts1, x < al := fun x hx => hal x (sub x hx)
  replace hea : ∀ x ∈ q :: b :: ts1, x < ea := fun x hx => hea x (sub x hx)
  replace hL : ts1.length = 1 := by have := hR.1; rw [hL] at this; omega
  replace hTQ := hTQ'
  clear hTQ' sub na nb
  replace Z0 := Nat.le_trans Z0 K3.1
  have hsub := hsub1
  refine Wk.v0 ?_
  refine w_goto C (q := 12) d13_38 (by decide) (by decide) ?_
  refine w_aloadN C (q := 13) d13_12 rfl rfl rfl ?_
  refine w_getF C (q := 16) (host := "") (Or.inl (hw _ (List.mem_of_getElem? (i := 18) rfl))) Via.refl hTQ.2.2.1 d13_13 rfl ?_
  rw [hL]
  refine w_ifle_f C (q := 19) d13_16 rfl (by decide) ?_
  obtain ⟨u2, tl2, rfl⟩ : ∃ u tl, ts1 = u :: tl := by
    rcases ts1 with _ | ⟨u, tl⟩
    · simp at hL
    · exact ⟨u, tl, rfl⟩
  refine w_aloadN C (q := 20) d13_19 rfl rfl rfl ?_
  refine w_aloadN C (q := 21) d13_20 rfl rfl rfl ?_
  refine w_getF C (q := 24) (host := "") (Or.inl (hw _ (List.mem_of_getElem? (i := 11) rfl))) Via.refl hTQ.2.1 d13_21 rfl ?_
  refine w_iconst C (q := 25) (0 : Int32) d13_24 rfl (by decide) ?_
  refine w_aaload C (q := 26) hTQ.2.2.2.2.1 rfl (.ref u2) (by decide) rfl d13_25 rfl ?_
  have hT := hTQ.2.2.2.2.2.2.1 0 u2 rfl
  refine w_getFR C (q := 29) (hw _ (List.mem_of_getElem? (i := 114) rfl)) hT.2.2.2.2 d13_26 rfl ?_
  refine w_virtual C (q := 32) (y := ⟨"java/util/ArrayList", "add", "(Ljava/lang/Object;)Z"⟩) (z := ⟨"java/util/ArrayList", "add", "(Ljava/lang/Object;)Z"⟩) (rm := ({ frames := 1, cells := 0, slots := 0, locals := 16 } : Room)) (a := al) (argsL := [.null]) (hw _ (List.mem_of_getElem? (i := 115) rfl)) (hw _ (List.mem_of_getElem? (i := 116) rfl)) (hw _ (List.mem_of_getElem? (i := 118) rfl)) (hw _ (List.mem_of_getElem? (i := 118) rfl)) (hw _ (List.mem_of_getElem? (i := 117) rfl)) (hw _ (List.mem_of_getElem? (i := 83) rfl)) (hw _ (List.mem_of_getElem? (i := 119) rfl)) E (rmA1 l Z a0 hw al _ n0 Z0 (2 : Int32) ea ke _ mc1 A (by decide) (by simp) (by decide) n_al_ea g_al g_ea E M D N) (by decide) (rest := []) (lenOf pd_9 rfl) rfl d13_29 rfl rfl (by decide) (Nat.le_of_ble_eq_true rfl) (by decide) (by decide) ?_
  intro v h103 hQ
  obtain ⟨rfl, K2, A', E', ⟨mc2, M'⟩, D', N'⟩ := hQ
  replace A := A'
  replace E := E'
  replace M := M'
  replace D := D'
  replace N := N'
  clear A' E' M' D' N'
  replace hTQ := hTQ.keep K2 (fun x hx z => by rcases List.mem_cons.mp hx with rfl | hx; exact Nat.lt_irrefl _ (hea _ z); cases List.mem_singleton.mp hx; exact Nat.lt_irrefl _ (hal _ z))
  replace K := K.trans K2 (allS (Or.inr sz_ea) (allS (Or.inr sz_al) all0))
  replace Z0 := Nat.le_trans Z0 K2.1
  refine Wk.v1 ?_
  refine w_pop C (q := 33) d13_32 rfl rfl ?_
  refine w_aloadN C (q := 34) d13_33 rfl rfl rfl ?_
  refine w_iconst C (q := 35) (0 : Int32) d13_34 rfl (by decide) ?_
  refine w_private C (q := 38) (y := ⟨"com/example/orderly_dispatch/orderlydispatch/TimerQueue", "removeAt", "(I)V"⟩) (rm := ({ frames := 3, cells := 0, slots := 0, locals := 54 } : Room)) (a := q) (argsL := [(.int (0 : Int32))]) (hw _ (List.mem_of_getElem? (i := 72) rfl)) (hw _ (List.mem_of_getElem? (i := 73) rfl)) (sel_private (by decide) (hw _ (List.mem_of_getElem? (i := 1) rfl)) (hw _ (List.mem_of_getElem? (i := 74) rfl)) (hw _ (List.mem_of_getElem? (i := 73) rfl))) (hw _ (List.mem_of_getElem? (i := 74) rfl)) (hw _ (List.mem_of_getElem? (i := 2) rfl)) (hw _ (List.mem_of_getElem? (i := 75) rfl)) hTQ.1 (rmRA l Z a0 hw q 0 _ n0 Z0 b k (u2 :: tl2) u2 hTQ (by rw [hL]; decide) rfl) (by decide) (rest := []) (lenOf pd_5 rfl) rfl d13_35 rfl rfl (by decide) (Nat.le_of_ble_eq_true rfl) (by decide) (by decide) ?_
  intro v h104 hQ
  obtain ⟨rfl, ts2, hTQ', hR, K3⟩ := hQ
  have na : al ∉ q :: b :: (u2 :: tl2) := fun z => Nat.lt_irrefl _ (hal _ z)
  have nb : ea ∉ q :: b :: (u2 :: tl2) := fun z => Nat.lt_irrefl _ (hea _ z)
  replace A := A.keep K3 nb
  replace E := E.keep K3
  replace M := M.keep K3 na
  replace D := D.keep K3 na
  replace N := N.keep K3 na
  have sub : ∀ x ∈ q :: b :: ts2, x ∈ q :: b :: (u2 :: tl2) := fun x hx => by rcases List.mem_cons.mp hx with rfl | hx; exact List.mem_cons_self ..; rcases List.mem_cons.mp hx with rfl | hx; exact List.mem_cons_of_mem _ (List.mem_cons_self ..); exact List.mem_cons_of_mem _ (List.mem_cons_of_mem _ (hR.2.2 x hx))
  replace K := K.trans K3 (fun x hx => Or.inl (hsub x hx))
  have hsub2 : ∀ x ∈ q :: b :: ts2, x ∈ q :: b :: (u0 :: tl0) := fun x hx => hsub x (sub x hx)
  replace hal : ∀ x ∈ q :: b :: ts2, x < al := fun x hx => hal x (sub x hx)
  replace hea : ∀ x ∈ q :: b :: ts2, x < ea := fun x hx => hea x (sub x hx)
  replace hL : ts2.length = 0 := by have := hR.1; rw [hL] at this; omega
  replace hTQ := hTQ'
  clear hTQ' sub na nb
  replace Z0 := Nat.le_trans Z0 K3.1
  have hsub := hsub2
  refine Wk.v0 ?_
  refine w_goto C (q := 12) d13_38 (by decide) (by decide) ?_
  refine w_aloadN C (q := 13) d13_12 rfl rfl rfl ?_
  refine w_getF C (q := 16) (host := "") (Or.inl (hw _ (List.mem_of_getElem? (i := 18) rfl))) Via.refl hTQ.2.2.1 d13_13 rfl ?_
  rw [hL]
  refine w_ifle_t C (q := 41) d13_16 (by decide) (by decide) (by decide) ?_
  refine w_aloadN C (q := 42) d13_41 rfl rfl rfl ?_
  exact w_retA C rfl rfl d13_42 (by decide) (by decide) ⟨al, ts2, rfl, hTQ, hL, K⟩
theorem own_and3 (x : Int32) : x &&& 3 = 0 ∨ x &&& 3 = 1 ∨ x &&& 3 = 2 ∨ x &&& 3 = 3 := by
  have e : (x &&& 3).toInt = x.toInt % (2 ^ 2 : Nat) := c_mask x 3 2 (by decide) (by decide)
  have r : (x &&& 3).toInt = 0 ∨ (x &&& 3).toInt = 1 ∨ (x &&& 3).toInt = 2 ∨ (x &&& 3).toInt = 3 := by omega
  exact r.imp (fun q => Int32.toInt_inj.mp q) (fun r => r.imp (fun q => Int32.toInt_inj.mp q) (fun r => r.imp (fun q => Int32.toInt_inj.mp q) (fun q => Int32.toInt_inj.mp q)))
theorem ef_0 (m : MethodId) (p1 : Int32) (p2 : Int64) (p3 : Int64) (p4 : Int64) : entryFrame m #[(.int p1), (.long p2), (.long p3), (.long p4)] maxLocals = mkF m 0 #[.val (.int p1), .val (.long p2), .second, .val (.long p3), .second, .val (.long p4), .second, .unset, .unset, .unset, .unset, .unset, .unset, .unset] [] := by first | (simp [entryFrame, mkF, argsToLocals, Value.category, maxLocals]; done) | rfl
set_option maxRecDepth 65536 in
set_option maxHeartbeats 40000000 in
theorem rm0 (l : Launch) (Z : State) (a0 : Array Value) (hw : ∀ d ∈ tables_1, d.before a0 Z = true) (p1 : Int32) (p2 : Int64) (p3 : Int64) (p4 : Int64) (h0 : Heap) (n0 : Nat) (Z0 : n0 ≤ h0.size) (e0 : Addr) (OL : Old Z n0 h0) (S0 : Sta Z Z.heap "java/util/ArrayList" "EMPTY_ELEMENTDATA" "[Ljava/lang/Object;" (.ref e0)) :
    Met1 l Z x code maxLocals ret room_1 #[(.int p1), (.long p2), (.long p3), (.long p4)] h0 n0 (fun v h => v = some (.int 1)) := by
  refine Met1.of_body pn_0 (fun p e s m below meth c C => ?_)
  replace C : Cx p s m meth c Z "com/example/orderly_dispatch/orderlydispatch/TimerQueueIsEmptyPinLaw" "law" code 14 (some .boolean) := C
  refine Wk.cast (ef_0 m p1 p2 p3 p4) ?_
  refine w_newO C (q := 3) (hw _ (List.mem_of_getElem? (i := 0) rfl)) (hw _ (List.mem_of_getElem? (i := 1) rfl)) (hw _ (List.mem_of_getElem? (i := 2) rfl)) at_0 rfl (by decide) (by decide) ?_
  intro h105 q eq_q Ehh105 E_q D_q
  have g_q : n0 ≤ q := Nat.le_trans Z0 (Nat.le_of_eq eq_q.symm)
  replace Z0 := Nat.le_trans Z0 Ehh105.1
  have F_q_heap : Fld Z h105 q "com/example/orderly_dispatch/orderlydispatch/TimerQueue" "heap" "[Lcom/example/orderly_dispatch/orderlydispatch/TimerQueue$Timer;" .null := D_q (Or.inl (hw _ (List.mem_of_getElem? (i := 12) rfl))) (ty := (.array (.object "com/example/orderly_dispatch/orderlydispatch/TimerQueue$Timer"))) (by decide)
  have F_q_size : Fld Z h105 q "com/example/orderly_dispatch/orderlydispatch/TimerQueue" "size" "I" (.int (0 : Int32)) := D_q (Or.inl (hw _ (List.mem_of_getElem? (i := 19) rfl))) (ty := .int) (by decide)
  have F_q_added : Fld Z h105 q "com/example/orderly_dispatch/orderlydispatch/TimerQueue" "added" "J" (.long (0 : Int64)) := D_q (Or.inl (hw _ (List.mem_of_getElem? (i := 28) rfl))) (ty := .long) (by decide)
  clear D_q
  replace OL := OL.ext Ehh105
  refine w_dup C (q := 4) at_3 rfl rfl ?_
  refine w_special C (q := 7) (y := ⟨"com/example/orderly_dispatch/orderlydispatch/TimerQueue", "<init>", "()V"⟩) (rm := ({ frames := 1, cells := 1, slots := 16, locals := 12 } : Room)) (a := q) (argsL := []) rfl (hw _ (List.mem_of_getElem? (i := 3) rfl)) (hw _ (List.mem_of_getElem? (i := 4) rfl)) (hw _ (List.mem_of_getElem? (i := 2) rfl)) (hw _ (List.mem_of_getElem? (i := 5) rfl)) (rmQI l Z a0 hw q _ n0 Z0 E_q F_q_heap F_q_size F_q_added g_q) (by decide) (rest := [(.ref q)]) (lenOf pd_7 rfl) rfl at_4 rfl rfl (by decide) (Nat.le_of_ble_eq_true rfl) (by decide) (by decide) ?_
  intro v h106 hQ
  obtain ⟨rfl, K, b, k, hTQ⟩ := hQ
  replace OL := OL.keep K (allS g_q all0)
  replace Z0 := Nat.le_trans Z0 K.1
  clear E_q F_q_heap F_q_size F_q_added K
  refine Wk.v0 ?_
  refine w_astore C (q := 9) #[.val (.int p1), .val (.long p2), .second, .val (.long p3), .second, .val (.long p4), .second, .val (.ref q), .unset, .unset, .unset, .unset, .unset, .unset] at_7 rfl rfl rfl ?_
  refine w_aload C (q := 11) at_9 rfl rfl rfl ?_
  refine w_virtual C (q := 14) (y := ⟨"com/example/orderly_dispatch/orderlydispatch/TimerQueue", "isEmpty", "()Z"⟩) (z := ⟨"com/example/orderly_dispatch/orderlydispatch/TimerQueue", "isEmpty", "()Z"⟩) (rm := ({ frames := 0, cells := 0, slots := 0, locals := 0 } : Room)) (a := q) (argsL := []) (hw _ (List.mem_of_getElem? (i := 13) rfl)) (hw _ (List.mem_of_getElem? (i := 14) rfl)) (hw _ (List.mem_of_getElem? (i := 16) rfl)) (hw _ (List.mem_of_getElem? (i := 16) rfl)) (hw _ (List.mem_of_getElem? (i := 15) rfl)) (hw _ (List.mem_of_getElem? (i := 2) rfl)) (hw _ (List.mem_of_getElem? (i := 17) rfl)) hTQ.1 (rmIE l Z a0 hw q _ n0 Z0 [].length.toInt32 hTQ.2.2.1) (by decide) (rest := []) (lenOf pd_4 rfl) rfl at_11 rfl rfl (by decide) (Nat.le_of_ble_eq_true rfl) (by decide) (by decide) ?_
  intro v h107 hQ
  obtain ⟨rfl, rfl⟩ := hQ
  refine Wk.v1 ?_
  refine w_istore C (q := 16) #[.val (.int p1), .val (.long p2), .second, .val (.long p3), .second, .val (.long p4), .second, .val (.ref q), .val (.int (1 : Int32)), .unset, .unset, .unset, .unset, .unset] at_14 rfl rfl ?_
  refine w_iloadN C (q := 17) at_16 rfl rfl ?_
  refine w_iconst C (q := 18) (3 : Int32) at_17 rfl (by decide) ?_
  refine w_iand C (q := 19) at_18 rfl ?_
  refine w_istore C (q := 21) #[.val (.int p1), .val (.long p2), .second, .val (.long p3), .second, .val (.long p4), .second, .val (.ref q), .val (.int (1 : Int32)), .val (.int (p1 &&& (3 : Int32))), .unset, .unset, .unset, .unset] at_19 rfl rfl ?_
  refine w_aconstNull C (q := 22) at_21 rfl ?_
  refine w_astore C (q := 24) #[.val (.int p1), .val (.long p2), .second, .val (.long p3), .second, .val (.long p4), .second, .val (.ref q), .val (.int (1 : Int32)), .val (.int (p1 &&& (3 : Int32))), .val .null, .unset, .unset, .unset] at_22 rfl rfl rfl ?_
  refine w_aconstNull C (q := 25) at_24 rfl ?_
  refine w_astore C (q := 27) #[.val (.int p1), .val (.long p2), .second, .val (.long p3), .second, .val (.long p4), .second, .val (.ref q), .val (.int (1 : Int32)), .val (.int (p1 &&& (3 : Int32))), .val .null, .val .null, .unset, .unset] at_25 rfl rfl rfl ?_
  refine w_aconstNull C (q := 28) at_27 rfl ?_
  refine w_astore C (q := 30) #[.val (.int p1), .val (.long p2), .second, .val (.long p3), .second, .val (.long p4), .second, .val (.ref q), .val (.int (1 : Int32)), .val (.int (p1 &&& (3 : Int32))), .val .null, .val .null, .val .null, .unset] at_28 rfl rfl rfl ?_
  refine w_iload C (q := 32) at_30 rfl rfl ?_
  refine w_iconst C (q := 33) (1 : Int32) at_32 rfl (by decide) ?_
  rcases own_and3 p1 with hi | hi | hi | hi
  · rw [hi]
    refine w_iclt_t C (q := 45) at_33 (by decide) (by decide) (by decide) ?_
    refine w_iload C (q := 47) at_45 rfl rfl ?_
    refine w_iconst C (q := 48) (2 : Int32) at_47 rfl (by decide) ?_
    refine w_iclt_t C (q := 60) at_48 (by decide) (by decide) (by decide) ?_
    refine w_iload C (q := 62) at_60 rfl rfl ?_
    refine w_iconst C (q := 63) (3 : Int32) at_62 rfl (by decide) ?_
    refine w_iclt_t C (q := 76) at_63 (by decide) (by decide) (by decide) ?_
    refine w_iload C (q := 78) at_76 rfl rfl ?_
    have hL : ([] : List Addr).length = 0 := rfl
    refine w_ifeq_f C (q := 81) at_78 rfl (by decide) ?_
    refine w_aload C (q := 83) at_81 rfl rfl rfl ?_
    refine w_virtual C (q := 86) (y := ⟨"com/example/orderly_dispatch/orderlydispatch/TimerQueue", "isEmpty", "()Z"⟩) (z := ⟨"com/example/orderly_dispatch/orderlydispatch/TimerQueue", "isEmpty", "()Z"⟩) (rm := ({ frames := 0, cells := 0, slots := 0, locals := 0 } : Room)) (a := q) (argsL := []) (hw _ (List.mem_of_getElem? (i := 13) rfl)) (hw _ (List.mem_of_getElem? (i := 14) rfl)) (hw _ (List.mem_of_getElem? (i := 16) rfl)) (hw _ (List.mem_of_getElem? (i := 16) rfl)) (hw _ (List.mem_of_getElem? (i := 15) rfl)) (hw _ (List.mem_of_getElem? (i := 2) rfl)) (hw _ (List.mem_of_getElem? (i := 17) rfl)) hTQ.1 (rmIE l Z a0 hw q _ n0 Z0 [].length.toInt32 hTQ.2.2.1) (by decide) (rest := []) (lenOf pd_4 rfl) rfl at_83 rfl rfl (by decide) (Nat.le_of_ble_eq_true rfl) (by decide) (by decide) ?_
    intro v h108 hQ
    obtain ⟨rfl, rfl⟩ := hQ
    refine Wk.v1 ?_
    refine w_iload C (q := 88) at_86 rfl rfl ?_
    refine w_ifne_f C (q := 91) at_88 rfl (by decide) ?_
    refine w_iconst C (q := 92) (1 : Int32) at_91 rfl (by decide) ?_
    refine w_goto C (q := 96) at_92 (by decide) (by decide) ?_
    refine w_icne_f C (q := 99) at_96 rfl (by decide) ?_
    refine w_iconst C (q := 100) (1 : Int32) at_99 rfl (by decide) ?_
    refine w_goto C (q := 104) at_100 (by decide) (by decide) ?_
    refine w_istore C (q := 106) #[.val (.int p1), .val (.long p2), .second, .val (.long p3), .second, .val (.long p4), .second, .val (.ref q), .val (.int (1 : Int32)), .val (.int (0 : Int32)), .val .null, .val .null, .val .null, .unset] at_104 rfl rfl ?_
    refine w_iload C (q := 108) at_106 rfl rfl ?_
    refine w_istore C (q := 110) #[.val (.int p1), .val (.long p2), .second, .val (.long p3), .second, .val (.long p4), .second, .val (.ref q), .val (.int (1 : Int32)), .val (.int (0 : Int32)), .val .null, .val .null, .val .null, .val (.int (0 : Int32))] at_108 rfl rfl ?_
    refine w_iload C (q := 112) at_110 rfl rfl ?_
    refine w_iconst C (q := 113) (1 : Int32) at_112 rfl (by decide) ?_
    refine w_iclt_t C (q := 150) at_113 (by decide) (by decide) (by decide) ?_
    refine w_iload C (q := 152) at_150 rfl rfl ?_
    refine w_iconst C (q := 153) (2 : Int32) at_152 rfl (by decide) ?_
    refine w_iclt_t C (q := 191) at_153 (by decide) (by decide) (by decide) ?_
    refine w_iload C (q := 193) at_191 rfl rfl ?_
    refine w_iconst C (q := 194) (3 : Int32) at_193 rfl (by decide) ?_
    refine w_iclt_t C (q := 232) at_194 (by decide) (by decide) (by decide) ?_
    refine w_iload C (q := 234) at_232 rfl rfl ?_
    refine w_ifeq_f C (q := 237) at_234 rfl (by decide) ?_
    refine w_aload C (q := 239) at_237 rfl rfl rfl ?_
    refine w_virtual C (q := 242) (y := ⟨"com/example/orderly_dispatch/orderlydispatch/TimerQueue", "isEmpty", "()Z"⟩) (z := ⟨"com/example/orderly_dispatch/orderlydispatch/TimerQueue", "isEmpty", "()Z"⟩) (rm := ({ frames := 0, cells := 0, slots := 0, locals := 0 } : Room)) (a := q) (argsL := []) (hw _ (List.mem_of_getElem? (i := 13) rfl)) (hw _ (List.mem_of_getElem? (i := 14) rfl)) (hw _ (List.mem_of_getElem? (i := 16) rfl)) (hw _ (List.mem_of_getElem? (i := 16) rfl)) (hw _ (List.mem_of_getElem? (i := 15) rfl)) (hw _ (List.mem_of_getElem? (i := 2) rfl)) (hw _ (List.mem_of_getElem? (i := 17) rfl)) hTQ.1 (rmIE l Z a0 hw q _ n0 Z0 [].length.toInt32 hTQ.2.2.1) (by decide) (rest := []) (lenOf pd_4 rfl) rfl at_239 rfl rfl (by decide) (Nat.le_of_ble_eq_true rfl) (by decide) (by decide) ?_
    intro v h109 hQ
    obtain ⟨rfl, rfl⟩ := hQ
    refine Wk.v1 ?_
    refine w_iload C (q := 244) at_242 rfl rfl ?_
    refine w_ifne_f C (q := 247) at_244 rfl (by decide) ?_
    refine w_iconst C (q := 248) (1 : Int32) at_247 rfl (by decide) ?_
    refine w_goto C (q := 252) at_248 (by decide) (by decide) ?_
    refine w_icne_f C (q := 255) at_252 rfl (by decide) ?_
    refine w_iconst C (q := 256) (1 : Int32) at_255 rfl (by decide) ?_
    refine w_goto C (q := 260) at_256 (by decide) (by decide) ?_
    refine w_istore C (q := 262) #[.val (.int p1), .val (.long p2), .second, .val (.long p3), .second, .val (.long p4), .second, .val (.ref q), .val (.int (1 : Int32)), .val (.int (0 : Int32)), .val .null, .val .null, .val .null, .val (.int (0 : Int32))] at_260 rfl rfl ?_
    refine w_iloadN C (q := 263) at_262 rfl rfl ?_
    refine w_bipush C (q := 265) (32 : Int32) at_263 rfl (by decide) ?_
    refine w_iand C (q := 266) at_265 rfl ?_
    refine w_ifeq C (q := 295) (q' := 269) at_266 (by decide) (by decide) rfl (fun hc266 => ?_) (fun hc266 => ?_)
    · refine w_iload C (q := 297) at_295 rfl rfl ?_
      exact w_retN C at_297 (by decide) (by decide) rfl
    · refine w_aload C (q := 271) at_269 rfl rfl rfl ?_
      refine w_virtual C (q := 274) (y := ⟨"com/example/orderly_dispatch/orderlydispatch/TimerQueue", "drain", "()Ljava/util/List;"⟩) (z := ⟨"com/example/orderly_dispatch/orderlydispatch/TimerQueue", "drain", "()Ljava/util/List;"⟩) (rm := ({ frames := 5, cells := 2, slots := 6, locals := 72 } : Room)) (a := q) (argsL := []) (hw _ (List.mem_of_getElem? (i := 76) rfl)) (hw _ (List.mem_of_getElem? (i := 77) rfl)) (hw _ (List.mem_of_getElem? (i := 79) rfl)) (hw _ (List.mem_of_getElem? (i := 79) rfl)) (hw _ (List.mem_of_getElem? (i := 78) rfl)) (hw _ (List.mem_of_getElem? (i := 2) rfl)) (hw _ (List.mem_of_getElem? (i := 80) rfl)) hTQ.1 (rmDr0 l Z a0 hw q _ n0 Z0 b k [] hTQ hL e0 OL S0) (by decide) (rest := []) (lenOf pd_10 rfl) rfl at_271 rfl rfl (by decide) (Nat.le_of_ble_eq_true rfl) (by decide) (by decide) ?_
      intro v h110 hQ
      obtain ⟨al, tz, rfl, hTQ', hL', K⟩ := hQ
      replace Z0 := Nat.le_trans Z0 K.1
      replace hTQ := hTQ'
      replace hL := hL'
      clear hTQ' hL' K
      refine Wk.v1 ?_
      refine w_pop C (q := 275) at_274 rfl rfl ?_
      refine w_iload C (q := 277) at_275 rfl rfl ?_
      refine w_ifeq_f C (q := 280) at_277 rfl (by decide) ?_
      refine w_aload C (q := 282) at_280 rfl rfl rfl ?_
      refine w_virtual C (q := 285) (y := ⟨"com/example/orderly_dispatch/orderlydispatch/TimerQueue", "isEmpty", "()Z"⟩) (z := ⟨"com/example/orderly_dispatch/orderlydispatch/TimerQueue", "isEmpty", "()Z"⟩) (rm := ({ frames := 0, cells := 0, slots := 0, locals := 0 } : Room)) (a := q) (argsL := []) (hw _ (List.mem_of_getElem? (i := 13) rfl)) (hw _ (List.mem_of_getElem? (i := 14) rfl)) (hw _ (List.mem_of_getElem? (i := 16) rfl)) (hw _ (List.mem_of_getElem? (i := 16) rfl)) (hw _ (List.mem_of_getElem? (i := 15) rfl)) (hw _ (List.mem_of_getElem? (i := 2) rfl)) (hw _ (List.mem_of_getElem? (i := 17) rfl)) hTQ.1 (rmIE l Z a0 hw q _ n0 Z0 tz.length.toInt32 hTQ.2.2.1) (by decide) (rest := []) (lenOf pd_4 rfl) rfl at_282 rfl rfl (by decide) (Nat.le_of_ble_eq_true rfl) (by decide) (by decide) ?_
      intro v h111 hQ
      obtain ⟨rfl, rfl⟩ := hQ
      rw [hL]
      refine Wk.v1 ?_
      refine w_ifeq_f C (q := 288) at_285 rfl (by decide) ?_
      refine w_iconst C (q := 289) (1 : Int32) at_288 rfl (by decide) ?_
      refine w_goto C (q := 293) at_289 (by decide) (by decide) ?_
      refine w_istore C (q := 295) #[.val (.int p1), .val (.long p2), .second, .val (.long p3), .second, .val (.long p4), .second, .val (.ref q), .val (.int (1 : Int32)), .val (.int (0 : Int32)), .val .null, .val .null, .val .null, .val (.int (0 : Int32))] at_293 rfl rfl ?_
      refine w_iload C (q := 297) at_295 rfl rfl ?_
      exact w_retN C at_297 (by decide) (by decide) rfl
  · rw [hi]
    refine w_iclt_f C (q := 36) at_33 rfl (by decide) ?_
    refine w_aload C (q := 38) at_36 rfl rfl rfl ?_
    refine w_aconstNull C (q := 39) at_38 rfl ?_
    refine w_lloadN C (q := 40) at_39 rfl rfl ?_
    refine w_virtual C (q := 43) (y := ⟨"com/example/orderly_dispatch/orderlydispatch/TimerQueue", "add", "(Ljava/lang/Runnable;J)Lcom/example/orderly_dispatch/orderlydispatch/TimerQueue$Timer;"⟩) (z := ⟨"com/example/orderly_dispatch/orderlydispatch/TimerQueue", "add", "(Ljava/lang/Runnable;J)Lcom/example/orderly_dispatch/orderlydispatch/TimerQueue$Timer;"⟩) (rm := ({ frames := 3, cells := 1, slots := 5, locals := 50 } : Room)) (a := q) (argsL := [.null, (.long p2)]) (hw _ (List.mem_of_getElem? (i := 20) rfl)) (hw _ (List.mem_of_getElem? (i := 21) rfl)) (hw _ (List.mem_of_getElem? (i := 23) rfl)) (hw _ (List.mem_of_getElem? (i := 23) rfl)) (hw _ (List.mem_of_getElem? (i := 22) rfl)) (hw _ (List.mem_of_getElem? (i := 2) rfl)) (hw _ (List.mem_of_getElem? (i := 24) rfl)) hTQ.1 (rmAdd l Z a0 hw q p2 _ n0 Z0 b k [] hTQ (by decide)) (by decide) (rest := []) (lenOf pd_11 rfl) rfl at_40 rfl rfl (by decide) (Nat.le_of_ble_eq_true rfl) (by decide) (by decide) ?_
    intro v h112 hQ
    obtain ⟨t0, ts0, rfl, hTQ', hI, ht0, K⟩ := hQ
    replace OL := OL.keep K hTQ.above
    replace Z0 := Nat.le_trans Z0 K.1
    have m0 := hI.2.1
    have hL : ts0.length = 1 := by have := hI.1; simp at this; omega
    replace hTQ := hTQ'
    clear hTQ' hI K ht0
    refine Wk.v1 ?_
    refine w_astore C (q := 45) #[.val (.int p1), .val (.long p2), .second, .val (.long p3), .second, .val (.long p4), .second, .val (.ref q), .val (.int (1 : Int32)), .val (.int (1 : Int32)), .val (.ref t0), .val .null, .val .null, .unset] at_43 rfl rfl rfl ?_
    refine w_iload C (q := 47) at_45 rfl rfl ?_
    refine w_iconst C (q := 48) (2 : Int32) at_47 rfl (by decide) ?_
    refine w_iclt_t C (q := 60) at_48 (by decide) (by decide) (by decide) ?_
    refine w_iload C (q := 62) at_60 rfl rfl ?_
    refine w_iconst C (q := 63) (3 : Int32) at_62 rfl (by decide) ?_
    refine w_iclt_t C (q := 76) at_63 (by decide) (by decide) (by decide) ?_
    refine w_iload C (q := 78) at_76 rfl rfl ?_
    refine w_ifeq_f C (q := 81) at_78 rfl (by decide) ?_
    refine w_aload C (q := 83) at_81 rfl rfl rfl ?_
    refine w_virtual C (q := 86) (y := ⟨"com/example/orderly_dispatch/orderlydispatch/TimerQueue", "isEmpty", "()Z"⟩) (z := ⟨"com/example/orderly_dispatch/orderlydispatch/TimerQueue", "isEmpty", "()Z"⟩) (rm := ({ frames := 0, cells := 0, slots := 0, locals := 0 } : Room)) (a := q) (argsL := []) (hw _ (List.mem_of_getElem? (i := 13) rfl)) (hw _ (List.mem_of_getElem? (i := 14) rfl)) (hw _ (List.mem_of_getElem? (i := 16) rfl)) (hw _ (List.mem_of_getElem? (i := 16) rfl)) (hw _ (List.mem_of_getElem? (i := 15) rfl)) (hw _ (List.mem_of_getElem? (i := 2) rfl)) (hw _ (List.mem_of_getElem? (i := 17) rfl)) hTQ.1 (rmIE l Z a0 hw q _ n0 Z0 ts0.length.toInt32 hTQ.2.2.1) (by decide) (rest := []) (lenOf pd_4 rfl) rfl at_83 rfl rfl (by decide) (Nat.le_of_ble_eq_true rfl) (by decide) (by decide) ?_
    intro v h113 hQ
    obtain ⟨rfl, rfl⟩ := hQ
    rw [hL]
    refine Wk.v1 ?_
    refine w_iload C (q := 88) at_86 rfl rfl ?_
    refine w_ifne_t C (q := 95) at_88 (by decide) (by decide) (by decide) ?_
    refine w_iconst C (q := 96) (0 : Int32) at_95 rfl (by decide) ?_
    refine w_icne_f C (q := 99) at_96 rfl (by decide) ?_
    refine w_iconst C (q := 100) (1 : Int32) at_99 rfl (by decide) ?_
    refine w_goto C (q := 104) at_100 (by decide) (by decide) ?_
    refine w_istore C (q := 106) #[.val (.int p1), .val (.long p2), .second, .val (.long p3), .second, .val (.long p4), .second, .val (.ref q), .val (.int (1 : Int32)), .val (.int (1 : Int32)), .val (.ref t0), .val .null, .val .null, .unset] at_104 rfl rfl ?_
    refine w_iload C (q := 108) at_106 rfl rfl ?_
    refine w_istore C (q := 110) #[.val (.int p1), .val (.long p2), .second, .val (.long p3), .second, .val (.long p4), .second, .val (.ref q), .val (.int (1 : Int32)), .val (.int (1 : Int32)), .val (.ref t0), .val .null, .val .null, .val (.int (1 : Int32))] at_108 rfl rfl ?_
    refine w_iload C (q := 112) at_110 rfl rfl ?_
    refine w_iconst C (q := 113) (1 : Int32) at_112 rfl (by decide) ?_
    refine w_iclt_f C (q := 116) at_113 rfl (by decide) ?_
    refine w_iloadN C (q := 117) at_116 rfl rfl ?_
    refine w_iconst C (q := 118) (4 : Int32) at_117 rfl (by decide) ?_
    refine w_iand C (q := 119) at_118 rfl ?_
    refine w_ifeq C (q := 150) (q' := 122) at_119 (by decide) (by decide) rfl (fun hc119 => ?_) (fun hc119 => ?_)
    · refine w_iload C (q := 152) at_150 rfl rfl ?_
      refine w_iconst C (q := 153) (2 : Int32) at_152 rfl (by decide) ?_
      refine w_iclt_t C (q := 191) at_153 (by decide) (by decide) (by decide) ?_
      refine w_iload C (q := 193) at_191 rfl rfl ?_
      refine w_iconst C (q := 194) (3 : Int32) at_193 rfl (by decide) ?_
      refine w_iclt_t C (q := 232) at_194 (by decide) (by decide) (by decide) ?_
      refine w_iload C (q := 234) at_232 rfl rfl ?_
      refine w_ifeq_f C (q := 237) at_234 rfl (by decide) ?_
      refine w_aload C (q := 239) at_237 rfl rfl rfl ?_
      refine w_virtual C (q := 242) (y := ⟨"com/example/orderly_dispatch/orderlydispatch/TimerQueue", "isEmpty", "()Z"⟩) (z := ⟨"com/example/orderly_dispatch/orderlydispatch/TimerQueue", "isEmpty", "()Z"⟩) (rm := ({ frames := 0, cells := 0, slots := 0, locals := 0 } : Room)) (a := q) (argsL := []) (hw _ (List.mem_of_getElem? (i := 13) rfl)) (hw _ (List.mem_of_getElem? (i := 14) rfl)) (hw _ (List.mem_of_getElem? (i := 16) rfl)) (hw _ (List.mem_of_getElem? (i := 16) rfl)) (hw _ (List.mem_of_getElem? (i := 15) rfl)) (hw _ (List.mem_of_getElem? (i := 2) rfl)) (hw _ (List.mem_of_getElem? (i := 17) rfl)) hTQ.1 (rmIE l Z a0 hw q _ n0 Z0 ts0.length.toInt32 hTQ.2.2.1) (by decide) (rest := []) (lenOf pd_4 rfl) rfl at_239 rfl rfl (by decide) (Nat.le_of_ble_eq_true rfl) (by decide) (by decide) ?_
      intro v h114 hQ
      obtain ⟨rfl, rfl⟩ := hQ
      rw [hL]
      refine Wk.v1 ?_
      refine w_iload C (q := 244) at_242 rfl rfl ?_
      refine w_ifne_t C (q := 251) at_244 (by decide) (by decide) (by decide) ?_
      refine w_iconst C (q := 252) (0 : Int32) at_251 rfl (by decide) ?_
      refine w_icne_f C (q := 255) at_252 rfl (by decide) ?_
      refine w_iconst C (q := 256) (1 : Int32) at_255 rfl (by decide) ?_
      refine w_goto C (q := 260) at_256 (by decide) (by decide) ?_
      refine w_istore C (q := 262) #[.val (.int p1), .val (.long p2), .second, .val (.long p3), .second, .val (.long p4), .second, .val (.ref q), .val (.int (1 : Int32)), .val (.int (1 : Int32)), .val (.ref t0), .val .null, .val .null, .val (.int (1 : Int32))] at_260 rfl rfl ?_
      refine w_iloadN C (q := 263) at_262 rfl rfl ?_
      refine w_bipush C (q := 265) (32 : Int32) at_263 rfl (by decide) ?_
      refine w_iand C (q := 266) at_265 rfl ?_
      refine w_ifeq C (q := 295) (q' := 269) at_266 (by decide) (by decide) rfl (fun hc266 => ?_) (fun hc266 => ?_)
      · refine w_iload C (q := 297) at_295 rfl rfl ?_
        exact w_retN C at_297 (by decide) (by decide) rfl
      · refine w_aload C (q := 271) at_269 rfl rfl rfl ?_
        refine w_virtual C (q := 274) (y := ⟨"com/example/orderly_dispatch/orderlydispatch/TimerQueue", "drain", "()Ljava/util/List;"⟩) (z := ⟨"com/example/orderly_dispatch/orderlydispatch/TimerQueue", "drain", "()Ljava/util/List;"⟩) (rm := ({ frames := 5, cells := 2, slots := 6, locals := 72 } : Room)) (a := q) (argsL := []) (hw _ (List.mem_of_getElem? (i := 76) rfl)) (hw _ (List.mem_of_getElem? (i := 77) rfl)) (hw _ (List.mem_of_getElem? (i := 79) rfl)) (hw _ (List.mem_of_getElem? (i := 79) rfl)) (hw _ (List.mem_of_getElem? (i := 78) rfl)) (hw _ (List.mem_of_getElem? (i := 2) rfl)) (hw _ (List.mem_of_getElem? (i := 80) rfl)) hTQ.1 (rmDr1 l Z a0 hw q _ n0 Z0 b k ts0 hTQ hL e0 OL S0) (by decide) (rest := []) (lenOf pd_10 rfl) rfl at_271 rfl rfl (by decide) (Nat.le_of_ble_eq_true rfl) (by decide) (by decide) ?_
        intro v h115 hQ
        obtain ⟨al, tz, rfl, hTQ', hL', K⟩ := hQ
        replace Z0 := Nat.le_trans Z0 K.1
        replace hTQ := hTQ'
        replace hL := hL'
        clear hTQ' hL' K
        refine Wk.v1 ?_
        refine w_pop C (q := 275) at_274 rfl rfl ?_
        refine w_iload C (q := 277) at_275 rfl rfl ?_
        refine w_ifeq_f C (q := 280) at_277 rfl (by decide) ?_
        refine w_aload C (q := 282) at_280 rfl rfl rfl ?_
        refine w_virtual C (q := 285) (y := ⟨"com/example/orderly_dispatch/orderlydispatch/TimerQueue", "isEmpty", "()Z"⟩) (z := ⟨"com/example/orderly_dispatch/orderlydispatch/TimerQueue", "isEmpty", "()Z"⟩) (rm := ({ frames := 0, cells := 0, slots := 0, locals := 0 } : Room)) (a := q) (argsL := []) (hw _ (List.mem_of_getElem? (i := 13) rfl)) (hw _ (List.mem_of_getElem? (i := 14) rfl)) (hw _ (List.mem_of_getElem? (i := 16) rfl)) (hw _ (List.mem_of_getElem? (i := 16) rfl)) (hw _ (List.mem_of_getElem? (i := 15) rfl)) (hw _ (List.mem_of_getElem? (i := 2) rfl)) (hw _ (List.mem_of_getElem? (i := 17) rfl)) hTQ.1 (rmIE l Z a0 hw q _ n0 Z0 tz.length.toInt32 hTQ.2.2.1) (by decide) (rest := []) (lenOf pd_4 rfl) rfl at_282 rfl rfl (by decide) (Nat.le_of_ble_eq_true rfl) (by decide) (by decide) ?_
        intro v h116 hQ
        obtain ⟨rfl, rfl⟩ := hQ
        rw [hL]
        refine Wk.v1 ?_
        refine w_ifeq_f C (q := 288) at_285 rfl (by decide) ?_
        refine w_iconst C (q := 289) (1 : Int32) at_288 rfl (by decide) ?_
        refine w_goto C (q := 293) at_289 (by decide) (by decide) ?_
        refine w_istore C (q := 295) #[.val (.int p1), .val (.long p2), .second, .val (.long p3), .second, .val (.long p4), .second, .val (.ref q), .val (.int (1 : Int32)), .val (.int (1 : Int32)), .val (.ref t0), .val .null, .val .null, .val (.int (1 : Int32))] at_293 rfl rfl ?_
        refine w_iload C (q := 297) at_295 rfl rfl ?_
        exact w_retN C at_297 (by decide) (by decide) rfl
    · refine w_iload C (q := 124) at_122 rfl rfl ?_
      refine w_ifeq_f C (q := 127) at_124 rfl (by decide) ?_
      refine w_aload C (q := 129) at_127 rfl rfl rfl ?_
      refine w_aload C (q := 131) at_129 rfl rfl rfl ?_
      obtain ⟨j0, hj0⟩ := List.mem_iff_getElem?.mp m0
      refine w_virtual C (q := 134) (y := ⟨"com/example/orderly_dispatch/orderlydispatch/TimerQueue", "remove", "(Lcom/example/orderly_dispatch/orderlydispatch/TimerQueue$Timer;)Z"⟩) (z := ⟨"com/example/orderly_dispatch/orderlydispatch/TimerQueue", "remove", "(Lcom/example/orderly_dispatch/orderlydispatch/TimerQueue$Timer;)Z"⟩) (rm := ({ frames := 4, cells := 0, slots := 0, locals := 69 } : Room)) (a := q) (argsL := [(.ref t0)]) (hw _ (List.mem_of_getElem? (i := 62) rfl)) (hw _ (List.mem_of_getElem? (i := 63) rfl)) (hw _ (List.mem_of_getElem? (i := 65) rfl)) (hw _ (List.mem_of_getElem? (i := 65) rfl)) (hw _ (List.mem_of_getElem? (i := 64) rfl)) (hw _ (List.mem_of_getElem? (i := 2) rfl)) (hw _ (List.mem_of_getElem? (i := 66) rfl)) hTQ.1 (rmRm l Z a0 hw q t0 _ n0 Z0 b k ts0 j0 hTQ (by rw [hL]; decide) hj0) (by decide) (rest := []) (lenOf pd_12 rfl) rfl at_131 rfl rfl (by decide) (Nat.le_of_ble_eq_true rfl) (by decide) (by decide) ?_
      intro v h117 hQ
      obtain ⟨rfl, tr1, hTQ', hR, K⟩ := hQ
      replace OL := OL.keep K hTQ.above
      replace Z0 := Nat.le_trans Z0 K.1
      replace hL : tr1.length = 0 := by have := hR.1; rw [hL] at this; omega
      replace hTQ := hTQ'
      clear hTQ' hR K
      refine Wk.v1 ?_
      refine w_ifeq_f C (q := 137) at_134 rfl (by decide) ?_
      refine w_iconst C (q := 138) (1 : Int32) at_137 rfl (by decide) ?_
      refine w_goto C (q := 142) at_138 (by decide) (by decide) ?_
      refine w_istore C (q := 144) #[.val (.int p1), .val (.long p2), .second, .val (.long p3), .second, .val (.long p4), .second, .val (.ref q), .val (.int (1 : Int32)), .val (.int (1 : Int32)), .val (.ref t0), .val .null, .val .null, .val (.int (1 : Int32))] at_142 rfl rfl ?_
      refine w_iload C (q := 146) at_144 rfl rfl ?_
      refine w_iconst C (q := 147) (1 : Int32) at_146 rfl (by decide) ?_
      refine w_isub C (q := 148) at_147 rfl ?_
      refine w_istore C (q := 150) #[.val (.int p1), .val (.long p2), .second, .val (.long p3), .second, .val (.long p4), .second, .val (.ref q), .val (.int (1 : Int32)), .val (.int (1 : Int32)), .val (.ref t0), .val .null, .val .null, .val (.int (0 : Int32))] at_148 rfl rfl ?_
      refine w_iload C (q := 152) at_150 rfl rfl ?_
      refine w_iconst C (q := 153) (2 : Int32) at_152 rfl (by decide) ?_
      refine w_iclt_t C (q := 191) at_153 (by decide) (by decide) (by decide) ?_
      refine w_iload C (q := 193) at_191 rfl rfl ?_
      refine w_iconst C (q := 194) (3 : Int32) at_193 rfl (by decide) ?_
      refine w_iclt_t C (q := 232) at_194 (by decide) (by decide) (by decide) ?_
      refine w_iload C (q := 234) at_232 rfl rfl ?_
      refine w_ifeq_f C (q := 237) at_234 rfl (by decide) ?_
      refine w_aload C (q := 239) at_237 rfl rfl rfl ?_
      refine w_virtual C (q := 242) (y := ⟨"com/example/orderly_dispatch/orderlydispatch/TimerQueue", "isEmpty", "()Z"⟩) (z := ⟨"com/example/orderly_dispatch/orderlydispatch/TimerQueue", "isEmpty", "()Z"⟩) (rm := ({ frames := 0, cells := 0, slots := 0, locals := 0 } : Room)) (a := q) (argsL := []) (hw _ (List.mem_of_getElem? (i := 13) rfl)) (hw _ (List.mem_of_getElem? (i := 14) rfl)) (hw _ (List.mem_of_getElem? (i := 16) rfl)) (hw _ (List.mem_of_getElem? (i := 16) rfl)) (hw _ (List.mem_of_getElem? (i := 15) rfl)) (hw _ (List.mem_of_getElem? (i := 2) rfl)) (hw _ (List.mem_of_getElem? (i := 17) rfl)) hTQ.1 (rmIE l Z a0 hw q _ n0 Z0 tr1.length.toInt32 hTQ.2.2.1) (by decide) (rest := []) (lenOf pd_4 rfl) rfl at_239 rfl rfl (by decide) (Nat.le_of_ble_eq_true rfl) (by decide) (by decide) ?_
      intro v h118 hQ
      obtain ⟨rfl, rfl⟩ := hQ
      rw [hL]
      refine Wk.v1 ?_
      refine w_iload C (q := 244) at_242 rfl rfl ?_
      refine w_ifne_f C (q := 247) at_244 rfl (by decide) ?_
      refine w_iconst C (q := 248) (1 : Int32) at_247 rfl (by decide) ?_
      refine w_goto C (q := 252) at_248 (by decide) (by decide) ?_
      refine w_icne_f C (q := 255) at_252 rfl (by decide) ?_
      refine w_iconst C (q := 256) (1 : Int32) at_255 rfl (by decide) ?_
      refine w_goto C (q := 260) at_256 (by decide) (by decide) ?_
      refine w_istore C (q := 262) #[.val (.int p1), .val (.long p2), .second, .val (.long p3), .second, .val (.long p4), .second, .val (.ref q), .val (.int (1 : Int32)), .val (.int (1 : Int32)), .val (.ref t0), .val .null, .val .null, .val (.int (0 : Int32))] at_260 rfl rfl ?_
      refine w_iloadN C (q := 263) at_262 rfl rfl ?_
      refine w_bipush C (q := 265) (32 : Int32) at_263 rfl (by decide) ?_
      refine w_iand C (q := 266) at_265 rfl ?_
      refine w_ifeq C (q := 295) (q' := 269) at_266 (by decide) (by decide) rfl (fun hc266 => ?_) (fun hc266 => ?_)
      · refine w_iload C (q := 297) at_295 rfl rfl ?_
        exact w_retN C at_297 (by decide) (by decide) rfl
      · refine w_aload C (q := 271) at_269 rfl rfl rfl ?_
        refine w_virtual C (q := 274) (y := ⟨"com/example/orderly_dispatch/orderlydispatch/TimerQueue", "drain", "()Ljava/util/List;"⟩) (z := ⟨"com/example/orderly_dispatch/orderlydispatch/TimerQueue", "drain", "()Ljava/util/List;"⟩) (rm := ({ frames := 5, cells := 2, slots := 6, locals := 72 } : Room)) (a := q) (argsL := []) (hw _ (List.mem_of_getElem? (i := 76) rfl)) (hw _ (List.mem_of_getElem? (i := 77) rfl)) (hw _ (List.mem_of_getElem? (i := 79) rfl)) (hw _ (List.mem_of_getElem? (i := 79) rfl)) (hw _ (List.mem_of_getElem? (i := 78) rfl)) (hw _ (List.mem_of_getElem? (i := 2) rfl)) (hw _ (List.mem_of_getElem? (i := 80) rfl)) hTQ.1 (rmDr0 l Z a0 hw q _ n0 Z0 b k tr1 hTQ hL e0 OL S0) (by decide) (rest := []) (lenOf pd_10 rfl) rfl at_271 rfl rfl (by decide) (Nat.le_of_ble_eq_true rfl) (by decide) (by decide) ?_
        intro v h119 hQ
        obtain ⟨al, tz, rfl, hTQ', hL', K⟩ := hQ
        replace Z0 := Nat.le_trans Z0 K.1
        replace hTQ := hTQ'
        replace hL := hL'
        clear hTQ' hL' K
        refine Wk.v1 ?_
        refine w_pop C (q := 275) at_274 rfl rfl ?_
        refine w_iload C (q := 277) at_275 rfl rfl ?_
        refine w_ifeq_f C (q := 280) at_277 rfl (by decide) ?_
        refine w_aload C (q := 282) at_280 rfl rfl rfl ?_
        refine w_virtual C (q := 285) (y := ⟨"com/example/orderly_dispatch/orderlydispatch/TimerQueue", "isEmpty", "()Z"⟩) (z := ⟨"com/example/orderly_dispatch/orderlydispatch/TimerQueue", "isEmpty", "()Z"⟩) (rm := ({ frames := 0, cells := 0, slots := 0, locals := 0 } : Room)) (a := q) (argsL := []) (hw _ (List.mem_of_getElem? (i := 13) rfl)) (hw _ (List.mem_of_getElem? (i := 14) rfl)) (hw _ (List.mem_of_getElem? (i := 16) rfl)) (hw _ (List.mem_of_getElem? (i := 16) rfl)) (hw _ (List.mem_of_getElem? (i := 15) rfl)) (hw _ (List.mem_of_getElem? (i := 2) rfl)) (hw _ (List.mem_of_getElem? (i := 17) rfl)) hTQ.1 (rmIE l Z a0 hw q _ n0 Z0 tz.length.toInt32 hTQ.2.2.1) (by decide) (rest := []) (lenOf pd_4 rfl) rfl at_282 rfl rfl (by decide) (Nat.le_of_ble_eq_true rfl) (by decide) (by decide) ?_
        intro v h120 hQ
        obtain ⟨rfl, rfl⟩ := hQ
        rw [hL]
        refine Wk.v1 ?_
        refine w_ifeq_f C (q := 288) at_285 rfl (by decide) ?_
        refine w_iconst C (q := 289) (1 : Int32) at_288 rfl (by decide) ?_
        refine w_goto C (q := 293) at_289 (by decide) (by decide) ?_
        refine w_istore C (q := 295) #[.val (.int p1), .val (.long p2), .second, .val (.long p3), .second, .val (.long p4), .second, .val (.ref q), .val (.int (1 : Int32)), .val (.int (1 : Int32)), .val (.ref t0), .val .null, .val .null, .val (.int (0 : Int32))] at_293 rfl rfl ?_
        refine w_iload C (q := 297) at_295 rfl rfl ?_
        exact w_retN C at_297 (by decide) (by decide) rfl
  · rw [hi]
    refine w_iclt_f C (q := 36) at_33 rfl (by decide) ?_
    refine w_aload C (q := 38) at_36 rfl rfl rfl ?_
    refine w_aconstNull C (q := 39) at_38 rfl ?_
    refine w_lloadN C (q := 40) at_39 rfl rfl ?_
    refine w_virtual C (q := 43) (y := ⟨"com/example/orderly_dispatch/orderlydispatch/TimerQueue", "add", "(Ljava/lang/Runnable;J)Lcom/example/orderly_dispatch/orderlydispatch/TimerQueue$Timer;"⟩) (z := ⟨"com/example/orderly_dispatch/orderlydispatch/TimerQueue", "add", "(Ljava/lang/Runnable;J)Lcom/example/orderly_dispatch/orderlydispatch/TimerQueue$Timer;"⟩) (rm := ({ frames := 3, cells := 1, slots := 5, locals := 50 } : Room)) (a := q) (argsL := [.null, (.long p2)]) (hw _ (List.mem_of_getElem? (i := 20) rfl)) (hw _ (List.mem_of_getElem? (i := 21) rfl)) (hw _ (List.mem_of_getElem? (i := 23) rfl)) (hw _ (List.mem_of_getElem? (i := 23) rfl)) (hw _ (List.mem_of_getElem? (i := 22) rfl)) (hw _ (List.mem_of_getElem? (i := 2) rfl)) (hw _ (List.mem_of_getElem? (i := 24) rfl)) hTQ.1 (rmAdd l Z a0 hw q p2 _ n0 Z0 b k [] hTQ (by decide)) (by decide) (rest := []) (lenOf pd_11 rfl) rfl at_40 rfl rfl (by decide) (Nat.le_of_ble_eq_true rfl) (by decide) (by decide) ?_
    intro v h121 hQ
    obtain ⟨t0, ts0, rfl, hTQ', hI, ht0, K⟩ := hQ
    replace OL := OL.keep K hTQ.above
    replace Z0 := Nat.le_trans Z0 K.1
    have m0 := hI.2.1
    have hL : ts0.length = 1 := by have := hI.1; simp at this; omega
    replace hTQ := hTQ'
    clear hTQ' hI K ht0
    refine Wk.v1 ?_
    refine w_astore C (q := 45) #[.val (.int p1), .val (.long p2), .second, .val (.long p3), .second, .val (.long p4), .second, .val (.ref q), .val (.int (1 : Int32)), .val (.int (2 : Int32)), .val (.ref t0), .val .null, .val .null, .unset] at_43 rfl rfl rfl ?_
    refine w_iload C (q := 47) at_45 rfl rfl ?_
    refine w_iconst C (q := 48) (2 : Int32) at_47 rfl (by decide) ?_
    refine w_iclt_f C (q := 51) at_48 rfl (by decide) ?_
    refine w_aload C (q := 53) at_51 rfl rfl rfl ?_
    refine w_aconstNull C (q := 54) at_53 rfl ?_
    refine w_lloadN C (q := 55) at_54 rfl rfl ?_
    refine w_virtual C (q := 58) (y := ⟨"com/example/orderly_dispatch/orderlydispatch/TimerQueue", "add", "(Ljava/lang/Runnable;J)Lcom/example/orderly_dispatch/orderlydispatch/TimerQueue$Timer;"⟩) (z := ⟨"com/example/orderly_dispatch/orderlydispatch/TimerQueue", "add", "(Ljava/lang/Runnable;J)Lcom/example/orderly_dispatch/orderlydispatch/TimerQueue$Timer;"⟩) (rm := ({ frames := 3, cells := 1, slots := 5, locals := 50 } : Room)) (a := q) (argsL := [.null, (.long p3)]) (hw _ (List.mem_of_getElem? (i := 20) rfl)) (hw _ (List.mem_of_getElem? (i := 21) rfl)) (hw _ (List.mem_of_getElem? (i := 23) rfl)) (hw _ (List.mem_of_getElem? (i := 23) rfl)) (hw _ (List.mem_of_getElem? (i := 22) rfl)) (hw _ (List.mem_of_getElem? (i := 2) rfl)) (hw _ (List.mem_of_getElem? (i := 24) rfl)) hTQ.1 (rmAdd l Z a0 hw q p3 _ n0 Z0 b k ts0 hTQ (by rw [hL]; decide)) (by decide) (rest := []) (lenOf pd_11 rfl) rfl at_55 rfl rfl (by decide) (Nat.le_of_ble_eq_true rfl) (by decide) (by decide) ?_
    intro v h122 hQ
    obtain ⟨t1, ts1, rfl, hTQ', hI, ht1, K⟩ := hQ
    have d01 : t0 ≠ t1 := Nat.ne_of_lt (Nat.lt_of_lt_of_le (hTQ.lt t0 (List.mem_cons_of_mem _ (List.mem_cons_of_mem _ m0))) ht1)
    replace OL := OL.keep K hTQ.above
    replace Z0 := Nat.le_trans Z0 K.1
    replace m0 := hI.2.2 t0 m0
    have m1 := hI.2.1
    replace hL : ts1.length = 2 := by have := hI.1; rw [hL] at this; omega
    replace hTQ := hTQ'
    clear hTQ' hI K ht1
    refine Wk.v1 ?_
    refine w_astore C (q := 60) #[.val (.int p1), .val (.long p2), .second, .val (.long p3), .second, .val (.long p4), .second, .val (.ref q), .val (.int (1 : Int32)), .val (.int (2 : Int32)), .val (.ref t0), .val (.ref t1), .val .null, .unset] at_58 rfl rfl rfl ?_
    refine w_iload C (q := 62) at_60 rfl rfl ?_
    refine w_iconst C (q := 63) (3 : Int32) at_62 rfl (by decide) ?_
    refine w_iclt_t C (q := 76) at_63 (by decide) (by decide) (by decide) ?_
    refine w_iload C (q := 78) at_76 rfl rfl ?_
    refine w_ifeq_f C (q := 81) at_78 rfl (by decide) ?_
    refine w_aload C (q := 83) at_81 rfl rfl rfl ?_
    refine w_virtual C (q := 86) (y := ⟨"com/example/orderly_dispatch/orderlydispatch/TimerQueue", "isEmpty", "()Z"⟩) (z := ⟨"com/example/orderly_dispatch/orderlydispatch/TimerQueue", "isEmpty", "()Z"⟩) (rm := ({ frames := 0, cells := 0, slots := 0, locals := 0 } : Room)) (a := q) (argsL := []) (hw _ (List.mem_of_getElem? (i := 13) rfl)) (hw _ (List.mem_of_getElem? (i := 14) rfl)) (hw _ (List.mem_of_getElem? (i := 16) rfl)) (hw _ (List.mem_of_getElem? (i := 16) rfl)) (hw _ (List.mem_of_getElem? (i := 15) rfl)) (hw _ (List.mem_of_getElem? (i := 2) rfl)) (hw _ (List.mem_of_getElem? (i := 17) rfl)) hTQ.1 (rmIE l Z a0 hw q _ n0 Z0 ts1.length.toInt32 hTQ.2.2.1) (by decide) (rest := []) (lenOf pd_4 rfl) rfl at_83 rfl rfl (by decide) (Nat.le_of_ble_eq_true rfl) (by decide) (by decide) ?_
    intro v h123 hQ
    obtain ⟨rfl, rfl⟩ := hQ
    rw [hL]
    refine Wk.v1 ?_
    refine w_iload C (q := 88) at_86 rfl rfl ?_
    refine w_ifne_t C (q := 95) at_88 (by decide) (by decide) (by decide) ?_
    refine w_iconst C (q := 96) (0 : Int32) at_95 rfl (by decide) ?_
    refine w_icne_f C (q := 99) at_96 rfl (by decide) ?_
    refine w_iconst C (q := 100) (1 : Int32) at_99 rfl (by decide) ?_
    refine w_goto C (q := 104) at_100 (by decide) (by decide) ?_
    refine w_istore C (q := 106) #[.val (.int p1), .val (.long p2), .second, .val (.long p3), .second, .val (.long p4), .second, .val (.ref q), .val (.int (1 : Int32)), .val (.int (2 : Int32)), .val (.ref t0), .val (.ref t1), .val .null, .unset] at_104 rfl rfl ?_
    refine w_iload C (q := 108) at_106 rfl rfl ?_
    refine w_istore C (q := 110) #[.val (.int p1), .val (.long p2), .second, .val (.long p3), .second, .val (.long p4), .second, .val (.ref q), .val (.int (1 : Int32)), .val (.int (2 : Int32)), .val (.ref t0), .val (.ref t1), .val .null, .val (.int (2 : Int32))] at_108 rfl rfl ?_
    refine w_iload C (q := 112) at_110 rfl rfl ?_
    refine w_iconst C (q := 113) (1 : Int32) at_112 rfl (by decide) ?_
    refine w_iclt_f C (q := 116) at_113 rfl (by decide) ?_
    refine w_iloadN C (q := 117) at_116 rfl rfl ?_
    refine w_iconst C (q := 118) (4 : Int32) at_117 rfl (by decide) ?_
    refine w_iand C (q := 119) at_118 rfl ?_
    refine w_ifeq C (q := 150) (q' := 122) at_119 (by decide) (by decide) rfl (fun hc119 => ?_) (fun hc119 => ?_)
    · refine w_iload C (q := 152) at_150 rfl rfl ?_
      refine w_iconst C (q := 153) (2 : Int32) at_152 rfl (by decide) ?_
      refine w_iclt_f C (q := 156) at_153 rfl (by decide) ?_
      refine w_iloadN C (q := 157) at_156 rfl rfl ?_
      refine w_bipush C (q := 159) (8 : Int32) at_157 rfl (by decide) ?_
      refine w_iand C (q := 160) at_159 rfl ?_
      refine w_ifeq C (q := 191) (q' := 163) at_160 (by decide) (by decide) rfl (fun hc160 => ?_) (fun hc160 => ?_)
      · refine w_iload C (q := 193) at_191 rfl rfl ?_
        refine w_iconst C (q := 194) (3 : Int32) at_193 rfl (by decide) ?_
        refine w_iclt_t C (q := 232) at_194 (by decide) (by decide) (by decide) ?_
        refine w_iload C (q := 234) at_232 rfl rfl ?_
        refine w_ifeq_f C (q := 237) at_234 rfl (by decide) ?_
        refine w_aload C (q := 239) at_237 rfl rfl rfl ?_
        refine w_virtual C (q := 242) (y := ⟨"com/example/orderly_dispatch/orderlydispatch/TimerQueue", "isEmpty", "()Z"⟩) (z := ⟨"com/example/orderly_dispatch/orderlydispatch/TimerQueue", "isEmpty", "()Z"⟩) (rm := ({ frames := 0, cells := 0, slots := 0, locals := 0 } : Room)) (a := q) (argsL := []) (hw _ (List.mem_of_getElem? (i := 13) rfl)) (hw _ (List.mem_of_getElem? (i := 14) rfl)) (hw _ (List.mem_of_getElem? (i := 16) rfl)) (hw _ (List.mem_of_getElem? (i := 16) rfl)) (hw _ (List.mem_of_getElem? (i := 15) rfl)) (hw _ (List.mem_of_getElem? (i := 2) rfl)) (hw _ (List.mem_of_getElem? (i := 17) rfl)) hTQ.1 (rmIE l Z a0 hw q _ n0 Z0 ts1.length.toInt32 hTQ.2.2.1) (by decide) (rest := []) (lenOf pd_4 rfl) rfl at_239 rfl rfl (by decide) (Nat.le_of_ble_eq_true rfl) (by decide) (by decide) ?_
        intro v h124 hQ
        obtain ⟨rfl, rfl⟩ := hQ
        rw [hL]
        refine Wk.v1 ?_
        refine w_iload C (q := 244) at_242 rfl rfl ?_
        refine w_ifne_t C (q := 251) at_244 (by decide) (by decide) (by decide) ?_
        refine w_iconst C (q := 252) (0 : Int32) at_251 rfl (by decide) ?_
        refine w_icne_f C (q := 255) at_252 rfl (by decide) ?_
        refine w_iconst C (q := 256) (1 : Int32) at_255 rfl (by decide) ?_
        refine w_goto C (q := 260) at_256 (by decide) (by decide) ?_
        refine w_istore C (q := 262) #[.val (.int p1), .val (.long p2), .second, .val (.long p3), .second, .val (.long p4), .second, .val (.ref q), .val (.int (1 : Int32)), .val (.int (2 : Int32)), .val (.ref t0), .val (.ref t1), .val .null, .val (.int (2 : Int32))] at_260 rfl rfl ?_
        refine w_iloadN C (q := 263) at_262 rfl rfl ?_
        refine w_bipush C (q := 265) (32 : Int32) at_263 rfl (by decide) ?_
        refine w_iand C (q := 266) at_265 rfl ?_
        refine w_ifeq C (q := 295) (q' := 269) at_266 (by decide) (by decide) rfl (fun hc266 => ?_) (fun hc266 => ?_)
        · refine w_iload C (q := 297) at_295 rfl rfl ?_
          exact w_retN C at_297 (by decide) (by decide) rfl
        · refine w_aload C (q := 271) at_269 rfl rfl rfl ?_
          refine w_virtual C (q := 274) (y := ⟨"com/example/orderly_dispatch/orderlydispatch/TimerQueue", "drain", "()Ljava/util/List;"⟩) (z := ⟨"com/example/orderly_dispatch/orderlydispatch/TimerQueue", "drain", "()Ljava/util/List;"⟩) (rm := ({ frames := 5, cells := 2, slots := 6, locals := 72 } : Room)) (a := q) (argsL := []) (hw _ (List.mem_of_getElem? (i := 76) rfl)) (hw _ (List.mem_of_getElem? (i := 77) rfl)) (hw _ (List.mem_of_getElem? (i := 79) rfl)) (hw _ (List.mem_of_getElem? (i := 79) rfl)) (hw _ (List.mem_of_getElem? (i := 78) rfl)) (hw _ (List.mem_of_getElem? (i := 2) rfl)) (hw _ (List.mem_of_getElem? (i := 80) rfl)) hTQ.1 (rmDr2 l Z a0 hw q _ n0 Z0 b k ts1 hTQ hL e0 OL S0) (by decide) (rest := []) (lenOf pd_10 rfl) rfl at_271 rfl rfl (by decide) (Nat.le_of_ble_eq_true rfl) (by decide) (by decide) ?_
          intro v h125 hQ
          obtain ⟨al, tz, rfl, hTQ', hL', K⟩ := hQ
          replace Z0 := Nat.le_trans Z0 K.1
          replace hTQ := hTQ'
          replace hL := hL'
          clear hTQ' hL' K
          refine Wk.v1 ?_
          refine w_pop C (q := 275) at_274 rfl rfl ?_
          refine w_iload C (q := 277) at_275 rfl rfl ?_
          refine w_ifeq_f C (q := 280) at_277 rfl (by decide) ?_
          refine w_aload C (q := 282) at_280 rfl rfl rfl ?_
          refine w_virtual C (q := 285) (y := ⟨"com/example/orderly_dispatch/orderlydispatch/TimerQueue", "isEmpty", "()Z"⟩) (z := ⟨"com/example/orderly_dispatch/orderlydispatch/TimerQueue", "isEmpty", "()Z"⟩) (rm := ({ frames := 0, cells := 0, slots := 0, locals := 0 } : Room)) (a := q) (argsL := []) (hw _ (List.mem_of_getElem? (i := 13) rfl)) (hw _ (List.mem_of_getElem? (i := 14) rfl)) (hw _ (List.mem_of_getElem? (i := 16) rfl)) (hw _ (List.mem_of_getElem? (i := 16) rfl)) (hw _ (List.mem_of_getElem? (i := 15) rfl)) (hw _ (List.mem_of_getElem? (i := 2) rfl)) (hw _ (List.mem_of_getElem? (i := 17) rfl)) hTQ.1 (rmIE l Z a0 hw q _ n0 Z0 tz.length.toInt32 hTQ.2.2.1) (by decide) (rest := []) (lenOf pd_4 rfl) rfl at_282 rfl rfl (by decide) (Nat.le_of_ble_eq_true rfl) (by decide) (by decide) ?_
          intro v h126 hQ
          obtain ⟨rfl, rfl⟩ := hQ
          rw [hL]
          refine Wk.v1 ?_
          refine w_ifeq_f C (q := 288) at_285 rfl (by decide) ?_
          refine w_iconst C (q := 289) (1 : Int32) at_288 rfl (by decide) ?_
          refine w_goto C (q := 293) at_289 (by decide) (by decide) ?_
          refine w_istore C (q := 295) #[.val (.int p1), .val (.long p2), .second, .val (.long p3), .second, .val (.long p4), .second, .val (.ref q), .val (.int (1 : Int32)), .val (.int (2 : Int32)), .val (.ref t0), .val (.ref t1), .val .null, .val (.int (2 : Int32))] at_293 rfl rfl ?_
          refine w_iload C (q := 297) at_295 rfl rfl ?_
          exact w_retN C at_297 (by decide) (by decide) rfl
      · refine w_iload C (q := 165) at_163 rfl rfl ?_
        refine w_ifeq_f C (q := 168) at_165 rfl (by decide) ?_
        refine w_aload C (q := 170) at_168 rfl rfl rfl ?_
        refine w_aload C (q := 172) at_170 rfl rfl rfl ?_
        obtain ⟨j1, hj1⟩ := List.mem_iff_getElem?.mp m1
        refine w_virtual C (q := 175) (y := ⟨"com/example/orderly_dispatch/orderlydispatch/TimerQueue", "remove", "(Lcom/example/orderly_dispatch/orderlydispatch/TimerQueue$Timer;)Z"⟩) (z := ⟨"com/example/orderly_dispatch/orderlydispatch/TimerQueue", "remove", "(Lcom/example/orderly_dispatch/orderlydispatch/TimerQueue$Timer;)Z"⟩) (rm := ({ frames := 4, cells := 0, slots := 0, locals := 69 } : Room)) (a := q) (argsL := [(.ref t1)]) (hw _ (List.mem_of_getElem? (i := 62) rfl)) (hw _ (List.mem_of_getElem? (i := 63) rfl)) (hw _ (List.mem_of_getElem? (i := 65) rfl)) (hw _ (List.mem_of_getElem? (i := 65) rfl)) (hw _ (List.mem_of_getElem? (i := 64) rfl)) (hw _ (List.mem_of_getElem? (i := 2) rfl)) (hw _ (List.mem_of_getElem? (i := 66) rfl)) hTQ.1 (rmRm l Z a0 hw q t1 _ n0 Z0 b k ts1 j1 hTQ (by rw [hL]; decide) hj1) (by decide) (rest := []) (lenOf pd_12 rfl) rfl at_172 rfl rfl (by decide) (Nat.le_of_ble_eq_true rfl) (by decide) (by decide) ?_
        intro v h127 hQ
        obtain ⟨rfl, tr1, hTQ', hR, K⟩ := hQ
        replace OL := OL.keep K hTQ.above
        replace Z0 := Nat.le_trans Z0 K.1
        replace hL : tr1.length = 1 := by have := hR.1; rw [hL] at this; omega
        replace hTQ := hTQ'
        clear hTQ' hR K
        refine Wk.v1 ?_
        refine w_ifeq_f C (q := 178) at_175 rfl (by decide) ?_
        refine w_iconst C (q := 179) (1 : Int32) at_178 rfl (by decide) ?_
        refine w_goto C (q := 183) at_179 (by decide) (by decide) ?_
        refine w_istore C (q := 185) #[.val (.int p1), .val (.long p2), .second, .val (.long p3), .second, .val (.long p4), .second, .val (.ref q), .val (.int (1 : Int32)), .val (.int (2 : Int32)), .val (.ref t0), .val (.ref t1), .val .null, .val (.int (2 : Int32))] at_183 rfl rfl ?_
        refine w_iload C (q := 187) at_185 rfl rfl ?_
        refine w_iconst C (q := 188) (1 : Int32) at_187 rfl (by decide) ?_
        refine w_isub C (q := 189) at_188 rfl ?_
        refine w_istore C (q := 191) #[.val (.int p1), .val (.long p2), .second, .val (.long p3), .second, .val (.long p4), .second, .val (.ref q), .val (.int (1 : Int32)), .val (.int (2 : Int32)), .val (.ref t0), .val (.ref t1), .val .null, .val (.int (1 : Int32))] at_189 rfl rfl ?_
        refine w_iload C (q := 193) at_191 rfl rfl ?_
        refine w_iconst C (q := 194) (3 : Int32) at_193 rfl (by decide) ?_
        refine w_iclt_t C (q := 232) at_194 (by decide) (by decide) (by decide) ?_
        refine w_iload C (q := 234) at_232 rfl rfl ?_
        refine w_ifeq_f C (q := 237) at_234 rfl (by decide) ?_
        refine w_aload C (q := 239) at_237 rfl rfl rfl ?_
        refine w_virtual C (q := 242) (y := ⟨"com/example/orderly_dispatch/orderlydispatch/TimerQueue", "isEmpty", "()Z"⟩) (z := ⟨"com/example/orderly_dispatch/orderlydispatch/TimerQueue", "isEmpty", "()Z"⟩) (rm := ({ frames := 0, cells := 0, slots := 0, locals := 0 } : Room)) (a := q) (argsL := []) (hw _ (List.mem_of_getElem? (i := 13) rfl)) (hw _ (List.mem_of_getElem? (i := 14) rfl)) (hw _ (List.mem_of_getElem? (i := 16) rfl)) (hw _ (List.mem_of_getElem? (i := 16) rfl)) (hw _ (List.mem_of_getElem? (i := 15) rfl)) (hw _ (List.mem_of_getElem? (i := 2) rfl)) (hw _ (List.mem_of_getElem? (i := 17) rfl)) hTQ.1 (rmIE l Z a0 hw q _ n0 Z0 tr1.length.toInt32 hTQ.2.2.1) (by decide) (rest := []) (lenOf pd_4 rfl) rfl at_239 rfl rfl (by decide) (Nat.le_of_ble_eq_true rfl) (by decide) (by decide) ?_
        intro v h128 hQ
        obtain ⟨rfl, rfl⟩ := hQ
        rw [hL]
        refine Wk.v1 ?_
        refine w_iload C (q := 244) at_242 rfl rfl ?_
        refine w_ifne_t C (q := 251) at_244 (by decide) (by decide) (by decide) ?_
        refine w_iconst C (q := 252) (0 : Int32) at_251 rfl (by decide) ?_
        refine w_icne_f C (q := 255) at_252 rfl (by decide) ?_
        refine w_iconst C (q := 256) (1 : Int32) at_255 rfl (by decide) ?_
        refine w_goto C (q := 260) at_256 (by decide) (by decide) ?_
        refine w_istore C (q := 262) #[.val (.int p1), .val (.long p2), .second, .val (.long p3), .second, .val (.long p4), .second, .val (.ref q), .val (.int (1 : Int32)), .val (.int (2 : Int32)), .val (.ref t0), .val (.ref t1), .val .null, .val (.int (1 : Int32))] at_260 rfl rfl ?_
        refine w_iloadN C (q := 263) at_262 rfl rfl ?_
        refine w_bipush C (q := 265) (32 : Int32) at_263 rfl (by decide) ?_
        refine w_iand C (q := 266) at_265 rfl ?_
        refine w_ifeq C (q := 295) (q' := 269) at_266 (by decide) (by decide) rfl (fun hc266 => ?_) (fun hc266 => ?_)
        · refine w_iload C (q := 297) at_295 rfl rfl ?_
          exact w_retN C at_297 (by decide) (by decide) rfl
        · refine w_aload C (q := 271) at_269 rfl rfl rfl ?_
          refine w_virtual C (q := 274) (y := ⟨"com/example/orderly_dispatch/orderlydispatch/TimerQueue", "drain", "()Ljava/util/List;"⟩) (z := ⟨"com/example/orderly_dispatch/orderlydispatch/TimerQueue", "drain", "()Ljava/util/List;"⟩) (rm := ({ frames := 5, cells := 2, slots := 6, locals := 72 } : Room)) (a := q) (argsL := []) (hw _ (List.mem_of_getElem? (i := 76) rfl)) (hw _ (List.mem_of_getElem? (i := 77) rfl)) (hw _ (List.mem_of_getElem? (i := 79) rfl)) (hw _ (List.mem_of_getElem? (i := 79) rfl)) (hw _ (List.mem_of_getElem? (i := 78) rfl)) (hw _ (List.mem_of_getElem? (i := 2) rfl)) (hw _ (List.mem_of_getElem? (i := 80) rfl)) hTQ.1 (rmDr1 l Z a0 hw q _ n0 Z0 b k tr1 hTQ hL e0 OL S0) (by decide) (rest := []) (lenOf pd_10 rfl) rfl at_271 rfl rfl (by decide) (Nat.le_of_ble_eq_true rfl) (by decide) (by decide) ?_
          intro v h129 hQ
          obtain ⟨al, tz, rfl, hTQ', hL', K⟩ := hQ
          replace Z0 := Nat.le_trans Z0 K.1
          replace hTQ := hTQ'
          replace hL := hL'
          clear hTQ' hL' K
          refine Wk.v1 ?_
          refine w_pop C (q := 275) at_274 rfl rfl ?_
          refine w_iload C (q := 277) at_275 rfl rfl ?_
          refine w_ifeq_f C (q := 280) at_277 rfl (by decide) ?_
          refine w_aload C (q := 282) at_280 rfl rfl rfl ?_
          refine w_virtual C (q := 285) (y := ⟨"com/example/orderly_dispatch/orderlydispatch/TimerQueue", "isEmpty", "()Z"⟩) (z := ⟨"com/example/orderly_dispatch/orderlydispatch/TimerQueue", "isEmpty", "()Z"⟩) (rm := ({ frames := 0, cells := 0, slots := 0, locals := 0 } : Room)) (a := q) (argsL := []) (hw _ (List.mem_of_getElem? (i := 13) rfl)) (hw _ (List.mem_of_getElem? (i := 14) rfl)) (hw _ (List.mem_of_getElem? (i := 16) rfl)) (hw _ (List.mem_of_getElem? (i := 16) rfl)) (hw _ (List.mem_of_getElem? (i := 15) rfl)) (hw _ (List.mem_of_getElem? (i := 2) rfl)) (hw _ (List.mem_of_getElem? (i := 17) rfl)) hTQ.1 (rmIE l Z a0 hw q _ n0 Z0 tz.length.toInt32 hTQ.2.2.1) (by decide) (rest := []) (lenOf pd_4 rfl) rfl at_282 rfl rfl (by decide) (Nat.le_of_ble_eq_true rfl) (by decide) (by decide) ?_
          intro v h130 hQ
          obtain ⟨rfl, rfl⟩ := hQ
          rw [hL]
          refine Wk.v1 ?_
          refine w_ifeq_f C (q := 288) at_285 rfl (by decide) ?_
          refine w_iconst C (q := 289) (1 : Int32) at_288 rfl (by decide) ?_
          refine w_goto C (q := 293) at_289 (by decide) (by decide) ?_
          refine w_istore C (q := 295) #[.val (.int p1), .val (.long p2), .second, .val (.long p3), .second, .val (.long p4), .second, .val (.ref q), .val (.int (1 : Int32)), .val (.int (2 : Int32)), .val (.ref t0), .val (.ref t1), .val .null, .val (.int (1 : Int32))] at_293 rfl rfl ?_
          refine w_iload C (q := 297) at_295 rfl rfl ?_
          exact w_retN C at_297 (by decide) (by decide) rfl
    · refine w_iload C (q := 124) at_122 rfl rfl ?_
      refine w_ifeq_f C (q := 127) at_124 rfl (by decide) ?_
      refine w_aload C (q := 129) at_127 rfl rfl rfl ?_
      refine w_aload C (q := 131) at_129 rfl rfl rfl ?_
      obtain ⟨j0, hj0⟩ := List.mem_iff_getElem?.mp m0
      refine w_virtual C (q := 134) (y := ⟨"com/example/orderly_dispatch/orderlydispatch/TimerQueue", "remove", "(Lcom/example/orderly_dispatch/orderlydispatch/TimerQueue$Timer;)Z"⟩) (z := ⟨"com/example/orderly_dispatch/orderlydispatch/TimerQueue", "remove", "(Lcom/example/orderly_dispatch/orderlydispatch/TimerQueue$Timer;)Z"⟩) (rm := ({ frames := 4, cells := 0, slots := 0, locals := 69 } : Room)) (a := q) (argsL := [(.ref t0)]) (hw _ (List.mem_of_getElem? (i := 62) rfl)) (hw _ (List.mem_of_getElem? (i := 63) rfl)) (hw _ (List.mem_of_getElem? (i := 65) rfl)) (hw _ (List.mem_of_getElem? (i := 65) rfl)) (hw _ (List.mem_of_getElem? (i := 64) rfl)) (hw _ (List.mem_of_getElem? (i := 2) rfl)) (hw _ (List.mem_of_getElem? (i := 66) rfl)) hTQ.1 (rmRm l Z a0 hw q t0 _ n0 Z0 b k ts1 j0 hTQ (by rw [hL]; decide) hj0) (by decide) (rest := []) (lenOf pd_12 rfl) rfl at_131 rfl rfl (by decide) (Nat.le_of_ble_eq_true rfl) (by decide) (by decide) ?_
      intro v h131 hQ
      obtain ⟨rfl, tr2, hTQ', hR, K⟩ := hQ
      replace OL := OL.keep K hTQ.above
      replace Z0 := Nat.le_trans Z0 K.1
      replace m1 := hR.2.1 t1 m1 (Ne.symm d01)
      replace hL : tr2.length = 1 := by have := hR.1; rw [hL] at this; omega
      replace hTQ := hTQ'
      clear hTQ' hR K
      refine Wk.v1 ?_
      refine w_ifeq_f C (q := 137) at_134 rfl (by decide) ?_
      refine w_iconst C (q := 138) (1 : Int32) at_137 rfl (by decide) ?_
      refine w_goto C (q := 142) at_138 (by decide) (by decide) ?_
      refine w_istore C (q := 144) #[.val (.int p1), .val (.long p2), .second, .val (.long p3), .second, .val (.long p4), .second, .val (.ref q), .val (.int (1 : Int32)), .val (.int (2 : Int32)), .val (.ref t0), .val (.ref t1), .val .null, .val (.int (2 : Int32))] at_142 rfl rfl ?_
      refine w_iload C (q := 146) at_144 rfl rfl ?_
      refine w_iconst C (q := 147) (1 : Int32) at_146 rfl (by decide) ?_
      refine w_isub C (q := 148) at_147 rfl ?_
      refine w_istore C (q := 150) #[.val (.int p1), .val (.long p2), .second, .val (.long p3), .second, .val (.long p4), .second, .val (.ref q), .val (.int (1 : Int32)), .val (.int (2 : Int32)), .val (.ref t0), .val (.ref t1), .val .null, .val (.int (1 : Int32))] at_148 rfl rfl ?_
      refine w_iload C (q := 152) at_150 rfl rfl ?_
      refine w_iconst C (q := 153) (2 : Int32) at_152 rfl (by decide) ?_
      refine w_iclt_f C (q := 156) at_153 rfl (by decide) ?_
      refine w_iloadN C (q := 157) at_156 rfl rfl ?_
      refine w_bipush C (q := 159) (8 : Int32) at_157 rfl (by decide) ?_
      refine w_iand C (q := 160) at_159 rfl ?_
      refine w_ifeq C (q := 191) (q' := 163) at_160 (by decide) (by decide) rfl (fun hc160 => ?_) (fun hc160 => ?_)
      · refine w_iload C (q := 193) at_191 rfl rfl ?_
        refine w_iconst C (q := 194) (3 : Int32) at_193 rfl (by decide) ?_
        refine w_iclt_t C (q := 232) at_194 (by decide) (by decide) (by decide) ?_
        refine w_iload C (q := 234) at_232 rfl rfl ?_
        refine w_ifeq_f C (q := 237) at_234 rfl (by decide) ?_
        refine w_aload C (q := 239) at_237 rfl rfl rfl ?_
        refine w_virtual C (q := 242) (y := ⟨"com/example/orderly_dispatch/orderlydispatch/TimerQueue", "isEmpty", "()Z"⟩) (z := ⟨"com/example/orderly_dispatch/orderlydispatch/TimerQueue", "isEmpty", "()Z"⟩) (rm := ({ frames := 0, cells := 0, slots := 0, locals := 0 } : Room)) (a := q) (argsL := []) (hw _ (List.mem_of_getElem? (i := 13) rfl)) (hw _ (List.mem_of_getElem? (i := 14) rfl)) (hw _ (List.mem_of_getElem? (i := 16) rfl)) (hw _ (List.mem_of_getElem? (i := 16) rfl)) (hw _ (List.mem_of_getElem? (i := 15) rfl)) (hw _ (List.mem_of_getElem? (i := 2) rfl)) (hw _ (List.mem_of_getElem? (i := 17) rfl)) hTQ.1 (rmIE l Z a0 hw q _ n0 Z0 tr2.length.toInt32 hTQ.2.2.1) (by decide) (rest := []) (lenOf pd_4 rfl) rfl at_239 rfl rfl (by decide) (Nat.le_of_ble_eq_true rfl) (by decide) (by decide) ?_
        intro v h132 hQ
        obtain ⟨rfl, rfl⟩ := hQ
        rw [hL]
        refine Wk.v1 ?_
        refine w_iload C (q := 244) at_242 rfl rfl ?_
        refine w_ifne_t C (q := 251) at_244 (by decide) (by decide) (by decide) ?_
        refine w_iconst C (q := 252) (0 : Int32) at_251 rfl (by decide) ?_
        refine w_icne_f C (q := 255) at_252 rfl (by decide) ?_
        refine w_iconst C (q := 256) (1 : Int32) at_255 rfl (by decide) ?_
        refine w_goto C (q := 260) at_256 (by decide) (by decide) ?_
        refine w_istore C (q := 262) #[.val (.int p1), .val (.long p2), .second, .val (.long p3), .second, .val (.long p4), .second, .val (.ref q), .val (.int (1 : Int32)), .val (.int (2 : Int32)), .val (.ref t0), .val (.ref t1), .val .null, .val (.int (1 : Int32))] at_260 rfl rfl ?_
        refine w_iloadN C (q := 263) at_262 rfl rfl ?_
        refine w_bipush C (q := 265) (32 : Int32) at_263 rfl (by decide) ?_
        refine w_iand C (q := 266) at_265 rfl ?_
        refine w_ifeq C (q := 295) (q' := 269) at_266 (by decide) (by decide) rfl (fun hc266 => ?_) (fun hc266 => ?_)
        · refine w_iload C (q := 297) at_295 rfl rfl ?_
          exact w_retN C at_297 (by decide) (by decide) rfl
        · refine w_aload C (q := 271) at_269 rfl rfl rfl ?_
          refine w_virtual C (q := 274) (y := ⟨"com/example/orderly_dispatch/orderlydispatch/TimerQueue", "drain", "()Ljava/util/List;"⟩) (z := ⟨"com/example/orderly_dispatch/orderlydispatch/TimerQueue", "drain", "()Ljava/util/List;"⟩) (rm := ({ frames := 5, cells := 2, slots := 6, locals := 72 } : Room)) (a := q) (argsL := []) (hw _ (List.mem_of_getElem? (i := 76) rfl)) (hw _ (List.mem_of_getElem? (i := 77) rfl)) (hw _ (List.mem_of_getElem? (i := 79) rfl)) (hw _ (List.mem_of_getElem? (i := 79) rfl)) (hw _ (List.mem_of_getElem? (i := 78) rfl)) (hw _ (List.mem_of_getElem? (i := 2) rfl)) (hw _ (List.mem_of_getElem? (i := 80) rfl)) hTQ.1 (rmDr1 l Z a0 hw q _ n0 Z0 b k tr2 hTQ hL e0 OL S0) (by decide) (rest := []) (lenOf pd_10 rfl) rfl at_271 rfl rfl (by decide) (Nat.le_of_ble_eq_true rfl) (by decide) (by decide) ?_
          intro v h133 hQ
          obtain ⟨al, tz, rfl, hTQ', hL', K⟩ := hQ
          replace Z0 := Nat.le_trans Z0 K.1
          replace hTQ := hTQ'
          replace hL := hL'
          clear hTQ' hL' K
          refine Wk.v1 ?_
          refine w_pop C (q := 275) at_274 rfl rfl ?_
          refine w_iload C (q := 277) at_275 rfl rfl ?_
          refine w_ifeq_f C (q := 280) at_277 rfl (by decide) ?_
          refine w_aload C (q := 282) at_280 rfl rfl rfl ?_
          refine w_virtual C (q := 285) (y := ⟨"com/example/orderly_dispatch/orderlydispatch/TimerQueue", "isEmpty", "()Z"⟩) (z := ⟨"com/example/orderly_dispatch/orderlydispatch/TimerQueue", "isEmpty", "()Z"⟩) (rm := ({ frames := 0, cells := 0, slots := 0, locals := 0 } : Room)) (a := q) (argsL := []) (hw _ (List.mem_of_getElem? (i := 13) rfl)) (hw _ (List.mem_of_getElem? (i := 14) rfl)) (hw _ (List.mem_of_getElem? (i := 16) rfl)) (hw _ (List.mem_of_getElem? (i := 16) rfl)) (hw _ (List.mem_of_getElem? (i := 15) rfl)) (hw _ (List.mem_of_getElem? (i := 2) rfl)) (hw _ (List.mem_of_getElem? (i := 17) rfl)) hTQ.1 (rmIE l Z a0 hw q _ n0 Z0 tz.length.toInt32 hTQ.2.2.1) (by decide) (rest := []) (lenOf pd_4 rfl) rfl at_282 rfl rfl (by decide) (Nat.le_of_ble_eq_true rfl) (by decide) (by decide) ?_
          intro v h134 hQ
          obtain ⟨rfl, rfl⟩ := hQ
          rw [hL]
          refine Wk.v1 ?_
          refine w_ifeq_f C (q := 288) at_285 rfl (by decide) ?_
          refine w_iconst C (q := 289) (1 : Int32) at_288 rfl (by decide) ?_
          refine w_goto C (q := 293) at_289 (by decide) (by decide) ?_
          refine w_istore C (q := 295) #[.val (.int p1), .val (.long p2), .second, .val (.long p3), .second, .val (.long p4), .second, .val (.ref q), .val (.int (1 : Int32)), .val (.int (2 : Int32)), .val (.ref t0), .val (.ref t1), .val .null, .val (.int (1 : Int32))] at_293 rfl rfl ?_
          refine w_iload C (q := 297) at_295 rfl rfl ?_
          exact w_retN C at_297 (by decide) (by decide) rfl
      · refine w_iload C (q := 165) at_163 rfl rfl ?_
        refine w_ifeq_f C (q := 168) at_165 rfl (by decide) ?_
        refine w_aload C (q := 170) at_168 rfl rfl rfl ?_
        refine w_aload C (q := 172) at_170 rfl rfl rfl ?_
        obtain ⟨j1, hj1⟩ := List.mem_iff_getElem?.mp m1
        refine w_virtual C (q := 175) (y := ⟨"com/example/orderly_dispatch/orderlydispatch/TimerQueue", "remove", "(Lcom/example/orderly_dispatch/orderlydispatch/TimerQueue$Timer;)Z"⟩) (z := ⟨"com/example/orderly_dispatch/orderlydispatch/TimerQueue", "remove", "(Lcom/example/orderly_dispatch/orderlydispatch/TimerQueue$Timer;)Z"⟩) (rm := ({ frames := 4, cells := 0, slots := 0, locals := 69 } : Room)) (a := q) (argsL := [(.ref t1)]) (hw _ (List.mem_of_getElem? (i := 62) rfl)) (hw _ (List.mem_of_getElem? (i := 63) rfl)) (hw _ (List.mem_of_getElem? (i := 65) rfl)) (hw _ (List.mem_of_getElem? (i := 65) rfl)) (hw _ (List.mem_of_getElem? (i := 64) rfl)) (hw _ (List.mem_of_getElem? (i := 2) rfl)) (hw _ (List.mem_of_getElem? (i := 66) rfl)) hTQ.1 (rmRm l Z a0 hw q t1 _ n0 Z0 b k tr2 j1 hTQ (by rw [hL]; decide) hj1) (by decide) (rest := []) (lenOf pd_12 rfl) rfl at_172 rfl rfl (by decide) (Nat.le_of_ble_eq_true rfl) (by decide) (by decide) ?_
        intro v h135 hQ
        obtain ⟨rfl, tr3, hTQ', hR, K⟩ := hQ
        replace OL := OL.keep K hTQ.above
        replace Z0 := Nat.le_trans Z0 K.1
        replace hL : tr3.length = 0 := by have := hR.1; rw [hL] at this; omega
        replace hTQ := hTQ'
        clear hTQ' hR K
        refine Wk.v1 ?_
        refine w_ifeq_f C (q := 178) at_175 rfl (by decide) ?_
        refine w_iconst C (q := 179) (1 : Int32) at_178 rfl (by decide) ?_
        refine w_goto C (q := 183) at_179 (by decide) (by decide) ?_
        refine w_istore C (q := 185) #[.val (.int p1), .val (.long p2), .second, .val (.long p3), .second, .val (.long p4), .second, .val (.ref q), .val (.int (1 : Int32)), .val (.int (2 : Int32)), .val (.ref t0), .val (.ref t1), .val .null, .val (.int (1 : Int32))] at_183 rfl rfl ?_
        refine w_iload C (q := 187) at_185 rfl rfl ?_
        refine w_iconst C (q := 188) (1 : Int32) at_187 rfl (by decide) ?_
        refine w_isub C (q := 189) at_188 rfl ?_
        refine w_istore C (q := 191) #[.val (.int p1), .val (.long p2), .second, .val (.long p3), .second, .val (.long p4), .second, .val (.ref q), .val (.int (1 : Int32)), .val (.int (2 : Int32)), .val (.ref t0), .val (.ref t1), .val .null, .val (.int (0 : Int32))] at_189 rfl rfl ?_
        refine w_iload C (q := 193) at_191 rfl rfl ?_
        refine w_iconst C (q := 194) (3 : Int32) at_193 rfl (by decide) ?_
        refine w_iclt_t C (q := 232) at_194 (by decide) (by decide) (by decide) ?_
        refine w_iload C (q := 234) at_232 rfl rfl ?_
        refine w_ifeq_f C (q := 237) at_234 rfl (by decide) ?_
        refine w_aload C (q := 239) at_237 rfl rfl rfl ?_
        refine w_virtual C (q := 242) (y := ⟨"com/example/orderly_dispatch/orderlydispatch/TimerQueue", "isEmpty", "()Z"⟩) (z := ⟨"com/example/orderly_dispatch/orderlydispatch/TimerQueue", "isEmpty", "()Z"⟩) (rm := ({ frames := 0, cells := 0, slots := 0, locals := 0 } : Room)) (a := q) (argsL := []) (hw _ (List.mem_of_getElem? (i := 13) rfl)) (hw _ (List.mem_of_getElem? (i := 14) rfl)) (hw _ (List.mem_of_getElem? (i := 16) rfl)) (hw _ (List.mem_of_getElem? (i := 16) rfl)) (hw _ (List.mem_of_getElem? (i := 15) rfl)) (hw _ (List.mem_of_getElem? (i := 2) rfl)) (hw _ (List.mem_of_getElem? (i := 17) rfl)) hTQ.1 (rmIE l Z a0 hw q _ n0 Z0 tr3.length.toInt32 hTQ.2.2.1) (by decide) (rest := []) (lenOf pd_4 rfl) rfl at_239 rfl rfl (by decide) (Nat.le_of_ble_eq_true rfl) (by decide) (by decide) ?_
        intro v h136 hQ
        obtain ⟨rfl, rfl⟩ := hQ
        rw [hL]
        refine Wk.v1 ?_
        refine w_iload C (q := 244) at_242 rfl rfl ?_
        refine w_ifne_f C (q := 247) at_244 rfl (by decide) ?_
        refine w_iconst C (q := 248) (1 : Int32) at_247 rfl (by decide) ?_
        refine w_goto C (q := 252) at_248 (by decide) (by decide) ?_
        refine w_icne_f C (q := 255) at_252 rfl (by decide) ?_
        refine w_iconst C (q := 256) (1 : Int32) at_255 rfl (by decide) ?_
        refine w_goto C (q := 260) at_256 (by decide) (by decide) ?_
        refine w_istore C (q := 262) #[.val (.int p1), .val (.long p2), .second, .val (.long p3), .second, .val (.long p4), .second, .val (.ref q), .val (.int (1 : Int32)), .val (.int (2 : Int32)), .val (.ref t0), .val (.ref t1), .val .null, .val (.int (0 : Int32))] at_260 rfl rfl ?_
        refine w_iloadN C (q := 263) at_262 rfl rfl ?_
        refine w_bipush C (q := 265) (32 : Int32) at_263 rfl (by decide) ?_
        refine w_iand C (q := 266) at_265 rfl ?_
        refine w_ifeq C (q := 295) (q' := 269) at_266 (by decide) (by decide) rfl (fun hc266 => ?_) (fun hc266 => ?_)
        · refine w_iload C (q := 297) at_295 rfl rfl ?_
          exact w_retN C at_297 (by decide) (by decide) rfl
        · refine w_aload C (q := 271) at_269 rfl rfl rfl ?_
          refine w_virtual C (q := 274) (y := ⟨"com/example/orderly_dispatch/orderlydispatch/TimerQueue", "drain", "()Ljava/util/List;"⟩) (z := ⟨"com/example/orderly_dispatch/orderlydispatch/TimerQueue", "drain", "()Ljava/util/List;"⟩) (rm := ({ frames := 5, cells := 2, slots := 6, locals := 72 } : Room)) (a := q) (argsL := []) (hw _ (List.mem_of_getElem? (i := 76) rfl)) (hw _ (List.mem_of_getElem? (i := 77) rfl)) (hw _ (List.mem_of_getElem? (i := 79) rfl)) (hw _ (List.mem_of_getElem? (i := 79) rfl)) (hw _ (List.mem_of_getElem? (i := 78) rfl)) (hw _ (List.mem_of_getElem? (i := 2) rfl)) (hw _ (List.mem_of_getElem? (i := 80) rfl)) hTQ.1 (rmDr0 l Z a0 hw q _ n0 Z0 b k tr3 hTQ hL e0 OL S0) (by decide) (rest := []) (lenOf pd_10 rfl) rfl at_271 rfl rfl (by decide) (Nat.le_of_ble_eq_true rfl) (by decide) (by decide) ?_
          intro v h137 hQ
          obtain ⟨al, tz, rfl, hTQ', hL', K⟩ := hQ
          replace Z0 := Nat.le_trans Z0 K.1
          replace hTQ := hTQ'
          replace hL := hL'
          clear hTQ' hL' K
          refine Wk.v1 ?_
          refine w_pop C (q := 275) at_274 rfl rfl ?_
          refine w_iload C (q := 277) at_275 rfl rfl ?_
          refine w_ifeq_f C (q := 280) at_277 rfl (by decide) ?_
          refine w_aload C (q := 282) at_280 rfl rfl rfl ?_
          refine w_virtual C (q := 285) (y := ⟨"com/example/orderly_dispatch/orderlydispatch/TimerQueue", "isEmpty", "()Z"⟩) (z := ⟨"com/example/orderly_dispatch/orderlydispatch/TimerQueue", "isEmpty", "()Z"⟩) (rm := ({ frames := 0, cells := 0, slots := 0, locals := 0 } : Room)) (a := q) (argsL := []) (hw _ (List.mem_of_getElem? (i := 13) rfl)) (hw _ (List.mem_of_getElem? (i := 14) rfl)) (hw _ (List.mem_of_getElem? (i := 16) rfl)) (hw _ (List.mem_of_getElem? (i := 16) rfl)) (hw _ (List.mem_of_getElem? (i := 15) rfl)) (hw _ (List.mem_of_getElem? (i := 2) rfl)) (hw _ (List.mem_of_getElem? (i := 17) rfl)) hTQ.1 (rmIE l Z a0 hw q _ n0 Z0 tz.length.toInt32 hTQ.2.2.1) (by decide) (rest := []) (lenOf pd_4 rfl) rfl at_282 rfl rfl (by decide) (Nat.le_of_ble_eq_true rfl) (by decide) (by decide) ?_
          intro v h138 hQ
          obtain ⟨rfl, rfl⟩ := hQ
          rw [hL]
          refine Wk.v1 ?_
          refine w_ifeq_f C (q := 288) at_285 rfl (by decide) ?_
          refine w_iconst C (q := 289) (1 : Int32) at_288 rfl (by decide) ?_
          refine w_goto C (q := 293) at_289 (by decide) (by decide) ?_
          refine w_istore C (q := 295) #[.val (.int p1), .val (.long p2), .second, .val (.long p3), .second, .val (.long p4), .second, .val (.ref q), .val (.int (1 : Int32)), .val (.int (2 : Int32)), .val (.ref t0), .val (.ref t1), .val .null, .val (.int (0 : Int32))] at_293 rfl rfl ?_
          refine w_iload C (q := 297) at_295 rfl rfl ?_
          exact w_retN C at_297 (by decide) (by decide) rfl
  · rw [hi]
    refine w_iclt_f C (q := 36) at_33 rfl (by decide) ?_
    refine w_aload C (q := 38) at_36 rfl rfl rfl ?_
    refine w_aconstNull C (q := 39) at_38 rfl ?_
    refine w_lloadN C (q := 40) at_39 rfl rfl ?_
    refine w_virtual C (q := 43) (y := ⟨"com/example/orderly_dispatch/orderlydispatch/TimerQueue", "add", "(Ljava/lang/Runnable;J)Lcom/example/orderly_dispatch/orderlydispatch/TimerQueue$Timer;"⟩) (z := ⟨"com/example/orderly_dispatch/orderlydispatch/TimerQueue", "add", "(Ljava/lang/Runnable;J)Lcom/example/orderly_dispatch/orderlydispatch/TimerQueue$Timer;"⟩) (rm := ({ frames := 3, cells := 1, slots := 5, locals := 50 } : Room)) (a := q) (argsL := [.null, (.long p2)]) (hw _ (List.mem_of_getElem? (i := 20) rfl)) (hw _ (List.mem_of_getElem? (i := 21) rfl)) (hw _ (List.mem_of_getElem? (i := 23) rfl)) (hw _ (List.mem_of_getElem? (i := 23) rfl)) (hw _ (List.mem_of_getElem? (i := 22) rfl)) (hw _ (List.mem_of_getElem? (i := 2) rfl)) (hw _ (List.mem_of_getElem? (i := 24) rfl)) hTQ.1 (rmAdd l Z a0 hw q p2 _ n0 Z0 b k [] hTQ (by decide)) (by decide) (rest := []) (lenOf pd_11 rfl) rfl at_40 rfl rfl (by decide) (Nat.le_of_ble_eq_true rfl) (by decide) (by decide) ?_
    intro v h139 hQ
    obtain ⟨t0, ts0, rfl, hTQ', hI, ht0, K⟩ := hQ
    replace OL := OL.keep K hTQ.above
    replace Z0 := Nat.le_trans Z0 K.1
    have m0 := hI.2.1
    have hL : ts0.length = 1 := by have := hI.1; simp at this; omega
    replace hTQ := hTQ'
    clear hTQ' hI K ht0
    refine Wk.v1 ?_
    refine w_astore C (q := 45) #[.val (.int p1), .val (.long p2), .second, .val (.long p3), .second, .val (.long p4), .second, .val (.ref q), .val (.int (1 : Int32)), .val (.int (3 : Int32)), .val (.ref t0), .val .null, .val .null, .unset] at_43 rfl rfl rfl ?_
    refine w_iload C (q := 47) at_45 rfl rfl ?_
    refine w_iconst C (q := 48) (2 : Int32) at_47 rfl (by decide) ?_
    refine w_iclt_f C (q := 51) at_48 rfl (by decide) ?_
    refine w_aload C (q := 53) at_51 rfl rfl rfl ?_
    refine w_aconstNull C (q := 54) at_53 rfl ?_
    refine w_lloadN C (q := 55) at_54 rfl rfl ?_
    refine w_virtual C (q := 58) (y := ⟨"com/example/orderly_dispatch/orderlydispatch/TimerQueue", "add", "(Ljava/lang/Runnable;J)Lcom/example/orderly_dispatch/orderlydispatch/TimerQueue$Timer;"⟩) (z := ⟨"com/example/orderly_dispatch/orderlydispatch/TimerQueue", "add", "(Ljava/lang/Runnable;J)Lcom/example/orderly_dispatch/orderlydispatch/TimerQueue$Timer;"⟩) (rm := ({ frames := 3, cells := 1, slots := 5, locals := 50 } : Room)) (a := q) (argsL := [.null, (.long p3)]) (hw _ (List.mem_of_getElem? (i := 20) rfl)) (hw _ (List.mem_of_getElem? (i := 21) rfl)) (hw _ (List.mem_of_getElem? (i := 23) rfl)) (hw _ (List.mem_of_getElem? (i := 23) rfl)) (hw _ (List.mem_of_getElem? (i := 22) rfl)) (hw _ (List.mem_of_getElem? (i := 2) rfl)) (hw _ (List.mem_of_getElem? (i := 24) rfl)) hTQ.1 (rmAdd l Z a0 hw q p3 _ n0 Z0 b k ts0 hTQ (by rw [hL]; decide)) (by decide) (rest := []) (lenOf pd_11 rfl) rfl at_55 rfl rfl (by decide) (Nat.le_of_ble_eq_true rfl) (by decide) (by decide) ?_
    intro v h140 hQ
    obtain ⟨t1, ts1, rfl, hTQ', hI, ht1, K⟩ := hQ
    have d01 : t0 ≠ t1 := Nat.ne_of_lt (Nat.lt_of_lt_of_le (hTQ.lt t0 (List.mem_cons_of_mem _ (List.mem_cons_of_mem _ m0))) ht1)
    replace OL := OL.keep K hTQ.above
    replace Z0 := Nat.le_trans Z0 K.1
    replace m0 := hI.2.2 t0 m0
    have m1 := hI.2.1
    replace hL : ts1.length = 2 := by have := hI.1; rw [hL] at this; omega
    replace hTQ := hTQ'
    clear hTQ' hI K ht1
    refine Wk.v1 ?_
    refine w_astore C (q := 60) #[.val (.int p1), .val (.long p2), .second, .val (.long p3), .second, .val (.long p4), .second, .val (.ref q), .val (.int (1 : Int32)), .val (.int (3 : Int32)), .val (.ref t0), .val (.ref t1), .val .null, .unset] at_58 rfl rfl rfl ?_
    refine w_iload C (q := 62) at_60 rfl rfl ?_
    refine w_iconst C (q := 63) (3 : Int32) at_62 rfl (by decide) ?_
    refine w_iclt_f C (q := 66) at_63 rfl (by decide) ?_
    refine w_aload C (q := 68) at_66 rfl rfl rfl ?_
    refine w_aconstNull C (q := 69) at_68 rfl ?_
    refine w_lload C (q := 71) at_69 rfl rfl ?_
    refine w_virtual C (q := 74) (y := ⟨"com/example/orderly_dispatch/orderlydispatch/TimerQueue", "add", "(Ljava/lang/Runnable;J)Lcom/example/orderly_dispatch/orderlydispatch/TimerQueue$Timer;"⟩) (z := ⟨"com/example/orderly_dispatch/orderlydispatch/TimerQueue", "add", "(Ljava/lang/Runnable;J)Lcom/example/orderly_dispatch/orderlydispatch/TimerQueue$Timer;"⟩) (rm := ({ frames := 3, cells := 1, slots := 5, locals := 50 } : Room)) (a := q) (argsL := [.null, (.long p4)]) (hw _ (List.mem_of_getElem? (i := 20) rfl)) (hw _ (List.mem_of_getElem? (i := 21) rfl)) (hw _ (List.mem_of_getElem? (i := 23) rfl)) (hw _ (List.mem_of_getElem? (i := 23) rfl)) (hw _ (List.mem_of_getElem? (i := 22) rfl)) (hw _ (List.mem_of_getElem? (i := 2) rfl)) (hw _ (List.mem_of_getElem? (i := 24) rfl)) hTQ.1 (rmAdd l Z a0 hw q p4 _ n0 Z0 b k ts1 hTQ (by rw [hL]; decide)) (by decide) (rest := []) (lenOf pd_11 rfl) rfl at_71 rfl rfl (by decide) (Nat.le_of_ble_eq_true rfl) (by decide) (by decide) ?_
    intro v h141 hQ
    obtain ⟨t2, ts2, rfl, hTQ', hI, ht2, K⟩ := hQ
    have d02 : t0 ≠ t2 := Nat.ne_of_lt (Nat.lt_of_lt_of_le (hTQ.lt t0 (List.mem_cons_of_mem _ (List.mem_cons_of_mem _ m0))) ht2)
    have d12 : t1 ≠ t2 := Nat.ne_of_lt (Nat.lt_of_lt_of_le (hTQ.lt t1 (List.mem_cons_of_mem _ (List.mem_cons_of_mem _ m1))) ht2)
    replace OL := OL.keep K hTQ.above
    replace Z0 := Nat.le_trans Z0 K.1
    replace m0 := hI.2.2 t0 m0
    replace m1 := hI.2.2 t1 m1
    have m2 := hI.2.1
    replace hL : ts2.length = 3 := by have := hI.1; rw [hL] at this; omega
    replace hTQ := hTQ'
    clear hTQ' hI K ht2
    refine Wk.v1 ?_
    refine w_astore C (q := 76) #[.val (.int p1), .val (.long p2), .second, .val (.long p3), .second, .val (.long p4), .second, .val (.ref q), .val (.int (1 : Int32)), .val (.int (3 : Int32)), .val (.ref t0), .val (.ref t1), .val (.ref t2), .unset] at_74 rfl rfl rfl ?_
    refine w_iload C (q := 78) at_76 rfl rfl ?_
    refine w_ifeq_f C (q := 81) at_78 rfl (by decide) ?_
    refine w_aload C (q := 83) at_81 rfl rfl rfl ?_
    refine w_virtual C (q := 86) (y := ⟨"com/example/orderly_dispatch/orderlydispatch/TimerQueue", "isEmpty", "()Z"⟩) (z := ⟨"com/example/orderly_dispatch/orderlydispatch/TimerQueue", "isEmpty", "()Z"⟩) (rm := ({ frames := 0, cells := 0, slots := 0, locals := 0 } : Room)) (a := q) (argsL := []) (hw _ (List.mem_of_getElem? (i := 13) rfl)) (hw _ (List.mem_of_getElem? (i := 14) rfl)) (hw _ (List.mem_of_getElem? (i := 16) rfl)) (hw _ (List.mem_of_getElem? (i := 16) rfl)) (hw _ (List.mem_of_getElem? (i := 15) rfl)) (hw _ (List.mem_of_getElem? (i := 2) rfl)) (hw _ (List.mem_of_getElem? (i := 17) rfl)) hTQ.1 (rmIE l Z a0 hw q _ n0 Z0 ts2.length.toInt32 hTQ.2.2.1) (by decide) (rest := []) (lenOf pd_4 rfl) rfl at_83 rfl rfl (by decide) (Nat.le_of_ble_eq_true rfl) (by decide) (by decide) ?_
    intro v h142 hQ
    obtain ⟨rfl, rfl⟩ := hQ
    rw [hL]
    refine Wk.v1 ?_
    refine w_iload C (q := 88) at_86 rfl rfl ?_
    refine w_ifne_t C (q := 95) at_88 (by decide) (by decide) (by decide) ?_
    refine w_iconst C (q := 96) (0 : Int32) at_95 rfl (by decide) ?_
    refine w_icne_f C (q := 99) at_96 rfl (by decide) ?_
    refine w_iconst C (q := 100) (1 : Int32) at_99 rfl (by decide) ?_
    refine w_goto C (q := 104) at_100 (by decide) (by decide) ?_
    refine w_istore C (q := 106) #[.val (.int p1), .val (.long p2), .second, .val (.long p3), .second, .val (.long p4), .second, .val (.ref q), .val (.int (1 : Int32)), .val (.int (3 : Int32)), .val (.ref t0), .val (.ref t1), .val (.ref t2), .unset] at_104 rfl rfl ?_
    refine w_iload C (q := 108) at_106 rfl rfl ?_
    refine w_istore C (q := 110) #[.val (.int p1), .val (.long p2), .second, .val (.long p3), .second, .val (.long p4), .second, .val (.ref q), .val (.int (1 : Int32)), .val (.int (3 : Int32)), .val (.ref t0), .val (.ref t1), .val (.ref t2), .val (.int (3 : Int32))] at_108 rfl rfl ?_
    refine w_iload C (q := 112) at_110 rfl rfl ?_
    refine w_iconst C (q := 113) (1 : Int32) at_112 rfl (by decide) ?_
    refine w_iclt_f C (q := 116) at_113 rfl (by decide) ?_
    refine w_iloadN C (q := 117) at_116 rfl rfl ?_
    refine w_iconst C (q := 118) (4 : Int32) at_117 rfl (by decide) ?_
    refine w_iand C (q := 119) at_118 rfl ?_
    refine w_ifeq C (q := 150) (q' := 122) at_119 (by decide) (by decide) rfl (fun hc119 => ?_) (fun hc119 => ?_)
    · refine w_iload C (q := 152) at_150 rfl rfl ?_
      refine w_iconst C (q := 153) (2 : Int32) at_152 rfl (by decide) ?_
      refine w_iclt_f C (q := 156) at_153 rfl (by decide) ?_
      refine w_iloadN C (q := 157) at_156 rfl rfl ?_
      refine w_bipush C (q := 159) (8 : Int32) at_157 rfl (by decide) ?_
      refine w_iand C (q := 160) at_159 rfl ?_
      refine w_ifeq C (q := 191) (q' := 163) at_160 (by decide) (by decide) rfl (fun hc160 => ?_) (fun hc160 => ?_)
      · refine w_iload C (q := 193) at_191 rfl rfl ?_
        refine w_iconst C (q := 194) (3 : Int32) at_193 rfl (by decide) ?_
        refine w_iclt_f C (q := 197) at_194 rfl (by decide) ?_
        refine w_iloadN C (q := 198) at_197 rfl rfl ?_
        refine w_bipush C (q := 200) (16 : Int32) at_198 rfl (by decide) ?_
        refine w_iand C (q := 201) at_200 rfl ?_
        refine w_ifeq C (q := 232) (q' := 204) at_201 (by decide) (by decide) rfl (fun hc201 => ?_) (fun hc201 => ?_)
        · refine w_iload C (q := 234) at_232 rfl rfl ?_
          refine w_ifeq_f C (q := 237) at_234 rfl (by decide) ?_
          refine w_aload C (q := 239) at_237 rfl rfl rfl ?_
          refine w_virtual C (q := 242) (y := ⟨"com/example/orderly_dispatch/orderlydispatch/TimerQueue", "isEmpty", "()Z"⟩) (z := ⟨"com/example/orderly_dispatch/orderlydispatch/TimerQueue", "isEmpty", "()Z"⟩) (rm := ({ frames := 0, cells := 0, slots := 0, locals := 0 } : Room)) (a := q) (argsL := []) (hw _ (List.mem_of_getElem? (i := 13) rfl)) (hw _ (List.mem_of_getElem? (i := 14) rfl)) (hw _ (List.mem_of_getElem? (i := 16) rfl)) (hw _ (List.mem_of_getElem? (i := 16) rfl)) (hw _ (List.mem_of_getElem? (i := 15) rfl)) (hw _ (List.mem_of_getElem? (i := 2) rfl)) (hw _ (List.mem_of_getElem? (i := 17) rfl)) hTQ.1 (rmIE l Z a0 hw q _ n0 Z0 ts2.length.toInt32 hTQ.2.2.1) (by decide) (rest := []) (lenOf pd_4 rfl) rfl at_239 rfl rfl (by decide) (Nat.le_of_ble_eq_true rfl) (by decide) (by decide) ?_
          intro v h143 hQ
          obtain ⟨rfl, rfl⟩ := hQ
          rw [hL]
          refine Wk.v1 ?_
          refine w_iload C (q := 244) at_242 rfl rfl ?_
          refine w_ifne_t C (q := 251) at_244 (by decide) (by decide) (by decide) ?_
          refine w_iconst C (q := 252) (0 : Int32) at_251 rfl (by decide) ?_
          refine w_icne_f C (q := 255) at_252 rfl (by decide) ?_
          refine w_iconst C (q := 256) (1 : Int32) at_255 rfl (by decide) ?_
          refine w_goto C (q := 260) at_256 (by decide) (by decide) ?_
          refine w_istore C (q := 262) #[.val (.int p1), .val (.long p2), .second, .val (.long p3), .second, .val (.long p4), .second, .val (.ref q), .val (.int (1 : Int32)), .val (.int (3 : Int32)), .val (.ref t0), .val (.ref t1), .val (.ref t2), .val (.int (3 : Int32))] at_260 rfl rfl ?_
          refine w_iloadN C (q := 263) at_262 rfl rfl ?_
          refine w_bipush C (q := 265) (32 : Int32) at_263 rfl (by decide) ?_
          refine w_iand C (q := 266) at_265 rfl ?_
          refine w_ifeq C (q := 295) (q' := 269) at_266 (by decide) (by decide) rfl (fun hc266 => ?_) (fun hc266 => ?_)
          · refine w_iload C (q := 297) at_295 rfl rfl ?_
            exact w_retN C at_297 (by decide) (by decide) rfl
          · refine w_aload C (q := 271) at_269 rfl rfl rfl ?_
            refine w_virtual C (q := 274) (y := ⟨"com/example/orderly_dispatch/orderlydispatch/TimerQueue", "drain", "()Ljava/util/List;"⟩) (z := ⟨"com/example/orderly_dispatch/orderlydispatch/TimerQueue", "drain", "()Ljava/util/List;"⟩) (rm := ({ frames := 5, cells := 2, slots := 6, locals := 72 } : Room)) (a := q) (argsL := []) (hw _ (List.mem_of_getElem? (i := 76) rfl)) (hw _ (List.mem_of_getElem? (i := 77) rfl)) (hw _ (List.mem_of_getElem? (i := 79) rfl)) (hw _ (List.mem_of_getElem? (i := 79) rfl)) (hw _ (List.mem_of_getElem? (i := 78) rfl)) (hw _ (List.mem_of_getElem? (i := 2) rfl)) (hw _ (List.mem_of_getElem? (i := 80) rfl)) hTQ.1 (rmDr3 l Z a0 hw q _ n0 Z0 b k ts2 hTQ hL e0 OL S0) (by decide) (rest := []) (lenOf pd_10 rfl) rfl at_271 rfl rfl (by decide) (Nat.le_of_ble_eq_true rfl) (by decide) (by decide) ?_
            intro v h144 hQ
            obtain ⟨al, tz, rfl, hTQ', hL', K⟩ := hQ
            replace Z0 := Nat.le_trans Z0 K.1
            replace hTQ := hTQ'
            replace hL := hL'
            clear hTQ' hL' K
            refine Wk.v1 ?_
            refine w_pop C (q := 275) at_274 rfl rfl ?_
            refine w_iload C (q := 277) at_275 rfl rfl ?_
            refine w_ifeq_f C (q := 280) at_277 rfl (by decide) ?_
            refine w_aload C (q := 282) at_280 rfl rfl rfl ?_
            refine w_virtual C (q := 285) (y := ⟨"com/example/orderly_dispatch/orderlydispatch/TimerQueue", "isEmpty", "()Z"⟩) (z := ⟨"com/example/orderly_dispatch/orderlydispatch/TimerQueue", "isEmpty", "()Z"⟩) (rm := ({ frames := 0, cells := 0, slots := 0, locals := 0 } : Room)) (a := q) (argsL := []) (hw _ (List.mem_of_getElem? (i := 13) rfl)) (hw _ (List.mem_of_getElem? (i := 14) rfl)) (hw _ (List.mem_of_getElem? (i := 16) rfl)) (hw _ (List.mem_of_getElem? (i := 16) rfl)) (hw _ (List.mem_of_getElem? (i := 15) rfl)) (hw _ (List.mem_of_getElem? (i := 2) rfl)) (hw _ (List.mem_of_getElem? (i := 17) rfl)) hTQ.1 (rmIE l Z a0 hw q _ n0 Z0 tz.length.toInt32 hTQ.2.2.1) (by decide) (rest := []) (lenOf pd_4 rfl) rfl at_282 rfl rfl (by decide) (Nat.le_of_ble_eq_true rfl) (by decide) (by decide) ?_
            intro v h145 hQ
            obtain ⟨rfl, rfl⟩ := hQ
            rw [hL]
            refine Wk.v1 ?_
            refine w_ifeq_f C (q := 288) at_285 rfl (by decide) ?_
            refine w_iconst C (q := 289) (1 : Int32) at_288 rfl (by decide) ?_
            refine w_goto C (q := 293) at_289 (by decide) (by decide) ?_
            refine w_istore C (q := 295) #[.val (.int p1), .val (.long p2), .second, .val (.long p3), .second, .val (.long p4), .second, .val (.ref q), .val (.int (1 : Int32)), .val (.int (3 : Int32)), .val (.ref t0), .val (.ref t1), .val (.ref t2), .val (.int (3 : Int32))] at_293 rfl rfl ?_
            refine w_iload C (q := 297) at_295 rfl rfl ?_
            exact w_retN C at_297 (by decide) (by decide) rfl
        · refine w_iload C (q := 206) at_204 rfl rfl ?_
          refine w_ifeq_f C (q := 209) at_206 rfl (by decide) ?_
          refine w_aload C (q := 211) at_209 rfl rfl rfl ?_
          refine w_aload C (q := 213) at_211 rfl rfl rfl ?_
          obtain ⟨j2, hj2⟩ := List.mem_iff_getElem?.mp m2
          refine w_virtual C (q := 216) (y := ⟨"com/example/orderly_dispatch/orderlydispatch/TimerQueue", "remove", "(Lcom/example/orderly_dispatch/orderlydispatch/TimerQueue$Timer;)Z"⟩) (z := ⟨"com/example/orderly_dispatch/orderlydispatch/TimerQueue", "remove", "(Lcom/example/orderly_dispatch/orderlydispatch/TimerQueue$Timer;)Z"⟩) (rm := ({ frames := 4, cells := 0, slots := 0, locals := 69 } : Room)) (a := q) (argsL := [(.ref t2)]) (hw _ (List.mem_of_getElem? (i := 62) rfl)) (hw _ (List.mem_of_getElem? (i := 63) rfl)) (hw _ (List.mem_of_getElem? (i := 65) rfl)) (hw _ (List.mem_of_getElem? (i := 65) rfl)) (hw _ (List.mem_of_getElem? (i := 64) rfl)) (hw _ (List.mem_of_getElem? (i := 2) rfl)) (hw _ (List.mem_of_getElem? (i := 66) rfl)) hTQ.1 (rmRm l Z a0 hw q t2 _ n0 Z0 b k ts2 j2 hTQ (by rw [hL]; decide) hj2) (by decide) (rest := []) (lenOf pd_12 rfl) rfl at_213 rfl rfl (by decide) (Nat.le_of_ble_eq_true rfl) (by decide) (by decide) ?_
          intro v h146 hQ
          obtain ⟨rfl, tr1, hTQ', hR, K⟩ := hQ
          replace OL := OL.keep K hTQ.above
          replace Z0 := Nat.le_trans Z0 K.1
          replace hL : tr1.length = 2 := by have := hR.1; rw [hL] at this; omega
          replace hTQ := hTQ'
          clear hTQ' hR K
          refine Wk.v1 ?_
          refine w_ifeq_f C (q := 219) at_216 rfl (by decide) ?_
          refine w_iconst C (q := 220) (1 : Int32) at_219 rfl (by decide) ?_
          refine w_goto C (q := 224) at_220 (by decide) (by decide) ?_
          refine w_istore C (q := 226) #[.val (.int p1), .val (.long p2), .second, .val (.long p3), .second, .val (.long p4), .second, .val (.ref q), .val (.int (1 : Int32)), .val (.int (3 : Int32)), .val (.ref t0), .val (.ref t1), .val (.ref t2), .val (.int (3 : Int32))] at_224 rfl rfl ?_
          refine w_iload C (q := 228) at_226 rfl rfl ?_
          refine w_iconst C (q := 229) (1 : Int32) at_228 rfl (by decide) ?_
          refine w_isub C (q := 230) at_229 rfl ?_
          refine w_istore C (q := 232) #[.val (.int p1), .val (.long p2), .second, .val (.long p3), .second, .val (.long p4), .second, .val (.ref q), .val (.int (1 : Int32)), .val (.int (3 : Int32)), .val (.ref t0), .val (.ref t1), .val (.ref t2), .val (.int (2 : Int32))] at_230 rfl rfl ?_
          refine w_iload C (q := 234) at_232 rfl rfl ?_
          refine w_ifeq_f C (q := 237) at_234 rfl (by decide) ?_
          refine w_aload C (q := 239) at_237 rfl rfl rfl ?_
          refine w_virtual C (q := 242) (y := ⟨"com/example/orderly_dispatch/orderlydispatch/TimerQueue", "isEmpty", "()Z"⟩) (z := ⟨"com/example/orderly_dispatch/orderlydispatch/TimerQueue", "isEmpty", "()Z"⟩) (rm := ({ frames := 0, cells := 0, slots := 0, locals := 0 } : Room)) (a := q) (argsL := []) (hw _ (List.mem_of_getElem? (i := 13) rfl)) (hw _ (List.mem_of_getElem? (i := 14) rfl)) (hw _ (List.mem_of_getElem? (i := 16) rfl)) (hw _ (List.mem_of_getElem? (i := 16) rfl)) (hw _ (List.mem_of_getElem? (i := 15) rfl)) (hw _ (List.mem_of_getElem? (i := 2) rfl)) (hw _ (List.mem_of_getElem? (i := 17) rfl)) hTQ.1 (rmIE l Z a0 hw q _ n0 Z0 tr1.length.toInt32 hTQ.2.2.1) (by decide) (rest := []) (lenOf pd_4 rfl) rfl at_239 rfl rfl (by decide) (Nat.le_of_ble_eq_true rfl) (by decide) (by decide) ?_
          intro v h147 hQ
          obtain ⟨rfl, rfl⟩ := hQ
          rw [hL]
          refine Wk.v1 ?_
          refine w_iload C (q := 244) at_242 rfl rfl ?_
          refine w_ifne_t C (q := 251) at_244 (by decide) (by decide) (by decide) ?_
          refine w_iconst C (q := 252) (0 : Int32) at_251 rfl (by decide) ?_
          refine w_icne_f C (q := 255) at_252 rfl (by decide) ?_
          refine w_iconst C (q := 256) (1 : Int32) at_255 rfl (by decide) ?_
          refine w_goto C (q := 260) at_256 (by decide) (by decide) ?_
          refine w_istore C (q := 262) #[.val (.int p1), .val (.long p2), .second, .val (.long p3), .second, .val (.long p4), .second, .val (.ref q), .val (.int (1 : Int32)), .val (.int (3 : Int32)), .val (.ref t0), .val (.ref t1), .val (.ref t2), .val (.int (2 : Int32))] at_260 rfl rfl ?_
          refine w_iloadN C (q := 263) at_262 rfl rfl ?_
          refine w_bipush C (q := 265) (32 : Int32) at_263 rfl (by decide) ?_
          refine w_iand C (q := 266) at_265 rfl ?_
          refine w_ifeq C (q := 295) (q' := 269) at_266 (by decide) (by decide) rfl (fun hc266 => ?_) (fun hc266 => ?_)
          · refine w_iload C (q := 297) at_295 rfl rfl ?_
            exact w_retN C at_297 (by decide) (by decide) rfl
          · refine w_aload C (q := 271) at_269 rfl rfl rfl ?_
            refine w_virtual C (q := 274) (y := ⟨"com/example/orderly_dispatch/orderlydispatch/TimerQueue", "drain", "()Ljava/util/List;"⟩) (z := ⟨"com/example/orderly_dispatch/orderlydispatch/TimerQueue", "drain", "()Ljava/util/List;"⟩) (rm := ({ frames := 5, cells := 2, slots := 6, locals := 72 } : Room)) (a := q) (argsL := []) (hw _ (List.mem_of_getElem? (i := 76) rfl)) (hw _ (List.mem_of_getElem? (i := 77) rfl)) (hw _ (List.mem_of_getElem? (i := 79) rfl)) (hw _ (List.mem_of_getElem? (i := 79) rfl)) (hw _ (List.mem_of_getElem? (i := 78) rfl)) (hw _ (List.mem_of_getElem? (i := 2) rfl)) (hw _ (List.mem_of_getElem? (i := 80) rfl)) hTQ.1 (rmDr2 l Z a0 hw q _ n0 Z0 b k tr1 hTQ hL e0 OL S0) (by decide) (rest := []) (lenOf pd_10 rfl) rfl at_271 rfl rfl (by decide) (Nat.le_of_ble_eq_true rfl) (by decide) (by decide) ?_
            intro v h148 hQ
            obtain ⟨al, tz, rfl, hTQ', hL', K⟩ := hQ
            replace Z0 := Nat.le_trans Z0 K.1
            replace hTQ := hTQ'
            replace hL := hL'
            clear hTQ' hL' K
            refine Wk.v1 ?_
            refine w_pop C (q := 275) at_274 rfl rfl ?_
            refine w_iload C (q := 277) at_275 rfl rfl ?_
            refine w_ifeq_f C (q := 280) at_277 rfl (by decide) ?_
            refine w_aload C (q := 282) at_280 rfl rfl rfl ?_
            refine w_virtual C (q := 285) (y := ⟨"com/example/orderly_dispatch/orderlydispatch/TimerQueue", "isEmpty", "()Z"⟩) (z := ⟨"com/example/orderly_dispatch/orderlydispatch/TimerQueue", "isEmpty", "()Z"⟩) (rm := ({ frames := 0, cells := 0, slots := 0, locals := 0 } : Room)) (a := q) (argsL := []) (hw _ (List.mem_of_getElem? (i := 13) rfl)) (hw _ (List.mem_of_getElem? (i := 14) rfl)) (hw _ (List.mem_of_getElem? (i := 16) rfl)) (hw _ (List.mem_of_getElem? (i := 16) rfl)) (hw _ (List.mem_of_getElem? (i := 15) rfl)) (hw _ (List.mem_of_getElem? (i := 2) rfl)) (hw _ (List.mem_of_getElem? (i := 17) rfl)) hTQ.1 (rmIE l Z a0 hw q _ n0 Z0 tz.length.toInt32 hTQ.2.2.1) (by decide) (rest := []) (lenOf pd_4 rfl) rfl at_282 rfl rfl (by decide) (Nat.le_of_ble_eq_true rfl) (by decide) (by decide) ?_
            intro v h149 hQ
            obtain ⟨rfl, rfl⟩ := hQ
            rw [hL]
            refine Wk.v1 ?_
            refine w_ifeq_f C (q := 288) at_285 rfl (by decide) ?_
            refine w_iconst C (q := 289) (1 : Int32) at_288 rfl (by decide) ?_
            refine w_goto C (q := 293) at_289 (by decide) (by decide) ?_
            refine w_istore C (q := 295) #[.val (.int p1), .val (.long p2), .second, .val (.long p3), .second, .val (.long p4), .second, .val (.ref q), .val (.int (1 : Int32)), .val (.int (3 : Int32)), .val (.ref t0), .val (.ref t1), .val (.ref t2), .val (.int (2 : Int32))] at_293 rfl rfl ?_
            refine w_iload C (q := 297) at_295 rfl rfl ?_
            exact w_retN C at_297 (by decide) (by decide) rfl
      · refine w_iload C (q := 165) at_163 rfl rfl ?_
        refine w_ifeq_f C (q := 168) at_165 rfl (by decide) ?_
        refine w_aload C (q := 170) at_168 rfl rfl rfl ?_
        refine w_aload C (q := 172) at_170 rfl rfl rfl ?_
        obtain ⟨j1, hj1⟩ := List.mem_iff_getElem?.mp m1
        refine w_virtual C (q := 175) (y := ⟨"com/example/orderly_dispatch/orderlydispatch/TimerQueue", "remove", "(Lcom/example/orderly_dispatch/orderlydispatch/TimerQueue$Timer;)Z"⟩) (z := ⟨"com/example/orderly_dispatch/orderlydispatch/TimerQueue", "remove", "(Lcom/example/orderly_dispatch/orderlydispatch/TimerQueue$Timer;)Z"⟩) (rm := ({ frames := 4, cells := 0, slots := 0, locals := 69 } : Room)) (a := q) (argsL := [(.ref t1)]) (hw _ (List.mem_of_getElem? (i := 62) rfl)) (hw _ (List.mem_of_getElem? (i := 63) rfl)) (hw _ (List.mem_of_getElem? (i := 65) rfl)) (hw _ (List.mem_of_getElem? (i := 65) rfl)) (hw _ (List.mem_of_getElem? (i := 64) rfl)) (hw _ (List.mem_of_getElem? (i := 2) rfl)) (hw _ (List.mem_of_getElem? (i := 66) rfl)) hTQ.1 (rmRm l Z a0 hw q t1 _ n0 Z0 b k ts2 j1 hTQ (by rw [hL]; decide) hj1) (by decide) (rest := []) (lenOf pd_12 rfl) rfl at_172 rfl rfl (by decide) (Nat.le_of_ble_eq_true rfl) (by decide) (by decide) ?_
        intro v h150 hQ
        obtain ⟨rfl, tr2, hTQ', hR, K⟩ := hQ
        replace OL := OL.keep K hTQ.above
        replace Z0 := Nat.le_trans Z0 K.1
        replace m2 := hR.2.1 t2 m2 (Ne.symm d12)
        replace hL : tr2.length = 2 := by have := hR.1; rw [hL] at this; omega
        replace hTQ := hTQ'
        clear hTQ' hR K
        refine Wk.v1 ?_
        refine w_ifeq_f C (q := 178) at_175 rfl (by decide) ?_
        refine w_iconst C (q := 179) (1 : Int32) at_178 rfl (by decide) ?_
        refine w_goto C (q := 183) at_179 (by decide) (by decide) ?_
        refine w_istore C (q := 185) #[.val (.int p1), .val (.long p2), .second, .val (.long p3), .second, .val (.long p4), .second, .val (.ref q), .val (.int (1 : Int32)), .val (.int (3 : Int32)), .val (.ref t0), .val (.ref t1), .val (.ref t2), .val (.int (3 : Int32))] at_183 rfl rfl ?_
        refine w_iload C (q := 187) at_185 rfl rfl ?_
        refine w_iconst C (q := 188) (1 : Int32) at_187 rfl (by decide) ?_
        refine w_isub C (q := 189) at_188 rfl ?_
        refine w_istore C (q := 191) #[.val (.int p1), .val (.long p2), .second, .val (.long p3), .second, .val (.long p4), .second, .val (.ref q), .val (.int (1 : Int32)), .val (.int (3 : Int32)), .val (.ref t0), .val (.ref t1), .val (.ref t2), .val (.int (2 : Int32))] at_189 rfl rfl ?_
        refine w_iload C (q := 193) at_191 rfl rfl ?_
        refine w_iconst C (q := 194) (3 : Int32) at_193 rfl (by decide) ?_
        refine w_iclt_f C (q := 197) at_194 rfl (by decide) ?_
        refine w_iloadN C (q := 198) at_197 rfl rfl ?_
        refine w_bipush C (q := 200) (16 : Int32) at_198 rfl (by decide) ?_
        refine w_iand C (q := 201) at_200 rfl ?_
        refine w_ifeq C (q := 232) (q' := 204) at_201 (by decide) (by decide) rfl (fun hc201 => ?_) (fun hc201 => ?_)
        · refine w_iload C (q := 234) at_232 rfl rfl ?_
          refine w_ifeq_f C (q := 237) at_234 rfl (by decide) ?_
          refine w_aload C (q := 239) at_237 rfl rfl rfl ?_
          refine w_virtual C (q := 242) (y := ⟨"com/example/orderly_dispatch/orderlydispatch/TimerQueue", "isEmpty", "()Z"⟩) (z := ⟨"com/example/orderly_dispatch/orderlydispatch/TimerQueue", "isEmpty", "()Z"⟩) (rm := ({ frames := 0, cells := 0, slots := 0, locals := 0 } : Room)) (a := q) (argsL := []) (hw _ (List.mem_of_getElem? (i := 13) rfl)) (hw _ (List.mem_of_getElem? (i := 14) rfl)) (hw _ (List.mem_of_getElem? (i := 16) rfl)) (hw _ (List.mem_of_getElem? (i := 16) rfl)) (hw _ (List.mem_of_getElem? (i := 15) rfl)) (hw _ (List.mem_of_getElem? (i := 2) rfl)) (hw _ (List.mem_of_getElem? (i := 17) rfl)) hTQ.1 (rmIE l Z a0 hw q _ n0 Z0 tr2.length.toInt32 hTQ.2.2.1) (by decide) (rest := []) (lenOf pd_4 rfl) rfl at_239 rfl rfl (by decide) (Nat.le_of_ble_eq_true rfl) (by decide) (by decide) ?_
          intro v h151 hQ
          obtain ⟨rfl, rfl⟩ := hQ
          rw [hL]
          refine Wk.v1 ?_
          refine w_iload C (q := 244) at_242 rfl rfl ?_
          refine w_ifne_t C (q := 251) at_244 (by decide) (by decide) (by decide) ?_
          refine w_iconst C (q := 252) (0 : Int32) at_251 rfl (by decide) ?_
          refine w_icne_f C (q := 255) at_252 rfl (by decide) ?_
          refine w_iconst C (q := 256) (1 : Int32) at_255 rfl (by decide) ?_
          refine w_goto C (q := 260) at_256 (by decide) (by decide) ?_
          refine w_istore C (q := 262) #[.val (.int p1), .val (.long p2), .second, .val (.long p3), .second, .val (.long p4), .second, .val (.ref q), .val (.int (1 : Int32)), .val (.int (3 : Int32)), .val (.ref t0), .val (.ref t1), .val (.ref t2), .val (.int (2 : Int32))] at_260 rfl rfl ?_
          refine w_iloadN C (q := 263) at_262 rfl rfl ?_
          refine w_bipush C (q := 265) (32 : Int32) at_263 rfl (by decide) ?_
          refine w_iand C (q := 266) at_265 rfl ?_
          refine w_ifeq C (q := 295) (q' := 269) at_266 (by decide) (by decide) rfl (fun hc266 => ?_) (fun hc266 => ?_)
          · refine w_iload C (q := 297) at_295 rfl rfl ?_
            exact w_retN C at_297 (by decide) (by decide) rfl
          · refine w_aload C (q := 271) at_269 rfl rfl rfl ?_
            refine w_virtual C (q := 274) (y := ⟨"com/example/orderly_dispatch/orderlydispatch/TimerQueue", "drain", "()Ljava/util/List;"⟩) (z := ⟨"com/example/orderly_dispatch/orderlydispatch/TimerQueue", "drain", "()Ljava/util/List;"⟩) (rm := ({ frames := 5, cells := 2, slots := 6, locals := 72 } : Room)) (a := q) (argsL := []) (hw _ (List.mem_of_getElem? (i := 76) rfl)) (hw _ (List.mem_of_getElem? (i := 77) rfl)) (hw _ (List.mem_of_getElem? (i := 79) rfl)) (hw _ (List.mem_of_getElem? (i := 79) rfl)) (hw _ (List.mem_of_getElem? (i := 78) rfl)) (hw _ (List.mem_of_getElem? (i := 2) rfl)) (hw _ (List.mem_of_getElem? (i := 80) rfl)) hTQ.1 (rmDr2 l Z a0 hw q _ n0 Z0 b k tr2 hTQ hL e0 OL S0) (by decide) (rest := []) (lenOf pd_10 rfl) rfl at_271 rfl rfl (by decide) (Nat.le_of_ble_eq_true rfl) (by decide) (by decide) ?_
            intro v h152 hQ
            obtain ⟨al, tz, rfl, hTQ', hL', K⟩ := hQ
            replace Z0 := Nat.le_trans Z0 K.1
            replace hTQ := hTQ'
            replace hL := hL'
            clear hTQ' hL' K
            refine Wk.v1 ?_
            refine w_pop C (q := 275) at_274 rfl rfl ?_
            refine w_iload C (q := 277) at_275 rfl rfl ?_
            refine w_ifeq_f C (q := 280) at_277 rfl (by decide) ?_
            refine w_aload C (q := 282) at_280 rfl rfl rfl ?_
            refine w_virtual C (q := 285) (y := ⟨"com/example/orderly_dispatch/orderlydispatch/TimerQueue", "isEmpty", "()Z"⟩) (z := ⟨"com/example/orderly_dispatch/orderlydispatch/TimerQueue", "isEmpty", "()Z"⟩) (rm := ({ frames := 0, cells := 0, slots := 0, locals := 0 } : Room)) (a := q) (argsL := []) (hw _ (List.mem_of_getElem? (i := 13) rfl)) (hw _ (List.mem_of_getElem? (i := 14) rfl)) (hw _ (List.mem_of_getElem? (i := 16) rfl)) (hw _ (List.mem_of_getElem? (i := 16) rfl)) (hw _ (List.mem_of_getElem? (i := 15) rfl)) (hw _ (List.mem_of_getElem? (i := 2) rfl)) (hw _ (List.mem_of_getElem? (i := 17) rfl)) hTQ.1 (rmIE l Z a0 hw q _ n0 Z0 tz.length.toInt32 hTQ.2.2.1) (by decide) (rest := []) (lenOf pd_4 rfl) rfl at_282 rfl rfl (by decide) (Nat.le_of_ble_eq_true rfl) (by decide) (by decide) ?_
            intro v h153 hQ
            obtain ⟨rfl, rfl⟩ := hQ
            rw [hL]
            refine Wk.v1 ?_
            refine w_ifeq_f C (q := 288) at_285 rfl (by decide) ?_
            refine w_iconst C (q := 289) (1 : Int32) at_288 rfl (by decide) ?_
            refine w_goto C (q := 293) at_289 (by decide) (by decide) ?_
            refine w_istore C (q := 295) #[.val (.int p1), .val (.long p2), .second, .val (.long p3), .second, .val (.long p4), .second, .val (.ref q), .val (.int (1 : Int32)), .val (.int (3 : Int32)), .val (.ref t0), .val (.ref t1), .val (.ref t2), .val (.int (2 : Int32))] at_293 rfl rfl ?_
            refine w_iload C (q := 297) at_295 rfl rfl ?_
            exact w_retN C at_297 (by decide) (by decide) rfl
        · refine w_iload C (q := 206) at_204 rfl rfl ?_
          refine w_ifeq_f C (q := 209) at_206 rfl (by decide) ?_
          refine w_aload C (q := 211) at_209 rfl rfl rfl ?_
          refine w_aload C (q := 213) at_211 rfl rfl rfl ?_
          obtain ⟨j2, hj2⟩ := List.mem_iff_getElem?.mp m2
          refine w_virtual C (q := 216) (y := ⟨"com/example/orderly_dispatch/orderlydispatch/TimerQueue", "remove", "(Lcom/example/orderly_dispatch/orderlydispatch/TimerQueue$Timer;)Z"⟩) (z := ⟨"com/example/orderly_dispatch/orderlydispatch/TimerQueue", "remove", "(Lcom/example/orderly_dispatch/orderlydispatch/TimerQueue$Timer;)Z"⟩) (rm := ({ frames := 4, cells := 0, slots := 0, locals := 69 } : Room)) (a := q) (argsL := [(.ref t2)]) (hw _ (List.mem_of_getElem? (i := 62) rfl)) (hw _ (List.mem_of_getElem? (i := 63) rfl)) (hw _ (List.mem_of_getElem? (i := 65) rfl)) (hw _ (List.mem_of_getElem? (i := 65) rfl)) (hw _ (List.mem_of_getElem? (i := 64) rfl)) (hw _ (List.mem_of_getElem? (i := 2) rfl)) (hw _ (List.mem_of_getElem? (i := 66) rfl)) hTQ.1 (rmRm l Z a0 hw q t2 _ n0 Z0 b k tr2 j2 hTQ (by rw [hL]; decide) hj2) (by decide) (rest := []) (lenOf pd_12 rfl) rfl at_213 rfl rfl (by decide) (Nat.le_of_ble_eq_true rfl) (by decide) (by decide) ?_
          intro v h154 hQ
          obtain ⟨rfl, tr3, hTQ', hR, K⟩ := hQ
          replace OL := OL.keep K hTQ.above
          replace Z0 := Nat.le_trans Z0 K.1
          replace hL : tr3.length = 1 := by have := hR.1; rw [hL] at this; omega
          replace hTQ := hTQ'
          clear hTQ' hR K
          refine Wk.v1 ?_
          refine w_ifeq_f C (q := 219) at_216 rfl (by decide) ?_
          refine w_iconst C (q := 220) (1 : Int32) at_219 rfl (by decide) ?_
          refine w_goto C (q := 224) at_220 (by decide) (by decide) ?_
          refine w_istore C (q := 226) #[.val (.int p1), .val (.long p2), .second, .val (.long p3), .second, .val (.long p4), .second, .val (.ref q), .val (.int (1 : Int32)), .val (.int (3 : Int32)), .val (.ref t0), .val (.ref t1), .val (.ref t2), .val (.int (2 : Int32))] at_224 rfl rfl ?_
          refine w_iload C (q := 228) at_226 rfl rfl ?_
          refine w_iconst C (q := 229) (1 : Int32) at_228 rfl (by decide) ?_
          refine w_isub C (q := 230) at_229 rfl ?_
          refine w_istore C (q := 232) #[.val (.int p1), .val (.long p2), .second, .val (.long p3), .second, .val (.long p4), .second, .val (.ref q), .val (.int (1 : Int32)), .val (.int (3 : Int32)), .val (.ref t0), .val (.ref t1), .val (.ref t2), .val (.int (1 : Int32))] at_230 rfl rfl ?_
          refine w_iload C (q := 234) at_232 rfl rfl ?_
          refine w_ifeq_f C (q := 237) at_234 rfl (by decide) ?_
          refine w_aload C (q := 239) at_237 rfl rfl rfl ?_
          refine w_virtual C (q := 242) (y := ⟨"com/example/orderly_dispatch/orderlydispatch/TimerQueue", "isEmpty", "()Z"⟩) (z := ⟨"com/example/orderly_dispatch/orderlydispatch/TimerQueue", "isEmpty", "()Z"⟩) (rm := ({ frames := 0, cells := 0, slots := 0, locals := 0 } : Room)) (a := q) (argsL := []) (hw _ (List.mem_of_getElem? (i := 13) rfl)) (hw _ (List.mem_of_getElem? (i := 14) rfl)) (hw _ (List.mem_of_getElem? (i := 16) rfl)) (hw _ (List.mem_of_getElem? (i := 16) rfl)) (hw _ (List.mem_of_getElem? (i := 15) rfl)) (hw _ (List.mem_of_getElem? (i := 2) rfl)) (hw _ (List.mem_of_getElem? (i := 17) rfl)) hTQ.1 (rmIE l Z a0 hw q _ n0 Z0 tr3.length.toInt32 hTQ.2.2.1) (by decide) (rest := []) (lenOf pd_4 rfl) rfl at_239 rfl rfl (by decide) (Nat.le_of_ble_eq_true rfl) (by decide) (by decide) ?_
          intro v h155 hQ
          obtain ⟨rfl, rfl⟩ := hQ
          rw [hL]
          refine Wk.v1 ?_
          refine w_iload C (q := 244) at_242 rfl rfl ?_
          refine w_ifne_t C (q := 251) at_244 (by decide) (by decide) (by decide) ?_
          refine w_iconst C (q := 252) (0 : Int32) at_251 rfl (by decide) ?_
          refine w_icne_f C (q := 255) at_252 rfl (by decide) ?_
          refine w_iconst C (q := 256) (1 : Int32) at_255 rfl (by decide) ?_
          refine w_goto C (q := 260) at_256 (by decide) (by decide) ?_
          refine w_istore C (q := 262) #[.val (.int p1), .val (.long p2), .second, .val (.long p3), .second, .val (.long p4), .second, .val (.ref q), .val (.int (1 : Int32)), .val (.int (3 : Int32)), .val (.ref t0), .val (.ref t1), .val (.ref t2), .val (.int (1 : Int32))] at_260 rfl rfl ?_
          refine w_iloadN C (q := 263) at_262 rfl rfl ?_
          refine w_bipush C (q := 265) (32 : Int32) at_263 rfl (by decide) ?_
          refine w_iand C (q := 266) at_265 rfl ?_
          refine w_ifeq C (q := 295) (q' := 269) at_266 (by decide) (by decide) rfl (fun hc266 => ?_) (fun hc266 => ?_)
          · refine w_iload C (q := 297) at_295 rfl rfl ?_
            exact w_retN C at_297 (by decide) (by decide) rfl
          · refine w_aload C (q := 271) at_269 rfl rfl rfl ?_
            refine w_virtual C (q := 274) (y := ⟨"com/example/orderly_dispatch/orderlydispatch/TimerQueue", "drain", "()Ljava/util/List;"⟩) (z := ⟨"com/example/orderly_dispatch/orderlydispatch/TimerQueue", "drain", "()Ljava/util/List;"⟩) (rm := ({ frames := 5, cells := 2, slots := 6, locals := 72 } : Room)) (a := q) (argsL := []) (hw _ (List.mem_of_getElem? (i := 76) rfl)) (hw _ (List.mem_of_getElem? (i := 77) rfl)) (hw _ (List.mem_of_getElem? (i := 79) rfl)) (hw _ (List.mem_of_getElem? (i := 79) rfl)) (hw _ (List.mem_of_getElem? (i := 78) rfl)) (hw _ (List.mem_of_getElem? (i := 2) rfl)) (hw _ (List.mem_of_getElem? (i := 80) rfl)) hTQ.1 (rmDr1 l Z a0 hw q _ n0 Z0 b k tr3 hTQ hL e0 OL S0) (by decide) (rest := []) (lenOf pd_10 rfl) rfl at_271 rfl rfl (by decide) (Nat.le_of_ble_eq_true rfl) (by decide) (by decide) ?_
            intro v h156 hQ
            obtain ⟨al, tz, rfl, hTQ', hL', K⟩ := hQ
            replace Z0 := Nat.le_trans Z0 K.1
            replace hTQ := hTQ'
            replace hL := hL'
            clear hTQ' hL' K
            refine Wk.v1 ?_
            refine w_pop C (q := 275) at_274 rfl rfl ?_
            refine w_iload C (q := 277) at_275 rfl rfl ?_
            refine w_ifeq_f C (q := 280) at_277 rfl (by decide) ?_
            refine w_aload C (q := 282) at_280 rfl rfl rfl ?_
            refine w_virtual C (q := 285) (y := ⟨"com/example/orderly_dispatch/orderlydispatch/TimerQueue", "isEmpty", "()Z"⟩) (z := ⟨"com/example/orderly_dispatch/orderlydispatch/TimerQueue", "isEmpty", "()Z"⟩) (rm := ({ frames := 0, cells := 0, slots := 0, locals := 0 } : Room)) (a := q) (argsL := []) (hw _ (List.mem_of_getElem? (i := 13) rfl)) (hw _ (List.mem_of_getElem? (i := 14) rfl)) (hw _ (List.mem_of_getElem? (i := 16) rfl)) (hw _ (List.mem_of_getElem? (i := 16) rfl)) (hw _ (List.mem_of_getElem? (i := 15) rfl)) (hw _ (List.mem_of_getElem? (i := 2) rfl)) (hw _ (List.mem_of_getElem? (i := 17) rfl)) hTQ.1 (rmIE l Z a0 hw q _ n0 Z0 tz.length.toInt32 hTQ.2.2.1) (by decide) (rest := []) (lenOf pd_4 rfl) rfl at_282 rfl rfl (by decide) (Nat.le_of_ble_eq_true rfl) (by decide) (by decide) ?_
            intro v h157 hQ
            obtain ⟨rfl, rfl⟩ := hQ
            rw [hL]
            refine Wk.v1 ?_
            refine w_ifeq_f C (q := 288) at_285 rfl (by decide) ?_
            refine w_iconst C (q := 289) (1 : Int32) at_288 rfl (by decide) ?_
            refine w_goto C (q := 293) at_289 (by decide) (by decide) ?_
            refine w_istore C (q := 295) #[.val (.int p1), .val (.long p2), .second, .val (.long p3), .second, .val (.long p4), .second, .val (.ref q), .val (.int (1 : Int32)), .val (.int (3 : Int32)), .val (.ref t0), .val (.ref t1), .val (.ref t2), .val (.int (1 : Int32))] at_293 rfl rfl ?_
            refine w_iload C (q := 297) at_295 rfl rfl ?_
            exact w_retN C at_297 (by decide) (by decide) rfl
    · refine w_iload C (q := 124) at_122 rfl rfl ?_
      refine w_ifeq_f C (q := 127) at_124 rfl (by decide) ?_
      refine w_aload C (q := 129) at_127 rfl rfl rfl ?_
      refine w_aload C (q := 131) at_129 rfl rfl rfl ?_
      obtain ⟨j0, hj0⟩ := List.mem_iff_getElem?.mp m0
      refine w_virtual C (q := 134) (y := ⟨"com/example/orderly_dispatch/orderlydispatch/TimerQueue", "remove", "(Lcom/example/orderly_dispatch/orderlydispatch/TimerQueue$Timer;)Z"⟩) (z := ⟨"com/example/orderly_dispatch/orderlydispatch/TimerQueue", "remove", "(Lcom/example/orderly_dispatch/orderlydispatch/TimerQueue$Timer;)Z"⟩) (rm := ({ frames := 4, cells := 0, slots := 0, locals := 69 } : Room)) (a := q) (argsL := [(.ref t0)]) (hw _ (List.mem_of_getElem? (i := 62) rfl)) (hw _ (List.mem_of_getElem? (i := 63) rfl)) (hw _ (List.mem_of_getElem? (i := 65) rfl)) (hw _ (List.mem_of_getElem? (i := 65) rfl)) (hw _ (List.mem_of_getElem? (i := 64) rfl)) (hw _ (List.mem_of_getElem? (i := 2) rfl)) (hw _ (List.mem_of_getElem? (i := 66) rfl)) hTQ.1 (rmRm l Z a0 hw q t0 _ n0 Z0 b k ts2 j0 hTQ (by rw [hL]; decide) hj0) (by decide) (rest := []) (lenOf pd_12 rfl) rfl at_131 rfl rfl (by decide) (Nat.le_of_ble_eq_true rfl) (by decide) (by decide) ?_
      intro v h158 hQ
      obtain ⟨rfl, tr4, hTQ', hR, K⟩ := hQ
      replace OL := OL.keep K hTQ.above
      replace Z0 := Nat.le_trans Z0 K.1
      replace m1 := hR.2.1 t1 m1 (Ne.symm d01)
      replace m2 := hR.2.1 t2 m2 (Ne.symm d02)
      replace hL : tr4.length = 2 := by have := hR.1; rw [hL] at this; omega
      replace hTQ := hTQ'
      clear hTQ' hR K
      refine Wk.v1 ?_
      refine w_ifeq_f C (q := 137) at_134 rfl (by decide) ?_
      refine w_iconst C (q := 138) (1 : Int32) at_137 rfl (by decide) ?_
      refine w_goto C (q := 142) at_138 (by decide) (by decide) ?_
      refine w_istore C (q := 144) #[.val (.int p1), .val (.long p2), .second, .val (.long p3), .second, .val (.long p4), .second, .val (.ref q), .val (.int (1 : Int32)), .val (.int (3 : Int32)), .val (.ref t0), .val (.ref t1), .val (.ref t2), .val (.int (3 : Int32))] at_142 rfl rfl ?_
      refine w_iload C (q := 146) at_144 rfl rfl ?_
      refine w_iconst C (q := 147) (1 : Int32) at_146 rfl (by decide) ?_
      refine w_isub C (q := 148) at_147 rfl ?_
      refine w_istore C (q := 150) #[.val (.int p1), .val (.long p2), .second, .val (.long p3), .second, .val (.long p4), .second, .val (.ref q), .val (.int (1 : Int32)), .val (.int (3 : Int32)), .val (.ref t0), .val (.ref t1), .val (.ref t2), .val (.int (2 : Int32))] at_148 rfl rfl ?_
      refine w_iload C (q := 152) at_150 rfl rfl ?_
      refine w_iconst C (q := 153) (2 : Int32) at_152 rfl (by decide) ?_
      refine w_iclt_f C (q := 156) at_153 rfl (by decide) ?_
      refine w_iloadN C (q := 157) at_156 rfl rfl ?_
      refine w_bipush C (q := 159) (8 : Int32) at_157 rfl (by decide) ?_
      refine w_iand C (q := 160) at_159 rfl ?_
      refine w_ifeq C (q := 191) (q' := 163) at_160 (by decide) (by decide) rfl (fun hc160 => ?_) (fun hc160 => ?_)
      · refine w_iload C (q := 193) at_191 rfl rfl ?_
        refine w_iconst C (q := 194) (3 : Int32) at_193 rfl (by decide) ?_
        refine w_iclt_f C (q := 197) at_194 rfl (by decide) ?_
        refine w_iloadN C (q := 198) at_197 rfl rfl ?_
        refine w_bipush C (q := 200) (16 : Int32) at_198 rfl (by decide) ?_
        refine w_iand C (q := 201) at_200 rfl ?_
        refine w_ifeq C (q := 232) (q' := 204) at_201 (by decide) (by decide) rfl (fun hc201 => ?_) (fun hc201 => ?_)
        · refine w_iload C (q := 234) at_232 rfl rfl ?_
          refine w_ifeq_f C (q := 237) at_234 rfl (by decide) ?_
          refine w_aload C (q := 239) at_237 rfl rfl rfl ?_
          refine w_virtual C (q := 242) (y := ⟨"com/example/orderly_dispatch/orderlydispatch/TimerQueue", "isEmpty", "()Z"⟩) (z := ⟨"com/example/orderly_dispatch/orderlydispatch/TimerQueue", "isEmpty", "()Z"⟩) (rm := ({ frames := 0, cells := 0, slots := 0, locals := 0 } : Room)) (a := q) (argsL := []) (hw _ (List.mem_of_getElem? (i := 13) rfl)) (hw _ (List.mem_of_getElem? (i := 14) rfl)) (hw _ (List.mem_of_getElem? (i := 16) rfl)) (hw _ (List.mem_of_getElem? (i := 16) rfl)) (hw _ (List.mem_of_getElem? (i := 15) rfl)) (hw _ (List.mem_of_getElem? (i := 2) rfl)) (hw _ (List.mem_of_getElem? (i := 17) rfl)) hTQ.1 (rmIE l Z a0 hw q _ n0 Z0 tr4.length.toInt32 hTQ.2.2.1) (by decide) (rest := []) (lenOf pd_4 rfl) rfl at_239 rfl rfl (by decide) (Nat.le_of_ble_eq_true rfl) (by decide) (by decide) ?_
          intro v h159 hQ
          obtain ⟨rfl, rfl⟩ := hQ
          rw [hL]
          refine Wk.v1 ?_
          refine w_iload C (q := 244) at_242 rfl rfl ?_
          refine w_ifne_t C (q := 251) at_244 (by decide) (by decide) (by decide) ?_
          refine w_iconst C (q := 252) (0 : Int32) at_251 rfl (by decide) ?_
          refine w_icne_f C (q := 255) at_252 rfl (by decide) ?_
          refine w_iconst C (q := 256) (1 : Int32) at_255 rfl (by decide) ?_
          refine w_goto C (q := 260) at_256 (by decide) (by decide) ?_
          refine w_istore C (q := 262) #[.val (.int p1), .val (.long p2), .second, .val (.long p3), .second, .val (.long p4), .second, .val (.ref q), .val (.int (1 : Int32)), .val (.int (3 : Int32)), .val (.ref t0), .val (.ref t1), .val (.ref t2), .val (.int (2 : Int32))] at_260 rfl rfl ?_
          refine w_iloadN C (q := 263) at_262 rfl rfl ?_
          refine w_bipush C (q := 265) (32 : Int32) at_263 rfl (by decide) ?_
          refine w_iand C (q := 266) at_265 rfl ?_
          refine w_ifeq C (q := 295) (q' := 269) at_266 (by decide) (by decide) rfl (fun hc266 => ?_) (fun hc266 => ?_)
          · refine w_iload C (q := 297) at_295 rfl rfl ?_
            exact w_retN C at_297 (by decide) (by decide) rfl
          · refine w_aload C (q := 271) at_269 rfl rfl rfl ?_
            refine w_virtual C (q := 274) (y := ⟨"com/example/orderly_dispatch/orderlydispatch/TimerQueue", "drain", "()Ljava/util/List;"⟩) (z := ⟨"com/example/orderly_dispatch/orderlydispatch/TimerQueue", "drain", "()Ljava/util/List;"⟩) (rm := ({ frames := 5, cells := 2, slots := 6, locals := 72 } : Room)) (a := q) (argsL := []) (hw _ (List.mem_of_getElem? (i := 76) rfl)) (hw _ (List.mem_of_getElem? (i := 77) rfl)) (hw _ (List.mem_of_getElem? (i := 79) rfl)) (hw _ (List.mem_of_getElem? (i := 79) rfl)) (hw _ (List.mem_of_getElem? (i := 78) rfl)) (hw _ (List.mem_of_getElem? (i := 2) rfl)) (hw _ (List.mem_of_getElem? (i := 80) rfl)) hTQ.1 (rmDr2 l Z a0 hw q _ n0 Z0 b k tr4 hTQ hL e0 OL S0) (by decide) (rest := []) (lenOf pd_10 rfl) rfl at_271 rfl rfl (by decide) (Nat.le_of_ble_eq_true rfl) (by decide) (by decide) ?_
            intro v h160 hQ
            obtain ⟨al, tz, rfl, hTQ', hL', K⟩ := hQ
            replace Z0 := Nat.le_trans Z0 K.1
            replace hTQ := hTQ'
            replace hL := hL'
            clear hTQ' hL' K
            refine Wk.v1 ?_
            refine w_pop C (q := 275) at_274 rfl rfl ?_
            refine w_iload C (q := 277) at_275 rfl rfl ?_
            refine w_ifeq_f C (q := 280) at_277 rfl (by decide) ?_
            refine w_aload C (q := 282) at_280 rfl rfl rfl ?_
            refine w_virtual C (q := 285) (y := ⟨"com/example/orderly_dispatch/orderlydispatch/TimerQueue", "isEmpty", "()Z"⟩) (z := ⟨"com/example/orderly_dispatch/orderlydispatch/TimerQueue", "isEmpty", "()Z"⟩) (rm := ({ frames := 0, cells := 0, slots := 0, locals := 0 } : Room)) (a := q) (argsL := []) (hw _ (List.mem_of_getElem? (i := 13) rfl)) (hw _ (List.mem_of_getElem? (i := 14) rfl)) (hw _ (List.mem_of_getElem? (i := 16) rfl)) (hw _ (List.mem_of_getElem? (i := 16) rfl)) (hw _ (List.mem_of_getElem? (i := 15) rfl)) (hw _ (List.mem_of_getElem? (i := 2) rfl)) (hw _ (List.mem_of_getElem? (i := 17) rfl)) hTQ.1 (rmIE l Z a0 hw q _ n0 Z0 tz.length.toInt32 hTQ.2.2.1) (by decide) (rest := []) (lenOf pd_4 rfl) rfl at_282 rfl rfl (by decide) (Nat.le_of_ble_eq_true rfl) (by decide) (by decide) ?_
            intro v h161 hQ
            obtain ⟨rfl, rfl⟩ := hQ
            rw [hL]
            refine Wk.v1 ?_
            refine w_ifeq_f C (q := 288) at_285 rfl (by decide) ?_
            refine w_iconst C (q := 289) (1 : Int32) at_288 rfl (by decide) ?_
            refine w_goto C (q := 293) at_289 (by decide) (by decide) ?_
            refine w_istore C (q := 295) #[.val (.int p1), .val (.long p2), .second, .val (.long p3), .second, .val (.long p4), .second, .val (.ref q), .val (.int (1 : Int32)), .val (.int (3 : Int32)), .val (.ref t0), .val (.ref t1), .val (.ref t2), .val (.int (2 : Int32))] at_293 rfl rfl ?_
            refine w_iload C (q := 297) at_295 rfl rfl ?_
            exact w_retN C at_297 (by decide) (by decide) rfl
        · refine w_iload C (q := 206) at_204 rfl rfl ?_
          refine w_ifeq_f C (q := 209) at_206 rfl (by decide) ?_
          refine w_aload C (q := 211) at_209 rfl rfl rfl ?_
          refine w_aload C (q := 213) at_211 rfl rfl rfl ?_
          obtain ⟨j2, hj2⟩ := List.mem_iff_getElem?.mp m2
          refine w_virtual C (q := 216) (y := ⟨"com/example/orderly_dispatch/orderlydispatch/TimerQueue", "remove", "(Lcom/example/orderly_dispatch/orderlydispatch/TimerQueue$Timer;)Z"⟩) (z := ⟨"com/example/orderly_dispatch/orderlydispatch/TimerQueue", "remove", "(Lcom/example/orderly_dispatch/orderlydispatch/TimerQueue$Timer;)Z"⟩) (rm := ({ frames := 4, cells := 0, slots := 0, locals := 69 } : Room)) (a := q) (argsL := [(.ref t2)]) (hw _ (List.mem_of_getElem? (i := 62) rfl)) (hw _ (List.mem_of_getElem? (i := 63) rfl)) (hw _ (List.mem_of_getElem? (i := 65) rfl)) (hw _ (List.mem_of_getElem? (i := 65) rfl)) (hw _ (List.mem_of_getElem? (i := 64) rfl)) (hw _ (List.mem_of_getElem? (i := 2) rfl)) (hw _ (List.mem_of_getElem? (i := 66) rfl)) hTQ.1 (rmRm l Z a0 hw q t2 _ n0 Z0 b k tr4 j2 hTQ (by rw [hL]; decide) hj2) (by decide) (rest := []) (lenOf pd_12 rfl) rfl at_213 rfl rfl (by decide) (Nat.le_of_ble_eq_true rfl) (by decide) (by decide) ?_
          intro v h162 hQ
          obtain ⟨rfl, tr5, hTQ', hR, K⟩ := hQ
          replace OL := OL.keep K hTQ.above
          replace Z0 := Nat.le_trans Z0 K.1
          replace hL : tr5.length = 1 := by have := hR.1; rw [hL] at this; omega
          replace hTQ := hTQ'
          clear hTQ' hR K
          refine Wk.v1 ?_
          refine w_ifeq_f C (q := 219) at_216 rfl (by decide) ?_
          refine w_iconst C (q := 220) (1 : Int32) at_219 rfl (by decide) ?_
          refine w_goto C (q := 224) at_220 (by decide) (by decide) ?_
          refine w_istore C (q := 226) #[.val (.int p1), .val (.long p2), .second, .val (.long p3), .second, .val (.long p4), .second, .val (.ref q), .val (.int (1 : Int32)), .val (.int (3 : Int32)), .val (.ref t0), .val (.ref t1), .val (.ref t2), .val (.int (2 : Int32))] at_224 rfl rfl ?_
          refine w_iload C (q := 228) at_226 rfl rfl ?_
          refine w_iconst C (q := 229) (1 : Int32) at_228 rfl (by decide) ?_
          refine w_isub C (q := 230) at_229 rfl ?_
          refine w_istore C (q := 232) #[.val (.int p1), .val (.long p2), .second, .val (.long p3), .second, .val (.long p4), .second, .val (.ref q), .val (.int (1 : Int32)), .val (.int (3 : Int32)), .val (.ref t0), .val (.ref t1), .val (.ref t2), .val (.int (1 : Int32))] at_230 rfl rfl ?_
          refine w_iload C (q := 234) at_232 rfl rfl ?_
          refine w_ifeq_f C (q := 237) at_234 rfl (by decide) ?_
          refine w_aload C (q := 239) at_237 rfl rfl rfl ?_
          refine w_virtual C (q := 242) (y := ⟨"com/example/orderly_dispatch/orderlydispatch/TimerQueue", "isEmpty", "()Z"⟩) (z := ⟨"com/example/orderly_dispatch/orderlydispatch/TimerQueue", "isEmpty", "()Z"⟩) (rm := ({ frames := 0, cells := 0, slots := 0, locals := 0 } : Room)) (a := q) (argsL := []) (hw _ (List.mem_of_getElem? (i := 13) rfl)) (hw _ (List.mem_of_getElem? (i := 14) rfl)) (hw _ (List.mem_of_getElem? (i := 16) rfl)) (hw _ (List.mem_of_getElem? (i := 16) rfl)) (hw _ (List.mem_of_getElem? (i := 15) rfl)) (hw _ (List.mem_of_getElem? (i := 2) rfl)) (hw _ (List.mem_of_getElem? (i := 17) rfl)) hTQ.1 (rmIE l Z a0 hw q _ n0 Z0 tr5.length.toInt32 hTQ.2.2.1) (by decide) (rest := []) (lenOf pd_4 rfl) rfl at_239 rfl rfl (by decide) (Nat.le_of_ble_eq_true rfl) (by decide) (by decide) ?_
          intro v h163 hQ
          obtain ⟨rfl, rfl⟩ := hQ
          rw [hL]
          refine Wk.v1 ?_
          refine w_iload C (q := 244) at_242 rfl rfl ?_
          refine w_ifne_t C (q := 251) at_244 (by decide) (by decide) (by decide) ?_
          refine w_iconst C (q := 252) (0 : Int32) at_251 rfl (by decide) ?_
          refine w_icne_f C (q := 255) at_252 rfl (by decide) ?_
          refine w_iconst C (q := 256) (1 : Int32) at_255 rfl (by decide) ?_
          refine w_goto C (q := 260) at_256 (by decide) (by decide) ?_
          refine w_istore C (q := 262) #[.val (.int p1), .val (.long p2), .second, .val (.long p3), .second, .val (.long p4), .second, .val (.ref q), .val (.int (1 : Int32)), .val (.int (3 : Int32)), .val (.ref t0), .val (.ref t1), .val (.ref t2), .val (.int (1 : Int32))] at_260 rfl rfl ?_
          refine w_iloadN C (q := 263) at_262 rfl rfl ?_
          refine w_bipush C (q := 265) (32 : Int32) at_263 rfl (by decide) ?_
          refine w_iand C (q := 266) at_265 rfl ?_
          refine w_ifeq C (q := 295) (q' := 269) at_266 (by decide) (by decide) rfl (fun hc266 => ?_) (fun hc266 => ?_)
          · refine w_iload C (q := 297) at_295 rfl rfl ?_
            exact w_retN C at_297 (by decide) (by decide) rfl
          · refine w_aload C (q := 271) at_269 rfl rfl rfl ?_
            refine w_virtual C (q := 274) (y := ⟨"com/example/orderly_dispatch/orderlydispatch/TimerQueue", "drain", "()Ljava/util/List;"⟩) (z := ⟨"com/example/orderly_dispatch/orderlydispatch/TimerQueue", "drain", "()Ljava/util/List;"⟩) (rm := ({ frames := 5, cells := 2, slots := 6, locals := 72 } : Room)) (a := q) (argsL := []) (hw _ (List.mem_of_getElem? (i := 76) rfl)) (hw _ (List.mem_of_getElem? (i := 77) rfl)) (hw _ (List.mem_of_getElem? (i := 79) rfl)) (hw _ (List.mem_of_getElem? (i := 79) rfl)) (hw _ (List.mem_of_getElem? (i := 78) rfl)) (hw _ (List.mem_of_getElem? (i := 2) rfl)) (hw _ (List.mem_of_getElem? (i := 80) rfl)) hTQ.1 (rmDr1 l Z a0 hw q _ n0 Z0 b k tr5 hTQ hL e0 OL S0) (by decide) (rest := []) (lenOf pd_10 rfl) rfl at_271 rfl rfl (by decide) (Nat.le_of_ble_eq_true rfl) (by decide) (by decide) ?_
            intro v h164 hQ
            obtain ⟨al, tz, rfl, hTQ', hL', K⟩ := hQ
            replace Z0 := Nat.le_trans Z0 K.1
            replace hTQ := hTQ'
            replace hL := hL'
            clear hTQ' hL' K
            refine Wk.v1 ?_
            refine w_pop C (q := 275) at_274 rfl rfl ?_
            refine w_iload C (q := 277) at_275 rfl rfl ?_
            refine w_ifeq_f C (q := 280) at_277 rfl (by decide) ?_
            refine w_aload C (q := 282) at_280 rfl rfl rfl ?_
            refine w_virtual C (q := 285) (y := ⟨"com/example/orderly_dispatch/orderlydispatch/TimerQueue", "isEmpty", "()Z"⟩) (z := ⟨"com/example/orderly_dispatch/orderlydispatch/TimerQueue", "isEmpty", "()Z"⟩) (rm := ({ frames := 0, cells := 0, slots := 0, locals := 0 } : Room)) (a := q) (argsL := []) (hw _ (List.mem_of_getElem? (i := 13) rfl)) (hw _ (List.mem_of_getElem? (i := 14) rfl)) (hw _ (List.mem_of_getElem? (i := 16) rfl)) (hw _ (List.mem_of_getElem? (i := 16) rfl)) (hw _ (List.mem_of_getElem? (i := 15) rfl)) (hw _ (List.mem_of_getElem? (i := 2) rfl)) (hw _ (List.mem_of_getElem? (i := 17) rfl)) hTQ.1 (rmIE l Z a0 hw q _ n0 Z0 tz.length.toInt32 hTQ.2.2.1) (by decide) (rest := []) (lenOf pd_4 rfl) rfl at_282 rfl rfl (by decide) (Nat.le_of_ble_eq_true rfl) (by decide) (by decide) ?_
            intro v h165 hQ
            obtain ⟨rfl, rfl⟩ := hQ
            rw [hL]
            refine Wk.v1 ?_
            refine w_ifeq_f C (q := 288) at_285 rfl (by decide) ?_
            refine w_iconst C (q := 289) (1 : Int32) at_288 rfl (by decide) ?_
            refine w_goto C (q := 293) at_289 (by decide) (by decide) ?_
            refine w_istore C (q := 295) #[.val (.int p1), .val (.long p2), .second, .val (.long p3), .second, .val (.long p4), .second, .val (.ref q), .val (.int (1 : Int32)), .val (.int (3 : Int32)), .val (.ref t0), .val (.ref t1), .val (.ref t2), .val (.int (1 : Int32))] at_293 rfl rfl ?_
            refine w_iload C (q := 297) at_295 rfl rfl ?_
            exact w_retN C at_297 (by decide) (by decide) rfl
      · refine w_iload C (q := 165) at_163 rfl rfl ?_
        refine w_ifeq_f C (q := 168) at_165 rfl (by decide) ?_
        refine w_aload C (q := 170) at_168 rfl rfl rfl ?_
        refine w_aload C (q := 172) at_170 rfl rfl rfl ?_
        obtain ⟨j1, hj1⟩ := List.mem_iff_getElem?.mp m1
        refine w_virtual C (q := 175) (y := ⟨"com/example/orderly_dispatch/orderlydispatch/TimerQueue", "remove", "(Lcom/example/orderly_dispatch/orderlydispatch/TimerQueue$Timer;)Z"⟩) (z := ⟨"com/example/orderly_dispatch/orderlydispatch/TimerQueue", "remove", "(Lcom/example/orderly_dispatch/orderlydispatch/TimerQueue$Timer;)Z"⟩) (rm := ({ frames := 4, cells := 0, slots := 0, locals := 69 } : Room)) (a := q) (argsL := [(.ref t1)]) (hw _ (List.mem_of_getElem? (i := 62) rfl)) (hw _ (List.mem_of_getElem? (i := 63) rfl)) (hw _ (List.mem_of_getElem? (i := 65) rfl)) (hw _ (List.mem_of_getElem? (i := 65) rfl)) (hw _ (List.mem_of_getElem? (i := 64) rfl)) (hw _ (List.mem_of_getElem? (i := 2) rfl)) (hw _ (List.mem_of_getElem? (i := 66) rfl)) hTQ.1 (rmRm l Z a0 hw q t1 _ n0 Z0 b k tr4 j1 hTQ (by rw [hL]; decide) hj1) (by decide) (rest := []) (lenOf pd_12 rfl) rfl at_172 rfl rfl (by decide) (Nat.le_of_ble_eq_true rfl) (by decide) (by decide) ?_
        intro v h166 hQ
        obtain ⟨rfl, tr6, hTQ', hR, K⟩ := hQ
        replace OL := OL.keep K hTQ.above
        replace Z0 := Nat.le_trans Z0 K.1
        replace m2 := hR.2.1 t2 m2 (Ne.symm d12)
        replace hL : tr6.length = 1 := by have := hR.1; rw [hL] at this; omega
        replace hTQ := hTQ'
        clear hTQ' hR K
        refine Wk.v1 ?_
        refine w_ifeq_f C (q := 178) at_175 rfl (by decide) ?_
        refine w_iconst C (q := 179) (1 : Int32) at_178 rfl (by decide) ?_
        refine w_goto C (q := 183) at_179 (by decide) (by decide) ?_
        refine w_istore C (q := 185) #[.val (.int p1), .val (.long p2), .second, .val (.long p3), .second, .val (.long p4), .second, .val (.ref q), .val (.int (1 : Int32)), .val (.int (3 : Int32)), .val (.ref t0), .val (.ref t1), .val (.ref t2), .val (.int (2 : Int32))] at_183 rfl rfl ?_
        refine w_iload C (q := 187) at_185 rfl rfl ?_
        refine w_iconst C (q := 188) (1 : Int32) at_187 rfl (by decide) ?_
        refine w_isub C (q := 189) at_188 rfl ?_
        refine w_istore C (q := 191) #[.val (.int p1), .val (.long p2), .second, .val (.long p3), .second, .val (.long p4), .second, .val (.ref q), .val (.int (1 : Int32)), .val (.int (3 : Int32)), .val (.ref t0), .val (.ref t1), .val (.ref t2), .val (.int (1 : Int32))] at_189 rfl rfl ?_
        refine w_iload C (q := 193) at_191 rfl rfl ?_
        refine w_iconst C (q := 194) (3 : Int32) at_193 rfl (by decide) ?_
        refine w_iclt_f C (q := 197) at_194 rfl (by decide) ?_
        refine w_iloadN C (q := 198) at_197 rfl rfl ?_
        refine w_bipush C (q := 200) (16 : Int32) at_198 rfl (by decide) ?_
        refine w_iand C (q := 201) at_200 rfl ?_
        refine w_ifeq C (q := 232) (q' := 204) at_201 (by decide) (by decide) rfl (fun hc201 => ?_) (fun hc201 => ?_)
        · refine w_iload C (q := 234) at_232 rfl rfl ?_
          refine w_ifeq_f C (q := 237) at_234 rfl (by decide) ?_
          refine w_aload C (q := 239) at_237 rfl rfl rfl ?_
          refine w_virtual C (q := 242) (y := ⟨"com/example/orderly_dispatch/orderlydispatch/TimerQueue", "isEmpty", "()Z"⟩) (z := ⟨"com/example/orderly_dispatch/orderlydispatch/TimerQueue", "isEmpty", "()Z"⟩) (rm := ({ frames := 0, cells := 0, slots := 0, locals := 0 } : Room)) (a := q) (argsL := []) (hw _ (List.mem_of_getElem? (i := 13) rfl)) (hw _ (List.mem_of_getElem? (i := 14) rfl)) (hw _ (List.mem_of_getElem? (i := 16) rfl)) (hw _ (List.mem_of_getElem? (i := 16) rfl)) (hw _ (List.mem_of_getElem? (i := 15) rfl)) (hw _ (List.mem_of_getElem? (i := 2) rfl)) (hw _ (List.mem_of_getElem? (i := 17) rfl)) hTQ.1 (rmIE l Z a0 hw q _ n0 Z0 tr6.length.toInt32 hTQ.2.2.1) (by decide) (rest := []) (lenOf pd_4 rfl) rfl at_239 rfl rfl (by decide) (Nat.le_of_ble_eq_true rfl) (by decide) (by decide) ?_
          intro v h167 hQ
          obtain ⟨rfl, rfl⟩ := hQ
          rw [hL]
          refine Wk.v1 ?_
          refine w_iload C (q := 244) at_242 rfl rfl ?_
          refine w_ifne_t C (q := 251) at_244 (by decide) (by decide) (by decide) ?_
          refine w_iconst C (q := 252) (0 : Int32) at_251 rfl (by decide) ?_
          refine w_icne_f C (q := 255) at_252 rfl (by decide) ?_
          refine w_iconst C (q := 256) (1 : Int32) at_255 rfl (by decide) ?_
          refine w_goto C (q := 260) at_256 (by decide) (by decide) ?_
          refine w_istore C (q := 262) #[.val (.int p1), .val (.long p2), .second, .val (.long p3), .second, .val (.long p4), .second, .val (.ref q), .val (.int (1 : Int32)), .val (.int (3 : Int32)), .val (.ref t0), .val (.ref t1), .val (.ref t2), .val (.int (1 : Int32))] at_260 rfl rfl ?_
          refine w_iloadN C (q := 263) at_262 rfl rfl ?_
          refine w_bipush C (q := 265) (32 : Int32) at_263 rfl (by decide) ?_
          refine w_iand C (q := 266) at_265 rfl ?_
          refine w_ifeq C (q := 295) (q' := 269) at_266 (by decide) (by decide) rfl (fun hc266 => ?_) (fun hc266 => ?_)
          · refine w_iload C (q := 297) at_295 rfl rfl ?_
            exact w_retN C at_297 (by decide) (by decide) rfl
          · refine w_aload C (q := 271) at_269 rfl rfl rfl ?_
            refine w_virtual C (q := 274) (y := ⟨"com/example/orderly_dispatch/orderlydispatch/TimerQueue", "drain", "()Ljava/util/List;"⟩) (z := ⟨"com/example/orderly_dispatch/orderlydispatch/TimerQueue", "drain", "()Ljava/util/List;"⟩) (rm := ({ frames := 5, cells := 2, slots := 6, locals := 72 } : Room)) (a := q) (argsL := []) (hw _ (List.mem_of_getElem? (i := 76) rfl)) (hw _ (List.mem_of_getElem? (i := 77) rfl)) (hw _ (List.mem_of_getElem? (i := 79) rfl)) (hw _ (List.mem_of_getElem? (i := 79) rfl)) (hw _ (List.mem_of_getElem? (i := 78) rfl)) (hw _ (List.mem_of_getElem? (i := 2) rfl)) (hw _ (List.mem_of_getElem? (i := 80) rfl)) hTQ.1 (rmDr1 l Z a0 hw q _ n0 Z0 b k tr6 hTQ hL e0 OL S0) (by decide) (rest := []) (lenOf pd_10 rfl) rfl at_271 rfl rfl (by decide) (Nat.le_of_ble_eq_true rfl) (by decide) (by decide) ?_
            intro v h168 hQ
            obtain ⟨al, tz, rfl, hTQ', hL', K⟩ := hQ
            replace Z0 := Nat.le_trans Z0 K.1
            replace hTQ := hTQ'
            replace hL := hL'
            clear hTQ' hL' K
            refine Wk.v1 ?_
            refine w_pop C (q := 275) at_274 rfl rfl ?_
            refine w_iload C (q := 277) at_275 rfl rfl ?_
            refine w_ifeq_f C (q := 280) at_277 rfl (by decide) ?_
            refine w_aload C (q := 282) at_280 rfl rfl rfl ?_
            refine w_virtual C (q := 285) (y := ⟨"com/example/orderly_dispatch/orderlydispatch/TimerQueue", "isEmpty", "()Z"⟩) (z := ⟨"com/example/orderly_dispatch/orderlydispatch/TimerQueue", "isEmpty", "()Z"⟩) (rm := ({ frames := 0, cells := 0, slots := 0, locals := 0 } : Room)) (a := q) (argsL := []) (hw _ (List.mem_of_getElem? (i := 13) rfl)) (hw _ (List.mem_of_getElem? (i := 14) rfl)) (hw _ (List.mem_of_getElem? (i := 16) rfl)) (hw _ (List.mem_of_getElem? (i := 16) rfl)) (hw _ (List.mem_of_getElem? (i := 15) rfl)) (hw _ (List.mem_of_getElem? (i := 2) rfl)) (hw _ (List.mem_of_getElem? (i := 17) rfl)) hTQ.1 (rmIE l Z a0 hw q _ n0 Z0 tz.length.toInt32 hTQ.2.2.1) (by decide) (rest := []) (lenOf pd_4 rfl) rfl at_282 rfl rfl (by decide) (Nat.le_of_ble_eq_true rfl) (by decide) (by decide) ?_
            intro v h169 hQ
            obtain ⟨rfl, rfl⟩ := hQ
            rw [hL]
            refine Wk.v1 ?_
            refine w_ifeq_f C (q := 288) at_285 rfl (by decide) ?_
            refine w_iconst C (q := 289) (1 : Int32) at_288 rfl (by decide) ?_
            refine w_goto C (q := 293) at_289 (by decide) (by decide) ?_
            refine w_istore C (q := 295) #[.val (.int p1), .val (.long p2), .second, .val (.long p3), .second, .val (.long p4), .second, .val (.ref q), .val (.int (1 : Int32)), .val (.int (3 : Int32)), .val (.ref t0), .val (.ref t1), .val (.ref t2), .val (.int (1 : Int32))] at_293 rfl rfl ?_
            refine w_iload C (q := 297) at_295 rfl rfl ?_
            exact w_retN C at_297 (by decide) (by decide) rfl
        · refine w_iload C (q := 206) at_204 rfl rfl ?_
          refine w_ifeq_f C (q := 209) at_206 rfl (by decide) ?_
          refine w_aload C (q := 211) at_209 rfl rfl rfl ?_
          refine w_aload C (q := 213) at_211 rfl rfl rfl ?_
          obtain ⟨j2, hj2⟩ := List.mem_iff_getElem?.mp m2
          refine w_virtual C (q := 216) (y := ⟨"com/example/orderly_dispatch/orderlydispatch/TimerQueue", "remove", "(Lcom/example/orderly_dispatch/orderlydispatch/TimerQueue$Timer;)Z"⟩) (z := ⟨"com/example/orderly_dispatch/orderlydispatch/TimerQueue", "remove", "(Lcom/example/orderly_dispatch/orderlydispatch/TimerQueue$Timer;)Z"⟩) (rm := ({ frames := 4, cells := 0, slots := 0, locals := 69 } : Room)) (a := q) (argsL := [(.ref t2)]) (hw _ (List.mem_of_getElem? (i := 62) rfl)) (hw _ (List.mem_of_getElem? (i := 63) rfl)) (hw _ (List.mem_of_getElem? (i := 65) rfl)) (hw _ (List.mem_of_getElem? (i := 65) rfl)) (hw _ (List.mem_of_getElem? (i := 64) rfl)) (hw _ (List.mem_of_getElem? (i := 2) rfl)) (hw _ (List.mem_of_getElem? (i := 66) rfl)) hTQ.1 (rmRm l Z a0 hw q t2 _ n0 Z0 b k tr6 j2 hTQ (by rw [hL]; decide) hj2) (by decide) (rest := []) (lenOf pd_12 rfl) rfl at_213 rfl rfl (by decide) (Nat.le_of_ble_eq_true rfl) (by decide) (by decide) ?_
          intro v h170 hQ
          obtain ⟨rfl, tr7, hTQ', hR, K⟩ := hQ
          replace OL := OL.keep K hTQ.above
          replace Z0 := Nat.le_trans Z0 K.1
          replace hL : tr7.length = 0 := by have := hR.1; rw [hL] at this; omega
          replace hTQ := hTQ'
          clear hTQ' hR K
          refine Wk.v1 ?_
          refine w_ifeq_f C (q := 219) at_216 rfl (by decide) ?_
          refine w_iconst C (q := 220) (1 : Int32) at_219 rfl (by decide) ?_
          refine w_goto C (q := 224) at_220 (by decide) (by decide) ?_
          refine w_istore C (q := 226) #[.val (.int p1), .val (.long p2), .second, .val (.long p3), .second, .val (.long p4), .second, .val (.ref q), .val (.int (1 : Int32)), .val (.int (3 : Int32)), .val (.ref t0), .val (.ref t1), .val (.ref t2), .val (.int (1 : Int32))] at_224 rfl rfl ?_
          refine w_iload C (q := 228) at_226 rfl rfl ?_
          refine w_iconst C (q := 229) (1 : Int32) at_228 rfl (by decide) ?_
          refine w_isub C (q := 230) at_229 rfl ?_
          refine w_istore C (q := 232) #[.val (.int p1), .val (.long p2), .second, .val (.long p3), .second, .val (.long p4), .second, .val (.ref q), .val (.int (1 : Int32)), .val (.int (3 : Int32)), .val (.ref t0), .val (.ref t1), .val (.ref t2), .val (.int (0 : Int32))] at_230 rfl rfl ?_
          refine w_iload C (q := 234) at_232 rfl rfl ?_
          refine w_ifeq_f C (q := 237) at_234 rfl (by decide) ?_
          refine w_aload C (q := 239) at_237 rfl rfl rfl ?_
          refine w_virtual C (q := 242) (y := ⟨"com/example/orderly_dispatch/orderlydispatch/TimerQueue", "isEmpty", "()Z"⟩) (z := ⟨"com/example/orderly_dispatch/orderlydispatch/TimerQueue", "isEmpty", "()Z"⟩) (rm := ({ frames := 0, cells := 0, slots := 0, locals := 0 } : Room)) (a := q) (argsL := []) (hw _ (List.mem_of_getElem? (i := 13) rfl)) (hw _ (List.mem_of_getElem? (i := 14) rfl)) (hw _ (List.mem_of_getElem? (i := 16) rfl)) (hw _ (List.mem_of_getElem? (i := 16) rfl)) (hw _ (List.mem_of_getElem? (i := 15) rfl)) (hw _ (List.mem_of_getElem? (i := 2) rfl)) (hw _ (List.mem_of_getElem? (i := 17) rfl)) hTQ.1 (rmIE l Z a0 hw q _ n0 Z0 tr7.length.toInt32 hTQ.2.2.1) (by decide) (rest := []) (lenOf pd_4 rfl) rfl at_239 rfl rfl (by decide) (Nat.le_of_ble_eq_true rfl) (by decide) (by decide) ?_
          intro v h171 hQ
          obtain ⟨rfl, rfl⟩ := hQ
          rw [hL]
          refine Wk.v1 ?_
          refine w_iload C (q := 244) at_242 rfl rfl ?_
          refine w_ifne_f C (q := 247) at_244 rfl (by decide) ?_
          refine w_iconst C (q := 248) (1 : Int32) at_247 rfl (by decide) ?_
          refine w_goto C (q := 252) at_248 (by decide) (by decide) ?_
          refine w_icne_f C (q := 255) at_252 rfl (by decide) ?_
          refine w_iconst C (q := 256) (1 : Int32) at_255 rfl (by decide) ?_
          refine w_goto C (q := 260) at_256 (by decide) (by decide) ?_
          refine w_istore C (q := 262) #[.val (.int p1), .val (.long p2), .second, .val (.long p3), .second, .val (.long p4), .second, .val (.ref q), .val (.int (1 : Int32)), .val (.int (3 : Int32)), .val (.ref t0), .val (.ref t1), .val (.ref t2), .val (.int (0 : Int32))] at_260 rfl rfl ?_
          refine w_iloadN C (q := 263) at_262 rfl rfl ?_
          refine w_bipush C (q := 265) (32 : Int32) at_263 rfl (by decide) ?_
          refine w_iand C (q := 266) at_265 rfl ?_
          refine w_ifeq C (q := 295) (q' := 269) at_266 (by decide) (by decide) rfl (fun hc266 => ?_) (fun hc266 => ?_)
          · refine w_iload C (q := 297) at_295 rfl rfl ?_
            exact w_retN C at_297 (by decide) (by decide) rfl
          · refine w_aload C (q := 271) at_269 rfl rfl rfl ?_
            refine w_virtual C (q := 274) (y := ⟨"com/example/orderly_dispatch/orderlydispatch/TimerQueue", "drain", "()Ljava/util/List;"⟩) (z := ⟨"com/example/orderly_dispatch/orderlydispatch/TimerQueue", "drain", "()Ljava/util/List;"⟩) (rm := ({ frames := 5, cells := 2, slots := 6, locals := 72 } : Room)) (a := q) (argsL := []) (hw _ (List.mem_of_getElem? (i := 76) rfl)) (hw _ (List.mem_of_getElem? (i := 77) rfl)) (hw _ (List.mem_of_getElem? (i := 79) rfl)) (hw _ (List.mem_of_getElem? (i := 79) rfl)) (hw _ (List.mem_of_getElem? (i := 78) rfl)) (hw _ (List.mem_of_getElem? (i := 2) rfl)) (hw _ (List.mem_of_getElem? (i := 80) rfl)) hTQ.1 (rmDr0 l Z a0 hw q _ n0 Z0 b k tr7 hTQ hL e0 OL S0) (by decide) (rest := []) (lenOf pd_10 rfl) rfl at_271 rfl rfl (by decide) (Nat.le_of_ble_eq_true rfl) (by decide) (by decide) ?_
            intro v h172 hQ
            obtain ⟨al, tz, rfl, hTQ', hL', K⟩ := hQ
            replace Z0 := Nat.le_trans Z0 K.1
            replace hTQ := hTQ'
            replace hL := hL'
            clear hTQ' hL' K
            refine Wk.v1 ?_
            refine w_pop C (q := 275) at_274 rfl rfl ?_
            refine w_iload C (q := 277) at_275 rfl rfl ?_
            refine w_ifeq_f C (q := 280) at_277 rfl (by decide) ?_
            refine w_aload C (q := 282) at_280 rfl rfl rfl ?_
            refine w_virtual C (q := 285) (y := ⟨"com/example/orderly_dispatch/orderlydispatch/TimerQueue", "isEmpty", "()Z"⟩) (z := ⟨"com/example/orderly_dispatch/orderlydispatch/TimerQueue", "isEmpty", "()Z"⟩) (rm := ({ frames := 0, cells := 0, slots := 0, locals := 0 } : Room)) (a := q) (argsL := []) (hw _ (List.mem_of_getElem? (i := 13) rfl)) (hw _ (List.mem_of_getElem? (i := 14) rfl)) (hw _ (List.mem_of_getElem? (i := 16) rfl)) (hw _ (List.mem_of_getElem? (i := 16) rfl)) (hw _ (List.mem_of_getElem? (i := 15) rfl)) (hw _ (List.mem_of_getElem? (i := 2) rfl)) (hw _ (List.mem_of_getElem? (i := 17) rfl)) hTQ.1 (rmIE l Z a0 hw q _ n0 Z0 tz.length.toInt32 hTQ.2.2.1) (by decide) (rest := []) (lenOf pd_4 rfl) rfl at_282 rfl rfl (by decide) (Nat.le_of_ble_eq_true rfl) (by decide) (by decide) ?_
            intro v h173 hQ
            obtain ⟨rfl, rfl⟩ := hQ
            rw [hL]
            refine Wk.v1 ?_
            refine w_ifeq_f C (q := 288) at_285 rfl (by decide) ?_
            refine w_iconst C (q := 289) (1 : Int32) at_288 rfl (by decide) ?_
            refine w_goto C (q := 293) at_289 (by decide) (by decide) ?_
            refine w_istore C (q := 295) #[.val (.int p1), .val (.long p2), .second, .val (.long p3), .second, .val (.long p4), .second, .val (.ref q), .val (.int (1 : Int32)), .val (.int (3 : Int32)), .val (.ref t0), .val (.ref t1), .val (.ref t2), .val (.int (0 : Int32))] at_293 rfl rfl ?_
            refine w_iload C (q := 297) at_295 rfl rfl ?_
            exact w_retN C at_297 (by decide) (by decide) rfl
set_option maxRecDepth 65536 in
set_option maxHeartbeats 40000000 in
theorem comes_1 {Post : Tables → Env → Array Value → State → Outcome → State → Prop} (hpost : ∀ tb e args s v u, (limb_1_1.after args s (.returned v) u = true ∧ limb_1_2.after args s (.returned v) u = true ∧ True) → FrameEnd s (.returned v) u (Jvm.fieldLocs frame_1_writes args s ++ Jvm.arrayLocs frame_1_arrays args s ++ Jvm.staticLocs frame_1_statics s) 24 192 → Post tb e args s (.returned v) u) :
    ArmFor flags0 classFile x code maxLocals ret World_1 tables_1 room_1 Calls_1 rest_1 Pre_1 Post := by
  intro l hfl _ _ p e ha hc hk s m args below hf hA hF happ hP
  obtain ⟨hcalls, hrest, hpre⟩ := hP
  obtain ⟨-, -, -, hnamed, -, -, -, hat⟩ := (Spec.applies_iff hf).mp happ
  obtain ⟨hg, hn⟩ := and_e (Cond.before_iff.mp (show (Jvm.Cond.and given_1 narrow_1).before args s = true from hpre))
  obtain ⟨g0, g1⟩ := and_e hg
  obtain ⟨w0, w1, w2, w3, rfl⟩ : ∃ w0 w1 w2 w3 : Value, args = #[w0, w1, w2, w3] := by
    have hs : args.size = 4 := by simpa [Cond.value, given_1] using g0
    obtain ⟨L⟩ := args
    match L, hs with
    | [w0, w1, w2, w3], _ => exact ⟨w0, w1, w2, w3, rfl⟩
  have hw := fun d (hd : d ∈ tables_1) => atoms_spec (ws := Jvm.Cond.code x code maxLocals ret :: tables_1) hat d (List.mem_cons_of_mem _ hd)
  have hfit : Fit s := fun {y c} hc i hi => by
    obtain ⟨ha, rfl⟩ := Array.getElem?_eq_some_iff.mp hc
    have q := List.all_eq_true.mp ((Array.all_eq_true_iff_forall_mem.mp hF) _ (Array.getElem_mem ha)) i (List.mem_range.mpr hi)
    simpa [Array.getElem?_eq_getElem hi] using q
  obtain ⟨t0, g2⟩ := and_e g1
  obtain ⟨p1, e0⟩ := is_v t0
  obtain rfl : w0 = (.int p1) := Option.some.inj e0
  obtain ⟨t1, g3⟩ := and_e g2
  obtain ⟨p2, e1⟩ := isL_v t1
  obtain rfl : w1 = (.long p2) := Option.some.inj e1
  obtain ⟨t2, g4⟩ := and_e g3
  obtain ⟨p3, e2⟩ := isL_v t2
  obtain rfl : w2 = (.long p3) := Option.some.inj e2
  obtain ⟨p4, e3⟩ := isL_v g4
  obtain rfl : w3 = (.long p4) := Option.some.inj e3
  obtain ⟨hsets, hown0⟩ := atoms_of _ (rest_1_c_eq ▸ (show rest_1_c.before _ s = true from hrest))
  obtain ⟨e0, ev⟩ := arr_v (Cond.before_iff.mp (hsets _ (List.mem_of_getElem? (i := 3) rfl)))
  have S0 := Sta.start ev (Or.inl (hsets _ (List.mem_of_getElem? (i := 1) rfl)))
  obtain ⟨n, o, h1, h2, h3, _, L, rfl, ⟨hQ, N⟩, hq⟩ := rm0 l s _ hw p1 p2 p3 p4 s.heap s.heap.size (Nat.le_refl _) e0 (Old.start s) S0 tables_1 p e ha hc hk s m _ below hf ((Spec.applies_iff_loose hf).mp happ).1 ⟨rfl, State.Warmed39.refl s, rfl⟩ trivial
  cases hQ
  exact ⟨n, _, h1, h2, h3, hpost _ _ _ _ _ _ ⟨Cond.after_iff.mpr rfl, Cond.after_iff.mpr (eq_i res_at (Term.int_eval (1)) rfl), trivial⟩ ⟨hq.1, hq.2.1, (hq.2.2.sift fun y hy => Or.inr (N y hy)).mono (by decide) (by decide)⟩⟩
theorem main_1_1 : Claimed_1_1 := comes_1 fun _ _ _ _ _ _ h hF => ⟨h.1, hF⟩
theorem main_1_2 : Claimed_1_2 := comes_1 fun _ _ _ _ _ _ h hF => ⟨h.2.1, hF⟩
end Jvm.Pilot.@@N@@
namespace Jvm.Pilot.@@N@@
open Jvm Jvm.ClassFile Sem Op Lib Jvm.Free Jvm.Stand Jvm.Pilot.@@N@@.Jvm.D
/-! MADE BY PROGRAM (witnessworld.py) out of the Statement's table words and the real class files: 26 classes; the members and pool entries that the words name. The judged class is class 1, her method 1. -/
namespace start1
open Jvm.ClassFile
def u (s : String) : CpInfo := .utf8 (stringToUtf16 s)
/-- a pool by its gaps: so many unusable entries, then the entry; so many at the end -/
def gap : Nat → List CpInfo → List CpInfo
  | 0, r => r
  | n + 1, r => .unusable :: gap n r
def poolList (es : List (Nat × CpInfo)) (last : Nat) : List CpInfo := es.foldr (fun e r => gap e.1 (e.2 :: r)) (gap last [])
def pool (es : List (Nat × CpInfo)) (last : Nat) : Array CpInfo := ⟨poolList es last⟩
def fileOf (pool : Array CpInfo) (this : Nat) (attrs : Array Attribute := #[]) (ms : Array MethodInfo := #[]) (fl : Nat := 33) (sup : Nat := 0) (ifs : Array Nat := #[]) (fds : Array FieldInfo := #[]) : ClassFile where
  minorVersion := 0
  majorVersion := 65
  constantPool := pool
  accessFlags := fl
  thisClass := this
  superClass := sup
  interfaces := ifs
  fields := fds
  methods := ms
  attributes := attrs
def plain (name : String) (sup : Option ClassId) : Class where
  name := name
  kind := .ordinary
  loader := none
  accessFlags := 33
  super := sup
  interfaces := #[]
  cf := none
  fields := #[]
  methods := #[]
  instanceTypes := #[]
  staticTypes := #[]
  resolved := #[]
  callSites := []
  init := .initialized
  statics := none
  mirror := none

def pool0 : Array CpInfo := pool [(5, u "<init>"), (0, u "()V"), (1, .class_ 10), (1, u "java/lang/Object")] 113

def k0c0 : Code := { maxStack := 0, maxLocals := 1, code := object_method_1_code, exceptionTable := #[], attributes := #[] }
def k0m0 : Method := { name := "<init>", desc := "()V", sig := { parameters := [], returnType := none }, accessFlags := 1, code := some k0c0 }
/-- java/lang/Object -/
def k0 : Class := { plain "java/lang/Object" none with
  accessFlags := 33
  interfaces := #[]
  cf := some (fileOf pool0 8 #[] #[{ accessFlags := 1, nameIndex := 5, descriptorIndex := 6, attributes := #[] }] 33 0 #[] #[])
  fields := #[]
  methods := #[k0m0]
  instanceTypes := #[]
  staticTypes := #[]
  resolved := Array.replicate 124 none
  statics := none }

def pool1 : Array CpInfo := pool [(2, .class_ 4), (0, .nameAndType 5 6), (0, u "java/lang/Object"), (0, u "<init>"), (0, u "()V"), (0, .class_ 8), (0, u "com/example/orderly_dispatch/orderlydispatch/TimerQueue"), (0, .methodref 7 3), (0, .methodref 7 11), (0, .nameAndType 12 13), (0, u "isEmpty"), (0, u "()Z"), (0, .methodref 7 15), (0, .nameAndType 16 17), (0, u "add"), (0, u "(Ljava/lang/Runnable;J)Lcom/example/orderly_dispatch/orderlydispatch/TimerQueue$Timer;"), (0, .methodref 7 19), (0, .nameAndType 20 21), (0, u "remove"), (0, u "(Lcom/example/orderly_dispatch/orderlydispatch/TimerQueue$Timer;)Z"), (0, .methodref 7 23), (0, .nameAndType 24 25), (0, u "drain"), (0, u "()Ljava/util/List;"), (0, .class_ 27), (0, u "com/example/orderly_dispatch/orderlydispatch/TimerQueueIsEmptyPinLaw"), (2, u "law"), (0, u "(IJJJ)Z")] 7

def k1m0 : Method := { name := "<init>", desc := "()V", sig := { parameters := [], returnType := none }, accessFlags := 1, code := none }
def k1c1 : Code := { maxStack := 4, maxLocals := 14, code := code, exceptionTable := #[], attributes := #[] }
def k1m1 : Method := { name := "law", desc := "(IJJJ)Z", sig := { parameters := [.int, .long, .long, .long], returnType := some .boolean }, accessFlags := 9, code := some k1c1 }
/-- com/example/orderly_dispatch/orderlydispatch/TimerQueueIsEmptyPinLaw -/
def k1 : Class := { plain "com/example/orderly_dispatch/orderlydispatch/TimerQueueIsEmptyPinLaw" (some 0) with
  accessFlags := 49
  interfaces := #[]
  cf := some (fileOf pool1 26 #[] #[{ accessFlags := 1, nameIndex := 5, descriptorIndex := 6, attributes := #[] }, { accessFlags := 9, nameIndex := 30, descriptorIndex := 31, attributes := #[] }] 49 2 #[] #[])
  fields := #[]
  methods := #[k1m0, k1m1]
  instanceTypes := #[]
  staticTypes := #[]
  resolved := Array.replicate 39 none
  statics := none }

def pool2 : Array CpInfo := pool [(1, .methodref 2 3), (0, .class_ 4), (0, .nameAndType 5 6), (0, u "java/lang/Object"), (0, u "<init>"), (0, u "()V"), (0, .class_ 8), (0, u "com/example/orderly_dispatch/orderlydispatch/TimerQueue"), (0, .class_ 10), (0, u "com/example/orderly_dispatch/orderlydispatch/TimerQueue$Timer"), (0, .fieldref 7 12), (0, .nameAndType 13 14), (0, u "heap"), (0, u "[Lcom/example/orderly_dispatch/orderlydispatch/TimerQueue$Timer;"), (0, .fieldref 7 16), (0, .nameAndType 17 18), (0, u "added"), (0, u "J"), (0, .methodref 9 20), (0, .nameAndType 5 21), (0, u "(Lcom/example/orderly_dispatch/orderlydispatch/TimerQueue;Ljava/lang/Runnable;JJ)V"), (0, .fieldref 7 23), (0, .nameAndType 24 25), (0, u "size"), (0, u "I"), (7, .methodref 7 34), (0, .nameAndType 35 36), (0, u "siftUp"), (0, u "(ILcom/example/orderly_dispatch/orderlydispatch/TimerQueue$Timer;)V"), (3, .methodref 7 41), (0, .nameAndType 42 43), (0, u "removeAt"), (0, u "(I)V"), (0, .fieldref 9 45), (0, .nameAndType 46 47), (0, u "task"), (0, u "Ljava/lang/Runnable;"), (0, .methodref 9 49), (0, .nameAndType 50 51), (0, u "isQueued"), (0, u "()Z"), (0, .fieldref 9 53), (0, .nameAndType 54 25), (0, u "index"), (0, .class_ 56), (0, u "java/util/ArrayList"), (6, u "(Ljava/lang/Object;)Z"), (0, .methodref 55 65), (0, .nameAndType 66 63), (0, u "add"), (3, .methodref 55 71), (0, .nameAndType 5 43), (15, u "remove"), (0, u "(Lcom/example/orderly_dispatch/orderlydispatch/TimerQueue$Timer;)Z"), (0, .methodref 7 90), (0, .nameAndType 91 36), (0, u "siftDown"), (0, .methodref 9 93), (0, .nameAndType 94 95), (0, u "compareTo"), (0, u "(Lcom/example/orderly_dispatch/orderlydispatch/TimerQueue$Timer;)I"), (0, .methodref 7 97), (0, .nameAndType 98 36), (0, u "put"), (0, u "INITIAL_CAPACITY"), (4, u "(Ljava/lang/Runnable;J)Lcom/example/orderly_dispatch/orderlydispatch/TimerQueue$Timer;"), (11, u "drain"), (0, u "()Ljava/util/List;"), (1, u "isEmpty")] 5

def k2c0 : Code := { maxStack := 2, maxLocals := 1, code := prog_25_method_1_code, exceptionTable := #[], attributes := #[] }
def k2m0 : Method := { name := "<init>", desc := "()V", sig := { parameters := [], returnType := none }, accessFlags := 0, code := some k2c0 }
def k2c1 : Code := { maxStack := 13, maxLocals := 5, code := prog_25_method_2_code, exceptionTable := #[], attributes := #[] }
def k2m1 : Method := { name := "add", desc := "(Ljava/lang/Runnable;J)Lcom/example/orderly_dispatch/orderlydispatch/TimerQueue$Timer;", sig := { parameters := [(.object "java/lang/Runnable"), .long], returnType := some (.object "com/example/orderly_dispatch/orderlydispatch/TimerQueue$Timer") }, accessFlags := 0, code := some k2c1 }
def k2c2 : Code := { maxStack := 2, maxLocals := 3, code := prog_25_method_5_code, exceptionTable := #[], attributes := #[] }
def k2m2 : Method := { name := "remove", desc := "(Lcom/example/orderly_dispatch/orderlydispatch/TimerQueue$Timer;)Z", sig := { parameters := [(.object "com/example/orderly_dispatch/orderlydispatch/TimerQueue$Timer")], returnType := some .boolean }, accessFlags := 0, code := some k2c2 }
def k2c3 : Code := { maxStack := 3, maxLocals := 2, code := prog_25_method_7_code, exceptionTable := #[], attributes := #[] }
def k2m3 : Method := { name := "drain", desc := "()Ljava/util/List;", sig := { parameters := [], returnType := some (.object "java/util/List") }, accessFlags := 0, code := some k2c3 }
def k2c4 : Code := { maxStack := 1, maxLocals := 1, code := prog_25_method_9_code, exceptionTable := #[], attributes := #[] }
def k2m4 : Method := { name := "isEmpty", desc := "()Z", sig := { parameters := [], returnType := some .boolean }, accessFlags := 0, code := some k2c4 }
def k2c5 : Code := { maxStack := 4, maxLocals := 4, code := prog_25_method_10_code, exceptionTable := #[], attributes := #[] }
def k2m5 : Method := { name := "removeAt", desc := "(I)V", sig := { parameters := [.int], returnType := none }, accessFlags := 2, code := some k2c5 }
def k2c6 : Code := { maxStack := 4, maxLocals := 5, code := prog_25_method_11_code, exceptionTable := #[], attributes := #[] }
def k2m6 : Method := { name := "siftUp", desc := "(ILcom/example/orderly_dispatch/orderlydispatch/TimerQueue$Timer;)V", sig := { parameters := [.int, (.object "com/example/orderly_dispatch/orderlydispatch/TimerQueue$Timer")], returnType := none }, accessFlags := 2, code := some k2c6 }
def k2c7 : Code := { maxStack := 4, maxLocals := 7, code := prog_25_method_12_code, exceptionTable := #[], attributes := #[] }
def k2m7 : Method := { name := "siftDown", desc := "(ILcom/example/orderly_dispatch/orderlydispatch/TimerQueue$Timer;)V", sig := { parameters := [.int, (.object "com/example/orderly_dispatch/orderlydispatch/TimerQueue$Timer")], returnType := none }, accessFlags := 2, code := some k2c7 }
def k2c8 : Code := { maxStack := 3, maxLocals := 3, code := prog_25_method_13_code, exceptionTable := #[], attributes := #[] }
def k2m8 : Method := { name := "put", desc := "(ILcom/example/orderly_dispatch/orderlydispatch/TimerQueue$Timer;)V", sig := { parameters := [.int, (.object "com/example/orderly_dispatch/orderlydispatch/TimerQueue$Timer")], returnType := none }, accessFlags := 2, code := some k2c8 }
/-- com/example/orderly_dispatch/orderlydispatch/TimerQueue -/
def k2 : Class := { plain "com/example/orderly_dispatch/orderlydispatch/TimerQueue" (some 0) with
  accessFlags := 32
  interfaces := #[]
  cf := some (fileOf pool2 7 #[.nestMembers #[9]] #[{ accessFlags := 0, nameIndex := 5, descriptorIndex := 6, attributes := #[] }, { accessFlags := 0, nameIndex := 66, descriptorIndex := 104, attributes := #[] }, { accessFlags := 0, nameIndex := 87, descriptorIndex := 88, attributes := #[] }, { accessFlags := 0, nameIndex := 116, descriptorIndex := 117, attributes := #[] }, { accessFlags := 0, nameIndex := 119, descriptorIndex := 51, attributes := #[] }, { accessFlags := 2, nameIndex := 42, descriptorIndex := 43, attributes := #[] }, { accessFlags := 2, nameIndex := 35, descriptorIndex := 36, attributes := #[] }, { accessFlags := 2, nameIndex := 91, descriptorIndex := 36, attributes := #[] }, { accessFlags := 2, nameIndex := 98, descriptorIndex := 36, attributes := #[] }] 32 2 #[] #[{ accessFlags := 26, nameIndex := 99, descriptorIndex := 25, attributes := #[] }, { accessFlags := 2, nameIndex := 13, descriptorIndex := 14, attributes := #[] }, { accessFlags := 2, nameIndex := 24, descriptorIndex := 25, attributes := #[] }, { accessFlags := 2, nameIndex := 17, descriptorIndex := 18, attributes := #[] }])
  fields := #[{ name := "INITIAL_CAPACITY", type := .int, accessFlags := 26, slot := 0, constantValue := 0 }, { name := "heap", type := (.array (.object "com/example/orderly_dispatch/orderlydispatch/TimerQueue$Timer")), accessFlags := 2, slot := 0, constantValue := 0 }, { name := "size", type := .int, accessFlags := 2, slot := 1, constantValue := 0 }, { name := "added", type := .long, accessFlags := 2, slot := 2, constantValue := 0 }]
  methods := #[k2m0, k2m1, k2m2, k2m3, k2m4, k2m5, k2m6, k2m7, k2m8]
  instanceTypes := #[(.array (.object "com/example/orderly_dispatch/orderlydispatch/TimerQueue$Timer")), .int, .long]
  staticTypes := #[.int]
  resolved := ((((Array.replicate 125 none).setIfInBounds 9 (some (.cls 5))).setIfInBounds 19 (some (.method ⟨5, 0⟩))).setIfInBounds 44 (some (.field 5 0))).setIfInBounds 52 (some (.field 5 3))
  statics := none }

def pool3 : Array CpInfo := pool [(1, .class_ 2), (0, u "java/lang/Comparable"), (0, .class_ 4), (0, u "java/lang/Object")] 7

/-- java/lang/Comparable -/
def k3 : Class := { plain "java/lang/Comparable" (some 0) with
  accessFlags := 1537
  interfaces := #[]
  cf := some (fileOf pool3 1 #[] #[] 1537 3 #[] #[])
  fields := #[]
  methods := #[]
  instanceTypes := #[]
  staticTypes := #[]
  resolved := Array.replicate 12 none
  statics := none }

def pool4 : Array CpInfo := pool [(1, .class_ 2), (0, u "com/example/orderly_dispatch/orderlydispatch/QueueEntry"), (0, .class_ 4), (0, u "java/lang/Object")] 5

/-- com/example/orderly_dispatch/orderlydispatch/QueueEntry -/
def k4 : Class := { plain "com/example/orderly_dispatch/orderlydispatch/QueueEntry" (some 0) with
  accessFlags := 1536
  interfaces := #[]
  cf := some (fileOf pool4 1 #[] #[] 1536 3 #[] #[])
  fields := #[]
  methods := #[]
  instanceTypes := #[]
  staticTypes := #[]
  resolved := Array.replicate 10 none
  statics := none }

def pool5 : Array CpInfo := pool [(1, .fieldref 2 3), (0, .class_ 4), (0, .nameAndType 5 6), (0, u "com/example/orderly_dispatch/orderlydispatch/TimerQueue$Timer"), (0, u "this$0"), (0, u "Lcom/example/orderly_dispatch/orderlydispatch/TimerQueue;"), (0, .methodref 8 9), (0, .class_ 10), (0, .nameAndType 11 12), (0, u "java/lang/Object"), (0, u "<init>"), (0, u "()V"), (0, .fieldref 2 14), (0, .nameAndType 15 16), (0, u "index"), (0, u "I"), (0, .fieldref 2 18), (0, .nameAndType 19 20), (0, u "task"), (0, u "Ljava/lang/Runnable;"), (0, .fieldref 2 22), (0, .nameAndType 23 24), (0, u "dueNanos"), (0, u "J"), (0, .fieldref 2 26), (0, .nameAndType 27 24), (0, u "sequence"), (1, .class_ 31), (1, u "com/example/orderly_dispatch/orderlydispatch/TimerQueue"), (2, .methodref 35 36), (0, .class_ 37), (0, .nameAndType 38 39), (0, u "java/lang/Long"), (0, u "compare"), (0, u "(JJ)I"), (0, .methodref 35 41), (0, .nameAndType 42 43), (0, u "signum"), (0, u "(J)I"), (2, u "compareTo"), (0, u "(Lcom/example/orderly_dispatch/orderlydispatch/TimerQueue$Timer;)I"), (0, .class_ 49), (0, u "java/lang/Comparable"), (0, .class_ 51), (0, u "com/example/orderly_dispatch/orderlydispatch/QueueEntry"), (0, u "(Lcom/example/orderly_dispatch/orderlydispatch/TimerQueue;Ljava/lang/Runnable;JJ)V"), (5, u "isQueued"), (0, u "()Z")] 9

def k5c0 : Code := { maxStack := 3, maxLocals := 7, code := prog_26_method_1_code, exceptionTable := #[], attributes := #[] }
def k5m0 : Method := { name := "<init>", desc := "(Lcom/example/orderly_dispatch/orderlydispatch/TimerQueue;Ljava/lang/Runnable;JJ)V", sig := { parameters := [(.object "com/example/orderly_dispatch/orderlydispatch/TimerQueue"), (.object "java/lang/Runnable"), .long, .long], returnType := none }, accessFlags := 2, code := some k5c0 }
def k5c1 : Code := { maxStack := 1, maxLocals := 1, code := prog_26_method_4_code, exceptionTable := #[], attributes := #[] }
def k5m1 : Method := { name := "isQueued", desc := "()Z", sig := { parameters := [], returnType := some .boolean }, accessFlags := 1, code := some k5c1 }
def k5c2 : Code := { maxStack := 4, maxLocals := 4, code := prog_26_method_6_code, exceptionTable := #[], attributes := #[] }
def k5m2 : Method := { name := "compareTo", desc := "(Lcom/example/orderly_dispatch/orderlydispatch/TimerQueue$Timer;)I", sig := { parameters := [(.object "com/example/orderly_dispatch/orderlydispatch/TimerQueue$Timer")], returnType := some .int }, accessFlags := 1, code := some k5c2 }
/-- com/example/orderly_dispatch/orderlydispatch/TimerQueue$Timer -/
def k5 : Class := { plain "com/example/orderly_dispatch/orderlydispatch/TimerQueue$Timer" (some 0) with
  accessFlags := 32
  interfaces := #[3, 4]
  cf := some (fileOf pool5 2 #[.nestHost 29] #[{ accessFlags := 2, nameIndex := 11, descriptorIndex := 52, attributes := #[] }, { accessFlags := 1, nameIndex := 58, descriptorIndex := 59, attributes := #[] }, { accessFlags := 1, nameIndex := 46, descriptorIndex := 47, attributes := #[] }] 32 8 #[48, 50] #[{ accessFlags := 18, nameIndex := 19, descriptorIndex := 20, attributes := #[] }, { accessFlags := 18, nameIndex := 23, descriptorIndex := 24, attributes := #[] }, { accessFlags := 18, nameIndex := 27, descriptorIndex := 24, attributes := #[] }, { accessFlags := 2, nameIndex := 15, descriptorIndex := 16, attributes := #[] }, { accessFlags := 4112, nameIndex := 5, descriptorIndex := 6, attributes := #[] }])
  fields := #[{ name := "task", type := (.object "java/lang/Runnable"), accessFlags := 18, slot := 0, constantValue := 0 }, { name := "dueNanos", type := .long, accessFlags := 18, slot := 1, constantValue := 0 }, { name := "sequence", type := .long, accessFlags := 18, slot := 2, constantValue := 0 }, { name := "index", type := .int, accessFlags := 2, slot := 3, constantValue := 0 }, { name := "this$0", type := (.object "com/example/orderly_dispatch/orderlydispatch/TimerQueue"), accessFlags := 4112, slot := 4, constantValue := 0 }]
  methods := #[k5m0, k5m1, k5m2]
  instanceTypes := #[(.object "java/lang/Runnable"), .long, .long, .int, (.object "com/example/orderly_dispatch/orderlydispatch/TimerQueue")]
  staticTypes := #[]
  resolved := Array.replicate 69 none
  statics := none }

def pool6 : Array CpInfo := pool [(1, .class_ 2), (0, u "java/io/Serializable"), (0, .class_ 4), (0, u "java/lang/Object")] 2

/-- java/io/Serializable -/
def k6 : Class := { plain "java/io/Serializable" (some 0) with
  accessFlags := 1537
  interfaces := #[]
  cf := some (fileOf pool6 1 #[] #[] 1537 3 #[] #[])
  fields := #[]
  methods := #[]
  instanceTypes := #[]
  staticTypes := #[]
  resolved := Array.replicate 7 none
  statics := none }

def pool7 : Array CpInfo := pool [(2, .class_ 4), (1, u "java/lang/Object"), (0, u "<init>"), (0, u "()V"), (1, .class_ 10), (1, u "java/lang/Number"), (2, .class_ 14), (0, u "java/io/Serializable"), (0, u "serialVersionUID"), (0, u "J")] 20

def k7m0 : Method := { name := "<init>", desc := "()V", sig := { parameters := [], returnType := none }, accessFlags := 1, code := none }
/-- java/lang/Number -/
def k7 : Class := { plain "java/lang/Number" (some 0) with
  accessFlags := 1057
  interfaces := #[6]
  cf := some (fileOf pool7 8 #[] #[{ accessFlags := 1, nameIndex := 5, descriptorIndex := 6, attributes := #[] }] 1057 2 #[13] #[{ accessFlags := 26, nameIndex := 15, descriptorIndex := 16, attributes := #[] }])
  fields := #[{ name := "serialVersionUID", type := .long, accessFlags := 26, slot := 0, constantValue := 0 }]
  methods := #[k7m0]
  instanceTypes := #[]
  staticTypes := #[.long]
  resolved := Array.replicate 37 none
  statics := none }

def pool8 : Array CpInfo := pool [(1, .class_ 2), (0, u "java/lang/constant/Constable"), (0, .class_ 4), (0, u "java/lang/Object")] 6

/-- java/lang/constant/Constable -/
def k8 : Class := { plain "java/lang/constant/Constable" (some 0) with
  accessFlags := 1537
  interfaces := #[]
  cf := some (fileOf pool8 1 #[] #[] 1537 3 #[] #[])
  fields := #[]
  methods := #[]
  instanceTypes := #[]
  staticTypes := #[]
  resolved := Array.replicate 11 none
  statics := none }

def pool9 : Array CpInfo := pool [(1, .class_ 2), (0, u "java/lang/constant/ConstantDesc"), (0, .class_ 4), (0, u "java/lang/Object")] 32

/-- java/lang/constant/ConstantDesc -/
def k9 : Class := { plain "java/lang/constant/ConstantDesc" (some 0) with
  accessFlags := 1537
  interfaces := #[]
  cf := some (fileOf pool9 1 #[] #[] 1537 3 #[] #[])
  fields := #[]
  methods := #[]
  instanceTypes := #[]
  staticTypes := #[]
  resolved := Array.replicate 37 none
  statics := none }

def pool10 : Array CpInfo := pool [(1, .class_ 2), (0, u "java/lang/Long"), (98, u "(J)I"), (133, .class_ 237), (1, u "java/lang/Long$LongCache"), (33, .class_ 272), (0, u "java/lang/Number"), (2, u "value"), (0, u "J"), (27, u "compare"), (0, u "(JJ)I"), (55, u "TYPE"), (0, u "Ljava/lang/Class;"), (0, .class_ 364), (0, u "java/lang/Comparable"), (0, .class_ 366), (0, u "java/lang/constant/Constable"), (0, .class_ 368), (0, u "java/lang/constant/ConstantDesc"), (0, u "MIN_VALUE"), (1, u "MAX_VALUE"), (4, u "SIZE"), (0, u "I"), (1, u "BYTES"), (1, u "serialVersionUID"), (115, u "signum")] 26

def k10c0 : Code := { maxStack := 4, maxLocals := 4, code := jdk_35_method_42_code, exceptionTable := #[], attributes := #[] }
def k10m0 : Method := { name := "compare", desc := "(JJ)I", sig := { parameters := [.long, .long], returnType := some .int }, accessFlags := 9, code := some k10c0 }
def k10c1 : Code := { maxStack := 5, maxLocals := 2, code := jdk_35_method_57_code, exceptionTable := #[], attributes := #[] }
def k10m1 : Method := { name := "signum", desc := "(J)I", sig := { parameters := [.long], returnType := some .int }, accessFlags := 9, code := some k10c1 }
/-- java/lang/Long -/
def k10 : Class := { plain "java/lang/Long" (some 7) with
  accessFlags := 49
  interfaces := #[3, 8, 9]
  cf := some (fileOf pool10 1 #[.nestMembers #[235]] #[{ accessFlags := 9, nameIndex := 304, descriptorIndex := 305, attributes := #[] }, { accessFlags := 9, nameIndex := 497, descriptorIndex := 101, attributes := #[] }] 49 271 #[363, 365, 367] #[{ accessFlags := 25, nameIndex := 369, descriptorIndex := 276, attributes := #[] }, { accessFlags := 25, nameIndex := 371, descriptorIndex := 276, attributes := #[] }, { accessFlags := 25, nameIndex := 361, descriptorIndex := 362, attributes := #[] }, { accessFlags := 18, nameIndex := 275, descriptorIndex := 276, attributes := #[] }, { accessFlags := 25, nameIndex := 376, descriptorIndex := 377, attributes := #[] }, { accessFlags := 25, nameIndex := 379, descriptorIndex := 377, attributes := #[] }, { accessFlags := 26, nameIndex := 381, descriptorIndex := 276, attributes := #[] }])
  fields := #[{ name := "MIN_VALUE", type := .long, accessFlags := 25, slot := 0, constantValue := 0 }, { name := "MAX_VALUE", type := .long, accessFlags := 25, slot := 1, constantValue := 0 }, { name := "TYPE", type := (.object "java/lang/Class"), accessFlags := 25, slot := 2, constantValue := 0 }, { name := "value", type := .long, accessFlags := 18, slot := 0, constantValue := 0 }, { name := "SIZE", type := .int, accessFlags := 25, slot := 3, constantValue := 0 }, { name := "BYTES", type := .int, accessFlags := 25, slot := 4, constantValue := 0 }, { name := "serialVersionUID", type := .long, accessFlags := 26, slot := 5, constantValue := 0 }]
  methods := #[k10m0, k10m1]
  instanceTypes := #[.long]
  staticTypes := #[.long, .long, (.object "java/lang/Class"), .int, .int, .long]
  resolved := Array.replicate 524 none
  statics := none }

def pool11 : Array CpInfo := pool [(8, .class_ 10), (1, u "java/lang/Iterable"), (24, .class_ 36), (0, u "java/lang/Object")] 25

/-- java/lang/Iterable -/
def k11 : Class := { plain "java/lang/Iterable" (some 0) with
  accessFlags := 1537
  interfaces := #[]
  cf := some (fileOf pool11 8 #[] #[] 1537 35 #[] #[])
  fields := #[]
  methods := #[]
  instanceTypes := #[]
  staticTypes := #[]
  resolved := Array.replicate 62 none
  statics := none }

def pool12 : Array CpInfo := pool [(10, .class_ 12), (1, u "java/util/Collection"), (47, .class_ 61), (0, u "java/lang/Object"), (0, .class_ 63), (0, u "java/lang/Iterable")] 51

/-- java/util/Collection -/
def k12 : Class := { plain "java/util/Collection" (some 0) with
  accessFlags := 1537
  interfaces := #[11]
  cf := some (fileOf pool12 10 #[] #[] 1537 60 #[62] #[])
  fields := #[]
  methods := #[]
  instanceTypes := #[]
  staticTypes := #[]
  resolved := Array.replicate 115 none
  statics := none }

def pool13 : Array CpInfo := pool [(1, .methodref 2 3), (0, .class_ 4), (0, .nameAndType 5 6), (0, u "java/lang/Object"), (0, u "<init>"), (0, u "()V"), (1, .class_ 10), (1, u "java/util/AbstractCollection"), (66, .class_ 78), (0, u "java/util/Collection")] 81

def k13c0 : Code := { maxStack := 1, maxLocals := 1, code := jdk_22_method_1_code, exceptionTable := #[], attributes := #[] }
def k13m0 : Method := { name := "<init>", desc := "()V", sig := { parameters := [], returnType := none }, accessFlags := 4, code := some k13c0 }
/-- java/util/AbstractCollection -/
def k13 : Class := { plain "java/util/AbstractCollection" (some 0) with
  accessFlags := 1057
  interfaces := #[12]
  cf := some (fileOf pool13 8 #[] #[{ accessFlags := 4, nameIndex := 5, descriptorIndex := 6, attributes := #[] }] 1057 2 #[77] #[])
  fields := #[]
  methods := #[k13m0]
  instanceTypes := #[]
  staticTypes := #[]
  resolved := Array.replicate 160 none
  statics := none }

def pool14 : Array CpInfo := pool [(8, .class_ 10), (1, u "java/util/SequencedCollection"), (15, .class_ 27), (0, u "java/lang/Object"), (0, .class_ 29), (0, u "java/util/Collection")] 27

/-- java/util/SequencedCollection -/
def k14 : Class := { plain "java/util/SequencedCollection" (some 0) with
  accessFlags := 1537
  interfaces := #[12]
  cf := some (fileOf pool14 8 #[] #[] 1537 26 #[28] #[])
  fields := #[]
  methods := #[]
  instanceTypes := #[]
  staticTypes := #[]
  resolved := Array.replicate 57 none
  statics := none }

def pool15 : Array CpInfo := pool [(8, .class_ 10), (1, u "java/util/List"), (92, .class_ 104), (0, u "java/lang/Object"), (15, .class_ 121), (0, u "java/util/SequencedCollection")] 129

/-- java/util/List -/
def k15 : Class := { plain "java/util/List" (some 0) with
  accessFlags := 1537
  interfaces := #[14]
  cf := some (fileOf pool15 8 #[] #[] 1537 103 #[120] #[])
  fields := #[]
  methods := #[]
  instanceTypes := #[]
  staticTypes := #[]
  resolved := Array.replicate 251 none
  statics := none }

def pool16 : Array CpInfo := pool [(1, .methodref 2 3), (0, .class_ 4), (0, .nameAndType 5 6), (0, u "java/util/AbstractCollection"), (0, u "<init>"), (0, u "()V"), (0, .fieldref 8 9), (0, .class_ 10), (0, .nameAndType 11 12), (0, u "java/util/AbstractList"), (0, u "modCount"), (0, u "I"), (64, .class_ 78), (0, u "java/util/AbstractList$Itr"), (3, .class_ 83), (0, u "java/util/AbstractList$ListItr"), (9, .class_ 94), (0, u "java/util/AbstractList$RandomAccessSubList"), (3, .class_ 99), (0, u "java/util/AbstractList$SubList"), (33, .class_ 134), (0, u "java/util/List"), (73, .class_ 209), (0, u "java/util/AbstractList$SubList$1"), (0, .class_ 211), (0, u "java/util/AbstractList$RandomAccessSpliterator")] 6

def k16c0 : Code := { maxStack := 2, maxLocals := 1, code := jdk_39_method_1_code, exceptionTable := #[], attributes := #[] }
def k16m0 : Method := { name := "<init>", desc := "()V", sig := { parameters := [], returnType := none }, accessFlags := 4, code := some k16c0 }
/-- java/util/AbstractList -/
def k16 : Class := { plain "java/util/AbstractList" (some 13) with
  accessFlags := 1057
  interfaces := #[15]
  cf := some (fileOf pool16 8 #[.nestMembers #[93, 98, 208, 210, 82, 77]] #[{ accessFlags := 4, nameIndex := 5, descriptorIndex := 6, attributes := #[] }] 1057 2 #[133] #[{ accessFlags := 132, nameIndex := 11, descriptorIndex := 12, attributes := #[] }])
  fields := #[{ name := "modCount", type := .int, accessFlags := 132, slot := 0, constantValue := 0 }]
  methods := #[k16m0]
  instanceTypes := #[.int]
  staticTypes := #[]
  resolved := Array.replicate 218 none
  statics := none }

def pool17 : Array CpInfo := pool [(1, .class_ 2), (0, u "java/util/RandomAccess"), (0, .class_ 4), (0, u "java/lang/Object")] 2

/-- java/util/RandomAccess -/
def k17 : Class := { plain "java/util/RandomAccess" (some 0) with
  accessFlags := 1537
  interfaces := #[]
  cf := some (fileOf pool17 1 #[] #[] 1537 3 #[] #[])
  fields := #[]
  methods := #[]
  instanceTypes := #[]
  staticTypes := #[]
  resolved := Array.replicate 7 none
  statics := none }

def pool18 : Array CpInfo := pool [(1, .class_ 2), (0, u "java/lang/Cloneable"), (0, .class_ 4), (0, u "java/lang/Object")] 2

/-- java/lang/Cloneable -/
def k18 : Class := { plain "java/lang/Cloneable" (some 0) with
  accessFlags := 1537
  interfaces := #[]
  cf := some (fileOf pool18 1 #[] #[] 1537 3 #[] #[])
  fields := #[]
  methods := #[]
  instanceTypes := #[]
  staticTypes := #[]
  resolved := Array.replicate 7 none
  statics := none }

def pool19 : Array CpInfo := pool [(1, .methodref 2 3), (0, .class_ 4), (0, .nameAndType 5 6), (0, u "java/util/AbstractList"), (0, u "<init>"), (0, u "()V"), (0, .class_ 8), (0, u "java/lang/Object"), (0, .fieldref 10 11), (0, .class_ 12), (0, .nameAndType 13 14), (0, u "java/util/ArrayList"), (0, u "elementData"), (0, u "[Ljava/lang/Object;"), (0, .fieldref 10 16), (0, .nameAndType 17 14), (0, u "EMPTY_ELEMENTDATA"), (23, u "DEFAULTCAPACITY_EMPTY_ELEMENTDATA"), (6, .fieldref 10 49), (0, .nameAndType 50 51), (0, u "size"), (0, u "I"), (11, .fieldref 10 64), (0, .nameAndType 65 51), (0, u "modCount"), (30, u "(Ljava/lang/Object;)Z"), (34, .methodref 10 132), (0, .nameAndType 133 134), (0, u "add"), (0, u "(Ljava/lang/Object;[Ljava/lang/Object;I)V"), (3, u "(I)V"), (9, .class_ 149), (0, u "java/util/List"), (112, .class_ 263), (0, u "java/util/ArrayList$ListItr"), (3, .class_ 268), (0, u "java/util/ArrayList$Itr"), (7, .class_ 277), (0, u "java/util/ArrayList$SubList"), (12, .class_ 291), (0, u "java/util/ArrayList$ArrayListSpliterator"), (37, .class_ 330), (0, u "java/util/RandomAccess"), (0, .class_ 332), (0, u "java/lang/Cloneable"), (0, .class_ 334), (0, u "java/io/Serializable"), (0, u "serialVersionUID"), (0, u "J"), (3, u "DEFAULT_CAPACITY"), (159, .class_ 501), (0, u "java/util/ArrayList$SubList$2"), (0, .class_ 503), (0, u "java/util/ArrayList$SubList$1")] 5

def k19c0 : Code := { maxStack := 4, maxLocals := 2, code := jdk_38_method_1_code, exceptionTable := #[], attributes := #[] }
def k19m0 : Method := { name := "<init>", desc := "(I)V", sig := { parameters := [.int], returnType := none }, accessFlags := 1, code := some k19c0 }
def k19m1 : Method := { name := "<init>", desc := "()V", sig := { parameters := [], returnType := none }, accessFlags := 1, code := none }
def k19c2 : Code := { maxStack := 3, maxLocals := 4, code := jdk_38_method_24_code, exceptionTable := #[], attributes := #[] }
def k19m2 : Method := { name := "add", desc := "(Ljava/lang/Object;[Ljava/lang/Object;I)V", sig := { parameters := [(.object "java/lang/Object"), (.array (.object "java/lang/Object")), .int], returnType := none }, accessFlags := 2, code := some k19c2 }
def k19c3 : Code := { maxStack := 4, maxLocals := 2, code := jdk_38_method_25_code, exceptionTable := #[], attributes := #[] }
def k19m3 : Method := { name := "add", desc := "(Ljava/lang/Object;)Z", sig := { parameters := [(.object "java/lang/Object")], returnType := some .boolean }, accessFlags := 1, code := some k19c3 }
/-- java/util/ArrayList -/
def k19 : Class := { plain "java/util/ArrayList" (some 16) with
  accessFlags := 33
  interfaces := #[15, 17, 18, 6]
  cf := some (fileOf pool19 10 #[.nestMembers #[290, 276, 500, 502, 262, 267]] #[{ accessFlags := 1, nameIndex := 5, descriptorIndex := 138, attributes := #[] }, { accessFlags := 1, nameIndex := 5, descriptorIndex := 6, attributes := #[] }, { accessFlags := 2, nameIndex := 133, descriptorIndex := 134, attributes := #[] }, { accessFlags := 1, nameIndex := 133, descriptorIndex := 96, attributes := #[] }] 33 2 #[148, 329, 331, 333] #[{ accessFlags := 26, nameIndex := 335, descriptorIndex := 336, attributes := #[] }, { accessFlags := 26, nameIndex := 340, descriptorIndex := 51, attributes := #[] }, { accessFlags := 26, nameIndex := 17, descriptorIndex := 14, attributes := #[] }, { accessFlags := 26, nameIndex := 41, descriptorIndex := 14, attributes := #[] }, { accessFlags := 128, nameIndex := 13, descriptorIndex := 14, attributes := #[] }, { accessFlags := 2, nameIndex := 50, descriptorIndex := 51, attributes := #[] }])
  fields := #[{ name := "serialVersionUID", type := .long, accessFlags := 26, slot := 0, constantValue := 0 }, { name := "DEFAULT_CAPACITY", type := .int, accessFlags := 26, slot := 1, constantValue := 0 }, { name := "EMPTY_ELEMENTDATA", type := (.array (.object "java/lang/Object")), accessFlags := 26, slot := 2, constantValue := 0 }, { name := "DEFAULTCAPACITY_EMPTY_ELEMENTDATA", type := (.array (.object "java/lang/Object")), accessFlags := 26, slot := 3, constantValue := 0 }, { name := "elementData", type := (.array (.object "java/lang/Object")), accessFlags := 128, slot := 1, constantValue := 0 }, { name := "size", type := .int, accessFlags := 2, slot := 2, constantValue := 0 }]
  methods := #[k19m0, k19m1, k19m2, k19m3]
  instanceTypes := #[.int, (.array (.object "java/lang/Object")), .int]
  staticTypes := #[.long, .int, (.array (.object "java/lang/Object")), (.array (.object "java/lang/Object"))]
  resolved := Array.replicate 509 none
  statics := some 0 }

/-- the primitive byte -/
def k20 : Class := { plain "byte" none with kind := .primitive 'B', accessFlags := 0x411 }
/-- [B -/
def k21 : Class := { plain "[B" (some 0) with kind := .array 20 .byte, interfaces := #[18, 6], accessFlags := 1041 }

/-- the primitive int -/
def k22 : Class := { plain "int" none with kind := .primitive 'I', accessFlags := 0x411 }
/-- [I -/
def k23 : Class := { plain "[I" (some 0) with kind := .array 22 .int, interfaces := #[18, 6], accessFlags := 1041 }

/-- [Lcom/example/orderly_dispatch/orderlydispatch/TimerQueue$Timer; -/
def k24 : Class := { plain "[Lcom/example/orderly_dispatch/orderlydispatch/TimerQueue$Timer;" (some 0) with kind := .array 5 (.object "com/example/orderly_dispatch/orderlydispatch/TimerQueue$Timer"), interfaces := #[18, 6], accessFlags := 1041 }

/-- [Ljava/lang/Object; -/
def k25 : Class := { plain "[Ljava/lang/Object;" (some 0) with kind := .array 0 (.object "java/lang/Object"), interfaces := #[18, 6], accessFlags := 1041 }

def heap : Heap := #[{ cls := 19, slots := #[.long 0, .int 0, .ref 1, .ref 2], vm := .statics 19 },
  { cls := 25, slots := #[], vm := .none },
  { cls := 25, slots := #[], vm := .none }]
def classes : Array Class := #[k0, k1, k2, k3, k4, k5, k6, k7, k8, k9, k10, k11, k12, k13, k14, k15, k16, k17, k18, k19, k20, k21, k22, k23, k24, k25]
def interned : List (Array UInt16 × Addr) := []
def slotsUsed : Nat := 4
def theMethod : MethodId := ⟨1, 1⟩
def args0 : Array Value := #[.int 63, .long 5, .long 7, .long 3]
def aboutOver (below : List Frame) : State where
  vm := { classes := classes, interned := interned.toArray }
  heap := heap
  slotsUsed := slotsUsed
  threads := #[{ frames := .invoking theMethod args0 :: below }]
def below0 : List Frame := [.native { method := ⟨0, 0⟩, args := #[] }]
def about1 : State := aboutOver below0
def p0 : Program := .bare "" "" ""
def e0 : Env := launch0.env 0 0 0
theorem w_frames : about1.frames = Frame.invoking theMethod args0 :: below0 := rfl
set_option maxRecDepth 65536 in
theorem w_args : argsFit about1.vm theMethod args0 = true := by decide +kernel
set_option maxRecDepth 65536 in
theorem w_heap : heapFits about1 = true := by decide +kernel
set_option maxRecDepth 65536 in
theorem w_runnable : about1.curStatus? = some .runnable := by decide +kernel
set_option maxRecDepth 65536 in
theorem w_alone : about1.alone = true := by decide +kernel
set_option maxRecDepth 65536 in
theorem w_named : about1.methodNamed? x = some theMethod := by decide +kernel
set_option maxRecDepth 65536 in
theorem w_hears : about1.hears theMethod below0 = true := by decide +kernel
set_option maxRecDepth 65536 in
theorem w_ripe : about1.ripe theMethod args0 below0 = true := by decide +kernel
theorem w_running : about1.status = .running := rfl
set_option maxRecDepth 65536 in
theorem w_room : about1.hasRoom e0.platform room_1 = true :=
  launch0.hasRoom_least _ room_1 (by decide +kernel) (by decide +kernel) (by decide +kernel) (by decide +kernel) (by decide +kernel) (by decide +kernel)
theorem allAtoms_all (ts : List Jvm.Cond) (a : Array Jvm.Value) (st : Jvm.State) : (allAtoms ts).before a st = ts.all (fun c => c.before a st) := by
  induction ts with
  | nil => rfl
  | cons c t ih =>
    show (Jvm.Cond.and c (allAtoms t)).before a st = _
    rw [Jvm.Cond.before_and, ih, List.all_cons]
def words1 : List Jvm.Cond := Jvm.Cond.code x code maxLocals ret :: tables_1
/-- a 'code' word, met by the world's own term for the bytes: nothing is compared byte by byte -/
theorem code_word {y : MethodName} {bytes : ByteArray} {mx : Nat} {rt : Option FieldType} {a : Array Value} {s : State} {m : MethodId} {meth : Method} {c : Code} (h1 : s.methodNamed? y = some m) (h2 : s.vm.method? m = some meth) (h3 : meth.code = some c) (h4 : c.code = bytes)
    (h5 : (c.maxLocals == mx && c.exceptionTable.isEmpty && decide (c.maxStack ≤ mostOperands) && decide (meth.sig.returnType = rt) && !meth.locks && decide (parseMethodDescriptor y.desc = some meth.sig)) = true) : (Jvm.Cond.code y bytes mx rt).before a s = true := by
  simp only [Bool.and_eq_true, beq_iff_eq, Bool.not_eq_true', decide_eq_true_eq] at h5
  obtain ⟨⟨⟨⟨⟨g1, g2⟩, g3⟩, g4⟩, g5⟩, g6⟩ := h5
  simp [Cond.before, Cond.holds, Cond.value, h1, h2, h3, h4, g1, g2, g3, g4, g5, g6]
def isCode : Jvm.Cond → Bool
  | .code _ _ _ _ => true
  | _ => false
theorem all_split {L : List Jvm.Cond} {P : Jvm.Cond → Bool} (h1 : L.all (fun c => isCode c || P c) = true) (h2 : ∀ c ∈ L.filter isCode, P c = true) : L.all P = true := by
  refine List.all_eq_true.mpr fun c hc => ?_
  have h := List.all_eq_true.mp h1 c hc
  rcases Bool.eq_false_or_eq_true (isCode c) with hi | hi
  · exact h2 c (List.mem_filter.mpr ⟨hc, hi⟩)
  · simpa [hi] using h
set_option maxRecDepth 65536 in
theorem w_c0 : (Jvm.Cond.code x code maxLocals ret).before args0 about1 = true := code_word (m := ⟨1, 1⟩) (meth := k1m1) (c := k1c1) (by decide +kernel) rfl rfl rfl (by decide +kernel)
set_option maxRecDepth 65536 in
theorem w_c1 : (Jvm.Cond.code ({ cls := "com/example/orderly_dispatch/orderlydispatch/TimerQueue", name := "<init>", desc := "()V" } : Jvm.MethodName) prog_25_method_1_code (1 : Nat) (Option.none : Option Jvm.ClassFile.FieldType)).before args0 about1 = true := code_word (m := ⟨2, 0⟩) (meth := k2m0) (c := k2c0) (by decide +kernel) rfl rfl rfl (by decide +kernel)
set_option maxRecDepth 65536 in
theorem w_c2 : (Jvm.Cond.code ({ cls := "java/lang/Object", name := "<init>", desc := "()V" } : Jvm.MethodName) object_method_1_code (1 : Nat) (Option.none : Option Jvm.ClassFile.FieldType)).before args0 about1 = true := code_word (m := ⟨0, 0⟩) (meth := k0m0) (c := k0c0) (by decide +kernel) rfl rfl rfl (by decide +kernel)
set_option maxRecDepth 65536 in
theorem w_c3 : (Jvm.Cond.code ({ cls := "com/example/orderly_dispatch/orderlydispatch/TimerQueue", name := "isEmpty", desc := "()Z" } : Jvm.MethodName) prog_25_method_9_code (1 : Nat) (Option.some Jvm.ClassFile.FieldType.boolean)).before args0 about1 = true := code_word (m := ⟨2, 4⟩) (meth := k2m4) (c := k2c4) (by decide +kernel) rfl rfl rfl (by decide +kernel)
set_option maxRecDepth 65536 in
theorem w_c4 : (Jvm.Cond.code ({ cls := "com/example/orderly_dispatch/orderlydispatch/TimerQueue", name := "add", desc := "(Ljava/lang/Runnable;J)Lcom/example/orderly_dispatch/orderlydispatch/TimerQueue$Timer;" } : Jvm.MethodName) prog_25_method_2_code (5 : Nat) (Option.some (Jvm.ClassFile.FieldType.object "com/example/orderly_dispatch/orderlydispatch/TimerQueue$Timer"))).before args0 about1 = true := code_word (m := ⟨2, 1⟩) (meth := k2m1) (c := k2c1) (by decide +kernel) rfl rfl rfl (by decide +kernel)
set_option maxRecDepth 65536 in
theorem w_c5 : (Jvm.Cond.code ({ cls := "com/example/orderly_dispatch/orderlydispatch/TimerQueue$Timer", name := "<init>", desc := "(Lcom/example/orderly_dispatch/orderlydispatch/TimerQueue;Ljava/lang/Runnable;JJ)V" } : Jvm.MethodName) prog_26_method_1_code (7 : Nat) (Option.none : Option Jvm.ClassFile.FieldType)).before args0 about1 = true := code_word (m := ⟨5, 0⟩) (meth := k5m0) (c := k5c0) (by decide +kernel) rfl rfl rfl (by decide +kernel)
set_option maxRecDepth 65536 in
theorem w_c6 : (Jvm.Cond.code ({ cls := "com/example/orderly_dispatch/orderlydispatch/TimerQueue", name := "siftUp", desc := "(ILcom/example/orderly_dispatch/orderlydispatch/TimerQueue$Timer;)V" } : Jvm.MethodName) prog_25_method_11_code (5 : Nat) (Option.none : Option Jvm.ClassFile.FieldType)).before args0 about1 = true := code_word (m := ⟨2, 6⟩) (meth := k2m6) (c := k2c6) (by decide +kernel) rfl rfl rfl (by decide +kernel)
set_option maxRecDepth 65536 in
theorem w_c7 : (Jvm.Cond.code ({ cls := "com/example/orderly_dispatch/orderlydispatch/TimerQueue", name := "put", desc := "(ILcom/example/orderly_dispatch/orderlydispatch/TimerQueue$Timer;)V" } : Jvm.MethodName) prog_25_method_13_code (3 : Nat) (Option.none : Option Jvm.ClassFile.FieldType)).before args0 about1 = true := code_word (m := ⟨2, 8⟩) (meth := k2m8) (c := k2c8) (by decide +kernel) rfl rfl rfl (by decide +kernel)
set_option maxRecDepth 65536 in
theorem w_c8 : (Jvm.Cond.code ({ cls := "com/example/orderly_dispatch/orderlydispatch/TimerQueue$Timer", name := "compareTo", desc := "(Lcom/example/orderly_dispatch/orderlydispatch/TimerQueue$Timer;)I" } : Jvm.MethodName) prog_26_method_6_code (4 : Nat) (Option.some Jvm.ClassFile.FieldType.int)).before args0 about1 = true := code_word (m := ⟨5, 2⟩) (meth := k5m2) (c := k5c2) (by decide +kernel) rfl rfl rfl (by decide +kernel)
set_option maxRecDepth 65536 in
theorem w_c9 : (Jvm.Cond.code ({ cls := "java/lang/Long", name := "signum", desc := "(J)I" } : Jvm.MethodName) jdk_35_method_57_code (2 : Nat) (Option.some Jvm.ClassFile.FieldType.int)).before args0 about1 = true := code_word (m := ⟨10, 1⟩) (meth := k10m1) (c := k10c1) (by decide +kernel) rfl rfl rfl (by decide +kernel)
set_option maxRecDepth 65536 in
theorem w_c10 : (Jvm.Cond.code ({ cls := "com/example/orderly_dispatch/orderlydispatch/TimerQueue", name := "remove", desc := "(Lcom/example/orderly_dispatch/orderlydispatch/TimerQueue$Timer;)Z" } : Jvm.MethodName) prog_25_method_5_code (3 : Nat) (Option.some Jvm.ClassFile.FieldType.boolean)).before args0 about1 = true := code_word (m := ⟨2, 2⟩) (meth := k2m2) (c := k2c2) (by decide +kernel) rfl rfl rfl (by decide +kernel)
set_option maxRecDepth 65536 in
theorem w_c11 : (Jvm.Cond.code ({ cls := "com/example/orderly_dispatch/orderlydispatch/TimerQueue$Timer", name := "isQueued", desc := "()Z" } : Jvm.MethodName) prog_26_method_4_code (1 : Nat) (Option.some Jvm.ClassFile.FieldType.boolean)).before args0 about1 = true := code_word (m := ⟨5, 1⟩) (meth := k5m1) (c := k5c1) (by decide +kernel) rfl rfl rfl (by decide +kernel)
set_option maxRecDepth 65536 in
theorem w_c12 : (Jvm.Cond.code ({ cls := "com/example/orderly_dispatch/orderlydispatch/TimerQueue", name := "removeAt", desc := "(I)V" } : Jvm.MethodName) prog_25_method_10_code (4 : Nat) (Option.none : Option Jvm.ClassFile.FieldType)).before args0 about1 = true := code_word (m := ⟨2, 5⟩) (meth := k2m5) (c := k2c5) (by decide +kernel) rfl rfl rfl (by decide +kernel)
set_option maxRecDepth 65536 in
theorem w_c13 : (Jvm.Cond.code ({ cls := "com/example/orderly_dispatch/orderlydispatch/TimerQueue", name := "drain", desc := "()Ljava/util/List;" } : Jvm.MethodName) prog_25_method_7_code (2 : Nat) (Option.some (Jvm.ClassFile.FieldType.object "java/util/List"))).before args0 about1 = true := code_word (m := ⟨2, 3⟩) (meth := k2m3) (c := k2c3) (by decide +kernel) rfl rfl rfl (by decide +kernel)
set_option maxRecDepth 65536 in
theorem w_c14 : (Jvm.Cond.code ({ cls := "java/util/ArrayList", name := "<init>", desc := "(I)V" } : Jvm.MethodName) jdk_38_method_1_code (2 : Nat) (Option.none : Option Jvm.ClassFile.FieldType)).before args0 about1 = true := code_word (m := ⟨19, 0⟩) (meth := k19m0) (c := k19c0) (by decide +kernel) rfl rfl rfl (by decide +kernel)
set_option maxRecDepth 65536 in
theorem w_c15 : (Jvm.Cond.code ({ cls := "java/util/AbstractList", name := "<init>", desc := "()V" } : Jvm.MethodName) jdk_39_method_1_code (1 : Nat) (Option.none : Option Jvm.ClassFile.FieldType)).before args0 about1 = true := code_word (m := ⟨16, 0⟩) (meth := k16m0) (c := k16c0) (by decide +kernel) rfl rfl rfl (by decide +kernel)
set_option maxRecDepth 65536 in
theorem w_c16 : (Jvm.Cond.code ({ cls := "java/util/AbstractCollection", name := "<init>", desc := "()V" } : Jvm.MethodName) jdk_22_method_1_code (1 : Nat) (Option.none : Option Jvm.ClassFile.FieldType)).before args0 about1 = true := code_word (m := ⟨13, 0⟩) (meth := k13m0) (c := k13c0) (by decide +kernel) rfl rfl rfl (by decide +kernel)
set_option maxRecDepth 65536 in
theorem w_c17 : (Jvm.Cond.code ({ cls := "com/example/orderly_dispatch/orderlydispatch/TimerQueue", name := "siftDown", desc := "(ILcom/example/orderly_dispatch/orderlydispatch/TimerQueue$Timer;)V" } : Jvm.MethodName) prog_25_method_12_code (7 : Nat) (Option.none : Option Jvm.ClassFile.FieldType)).before args0 about1 = true := code_word (m := ⟨2, 7⟩) (meth := k2m7) (c := k2c7) (by decide +kernel) rfl rfl rfl (by decide +kernel)
set_option maxRecDepth 65536 in
theorem w_c18 : (Jvm.Cond.code ({ cls := "java/lang/Long", name := "compare", desc := "(JJ)I" } : Jvm.MethodName) jdk_35_method_42_code (4 : Nat) (Option.some Jvm.ClassFile.FieldType.int)).before args0 about1 = true := code_word (m := ⟨10, 0⟩) (meth := k10m0) (c := k10c0) (by decide +kernel) rfl rfl rfl (by decide +kernel)
set_option maxRecDepth 65536 in
theorem w_c19 : (Jvm.Cond.code ({ cls := "java/util/ArrayList", name := "add", desc := "(Ljava/lang/Object;)Z" } : Jvm.MethodName) jdk_38_method_25_code (2 : Nat) (Option.some Jvm.ClassFile.FieldType.boolean)).before args0 about1 = true := code_word (m := ⟨19, 3⟩) (meth := k19m3) (c := k19c3) (by decide +kernel) rfl rfl rfl (by decide +kernel)
set_option maxRecDepth 65536 in
theorem w_c20 : (Jvm.Cond.code ({ cls := "java/util/ArrayList", name := "add", desc := "(Ljava/lang/Object;[Ljava/lang/Object;I)V" } : Jvm.MethodName) jdk_38_method_24_code (4 : Nat) (Option.none : Option Jvm.ClassFile.FieldType)).before args0 about1 = true := code_word (m := ⟨19, 2⟩) (meth := k19m2) (c := k19c2) (by decide +kernel) rfl rfl rfl (by decide +kernel)
def codes1 : List Jvm.Cond := [Jvm.Cond.code x code maxLocals ret, Jvm.Cond.code ({ cls := "com/example/orderly_dispatch/orderlydispatch/TimerQueue", name := "<init>", desc := "()V" } : Jvm.MethodName) prog_25_method_1_code (1 : Nat) (Option.none : Option Jvm.ClassFile.FieldType), Jvm.Cond.code ({ cls := "java/lang/Object", name := "<init>", desc := "()V" } : Jvm.MethodName) object_method_1_code (1 : Nat) (Option.none : Option Jvm.ClassFile.FieldType), Jvm.Cond.code ({ cls := "com/example/orderly_dispatch/orderlydispatch/TimerQueue", name := "isEmpty", desc := "()Z" } : Jvm.MethodName) prog_25_method_9_code (1 : Nat) (Option.some Jvm.ClassFile.FieldType.boolean), Jvm.Cond.code ({ cls := "com/example/orderly_dispatch/orderlydispatch/TimerQueue", name := "add", desc := "(Ljava/lang/Runnable;J)Lcom/example/orderly_dispatch/orderlydispatch/TimerQueue$Timer;" } : Jvm.MethodName) prog_25_method_2_code (5 : Nat) (Option.some (Jvm.ClassFile.FieldType.object "com/example/orderly_dispatch/orderlydispatch/TimerQueue$Timer")), Jvm.Cond.code ({ cls := "com/example/orderly_dispatch/orderlydispatch/TimerQueue$Timer", name := "<init>", desc := "(Lcom/example/orderly_dispatch/orderlydispatch/TimerQueue;Ljava/lang/Runnable;JJ)V" } : Jvm.MethodName) prog_26_method_1_code (7 : Nat) (Option.none : Option Jvm.ClassFile.FieldType), Jvm.Cond.code ({ cls := "com/example/orderly_dispatch/orderlydispatch/TimerQueue", name := "siftUp", desc := "(ILcom/example/orderly_dispatch/orderlydispatch/TimerQueue$Timer;)V" } : Jvm.MethodName) prog_25_method_11_code (5 : Nat) (Option.none : Option Jvm.ClassFile.FieldType), Jvm.Cond.code ({ cls := "com/example/orderly_dispatch/orderlydispatch/TimerQueue", name := "put", desc := "(ILcom/example/orderly_dispatch/orderlydispatch/TimerQueue$Timer;)V" } : Jvm.MethodName) prog_25_method_13_code (3 : Nat) (Option.none : Option Jvm.ClassFile.FieldType), Jvm.Cond.code ({ cls := "com/example/orderly_dispatch/orderlydispatch/TimerQueue$Timer", name := "compareTo", desc := "(Lcom/example/orderly_dispatch/orderlydispatch/TimerQueue$Timer;)I" } : Jvm.MethodName) prog_26_method_6_code (4 : Nat) (Option.some Jvm.ClassFile.FieldType.int), Jvm.Cond.code ({ cls := "java/lang/Long", name := "signum", desc := "(J)I" } : Jvm.MethodName) jdk_35_method_57_code (2 : Nat) (Option.some Jvm.ClassFile.FieldType.int), Jvm.Cond.code ({ cls := "com/example/orderly_dispatch/orderlydispatch/TimerQueue", name := "remove", desc := "(Lcom/example/orderly_dispatch/orderlydispatch/TimerQueue$Timer;)Z" } : Jvm.MethodName) prog_25_method_5_code (3 : Nat) (Option.some Jvm.ClassFile.FieldType.boolean), Jvm.Cond.code ({ cls := "com/example/orderly_dispatch/orderlydispatch/TimerQueue$Timer", name := "isQueued", desc := "()Z" } : Jvm.MethodName) prog_26_method_4_code (1 : Nat) (Option.some Jvm.ClassFile.FieldType.boolean), Jvm.Cond.code ({ cls := "com/example/orderly_dispatch/orderlydispatch/TimerQueue", name := "removeAt", desc := "(I)V" } : Jvm.MethodName) prog_25_method_10_code (4 : Nat) (Option.none : Option Jvm.ClassFile.FieldType), Jvm.Cond.code ({ cls := "com/example/orderly_dispatch/orderlydispatch/TimerQueue", name := "drain", desc := "()Ljava/util/List;" } : Jvm.MethodName) prog_25_method_7_code (2 : Nat) (Option.some (Jvm.ClassFile.FieldType.object "java/util/List")), Jvm.Cond.code ({ cls := "java/util/ArrayList", name := "<init>", desc := "(I)V" } : Jvm.MethodName) jdk_38_method_1_code (2 : Nat) (Option.none : Option Jvm.ClassFile.FieldType), Jvm.Cond.code ({ cls := "java/util/AbstractList", name := "<init>", desc := "()V" } : Jvm.MethodName) jdk_39_method_1_code (1 : Nat) (Option.none : Option Jvm.ClassFile.FieldType), Jvm.Cond.code ({ cls := "java/util/AbstractCollection", name := "<init>", desc := "()V" } : Jvm.MethodName) jdk_22_method_1_code (1 : Nat) (Option.none : Option Jvm.ClassFile.FieldType), Jvm.Cond.code ({ cls := "com/example/orderly_dispatch/orderlydispatch/TimerQueue", name := "siftDown", desc := "(ILcom/example/orderly_dispatch/orderlydispatch/TimerQueue$Timer;)V" } : Jvm.MethodName) prog_25_method_12_code (7 : Nat) (Option.none : Option Jvm.ClassFile.FieldType), Jvm.Cond.code ({ cls := "java/lang/Long", name := "compare", desc := "(JJ)I" } : Jvm.MethodName) jdk_35_method_42_code (4 : Nat) (Option.some Jvm.ClassFile.FieldType.int), Jvm.Cond.code ({ cls := "java/util/ArrayList", name := "add", desc := "(Ljava/lang/Object;)Z" } : Jvm.MethodName) jdk_38_method_25_code (2 : Nat) (Option.some Jvm.ClassFile.FieldType.boolean), Jvm.Cond.code ({ cls := "java/util/ArrayList", name := "add", desc := "(Ljava/lang/Object;[Ljava/lang/Object;I)V" } : Jvm.MethodName) jdk_38_method_24_code (4 : Nat) (Option.none : Option Jvm.ClassFile.FieldType)]
set_option maxRecDepth 65536 in
theorem codes_eq : words1.filter isCode = codes1 := rfl
theorem w_codes : ∀ c ∈ words1.filter isCode, c.before args0 about1 = true := by
  rw [codes_eq]
  intro c hc
  simp only [codes1, List.mem_cons, List.not_mem_nil, or_false] at hc
  rcases hc with rfl | rfl | rfl | rfl | rfl | rfl | rfl | rfl | rfl | rfl | rfl | rfl | rfl | rfl | rfl | rfl | rfl | rfl | rfl | rfl | rfl
  · exact w_c0
  · exact w_c1
  · exact w_c2
  · exact w_c3
  · exact w_c4
  · exact w_c5
  · exact w_c6
  · exact w_c7
  · exact w_c8
  · exact w_c9
  · exact w_c10
  · exact w_c11
  · exact w_c12
  · exact w_c13
  · exact w_c14
  · exact w_c15
  · exact w_c16
  · exact w_c17
  · exact w_c18
  · exact w_c19
  · exact w_c20
set_option maxRecDepth 65536 in
theorem w_t1 : (words1.take 24).all (fun c => isCode c || c.before args0 about1) = true := by decide +kernel
set_option maxRecDepth 65536 in
theorem w_t2 : ((words1.drop 24).take 24).all (fun c => isCode c || c.before args0 about1) = true := by decide +kernel
set_option maxRecDepth 65536 in
theorem w_t3 : (((words1.drop 24).drop 24).take 24).all (fun c => isCode c || c.before args0 about1) = true := by decide +kernel
set_option maxRecDepth 65536 in
theorem w_t4 : ((((words1.drop 24).drop 24).drop 24).take 24).all (fun c => isCode c || c.before args0 about1) = true := by decide +kernel
set_option maxRecDepth 65536 in
theorem w_t5 : (((((words1.drop 24).drop 24).drop 24).drop 24).take 24).all (fun c => isCode c || c.before args0 about1) = true := by decide +kernel
set_option maxRecDepth 65536 in
theorem w_t6 : (((((words1.drop 24).drop 24).drop 24).drop 24).drop 24).all (fun c => isCode c || c.before args0 about1) = true := by decide +kernel
theorem w_tables : (allAtoms (Jvm.Cond.code x code maxLocals ret :: tables_1)).before args0 about1 = true := by
  rw [allAtoms_all]
  show words1.all (fun c => c.before args0 about1) = true
  refine all_split ?_ w_codes
  rw [← List.take_append_drop 24 words1, List.all_append, w_t1, ← List.take_append_drop 24 (words1.drop 24), List.all_append, w_t2, ← List.take_append_drop 24 ((words1.drop 24).drop 24), List.all_append, w_t3, ← List.take_append_drop 24 (((words1.drop 24).drop 24).drop 24), List.all_append, w_t4, ← List.take_append_drop 24 ((((words1.drop 24).drop 24).drop 24).drop 24), List.all_append, w_t5, w_t6]
  rfl
set_option maxRecDepth 65536 in
theorem w_rest : rest_1_c.before args0 about1 = true := by decide +kernel
set_option maxRecDepth 65536 in
theorem w_case : (Jvm.Cond.and given_1 narrow_1).before args0 about1 = true := by decide +kernel
theorem w_applies : (headSpec (Jvm.Cond.code x code maxLocals ret :: tables_1) room_1).applies x e0.platform about1 = true :=
  (Spec.applies_iff w_frames).mpr ⟨w_running, w_runnable, w_alone, w_named, w_hears, w_ripe, w_room, w_tables⟩
theorem atStart : AtStart classFile x code maxLocals ret World_1 tables_1 room_1 Calls_1 rest_1 Pre_1 launch0 p0 e0 about1 theMethod args0 below0 :=
  ⟨lists_1, trivial, launch0.admits_env _ _ _, launch0.least_env, fairChoices_fair.cas, fairChoices_fair.clock, w_frames, w_args, w_heap, w_applies, trivial, w_rest, w_case⟩
end start1
theorem witness_1 : WitnessClaimed_1 := ⟨start1.p0, start1.e0, start1.about1, start1.theMethod, start1.args0, start1.below0, start1.atStart⟩
end Jvm.Pilot.@@N@@
