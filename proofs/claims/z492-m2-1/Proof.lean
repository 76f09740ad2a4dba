import JvmDerived
import JvmDerived.Pilot.@@N@@Statement
import JvmDerived.Pilot.@@N@@Code
set_option linter.unusedVariables false
set_option linter.unusedSimpArgs false
namespace Jvm.Own
open Sem ClassFile Op Lib Jvm.Stand Jvm.Free Jvm.LawKit Jvm.RoadKit
/-- what a walk knows of the method that it walks -/
def Cx (p : Program) (s : State) (m : MethodId) (meth : Method) (c : Code) (Z : State) (own nm : String) (bytes : ByteArray) (maxL : Nat) (ret : Option FieldType) : Prop :=
  p.tables.exec = Jvm.exec ∧ Z.Warmed39 s.vm ∧ c.code = bytes ∧ c.maxLocals = maxL ∧ s.vm.findClass own = some m.cls ∧ meth.name = nm ∧ meth.sig.returnType = ret ∧ meth.locks = false
/-- where a walk ends: what it returned and left, nothing old written -/
def PostW (n0 : Nat) (Q : Option Value → Heap → Prop) (R : Room) (s : State) (o : Outcome) (U : State) : Prop := ∃ v L, o = .returned v ∧ (Q v U.heap ∧ Fr n0 L) ∧ FrameEnd s o U L R.cells R.slots
/-- from every state with this heap and this frame on top the run comes to its end -/
def Wk (p : Program) (l : Launch) (e : Env) (R : Room) (s : State) (m : MethodId) (args : Array Value) (below : List Frame) (meth : Method) (c : Code) (n0 : Nat) (Q : Option Value → Heap → Prop) (h : Heap) (cells slots : Nat) (f : JFrame) : Prop :=
  ∀ T locs, Stand p l e R s m args below meth c T locs cells slots → T.heap = h → Fr n0 locs → ∃ U o, Steps p.tables e below (T.setTop f) U ∧ U.status = .running ∧ Ended U below o ∧ PostW n0 Q R s o U
/-- a method's contract at one heap and one row of arguments -/
def Met1 (l : Launch) (Z : State) (y : MethodName) (bytes : ByteArray) (maxL : Nat) (ret : Option FieldType) (rm : Room) (as : Array Value) (h0 : Heap) (n0 : Nat) (Q : Option Value → Heap → Prop) : Prop :=
  ∀ ws : List Jvm.Cond, MetFree l y (head1 (Jvm.Cond.code y bytes maxL ret :: ws) rm) (fun a U => a = as ∧ Z.Warmed39 U.vm ∧ U.heap = h0) (fun _ _ _ _ _ => True) (fun _ U o U' => ∃ v L, o = .returned v ∧ (Q v U'.heap ∧ Fr n0 L) ∧ FrameEnd U o U' L rm.cells rm.slots)
/-- an array, with all that lies in it -/
def Ars (Z : State) (h : Heap) (a : Addr) (k : ClassId) (ty : FieldType) (vs : List Value) : Prop := ∃ cl : Cell, Arr Z h a cl ty ∧ cl.cls = k ∧ cl.slots = vs.toArray ∧ vs.length < 2 ^ 31
section Laws
variable {p : Program} {l : Launch} {e : Env} {R : Room} {s : State} {m : MethodId} {args : Array Value} {below : List Frame} {meth : Method} {c : Code} {n0 : Nat} {Q : Option Value → Heap → Prop} {h : Heap} {cells slots : Nat} {Z : State} {a0 : Array Value} {own nm : String} {bytes : ByteArray} {maxL : Nat} {ret : Option FieldType}
theorem Met1.of_body {y : MethodName} {rm : Room} {as : Array Value} {h0 : Heap} (hpn : plainName y.cls = true) (hb : ∀ p e s m below meth c, Cx p s m meth c Z y.cls y.name bytes maxL ret → Wk p l e rm s m as below meth c n0 Q h0 0 0 (entryFrame m as maxL)) : Met1 l Z y bytes maxL ret rm as h0 n0 Q := by
  intro ws
  refine MetFree.of_bodySF (plainFor_of_name hpn) hisR ?_
  intro p e s m args below meth c s₁ Bd hml0 hP hK
  obtain ⟨rfl, hZ, hh⟩ := hP
  exact hb p e s m below meth c ⟨Bd.exec, hZ, Bd.bytes, hml0, findClass_of_methodNamed Bd.named, (name_of_methodNamed Bd.named Bd.method).1, Bd.returns, BodyLoose.notSynchronized Bd⟩ s₁ [] (Stand.of_body Bd) (by rw [← hh, Bd.state]; rfl) (Fr.nil n0)
theorem Met1.mono {y : MethodName} {rm : Room} {as : Array Value} {h0 : Heap} {Q' : Option Value → Heap → Prop} (hM : Met1 l Z y bytes maxL ret rm as h0 n0 Q) (hq : ∀ v h, Q v h → Q' v h) : Met1 l Z y bytes maxL ret rm as h0 n0 Q' := by
  intro ws p e ha hc hk s m args below hf happ hP hK
  obtain ⟨n, o, h1, h2, h3, v, L, r1, r2, r3⟩ := hM ws p e ha hc hk s m args below hf happ hP hK
  exact ⟨n, o, h1, h2, h3, v, L, r1, ⟨hq _ _ r2.1, r2.2⟩, r3⟩
theorem Wk.step {f f' : JFrame} (st : ∀ T locs t, Stand p l e R s m args below meth c T locs cells slots → Steps p.tables e below (T.setTop f') t → Steps p.tables e below (T.setTop f) t) (k : Wk p l e R s m args below meth c n0 Q h cells slots f') : Wk p l e R s m args below meth c n0 Q h cells slots f := fun T locs X hh N => by
  obtain ⟨U, o, h1, r⟩ := k T locs X hh N
  exact ⟨U, o, st T locs U X h1, r⟩
theorem Wk.cast {f f' : JFrame} (q : f = f') (k : Wk p l e R s m args below meth c n0 Q h cells slots f') : Wk p l e R s m args below meth c n0 Q h cells slots f := q ▸ k
theorem Wk.v1 {pc : Nat} {ls : Array Slot} {w : Value} {rest : List Value} (k : Wk p l e R s m args below meth c n0 Q h cells slots (mkF m pc ls (w :: rest))) : Wk p l e R s m args below meth c n0 Q h cells slots (mkF m pc ls ((some w).toList ++ rest)) := k
theorem Wk.v0 {pc : Nat} {ls : Array Slot} {rest : List Value} (k : Wk p l e R s m args below meth c n0 Q h cells slots (mkF m pc ls rest)) : Wk p l e R s m args below meth c n0 Q h cells slots (mkF m pc ls ((none : Option Value).toList ++ rest)) := k
theorem w_iloadN (C : Cx p s m meth c Z own nm bytes maxL ret) {pc q : Nat} {ls : Array Slot} {rest : List Value} {j : Fin 4} {v : Int32} (hd : decode bytes pc = .ok (.iload_n j, 1)) (hq : pc + 1 = q) (hl : ls[j.val]? = some (.val (.int v))) (k : Wk p l e R s m args below meth c n0 Q h cells slots (mkF m q ls (.int v :: rest))) : Wk p l e R s m args below meth c n0 Q h cells slots (mkF m pc ls rest) := by
  subst hq; exact Wk.step (fun T _ t X k => XS.iloadN X.here C.1 rfl (hb C.2.2.1 hd) hl k) k
theorem w_iload (C : Cx p s m meth c Z own nm bytes maxL ret) {pc q : Nat} {ls : Array Slot} {rest : List Value} {j : Nat} {v : Int32} (hd : decode bytes pc = .ok (.iload j, 2)) (hq : pc + 2 = q) (hl : ls[j]? = some (.val (.int v))) (k : Wk p l e R s m args below meth c n0 Q h cells slots (mkF m q ls (.int v :: rest))) : Wk p l e R s m args below meth c n0 Q h cells slots (mkF m pc ls rest) := by
  subst hq; exact Wk.step (fun T _ t X k => XS.iload X.here C.1 rfl (hb C.2.2.1 hd) hl k) k
theorem w_lloadN (C : Cx p s m meth c Z own nm bytes maxL ret) {pc q : Nat} {ls : Array Slot} {rest : List Value} {j : Fin 4} {v : Int64} (hd : decode bytes pc = .ok (.lload_n j, 1)) (hq : pc + 1 = q) (hl : ls[j.val]? = some (.val (.long v))) (k : Wk p l e R s m args below meth c n0 Q h cells slots (mkF m q ls (.long v :: rest))) : Wk p l e R s m args below meth c n0 Q h cells slots (mkF m pc ls rest) := by
  subst hq; exact Wk.step (fun T _ t X k => XT.lloadN X.here C.1 rfl (hb C.2.2.1 hd) hl k) k
theorem w_lload (C : Cx p s m meth c Z own nm bytes maxL ret) {pc q : Nat} {ls : Array Slot} {rest : List Value} {j : Nat} {v : Int64} (hd : decode bytes pc = .ok (.lload j, 2)) (hq : pc + 2 = q) (hl : ls[j]? = some (.val (.long v))) (k : Wk p l e R s m args below meth c n0 Q h cells slots (mkF m q ls (.long v :: rest))) : Wk p l e R s m args below meth c n0 Q h cells slots (mkF m pc ls rest) := by
  subst hq; exact Wk.step (fun T _ t X k => XT.lload X.here C.1 rfl (hb C.2.2.1 hd) hl k) k
theorem w_aloadN (C : Cx p s m meth c Z own nm bytes maxL ret) {pc q : Nat} {ls : Array Slot} {rest : List Value} {j : Fin 4} {v : Value} (hd : decode bytes pc = .ok (.aload_n j, 1)) (hq : pc + 1 = q) (hl : ls[j.val]? = some (.val v)) (hv : v.isRef = true) (k : Wk p l e R s m args below meth c n0 Q h cells slots (mkF m q ls (v :: rest))) : Wk p l e R s m args below meth c n0 Q h cells slots (mkF m pc ls rest) := by
  subst hq; exact Wk.step (fun T _ t X k => XS.aloadN X.here C.1 rfl (hb C.2.2.1 hd) hl hv k) k
theorem w_aload (C : Cx p s m meth c Z own nm bytes maxL ret) {pc q : Nat} {ls : Array Slot} {rest : List Value} {j : Nat} {v : Value} (hd : decode bytes pc = .ok (.aload j, 2)) (hq : pc + 2 = q) (hl : ls[j]? = some (.val v)) (hv : v.isRef = true) (k : Wk p l e R s m args below meth c n0 Q h cells slots (mkF m q ls (v :: rest))) : Wk p l e R s m args below meth c n0 Q h cells slots (mkF m pc ls rest) := by
  subst hq; exact Wk.step (fun T _ t X k => XS.aload X.here C.1 rfl (hb C.2.2.1 hd) hl hv k) k
theorem w_istoreN (C : Cx p s m meth c Z own nm bytes maxL ret) {pc q : Nat} {ls : Array Slot} {rest : List Value} {j : Fin 4} {v : Int32} (ls' : Array Slot) (hd : decode bytes pc = .ok (.istore_n j, 1)) (hq : pc + 1 = q) (hl : storeLocals ls j.val (.int v) = some ls') (k : Wk p l e R s m args below meth c n0 Q h cells slots (mkF m q ls' rest)) : Wk p l e R s m args below meth c n0 Q h cells slots (mkF m pc ls (.int v :: rest)) := by
  subst hq; exact Wk.step (fun T _ t X k => XS.istoreN X.here C.1 rfl (hb C.2.2.1 hd) rfl hl k) k
theorem w_istore (C : Cx p s m meth c Z own nm bytes maxL ret) {pc q : Nat} {ls : Array Slot} {rest : List Value} {j : Nat} {v : Int32} (ls' : Array Slot) (hd : decode bytes pc = .ok (.istore j, 2)) (hq : pc + 2 = q) (hl : storeLocals ls j (.int v) = some ls') (k : Wk p l e R s m args below meth c n0 Q h cells slots (mkF m q ls' rest)) : Wk p l e R s m args below meth c n0 Q h cells slots (mkF m pc ls (.int v :: rest)) := by
  subst hq; exact Wk.step (fun T _ t X k => XS.istore X.here C.1 rfl (hb C.2.2.1 hd) rfl hl k) k
theorem w_lstore (C : Cx p s m meth c Z own nm bytes maxL ret) {pc q : Nat} {ls : Array Slot} {rest : List Value} {j : Nat} {v : Int64} (ls' : Array Slot) (hd : decode bytes pc = .ok (.lstore j, 2)) (hq : pc + 2 = q) (hl : storeLocals ls j (.long v) = some ls') (k : Wk p l e R s m args below meth c n0 Q h cells slots (mkF m q ls' rest)) : Wk p l e R s m args below meth c n0 Q h cells slots (mkF m pc ls (.long v :: rest)) := by
  subst hq; exact Wk.step (fun T _ t X k => XT.lstore X.here C.1 rfl (hb C.2.2.1 hd) rfl hl k) k
theorem w_astoreN (C : Cx p s m meth c Z own nm bytes maxL ret) {pc q : Nat} {ls : Array Slot} {rest : List Value} {j : Fin 4} {v : Value} (ls' : Array Slot) (hd : decode bytes pc = .ok (.astore_n j, 1)) (hq : pc + 1 = q) (hv : v.isRef = true) (hl : storeLocals ls j.val v = some ls') (k : Wk p l e R s m args below meth c n0 Q h cells slots (mkF m q ls' rest)) : Wk p l e R s m args below meth c n0 Q h cells slots (mkF m pc ls (v :: rest)) := by
  subst hq; exact Wk.step (fun T _ t X k => XS.astoreN X.here C.1 rfl (hb C.2.2.1 hd) rfl hv hl k) k
theorem w_astore (C : Cx p s m meth c Z own nm bytes maxL ret) {pc q : Nat} {ls : Array Slot} {rest : List Value} {j : Nat} {v : Value} (ls' : Array Slot) (hd : decode bytes pc = .ok (.astore j, 2)) (hq : pc + 2 = q) (hv : v.isRef = true) (hl : storeLocals ls j v = some ls') (k : Wk p l e R s m args below meth c n0 Q h cells slots (mkF m q ls' rest)) : Wk p l e R s m args below meth c n0 Q h cells slots (mkF m pc ls (v :: rest)) := by
  subst hq; exact Wk.step (fun T _ t X k => XS.astore X.here C.1 rfl (hb C.2.2.1 hd) rfl hv hl k) k
theorem w_iinc (C : Cx p s m meth c Z own nm bytes maxL ret) {pc q : Nat} {ls : Array Slot} {rest : List Value} {j : Nat} {i : Int} {x : Int32} (v : Int32) (ls' : Array Slot) (hd : decode bytes pc = .ok (.iinc j i, 3)) (hq : pc + 3 = q) (hv : Int32.ofInt i = v) (hl : ls[j]? = some (.val (.int x))) (hl' : storeLocals ls j (.int (x + v)) = some ls') (k : Wk p l e R s m args below meth c n0 Q h cells slots (mkF m q ls' rest)) : Wk p l e R s m args below meth c n0 Q h cells slots (mkF m pc ls rest) := by
  subst hq; exact Wk.step (fun T _ t X k => XT.iincV X.here C.1 rfl v (hb C.2.2.1 hd) hv hl hl' k) k
theorem w_iconst (C : Cx p s m meth c Z own nm bytes maxL ret) {pc q : Nat} {ls : Array Slot} {rest : List Value} {i : Int} (v : Int32) (hd : decode bytes pc = .ok (.iconst i, 1)) (hq : pc + 1 = q) (hv : Int32.ofInt i = v) (k : Wk p l e R s m args below meth c n0 Q h cells slots (mkF m q ls (.int v :: rest))) : Wk p l e R s m args below meth c n0 Q h cells slots (mkF m pc ls rest) := by
  subst hq; exact Wk.step (fun T _ t X k => XT.iconstV X.here C.1 rfl v (hb C.2.2.1 hd) hv k) k
theorem w_bipush (C : Cx p s m meth c Z own nm bytes maxL ret) {pc q : Nat} {ls : Array Slot} {rest : List Value} {i : Int} (v : Int32) (hd : decode bytes pc = .ok (.bipush i, 2)) (hq : pc + 2 = q) (hv : (Int8.ofInt i).toInt32 = v) (k : Wk p l e R s m args below meth c n0 Q h cells slots (mkF m q ls (.int v :: rest))) : Wk p l e R s m args below meth c n0 Q h cells slots (mkF m pc ls rest) := by
  subst hq; exact Wk.step (fun T _ t X k => XT.bipushV X.here C.1 rfl v (hb C.2.2.1 hd) hv k) k
theorem w_iadd (C : Cx p s m meth c Z own nm bytes maxL ret) {pc q : Nat} {ls : Array Slot} {rest : List Value} {x y : Int32} (hd : decode bytes pc = .ok (.iadd, 1)) (hq : pc + 1 = q) (k : Wk p l e R s m args below meth c n0 Q h cells slots (mkF m q ls (.int (x + y) :: rest))) : Wk p l e R s m args below meth c n0 Q h cells slots (mkF m pc ls (.int y :: .int x :: rest)) := by
  subst hq; exact Wk.step (fun T _ t X k => XS.iadd X.here C.1 rfl (hb C.2.2.1 hd) rfl k) k
theorem w_isub (C : Cx p s m meth c Z own nm bytes maxL ret) {pc q : Nat} {ls : Array Slot} {rest : List Value} {x y : Int32} (hd : decode bytes pc = .ok (.isub, 1)) (hq : pc + 1 = q) (k : Wk p l e R s m args below meth c n0 Q h cells slots (mkF m q ls (.int (x - y) :: rest))) : Wk p l e R s m args below meth c n0 Q h cells slots (mkF m pc ls (.int y :: .int x :: rest)) := by
  subst hq; exact Wk.step (fun T _ t X k => XS.isub X.here C.1 rfl (hb C.2.2.1 hd) rfl k) k
theorem w_imul (C : Cx p s m meth c Z own nm bytes maxL ret) {pc q : Nat} {ls : Array Slot} {rest : List Value} {x y : Int32} (hd : decode bytes pc = .ok (.imul, 1)) (hq : pc + 1 = q) (k : Wk p l e R s m args below meth c n0 Q h cells slots (mkF m q ls (.int (x * y) :: rest))) : Wk p l e R s m args below meth c n0 Q h cells slots (mkF m pc ls (.int y :: .int x :: rest)) := by
  subst hq; exact Wk.step (fun T _ t X k => XS.imul X.here C.1 rfl (hb C.2.2.1 hd) rfl k) k
theorem w_iand (C : Cx p s m meth c Z own nm bytes maxL ret) {pc q : Nat} {ls : Array Slot} {rest : List Value} {x y : Int32} (hd : decode bytes pc = .ok (.iand, 1)) (hq : pc + 1 = q) (k : Wk p l e R s m args below meth c n0 Q h cells slots (mkF m q ls (.int (x &&& y) :: rest))) : Wk p l e R s m args below meth c n0 Q h cells slots (mkF m pc ls (.int y :: .int x :: rest)) := by
  subst hq; exact Wk.step (fun T _ t X k => XS.iand X.here C.1 rfl (hb C.2.2.1 hd) rfl k) k
theorem w_iushr (C : Cx p s m meth c Z own nm bytes maxL ret) {pc q : Nat} {ls : Array Slot} {rest : List Value} {x y : Int32} (hd : decode bytes pc = .ok (.iushr, 1)) (hq : pc + 1 = q) (k : Wk p l e R s m args below meth c n0 Q h cells slots (mkF m q ls (.int (XT.ushr x y) :: rest))) : Wk p l e R s m args below meth c n0 Q h cells slots (mkF m pc ls (.int y :: .int x :: rest)) := by
  subst hq; exact Wk.step (fun T _ t X k => XT.iushr X.here C.1 rfl (hb C.2.2.1 hd) rfl k) k
theorem w_irem (C : Cx p s m meth c Z own nm bytes maxL ret) {pc q : Nat} {ls : Array Slot} {rest : List Value} {x y : Int32} (hd : decode bytes pc = .ok (.irem, 1)) (hq : pc + 1 = q) (hy : y ≠ 0) (k : Wk p l e R s m args below meth c n0 Q h cells slots (mkF m q ls (.int (x - (x / y) * y) :: rest))) : Wk p l e R s m args below meth c n0 Q h cells slots (mkF m pc ls (.int y :: .int x :: rest)) := by
  subst hq; exact Wk.step (fun T _ t X k => XS.irem X.here C.1 rfl (hb C.2.2.1 hd) rfl hy k) k
theorem w_lmul (C : Cx p s m meth c Z own nm bytes maxL ret) {pc q : Nat} {ls : Array Slot} {rest : List Value} {x y : Int64} (hd : decode bytes pc = .ok (.lmul, 1)) (hq : pc + 1 = q) (k : Wk p l e R s m args below meth c n0 Q h cells slots (mkF m q ls (.long (x * y) :: rest))) : Wk p l e R s m args below meth c n0 Q h cells slots (mkF m pc ls (.long y :: .long x :: rest)) := by
  subst hq; exact Wk.step (fun T _ t X k => XT.lmul X.here C.1 rfl (hb C.2.2.1 hd) rfl k) k
theorem w_lor (C : Cx p s m meth c Z own nm bytes maxL ret) {pc q : Nat} {ls : Array Slot} {rest : List Value} {x y : Int64} (hd : decode bytes pc = .ok (.lor, 1)) (hq : pc + 1 = q) (k : Wk p l e R s m args below meth c n0 Q h cells slots (mkF m q ls (.long (x ||| y) :: rest))) : Wk p l e R s m args below meth c n0 Q h cells slots (mkF m pc ls (.long y :: .long x :: rest)) := by
  subst hq; exact Wk.step (fun T _ t X k => XT.lor X.here C.1 rfl (hb C.2.2.1 hd) rfl k) k
theorem w_lshl (C : Cx p s m meth c Z own nm bytes maxL ret) {pc q : Nat} {ls : Array Slot} {rest : List Value} {x : Int64} {y : Int32} (hd : decode bytes pc = .ok (.lshl, 1)) (hq : pc + 1 = q) (k : Wk p l e R s m args below meth c n0 Q h cells slots (mkF m q ls (.long (x <<< (y.toInt64 &&& 63)) :: rest))) : Wk p l e R s m args below meth c n0 Q h cells slots (mkF m pc ls (.int y :: .long x :: rest)) := by
  subst hq; exact Wk.step (fun T _ t X k => XT.lshl X.here C.1 rfl (hb C.2.2.1 hd) rfl k) k
theorem w_lushr (C : Cx p s m meth c Z own nm bytes maxL ret) {pc q : Nat} {ls : Array Slot} {rest : List Value} {x : Int64} {y : Int32} (hd : decode bytes pc = .ok (.lushr, 1)) (hq : pc + 1 = q) (k : Wk p l e R s m args below meth c n0 Q h cells slots (mkF m q ls (.long (XT.ushrL x y) :: rest))) : Wk p l e R s m args below meth c n0 Q h cells slots (mkF m pc ls (.int y :: .long x :: rest)) := by
  subst hq; exact Wk.step (fun T _ t X k => XT.lushr X.here C.1 rfl (hb C.2.2.1 hd) rfl k) k
theorem w_i2l (C : Cx p s m meth c Z own nm bytes maxL ret) {pc q : Nat} {ls : Array Slot} {rest : List Value} {x : Int32} (hd : decode bytes pc = .ok (.i2l, 1)) (hq : pc + 1 = q) (k : Wk p l e R s m args below meth c n0 Q h cells slots (mkF m q ls (.long x.toInt64 :: rest))) : Wk p l e R s m args below meth c n0 Q h cells slots (mkF m pc ls (.int x :: rest)) := by
  subst hq; exact Wk.step (fun T _ t X k => XT.i2l X.here C.1 rfl (hb C.2.2.1 hd) rfl k) k
theorem w_l2i (C : Cx p s m meth c Z own nm bytes maxL ret) {pc q : Nat} {ls : Array Slot} {rest : List Value} {x : Int64} (hd : decode bytes pc = .ok (.l2i, 1)) (hq : pc + 1 = q) (k : Wk p l e R s m args below meth c n0 Q h cells slots (mkF m q ls (.int x.toInt32 :: rest))) : Wk p l e R s m args below meth c n0 Q h cells slots (mkF m pc ls (.long x :: rest)) := by
  subst hq; exact Wk.step (fun T _ t X k => XT.l2i X.here C.1 rfl (hb C.2.2.1 hd) rfl k) k
theorem w_lcmp (C : Cx p s m meth c Z own nm bytes maxL ret) {pc q : Nat} {ls : Array Slot} {rest : List Value} {x y : Int64} (hd : decode bytes pc = .ok (.lcmp, 1)) (hq : pc + 1 = q) (k : Wk p l e R s m args below meth c n0 Q h cells slots (mkF m q ls (.int (XT.cmpL x y) :: rest))) : Wk p l e R s m args below meth c n0 Q h cells slots (mkF m pc ls (.long y :: .long x :: rest)) := by
  subst hq; exact Wk.step (fun T _ t X k => XT.lcmp X.here C.1 rfl (hb C.2.2.1 hd) rfl k) k
theorem w_dup (C : Cx p s m meth c Z own nm bytes maxL ret) {pc q : Nat} {ls : Array Slot} {rest : List Value} {x : Value} (hd : decode bytes pc = .ok (.dup, 1)) (hq : pc + 1 = q) (hx : x.category = 1) (k : Wk p l e R s m args below meth c n0 Q h cells slots (mkF m q ls (x :: x :: rest))) : Wk p l e R s m args below meth c n0 Q h cells slots (mkF m pc ls (x :: rest)) := by
  subst hq; exact Wk.step (fun T _ t X k => XS.dup X.here C.1 rfl (hb C.2.2.1 hd) rfl hx k) k
theorem w_goto (C : Cx p s m meth c Z own nm bytes maxL ret) {pc q : Nat} {ls : Array Slot} {rest : List Value} {o : Int} (hd : decode bytes pc = .ok (.goto o, 3)) (ho : 0 ≤ (pc : Int) + o) (hp : ((pc : Int) + o).toNat = q) (k : Wk p l e R s m args below meth c n0 Q h cells slots (mkF m q ls rest)) : Wk p l e R s m args below meth c n0 Q h cells slots (mkF m pc ls rest) :=
  Wk.step (fun T _ t X k => XS.goto X.here C.1 rfl rfl (hb C.2.2.1 hd) ho hp k) k
theorem w_ifeq_f (C : Cx p s m meth c Z own nm bytes maxL ret) {pc q : Nat} {ls : Array Slot} {rest : List Value} {x : Int32} {o : Int} (hd : decode bytes pc = .ok (.ifCond .eq o, 3)) (hq : pc + 3 = q) (hc : ¬ x = 0) (k : Wk p l e R s m args below meth c n0 Q h cells slots (mkF m q ls rest)) : Wk p l e R s m args below meth c n0 Q h cells slots (mkF m pc ls (.int x :: rest)) := by
  subst hq; exact Wk.step (fun T _ t X k => XS.ifNo X.here C.1 rfl (hb C.2.2.1 hd) rfl (XT.i0_eq_f hc) k) k
theorem w_iceq_t (C : Cx p s m meth c Z own nm bytes maxL ret) {pc q : Nat} {ls : Array Slot} {rest : List Value} {x y : Int32} {o : Int} (hd : decode bytes pc = .ok (.if_icmp .eq o, 3)) (ho : 0 ≤ (pc : Int) + o) (hp : ((pc : Int) + o).toNat = q) (hc : x = y) (k : Wk p l e R s m args below meth c n0 Q h cells slots (mkF m q ls rest)) : Wk p l e R s m args below meth c n0 Q h cells slots (mkF m pc ls (.int y :: .int x :: rest)) :=
  Wk.step (fun T _ t X k => XS.icmpYes X.here C.1 rfl rfl (hb C.2.2.1 hd) rfl (XT.ii_eq_t hc) ho hp k) k
theorem w_lleq_t (C : Cx p s m meth c Z own nm bytes maxL ret) {pc q : Nat} {ls : Array Slot} {rest : List Value} {x y : Int64} {o : Int} (hd : decode bytes pc = .ok (.ifCond .eq o, 3)) (ho : 0 ≤ (pc : Int) + o) (hp : ((pc : Int) + o).toNat = q) (hc : x = y) (k : Wk p l e R s m args below meth c n0 Q h cells slots (mkF m q ls rest)) : Wk p l e R s m args below meth c n0 Q h cells slots (mkF m pc ls (.int (XT.cmpL x y) :: rest)) :=
  Wk.step (fun T _ t X k => XS.ifYes X.here C.1 rfl rfl (hb C.2.2.1 hd) rfl (XT.ll_eq_t hc) ho hp k) k
theorem w_ifne_t (C : Cx p s m meth c Z own nm bytes maxL ret) {pc q : Nat} {ls : Array Slot} {rest : List Value} {x : Int32} {o : Int} (hd : decode bytes pc = .ok (.ifCond .ne o, 3)) (ho : 0 ≤ (pc : Int) + o) (hp : ((pc : Int) + o).toNat = q) (hc : ¬ x = 0) (k : Wk p l e R s m args below meth c n0 Q h cells slots (mkF m q ls rest)) : Wk p l e R s m args below meth c n0 Q h cells slots (mkF m pc ls (.int x :: rest)) :=
  Wk.step (fun T _ t X k => XS.ifYes X.here C.1 rfl rfl (hb C.2.2.1 hd) rfl (XT.i0_ne_t hc) ho hp k) k
theorem w_ifne_f (C : Cx p s m meth c Z own nm bytes maxL ret) {pc q : Nat} {ls : Array Slot} {rest : List Value} {x : Int32} {o : Int} (hd : decode bytes pc = .ok (.ifCond .ne o, 3)) (hq : pc + 3 = q) (hc : x = 0) (k : Wk p l e R s m args below meth c n0 Q h cells slots (mkF m q ls rest)) : Wk p l e R s m args below meth c n0 Q h cells slots (mkF m pc ls (.int x :: rest)) := by
  subst hq; exact Wk.step (fun T _ t X k => XS.ifNo X.here C.1 rfl (hb C.2.2.1 hd) rfl (XT.i0_ne_f hc) k) k
theorem w_ifne (C : Cx p s m meth c Z own nm bytes maxL ret) {pc q : Nat} {ls : Array Slot} {rest : List Value} {q' : Nat} {x : Int32} {o : Int} (hd : decode bytes pc = .ok (.ifCond .ne o, 3)) (ho : 0 ≤ (pc : Int) + o) (hp : ((pc : Int) + o).toNat = q) (hq : pc + 3 = q') (kt : ¬ x = 0 → Wk p l e R s m args below meth c n0 Q h cells slots (mkF m q ls rest)) (kf : x = 0 → Wk p l e R s m args below meth c n0 Q h cells slots (mkF m q' ls rest)) : Wk p l e R s m args below meth c n0 Q h cells slots (mkF m pc ls (.int x :: rest)) := by
  by_cases hc : x = 0
  · exact w_ifne_f C hd hq hc (kf hc)
  · exact w_ifne_t C hd ho hp hc (kt hc)
theorem w_icne_t (C : Cx p s m meth c Z own nm bytes maxL ret) {pc q : Nat} {ls : Array Slot} {rest : List Value} {x y : Int32} {o : Int} (hd : decode bytes pc = .ok (.if_icmp .ne o, 3)) (ho : 0 ≤ (pc : Int) + o) (hp : ((pc : Int) + o).toNat = q) (hc : ¬ x = y) (k : Wk p l e R s m args below meth c n0 Q h cells slots (mkF m q ls rest)) : Wk p l e R s m args below meth c n0 Q h cells slots (mkF m pc ls (.int y :: .int x :: rest)) :=
  Wk.step (fun T _ t X k => XS.icmpYes X.here C.1 rfl rfl (hb C.2.2.1 hd) rfl (XT.ii_ne_t hc) ho hp k) k
theorem w_icne_f (C : Cx p s m meth c Z own nm bytes maxL ret) {pc q : Nat} {ls : Array Slot} {rest : List Value} {x y : Int32} {o : Int} (hd : decode bytes pc = .ok (.if_icmp .ne o, 3)) (hq : pc + 3 = q) (hc : x = y) (k : Wk p l e R s m args below meth c n0 Q h cells slots (mkF m q ls rest)) : Wk p l e R s m args below meth c n0 Q h cells slots (mkF m pc ls (.int y :: .int x :: rest)) := by
  subst hq; exact Wk.step (fun T _ t X k => XS.icmpNo X.here C.1 rfl (hb C.2.2.1 hd) rfl (XT.ii_ne_f hc) k) k
theorem w_iflt_t (C : Cx p s m meth c Z own nm bytes maxL ret) {pc q : Nat} {ls : Array Slot} {rest : List Value} {x : Int32} {o : Int} (hd : decode bytes pc = .ok (.ifCond .lt o, 3)) (ho : 0 ≤ (pc : Int) + o) (hp : ((pc : Int) + o).toNat = q) (hc : x < 0) (k : Wk p l e R s m args below meth c n0 Q h cells slots (mkF m q ls rest)) : Wk p l e R s m args below meth c n0 Q h cells slots (mkF m pc ls (.int x :: rest)) :=
  Wk.step (fun T _ t X k => XS.ifYes X.here C.1 rfl rfl (hb C.2.2.1 hd) rfl (XT.i0_lt_t hc) ho hp k) k
theorem w_iflt_f (C : Cx p s m meth c Z own nm bytes maxL ret) {pc q : Nat} {ls : Array Slot} {rest : List Value} {x : Int32} {o : Int} (hd : decode bytes pc = .ok (.ifCond .lt o, 3)) (hq : pc + 3 = q) (hc : ¬ x < 0) (k : Wk p l e R s m args below meth c n0 Q h cells slots (mkF m q ls rest)) : Wk p l e R s m args below meth c n0 Q h cells slots (mkF m pc ls (.int x :: rest)) := by
  subst hq; exact Wk.step (fun T _ t X k => XS.ifNo X.here C.1 rfl (hb C.2.2.1 hd) rfl (XT.i0_lt_f hc) k) k
theorem w_ifge_t (C : Cx p s m meth c Z own nm bytes maxL ret) {pc q : Nat} {ls : Array Slot} {rest : List Value} {x : Int32} {o : Int} (hd : decode bytes pc = .ok (.ifCond .ge o, 3)) (ho : 0 ≤ (pc : Int) + o) (hp : ((pc : Int) + o).toNat = q) (hc : ¬ x < 0) (k : Wk p l e R s m args below meth c n0 Q h cells slots (mkF m q ls rest)) : Wk p l e R s m args below meth c n0 Q h cells slots (mkF m pc ls (.int x :: rest)) :=
  Wk.step (fun T _ t X k => XS.ifYes X.here C.1 rfl rfl (hb C.2.2.1 hd) rfl (XT.i0_ge_t hc) ho hp k) k
theorem w_ifge_f (C : Cx p s m meth c Z own nm bytes maxL ret) {pc q : Nat} {ls : Array Slot} {rest : List Value} {x : Int32} {o : Int} (hd : decode bytes pc = .ok (.ifCond .ge o, 3)) (hq : pc + 3 = q) (hc : x < 0) (k : Wk p l e R s m args below meth c n0 Q h cells slots (mkF m q ls rest)) : Wk p l e R s m args below meth c n0 Q h cells slots (mkF m pc ls (.int x :: rest)) := by
  subst hq; exact Wk.step (fun T _ t X k => XS.ifNo X.here C.1 rfl (hb C.2.2.1 hd) rfl (XT.i0_ge_f hc) k) k
theorem w_icge_t (C : Cx p s m meth c Z own nm bytes maxL ret) {pc q : Nat} {ls : Array Slot} {rest : List Value} {x y : Int32} {o : Int} (hd : decode bytes pc = .ok (.if_icmp .ge o, 3)) (ho : 0 ≤ (pc : Int) + o) (hp : ((pc : Int) + o).toNat = q) (hc : ¬ x < y) (k : Wk p l e R s m args below meth c n0 Q h cells slots (mkF m q ls rest)) : Wk p l e R s m args below meth c n0 Q h cells slots (mkF m pc ls (.int y :: .int x :: rest)) :=
  Wk.step (fun T _ t X k => XS.icmpYes X.here C.1 rfl rfl (hb C.2.2.1 hd) rfl (XT.ii_ge_t hc) ho hp k) k
theorem w_icge_f (C : Cx p s m meth c Z own nm bytes maxL ret) {pc q : Nat} {ls : Array Slot} {rest : List Value} {x y : Int32} {o : Int} (hd : decode bytes pc = .ok (.if_icmp .ge o, 3)) (hq : pc + 3 = q) (hc : x < y) (k : Wk p l e R s m args below meth c n0 Q h cells slots (mkF m q ls rest)) : Wk p l e R s m args below meth c n0 Q h cells slots (mkF m pc ls (.int y :: .int x :: rest)) := by
  subst hq; exact Wk.step (fun T _ t X k => XS.icmpNo X.here C.1 rfl (hb C.2.2.1 hd) rfl (XT.ii_ge_f hc) k) k
theorem w_icle_t (C : Cx p s m meth c Z own nm bytes maxL ret) {pc q : Nat} {ls : Array Slot} {rest : List Value} {x y : Int32} {o : Int} (hd : decode bytes pc = .ok (.if_icmp .le o, 3)) (ho : 0 ≤ (pc : Int) + o) (hp : ((pc : Int) + o).toNat = q) (hc : ¬ y < x) (k : Wk p l e R s m args below meth c n0 Q h cells slots (mkF m q ls rest)) : Wk p l e R s m args below meth c n0 Q h cells slots (mkF m pc ls (.int y :: .int x :: rest)) :=
  Wk.step (fun T _ t X k => XS.icmpYes X.here C.1 rfl rfl (hb C.2.2.1 hd) rfl (XT.ii_le_t hc) ho hp k) k
theorem w_icle_f (C : Cx p s m meth c Z own nm bytes maxL ret) {pc q : Nat} {ls : Array Slot} {rest : List Value} {x y : Int32} {o : Int} (hd : decode bytes pc = .ok (.if_icmp .le o, 3)) (hq : pc + 3 = q) (hc : y < x) (k : Wk p l e R s m args below meth c n0 Q h cells slots (mkF m q ls rest)) : Wk p l e R s m args below meth c n0 Q h cells slots (mkF m pc ls (.int y :: .int x :: rest)) := by
  subst hq; exact Wk.step (fun T _ t X k => XS.icmpNo X.here C.1 rfl (hb C.2.2.1 hd) rfl (XT.ii_le_f hc) k) k
theorem w_ifnullNo (C : Cx p s m meth c Z own nm bytes maxL ret) {pc q : Nat} {ls : Array Slot} {rest : List Value} {o : Int} {b : Addr} (hd : decode bytes pc = .ok (.ifnull o, 3)) (hq : pc + 3 = q) (k : Wk p l e R s m args below meth c n0 Q h cells slots (mkF m q ls rest)) : Wk p l e R s m args below meth c n0 Q h cells slots (mkF m pc ls (.ref b :: rest)) := by
  subst hq; exact Wk.step (fun T _ t X k => XS.ifnullNo X.here C.1 rfl (hb C.2.2.1 hd) rfl k) k
theorem w_ldc2J (C : Cx p s m meth c Z own nm bytes maxL ret) {pc q : Nat} {ls : Array Slot} {rest : List Value} {i : Nat} {v : Int64} (w : (Jvm.Cond.constantLong own i v).before a0 Z = true) (hd : decode bytes pc = .ok (.ldc2_w i, 3)) (hq : pc + 3 = q) (k : Wk p l e R s m args below meth c n0 Q h cells slots (mkF m q ls (.long v :: rest))) : Wk p l e R s m args below meth c n0 Q h cells slots (mkF m pc ls rest) := by
  subst hq; exact Wk.step (fun T _ t X k => X.ldc2J C.1 C.2.2.2.2.1 (mvT C.2.1 w) rfl (hb C.2.2.1 hd) k) k
theorem w_getF (C : Cx p s m meth c Z own nm bytes maxL ret) {pc q : Nat} {ls : Array Slot} {rest : List Value} {O n d host : String} {i : Nat} {R0 : String} (w : (Jvm.Cond.fieldLink own i R0 n d).before a0 Z = true ∨ (Jvm.Cond.fieldLinkNest own i R0 n d host).before a0 Z = true) (via : Via Z R0 O n d) {a : Addr} {v : Value} (F : Fld Z h a O n d v) (hd : decode bytes pc = .ok (.getfield i, 3)) (hq : pc + 3 = q)
    (k : Wk p l e R s m args below meth c n0 Q h cells slots (mkF m q ls (v :: rest))) : Wk p l e R s m args below meth c n0 Q h cells slots (mkF m pc ls (.ref a :: rest)) := by
  subst hq
  intro T locs X eT N
  obtain ⟨T', X', e', st⟩ := getF X C.1 C.2.1 C.2.2.2.2.1 w via eT F (g := mkF m pc ls (.ref a :: rest)) rfl rfl (hb C.2.2.1 hd)
  obtain ⟨U, o, h1, r⟩ := k T' locs X' e' N
  exact ⟨U, o, st U h1, r⟩
theorem w_putF (C : Cx p s m meth c Z own nm bytes maxL ret) {pc q : Nat} {ls : Array Slot} {rest : List Value} {O n d host K : String} {i kk : Nat} {ty : FieldType} {R0 : String} (w : (Jvm.Cond.fieldLink own i R0 n d).before a0 Z = true ∨ (Jvm.Cond.fieldLinkNest own i R0 n d host).before a0 Z = true) (via : Via Z R0 O n d) {a : Addr} {v old : Value} (F : Fld Z h a O n d old) (E : Exa Z h a K)
    (L : (Jvm.Cond.lays K O n d).before a0 Z = true ∨ ((Jvm.Cond.laysFinal K O n d).before a0 Z = true ∧ own = O ∧ nm = "<init>")) (wi : (Jvm.Cond.instantiable K kk).before a0 Z = true) (hty : parseFieldDescriptor d = some ty) (hn : narrow ty v = v) (hf : fits ty v = true) (hd : decode bytes pc = .ok (.putfield i, 3)) (hq : pc + 3 = q) (ha : n0 ≤ a)
    (k : ∀ h', Wr h h' a (Jvm.RoadKit.slotOf Z O n d) v → Wk p l e R s m args below meth c n0 Q h' cells slots (mkF m q ls rest)) : Wk p l e R s m args below meth c n0 Q h cells slots (mkF m pc ls (v :: .ref a :: rest)) := by
  subst hq
  intro T locs X eT N
  obtain ⟨T', h', X', e', W, st⟩ := putF X C.1 C.2.1 C.2.2.2.2.1 w via eT F E (L.imp id fun q => ⟨q.1, q.2.1, C.2.2.2.2.2.1.trans q.2.2⟩) wi hty hn hf (g := mkF m pc ls (v :: .ref a :: rest)) rfl rfl (hb C.2.2.1 hd)
  obtain ⟨U, o, h1, r⟩ := k h' W T' _ X' e' (Fr.snoc X' N ha)
  exact ⟨U, o, st U h1, r⟩
theorem w_newO (C : Cx p s m meth c Z own nm bytes maxL ret) {pc q : Nat} {ls : Array Slot} {rest : List Value} {K : String} {i n : Nat} (w : (Jvm.Cond.classLink own i K).before a0 Z = true) (wi : (Jvm.Cond.instantiable K n).before a0 Z = true) (wz : (Jvm.Cond.initialized K).before a0 Z = true) (hd : decode bytes pc = .ok (.new i, 3)) (hq : pc + 3 = q) (hc : cells + 1 ≤ R.cells) (hl : slots + n ≤ R.slots)
    (k : ∀ h' a, a = h.size → Ext h h' → Exa Z h' a K → (∀ {O nm d : String} {ty : FieldType}, Laid Z a0 K O nm d → parseFieldDescriptor d = some ty → Fld Z h' a O nm d (defaultValue ty)) → Wk p l e R s m args below meth c n0 Q h' (cells + 1) (slots + n) (mkF m q ls (.ref a :: rest))) : Wk p l e R s m args below meth c n0 Q h cells slots (mkF m pc ls rest) := by
  subst hq
  intro T locs X eT N
  obtain ⟨T', h', X', e', E, A, D, -, st⟩ := newO X C.1 C.2.1 C.2.2.2.2.1 w wi wz eT (g := mkF m pc ls rest) rfl (hb C.2.2.1 hd) hc hl
  obtain ⟨U, o, h1, r⟩ := k h' h.size rfl E A D T' locs X' e' N
  exact ⟨U, o, st U h1, r⟩
theorem Ars.of_new {h' : Heap} {a : Addr} {cA : ClassId} {ty : FieldType} {n : Int32} (hn : ¬ n < 0) (A : Arr Z h' a (newA cA ty n) ty) : Ars Z h' a cA ty (List.replicate n.toNatClampNeg (defaultValue ty)) :=
  ⟨_, A, rfl, by simp [newA], by simpa using (back32 hn).2⟩
theorem w_newP (C : Cx p s m meth c Z own nm bytes maxL ret) {pc q : Nat} {ls : Array Slot} {rest : List Value} {aty : ArrayType} (w : (Jvm.Cond.arrayClass (newarray.typeOf aty)).before a0 Z = true) (hd : decode bytes pc = .ok (.newarray aty, 2)) (hq : pc + 2 = q) {n : Int32} (hn : ¬ n < 0) (cap : Nat) (hcap : n.toNatClampNeg ≤ cap) (hbb : cap * 8 ≤ 536870912) (hc : cells + 1 ≤ R.cells) (hl : slots + cap ≤ R.slots)
    (k : ∀ h' a kA, a = h.size → Ext h h' → Ars Z h' a kA (newarray.typeOf aty) (List.replicate n.toNatClampNeg (defaultValue (newarray.typeOf aty))) → Wk p l e R s m args below meth c n0 Q h' (cells + 1) (slots + cap) (mkF m q ls (.ref a :: rest))) : Wk p l e R s m args below meth c n0 Q h cells slots (mkF m pc ls (.int n :: rest)) := by
  subst hq
  intro T locs X eT N
  obtain ⟨T', h', cA, X', e', E, A, st⟩ := newP X C.1 C.2.1 w eT (g := mkF m pc ls (.int n :: rest)) rfl (hb C.2.2.1 hd) rfl hn hcap hbb hc hl
  obtain ⟨U, o, h1, r⟩ := k h' h.size cA rfl E (Ars.of_new hn A) T' locs X' e' N
  exact ⟨U, o, st U h1, r⟩
theorem Ars.lt {a : Addr} {kA : ClassId} {ty : FieldType} {vs : List Value} (F : Ars Z h a kA ty vs) : a < h.size := by obtain ⟨_, A, -⟩ := F; exact A.lt
theorem Ars.ext {h' : Heap} {a : Addr} {kA : ClassId} {ty : FieldType} {vs : List Value} (F : Ars Z h a kA ty vs) (E : Ext h h') : Ars Z h' a kA ty vs := by obtain ⟨cl, A, r⟩ := F; exact ⟨cl, A.ext E, r⟩
theorem Ars.other {h' : Heap} {a b : Addr} {sl : Nat} {v : Value} {kA : ClassId} {ty : FieldType} {vs : List Value} (F : Ars Z h b kA ty vs) (W : Wr h h' a sl v) (q : b ≠ a) : Ars Z h' b kA ty vs := by obtain ⟨cl, A, r⟩ := F; exact ⟨cl, A.other W q, r⟩
theorem Ars.keep {h' : Heap} {a : Addr} {ws : List Addr} {kA : ClassId} {ty : FieldType} {vs : List Value} (F : Ars Z h a kA ty vs) (K : Keep h h' ws) (q : a ∉ ws) : Ars Z h' a kA ty vs := by obtain ⟨cl, A, r⟩ := F; exact ⟨cl, ⟨K.2.1 a cl A.1 q, A.2⟩, r⟩
theorem Ars.set {h' : Heap} {a : Addr} {j : Nat} {v : Value} {kA : ClassId} {ty : FieldType} {vs : List Value} (F : Ars Z h a kA ty vs) (W : Wr h h' a j v) : Ars Z h' a kA ty (vs.set j v) := by
  obtain ⟨cl, A, r1, r2, r3⟩ := F
  refine ⟨_, A.same W, r1, ?_, by simpa using r3⟩
  simp [Cell.setSlot, r2]
theorem Ars.inb {a : Addr} {kA : ClassId} {ty : FieldType} {vs : List Value} {cl : Cell} (r2 : cl.slots = vs.toArray) {j : Int32} {v : Value} (hj : ¬ j < 0) (hv : vs[j.toNatClampNeg]? = some v) : ¬ (j < 0 ∨ cl.slots.size ≤ j.toNatClampNeg) := by
  intro q
  rcases q with q | q
  · exact hj q
  · rw [r2] at q
    have := (List.getElem?_eq_some_iff.mp hv).1
    simp at q
    omega
theorem w_iaload (C : Cx p s m meth c Z own nm bytes maxL ret) {pc q : Nat} {ls : Array Slot} {rest : List Value} {a : Addr} {kA : ClassId} {vs : List Value} (F : Ars Z h a kA .int vs) {j : Int32} (v : Value) (hj : ¬ j < 0) (hv : vs[j.toNatClampNeg]? = some v) (hd : decode bytes pc = .ok (.iaload, 1)) (hq : pc + 1 = q) (k : Wk p l e R s m args below meth c n0 Q h cells slots (mkF m q ls (v :: rest))) : Wk p l e R s m args below meth c n0 Q h cells slots (mkF m pc ls (.int j :: .ref a :: rest)) := by
  subst hq
  obtain ⟨cl, A, r1, r2, r3⟩ := F
  intro T locs X eT N
  obtain ⟨U, o, h1, r⟩ := k T locs X eT N
  exact ⟨U, o, X.iaload C.1 (by rw [eT]; exact A.1) (State.isArrayOf_alike C.2.1.alike A.2.1) A.2.2 (Ars.inb (a := a) (kA := kA) (ty := .int) r2 hj hv) (by rw [r2]; simpa using hv) (g := mkF m pc ls (.int j :: .ref a :: rest)) rfl rfl (hb C.2.2.1 hd) U h1, r⟩
theorem w_laload (C : Cx p s m meth c Z own nm bytes maxL ret) {pc q : Nat} {ls : Array Slot} {rest : List Value} {a : Addr} {kA : ClassId} {vs : List Value} (F : Ars Z h a kA .long vs) {j : Int32} (v : Value) (hj : ¬ j < 0) (hv : vs[j.toNatClampNeg]? = some v) (hd : decode bytes pc = .ok (.laload, 1)) (hq : pc + 1 = q) (k : Wk p l e R s m args below meth c n0 Q h cells slots (mkF m q ls (v :: rest))) : Wk p l e R s m args below meth c n0 Q h cells slots (mkF m pc ls (.int j :: .ref a :: rest)) := by
  subst hq
  obtain ⟨cl, A, r1, r2, r3⟩ := F
  intro T locs X eT N
  obtain ⟨U, o, h1, r⟩ := k T locs X eT N
  exact ⟨U, o, X.laload C.1 (by rw [eT]; exact A.1) (State.isArrayOf_alike C.2.1.alike A.2.1) A.2.2 (Ars.inb (a := a) (kA := kA) (ty := .long) r2 hj hv) (by rw [r2]; simpa using hv) (g := mkF m pc ls (.int j :: .ref a :: rest)) rfl rfl (hb C.2.2.1 hd) U h1, r⟩
theorem w_arraylength (C : Cx p s m meth c Z own nm bytes maxL ret) {pc q : Nat} {ls : Array Slot} {rest : List Value} {a : Addr} {kA : ClassId} {ty : FieldType} {vs : List Value} (F : Ars Z h a kA ty vs) (n : Int32) (hn : vs.length.toInt32 = n) (hd : decode bytes pc = .ok (.arraylength, 1)) (hq : pc + 1 = q) (k : Wk p l e R s m args below meth c n0 Q h cells slots (mkF m q ls (.int n :: rest))) : Wk p l e R s m args below meth c n0 Q h cells slots (mkF m pc ls (.ref a :: rest)) := by
  subst hq
  obtain ⟨cl, A, r1, r2, r3⟩ := F
  intro T locs X eT N
  obtain ⟨U, o, h1, r⟩ := k T locs X eT N
  refine ⟨U, o, X.arraylength C.1 (by rw [eT]; exact A.1) (State.isArrayOf_alike C.2.1.alike A.2.1) (g := mkF m pc ls (.ref a :: rest)) rfl rfl (hb C.2.2.1 hd) U ?_, r⟩
  have e2 : cl.slots.size.toInt32 = n := by rw [r2]; simpa using hn
  rw [e2]; exact h1
theorem w_iastore (C : Cx p s m meth c Z own nm bytes maxL ret) {pc q : Nat} {ls : Array Slot} {rest : List Value} {a : Addr} {kA : ClassId} {vs : List Value} (F : Ars Z h a kA .int vs) {j x : Int32} (hj : ¬ j < 0) (hv : j.toNatClampNeg < vs.length) (hd : decode bytes pc = .ok (.iastore, 1)) (hq : pc + 1 = q) (ha : n0 ≤ a)
    (k : ∀ h', Wr h h' a j.toNatClampNeg (.int x) → Ars Z h' a kA .int (vs.set j.toNatClampNeg (.int x)) → Wk p l e R s m args below meth c n0 Q h' cells slots (mkF m q ls rest)) : Wk p l e R s m args below meth c n0 Q h cells slots (mkF m pc ls (.int x :: .int j :: .ref a :: rest)) := by
  subst hq
  have F' := F
  obtain ⟨cl, A, r1, r2, r3⟩ := F
  intro T locs X eT N
  obtain ⟨T', h', X', e', W, st⟩ := stI X C.1 C.2.1 eT A (j := j) (x := x) (Ars.inb (a := a) (kA := kA) (ty := .int) r2 hj (List.getElem?_eq_getElem hv)) (g := mkF m pc ls (.int x :: .int j :: .ref a :: rest)) rfl rfl (hb C.2.2.1 hd)
  obtain ⟨U, o, h1, r⟩ := k h' W (F'.set W) T' _ X' e' (Fr.snoc X' N ha)
  exact ⟨U, o, st U h1, r⟩
theorem w_lastore (C : Cx p s m meth c Z own nm bytes maxL ret) {pc q : Nat} {ls : Array Slot} {rest : List Value} {a : Addr} {kA : ClassId} {vs : List Value} (F : Ars Z h a kA .long vs) {j : Int32} {x : Int64} (hj : ¬ j < 0) (hv : j.toNatClampNeg < vs.length) (hd : decode bytes pc = .ok (.lastore, 1)) (hq : pc + 1 = q) (ha : n0 ≤ a)
    (k : ∀ h', Wr h h' a j.toNatClampNeg (.long x) → Ars Z h' a kA .long (vs.set j.toNatClampNeg (.long x)) → Wk p l e R s m args below meth c n0 Q h' cells slots (mkF m q ls rest)) : Wk p l e R s m args below meth c n0 Q h cells slots (mkF m pc ls (.long x :: .int j :: .ref a :: rest)) := by
  subst hq
  have F' := F
  obtain ⟨cl, A, r1, r2, r3⟩ := F
  intro T locs X eT N
  obtain ⟨T', h', X', e', W, st⟩ := stJ X C.1 C.2.1 eT A (j := j) (x := x) (Ars.inb (a := a) (kA := kA) (ty := .long) r2 hj (List.getElem?_eq_getElem hv)) (g := mkF m pc ls (.long x :: .int j :: .ref a :: rest)) rfl rfl (hb C.2.2.1 hd)
  obtain ⟨U, o, h1, r⟩ := k h' W (F'.set W) T' _ X' e' (Fr.snoc X' N ha)
  exact ⟨U, o, st U h1, r⟩
/-! calls -/
theorem w_initO (C : Cx p s m meth c Z own nm bytes maxL ret) {pc q : Nat} {ls : Array Slot} {rest : List Value} {i : Nat} (w1 : (Jvm.Cond.methodLink own i Lib.objectInit).before a0 Z = true) (w2 : (Jvm.Cond.instanceMethod Lib.objectInit).before a0 Z = true) (w3 : (Jvm.Cond.code Lib.objectInit ⟨#[0xb1]⟩ 1 none).before a0 Z = true) {a : Addr} (hd : decode bytes pc = .ok (.invokespecial i, 3)) (hq : pc + 3 = q) (hsz : ls.size = maxL)
    (hf : 1 ≤ R.frames) (hl : (rest.map fun v => v.category).sum + 12 ≤ R.locals) (k : Wk p l e R s m args below meth c n0 Q h cells slots (mkF m q ls rest)) : Wk p l e R s m args below meth c n0 Q h cells slots (mkF m pc ls (.ref a :: rest)) := by
  subst hq
  intro T locs X eT N
  obtain ⟨T', X', e', st⟩ := initO X C.1 C.2.1 C.2.2.2.2.1 w1 w2 w3 eT (g := mkF m pc ls (.ref a :: rest)) rfl (by rw [C.2.2.2.1]; exact hsz) rfl (hb C.2.2.1 hd) hf (W := (rest.map fun v => v.category).sum) (by show 2 * 0 + _ ≤ _; omega) hl
  obtain ⟨U, o, h1, r⟩ := k T' locs X' e' N
  exact ⟨U, o, st U h1, r⟩
theorem w_static (C : Cx p s m meth c Z own nm bytes maxL ret) {pc q : Nat} {ls : Array Slot} {rest : List Value} {y : MethodName} {yb : ByteArray} {yL : Nat} {yr : Option FieldType} {rm : Room} {i : Nat} {Qc : Option Value → Heap → Prop} {argsL : List Value} (w1 : (Jvm.Cond.methodLink own i y).before a0 Z = true) (w2 : (Jvm.Cond.static y).before a0 Z = true) (w3 : (Jvm.Cond.initialized y.cls).before a0 Z = true) (w4 : (Jvm.Cond.code y yb yL yr).before a0 Z = true) (hM : Met1 l Z y yb yL yr rm argsL.toArray h n0 Qc)
    (hy : y.cls ≠ "java/lang/invoke/MethodHandle" ∧ y.cls ≠ "java/lang/invoke/VarHandle") {st : List Value} (hlen : ∀ sig, parseMethodDescriptor y.desc = some sig → argsL.length = sig.parameters.length) (hst : st = argsL.reverse ++ rest) (hd : decode bytes pc = .ok (.invokestatic i, 3)) (hq : pc + 3 = q) (hsz : ls.size = maxL)
    (hf : rm.frames + 1 ≤ R.frames) (hl : (rest.map fun v => v.category).sum + (yL + 11) + rm.locals ≤ R.locals) (hc : cells + rm.cells ≤ R.cells) (hs : slots + rm.slots ≤ R.slots)
    (k : ∀ v h', Qc v h' → Wk p l e R s m args below meth c n0 Q h' (cells + rm.cells) (slots + rm.slots) (mkF m q ls (v.toList ++ rest))) : Wk p l e R s m args below meth c n0 Q h cells slots (mkF m pc ls st) := by
  subst hq
  intro T locs X eT N
  obtain ⟨v, _, ⟨T', L', k', n'⟩, -, X', ⟨Lc, hQ, l', y', z'⟩, stp⟩ := Jvm.LawKit.callS X C.1 (y := y) C.2.2.2.2.1 (mvT C.2.1 w1) (mvT C.2.1 w2) (mvT C.2.1 w3) (mvT C.2.1 w4) hy (backOf (Q := fun v h L => Qc v h ∧ Fr n0 L) (W := (rest.map fun v => v.category).sum) (hM []) C.2.1 w4 w3 hf hl) (g := mkF m pc ls st) rfl (by rw [C.2.2.2.1]; exact hsz) (argsL := argsL) (rest := rest) hlen hst (by show 2 * 0 + _ ≤ _; omega) (hb C.2.2.1 hd) (fun _ _ => ⟨rfl, eT, hc, hs⟩)
  dsimp only [Pt.U, Pt.locs, Pt.cells, Pt.slots] at X' l' y' z' stp hQ
  subst l' y' z'
  obtain ⟨U, o, h1, r⟩ := k v T'.heap hQ.1 T' _ X' rfl (Fr.app N hQ.2)
  exact ⟨U, o, stp U h1, r⟩
theorem w_special (C : Cx p s m meth c Z own nm bytes maxL ret) {pc q : Nat} {ls : Array Slot} {rest : List Value} {y : MethodName} {yb : ByteArray} {yL : Nat} {rm : Room} {i : Nat} {Qc : Option Value → Heap → Prop} {a : Addr} {argsL : List Value} (hy1 : y.name = "<init>") (w1 : (Jvm.Cond.methodLink own i y).before a0 Z = true) (w2 : (Jvm.Cond.instanceMethod y).before a0 Z = true) (w3 : (Jvm.Cond.initialized y.cls).before a0 Z = true) (w4 : (Jvm.Cond.code y yb yL none).before a0 Z = true) (hM : Met1 l Z y yb yL none rm (.ref a :: argsL).toArray h n0 Qc)
    (hy : y.cls ≠ "java/lang/invoke/MethodHandle" ∧ y.cls ≠ "java/lang/invoke/VarHandle") {st : List Value} (hlen : ∀ sig, parseMethodDescriptor y.desc = some sig → argsL.length = sig.parameters.length) (hst : st = argsL.reverse ++ .ref a :: rest) (hd : decode bytes pc = .ok (.invokespecial i, 3)) (hq : pc + 3 = q) (hsz : ls.size = maxL)
    (hf : rm.frames + 1 ≤ R.frames) (hl : (rest.map fun v => v.category).sum + (yL + 11) + rm.locals ≤ R.locals) (hc : cells + rm.cells ≤ R.cells) (hs : slots + rm.slots ≤ R.slots)
    (k : ∀ v h', Qc v h' → Wk p l e R s m args below meth c n0 Q h' (cells + rm.cells) (slots + rm.slots) (mkF m q ls (v.toList ++ rest))) : Wk p l e R s m args below meth c n0 Q h cells slots (mkF m pc ls st) := by
  subst hq
  intro T locs X eT N
  obtain ⟨v, _, ⟨T', L', k', n'⟩, -, X', ⟨Lc, hQ, l', y', z'⟩, stp⟩ := X.specialBack C.1 (y := y) hy1 C.2.2.2.2.1 (mvT C.2.1 w1) (mvT C.2.1 w2) (mvT C.2.1 w4) hy (backOf (Q := fun v h L => Qc v h ∧ Fr n0 L) (W := (rest.map fun v => v.category).sum) (hM []) C.2.1 w4 w3 hf hl) (g := mkF m pc ls st) rfl (by rw [C.2.2.2.1]; exact hsz) (Steps.refl _) (a := a) (argsL := argsL) (rest := rest) hlen hst (by show 2 * 0 + _ ≤ _; omega) (hb C.2.2.1 hd) (fun _ _ => ⟨rfl, eT, hc, hs⟩)
  dsimp only [Pt.U, Pt.locs, Pt.cells, Pt.slots] at X' l' y' z' stp hQ
  subst l' y' z'
  obtain ⟨U, o, h1, r⟩ := k v T'.heap hQ.1 T' _ X' rfl (Fr.app N hQ.2)
  exact ⟨U, o, stp.trans h1, r⟩
theorem w_virtual (C : Cx p s m meth c Z own nm bytes maxL ret) {pc q : Nat} {ls : Array Slot} {rest : List Value} {K : String} {y z : MethodName} {yb : ByteArray} {yL : Nat} {yr : Option FieldType} {rm : Room} {i : Nat} {Qc : Option Value → Heap → Prop} {a : Addr} {argsL : List Value} (w1 : (Jvm.Cond.methodLink own i y).before a0 Z = true) (w2 : (Jvm.Cond.declares y).before a0 Z = true) (w5 : (Jvm.Cond.selects y.cls y y).before a0 Z = true) (w6 : (Jvm.Cond.selects K y z).before a0 Z = true) (w7 : (Jvm.Cond.instanceMethod z).before a0 Z = true) (w3 : (Jvm.Cond.initialized z.cls).before a0 Z = true) (w4 : (Jvm.Cond.code z yb yL yr).before a0 Z = true) (E : Exa Z h a K) (hM : Met1 l Z z yb yL yr rm (.ref a :: argsL).toArray h n0 Qc)
    (hy : y.cls ≠ "java/lang/invoke/MethodHandle" ∧ y.cls ≠ "java/lang/invoke/VarHandle") {st : List Value} (hlen : ∀ sig, parseMethodDescriptor y.desc = some sig → argsL.length = sig.parameters.length) (hst : st = argsL.reverse ++ .ref a :: rest) (hd : decode bytes pc = .ok (.invokevirtual i, 3)) (hq : pc + 3 = q) (hsz : ls.size = maxL)
    (hf : rm.frames + 1 ≤ R.frames) (hl : (rest.map fun v => v.category).sum + (yL + 11) + rm.locals ≤ R.locals) (hc : cells + rm.cells ≤ R.cells) (hs : slots + rm.slots ≤ R.slots)
    (k : ∀ v h', Qc v h' → Wk p l e R s m args below meth c n0 Q h' (cells + rm.cells) (slots + rm.slots) (mkF m q ls (v.toList ++ rest))) : Wk p l e R s m args below meth c n0 Q h cells slots (mkF m pc ls st) := by
  subst hq
  intro T locs X eT N
  obtain ⟨cq, kq, q1, -, q3⟩ := isOf C.2.1 eT E
  obtain ⟨v, _, ⟨T', L', k', n'⟩, -, X', ⟨Lc, hQ, l', y', z'⟩, stp⟩ := X.virtualBack C.1 (y := y) (z := z) C.2.2.2.2.1 (mvT C.2.1 w1) (mvT C.2.1 w2) (notFace_of_selects (args := #[]) (mvT C.2.1 w5)) (mvT C.2.1 w6) (mvT C.2.1 w7) hy (backOf (Q := fun v h L => Qc v h ∧ Fr n0 L) (W := (rest.map fun v => v.category).sum) (hM []) C.2.1 w4 w3 hf hl) q1 q3 (g := mkF m pc ls st) rfl (by rw [C.2.2.2.1]; exact hsz) (Steps.refl _) (argsL := argsL) (rest := rest) hlen hst (by show 2 * 0 + _ ≤ _; omega) (hb C.2.2.1 hd) (fun _ _ => ⟨rfl, eT, hc, hs⟩)
  dsimp only [Pt.U, Pt.locs, Pt.cells, Pt.slots] at X' l' y' z' stp hQ
  subst l' y' z'
  obtain ⟨U, o, h1, r⟩ := k v T'.heap hQ.1 T' _ X' rfl (Fr.app N hQ.2)
  exact ⟨U, o, stp.trans h1, r⟩
/-! returns -/
theorem w_retN (C : Cx p s m meth c Z own nm bytes maxL (some .boolean)) {pc : Nat} {ls : Array Slot} {rest : List Value} {z : Int32} (hd : decode bytes pc = .ok (.ireturn, 1)) (hc : cells ≤ R.cells) (hs : slots ≤ R.slots) (hq : Q (some (.int (z &&& 1))) h) : Wk p l e R s m args below meth c n0 Q h cells slots (mkF m pc ls (.int z :: rest)) := fun T locs X eT N => by
  have hlk := C.2.2.2.2.2.2.2
  obtain ⟨fs, hr, hrun, hended, hW, hsame⟩ := X.leave (v := some (.int (nar .boolean z))) (fun q => by rw [C.2.2.2.2.2.2.1] at q; cases q) hlk
  exact ⟨_, _, retN X C.1 (t := .boolean) C.2.2.2.2.2.2.1 (by simp) (hb C.2.2.1 hd) hr, hrun, hended, _, locs, rfl, ⟨by show Q _ T.heap; rw [eT]; exact hq, N⟩, ⟨_, rfl⟩, hW, hsame.mono hc hs⟩
theorem w_retI (C : Cx p s m meth c Z own nm bytes maxL (some .int)) {pc : Nat} {ls : Array Slot} {rest : List Value} {z : Int32} (hd : decode bytes pc = .ok (.ireturn, 1)) (hc : cells ≤ R.cells) (hs : slots ≤ R.slots) (hq : Q (some (.int z)) h) : Wk p l e R s m args below meth c n0 Q h cells slots (mkF m pc ls (.int z :: rest)) := fun T locs X eT N => by
  have hlk := C.2.2.2.2.2.2.2
  obtain ⟨fs, hr, hrun, hended, hW, hsame⟩ := X.leave (v := some (.int z)) (fun q => by rw [C.2.2.2.2.2.2.1] at q; cases q) hlk
  exact ⟨_, _, retOut X C.1 (t := .int) C.2.2.2.2.2.2.1 rfl (Or.inl ⟨rfl, Or.inl rfl, z, rfl⟩) (hb C.2.2.1 hd) hr, hrun, hended, _, locs, rfl, ⟨by show Q _ T.heap; rw [eT]; exact hq, N⟩, ⟨_, rfl⟩, hW, hsame.mono hc hs⟩
theorem w_retJ (C : Cx p s m meth c Z own nm bytes maxL (some .long)) {pc : Nat} {ls : Array Slot} {rest : List Value} {z : Int64} (hd : decode bytes pc = .ok (.lreturn, 1)) (hc : cells ≤ R.cells) (hs : slots ≤ R.slots) (hq : Q (some (.long z)) h) : Wk p l e R s m args below meth c n0 Q h cells slots (mkF m pc ls (.long z :: rest)) := fun T locs X eT N => by
  have hlk := C.2.2.2.2.2.2.2
  obtain ⟨fs, hr, hrun, hended, hW, hsame⟩ := X.leave (v := some (.long z)) (fun q => by rw [C.2.2.2.2.2.2.1] at q; cases q) hlk
  exact ⟨_, _, retOut X C.1 (t := .long) C.2.2.2.2.2.2.1 rfl (Or.inr (Or.inl ⟨rfl, rfl, z, rfl⟩)) (hb C.2.2.1 hd) hr, hrun, hended, _, locs, rfl, ⟨by show Q _ T.heap; rw [eT]; exact hq, N⟩, ⟨_, rfl⟩, hW, hsame.mono hc hs⟩
theorem w_retA {ty : FieldType} (C : Cx p s m meth c Z own nm bytes maxL (some ty)) {pc : Nat} {ls : Array Slot} {rest : List Value} {v : Value} (hty : ty.isReference = true) (hv : v.isRef = true) (hd : decode bytes pc = .ok (.areturn, 1)) (hc : cells ≤ R.cells) (hs : slots ≤ R.slots) (hq : Q (some v) h) : Wk p l e R s m args below meth c n0 Q h cells slots (mkF m pc ls (v :: rest)) := fun T locs X eT N => by
  have hlk := C.2.2.2.2.2.2.2
  have hn : narrow ty v = v := by rcases ref_cases hv with rfl | ⟨y, rfl⟩ <;> cases ty <;> first | rfl | cases hty
  obtain ⟨fs, hr, hrun, hended, hW, hsame⟩ := X.leave (v := some v) (fun q => by rw [C.2.2.2.2.2.2.1] at q; cases q) hlk
  exact ⟨_, _, retOut X C.1 (t := ty) C.2.2.2.2.2.2.1 hn (Or.inr (Or.inr (Or.inr (Or.inr ⟨rfl, hty, hv⟩)))) (hb C.2.2.1 hd) hr, hrun, hended, _, locs, rfl, ⟨by show Q _ T.heap; rw [eT]; exact hq, N⟩, ⟨_, rfl⟩, hW, hsame.mono hc hs⟩
theorem w_ret0 (C : Cx p s m meth c Z own nm bytes maxL none) {pc : Nat} {ls : Array Slot} (hd : decode bytes pc = .ok (.return_, 1)) (hc : cells ≤ R.cells) (hs : slots ≤ R.slots) (hq : Q none h) : Wk p l e R s m args below meth c n0 Q h cells slots (mkF m pc ls []) := fun T locs X eT N => by
  have hlk := C.2.2.2.2.2.2.2
  obtain ⟨fs, hr, hrun, hended, hW, hsame⟩ := X.leave (v := none) (fun _ => rfl) hlk
  exact ⟨_, _, X.returnOut C.1 C.2.2.2.2.2.2.1 (hb C.2.2.1 hd) hr, hrun, hended, _, locs, rfl, ⟨by show Q _ T.heap; rw [eT]; exact hq, N⟩, ⟨_, rfl⟩, hW, hsame.mono hc hs⟩
end Laws
end Jvm.Own
namespace Jvm.Pilot.@@N@@
open Jvm Jvm.ClassFile Sem Op Lib Jvm.Free Jvm.Stand Jvm.LawKit Jvm.RoadKit Bundle Jvm.Own Jvm.Pilot.@@N@@.Jvm.D
theorem pn_0 : plainName "com/example/logic_to_machines/logictomachines/PairSearchWordToPinLaw" = true := by first | (simp [plainName, overriddenIn]; done) | decide +kernel
theorem pn_1 : plainName "com/example/logic_to_machines/logictomachines/PairSearch" = true := by first | (simp [plainName, overriddenIn]; done) | decide +kernel
theorem pn_3 : plainName "com/example/logic_to_machines/logictomachines/PairSearch" = true := by first | (simp [plainName, overriddenIn]; done) | decide +kernel
theorem pn_4 : plainName "java/util/Arrays" = true := by first | (simp [plainName, overriddenIn]; done) | decide +kernel
theorem pn_5 : plainName "com/example/logic_to_machines/logictomachines/IntList" = true := by first | (simp [plainName, overriddenIn]; done) | decide +kernel
theorem pn_6 : plainName "com/example/logic_to_machines/logictomachines/PairSearch" = true := by first | (simp [plainName, overriddenIn]; done) | decide +kernel
theorem pn_7 : plainName "com/example/logic_to_machines/logictomachines/PairSearch" = true := by first | (simp [plainName, overriddenIn]; done) | decide +kernel
theorem pn_8 : plainName "com/example/logic_to_machines/logictomachines/PairSearch" = true := by first | (simp [plainName, overriddenIn]; done) | decide +kernel
theorem pn_9 : plainName "com/example/logic_to_machines/logictomachines/IntList" = true := by first | (simp [plainName, overriddenIn]; done) | decide +kernel
theorem pn_10 : plainName "com/example/logic_to_machines/logictomachines/PairSearch" = true := by first | (simp [plainName, overriddenIn]; done) | decide +kernel
theorem pn_11 : plainName "com/example/logic_to_machines/logictomachines/IntList" = true := by first | (simp [plainName, overriddenIn]; done) | decide +kernel
theorem pn_12 : plainName "com/example/logic_to_machines/logictomachines/PairSearch" = true := by first | (simp [plainName, overriddenIn]; done) | decide +kernel
theorem pn_13 : plainName "com/example/logic_to_machines/logictomachines/IntList" = true := by first | (simp [plainName, overriddenIn]; done) | decide +kernel
theorem d1_0 : decode prog_32_method_1_code 0 = .ok (.aload_n 0, 1) := by decide +kernel
theorem d1_1 : decode prog_32_method_1_code 1 = .ok (.invokespecial 1, 3) := by decide +kernel
theorem d1_4 : decode prog_32_method_1_code 4 = .ok (.aload_n 0, 1) := by decide +kernel
theorem d1_5 : decode prog_32_method_1_code 5 = .ok (.bipush 16, 2) := by decide +kernel
theorem d1_7 : decode prog_32_method_1_code 7 = .ok (.invokestatic 7, 3) := by decide +kernel
theorem d1_10 : decode prog_32_method_1_code 10 = .ok (.putfield 13, 3) := by decide +kernel
theorem d1_13 : decode prog_32_method_1_code 13 = .ok (.aload_n 0, 1) := by decide +kernel
theorem d1_14 : decode prog_32_method_1_code 14 = .ok (.new 17, 3) := by decide +kernel
theorem d1_17 : decode prog_32_method_1_code 17 = .ok (.dup, 1) := by decide +kernel
theorem d1_18 : decode prog_32_method_1_code 18 = .ok (.invokespecial 19, 3) := by decide +kernel
theorem d1_21 : decode prog_32_method_1_code 21 = .ok (.putfield 20, 3) := by decide +kernel
theorem d1_24 : decode prog_32_method_1_code 24 = .ok (.aload_n 0, 1) := by decide +kernel
theorem d1_25 : decode prog_32_method_1_code 25 = .ok (.new 17, 3) := by decide +kernel
theorem d1_28 : decode prog_32_method_1_code 28 = .ok (.dup, 1) := by decide +kernel
theorem d1_29 : decode prog_32_method_1_code 29 = .ok (.invokespecial 19, 3) := by decide +kernel
theorem d1_32 : decode prog_32_method_1_code 32 = .ok (.putfield 24, 3) := by decide +kernel
theorem d1_35 : decode prog_32_method_1_code 35 = .ok (.aload_n 0, 1) := by decide +kernel
theorem d1_36 : decode prog_32_method_1_code 36 = .ok (.new 17, 3) := by decide +kernel
theorem d1_39 : decode prog_32_method_1_code 39 = .ok (.dup, 1) := by decide +kernel
theorem d1_40 : decode prog_32_method_1_code 40 = .ok (.invokespecial 19, 3) := by decide +kernel
theorem d1_43 : decode prog_32_method_1_code 43 = .ok (.putfield 27, 3) := by decide +kernel
theorem d1_46 : decode prog_32_method_1_code 46 = .ok (.aload_n 0, 1) := by decide +kernel
theorem d1_47 : decode prog_32_method_1_code 47 = .ok (.new 17, 3) := by decide +kernel
theorem d1_50 : decode prog_32_method_1_code 50 = .ok (.dup, 1) := by decide +kernel
theorem d1_51 : decode prog_32_method_1_code 51 = .ok (.invokespecial 19, 3) := by decide +kernel
theorem d1_54 : decode prog_32_method_1_code 54 = .ok (.putfield 30, 3) := by decide +kernel
theorem d1_57 : decode prog_32_method_1_code 57 = .ok (.return_, 1) := by decide +kernel
theorem d3_0 : decode prog_32_method_10_code 0 = .ok (.iload_n 0, 1) := by decide +kernel
theorem d3_1 : decode prog_32_method_10_code 1 = .ok (.newarray .long, 2) := by decide +kernel
theorem d3_3 : decode prog_32_method_10_code 3 = .ok (.astore_n 1, 1) := by decide +kernel
theorem d3_4 : decode prog_32_method_10_code 4 = .ok (.aload_n 1, 1) := by decide +kernel
theorem d3_5 : decode prog_32_method_10_code 5 = .ok (.ldc2_w 62, 3) := by decide +kernel
theorem d3_8 : decode prog_32_method_10_code 8 = .ok (.invokestatic 64, 3) := by decide +kernel
theorem d3_11 : decode prog_32_method_10_code 11 = .ok (.aload_n 1, 1) := by decide +kernel
theorem d3_12 : decode prog_32_method_10_code 12 = .ok (.areturn, 1) := by decide +kernel
theorem d4_0 : decode jdk_65_method_101_code 0 = .ok (.iconst 0, 1) := by decide +kernel
theorem d4_1 : decode jdk_65_method_101_code 1 = .ok (.istore_n 3, 1) := by decide +kernel
theorem d4_2 : decode jdk_65_method_101_code 2 = .ok (.aload_n 0, 1) := by decide +kernel
theorem d4_3 : decode jdk_65_method_101_code 3 = .ok (.arraylength, 1) := by decide +kernel
theorem d4_4 : decode jdk_65_method_101_code 4 = .ok (.istore 4, 2) := by decide +kernel
theorem d4_6 : decode jdk_65_method_101_code 6 = .ok (.iload_n 3, 1) := by decide +kernel
theorem d4_7 : decode jdk_65_method_101_code 7 = .ok (.iload 4, 2) := by decide +kernel
theorem d4_9 : decode jdk_65_method_101_code 9 = .ok (.if_icmp .ge 13, 3) := by decide +kernel
theorem d4_12 : decode jdk_65_method_101_code 12 = .ok (.aload_n 0, 1) := by decide +kernel
theorem d4_13 : decode jdk_65_method_101_code 13 = .ok (.iload_n 3, 1) := by decide +kernel
theorem d4_14 : decode jdk_65_method_101_code 14 = .ok (.lload_n 1, 1) := by decide +kernel
theorem d4_15 : decode jdk_65_method_101_code 15 = .ok (.lastore, 1) := by decide +kernel
theorem d4_16 : decode jdk_65_method_101_code 16 = .ok (.iinc 3 1, 3) := by decide +kernel
theorem d4_19 : decode jdk_65_method_101_code 19 = .ok (.goto (-13), 3) := by decide +kernel
theorem d4_22 : decode jdk_65_method_101_code 22 = .ok (.return_, 1) := by decide +kernel
theorem d5_0 : decode prog_20_method_1_code 0 = .ok (.aload_n 0, 1) := by decide +kernel
theorem d5_1 : decode prog_20_method_1_code 1 = .ok (.invokespecial 1, 3) := by decide +kernel
theorem d5_4 : decode prog_20_method_1_code 4 = .ok (.aload_n 0, 1) := by decide +kernel
theorem d5_5 : decode prog_20_method_1_code 5 = .ok (.bipush 16, 2) := by decide +kernel
theorem d5_7 : decode prog_20_method_1_code 7 = .ok (.newarray .int, 2) := by decide +kernel
theorem d5_9 : decode prog_20_method_1_code 9 = .ok (.putfield 7, 3) := by decide +kernel
theorem d5_12 : decode prog_20_method_1_code 12 = .ok (.return_, 1) := by decide +kernel
theorem d6_0 : decode prog_32_method_2_code 0 = .ok (.aload_n 0, 1) := by decide +kernel
theorem d6_1 : decode prog_32_method_2_code 1 = .ok (.getfield 13, 3) := by decide +kernel
theorem d6_4 : decode prog_32_method_2_code 4 = .ok (.iload_n 1, 1) := by decide +kernel
theorem d6_5 : decode prog_32_method_2_code 5 = .ok (.iload_n 2, 1) := by decide +kernel
theorem d6_6 : decode prog_32_method_2_code 6 = .ok (.invokestatic 33, 3) := by decide +kernel
theorem d6_9 : decode prog_32_method_2_code 9 = .ok (.invokestatic 37, 3) := by decide +kernel
theorem d6_12 : decode prog_32_method_2_code 12 = .ok (.ifCond .eq 61, 3) := by decide +kernel
theorem d6_15 : decode prog_32_method_2_code 15 = .ok (.aload_n 0, 1) := by decide +kernel
theorem d6_16 : decode prog_32_method_2_code 16 = .ok (.getfield 20, 3) := by decide +kernel
theorem d6_19 : decode prog_32_method_2_code 19 = .ok (.iload_n 1, 1) := by decide +kernel
theorem d6_20 : decode prog_32_method_2_code 20 = .ok (.invokevirtual 41, 3) := by decide +kernel
theorem d6_23 : decode prog_32_method_2_code 23 = .ok (.aload_n 0, 1) := by decide +kernel
theorem d6_24 : decode prog_32_method_2_code 24 = .ok (.getfield 24, 3) := by decide +kernel
theorem d6_27 : decode prog_32_method_2_code 27 = .ok (.iload_n 2, 1) := by decide +kernel
theorem d6_28 : decode prog_32_method_2_code 28 = .ok (.invokevirtual 41, 3) := by decide +kernel
theorem d6_31 : decode prog_32_method_2_code 31 = .ok (.aload_n 0, 1) := by decide +kernel
theorem d6_32 : decode prog_32_method_2_code 32 = .ok (.getfield 27, 3) := by decide +kernel
theorem d6_35 : decode prog_32_method_2_code 35 = .ok (.iload_n 3, 1) := by decide +kernel
theorem d6_36 : decode prog_32_method_2_code 36 = .ok (.invokevirtual 41, 3) := by decide +kernel
theorem d6_39 : decode prog_32_method_2_code 39 = .ok (.aload_n 0, 1) := by decide +kernel
theorem d6_40 : decode prog_32_method_2_code 40 = .ok (.getfield 30, 3) := by decide +kernel
theorem d6_43 : decode prog_32_method_2_code 43 = .ok (.iload 4, 2) := by decide +kernel
theorem d6_45 : decode prog_32_method_2_code 45 = .ok (.invokevirtual 41, 3) := by decide +kernel
theorem d6_48 : decode prog_32_method_2_code 48 = .ok (.aload_n 0, 1) := by decide +kernel
theorem d6_49 : decode prog_32_method_2_code 49 = .ok (.invokevirtual 45, 3) := by decide +kernel
theorem d6_52 : decode prog_32_method_2_code 52 = .ok (.iconst 2, 1) := by decide +kernel
theorem d6_53 : decode prog_32_method_2_code 53 = .ok (.imul, 1) := by decide +kernel
theorem d6_54 : decode prog_32_method_2_code 54 = .ok (.aload_n 0, 1) := by decide +kernel
theorem d6_55 : decode prog_32_method_2_code 55 = .ok (.getfield 13, 3) := by decide +kernel
theorem d6_58 : decode prog_32_method_2_code 58 = .ok (.arraylength, 1) := by decide +kernel
theorem d6_59 : decode prog_32_method_2_code 59 = .ok (.if_icmp .le 14, 3) := by decide +kernel
theorem d6_73 : decode prog_32_method_2_code 73 = .ok (.return_, 1) := by decide +kernel
theorem d7_0 : decode prog_32_method_7_code 0 = .ok (.iload_n 0, 1) := by decide +kernel
theorem d7_1 : decode prog_32_method_7_code 1 = .ok (.i2l, 1) := by decide +kernel
theorem d7_2 : decode prog_32_method_7_code 2 = .ok (.bipush 32, 2) := by decide +kernel
theorem d7_4 : decode prog_32_method_7_code 4 = .ok (.lshl, 1) := by decide +kernel
theorem d7_5 : decode prog_32_method_7_code 5 = .ok (.iload_n 1, 1) := by decide +kernel
theorem d7_6 : decode prog_32_method_7_code 6 = .ok (.i2l, 1) := by decide +kernel
theorem d7_7 : decode prog_32_method_7_code 7 = .ok (.lor, 1) := by decide +kernel
theorem d7_8 : decode prog_32_method_7_code 8 = .ok (.lreturn, 1) := by decide +kernel
theorem d8_0 : decode prog_32_method_8_code 0 = .ok (.aload_n 0, 1) := by decide +kernel
theorem d8_1 : decode prog_32_method_8_code 1 = .ok (.arraylength, 1) := by decide +kernel
theorem d8_2 : decode prog_32_method_8_code 2 = .ok (.iconst 1, 1) := by decide +kernel
theorem d8_3 : decode prog_32_method_8_code 3 = .ok (.isub, 1) := by decide +kernel
theorem d8_4 : decode prog_32_method_8_code 4 = .ok (.istore_n 3, 1) := by decide +kernel
theorem d8_5 : decode prog_32_method_8_code 5 = .ok (.lload_n 1, 1) := by decide +kernel
theorem d8_6 : decode prog_32_method_8_code 6 = .ok (.ldc2_w 60, 3) := by decide +kernel
theorem d8_9 : decode prog_32_method_8_code 9 = .ok (.lmul, 1) := by decide +kernel
theorem d8_10 : decode prog_32_method_8_code 10 = .ok (.lstore 4, 2) := by decide +kernel
theorem d8_12 : decode prog_32_method_8_code 12 = .ok (.lload 4, 2) := by decide +kernel
theorem d8_14 : decode prog_32_method_8_code 14 = .ok (.bipush 32, 2) := by decide +kernel
theorem d8_16 : decode prog_32_method_8_code 16 = .ok (.lushr, 1) := by decide +kernel
theorem d8_17 : decode prog_32_method_8_code 17 = .ok (.l2i, 1) := by decide +kernel
theorem d8_18 : decode prog_32_method_8_code 18 = .ok (.iload_n 3, 1) := by decide +kernel
theorem d8_19 : decode prog_32_method_8_code 19 = .ok (.iand, 1) := by decide +kernel
theorem d8_20 : decode prog_32_method_8_code 20 = .ok (.istore 6, 2) := by decide +kernel
theorem d8_22 : decode prog_32_method_8_code 22 = .ok (.aload_n 0, 1) := by decide +kernel
theorem d8_23 : decode prog_32_method_8_code 23 = .ok (.iload 6, 2) := by decide +kernel
theorem d8_25 : decode prog_32_method_8_code 25 = .ok (.laload, 1) := by decide +kernel
theorem d8_26 : decode prog_32_method_8_code 26 = .ok (.ldc2_w 62, 3) := by decide +kernel
theorem d8_29 : decode prog_32_method_8_code 29 = .ok (.lcmp, 1) := by decide +kernel
theorem d8_30 : decode prog_32_method_8_code 30 = .ok (.ifCond .eq 25, 3) := by decide +kernel
theorem d8_55 : decode prog_32_method_8_code 55 = .ok (.aload_n 0, 1) := by decide +kernel
theorem d8_56 : decode prog_32_method_8_code 56 = .ok (.iload 6, 2) := by decide +kernel
theorem d8_58 : decode prog_32_method_8_code 58 = .ok (.lload_n 1, 1) := by decide +kernel
theorem d8_59 : decode prog_32_method_8_code 59 = .ok (.lastore, 1) := by decide +kernel
theorem d8_60 : decode prog_32_method_8_code 60 = .ok (.iconst 1, 1) := by decide +kernel
theorem d8_61 : decode prog_32_method_8_code 61 = .ok (.ireturn, 1) := by decide +kernel
theorem d9_0 : decode prog_20_method_2_code 0 = .ok (.aload_n 0, 1) := by decide +kernel
theorem d9_1 : decode prog_20_method_2_code 1 = .ok (.getfield 13, 3) := by decide +kernel
theorem d9_4 : decode prog_20_method_2_code 4 = .ok (.aload_n 0, 1) := by decide +kernel
theorem d9_5 : decode prog_20_method_2_code 5 = .ok (.getfield 7, 3) := by decide +kernel
theorem d9_8 : decode prog_20_method_2_code 8 = .ok (.arraylength, 1) := by decide +kernel
theorem d9_9 : decode prog_20_method_2_code 9 = .ok (.if_icmp .ne 20, 3) := by decide +kernel
theorem d9_29 : decode prog_20_method_2_code 29 = .ok (.aload_n 0, 1) := by decide +kernel
theorem d9_30 : decode prog_20_method_2_code 30 = .ok (.getfield 7, 3) := by decide +kernel
theorem d9_33 : decode prog_20_method_2_code 33 = .ok (.aload_n 0, 1) := by decide +kernel
theorem d9_34 : decode prog_20_method_2_code 34 = .ok (.getfield 13, 3) := by decide +kernel
theorem d9_37 : decode prog_20_method_2_code 37 = .ok (.iload_n 1, 1) := by decide +kernel
theorem d9_38 : decode prog_20_method_2_code 38 = .ok (.iastore, 1) := by decide +kernel
theorem d9_39 : decode prog_20_method_2_code 39 = .ok (.aload_n 0, 1) := by decide +kernel
theorem d9_40 : decode prog_20_method_2_code 40 = .ok (.dup, 1) := by decide +kernel
theorem d9_41 : decode prog_20_method_2_code 41 = .ok (.getfield 13, 3) := by decide +kernel
theorem d9_44 : decode prog_20_method_2_code 44 = .ok (.iconst 1, 1) := by decide +kernel
theorem d9_45 : decode prog_20_method_2_code 45 = .ok (.iadd, 1) := by decide +kernel
theorem d9_46 : decode prog_20_method_2_code 46 = .ok (.putfield 13, 3) := by decide +kernel
theorem d9_49 : decode prog_20_method_2_code 49 = .ok (.return_, 1) := by decide +kernel
theorem d10_0 : decode prog_32_method_3_code 0 = .ok (.aload_n 0, 1) := by decide +kernel
theorem d10_1 : decode prog_32_method_3_code 1 = .ok (.getfield 20, 3) := by decide +kernel
theorem d10_4 : decode prog_32_method_3_code 4 = .ok (.invokevirtual 53, 3) := by decide +kernel
theorem d10_7 : decode prog_32_method_3_code 7 = .ok (.ireturn, 1) := by decide +kernel
theorem d11_0 : decode prog_20_method_4_code 0 = .ok (.aload_n 0, 1) := by decide +kernel
theorem d11_1 : decode prog_20_method_4_code 1 = .ok (.getfield 13, 3) := by decide +kernel
theorem d11_4 : decode prog_20_method_4_code 4 = .ok (.ireturn, 1) := by decide +kernel
theorem d12_0 : decode prog_32_method_6_code 0 = .ok (.iconst 1, 1) := by decide +kernel
theorem d12_1 : decode prog_32_method_6_code 1 = .ok (.istore_n 3, 1) := by decide +kernel
theorem d12_2 : decode prog_32_method_6_code 2 = .ok (.iload_n 1, 1) := by decide +kernel
theorem d12_3 : decode prog_32_method_6_code 3 = .ok (.istore 4, 2) := by decide +kernel
theorem d12_5 : decode prog_32_method_6_code 5 = .ok (.aload_n 0, 1) := by decide +kernel
theorem d12_6 : decode prog_32_method_6_code 6 = .ok (.getfield 27, 3) := by decide +kernel
theorem d12_9 : decode prog_32_method_6_code 9 = .ok (.iload 4, 2) := by decide +kernel
theorem d12_11 : decode prog_32_method_6_code 11 = .ok (.invokevirtual 56, 3) := by decide +kernel
theorem d12_14 : decode prog_32_method_6_code 14 = .ok (.ifCond .lt 20, 3) := by decide +kernel
theorem d12_17 : decode prog_32_method_6_code 17 = .ok (.iinc 3 1, 3) := by decide +kernel
theorem d12_20 : decode prog_32_method_6_code 20 = .ok (.aload_n 0, 1) := by decide +kernel
theorem d12_21 : decode prog_32_method_6_code 21 = .ok (.getfield 27, 3) := by decide +kernel
theorem d12_24 : decode prog_32_method_6_code 24 = .ok (.iload 4, 2) := by decide +kernel
theorem d12_26 : decode prog_32_method_6_code 26 = .ok (.invokevirtual 56, 3) := by decide +kernel
theorem d12_29 : decode prog_32_method_6_code 29 = .ok (.istore 4, 2) := by decide +kernel
theorem d12_31 : decode prog_32_method_6_code 31 = .ok (.goto (-26), 3) := by decide +kernel
theorem d12_34 : decode prog_32_method_6_code 34 = .ok (.iload_n 3, 1) := by decide +kernel
theorem d12_35 : decode prog_32_method_6_code 35 = .ok (.newarray .int, 2) := by decide +kernel
theorem d12_37 : decode prog_32_method_6_code 37 = .ok (.astore 4, 2) := by decide +kernel
theorem d12_39 : decode prog_32_method_6_code 39 = .ok (.aload 4, 2) := by decide +kernel
theorem d12_41 : decode prog_32_method_6_code 41 = .ok (.iload_n 3, 1) := by decide +kernel
theorem d12_42 : decode prog_32_method_6_code 42 = .ok (.iconst 1, 1) := by decide +kernel
theorem d12_43 : decode prog_32_method_6_code 43 = .ok (.isub, 1) := by decide +kernel
theorem d12_44 : decode prog_32_method_6_code 44 = .ok (.iload_n 2, 1) := by decide +kernel
theorem d12_45 : decode prog_32_method_6_code 45 = .ok (.iastore, 1) := by decide +kernel
theorem d12_46 : decode prog_32_method_6_code 46 = .ok (.iload_n 3, 1) := by decide +kernel
theorem d12_47 : decode prog_32_method_6_code 47 = .ok (.iconst 2, 1) := by decide +kernel
theorem d12_48 : decode prog_32_method_6_code 48 = .ok (.isub, 1) := by decide +kernel
theorem d12_49 : decode prog_32_method_6_code 49 = .ok (.istore 5, 2) := by decide +kernel
theorem d12_51 : decode prog_32_method_6_code 51 = .ok (.iload_n 1, 1) := by decide +kernel
theorem d12_52 : decode prog_32_method_6_code 52 = .ok (.istore 6, 2) := by decide +kernel
theorem d12_54 : decode prog_32_method_6_code 54 = .ok (.aload_n 0, 1) := by decide +kernel
theorem d12_55 : decode prog_32_method_6_code 55 = .ok (.getfield 27, 3) := by decide +kernel
theorem d12_58 : decode prog_32_method_6_code 58 = .ok (.iload 6, 2) := by decide +kernel
theorem d12_60 : decode prog_32_method_6_code 60 = .ok (.invokevirtual 56, 3) := by decide +kernel
theorem d12_63 : decode prog_32_method_6_code 63 = .ok (.ifCond .lt 34, 3) := by decide +kernel
theorem d12_66 : decode prog_32_method_6_code 66 = .ok (.aload 4, 2) := by decide +kernel
theorem d12_68 : decode prog_32_method_6_code 68 = .ok (.iload 5, 2) := by decide +kernel
theorem d12_70 : decode prog_32_method_6_code 70 = .ok (.aload_n 0, 1) := by decide +kernel
theorem d12_71 : decode prog_32_method_6_code 71 = .ok (.getfield 30, 3) := by decide +kernel
theorem d12_74 : decode prog_32_method_6_code 74 = .ok (.iload 6, 2) := by decide +kernel
theorem d12_76 : decode prog_32_method_6_code 76 = .ok (.invokevirtual 56, 3) := by decide +kernel
theorem d12_79 : decode prog_32_method_6_code 79 = .ok (.iastore, 1) := by decide +kernel
theorem d12_80 : decode prog_32_method_6_code 80 = .ok (.iinc 5 (-1), 3) := by decide +kernel
theorem d12_83 : decode prog_32_method_6_code 83 = .ok (.aload_n 0, 1) := by decide +kernel
theorem d12_84 : decode prog_32_method_6_code 84 = .ok (.getfield 27, 3) := by decide +kernel
theorem d12_87 : decode prog_32_method_6_code 87 = .ok (.iload 6, 2) := by decide +kernel
theorem d12_89 : decode prog_32_method_6_code 89 = .ok (.invokevirtual 56, 3) := by decide +kernel
theorem d12_92 : decode prog_32_method_6_code 92 = .ok (.istore 6, 2) := by decide +kernel
theorem d12_94 : decode prog_32_method_6_code 94 = .ok (.goto (-40), 3) := by decide +kernel
theorem d12_97 : decode prog_32_method_6_code 97 = .ok (.aload 4, 2) := by decide +kernel
theorem d12_99 : decode prog_32_method_6_code 99 = .ok (.areturn, 1) := by decide +kernel
theorem d13_0 : decode prog_20_method_3_code 0 = .ok (.aload_n 0, 1) := by decide +kernel
theorem d13_1 : decode prog_20_method_3_code 1 = .ok (.getfield 7, 3) := by decide +kernel
theorem d13_4 : decode prog_20_method_3_code 4 = .ok (.iload_n 1, 1) := by decide +kernel
theorem d13_5 : decode prog_20_method_3_code 5 = .ok (.iaload, 1) := by decide +kernel
theorem d13_6 : decode prog_20_method_3_code 6 = .ok (.ireturn, 1) := by decide +kernel
theorem pd_0 : parseMethodDescriptor "([JJ)V" = some ⟨[(.array .long), .long], none⟩ := by decide +kernel
theorem pd_1 : parseMethodDescriptor "(I)[J" = some ⟨[.int], some (.array .long)⟩ := by decide +kernel
theorem pd_2 : parseMethodDescriptor "()V" = some ⟨[], none⟩ := by decide +kernel
theorem pd_3 : parseMethodDescriptor "()I" = some ⟨[], some .int⟩ := by decide +kernel
theorem pd_4 : parseMethodDescriptor "(II)J" = some ⟨[.int, .int], some .long⟩ := by decide +kernel
theorem pd_5 : parseMethodDescriptor "([JJ)Z" = some ⟨[(.array .long), .long], some .boolean⟩ := by decide +kernel
theorem pd_6 : parseMethodDescriptor "(I)V" = some ⟨[.int], none⟩ := by decide +kernel
theorem pd_7 : parseMethodDescriptor "(I)I" = some ⟨[.int], some .int⟩ := by decide +kernel
theorem pd_8 : parseMethodDescriptor "(IIII)V" = some ⟨[.int, .int, .int, .int], none⟩ := by decide +kernel
theorem pd_9 : parseMethodDescriptor "(II)[I" = some ⟨[.int, .int], some (.array .int)⟩ := by decide +kernel
/-- a list of ints: its class, its array, its size, what lies in the array -/
def IL (Z : State) (h : Heap) (a b : Nat) (k : ClassId) (f : List Value) (n : Int32) : Prop := Exa Z h a "com/example/logic_to_machines/logictomachines/IntList" ∧ Fld Z h a "com/example/logic_to_machines/logictomachines/IntList" "values" "[I" (.ref b) ∧ Fld Z h a "com/example/logic_to_machines/logictomachines/IntList" "size" "I" (.int n) ∧ Ars Z h b k .int f
theorem IL.keep {Z : State} {h h' : Heap} {a b : Nat} {k : ClassId} {f : List Value} {n : Int32} {ws : List Addr} (F : IL Z h a b k f n) (K : Keep h h' ws) (q1 : a ∉ ws) (q2 : b ∉ ws) : IL Z h' a b k f n := ⟨F.1.keep K, F.2.1.keep K q1, F.2.2.1.keep K q1, F.2.2.2.keep K q2⟩
theorem IL.ext {Z : State} {h h' : Heap} {a b : Nat} {k : ClassId} {f : List Value} {n : Int32} (F : IL Z h a b k f n) (E : Ext h h') : IL Z h' a b k f n := ⟨F.1.ext E, F.2.1.ext E, F.2.2.1.ext E, F.2.2.2.ext E⟩
theorem IL.wr {Z : State} {h h' : Heap} {a b c : Nat} {k : ClassId} {f : List Value} {n : Int32} {sl : Nat} {v : Value} (F : IL Z h a b k f n) (W : Wr h h' c sl v) (q1 : a ≠ c) (q2 : b ≠ c) : IL Z h' a b k f n := ⟨F.1.wr W, F.2.1.other W (Or.inl q1), F.2.2.1.other W (Or.inl q1), F.2.2.2.other W q2⟩
/-- the search with its table and its four lists -/
def PS (Z : State) (h : Heap) (s m l1 b1 l2 b2 l3 b3 l4 b4 : Nat) (km k1 k2 k3 k4 : ClassId) (ms f1 f2 f3 f4 : List Value) (n : Int32) : Prop :=
  Exa Z h s "com/example/logic_to_machines/logictomachines/PairSearch" ∧ Fld Z h s "com/example/logic_to_machines/logictomachines/PairSearch" "met" "[J" (.ref m) ∧ Fld Z h s "com/example/logic_to_machines/logictomachines/PairSearch" "firsts" "Lcom/example/logic_to_machines/logictomachines/IntList;" (.ref l1) ∧ Fld Z h s "com/example/logic_to_machines/logictomachines/PairSearch" "seconds" "Lcom/example/logic_to_machines/logictomachines/IntList;" (.ref l2) ∧ Fld Z h s "com/example/logic_to_machines/logictomachines/PairSearch" "parents" "Lcom/example/logic_to_machines/logictomachines/IntList;" (.ref l3) ∧ Fld Z h s "com/example/logic_to_machines/logictomachines/PairSearch" "inputs" "Lcom/example/logic_to_machines/logictomachines/IntList;" (.ref l4) ∧ Ars Z h m km .long ms ∧
  IL Z h l1 b1 k1 f1 n ∧ IL Z h l2 b2 k2 f2 n ∧ IL Z h l3 b3 k3 f3 n ∧ IL Z h l4 b4 k4 f4 n ∧ (s : Nat) < (m : Nat) ∧ (m : Nat) < (l1 : Nat) ∧ (l1 : Nat) < (b1 : Nat) ∧ (b1 : Nat) < (l2 : Nat) ∧ (l2 : Nat) < (b2 : Nat) ∧ (b2 : Nat) < (l3 : Nat) ∧ (l3 : Nat) < (b3 : Nat) ∧ (b3 : Nat) < (l4 : Nat) ∧ (l4 : Nat) < (b4 : Nat)
def keyF (i j : Int32) : Int64 := (i.toInt64 <<< ((32 : Int32).toInt64 &&& 63)) ||| j.toInt64
def slotF (k : Int64) : Int32 := (XT.ushrL (k * (-7046029254386353131 : Int64)) (32 : Int32)).toInt32 &&& (15 : Int32)
theorem ef_Fill (m : MethodId) (a1 : Nat) (x0 : Int64) : entryFrame m #[(.ref a1), (.long x0)] 5 = mkF m 0 #[.val (.ref a1), .val (.long x0), .second, .unset, .unset] [] := by first | (simp [entryFrame, mkF, argsToLocals, Value.category]; done) | rfl
set_option maxRecDepth 65536 in
set_option maxHeartbeats 40000000 in
theorem rmFill (l : Launch) (Z : State) (a0 : Array Value) (hw : ∀ d ∈ tables_1, d.before a0 Z = true) (a1 : Nat) (x0 : Int64) (h0 : Heap) (n0 : Nat) (Z0 : n0 ≤ h0.size) (k1 : ClassId) (A1 : Ars Z h0 a1 k1 .long [(.long (0 : Int64)), (.long (0 : Int64)), (.long (0 : Int64)), (.long (0 : Int64)), (.long (0 : Int64)), (.long (0 : Int64)), (.long (0 : Int64)), (.long (0 : Int64)), (.long (0 : Int64)), (.long (0 : Int64)), (.long (0 : Int64)), (.long (0 : Int64)), (.long (0 : Int64)), (.long (0 : Int64)), (.long (0 : Int64)), (.long (0 : Int64))]) (g_a1 : n0 ≤ a1) :
    Met1 l Z ⟨"java/util/Arrays", "fill", "([JJ)V"⟩ jdk_65_method_101_code 5 none ({ frames := 0, cells := 0, slots := 0, locals := 0 } : Room) #[(.ref a1), (.long x0)] h0 n0 (fun v h => v = none ∧ Keep h0 h [a1] ∧ Ars Z h a1 k1 .long [(.long x0), (.long x0), (.long x0), (.long x0), (.long x0), (.long x0), (.long x0), (.long x0), (.long x0), (.long x0), (.long x0), (.long x0), (.long x0), (.long x0), (.long x0), (.long x0)]) := by
  refine Met1.of_body pn_4 (fun p e s m below meth c C => ?_)
  replace C : Cx p s m meth c Z "java/util/Arrays" "fill" jdk_65_method_101_code 5 none := C
  refine Wk.cast (ef_Fill m a1 x0) ?_
  have K : Keep h0 h0 [a1] := Keep.refl _ _
  refine w_iconst C (q := 1) (0 : Int32) d4_0 rfl (by decide) ?_
  refine w_istoreN C (q := 2) #[.val (.ref a1), .val (.long x0), .second, .val (.int (0 : Int32)), .unset] d4_1 rfl rfl ?_
  refine w_aloadN C (q := 3) d4_2 rfl rfl rfl ?_
  refine w_arraylength C (q := 4) A1 (16 : Int32) rfl d4_3 rfl ?_
  refine w_istore C (q := 6) #[.val (.ref a1), .val (.long x0), .second, .val (.int (0 : Int32)), .val (.int (16 : Int32))] d4_4 rfl rfl ?_
  refine w_iloadN C (q := 7) d4_6 rfl rfl ?_
  refine w_iload C (q := 9) d4_7 rfl rfl ?_
  refine w_icge_f C (q := 12) d4_9 rfl (by decide) ?_
  refine w_aloadN C (q := 13) d4_12 rfl rfl rfl ?_
  refine w_iloadN C (q := 14) d4_13 rfl rfl ?_
  refine w_lloadN C (q := 15) d4_14 rfl rfl ?_
  refine w_lastore C (q := 16) A1 (by decide) (Nat.le_of_ble_eq_true rfl) d4_15 rfl g_a1 ?_
  intro h1 Wh1 A'
  replace A1 : Ars Z h1 a1 k1 .long [(.long x0), (.long (0 : Int64)), (.long (0 : Int64)), (.long (0 : Int64)), (.long (0 : Int64)), (.long (0 : Int64)), (.long (0 : Int64)), (.long (0 : Int64)), (.long (0 : Int64)), (.long (0 : Int64)), (.long (0 : Int64)), (.long (0 : Int64)), (.long (0 : Int64)), (.long (0 : Int64)), (.long (0 : Int64)), (.long (0 : Int64))] := A'
  skip
  replace Z0 := Nat.le_trans Z0 (Nat.le_of_eq (Wr.size Wh1).symm)
  replace K := K.wr Wh1 (Or.inl (List.mem_of_getElem? (i := 0) rfl))
  refine w_iinc C (q := 19) (1 : Int32) #[.val (.ref a1), .val (.long x0), .second, .val (.int (1 : Int32)), .val (.int (16 : Int32))] d4_16 rfl (by decide) rfl rfl ?_
  refine w_goto C (q := 6) d4_19 (by decide) (by decide) ?_
  refine w_iloadN C (q := 7) d4_6 rfl rfl ?_
  refine w_iload C (q := 9) d4_7 rfl rfl ?_
  refine w_icge_f C (q := 12) d4_9 rfl (by decide) ?_
  refine w_aloadN C (q := 13) d4_12 rfl rfl rfl ?_
  refine w_iloadN C (q := 14) d4_13 rfl rfl ?_
  refine w_lloadN C (q := 15) d4_14 rfl rfl ?_
  refine w_lastore C (q := 16) A1 (by decide) (Nat.le_of_ble_eq_true rfl) d4_15 rfl g_a1 ?_
  intro h2 Wh2 A'
  replace A1 : Ars Z h2 a1 k1 .long [(.long x0), (.long x0), (.long (0 : Int64)), (.long (0 : Int64)), (.long (0 : Int64)), (.long (0 : Int64)), (.long (0 : Int64)), (.long (0 : Int64)), (.long (0 : Int64)), (.long (0 : Int64)), (.long (0 : Int64)), (.long (0 : Int64)), (.long (0 : Int64)), (.long (0 : Int64)), (.long (0 : Int64)), (.long (0 : Int64))] := A'
  skip
  replace Z0 := Nat.le_trans Z0 (Nat.le_of_eq (Wr.size Wh2).symm)
  replace K := K.wr Wh2 (Or.inl (List.mem_of_getElem? (i := 0) rfl))
  refine w_iinc C (q := 19) (1 : Int32) #[.val (.ref a1), .val (.long x0), .second, .val (.int (2 : Int32)), .val (.int (16 : Int32))] d4_16 rfl (by decide) rfl rfl ?_
  refine w_goto C (q := 6) d4_19 (by decide) (by decide) ?_
  refine w_iloadN C (q := 7) d4_6 rfl rfl ?_
  refine w_iload C (q := 9) d4_7 rfl rfl ?_
  refine w_icge_f C (q := 12) d4_9 rfl (by decide) ?_
  refine w_aloadN C (q := 13) d4_12 rfl rfl rfl ?_
  refine w_iloadN C (q := 14) d4_13 rfl rfl ?_
  refine w_lloadN C (q := 15) d4_14 rfl rfl ?_
  refine w_lastore C (q := 16) A1 (by decide) (Nat.le_of_ble_eq_true rfl) d4_15 rfl g_a1 ?_
  intro h3 Wh3 A'
  replace A1 : Ars Z h3 a1 k1 .long [(.long x0), (.long x0), (.long x0), (.long (0 : Int64)), (.long (0 : Int64)), (.long (0 : Int64)), (.long (0 : Int64)), (.long (0 : Int64)), (.long (0 : Int64)), (.long (0 : Int64)), (.long (0 : Int64)), (.long (0 : Int64)), (.long (0 : Int64)), (.long (0 : Int64)), (.long (0 : Int64)), (.long (0 : Int64))] := A'
  skip
  replace Z0 := Nat.le_trans Z0 (Nat.le_of_eq (Wr.size Wh3).symm)
  replace K := K.wr Wh3 (Or.inl (List.mem_of_getElem? (i := 0) rfl))
  refine w_iinc C (q := 19) (1 : Int32) #[.val (.ref a1), .val (.long x0), .second, .val (.int (3 : Int32)), .val (.int (16 : Int32))] d4_16 rfl (by decide) rfl rfl ?_
  refine w_goto C (q := 6) d4_19 (by decide) (by decide) ?_
  refine w_iloadN C (q := 7) d4_6 rfl rfl ?_
  refine w_iload C (q := 9) d4_7 rfl rfl ?_
  refine w_icge_f C (q := 12) d4_9 rfl (by decide) ?_
  refine w_aloadN C (q := 13) d4_12 rfl rfl rfl ?_
  refine w_iloadN C (q := 14) d4_13 rfl rfl ?_
  refine w_lloadN C (q := 15) d4_14 rfl rfl ?_
  refine w_lastore C (q := 16) A1 (by decide) (Nat.le_of_ble_eq_true rfl) d4_15 rfl g_a1 ?_
  intro h4 Wh4 A'
  replace A1 : Ars Z h4 a1 k1 .long [(.long x0), (.long x0), (.long x0), (.long x0), (.long (0 : Int64)), (.long (0 : Int64)), (.long (0 : Int64)), (.long (0 : Int64)), (.long (0 : Int64)), (.long (0 : Int64)), (.long (0 : Int64)), (.long (0 : Int64)), (.long (0 : Int64)), (.long (0 : Int64)), (.long (0 : Int64)), (.long (0 : Int64))] := A'
  skip
  replace Z0 := Nat.le_trans Z0 (Nat.le_of_eq (Wr.size Wh4).symm)
  replace K := K.wr Wh4 (Or.inl (List.mem_of_getElem? (i := 0) rfl))
  refine w_iinc C (q := 19) (1 : Int32) #[.val (.ref a1), .val (.long x0), .second, .val (.int (4 : Int32)), .val (.int (16 : Int32))] d4_16 rfl (by decide) rfl rfl ?_
  refine w_goto C (q := 6) d4_19 (by decide) (by decide) ?_
  refine w_iloadN C (q := 7) d4_6 rfl rfl ?_
  refine w_iload C (q := 9) d4_7 rfl rfl ?_
  refine w_icge_f C (q := 12) d4_9 rfl (by decide) ?_
  refine w_aloadN C (q := 13) d4_12 rfl rfl rfl ?_
  refine w_iloadN C (q := 14) d4_13 rfl rfl ?_
  refine w_lloadN C (q := 15) d4_14 rfl rfl ?_
  refine w_lastore C (q := 16) A1 (by decide) (Nat.le_of_ble_eq_true rfl) d4_15 rfl g_a1 ?_
  intro h5 Wh5 A'
  replace A1 : Ars Z h5 a1 k1 .long [(.long x0), (.long x0), (.long x0), (.long x0), (.long x0), (.long (0 : Int64)), (.long (0 : Int64)), (.long (0 : Int64)), (.long (0 : Int64)), (.long (0 : Int64)), (.long (0 : Int64)), (.long (0 : Int64)), (.long (0 : Int64)), (.long (0 : Int64)), (.long (0 : Int64)), (.long (0 : Int64))] := A'
  skip
  replace Z0 := Nat.le_trans Z0 (Nat.le_of_eq (Wr.size Wh5).symm)
  replace K := K.wr Wh5 (Or.inl (List.mem_of_getElem? (i := 0) rfl))
  refine w_iinc C (q := 19) (1 : Int32) #[.val (.ref a1), .val (.long x0), .second, .val (.int (5 : Int32)), .val (.int (16 : Int32))] d4_16 rfl (by decide) rfl rfl ?_
  refine w_goto C (q := 6) d4_19 (by decide) (by decide) ?_
  refine w_iloadN C (q := 7) d4_6 rfl rfl ?_
  refine w_iload C (q := 9) d4_7 rfl rfl ?_
  refine w_icge_f C (q := 12) d4_9 rfl (by decide) ?_
  refine w_aloadN C (q := 13) d4_12 rfl rfl rfl ?_
  refine w_iloadN C (q := 14) d4_13 rfl rfl ?_
  refine w_lloadN C (q := 15) d4_14 rfl rfl ?_
  refine w_lastore C (q := 16) A1 (by decide) (Nat.le_of_ble_eq_true rfl) d4_15 rfl g_a1 ?_
  intro h6 Wh6 A'
  replace A1 : Ars Z h6 a1 k1 .long [(.long x0), (.long x0), (.long x0), (.long x0), (.long x0), (.long x0), (.long (0 : Int64)), (.long (0 : Int64)), (.long (0 : Int64)), (.long (0 : Int64)), (.long (0 : Int64)), (.long (0 : Int64)), (.long (0 : Int64)), (.long (0 : Int64)), (.long (0 : Int64)), (.long (0 : Int64))] := A'
  skip
  replace Z0 := Nat.le_trans Z0 (Nat.le_of_eq (Wr.size Wh6).symm)
  replace K := K.wr Wh6 (Or.inl (List.mem_of_getElem? (i := 0) rfl))
  refine w_iinc C (q := 19) (1 : Int32) #[.val (.ref a1), .val (.long x0), .second, .val (.int (6 : Int32)), .val (.int (16 : Int32))] d4_16 rfl (by decide) rfl rfl ?_
  refine w_goto C (q := 6) d4_19 (by decide) (by decide) ?_
  refine w_iloadN C (q := 7) d4_6 rfl rfl ?_
  refine w_iload C (q := 9) d4_7 rfl rfl ?_
  refine w_icge_f C (q := 12) d4_9 rfl (by decide) ?_
  refine w_aloadN C (q := 13) d4_12 rfl rfl rfl ?_
  refine w_iloadN C (q := 14) d4_13 rfl rfl ?_
  refine w_lloadN C (q := 15) d4_14 rfl rfl ?_
  refine w_lastore C (q := 16) A1 (by decide) (Nat.le_of_ble_eq_true rfl) d4_15 rfl g_a1 ?_
  intro h7 Wh7 A'
  replace A1 : Ars Z h7 a1 k1 .long [(.long x0), (.long x0), (.long x0), (.long x0), (.long x0), (.long x0), (.long x0), (.long (0 : Int64)), (.long (0 : Int64)), (.long (0 : Int64)), (.long (0 : Int64)), (.long (0 : Int64)), (.long (0 : Int64)), (.long (0 : Int64)), (.long (0 : Int64)), (.long (0 : Int64))] := A'
  skip
  replace Z0 := Nat.le_trans Z0 (Nat.le_of_eq (Wr.size Wh7).symm)
  replace K := K.wr Wh7 (Or.inl (List.mem_of_getElem? (i := 0) rfl))
  refine w_iinc C (q := 19) (1 : Int32) #[.val (.ref a1), .val (.long x0), .second, .val (.int (7 : Int32)), .val (.int (16 : Int32))] d4_16 rfl (by decide) rfl rfl ?_
  refine w_goto C (q := 6) d4_19 (by decide) (by decide) ?_
  refine w_iloadN C (q := 7) d4_6 rfl rfl ?_
  refine w_iload C (q := 9) d4_7 rfl rfl ?_
  refine w_icge_f C (q := 12) d4_9 rfl (by decide) ?_
  refine w_aloadN C (q := 13) d4_12 rfl rfl rfl ?_
  refine w_iloadN C (q := 14) d4_13 rfl rfl ?_
  refine w_lloadN C (q := 15) d4_14 rfl rfl ?_
  refine w_lastore C (q := 16) A1 (by decide) (Nat.le_of_ble_eq_true rfl) d4_15 rfl g_a1 ?_
  intro h8 Wh8 A'
  replace A1 : Ars Z h8 a1 k1 .long [(.long x0), (.long x0), (.long x0), (.long x0), (.long x0), (.long x0), (.long x0), (.long x0), (.long (0 : Int64)), (.long (0 : Int64)), (.long (0 : Int64)), (.long (0 : Int64)), (.long (0 : Int64)), (.long (0 : Int64)), (.long (0 : Int64)), (.long (0 : Int64))] := A'
  skip
  replace Z0 := Nat.le_trans Z0 (Nat.le_of_eq (Wr.size Wh8).symm)
  replace K := K.wr Wh8 (Or.inl (List.mem_of_getElem? (i := 0) rfl))
  refine w_iinc C (q := 19) (1 : Int32) #[.val (.ref a1), .val (.long x0), .second, .val (.int (8 : Int32)), .val (.int (16 : Int32))] d4_16 rfl (by decide) rfl rfl ?_
  refine w_goto C (q := 6) d4_19 (by decide) (by decide) ?_
  refine w_iloadN C (q := 7) d4_6 rfl rfl ?_
  refine w_iload C (q := 9) d4_7 rfl rfl ?_
  refine w_icge_f C (q := 12) d4_9 rfl (by decide) ?_
  refine w_aloadN C (q := 13) d4_12 rfl rfl rfl ?_
  refine w_iloadN C (q := 14) d4_13 rfl rfl ?_
  refine w_lloadN C (q := 15) d4_14 rfl rfl ?_
  refine w_lastore C (q := 16) A1 (by decide) (Nat.le_of_ble_eq_true rfl) d4_15 rfl g_a1 ?_
  intro h9 Wh9 A'
  replace A1 : Ars Z h9 a1 k1 .long [(.long x0), (.long x0), (.long x0), (.long x0), (.long x0), (.long x0), (.long x0), (.long x0), (.long x0), (.long (0 : Int64)), (.long (0 : Int64)), (.long (0 : Int64)), (.long (0 : Int64)), (.long (0 : Int64)), (.long (0 : Int64)), (.long (0 : Int64))] := A'
  skip
  replace Z0 := Nat.le_trans Z0 (Nat.le_of_eq (Wr.size Wh9).symm)
  replace K := K.wr Wh9 (Or.inl (List.mem_of_getElem? (i := 0) rfl))
  refine w_iinc C (q := 19) (1 : Int32) #[.val (.ref a1), .val (.long x0), .second, .val (.int (9 : Int32)), .val (.int (16 : Int32))] d4_16 rfl (by decide) rfl rfl ?_
  refine w_goto C (q := 6) d4_19 (by decide) (by decide) ?_
  refine w_iloadN C (q := 7) d4_6 rfl rfl ?_
  refine w_iload C (q := 9) d4_7 rfl rfl ?_
  refine w_icge_f C (q := 12) d4_9 rfl (by decide) ?_
  refine w_aloadN C (q := 13) d4_12 rfl rfl rfl ?_
  refine w_iloadN C (q := 14) d4_13 rfl rfl ?_
  refine w_lloadN C (q := 15) d4_14 rfl rfl ?_
  refine w_lastore C (q := 16) A1 (by decide) (Nat.le_of_ble_eq_true rfl) d4_15 rfl g_a1 ?_
  intro h10 Wh10 A'
  replace A1 : Ars Z h10 a1 k1 .long [(.long x0), (.long x0), (.long x0), (.long x0), (.long x0), (.long x0), (.long x0), (.long x0), (.long x0), (.long x0), (.long (0 : Int64)), (.long (0 : Int64)), (.long (0 : Int64)), (.long (0 : Int64)), (.long (0 : Int64)), (.long (0 : Int64))] := A'
  skip
  replace Z0 := Nat.le_trans Z0 (Nat.le_of_eq (Wr.size Wh10).symm)
  replace K := K.wr Wh10 (Or.inl (List.mem_of_getElem? (i := 0) rfl))
  refine w_iinc C (q := 19) (1 : Int32) #[.val (.ref a1), .val (.long x0), .second, .val (.int (10 : Int32)), .val (.int (16 : Int32))] d4_16 rfl (by decide) rfl rfl ?_
  refine w_goto C (q := 6) d4_19 (by decide) (by decide) ?_
  refine w_iloadN C (q := 7) d4_6 rfl rfl ?_
  refine w_iload C (q := 9) d4_7 rfl rfl ?_
  refine w_icge_f C (q := 12) d4_9 rfl (by decide) ?_
  refine w_aloadN C (q := 13) d4_12 rfl rfl rfl ?_
  refine w_iloadN C (q := 14) d4_13 rfl rfl ?_
  refine w_lloadN C (q := 15) d4_14 rfl rfl ?_
  refine w_lastore C (q := 16) A1 (by decide) (Nat.le_of_ble_eq_true rfl) d4_15 rfl g_a1 ?_
  intro h11 Wh11 A'
  replace A1 : Ars Z h11 a1 k1 .long [(.long x0), (.long x0), (.long x0), (.long x0), (.long x0), (.long x0), (.long x0), (.long x0), (.long x0), (.long x0), (.long x0), (.long (0 : Int64)), (.long (0 : Int64)), (.long (0 : Int64)), (.long (0 : Int64)), (.long (0 : Int64))] := A'
  skip
  replace Z0 := Nat.le_trans Z0 (Nat.le_of_eq (Wr.size Wh11).symm)
  replace K := K.wr Wh11 (Or.inl (List.mem_of_getElem? (i := 0) rfl))
  refine w_iinc C (q := 19) (1 : Int32) #[.val (.ref a1), .val (.long x0), .second, .val (.int (11 : Int32)), .val (.int (16 : Int32))] d4_16 rfl (by decide) rfl rfl ?_
  refine w_goto C (q := 6) d4_19 (by decide) (by decide) ?_
  refine w_iloadN C (q := 7) d4_6 rfl rfl ?_
  refine w_iload C (q := 9) d4_7 rfl rfl ?_
  refine w_icge_f C (q := 12) d4_9 rfl (by decide) ?_
  refine w_aloadN C (q := 13) d4_12 rfl rfl rfl ?_
  refine w_iloadN C (q := 14) d4_13 rfl rfl ?_
  refine w_lloadN C (q := 15) d4_14 rfl rfl ?_
  refine w_lastore C (q := 16) A1 (by decide) (Nat.le_of_ble_eq_true rfl) d4_15 rfl g_a1 ?_
  intro h12 Wh12 A'
  replace A1 : Ars Z h12 a1 k1 .long [(.long x0), (.long x0), (.long x0), (.long x0), (.long x0), (.long x0), (.long x0), (.long x0), (.long x0), (.long x0), (.long x0), (.long x0), (.long (0 : Int64)), (.long (0 : Int64)), (.long (0 : Int64)), (.long (0 : Int64))] := A'
  skip
  replace Z0 := Nat.le_trans Z0 (Nat.le_of_eq (Wr.size Wh12).symm)
  replace K := K.wr Wh12 (Or.inl (List.mem_of_getElem? (i := 0) rfl))
  refine w_iinc C (q := 19) (1 : Int32) #[.val (.ref a1), .val (.long x0), .second, .val (.int (12 : Int32)), .val (.int (16 : Int32))] d4_16 rfl (by decide) rfl rfl ?_
  refine w_goto C (q := 6) d4_19 (by decide) (by decide) ?_
  refine w_iloadN C (q := 7) d4_6 rfl rfl ?_
  refine w_iload C (q := 9) d4_7 rfl rfl ?_
  refine w_icge_f C (q := 12) d4_9 rfl (by decide) ?_
  refine w_aloadN C (q := 13) d4_12 rfl rfl rfl ?_
  refine w_iloadN C (q := 14) d4_13 rfl rfl ?_
  refine w_lloadN C (q := 15) d4_14 rfl rfl ?_
  refine w_lastore C (q := 16) A1 (by decide) (Nat.le_of_ble_eq_true rfl) d4_15 rfl g_a1 ?_
  intro h13 Wh13 A'
  replace A1 : Ars Z h13 a1 k1 .long [(.long x0), (.long x0), (.long x0), (.long x0), (.long x0), (.long x0), (.long x0), (.long x0), (.long x0), (.long x0), (.long x0), (.long x0), (.long x0), (.long (0 : Int64)), (.long (0 : Int64)), (.long (0 : Int64))] := A'
  skip
  replace Z0 := Nat.le_trans Z0 (Nat.le_of_eq (Wr.size Wh13).symm)
  replace K := K.wr Wh13 (Or.inl (List.mem_of_getElem? (i := 0) rfl))
  refine w_iinc C (q := 19) (1 : Int32) #[.val (.ref a1), .val (.long x0), .second, .val (.int (13 : Int32)), .val (.int (16 : Int32))] d4_16 rfl (by decide) rfl rfl ?_
  refine w_goto C (q := 6) d4_19 (by decide) (by decide) ?_
  refine w_iloadN C (q := 7) d4_6 rfl rfl ?_
  refine w_iload C (q := 9) d4_7 rfl rfl ?_
  refine w_icge_f C (q := 12) d4_9 rfl (by decide) ?_
  refine w_aloadN C (q := 13) d4_12 rfl rfl rfl ?_
  refine w_iloadN C (q := 14) d4_13 rfl rfl ?_
  refine w_lloadN C (q := 15) d4_14 rfl rfl ?_
  refine w_lastore C (q := 16) A1 (by decide) (Nat.le_of_ble_eq_true rfl) d4_15 rfl g_a1 ?_
  intro h14 Wh14 A'
  replace A1 : Ars Z h14 a1 k1 .long [(.long x0), (.long x0), (.long x0), (.long x0), (.long x0), (.long x0), (.long x0), (.long x0), (.long x0), (.long x0), (.long x0), (.long x0), (.long x0), (.long x0), (.long (0 : Int64)), (.long (0 : Int64))] := A'
  skip
  replace Z0 := Nat.le_trans Z0 (Nat.le_of_eq (Wr.size Wh14).symm)
  replace K := K.wr Wh14 (Or.inl (List.mem_of_getElem? (i := 0) rfl))
  refine w_iinc C (q := 19) (1 : Int32) #[.val (.ref a1), .val (.long x0), .second, .val (.int (14 : Int32)), .val (.int (16 : Int32))] d4_16 rfl (by decide) rfl rfl ?_
  refine w_goto C (q := 6) d4_19 (by decide) (by decide) ?_
  refine w_iloadN C (q := 7) d4_6 rfl rfl ?_
  refine w_iload C (q := 9) d4_7 rfl rfl ?_
  refine w_icge_f C (q := 12) d4_9 rfl (by decide) ?_
  refine w_aloadN C (q := 13) d4_12 rfl rfl rfl ?_
  refine w_iloadN C (q := 14) d4_13 rfl rfl ?_
  refine w_lloadN C (q := 15) d4_14 rfl rfl ?_
  refine w_lastore C (q := 16) A1 (by decide) (Nat.le_of_ble_eq_true rfl) d4_15 rfl g_a1 ?_
  intro h15 Wh15 A'
  replace A1 : Ars Z h15 a1 k1 .long [(.long x0), (.long x0), (.long x0), (.long x0), (.long x0), (.long x0), (.long x0), (.long x0), (.long x0), (.long x0), (.long x0), (.long x0), (.long x0), (.long x0), (.long x0), (.long (0 : Int64))] := A'
  skip
  replace Z0 := Nat.le_trans Z0 (Nat.le_of_eq (Wr.size Wh15).symm)
  replace K := K.wr Wh15 (Or.inl (List.mem_of_getElem? (i := 0) rfl))
  refine w_iinc C (q := 19) (1 : Int32) #[.val (.ref a1), .val (.long x0), .second, .val (.int (15 : Int32)), .val (.int (16 : Int32))] d4_16 rfl (by decide) rfl rfl ?_
  refine w_goto C (q := 6) d4_19 (by decide) (by decide) ?_
  refine w_iloadN C (q := 7) d4_6 rfl rfl ?_
  refine w_iload C (q := 9) d4_7 rfl rfl ?_
  refine w_icge_f C (q := 12) d4_9 rfl (by decide) ?_
  refine w_aloadN C (q := 13) d4_12 rfl rfl rfl ?_
  refine w_iloadN C (q := 14) d4_13 rfl rfl ?_
  refine w_lloadN C (q := 15) d4_14 rfl rfl ?_
  refine w_lastore C (q := 16) A1 (by decide) (Nat.le_of_ble_eq_true rfl) d4_15 rfl g_a1 ?_
  intro h16 Wh16 A'
  replace A1 : Ars Z h16 a1 k1 .long [(.long x0), (.long x0), (.long x0), (.long x0), (.long x0), (.long x0), (.long x0), (.long x0), (.long x0), (.long x0), (.long x0), (.long x0), (.long x0), (.long x0), (.long x0), (.long x0)] := A'
  skip
  replace Z0 := Nat.le_trans Z0 (Nat.le_of_eq (Wr.size Wh16).symm)
  replace K := K.wr Wh16 (Or.inl (List.mem_of_getElem? (i := 0) rfl))
  refine w_iinc C (q := 19) (1 : Int32) #[.val (.ref a1), .val (.long x0), .second, .val (.int (16 : Int32)), .val (.int (16 : Int32))] d4_16 rfl (by decide) rfl rfl ?_
  refine w_goto C (q := 6) d4_19 (by decide) (by decide) ?_
  refine w_iloadN C (q := 7) d4_6 rfl rfl ?_
  refine w_iload C (q := 9) d4_7 rfl rfl ?_
  refine w_icge_t C (q := 22) d4_9 (by decide) (by decide) (by decide) ?_
  exact w_ret0 C d4_22 (by decide) (by decide) ⟨rfl, K, A1⟩
theorem ef_Free (m : MethodId)  : entryFrame m #[(.int (16 : Int32))] 2 = mkF m 0 #[.val (.int (16 : Int32)), .unset] [] := by first | (simp [entryFrame, mkF, argsToLocals, Value.category]; done) | rfl
set_option maxRecDepth 65536 in
set_option maxHeartbeats 40000000 in
theorem rmFree (l : Launch) (Z : State) (a0 : Array Value) (hw : ∀ d ∈ tables_1, d.before a0 Z = true)  (h0 : Heap) (n0 : Nat) (Z0 : n0 ≤ h0.size) :
    Met1 l Z ⟨"com/example/logic_to_machines/logictomachines/PairSearch", "freeSlots", "(I)[J"⟩ prog_32_method_10_code 2 (some (.array .long)) ({ frames := 1, cells := 1, slots := 16, locals := 18 } : Room) #[(.int (16 : Int32))] h0 n0 (fun v h => ∃ (b : Nat) (k : ClassId), v = some (.ref b) ∧ h0.size ≤ b ∧ Keep h0 h [] ∧ Ars Z h b k .long [(.long (-1 : Int64)), (.long (-1 : Int64)), (.long (-1 : Int64)), (.long (-1 : Int64)), (.long (-1 : Int64)), (.long (-1 : Int64)), (.long (-1 : Int64)), (.long (-1 : Int64)), (.long (-1 : Int64)), (.long (-1 : Int64)), (.long (-1 : Int64)), (.long (-1 : Int64)), (.long (-1 : Int64)), (.long (-1 : Int64)), (.long (-1 : Int64)), (.long (-1 : Int64))]) := by
  refine Met1.of_body pn_3 (fun p e s m below meth c C => ?_)
  replace C : Cx p s m meth c Z "com/example/logic_to_machines/logictomachines/PairSearch" "freeSlots" prog_32_method_10_code 2 (some (.array .long)) := C
  refine Wk.cast (ef_Free m ) ?_
  have K : Keep h0 h0 [] := Keep.refl _ _
  refine w_iloadN C (q := 1) d3_0 rfl rfl ?_
  refine w_newP C (q := 3) (hw _ (List.mem_of_getElem? (i := 13) rfl)) d3_1 rfl (by decide) 16 (by decide) (by decide) (by decide) (by decide) ?_
  intro h17 b k_b eq_b Ehh17 A_b
  replace A_b : Ars Z h17 b k_b .long [(.long (0 : Int64)), (.long (0 : Int64)), (.long (0 : Int64)), (.long (0 : Int64)), (.long (0 : Int64)), (.long (0 : Int64)), (.long (0 : Int64)), (.long (0 : Int64)), (.long (0 : Int64)), (.long (0 : Int64)), (.long (0 : Int64)), (.long (0 : Int64)), (.long (0 : Int64)), (.long (0 : Int64)), (.long (0 : Int64)), (.long (0 : Int64))] := A_b
  have g_b : n0 ≤ b := Nat.le_trans Z0 (Nat.le_of_eq eq_b.symm)
  have sz_b : h0.size ≤ b := Nat.le_trans K.1 (Nat.le_of_eq eq_b.symm)
  replace Z0 := Nat.le_trans Z0 Ehh17.1
  replace K := K.ext Ehh17
  refine w_astoreN C (q := 4) #[.val (.int (16 : Int32)), .val (.ref b)] d3_3 rfl rfl rfl ?_
  refine w_aloadN C (q := 5) d3_4 rfl rfl rfl ?_
  refine w_ldc2J C (q := 8) (hw _ (List.mem_of_getElem? (i := 14) rfl)) d3_5 rfl ?_
  refine w_static C (q := 11) (y := ⟨"java/util/Arrays", "fill", "([JJ)V"⟩) (rm := ({ frames := 0, cells := 0, slots := 0, locals := 0 } : Room)) (argsL := [(.ref b), (.long (-1 : Int64))]) (hw _ (List.mem_of_getElem? (i := 15) rfl)) (hw _ (List.mem_of_getElem? (i := 16) rfl)) (hw _ (List.mem_of_getElem? (i := 17) rfl)) (hw _ (List.mem_of_getElem? (i := 18) rfl)) (rmFill l Z a0 hw b (-1 : Int64) _ n0 Z0 k_b A_b g_b) (by decide) (rest := []) (lenOf pd_0 rfl) rfl d3_8 rfl rfl (by decide) (Nat.le_of_ble_eq_true rfl) (by decide) (by decide) ?_
  intro v h18 hQ
  obtain ⟨rfl, K1, A_c⟩ := hQ
  replace K := K.trans K1 (allS (Or.inr sz_b) all0)
  replace Z0 := Nat.le_trans Z0 K1.1
  refine Wk.v0 ?_
  refine w_aloadN C (q := 12) d3_11 rfl rfl rfl ?_
  exact w_retA C rfl rfl d3_12 (by decide) (by decide) ⟨b, k_b, rfl, sz_b, K, A_c⟩
theorem ef_LI (m : MethodId) (a1 : Nat) : entryFrame m #[(.ref a1)] 1 = mkF m 0 #[.val (.ref a1)] [] := by first | (simp [entryFrame, mkF, argsToLocals, Value.category]; done) | rfl
set_option maxRecDepth 65536 in
set_option maxHeartbeats 40000000 in
theorem rmLI (l : Launch) (Z : State) (a0 : Array Value) (hw : ∀ d ∈ tables_1, d.before a0 Z = true) (a1 : Nat) (h0 : Heap) (n0 : Nat) (Z0 : n0 ≤ h0.size) (E_a1 : Exa Z h0 a1 "com/example/logic_to_machines/logictomachines/IntList") (F1 : Fld Z h0 a1 "com/example/logic_to_machines/logictomachines/IntList" "values" "[I" .null) (F2 : Fld Z h0 a1 "com/example/logic_to_machines/logictomachines/IntList" "size" "I" (.int (0 : Int32))) (g_a1 : n0 ≤ a1) :
    Met1 l Z ⟨"com/example/logic_to_machines/logictomachines/IntList", "<init>", "()V"⟩ prog_20_method_1_code 1 none ({ frames := 1, cells := 1, slots := 16, locals := 12 } : Room) #[(.ref a1)] h0 n0 (fun v h => v = none ∧ Keep h0 h [a1] ∧ ∃ (b : Nat) (k : ClassId), h0.size ≤ b ∧ IL Z h a1 b k [(.int (0 : Int32)), (.int (0 : Int32)), (.int (0 : Int32)), (.int (0 : Int32)), (.int (0 : Int32)), (.int (0 : Int32)), (.int (0 : Int32)), (.int (0 : Int32)), (.int (0 : Int32)), (.int (0 : Int32)), (.int (0 : Int32)), (.int (0 : Int32)), (.int (0 : Int32)), (.int (0 : Int32)), (.int (0 : Int32)), (.int (0 : Int32))] (0 : Int32)) := by
  refine Met1.of_body pn_5 (fun p e s m below meth c C => ?_)
  replace C : Cx p s m meth c Z "com/example/logic_to_machines/logictomachines/IntList" "<init>" prog_20_method_1_code 1 none := C
  refine Wk.cast (ef_LI m a1) ?_
  have K : Keep h0 h0 [a1] := Keep.refl _ _
  refine w_aloadN C (q := 1) d5_0 rfl rfl rfl ?_
  refine w_initO C (q := 4) (hw _ (List.mem_of_getElem? (i := 27) rfl)) (hw _ (List.mem_of_getElem? (i := 8) rfl)) (hw _ (List.mem_of_getElem? (i := 9) rfl)) d5_1 rfl rfl (by decide) (Nat.le_of_ble_eq_true rfl) ?_
  refine w_aloadN C (q := 5) d5_4 rfl rfl rfl ?_
  refine w_bipush C (q := 7) (16 : Int32) d5_5 rfl (by decide) ?_
  refine w_newP C (q := 9) (hw _ (List.mem_of_getElem? (i := 0) rfl)) d5_7 rfl (by decide) 16 (by decide) (by decide) (by decide) (by decide) ?_
  intro h19 b k_b eq_b Ehh19 A_b
  replace A_b : Ars Z h19 b k_b .int [(.int (0 : Int32)), (.int (0 : Int32)), (.int (0 : Int32)), (.int (0 : Int32)), (.int (0 : Int32)), (.int (0 : Int32)), (.int (0 : Int32)), (.int (0 : Int32)), (.int (0 : Int32)), (.int (0 : Int32)), (.int (0 : Int32)), (.int (0 : Int32)), (.int (0 : Int32)), (.int (0 : Int32)), (.int (0 : Int32)), (.int (0 : Int32))] := A_b
  have lt_a1_b : (a1 : Nat) < (b : Nat) := Nat.lt_of_lt_of_le E_a1.lt (Nat.le_of_eq eq_b.symm)
  have g_b : n0 ≤ b := Nat.le_trans Z0 (Nat.le_of_eq eq_b.symm)
  have sz_b : h0.size ≤ b := Nat.le_trans K.1 (Nat.le_of_eq eq_b.symm)
  replace Z0 := Nat.le_trans Z0 Ehh19.1
  replace E_a1 := E_a1.ext Ehh19
  replace F1 := F1.ext Ehh19
  replace F2 := F2.ext Ehh19
  replace K := K.ext Ehh19
  refine w_putF C (q := 12) (host := "") (Or.inl (hw _ (List.mem_of_getElem? (i := 28) rfl))) Via.refl F1 E_a1 (Or.inl (hw _ (List.mem_of_getElem? (i := 29) rfl))) (hw _ (List.mem_of_getElem? (i := 22) rfl)) (ty := (.array .int)) (by decide) rfl rfl d5_9 rfl g_a1 ?_
  intro h20 Wh20
  replace E_a1 := E_a1.wr Wh20
  replace F1 := F1.same Wh20
  replace F2 := F2.other Wh20 (Or.inr (slot_ne (Or.inl (hw _ (List.mem_of_getElem? (i := 56) rfl))) (Or.inl (hw _ (List.mem_of_getElem? (i := 29) rfl))) (by decide) (t := .int) (t' := (.array .int)) (by decide) (by decide)))
  replace A_b := A_b.other Wh20 (Ne.symm (Nat.ne_of_lt lt_a1_b))
  replace Z0 := Nat.le_trans Z0 (Nat.le_of_eq (Wr.size Wh20).symm)
  replace K := K.wr Wh20 (Or.inl (List.mem_of_getElem? (i := 0) rfl))
  exact w_ret0 C d5_12 (by decide) (by decide) ⟨rfl, K, b, k_b, sz_b, E_a1, F1, F2, A_b⟩
theorem ef_I (m : MethodId) (a1 : Nat) : entryFrame m #[(.ref a1)] 1 = mkF m 0 #[.val (.ref a1)] [] := by first | (simp [entryFrame, mkF, argsToLocals, Value.category]; done) | rfl
set_option maxRecDepth 65536 in
set_option maxHeartbeats 40000000 in
theorem rmI (l : Launch) (Z : State) (a0 : Array Value) (hw : ∀ d ∈ tables_1, d.before a0 Z = true) (a1 : Nat) (h0 : Heap) (n0 : Nat) (Z0 : n0 ≤ h0.size) (E_a1 : Exa Z h0 a1 "com/example/logic_to_machines/logictomachines/PairSearch") (g_a1 : n0 ≤ a1) (F_met : Fld Z h0 a1 "com/example/logic_to_machines/logictomachines/PairSearch" "met" "[J" .null) (F_firsts : Fld Z h0 a1 "com/example/logic_to_machines/logictomachines/PairSearch" "firsts" "Lcom/example/logic_to_machines/logictomachines/IntList;" .null) (F_seconds : Fld Z h0 a1 "com/example/logic_to_machines/logictomachines/PairSearch" "seconds" "Lcom/example/logic_to_machines/logictomachines/IntList;" .null) (F_parents : Fld Z h0 a1 "com/example/logic_to_machines/logictomachines/PairSearch" "parents" "Lcom/example/logic_to_machines/logictomachines/IntList;" .null) (F_inputs : Fld Z h0 a1 "com/example/logic_to_machines/logictomachines/PairSearch" "inputs" "Lcom/example/logic_to_machines/logictomachines/IntList;" .null) :
    Met1 l Z ⟨"com/example/logic_to_machines/logictomachines/PairSearch", "<init>", "()V"⟩ prog_32_method_1_code 1 none ({ frames := 2, cells := 9, slots := 88, locals := 50 } : Room) #[(.ref a1)] h0 n0 (fun v h => v = none ∧ Keep h0 h [a1] ∧ ∃ (m l1 b1 l2 b2 l3 b3 l4 b4 : Nat) (km k1 k2 k3 k4 : ClassId), PS Z h a1 m l1 b1 l2 b2 l3 b3 l4 b4 km k1 k2 k3 k4 [(.long (-1 : Int64)), (.long (-1 : Int64)), (.long (-1 : Int64)), (.long (-1 : Int64)), (.long (-1 : Int64)), (.long (-1 : Int64)), (.long (-1 : Int64)), (.long (-1 : Int64)), (.long (-1 : Int64)), (.long (-1 : Int64)), (.long (-1 : Int64)), (.long (-1 : Int64)), (.long (-1 : Int64)), (.long (-1 : Int64)), (.long (-1 : Int64)), (.long (-1 : Int64))] [(.int (0 : Int32)), (.int (0 : Int32)), (.int (0 : Int32)), (.int (0 : Int32)), (.int (0 : Int32)), (.int (0 : Int32)), (.int (0 : Int32)), (.int (0 : Int32)), (.int (0 : Int32)), (.int (0 : Int32)), (.int (0 : Int32)), (.int (0 : Int32)), (.int (0 : Int32)), (.int (0 : Int32)), (.int (0 : Int32)), (.int (0 : Int32))] [(.int (0 : Int32)), (.int (0 : Int32)), (.int (0 : Int32)), (.int (0 : Int32)), (.int (0 : Int32)), (.int (0 : Int32)), (.int (0 : Int32)), (.int (0 : Int32)), (.int (0 : Int32)), (.int (0 : Int32)), (.int (0 : Int32)), (.int (0 : Int32)), (.int (0 : Int32)), (.int (0 : Int32)), (.int (0 : Int32)), (.int (0 : Int32))] [(.int (0 : Int32)), (.int (0 : Int32)), (.int (0 : Int32)), (.int (0 : Int32)), (.int (0 : Int32)), (.int (0 : Int32)), (.int (0 : Int32)), (.int (0 : Int32)), (.int (0 : Int32)), (.int (0 : Int32)), (.int (0 : Int32)), (.int (0 : Int32)), (.int (0 : Int32)), (.int (0 : Int32)), (.int (0 : Int32)), (.int (0 : Int32))] [(.int (0 : Int32)), (.int (0 : Int32)), (.int (0 : Int32)), (.int (0 : Int32)), (.int (0 : Int32)), (.int (0 : Int32)), (.int (0 : Int32)), (.int (0 : Int32)), (.int (0 : Int32)), (.int (0 : Int32)), (.int (0 : Int32)), (.int (0 : Int32)), (.int (0 : Int32)), (.int (0 : Int32)), (.int (0 : Int32)), (.int (0 : Int32))] (0 : Int32)) := by
  refine Met1.of_body pn_1 (fun p e s m below meth c C => ?_)
  replace C : Cx p s m meth c Z "com/example/logic_to_machines/logictomachines/PairSearch" "<init>" prog_32_method_1_code 1 none := C
  refine Wk.cast (ef_I m a1) ?_
  have K : Keep h0 h0 [a1] := Keep.refl _ _
  refine w_aloadN C (q := 1) d1_0 rfl rfl rfl ?_
  refine w_initO C (q := 4) (hw _ (List.mem_of_getElem? (i := 7) rfl)) (hw _ (List.mem_of_getElem? (i := 8) rfl)) (hw _ (List.mem_of_getElem? (i := 9) rfl)) d1_1 rfl rfl (by decide) (Nat.le_of_ble_eq_true rfl) ?_
  refine w_aloadN C (q := 5) d1_4 rfl rfl rfl ?_
  refine w_bipush C (q := 7) (16 : Int32) d1_5 rfl (by decide) ?_
  refine w_static C (q := 10) (y := ⟨"com/example/logic_to_machines/logictomachines/PairSearch", "freeSlots", "(I)[J"⟩) (rm := ({ frames := 1, cells := 1, slots := 16, locals := 18 } : Room)) (argsL := [(.int (16 : Int32))]) (hw _ (List.mem_of_getElem? (i := 10) rfl)) (hw _ (List.mem_of_getElem? (i := 11) rfl)) (hw _ (List.mem_of_getElem? (i := 3) rfl)) (hw _ (List.mem_of_getElem? (i := 12) rfl)) (rmFree l Z a0 hw _ n0 Z0) (by decide) (rest := [(.ref a1)]) (lenOf pd_1 rfl) rfl d1_7 rfl rfl (by decide) (Nat.le_of_ble_eq_true rfl) (by decide) (by decide) ?_
  intro v h21 hQ
  obtain ⟨m1, km, rfl, hm, K1, A_m⟩ := hQ
  have o1 : (a1 : Nat) < (m1 : Nat) := Nat.lt_of_lt_of_le E_a1.lt hm
  replace E_a1 := E_a1.keep K1
  replace F_met := F_met.keep K1 nin0
  replace F_firsts := F_firsts.keep K1 nin0
  replace F_seconds := F_seconds.keep K1 nin0
  replace F_parents := F_parents.keep K1 nin0
  replace F_inputs := F_inputs.keep K1 nin0
  replace K := K.trans K1 all0
  replace Z0 := Nat.le_trans Z0 K1.1
  refine Wk.v1 ?_
  refine w_putF C (q := 13) (host := "") (Or.inl (hw _ (List.mem_of_getElem? (i := 19) rfl))) Via.refl F_met E_a1 (Or.inl (hw _ (List.mem_of_getElem? (i := 20) rfl))) (hw _ (List.mem_of_getElem? (i := 2) rfl)) (ty := (.array .long)) (by decide) rfl rfl d1_10 rfl g_a1 ?_
  intro h22 Wh22
  replace E_a1 := E_a1.wr Wh22
  replace F_met := F_met.same Wh22
  replace F_firsts := F_firsts.other Wh22 (Or.inr (slot_ne (Or.inr (hw _ (List.mem_of_getElem? (i := 31) rfl))) (Or.inl (hw _ (List.mem_of_getElem? (i := 20) rfl))) (by decide) (t := (.object "com/example/logic_to_machines/logictomachines/IntList")) (t' := (.array .long)) (by decide) (by decide)))
  replace F_seconds := F_seconds.other Wh22 (Or.inr (slot_ne (Or.inr (hw _ (List.mem_of_getElem? (i := 33) rfl))) (Or.inl (hw _ (List.mem_of_getElem? (i := 20) rfl))) (by decide) (t := (.object "com/example/logic_to_machines/logictomachines/IntList")) (t' := (.array .long)) (by decide) (by decide)))
  replace F_parents := F_parents.other Wh22 (Or.inr (slot_ne (Or.inr (hw _ (List.mem_of_getElem? (i := 35) rfl))) (Or.inl (hw _ (List.mem_of_getElem? (i := 20) rfl))) (by decide) (t := (.object "com/example/logic_to_machines/logictomachines/IntList")) (t' := (.array .long)) (by decide) (by decide)))
  replace F_inputs := F_inputs.other Wh22 (Or.inr (slot_ne (Or.inr (hw _ (List.mem_of_getElem? (i := 37) rfl))) (Or.inl (hw _ (List.mem_of_getElem? (i := 20) rfl))) (by decide) (t := (.object "com/example/logic_to_machines/logictomachines/IntList")) (t' := (.array .long)) (by decide) (by decide)))
  replace A_m := A_m.other Wh22 (Nat.ne_of_gt (show (a1 : Nat) < (m1 : Nat) by omega))
  replace Z0 := Nat.le_trans Z0 (Nat.le_of_eq (Wr.size Wh22).symm)
  replace K := K.wr Wh22 (Or.inl (List.mem_of_getElem? (i := 0) rfl))
  refine w_aloadN C (q := 14) d1_13 rfl rfl rfl ?_
  refine w_newO C (q := 17) (hw _ (List.mem_of_getElem? (i := 21) rfl)) (hw _ (List.mem_of_getElem? (i := 22) rfl)) (hw _ (List.mem_of_getElem? (i := 23) rfl)) d1_14 rfl (by decide) (by decide) ?_
  intro h23 l1 eq_l1 Ehh23 E_l1 D_l1
  have q1 : (m1 : Nat) < (l1 : Nat) := Nat.lt_of_lt_of_le A_m.lt (Nat.le_of_eq eq_l1.symm)
  have lt_a1_l1 : (a1 : Nat) < (l1 : Nat) := Nat.lt_of_lt_of_le E_a1.lt (Nat.le_of_eq eq_l1.symm)
  have lt_m1_l1 : (m1 : Nat) < (l1 : Nat) := Nat.lt_of_lt_of_le A_m.lt (Nat.le_of_eq eq_l1.symm)
  have g_l1 : n0 ≤ l1 := Nat.le_trans Z0 (Nat.le_of_eq eq_l1.symm)
  have sz_l1 : h0.size ≤ l1 := Nat.le_trans K.1 (Nat.le_of_eq eq_l1.symm)
  replace Z0 := Nat.le_trans Z0 Ehh23.1
  replace E_a1 := E_a1.ext Ehh23
  replace F_met := F_met.ext Ehh23
  replace F_firsts := F_firsts.ext Ehh23
  replace F_seconds := F_seconds.ext Ehh23
  replace F_parents := F_parents.ext Ehh23
  replace F_inputs := F_inputs.ext Ehh23
  replace A_m := A_m.ext Ehh23
  replace K := K.ext Ehh23
  have F_l1_values : Fld Z h23 l1 "com/example/logic_to_machines/logictomachines/IntList" "values" "[I" .null := D_l1 (Or.inl (hw _ (List.mem_of_getElem? (i := 29) rfl))) (ty := (.array .int)) (by decide)
  have F_l1_size : Fld Z h23 l1 "com/example/logic_to_machines/logictomachines/IntList" "size" "I" (.int (0 : Int32)) := D_l1 (Or.inl (hw _ (List.mem_of_getElem? (i := 56) rfl))) (ty := .int) (by decide)
  clear D_l1
  have p1 : (m1 : Nat) < (l1 : Nat) := q1
  refine w_dup C (q := 18) d1_17 rfl rfl ?_
  refine w_special C (q := 21) (y := ⟨"com/example/logic_to_machines/logictomachines/IntList", "<init>", "()V"⟩) (rm := ({ frames := 1, cells := 1, slots := 16, locals := 12 } : Room)) (a := l1) (argsL := []) rfl (hw _ (List.mem_of_getElem? (i := 24) rfl)) (hw _ (List.mem_of_getElem? (i := 25) rfl)) (hw _ (List.mem_of_getElem? (i := 23) rfl)) (hw _ (List.mem_of_getElem? (i := 26) rfl)) (rmLI l Z a0 hw l1 _ n0 Z0 E_l1 F_l1_values F_l1_size g_l1) (by decide) (rest := [(.ref l1), (.ref a1)]) (lenOf pd_2 rfl) rfl d1_18 rfl rfl (by decide) (Nat.le_of_ble_eq_true rfl) (by decide) (by decide) ?_
  intro v h24 hQ
  obtain ⟨rfl, Kl1, b1, kb1, hb1, I1⟩ := hQ
  have r1 : (l1 : Nat) < (b1 : Nat) := Nat.lt_of_lt_of_le E_l1.lt hb1
  replace E_a1 := E_a1.keep Kl1
  replace F_met := F_met.keep Kl1 (ninS (Nat.ne_of_lt lt_a1_l1) nin0)
  replace F_firsts := F_firsts.keep Kl1 (ninS (Nat.ne_of_lt lt_a1_l1) nin0)
  replace F_seconds := F_seconds.keep Kl1 (ninS (Nat.ne_of_lt lt_a1_l1) nin0)
  replace F_parents := F_parents.keep Kl1 (ninS (Nat.ne_of_lt lt_a1_l1) nin0)
  replace F_inputs := F_inputs.keep Kl1 (ninS (Nat.ne_of_lt lt_a1_l1) nin0)
  replace A_m := A_m.keep Kl1 (ninS (Nat.ne_of_lt lt_m1_l1) nin0)
  replace E_l1 := E_l1.keep Kl1
  replace K := K.trans Kl1 (allS (Or.inr sz_l1) all0)
  replace Z0 := Nat.le_trans Z0 Kl1.1
  refine Wk.v0 ?_
  refine w_putF C (q := 24) (host := "") (Or.inl (hw _ (List.mem_of_getElem? (i := 30) rfl))) Via.refl F_firsts E_a1 (Or.inr ⟨(hw _ (List.mem_of_getElem? (i := 31) rfl)), rfl, rfl⟩) (hw _ (List.mem_of_getElem? (i := 2) rfl)) (ty := (.object "com/example/logic_to_machines/logictomachines/IntList")) (by decide) rfl rfl d1_21 rfl g_a1 ?_
  intro h25 Wh25
  replace E_a1 := E_a1.wr Wh25
  replace F_met := F_met.other Wh25 (Or.inr (slot_ne (Or.inl (hw _ (List.mem_of_getElem? (i := 20) rfl))) (Or.inr (hw _ (List.mem_of_getElem? (i := 31) rfl))) (by decide) (t := (.array .long)) (t' := (.object "com/example/logic_to_machines/logictomachines/IntList")) (by decide) (by decide)))
  replace F_firsts := F_firsts.same Wh25
  replace F_seconds := F_seconds.other Wh25 (Or.inr (slot_ne (Or.inr (hw _ (List.mem_of_getElem? (i := 33) rfl))) (Or.inr (hw _ (List.mem_of_getElem? (i := 31) rfl))) (by decide) (t := (.object "com/example/logic_to_machines/logictomachines/IntList")) (t' := (.object "com/example/logic_to_machines/logictomachines/IntList")) (by decide) (by decide)))
  replace F_parents := F_parents.other Wh25 (Or.inr (slot_ne (Or.inr (hw _ (List.mem_of_getElem? (i := 35) rfl))) (Or.inr (hw _ (List.mem_of_getElem? (i := 31) rfl))) (by decide) (t := (.object "com/example/logic_to_machines/logictomachines/IntList")) (t' := (.object "com/example/logic_to_machines/logictomachines/IntList")) (by decide) (by decide)))
  replace F_inputs := F_inputs.other Wh25 (Or.inr (slot_ne (Or.inr (hw _ (List.mem_of_getElem? (i := 37) rfl))) (Or.inr (hw _ (List.mem_of_getElem? (i := 31) rfl))) (by decide) (t := (.object "com/example/logic_to_machines/logictomachines/IntList")) (t' := (.object "com/example/logic_to_machines/logictomachines/IntList")) (by decide) (by decide)))
  replace A_m := A_m.other Wh25 (Nat.ne_of_gt (show (a1 : Nat) < (m1 : Nat) by omega))
  replace I1 := I1.wr Wh25 (Ne.symm (Nat.ne_of_lt lt_a1_l1)) (Nat.ne_of_gt (show (a1 : Nat) < (b1 : Nat) by omega))
  replace Z0 := Nat.le_trans Z0 (Nat.le_of_eq (Wr.size Wh25).symm)
  replace K := K.wr Wh25 (Or.inl (List.mem_of_getElem? (i := 0) rfl))
  refine w_aloadN C (q := 25) d1_24 rfl rfl rfl ?_
  refine w_newO C (q := 28) (hw _ (List.mem_of_getElem? (i := 21) rfl)) (hw _ (List.mem_of_getElem? (i := 22) rfl)) (hw _ (List.mem_of_getElem? (i := 23) rfl)) d1_25 rfl (by decide) (by decide) ?_
  intro h26 l2 eq_l2 Ehh26 E_l2 D_l2
  have q2 : (b1 : Nat) < (l2 : Nat) := Nat.lt_of_lt_of_le I1.2.2.2.lt (Nat.le_of_eq eq_l2.symm)
  have lt_a1_l2 : (a1 : Nat) < (l2 : Nat) := Nat.lt_of_lt_of_le E_a1.lt (Nat.le_of_eq eq_l2.symm)
  have lt_m1_l2 : (m1 : Nat) < (l2 : Nat) := Nat.lt_of_lt_of_le A_m.lt (Nat.le_of_eq eq_l2.symm)
  have lt_l1_l2 : (l1 : Nat) < (l2 : Nat) := Nat.lt_of_lt_of_le I1.1.lt (Nat.le_of_eq eq_l2.symm)
  have lt_b1_l2 : (b1 : Nat) < (l2 : Nat) := Nat.lt_of_lt_of_le I1.2.2.2.lt (Nat.le_of_eq eq_l2.symm)
  have g_l2 : n0 ≤ l2 := Nat.le_trans Z0 (Nat.le_of_eq eq_l2.symm)
  have sz_l2 : h0.size ≤ l2 := Nat.le_trans K.1 (Nat.le_of_eq eq_l2.symm)
  replace Z0 := Nat.le_trans Z0 Ehh26.1
  replace E_a1 := E_a1.ext Ehh26
  replace F_met := F_met.ext Ehh26
  replace F_firsts := F_firsts.ext Ehh26
  replace F_seconds := F_seconds.ext Ehh26
  replace F_parents := F_parents.ext Ehh26
  replace F_inputs := F_inputs.ext Ehh26
  replace A_m := A_m.ext Ehh26
  replace I1 := I1.ext Ehh26
  replace K := K.ext Ehh26
  have F_l2_values : Fld Z h26 l2 "com/example/logic_to_machines/logictomachines/IntList" "values" "[I" .null := D_l2 (Or.inl (hw _ (List.mem_of_getElem? (i := 29) rfl))) (ty := (.array .int)) (by decide)
  have F_l2_size : Fld Z h26 l2 "com/example/logic_to_machines/logictomachines/IntList" "size" "I" (.int (0 : Int32)) := D_l2 (Or.inl (hw _ (List.mem_of_getElem? (i := 56) rfl))) (ty := .int) (by decide)
  clear D_l2
  have p2 : (b1 : Nat) < (l2 : Nat) := q2
  refine w_dup C (q := 29) d1_28 rfl rfl ?_
  refine w_special C (q := 32) (y := ⟨"com/example/logic_to_machines/logictomachines/IntList", "<init>", "()V"⟩) (rm := ({ frames := 1, cells := 1, slots := 16, locals := 12 } : Room)) (a := l2) (argsL := []) rfl (hw _ (List.mem_of_getElem? (i := 24) rfl)) (hw _ (List.mem_of_getElem? (i := 25) rfl)) (hw _ (List.mem_of_getElem? (i := 23) rfl)) (hw _ (List.mem_of_getElem? (i := 26) rfl)) (rmLI l Z a0 hw l2 _ n0 Z0 E_l2 F_l2_values F_l2_size g_l2) (by decide) (rest := [(.ref l2), (.ref a1)]) (lenOf pd_2 rfl) rfl d1_29 rfl rfl (by decide) (Nat.le_of_ble_eq_true rfl) (by decide) (by decide) ?_
  intro v h27 hQ
  obtain ⟨rfl, Kl2, b2, kb2, hb2, I2⟩ := hQ
  have r2 : (l2 : Nat) < (b2 : Nat) := Nat.lt_of_lt_of_le E_l2.lt hb2
  replace E_a1 := E_a1.keep Kl2
  replace F_met := F_met.keep Kl2 (ninS (Nat.ne_of_lt lt_a1_l2) nin0)
  replace F_firsts := F_firsts.keep Kl2 (ninS (Nat.ne_of_lt lt_a1_l2) nin0)
  replace F_seconds := F_seconds.keep Kl2 (ninS (Nat.ne_of_lt lt_a1_l2) nin0)
  replace F_parents := F_parents.keep Kl2 (ninS (Nat.ne_of_lt lt_a1_l2) nin0)
  replace F_inputs := F_inputs.keep Kl2 (ninS (Nat.ne_of_lt lt_a1_l2) nin0)
  replace A_m := A_m.keep Kl2 (ninS (Nat.ne_of_lt lt_m1_l2) nin0)
  replace I1 := I1.keep Kl2 (ninS (Nat.ne_of_lt lt_l1_l2) nin0) (ninS (Nat.ne_of_lt lt_b1_l2) nin0)
  replace E_l2 := E_l2.keep Kl2
  replace K := K.trans Kl2 (allS (Or.inr sz_l2) all0)
  replace Z0 := Nat.le_trans Z0 Kl2.1
  refine Wk.v0 ?_
  refine w_putF C (q := 35) (host := "") (Or.inl (hw _ (List.mem_of_getElem? (i := 32) rfl))) Via.refl F_seconds E_a1 (Or.inr ⟨(hw _ (List.mem_of_getElem? (i := 33) rfl)), rfl, rfl⟩) (hw _ (List.mem_of_getElem? (i := 2) rfl)) (ty := (.object "com/example/logic_to_machines/logictomachines/IntList")) (by decide) rfl rfl d1_32 rfl g_a1 ?_
  intro h28 Wh28
  replace E_a1 := E_a1.wr Wh28
  replace F_met := F_met.other Wh28 (Or.inr (slot_ne (Or.inl (hw _ (List.mem_of_getElem? (i := 20) rfl))) (Or.inr (hw _ (List.mem_of_getElem? (i := 33) rfl))) (by decide) (t := (.array .long)) (t' := (.object "com/example/logic_to_machines/logictomachines/IntList")) (by decide) (by decide)))
  replace F_firsts := F_firsts.other Wh28 (Or.inr (slot_ne (Or.inr (hw _ (List.mem_of_getElem? (i := 31) rfl))) (Or.inr (hw _ (List.mem_of_getElem? (i := 33) rfl))) (by decide) (t := (.object "com/example/logic_to_machines/logictomachines/IntList")) (t' := (.object "com/example/logic_to_machines/logictomachines/IntList")) (by decide) (by decide)))
  replace F_seconds := F_seconds.same Wh28
  replace F_parents := F_parents.other Wh28 (Or.inr (slot_ne (Or.inr (hw _ (List.mem_of_getElem? (i := 35) rfl))) (Or.inr (hw _ (List.mem_of_getElem? (i := 33) rfl))) (by decide) (t := (.object "com/example/logic_to_machines/logictomachines/IntList")) (t' := (.object "com/example/logic_to_machines/logictomachines/IntList")) (by decide) (by decide)))
  replace F_inputs := F_inputs.other Wh28 (Or.inr (slot_ne (Or.inr (hw _ (List.mem_of_getElem? (i := 37) rfl))) (Or.inr (hw _ (List.mem_of_getElem? (i := 33) rfl))) (by decide) (t := (.object "com/example/logic_to_machines/logictomachines/IntList")) (t' := (.object "com/example/logic_to_machines/logictomachines/IntList")) (by decide) (by decide)))
  replace A_m := A_m.other Wh28 (Nat.ne_of_gt (show (a1 : Nat) < (m1 : Nat) by omega))
  replace I1 := I1.wr Wh28 (Ne.symm (Nat.ne_of_lt lt_a1_l1)) (Nat.ne_of_gt (show (a1 : Nat) < (b1 : Nat) by omega))
  replace I2 := I2.wr Wh28 (Ne.symm (Nat.ne_of_lt lt_a1_l2)) (Nat.ne_of_gt (show (a1 : Nat) < (b2 : Nat) by omega))
  replace Z0 := Nat.le_trans Z0 (Nat.le_of_eq (Wr.size Wh28).symm)
  replace K := K.wr Wh28 (Or.inl (List.mem_of_getElem? (i := 0) rfl))
  refine w_aloadN C (q := 36) d1_35 rfl rfl rfl ?_
  refine w_newO C (q := 39) (hw _ (List.mem_of_getElem? (i := 21) rfl)) (hw _ (List.mem_of_getElem? (i := 22) rfl)) (hw _ (List.mem_of_getElem? (i := 23) rfl)) d1_36 rfl (by decide) (by decide) ?_
  intro h29 l3 eq_l3 Ehh29 E_l3 D_l3
  have q3 : (b2 : Nat) < (l3 : Nat) := Nat.lt_of_lt_of_le I2.2.2.2.lt (Nat.le_of_eq eq_l3.symm)
  have lt_a1_l3 : (a1 : Nat) < (l3 : Nat) := Nat.lt_of_lt_of_le E_a1.lt (Nat.le_of_eq eq_l3.symm)
  have lt_m1_l3 : (m1 : Nat) < (l3 : Nat) := Nat.lt_of_lt_of_le A_m.lt (Nat.le_of_eq eq_l3.symm)
  have lt_l1_l3 : (l1 : Nat) < (l3 : Nat) := Nat.lt_of_lt_of_le I1.1.lt (Nat.le_of_eq eq_l3.symm)
  have lt_b1_l3 : (b1 : Nat) < (l3 : Nat) := Nat.lt_of_lt_of_le I1.2.2.2.lt (Nat.le_of_eq eq_l3.symm)
  have lt_l2_l3 : (l2 : Nat) < (l3 : Nat) := Nat.lt_of_lt_of_le I2.1.lt (Nat.le_of_eq eq_l3.symm)
  have lt_b2_l3 : (b2 : Nat) < (l3 : Nat) := Nat.lt_of_lt_of_le I2.2.2.2.lt (Nat.le_of_eq eq_l3.symm)
  have g_l3 : n0 ≤ l3 := Nat.le_trans Z0 (Nat.le_of_eq eq_l3.symm)
  have sz_l3 : h0.size ≤ l3 := Nat.le_trans K.1 (Nat.le_of_eq eq_l3.symm)
  replace Z0 := Nat.le_trans Z0 Ehh29.1
  replace E_a1 := E_a1.ext Ehh29
  replace F_met := F_met.ext Ehh29
  replace F_firsts := F_firsts.ext Ehh29
  replace F_seconds := F_seconds.ext Ehh29
  replace F_parents := F_parents.ext Ehh29
  replace F_inputs := F_inputs.ext Ehh29
  replace A_m := A_m.ext Ehh29
  replace I1 := I1.ext Ehh29
  replace I2 := I2.ext Ehh29
  replace K := K.ext Ehh29
  have F_l3_values : Fld Z h29 l3 "com/example/logic_to_machines/logictomachines/IntList" "values" "[I" .null := D_l3 (Or.inl (hw _ (List.mem_of_getElem? (i := 29) rfl))) (ty := (.array .int)) (by decide)
  have F_l3_size : Fld Z h29 l3 "com/example/logic_to_machines/logictomachines/IntList" "size" "I" (.int (0 : Int32)) := D_l3 (Or.inl (hw _ (List.mem_of_getElem? (i := 56) rfl))) (ty := .int) (by decide)
  clear D_l3
  have p3 : (b2 : Nat) < (l3 : Nat) := q3
  refine w_dup C (q := 40) d1_39 rfl rfl ?_
  refine w_special C (q := 43) (y := ⟨"com/example/logic_to_machines/logictomachines/IntList", "<init>", "()V"⟩) (rm := ({ frames := 1, cells := 1, slots := 16, locals := 12 } : Room)) (a := l3) (argsL := []) rfl (hw _ (List.mem_of_getElem? (i := 24) rfl)) (hw _ (List.mem_of_getElem? (i := 25) rfl)) (hw _ (List.mem_of_getElem? (i := 23) rfl)) (hw _ (List.mem_of_getElem? (i := 26) rfl)) (rmLI l Z a0 hw l3 _ n0 Z0 E_l3 F_l3_values F_l3_size g_l3) (by decide) (rest := [(.ref l3), (.ref a1)]) (lenOf pd_2 rfl) rfl d1_40 rfl rfl (by decide) (Nat.le_of_ble_eq_true rfl) (by decide) (by decide) ?_
  intro v h30 hQ
  obtain ⟨rfl, Kl3, b3, kb3, hb3, I3⟩ := hQ
  have r3 : (l3 : Nat) < (b3 : Nat) := Nat.lt_of_lt_of_le E_l3.lt hb3
  replace E_a1 := E_a1.keep Kl3
  replace F_met := F_met.keep Kl3 (ninS (Nat.ne_of_lt lt_a1_l3) nin0)
  replace F_firsts := F_firsts.keep Kl3 (ninS (Nat.ne_of_lt lt_a1_l3) nin0)
  replace F_seconds := F_seconds.keep Kl3 (ninS (Nat.ne_of_lt lt_a1_l3) nin0)
  replace F_parents := F_parents.keep Kl3 (ninS (Nat.ne_of_lt lt_a1_l3) nin0)
  replace F_inputs := F_inputs.keep Kl3 (ninS (Nat.ne_of_lt lt_a1_l3) nin0)
  replace A_m := A_m.keep Kl3 (ninS (Nat.ne_of_lt lt_m1_l3) nin0)
  replace I1 := I1.keep Kl3 (ninS (Nat.ne_of_lt lt_l1_l3) nin0) (ninS (Nat.ne_of_lt lt_b1_l3) nin0)
  replace I2 := I2.keep Kl3 (ninS (Nat.ne_of_lt lt_l2_l3) nin0) (ninS (Nat.ne_of_lt lt_b2_l3) nin0)
  replace E_l3 := E_l3.keep Kl3
  replace K := K.trans Kl3 (allS (Or.inr sz_l3) all0)
  replace Z0 := Nat.le_trans Z0 Kl3.1
  refine Wk.v0 ?_
  refine w_putF C (q := 46) (host := "") (Or.inl (hw _ (List.mem_of_getElem? (i := 34) rfl))) Via.refl F_parents E_a1 (Or.inr ⟨(hw _ (List.mem_of_getElem? (i := 35) rfl)), rfl, rfl⟩) (hw _ (List.mem_of_getElem? (i := 2) rfl)) (ty := (.object "com/example/logic_to_machines/logictomachines/IntList")) (by decide) rfl rfl d1_43 rfl g_a1 ?_
  intro h31 Wh31
  replace E_a1 := E_a1.wr Wh31
  replace F_met := F_met.other Wh31 (Or.inr (slot_ne (Or.inl (hw _ (List.mem_of_getElem? (i := 20) rfl))) (Or.inr (hw _ (List.mem_of_getElem? (i := 35) rfl))) (by decide) (t := (.array .long)) (t' := (.object "com/example/logic_to_machines/logictomachines/IntList")) (by decide) (by decide)))
  replace F_firsts := F_firsts.other Wh31 (Or.inr (slot_ne (Or.inr (hw _ (List.mem_of_getElem? (i := 31) rfl))) (Or.inr (hw _ (List.mem_of_getElem? (i := 35) rfl))) (by decide) (t := (.object "com/example/logic_to_machines/logictomachines/IntList")) (t' := (.object "com/example/logic_to_machines/logictomachines/IntList")) (by decide) (by decide)))
  replace F_seconds := F_seconds.other Wh31 (Or.inr (slot_ne (Or.inr (hw _ (List.mem_of_getElem? (i := 33) rfl))) (Or.inr (hw _ (List.mem_of_getElem? (i := 35) rfl))) (by decide) (t := (.object "com/example/logic_to_machines/logictomachines/IntList")) (t' := (.object "com/example/logic_to_machines/logictomachines/IntList")) (by decide) (by decide)))
  replace F_parents := F_parents.same Wh31
  replace F_inputs := F_inputs.other Wh31 (Or.inr (slot_ne (Or.inr (hw _ (List.mem_of_getElem? (i := 37) rfl))) (Or.inr (hw _ (List.mem_of_getElem? (i := 35) rfl))) (by decide) (t := (.object "com/example/logic_to_machines/logictomachines/IntList")) (t' := (.object "com/example/logic_to_machines/logictomachines/IntList")) (by decide) (by decide)))
  replace A_m := A_m.other Wh31 (Nat.ne_of_gt (show (a1 : Nat) < (m1 : Nat) by omega))
  replace I1 := I1.wr Wh31 (Ne.symm (Nat.ne_of_lt lt_a1_l1)) (Nat.ne_of_gt (show (a1 : Nat) < (b1 : Nat) by omega))
  replace I2 := I2.wr Wh31 (Ne.symm (Nat.ne_of_lt lt_a1_l2)) (Nat.ne_of_gt (show (a1 : Nat) < (b2 : Nat) by omega))
  replace I3 := I3.wr Wh31 (Ne.symm (Nat.ne_of_lt lt_a1_l3)) (Nat.ne_of_gt (show (a1 : Nat) < (b3 : Nat) by omega))
  replace Z0 := Nat.le_trans Z0 (Nat.le_of_eq (Wr.size Wh31).symm)
  replace K := K.wr Wh31 (Or.inl (List.mem_of_getElem? (i := 0) rfl))
  refine w_aloadN C (q := 47) d1_46 rfl rfl rfl ?_
  refine w_newO C (q := 50) (hw _ (List.mem_of_getElem? (i := 21) rfl)) (hw _ (List.mem_of_getElem? (i := 22) rfl)) (hw _ (List.mem_of_getElem? (i := 23) rfl)) d1_47 rfl (by decide) (by decide) ?_
  intro h32 l4 eq_l4 Ehh32 E_l4 D_l4
  have q4 : (b3 : Nat) < (l4 : Nat) := Nat.lt_of_lt_of_le I3.2.2.2.lt (Nat.le_of_eq eq_l4.symm)
  have lt_a1_l4 : (a1 : Nat) < (l4 : Nat) := Nat.lt_of_lt_of_le E_a1.lt (Nat.le_of_eq eq_l4.symm)
  have lt_m1_l4 : (m1 : Nat) < (l4 : Nat) := Nat.lt_of_lt_of_le A_m.lt (Nat.le_of_eq eq_l4.symm)
  have lt_l1_l4 : (l1 : Nat) < (l4 : Nat) := Nat.lt_of_lt_of_le I1.1.lt (Nat.le_of_eq eq_l4.symm)
  have lt_b1_l4 : (b1 : Nat) < (l4 : Nat) := Nat.lt_of_lt_of_le I1.2.2.2.lt (Nat.le_of_eq eq_l4.symm)
  have lt_l2_l4 : (l2 : Nat) < (l4 : Nat) := Nat.lt_of_lt_of_le I2.1.lt (Nat.le_of_eq eq_l4.symm)
  have lt_b2_l4 : (b2 : Nat) < (l4 : Nat) := Nat.lt_of_lt_of_le I2.2.2.2.lt (Nat.le_of_eq eq_l4.symm)
  have lt_l3_l4 : (l3 : Nat) < (l4 : Nat) := Nat.lt_of_lt_of_le I3.1.lt (Nat.le_of_eq eq_l4.symm)
  have lt_b3_l4 : (b3 : Nat) < (l4 : Nat) := Nat.lt_of_lt_of_le I3.2.2.2.lt (Nat.le_of_eq eq_l4.symm)
  have g_l4 : n0 ≤ l4 := Nat.le_trans Z0 (Nat.le_of_eq eq_l4.symm)
  have sz_l4 : h0.size ≤ l4 := Nat.le_trans K.1 (Nat.le_of_eq eq_l4.symm)
  replace Z0 := Nat.le_trans Z0 Ehh32.1
  replace E_a1 := E_a1.ext Ehh32
  replace F_met := F_met.ext Ehh32
  replace F_firsts := F_firsts.ext Ehh32
  replace F_seconds := F_seconds.ext Ehh32
  replace F_parents := F_parents.ext Ehh32
  replace F_inputs := F_inputs.ext Ehh32
  replace A_m := A_m.ext Ehh32
  replace I1 := I1.ext Ehh32
  replace I2 := I2.ext Ehh32
  replace I3 := I3.ext Ehh32
  replace K := K.ext Ehh32
  have F_l4_values : Fld Z h32 l4 "com/example/logic_to_machines/logictomachines/IntList" "values" "[I" .null := D_l4 (Or.inl (hw _ (List.mem_of_getElem? (i := 29) rfl))) (ty := (.array .int)) (by decide)
  have F_l4_size : Fld Z h32 l4 "com/example/logic_to_machines/logictomachines/IntList" "size" "I" (.int (0 : Int32)) := D_l4 (Or.inl (hw _ (List.mem_of_getElem? (i := 56) rfl))) (ty := .int) (by decide)
  clear D_l4
  have p4 : (b3 : Nat) < (l4 : Nat) := q4
  refine w_dup C (q := 51) d1_50 rfl rfl ?_
  refine w_special C (q := 54) (y := ⟨"com/example/logic_to_machines/logictomachines/IntList", "<init>", "()V"⟩) (rm := ({ frames := 1, cells := 1, slots := 16, locals := 12 } : Room)) (a := l4) (argsL := []) rfl (hw _ (List.mem_of_getElem? (i := 24) rfl)) (hw _ (List.mem_of_getElem? (i := 25) rfl)) (hw _ (List.mem_of_getElem? (i := 23) rfl)) (hw _ (List.mem_of_getElem? (i := 26) rfl)) (rmLI l Z a0 hw l4 _ n0 Z0 E_l4 F_l4_values F_l4_size g_l4) (by decide) (rest := [(.ref l4), (.ref a1)]) (lenOf pd_2 rfl) rfl d1_51 rfl rfl (by decide) (Nat.le_of_ble_eq_true rfl) (by decide) (by decide) ?_
  intro v h33 hQ
  obtain ⟨rfl, Kl4, b4, kb4, hb4, I4⟩ := hQ
  have r4 : (l4 : Nat) < (b4 : Nat) := Nat.lt_of_lt_of_le E_l4.lt hb4
  replace E_a1 := E_a1.keep Kl4
  replace F_met := F_met.keep Kl4 (ninS (Nat.ne_of_lt lt_a1_l4) nin0)
  replace F_firsts := F_firsts.keep Kl4 (ninS (Nat.ne_of_lt lt_a1_l4) nin0)
  replace F_seconds := F_seconds.keep Kl4 (ninS (Nat.ne_of_lt lt_a1_l4) nin0)
  replace F_parents := F_parents.keep Kl4 (ninS (Nat.ne_of_lt lt_a1_l4) nin0)
  replace F_inputs := F_inputs.keep Kl4 (ninS (Nat.ne_of_lt lt_a1_l4) nin0)
  replace A_m := A_m.keep Kl4 (ninS (Nat.ne_of_lt lt_m1_l4) nin0)
  replace I1 := I1.keep Kl4 (ninS (Nat.ne_of_lt lt_l1_l4) nin0) (ninS (Nat.ne_of_lt lt_b1_l4) nin0)
  replace I2 := I2.keep Kl4 (ninS (Nat.ne_of_lt lt_l2_l4) nin0) (ninS (Nat.ne_of_lt lt_b2_l4) nin0)
  replace I3 := I3.keep Kl4 (ninS (Nat.ne_of_lt lt_l3_l4) nin0) (ninS (Nat.ne_of_lt lt_b3_l4) nin0)
  replace E_l4 := E_l4.keep Kl4
  replace K := K.trans Kl4 (allS (Or.inr sz_l4) all0)
  replace Z0 := Nat.le_trans Z0 Kl4.1
  refine Wk.v0 ?_
  refine w_putF C (q := 57) (host := "") (Or.inl (hw _ (List.mem_of_getElem? (i := 36) rfl))) Via.refl F_inputs E_a1 (Or.inr ⟨(hw _ (List.mem_of_getElem? (i := 37) rfl)), rfl, rfl⟩) (hw _ (List.mem_of_getElem? (i := 2) rfl)) (ty := (.object "com/example/logic_to_machines/logictomachines/IntList")) (by decide) rfl rfl d1_54 rfl g_a1 ?_
  intro h34 Wh34
  replace E_a1 := E_a1.wr Wh34
  replace F_met := F_met.other Wh34 (Or.inr (slot_ne (Or.inl (hw _ (List.mem_of_getElem? (i := 20) rfl))) (Or.inr (hw _ (List.mem_of_getElem? (i := 37) rfl))) (by decide) (t := (.array .long)) (t' := (.object "com/example/logic_to_machines/logictomachines/IntList")) (by decide) (by decide)))
  replace F_firsts := F_firsts.other Wh34 (Or.inr (slot_ne (Or.inr (hw _ (List.mem_of_getElem? (i := 31) rfl))) (Or.inr (hw _ (List.mem_of_getElem? (i := 37) rfl))) (by decide) (t := (.object "com/example/logic_to_machines/logictomachines/IntList")) (t' := (.object "com/example/logic_to_machines/logictomachines/IntList")) (by decide) (by decide)))
  replace F_seconds := F_seconds.other Wh34 (Or.inr (slot_ne (Or.inr (hw _ (List.mem_of_getElem? (i := 33) rfl))) (Or.inr (hw _ (List.mem_of_getElem? (i := 37) rfl))) (by decide) (t := (.object "com/example/logic_to_machines/logictomachines/IntList")) (t' := (.object "com/example/logic_to_machines/logictomachines/IntList")) (by decide) (by decide)))
  replace F_parents := F_parents.other Wh34 (Or.inr (slot_ne (Or.inr (hw _ (List.mem_of_getElem? (i := 35) rfl))) (Or.inr (hw _ (List.mem_of_getElem? (i := 37) rfl))) (by decide) (t := (.object "com/example/logic_to_machines/logictomachines/IntList")) (t' := (.object "com/example/logic_to_machines/logictomachines/IntList")) (by decide) (by decide)))
  replace F_inputs := F_inputs.same Wh34
  replace A_m := A_m.other Wh34 (Nat.ne_of_gt (show (a1 : Nat) < (m1 : Nat) by omega))
  replace I1 := I1.wr Wh34 (Ne.symm (Nat.ne_of_lt lt_a1_l1)) (Nat.ne_of_gt (show (a1 : Nat) < (b1 : Nat) by omega))
  replace I2 := I2.wr Wh34 (Ne.symm (Nat.ne_of_lt lt_a1_l2)) (Nat.ne_of_gt (show (a1 : Nat) < (b2 : Nat) by omega))
  replace I3 := I3.wr Wh34 (Ne.symm (Nat.ne_of_lt lt_a1_l3)) (Nat.ne_of_gt (show (a1 : Nat) < (b3 : Nat) by omega))
  replace I4 := I4.wr Wh34 (Ne.symm (Nat.ne_of_lt lt_a1_l4)) (Nat.ne_of_gt (show (a1 : Nat) < (b4 : Nat) by omega))
  replace Z0 := Nat.le_trans Z0 (Nat.le_of_eq (Wr.size Wh34).symm)
  replace K := K.wr Wh34 (Or.inl (List.mem_of_getElem? (i := 0) rfl))
  exact w_ret0 C d1_57 (by decide) (by decide) ⟨rfl, K, m1, l1, b1, l2, b2, l3, b3, l4, b4, km, kb1, kb2, kb3, kb4, E_a1, F_met, F_firsts, F_seconds, F_parents, F_inputs, A_m, I1, I2, I3, I4, o1, p1, r1, p2, r2, p3, r3, p4, r4⟩
theorem ef_Key (m : MethodId) (x0 : Int32) (x1 : Int32) : entryFrame m #[(.int x0), (.int x1)] 2 = mkF m 0 #[.val (.int x0), .val (.int x1)] [] := by first | (simp [entryFrame, mkF, argsToLocals, Value.category]; done) | rfl
set_option maxRecDepth 65536 in
set_option maxHeartbeats 40000000 in
theorem rmKey (l : Launch) (Z : State) (a0 : Array Value) (hw : ∀ d ∈ tables_1, d.before a0 Z = true) (x0 : Int32) (x1 : Int32) (h0 : Heap) (n0 : Nat) (Z0 : n0 ≤ h0.size) :
    Met1 l Z ⟨"com/example/logic_to_machines/logictomachines/PairSearch", "key", "(II)J"⟩ prog_32_method_7_code 2 (some .long) ({ frames := 0, cells := 0, slots := 0, locals := 0 } : Room) #[(.int x0), (.int x1)] h0 n0 (fun v h => v = some (.long (keyF x0 x1)) ∧ h0 = h) := by
  refine Met1.of_body pn_7 (fun p e s m below meth c C => ?_)
  replace C : Cx p s m meth c Z "com/example/logic_to_machines/logictomachines/PairSearch" "key" prog_32_method_7_code 2 (some .long) := C
  refine Wk.cast (ef_Key m x0 x1) ?_
  refine w_iloadN C (q := 1) d7_0 rfl rfl ?_
  refine w_i2l C (q := 2) d7_1 rfl ?_
  refine w_bipush C (q := 4) (32 : Int32) d7_2 rfl (by decide) ?_
  refine w_lshl C (q := 5) d7_4 rfl ?_
  refine w_iloadN C (q := 6) d7_5 rfl rfl ?_
  refine w_i2l C (q := 7) d7_6 rfl ?_
  refine w_lor C (q := 8) d7_7 rfl ?_
  exact w_retJ C d7_8 (by decide) (by decide) ⟨rfl, rfl⟩
theorem ef_Ins (m : MethodId) (a1 : Nat) (x0 : Int64) : entryFrame m #[(.ref a1), (.long x0)] 7 = mkF m 0 #[.val (.ref a1), .val (.long x0), .second, .unset, .unset, .unset, .unset] [] := by first | (simp [entryFrame, mkF, argsToLocals, Value.category]; done) | rfl
set_option maxRecDepth 65536 in
set_option maxHeartbeats 40000000 in
theorem rmIns (l : Launch) (Z : State) (a0 : Array Value) (hw : ∀ d ∈ tables_1, d.before a0 Z = true) (a1 : Nat) (x0 : Int64) (h0 : Heap) (n0 : Nat) (Z0 : n0 ≤ h0.size) (k1 : ClassId) (ms : List Value) (sl : Int32) (A1 : Ars Z h0 a1 k1 .long ms) (hlen : ms.length = 16) (hsl : slotF x0 = sl) (hneg : ¬ sl < 0) (hat : ms[sl.toNatClampNeg]? = some (.long (-1 : Int64))) (g_a1 : n0 ≤ a1) :
    Met1 l Z ⟨"com/example/logic_to_machines/logictomachines/PairSearch", "insert", "([JJ)Z"⟩ prog_32_method_8_code 7 (some .boolean) ({ frames := 0, cells := 0, slots := 0, locals := 0 } : Room) #[(.ref a1), (.long x0)] h0 n0 (fun v h => v = some (.int 1) ∧ Keep h0 h [a1] ∧ Ars Z h a1 k1 .long (ms.set sl.toNatClampNeg (.long x0))) := by
  refine Met1.of_body pn_8 (fun p e s m below meth c C => ?_)
  replace C : Cx p s m meth c Z "com/example/logic_to_machines/logictomachines/PairSearch" "insert" prog_32_method_8_code 7 (some .boolean) := C
  refine Wk.cast (ef_Ins m a1 x0) ?_
  refine w_aloadN C (q := 1) d8_0 rfl rfl rfl ?_
  refine w_arraylength C (q := 2) A1 (16 : Int32) (by rw [hlen]; rfl) d8_1 rfl ?_
  refine w_iconst C (q := 3) (1 : Int32) d8_2 rfl (by decide) ?_
  refine w_isub C (q := 4) d8_3 rfl ?_
  refine w_istoreN C (q := 5) #[.val (.ref a1), .val (.long x0), .second, .val (.int (15 : Int32)), .unset, .unset, .unset] d8_4 rfl rfl ?_
  refine w_lloadN C (q := 6) d8_5 rfl rfl ?_
  refine w_ldc2J C (q := 9) (hw _ (List.mem_of_getElem? (i := 49) rfl)) d8_6 rfl ?_
  refine w_lmul C (q := 10) d8_9 rfl ?_
  refine w_lstore C (q := 12) #[.val (.ref a1), .val (.long x0), .second, .val (.int (15 : Int32)), .val (.long (x0 * (-7046029254386353131 : Int64))), .second, .unset] d8_10 rfl rfl ?_
  refine w_lload C (q := 14) d8_12 rfl rfl ?_
  refine w_bipush C (q := 16) (32 : Int32) d8_14 rfl (by decide) ?_
  refine w_lushr C (q := 17) d8_16 rfl ?_
  refine w_l2i C (q := 18) d8_17 rfl ?_
  refine w_iloadN C (q := 19) d8_18 rfl rfl ?_
  refine w_iand C (q := 20) d8_19 rfl ?_
  refine w_istore C (q := 22) #[.val (.ref a1), .val (.long x0), .second, .val (.int (15 : Int32)), .val (.long (x0 * (-7046029254386353131 : Int64))), .second, .val (.int ((XT.ushrL (x0 * (-7046029254386353131 : Int64)) (32 : Int32)).toInt32 &&& (15 : Int32)))] d8_20 rfl rfl ?_
  refine Wk.cast (f' := (mkF m 22 #[.val (.ref a1), .val (.long x0), .second, .val (.int (15 : Int32)), .val (.long (x0 * (-7046029254386353131 : Int64))), .second, .val (.int sl)] [])) (by rw [← hsl]; rfl) ?_
  refine w_aloadN C (q := 23) d8_22 rfl rfl rfl ?_
  refine w_iload C (q := 25) d8_23 rfl rfl ?_
  refine w_laload C (q := 26) A1 (.long (-1 : Int64)) hneg hat d8_25 rfl ?_
  refine w_ldc2J C (q := 29) (hw _ (List.mem_of_getElem? (i := 14) rfl)) d8_26 rfl ?_
  refine w_lcmp C (q := 30) d8_29 rfl ?_
  refine w_lleq_t C (q := 55) d8_30 (by decide) (by decide) rfl ?_
  refine w_aloadN C (q := 56) d8_55 rfl rfl rfl ?_
  refine w_iload C (q := 58) d8_56 rfl rfl ?_
  refine w_lloadN C (q := 59) d8_58 rfl rfl ?_
  refine w_lastore C (q := 60) A1 hneg (List.getElem?_eq_some_iff.mp hat).1 d8_59 rfl g_a1 ?_
  intro h1 W1 A2
  refine w_iconst C (q := 61) (1 : Int32) d8_60 rfl (by decide) ?_
  exact w_retN C d8_61 (by decide) (by decide) ⟨rfl, Keep.of_wr W1, A2⟩
theorem ef_LA (m : MethodId) (a1 : Nat) (x0 : Int32) : entryFrame m #[(.ref a1), (.int x0)] 2 = mkF m 0 #[.val (.ref a1), .val (.int x0)] [] := by first | (simp [entryFrame, mkF, argsToLocals, Value.category]; done) | rfl
set_option maxRecDepth 65536 in
set_option maxHeartbeats 40000000 in
theorem rmLA (l : Launch) (Z : State) (a0 : Array Value) (hw : ∀ d ∈ tables_1, d.before a0 Z = true) (a1 : Nat) (x0 : Int32) (h0 : Heap) (n0 : Nat) (Z0 : n0 ≤ h0.size) (b1 : Nat) (k1 : ClassId) (f : List Value) (n : Int32) (I1 : IL Z h0 a1 b1 k1 f n) (o1 : (a1 : Nat) < (b1 : Nat)) (hlen : f.length = 16) (hneg : ¬ n < 0) (hlt : n.toNatClampNeg < 16) (hne : ¬ n = (16 : Int32)) (g_a1 : n0 ≤ a1) (g_b1 : n0 ≤ b1) :
    Met1 l Z ⟨"com/example/logic_to_machines/logictomachines/IntList", "add", "(I)V"⟩ prog_20_method_2_code 2 none ({ frames := 0, cells := 0, slots := 0, locals := 0 } : Room) #[(.ref a1), (.int x0)] h0 n0 (fun v h => v = none ∧ Keep h0 h [a1, b1] ∧ IL Z h a1 b1 k1 (f.set n.toNatClampNeg (.int x0)) (n + (1 : Int32))) := by
  refine Met1.of_body pn_9 (fun p e s m below meth c C => ?_)
  replace C : Cx p s m meth c Z "com/example/logic_to_machines/logictomachines/IntList" "add" prog_20_method_2_code 2 none := C
  refine Wk.cast (ef_LA m a1 x0) ?_
  obtain ⟨E_a1, F1, F2, A1⟩ := I1
  have K : Keep h0 h0 [a1, b1] := Keep.refl _ _
  refine w_aloadN C (q := 1) d9_0 rfl rfl rfl ?_
  refine w_getF C (q := 4) (host := "") (Or.inl (hw _ (List.mem_of_getElem? (i := 55) rfl))) Via.refl F2 d9_1 rfl ?_
  refine w_aloadN C (q := 5) d9_4 rfl rfl rfl ?_
  refine w_getF C (q := 8) (host := "") (Or.inl (hw _ (List.mem_of_getElem? (i := 28) rfl))) Via.refl F1 d9_5 rfl ?_
  refine w_arraylength C (q := 9) A1 (16 : Int32) (by rw [hlen]; rfl) d9_8 rfl ?_
  refine w_icne_t C (q := 29) d9_9 (by decide) (by decide) hne ?_
  refine w_aloadN C (q := 30) d9_29 rfl rfl rfl ?_
  refine w_getF C (q := 33) (host := "") (Or.inl (hw _ (List.mem_of_getElem? (i := 28) rfl))) Via.refl F1 d9_30 rfl ?_
  refine w_aloadN C (q := 34) d9_33 rfl rfl rfl ?_
  refine w_getF C (q := 37) (host := "") (Or.inl (hw _ (List.mem_of_getElem? (i := 55) rfl))) Via.refl F2 d9_34 rfl ?_
  refine w_iloadN C (q := 38) d9_37 rfl rfl ?_
  refine w_iastore C (q := 39) A1 hneg (by rw [hlen]; exact hlt) d9_38 rfl g_b1 ?_
  intro h1 W1 A'
  replace A1 := A'
  replace E_a1 := E_a1.wr W1
  replace F1 := F1.other W1 (Or.inl (Nat.ne_of_lt (show (a1 : Nat) < (b1 : Nat) by omega)))
  replace F2 := F2.other W1 (Or.inl (Nat.ne_of_lt (show (a1 : Nat) < (b1 : Nat) by omega)))
  replace Z0 := Nat.le_trans Z0 (Nat.le_of_eq (Wr.size W1).symm)
  replace K := K.wr W1 (Or.inl (List.mem_of_getElem? (i := 1) rfl))
  refine w_aloadN C (q := 40) d9_39 rfl rfl rfl ?_
  refine w_dup C (q := 41) d9_40 rfl rfl ?_
  refine w_getF C (q := 44) (host := "") (Or.inl (hw _ (List.mem_of_getElem? (i := 55) rfl))) Via.refl F2 d9_41 rfl ?_
  refine w_iconst C (q := 45) (1 : Int32) d9_44 rfl (by decide) ?_
  refine w_iadd C (q := 46) d9_45 rfl ?_
  refine w_putF C (q := 49) (host := "") (Or.inl (hw _ (List.mem_of_getElem? (i := 55) rfl))) Via.refl F2 E_a1 (Or.inl (hw _ (List.mem_of_getElem? (i := 56) rfl))) (hw _ (List.mem_of_getElem? (i := 22) rfl)) (ty := .int) (by decide) rfl rfl d9_46 rfl g_a1 ?_
  intro h36 Wh36
  replace E_a1 := E_a1.wr Wh36
  replace F1 := F1.other Wh36 (Or.inr (slot_ne (Or.inl (hw _ (List.mem_of_getElem? (i := 29) rfl))) (Or.inl (hw _ (List.mem_of_getElem? (i := 56) rfl))) (by decide) (t := (.array .int)) (t' := .int) (by decide) (by decide)))
  replace F2 := F2.same Wh36
  replace A1 := A1.other Wh36 (Nat.ne_of_gt (show (a1 : Nat) < (b1 : Nat) by omega))
  replace Z0 := Nat.le_trans Z0 (Nat.le_of_eq (Wr.size Wh36).symm)
  replace K := K.wr Wh36 (Or.inl (List.mem_of_getElem? (i := 0) rfl))
  exact w_ret0 C d9_49 (by decide) (by decide) ⟨rfl, K, E_a1, F1, F2, A1⟩
theorem ef_Sz (m : MethodId) (a1 : Nat) : entryFrame m #[(.ref a1)] 1 = mkF m 0 #[.val (.ref a1)] [] := by first | (simp [entryFrame, mkF, argsToLocals, Value.category]; done) | rfl
set_option maxRecDepth 65536 in
set_option maxHeartbeats 40000000 in
theorem rmSz (l : Launch) (Z : State) (a0 : Array Value) (hw : ∀ d ∈ tables_1, d.before a0 Z = true) (a1 : Nat) (h0 : Heap) (n0 : Nat) (Z0 : n0 ≤ h0.size) (n : Int32) (F1 : Fld Z h0 a1 "com/example/logic_to_machines/logictomachines/IntList" "size" "I" (.int n)) :
    Met1 l Z ⟨"com/example/logic_to_machines/logictomachines/IntList", "size", "()I"⟩ prog_20_method_4_code 1 (some .int) ({ frames := 0, cells := 0, slots := 0, locals := 0 } : Room) #[(.ref a1)] h0 n0 (fun v h => v = some (.int n) ∧ h0 = h) := by
  refine Met1.of_body pn_11 (fun p e s m below meth c C => ?_)
  replace C : Cx p s m meth c Z "com/example/logic_to_machines/logictomachines/IntList" "size" prog_20_method_4_code 1 (some .int) := C
  refine Wk.cast (ef_Sz m a1) ?_
  refine w_aloadN C (q := 1) d11_0 rfl rfl rfl ?_
  refine w_getF C (q := 4) (host := "") (Or.inl (hw _ (List.mem_of_getElem? (i := 55) rfl))) Via.refl F1 d11_1 rfl ?_
  exact w_retI C d11_4 (by decide) (by decide) ⟨rfl, rfl⟩
theorem ef_Cnt (m : MethodId) (a1 : Nat) : entryFrame m #[(.ref a1)] 1 = mkF m 0 #[.val (.ref a1)] [] := by first | (simp [entryFrame, mkF, argsToLocals, Value.category]; done) | rfl
set_option maxRecDepth 65536 in
set_option maxHeartbeats 40000000 in
theorem rmCnt (l : Launch) (Z : State) (a0 : Array Value) (hw : ∀ d ∈ tables_1, d.before a0 Z = true) (a1 : Nat) (h0 : Heap) (n0 : Nat) (Z0 : n0 ≤ h0.size) (l1 : Nat) (n : Int32) (F1 : Fld Z h0 a1 "com/example/logic_to_machines/logictomachines/PairSearch" "firsts" "Lcom/example/logic_to_machines/logictomachines/IntList;" (.ref l1)) (E2 : Exa Z h0 l1 "com/example/logic_to_machines/logictomachines/IntList") (F2 : Fld Z h0 l1 "com/example/logic_to_machines/logictomachines/IntList" "size" "I" (.int n)) :
    Met1 l Z ⟨"com/example/logic_to_machines/logictomachines/PairSearch", "count", "()I"⟩ prog_32_method_3_code 1 (some .int) ({ frames := 1, cells := 0, slots := 0, locals := 12 } : Room) #[(.ref a1)] h0 n0 (fun v h => v = some (.int n) ∧ h0 = h) := by
  refine Met1.of_body pn_10 (fun p e s m below meth c C => ?_)
  replace C : Cx p s m meth c Z "com/example/logic_to_machines/logictomachines/PairSearch" "count" prog_32_method_3_code 1 (some .int) := C
  refine Wk.cast (ef_Cnt m a1) ?_
  refine w_aloadN C (q := 1) d10_0 rfl rfl rfl ?_
  refine w_getF C (q := 4) (host := "") (Or.inl (hw _ (List.mem_of_getElem? (i := 30) rfl))) Via.refl F1 d10_1 rfl ?_
  refine w_virtual C (q := 7) (y := ⟨"com/example/logic_to_machines/logictomachines/IntList", "size", "()I"⟩) (z := ⟨"com/example/logic_to_machines/logictomachines/IntList", "size", "()I"⟩) (rm := ({ frames := 0, cells := 0, slots := 0, locals := 0 } : Room)) (a := l1) (argsL := []) (hw _ (List.mem_of_getElem? (i := 62) rfl)) (hw _ (List.mem_of_getElem? (i := 63) rfl)) (hw _ (List.mem_of_getElem? (i := 65) rfl)) (hw _ (List.mem_of_getElem? (i := 65) rfl)) (hw _ (List.mem_of_getElem? (i := 64) rfl)) (hw _ (List.mem_of_getElem? (i := 23) rfl)) (hw _ (List.mem_of_getElem? (i := 66) rfl)) E2 (rmSz l Z a0 hw l1 _ n0 Z0 n F2) (by decide) (rest := []) (lenOf pd_3 rfl) rfl d10_4 rfl rfl (by decide) (Nat.le_of_ble_eq_true rfl) (by decide) (by decide) ?_
  intro v h37 hQ
  obtain ⟨rfl, rfl⟩ := hQ
  refine Wk.v1 ?_
  exact w_retI C d10_7 (by decide) (by decide) ⟨rfl, rfl⟩
theorem ef_Get (m : MethodId) (a1 : Nat) (x0 : Int32) : entryFrame m #[(.ref a1), (.int x0)] 2 = mkF m 0 #[.val (.ref a1), .val (.int x0)] [] := by first | (simp [entryFrame, mkF, argsToLocals, Value.category]; done) | rfl
set_option maxRecDepth 65536 in
set_option maxHeartbeats 40000000 in
theorem rmGet (l : Launch) (Z : State) (a0 : Array Value) (hw : ∀ d ∈ tables_1, d.before a0 Z = true) (a1 : Nat) (x0 : Int32) (h0 : Heap) (n0 : Nat) (Z0 : n0 ≤ h0.size) (b1 : Nat) (k1 : ClassId) (f : List Value) (y : Int32) (F1 : Fld Z h0 a1 "com/example/logic_to_machines/logictomachines/IntList" "values" "[I" (.ref b1)) (A1 : Ars Z h0 b1 k1 .int f) (hneg : ¬ x0 < 0) (hat : f[x0.toNatClampNeg]? = some (.int y)) :
    Met1 l Z ⟨"com/example/logic_to_machines/logictomachines/IntList", "get", "(I)I"⟩ prog_20_method_3_code 2 (some .int) ({ frames := 0, cells := 0, slots := 0, locals := 0 } : Room) #[(.ref a1), (.int x0)] h0 n0 (fun v h => v = some (.int y) ∧ h0 = h) := by
  refine Met1.of_body pn_13 (fun p e s m below meth c C => ?_)
  replace C : Cx p s m meth c Z "com/example/logic_to_machines/logictomachines/IntList" "get" prog_20_method_3_code 2 (some .int) := C
  refine Wk.cast (ef_Get m a1 x0) ?_
  refine w_aloadN C (q := 1) d13_0 rfl rfl rfl ?_
  refine w_getF C (q := 4) (host := "") (Or.inl (hw _ (List.mem_of_getElem? (i := 28) rfl))) Via.refl F1 d13_1 rfl ?_
  refine w_iloadN C (q := 5) d13_4 rfl rfl ?_
  refine w_iaload C (q := 6) A1 (.int y) hneg hat d13_5 rfl ?_
  exact w_retI C d13_6 (by decide) (by decide) ⟨rfl, rfl⟩
theorem ef_Add (m : MethodId) (s1 : Nat) (x0 : Int32) (x1 : Int32) (x2 : Int32) (x3 : Int32) : entryFrame m #[(.ref s1), (.int x0), (.int x1), (.int x2), (.int x3)] 5 = mkF m 0 #[.val (.ref s1), .val (.int x0), .val (.int x1), .val (.int x2), .val (.int x3)] [] := by first | (simp [entryFrame, mkF, argsToLocals, Value.category]; done) | rfl
set_option maxRecDepth 65536 in
set_option maxHeartbeats 40000000 in
theorem rmAdd (l : Launch) (Z : State) (a0 : Array Value) (hw : ∀ d ∈ tables_1, d.before a0 Z = true) (s1 : Nat) (x0 : Int32) (x1 : Int32) (x2 : Int32) (x3 : Int32) (h0 : Heap) (n0 : Nat) (Z0 : n0 ≤ h0.size) (m1 l1 b1 l2 b2 l3 b3 l4 b4 : Nat) (km k1 k2 k3 k4 : ClassId) (ms f1 f2 f3 f4 : List Value) (n sl : Int32) (hPS : PS Z h0 s1 m1 l1 b1 l2 b2 l3 b3 l4 b4 km k1 k2 k3 k4 ms f1 f2 f3 f4 n) (g_s1 : n0 ≤ s1) (hms : ms.length = 16) (hf1 : f1.length = 16) (hf2 : f2.length = 16) (hf3 : f3.length = 16) (hf4 : f4.length = 16) (hsl : slotF (keyF x0 x1) = sl) (hneg : ¬ sl < 0) (hat : ms[sl.toNatClampNeg]? = some (.long (-1 : Int64))) (hn0 : ¬ n < 0) (hn1 : n.toNatClampNeg < 16) (hn2 : ¬ n = (16 : Int32)) (hle : ¬ (16 : Int32) < (n + (1 : Int32)) * (2 : Int32)) :
    Met1 l Z ⟨"com/example/logic_to_machines/logictomachines/PairSearch", "add", "(IIII)V"⟩ prog_32_method_2_code 5 none ({ frames := 2, cells := 0, slots := 0, locals := 42 } : Room) #[(.ref s1), (.int x0), (.int x1), (.int x2), (.int x3)] h0 n0 (fun v h => v = none ∧ Keep h0 h [m1, l1, b1, l2, b2, l3, b3, l4, b4] ∧ PS Z h s1 m1 l1 b1 l2 b2 l3 b3 l4 b4 km k1 k2 k3 k4 (ms.set sl.toNatClampNeg (.long (keyF x0 x1))) (f1.set n.toNatClampNeg (.int x0)) (f2.set n.toNatClampNeg (.int x1)) (f3.set n.toNatClampNeg (.int x2)) (f4.set n.toNatClampNeg (.int x3)) (n + (1 : Int32))) := by
  refine Met1.of_body pn_6 (fun p e s m below meth c C => ?_)
  replace C : Cx p s m meth c Z "com/example/logic_to_machines/logictomachines/PairSearch" "add" prog_32_method_2_code 5 none := C
  refine Wk.cast (ef_Add m s1 x0 x1 x2 x3) ?_
  obtain ⟨E_s1, F_met, F_firsts, F_seconds, F_parents, F_inputs, A_m, I1, I2, I3, I4, o1, o2, o3, o4, o5, o6, o7, o8, o9⟩ := hPS
  replace o1 : (s1 : Nat) < (m1 : Nat) := o1
  replace o2 : (m1 : Nat) < (l1 : Nat) := o2
  replace o3 : (l1 : Nat) < (b1 : Nat) := o3
  replace o4 : (b1 : Nat) < (l2 : Nat) := o4
  replace o5 : (l2 : Nat) < (b2 : Nat) := o5
  replace o6 : (b2 : Nat) < (l3 : Nat) := o6
  replace o7 : (l3 : Nat) < (b3 : Nat) := o7
  replace o8 : (b3 : Nat) < (l4 : Nat) := o8
  replace o9 : (l4 : Nat) < (b4 : Nat) := o9
  have K : Keep h0 h0 [m1, l1, b1, l2, b2, l3, b3, l4, b4] := Keep.refl _ _
  refine w_aloadN C (q := 1) d6_0 rfl rfl rfl ?_
  refine w_getF C (q := 4) (host := "") (Or.inl (hw _ (List.mem_of_getElem? (i := 19) rfl))) Via.refl F_met d6_1 rfl ?_
  refine w_iloadN C (q := 5) d6_4 rfl rfl ?_
  refine w_iloadN C (q := 6) d6_5 rfl rfl ?_
  refine w_static C (q := 9) (y := ⟨"com/example/logic_to_machines/logictomachines/PairSearch", "key", "(II)J"⟩) (rm := ({ frames := 0, cells := 0, slots := 0, locals := 0 } : Room)) (argsL := [(.int x0), (.int x1)]) (hw _ (List.mem_of_getElem? (i := 43) rfl)) (hw _ (List.mem_of_getElem? (i := 44) rfl)) (hw _ (List.mem_of_getElem? (i := 3) rfl)) (hw _ (List.mem_of_getElem? (i := 45) rfl)) (rmKey l Z a0 hw x0 x1 _ n0 Z0) (by decide) (rest := [(.ref m1)]) (lenOf pd_4 rfl) rfl d6_6 rfl rfl (by decide) (Nat.le_of_ble_eq_true rfl) (by decide) (by decide) ?_
  intro v h38 hQ
  obtain ⟨rfl, rfl⟩ := hQ
  refine Wk.v1 ?_
  refine w_static C (q := 12) (y := ⟨"com/example/logic_to_machines/logictomachines/PairSearch", "insert", "([JJ)Z"⟩) (rm := ({ frames := 0, cells := 0, slots := 0, locals := 0 } : Room)) (argsL := [(.ref m1), (.long (keyF x0 x1))]) (hw _ (List.mem_of_getElem? (i := 46) rfl)) (hw _ (List.mem_of_getElem? (i := 47) rfl)) (hw _ (List.mem_of_getElem? (i := 3) rfl)) (hw _ (List.mem_of_getElem? (i := 48) rfl)) (rmIns l Z a0 hw m1 (keyF x0 x1) _ n0 Z0 km ms sl A_m hms hsl hneg hat (show n0 ≤ (m1 : Nat) by omega)) (by decide) (rest := []) (lenOf pd_5 rfl) rfl d6_9 rfl rfl (by decide) (Nat.le_of_ble_eq_true rfl) (by decide) (by decide) ?_
  intro v h39 hQ
  obtain ⟨rfl, K1, A_m'⟩ := hQ
  clear A_m
  refine Wk.v1 ?_
  replace E_s1 := E_s1.keep K1
  replace F_met := F_met.keep K1 (ninS (Nat.ne_of_lt (show (s1 : Nat) < (m1 : Nat) by omega)) nin0)
  replace F_firsts := F_firsts.keep K1 (ninS (Nat.ne_of_lt (show (s1 : Nat) < (m1 : Nat) by omega)) nin0)
  replace F_seconds := F_seconds.keep K1 (ninS (Nat.ne_of_lt (show (s1 : Nat) < (m1 : Nat) by omega)) nin0)
  replace F_parents := F_parents.keep K1 (ninS (Nat.ne_of_lt (show (s1 : Nat) < (m1 : Nat) by omega)) nin0)
  replace F_inputs := F_inputs.keep K1 (ninS (Nat.ne_of_lt (show (s1 : Nat) < (m1 : Nat) by omega)) nin0)
  replace I1 := I1.keep K1 (ninS (Nat.ne_of_gt (show (m1 : Nat) < (l1 : Nat) by omega)) nin0) (ninS (Nat.ne_of_gt (show (m1 : Nat) < (b1 : Nat) by omega)) nin0)
  replace I2 := I2.keep K1 (ninS (Nat.ne_of_gt (show (m1 : Nat) < (l2 : Nat) by omega)) nin0) (ninS (Nat.ne_of_gt (show (m1 : Nat) < (b2 : Nat) by omega)) nin0)
  replace I3 := I3.keep K1 (ninS (Nat.ne_of_gt (show (m1 : Nat) < (l3 : Nat) by omega)) nin0) (ninS (Nat.ne_of_gt (show (m1 : Nat) < (b3 : Nat) by omega)) nin0)
  replace I4 := I4.keep K1 (ninS (Nat.ne_of_gt (show (m1 : Nat) < (l4 : Nat) by omega)) nin0) (ninS (Nat.ne_of_gt (show (m1 : Nat) < (b4 : Nat) by omega)) nin0)
  replace K := K.trans K1 (allS (Or.inl (List.mem_of_getElem? (i := 0) rfl)) all0)
  replace Z0 := Nat.le_trans Z0 K1.1
  have A_m := A_m'
  clear A_m'
  refine w_ifeq_f C (q := 15) d6_12 rfl (by decide) ?_
  refine w_aloadN C (q := 16) d6_15 rfl rfl rfl ?_
  refine w_getF C (q := 19) (host := "") (Or.inl (hw _ (List.mem_of_getElem? (i := 30) rfl))) Via.refl F_firsts d6_16 rfl ?_
  refine w_iloadN C (q := 20) d6_19 rfl rfl ?_
  refine w_virtual C (q := 23) (y := ⟨"com/example/logic_to_machines/logictomachines/IntList", "add", "(I)V"⟩) (z := ⟨"com/example/logic_to_machines/logictomachines/IntList", "add", "(I)V"⟩) (rm := ({ frames := 0, cells := 0, slots := 0, locals := 0 } : Room)) (a := l1) (argsL := [(.int x0)]) (hw _ (List.mem_of_getElem? (i := 50) rfl)) (hw _ (List.mem_of_getElem? (i := 51) rfl)) (hw _ (List.mem_of_getElem? (i := 53) rfl)) (hw _ (List.mem_of_getElem? (i := 53) rfl)) (hw _ (List.mem_of_getElem? (i := 52) rfl)) (hw _ (List.mem_of_getElem? (i := 23) rfl)) (hw _ (List.mem_of_getElem? (i := 54) rfl)) I1.1 (rmLA l Z a0 hw l1 x0 _ n0 Z0 b1 k1 f1 n I1 (by omega) hf1 hn0 hn1 hn2 (show n0 ≤ (l1 : Nat) by omega) (show n0 ≤ (b1 : Nat) by omega)) (by decide) (rest := []) (lenOf pd_6 rfl) rfl d6_20 rfl rfl (by decide) (Nat.le_of_ble_eq_true rfl) (by decide) (by decide) ?_
  intro v h40 hQ
  obtain ⟨rfl, L1, J1⟩ := hQ
  replace E_s1 := E_s1.keep L1
  replace F_met := F_met.keep L1 (ninS (Nat.ne_of_lt (show (s1 : Nat) < (l1 : Nat) by omega)) (ninS (Nat.ne_of_lt (show (s1 : Nat) < (b1 : Nat) by omega)) nin0))
  replace F_firsts := F_firsts.keep L1 (ninS (Nat.ne_of_lt (show (s1 : Nat) < (l1 : Nat) by omega)) (ninS (Nat.ne_of_lt (show (s1 : Nat) < (b1 : Nat) by omega)) nin0))
  replace F_seconds := F_seconds.keep L1 (ninS (Nat.ne_of_lt (show (s1 : Nat) < (l1 : Nat) by omega)) (ninS (Nat.ne_of_lt (show (s1 : Nat) < (b1 : Nat) by omega)) nin0))
  replace F_parents := F_parents.keep L1 (ninS (Nat.ne_of_lt (show (s1 : Nat) < (l1 : Nat) by omega)) (ninS (Nat.ne_of_lt (show (s1 : Nat) < (b1 : Nat) by omega)) nin0))
  replace F_inputs := F_inputs.keep L1 (ninS (Nat.ne_of_lt (show (s1 : Nat) < (l1 : Nat) by omega)) (ninS (Nat.ne_of_lt (show (s1 : Nat) < (b1 : Nat) by omega)) nin0))
  replace I2 := I2.keep L1 (ninS (Nat.ne_of_gt (show (l1 : Nat) < (l2 : Nat) by omega)) (ninS (Nat.ne_of_gt (show (b1 : Nat) < (l2 : Nat) by omega)) nin0)) (ninS (Nat.ne_of_gt (show (l1 : Nat) < (b2 : Nat) by omega)) (ninS (Nat.ne_of_gt (show (b1 : Nat) < (b2 : Nat) by omega)) nin0))
  replace I3 := I3.keep L1 (ninS (Nat.ne_of_gt (show (l1 : Nat) < (l3 : Nat) by omega)) (ninS (Nat.ne_of_gt (show (b1 : Nat) < (l3 : Nat) by omega)) nin0)) (ninS (Nat.ne_of_gt (show (l1 : Nat) < (b3 : Nat) by omega)) (ninS (Nat.ne_of_gt (show (b1 : Nat) < (b3 : Nat) by omega)) nin0))
  replace I4 := I4.keep L1 (ninS (Nat.ne_of_gt (show (l1 : Nat) < (l4 : Nat) by omega)) (ninS (Nat.ne_of_gt (show (b1 : Nat) < (l4 : Nat) by omega)) nin0)) (ninS (Nat.ne_of_gt (show (l1 : Nat) < (b4 : Nat) by omega)) (ninS (Nat.ne_of_gt (show (b1 : Nat) < (b4 : Nat) by omega)) nin0))
  replace A_m := A_m.keep L1 (ninS (Nat.ne_of_lt (show (m1 : Nat) < (l1 : Nat) by omega)) (ninS (Nat.ne_of_lt (show (m1 : Nat) < (b1 : Nat) by omega)) nin0))
  replace K := K.trans L1 (allS (Or.inl (List.mem_of_getElem? (i := 1) rfl)) (allS (Or.inl (List.mem_of_getElem? (i := 2) rfl)) all0))
  replace Z0 := Nat.le_trans Z0 L1.1
  refine Wk.v0 ?_
  have I1 := J1
  clear J1
  refine w_aloadN C (q := 24) d6_23 rfl rfl rfl ?_
  refine w_getF C (q := 27) (host := "") (Or.inl (hw _ (List.mem_of_getElem? (i := 32) rfl))) Via.refl F_seconds d6_24 rfl ?_
  refine w_iloadN C (q := 28) d6_27 rfl rfl ?_
  refine w_virtual C (q := 31) (y := ⟨"com/example/logic_to_machines/logictomachines/IntList", "add", "(I)V"⟩) (z := ⟨"com/example/logic_to_machines/logictomachines/IntList", "add", "(I)V"⟩) (rm := ({ frames := 0, cells := 0, slots := 0, locals := 0 } : Room)) (a := l2) (argsL := [(.int x1)]) (hw _ (List.mem_of_getElem? (i := 50) rfl)) (hw _ (List.mem_of_getElem? (i := 51) rfl)) (hw _ (List.mem_of_getElem? (i := 53) rfl)) (hw _ (List.mem_of_getElem? (i := 53) rfl)) (hw _ (List.mem_of_getElem? (i := 52) rfl)) (hw _ (List.mem_of_getElem? (i := 23) rfl)) (hw _ (List.mem_of_getElem? (i := 54) rfl)) I2.1 (rmLA l Z a0 hw l2 x1 _ n0 Z0 b2 k2 f2 n I2 (by omega) hf2 hn0 hn1 hn2 (show n0 ≤ (l2 : Nat) by omega) (show n0 ≤ (b2 : Nat) by omega)) (by decide) (rest := []) (lenOf pd_6 rfl) rfl d6_28 rfl rfl (by decide) (Nat.le_of_ble_eq_true rfl) (by decide) (by decide) ?_
  intro v h41 hQ
  obtain ⟨rfl, L2, J2⟩ := hQ
  replace E_s1 := E_s1.keep L2
  replace F_met := F_met.keep L2 (ninS (Nat.ne_of_lt (show (s1 : Nat) < (l2 : Nat) by omega)) (ninS (Nat.ne_of_lt (show (s1 : Nat) < (b2 : Nat) by omega)) nin0))
  replace F_firsts := F_firsts.keep L2 (ninS (Nat.ne_of_lt (show (s1 : Nat) < (l2 : Nat) by omega)) (ninS (Nat.ne_of_lt (show (s1 : Nat) < (b2 : Nat) by omega)) nin0))
  replace F_seconds := F_seconds.keep L2 (ninS (Nat.ne_of_lt (show (s1 : Nat) < (l2 : Nat) by omega)) (ninS (Nat.ne_of_lt (show (s1 : Nat) < (b2 : Nat) by omega)) nin0))
  replace F_parents := F_parents.keep L2 (ninS (Nat.ne_of_lt (show (s1 : Nat) < (l2 : Nat) by omega)) (ninS (Nat.ne_of_lt (show (s1 : Nat) < (b2 : Nat) by omega)) nin0))
  replace F_inputs := F_inputs.keep L2 (ninS (Nat.ne_of_lt (show (s1 : Nat) < (l2 : Nat) by omega)) (ninS (Nat.ne_of_lt (show (s1 : Nat) < (b2 : Nat) by omega)) nin0))
  replace I3 := I3.keep L2 (ninS (Nat.ne_of_gt (show (l2 : Nat) < (l3 : Nat) by omega)) (ninS (Nat.ne_of_gt (show (b2 : Nat) < (l3 : Nat) by omega)) nin0)) (ninS (Nat.ne_of_gt (show (l2 : Nat) < (b3 : Nat) by omega)) (ninS (Nat.ne_of_gt (show (b2 : Nat) < (b3 : Nat) by omega)) nin0))
  replace I4 := I4.keep L2 (ninS (Nat.ne_of_gt (show (l2 : Nat) < (l4 : Nat) by omega)) (ninS (Nat.ne_of_gt (show (b2 : Nat) < (l4 : Nat) by omega)) nin0)) (ninS (Nat.ne_of_gt (show (l2 : Nat) < (b4 : Nat) by omega)) (ninS (Nat.ne_of_gt (show (b2 : Nat) < (b4 : Nat) by omega)) nin0))
  replace A_m := A_m.keep L2 (ninS (Nat.ne_of_lt (show (m1 : Nat) < (l2 : Nat) by omega)) (ninS (Nat.ne_of_lt (show (m1 : Nat) < (b2 : Nat) by omega)) nin0))
  replace I1 := I1.keep L2 (ninS (Nat.ne_of_lt (show (l1 : Nat) < (l2 : Nat) by omega)) (ninS (Nat.ne_of_lt (show (l1 : Nat) < (b2 : Nat) by omega)) nin0)) (ninS (Nat.ne_of_lt (show (b1 : Nat) < (l2 : Nat) by omega)) (ninS (Nat.ne_of_lt (show (b1 : Nat) < (b2 : Nat) by omega)) nin0))
  replace K := K.trans L2 (allS (Or.inl (List.mem_of_getElem? (i := 3) rfl)) (allS (Or.inl (List.mem_of_getElem? (i := 4) rfl)) all0))
  replace Z0 := Nat.le_trans Z0 L2.1
  refine Wk.v0 ?_
  have I2 := J2
  clear J2
  refine w_aloadN C (q := 32) d6_31 rfl rfl rfl ?_
  refine w_getF C (q := 35) (host := "") (Or.inl (hw _ (List.mem_of_getElem? (i := 34) rfl))) Via.refl F_parents d6_32 rfl ?_
  refine w_iloadN C (q := 36) d6_35 rfl rfl ?_
  refine w_virtual C (q := 39) (y := ⟨"com/example/logic_to_machines/logictomachines/IntList", "add", "(I)V"⟩) (z := ⟨"com/example/logic_to_machines/logictomachines/IntList", "add", "(I)V"⟩) (rm := ({ frames := 0, cells := 0, slots := 0, locals := 0 } : Room)) (a := l3) (argsL := [(.int x2)]) (hw _ (List.mem_of_getElem? (i := 50) rfl)) (hw _ (List.mem_of_getElem? (i := 51) rfl)) (hw _ (List.mem_of_getElem? (i := 53) rfl)) (hw _ (List.mem_of_getElem? (i := 53) rfl)) (hw _ (List.mem_of_getElem? (i := 52) rfl)) (hw _ (List.mem_of_getElem? (i := 23) rfl)) (hw _ (List.mem_of_getElem? (i := 54) rfl)) I3.1 (rmLA l Z a0 hw l3 x2 _ n0 Z0 b3 k3 f3 n I3 (by omega) hf3 hn0 hn1 hn2 (show n0 ≤ (l3 : Nat) by omega) (show n0 ≤ (b3 : Nat) by omega)) (by decide) (rest := []) (lenOf pd_6 rfl) rfl d6_36 rfl rfl (by decide) (Nat.le_of_ble_eq_true rfl) (by decide) (by decide) ?_
  intro v h42 hQ
  obtain ⟨rfl, L3, J3⟩ := hQ
  replace E_s1 := E_s1.keep L3
  replace F_met := F_met.keep L3 (ninS (Nat.ne_of_lt (show (s1 : Nat) < (l3 : Nat) by omega)) (ninS (Nat.ne_of_lt (show (s1 : Nat) < (b3 : Nat) by omega)) nin0))
  replace F_firsts := F_firsts.keep L3 (ninS (Nat.ne_of_lt (show (s1 : Nat) < (l3 : Nat) by omega)) (ninS (Nat.ne_of_lt (show (s1 : Nat) < (b3 : Nat) by omega)) nin0))
  replace F_seconds := F_seconds.keep L3 (ninS (Nat.ne_of_lt (show (s1 : Nat) < (l3 : Nat) by omega)) (ninS (Nat.ne_of_lt (show (s1 : Nat) < (b3 : Nat) by omega)) nin0))
  replace F_parents := F_parents.keep L3 (ninS (Nat.ne_of_lt (show (s1 : Nat) < (l3 : Nat) by omega)) (ninS (Nat.ne_of_lt (show (s1 : Nat) < (b3 : Nat) by omega)) nin0))
  replace F_inputs := F_inputs.keep L3 (ninS (Nat.ne_of_lt (show (s1 : Nat) < (l3 : Nat) by omega)) (ninS (Nat.ne_of_lt (show (s1 : Nat) < (b3 : Nat) by omega)) nin0))
  replace I4 := I4.keep L3 (ninS (Nat.ne_of_gt (show (l3 : Nat) < (l4 : Nat) by omega)) (ninS (Nat.ne_of_gt (show (b3 : Nat) < (l4 : Nat) by omega)) nin0)) (ninS (Nat.ne_of_gt (show (l3 : Nat) < (b4 : Nat) by omega)) (ninS (Nat.ne_of_gt (show (b3 : Nat) < (b4 : Nat) by omega)) nin0))
  replace A_m := A_m.keep L3 (ninS (Nat.ne_of_lt (show (m1 : Nat) < (l3 : Nat) by omega)) (ninS (Nat.ne_of_lt (show (m1 : Nat) < (b3 : Nat) by omega)) nin0))
  replace I1 := I1.keep L3 (ninS (Nat.ne_of_lt (show (l1 : Nat) < (l3 : Nat) by omega)) (ninS (Nat.ne_of_lt (show (l1 : Nat) < (b3 : Nat) by omega)) nin0)) (ninS (Nat.ne_of_lt (show (b1 : Nat) < (l3 : Nat) by omega)) (ninS (Nat.ne_of_lt (show (b1 : Nat) < (b3 : Nat) by omega)) nin0))
  replace I2 := I2.keep L3 (ninS (Nat.ne_of_lt (show (l2 : Nat) < (l3 : Nat) by omega)) (ninS (Nat.ne_of_lt (show (l2 : Nat) < (b3 : Nat) by omega)) nin0)) (ninS (Nat.ne_of_lt (show (b2 : Nat) < (l3 : Nat) by omega)) (ninS (Nat.ne_of_lt (show (b2 : Nat) < (b3 : Nat) by omega)) nin0))
  replace K := K.trans L3 (allS (Or.inl (List.mem_of_getElem? (i := 5) rfl)) (allS (Or.inl (List.mem_of_getElem? (i := 6) rfl)) all0))
  replace Z0 := Nat.le_trans Z0 L3.1
  refine Wk.v0 ?_
  have I3 := J3
  clear J3
  refine w_aloadN C (q := 40) d6_39 rfl rfl rfl ?_
  refine w_getF C (q := 43) (host := "") (Or.inl (hw _ (List.mem_of_getElem? (i := 36) rfl))) Via.refl F_inputs d6_40 rfl ?_
  refine w_iload C (q := 45) d6_43 rfl rfl ?_
  refine w_virtual C (q := 48) (y := ⟨"com/example/logic_to_machines/logictomachines/IntList", "add", "(I)V"⟩) (z := ⟨"com/example/logic_to_machines/logictomachines/IntList", "add", "(I)V"⟩) (rm := ({ frames := 0, cells := 0, slots := 0, locals := 0 } : Room)) (a := l4) (argsL := [(.int x3)]) (hw _ (List.mem_of_getElem? (i := 50) rfl)) (hw _ (List.mem_of_getElem? (i := 51) rfl)) (hw _ (List.mem_of_getElem? (i := 53) rfl)) (hw _ (List.mem_of_getElem? (i := 53) rfl)) (hw _ (List.mem_of_getElem? (i := 52) rfl)) (hw _ (List.mem_of_getElem? (i := 23) rfl)) (hw _ (List.mem_of_getElem? (i := 54) rfl)) I4.1 (rmLA l Z a0 hw l4 x3 _ n0 Z0 b4 k4 f4 n I4 (by omega) hf4 hn0 hn1 hn2 (show n0 ≤ (l4 : Nat) by omega) (show n0 ≤ (b4 : Nat) by omega)) (by decide) (rest := []) (lenOf pd_6 rfl) rfl d6_45 rfl rfl (by decide) (Nat.le_of_ble_eq_true rfl) (by decide) (by decide) ?_
  intro v h43 hQ
  obtain ⟨rfl, L4, J4⟩ := hQ
  replace E_s1 := E_s1.keep L4
  replace F_met := F_met.keep L4 (ninS (Nat.ne_of_lt (show (s1 : Nat) < (l4 : Nat) by omega)) (ninS (Nat.ne_of_lt (show (s1 : Nat) < (b4 : Nat) by omega)) nin0))
  replace F_firsts := F_firsts.keep L4 (ninS (Nat.ne_of_lt (show (s1 : Nat) < (l4 : Nat) by omega)) (ninS (Nat.ne_of_lt (show (s1 : Nat) < (b4 : Nat) by omega)) nin0))
  replace F_seconds := F_seconds.keep L4 (ninS (Nat.ne_of_lt (show (s1 : Nat) < (l4 : Nat) by omega)) (ninS (Nat.ne_of_lt (show (s1 : Nat) < (b4 : Nat) by omega)) nin0))
  replace F_parents := F_parents.keep L4 (ninS (Nat.ne_of_lt (show (s1 : Nat) < (l4 : Nat) by omega)) (ninS (Nat.ne_of_lt (show (s1 : Nat) < (b4 : Nat) by omega)) nin0))
  replace F_inputs := F_inputs.keep L4 (ninS (Nat.ne_of_lt (show (s1 : Nat) < (l4 : Nat) by omega)) (ninS (Nat.ne_of_lt (show (s1 : Nat) < (b4 : Nat) by omega)) nin0))
  replace A_m := A_m.keep L4 (ninS (Nat.ne_of_lt (show (m1 : Nat) < (l4 : Nat) by omega)) (ninS (Nat.ne_of_lt (show (m1 : Nat) < (b4 : Nat) by omega)) nin0))
  replace I1 := I1.keep L4 (ninS (Nat.ne_of_lt (show (l1 : Nat) < (l4 : Nat) by omega)) (ninS (Nat.ne_of_lt (show (l1 : Nat) < (b4 : Nat) by omega)) nin0)) (ninS (Nat.ne_of_lt (show (b1 : Nat) < (l4 : Nat) by omega)) (ninS (Nat.ne_of_lt (show (b1 : Nat) < (b4 : Nat) by omega)) nin0))
  replace I2 := I2.keep L4 (ninS (Nat.ne_of_lt (show (l2 : Nat) < (l4 : Nat) by omega)) (ninS (Nat.ne_of_lt (show (l2 : Nat) < (b4 : Nat) by omega)) nin0)) (ninS (Nat.ne_of_lt (show (b2 : Nat) < (l4 : Nat) by omega)) (ninS (Nat.ne_of_lt (show (b2 : Nat) < (b4 : Nat) by omega)) nin0))
  replace I3 := I3.keep L4 (ninS (Nat.ne_of_lt (show (l3 : Nat) < (l4 : Nat) by omega)) (ninS (Nat.ne_of_lt (show (l3 : Nat) < (b4 : Nat) by omega)) nin0)) (ninS (Nat.ne_of_lt (show (b3 : Nat) < (l4 : Nat) by omega)) (ninS (Nat.ne_of_lt (show (b3 : Nat) < (b4 : Nat) by omega)) nin0))
  replace K := K.trans L4 (allS (Or.inl (List.mem_of_getElem? (i := 7) rfl)) (allS (Or.inl (List.mem_of_getElem? (i := 8) rfl)) all0))
  replace Z0 := Nat.le_trans Z0 L4.1
  refine Wk.v0 ?_
  have I4 := J4
  clear J4
  refine w_aloadN C (q := 49) d6_48 rfl rfl rfl ?_
  refine w_virtual C (q := 52) (y := ⟨"com/example/logic_to_machines/logictomachines/PairSearch", "count", "()I"⟩) (z := ⟨"com/example/logic_to_machines/logictomachines/PairSearch", "count", "()I"⟩) (rm := ({ frames := 1, cells := 0, slots := 0, locals := 12 } : Room)) (a := s1) (argsL := []) (hw _ (List.mem_of_getElem? (i := 57) rfl)) (hw _ (List.mem_of_getElem? (i := 58) rfl)) (hw _ (List.mem_of_getElem? (i := 60) rfl)) (hw _ (List.mem_of_getElem? (i := 60) rfl)) (hw _ (List.mem_of_getElem? (i := 59) rfl)) (hw _ (List.mem_of_getElem? (i := 3) rfl)) (hw _ (List.mem_of_getElem? (i := 61) rfl)) E_s1 (rmCnt l Z a0 hw s1 _ n0 Z0 l1 (n + (1 : Int32)) F_firsts I1.1 I1.2.2.1) (by decide) (rest := []) (lenOf pd_3 rfl) rfl d6_49 rfl rfl (by decide) (Nat.le_of_ble_eq_true rfl) (by decide) (by decide) ?_
  intro v h44 hQ
  obtain ⟨rfl, rfl⟩ := hQ
  refine Wk.v1 ?_
  refine w_iconst C (q := 53) (2 : Int32) d6_52 rfl (by decide) ?_
  refine w_imul C (q := 54) d6_53 rfl ?_
  refine w_aloadN C (q := 55) d6_54 rfl rfl rfl ?_
  refine w_getF C (q := 58) (host := "") (Or.inl (hw _ (List.mem_of_getElem? (i := 19) rfl))) Via.refl F_met d6_55 rfl ?_
  refine w_arraylength C (q := 59) A_m (16 : Int32) (by rw [List.length_set, hms]; rfl) d6_58 rfl ?_
  refine w_icle_t C (q := 73) d6_59 (by decide) (by decide) hle ?_
  exact w_ret0 C d6_73 (by decide) (by decide) ⟨rfl, K, E_s1, F_met, F_firsts, F_seconds, F_parents, F_inputs, A_m, I1, I2, I3, I4, o1, o2, o3, o4, o5, o6, o7, o8, o9⟩
theorem ef_W0 (m : MethodId) (s1 : Nat) (i0 : Int32) (last : Int32) : entryFrame m #[(.ref s1), (.int i0), (.int last)] 7 = mkF m 0 #[.val (.ref s1), .val (.int i0), .val (.int last), .unset, .unset, .unset, .unset] [] := by first | (simp [entryFrame, mkF, argsToLocals, Value.category]; done) | rfl
set_option maxRecDepth 65536 in
set_option maxHeartbeats 40000000 in
theorem rmW0 (l : Launch) (Z : State) (a0 : Array Value) (hw : ∀ d ∈ tables_1, d.before a0 Z = true) (s1 : Nat) (i0 : Int32) (last : Int32) (h0 : Heap) (n0 : Nat) (Z0 : n0 ≤ h0.size) (m1 l1 b1 l2 b2 l3 b3 l4 b4 : Nat) (km k1 k2 k3 k4 : ClassId) (ms f1 f2 f3 f4 : List Value) (n : Int32) (hPS : PS Z h0 s1 m1 l1 b1 l2 b2 l3 b3 l4 b4 km k1 k2 k3 k4 ms f1 f2 f3 f4 n) (r : Int32) (hi0 : ¬ i0 < 0) (hr : r < 0) (hp0 : f3[i0.toNatClampNeg]? = some (.int r)) :
    Met1 l Z ⟨"com/example/logic_to_machines/logictomachines/PairSearch", "wordTo", "(II)[I"⟩ prog_32_method_6_code 7 (some (.array .int)) ({ frames := 1, cells := 1, slots := 1, locals := 16 } : Room) #[(.ref s1), (.int i0), (.int last)] h0 n0 (fun v h => ∃ (b : Nat) (k : ClassId), v = some (.ref b) ∧ h0.size ≤ b ∧ Keep h0 h [] ∧ Ars Z h b k .int [(.int last)]) := by
  refine Met1.of_body pn_12 (fun p e s m below meth c C => ?_)
  replace C : Cx p s m meth c Z "com/example/logic_to_machines/logictomachines/PairSearch" "wordTo" prog_32_method_6_code 7 (some (.array .int)) := C
  refine Wk.cast (ef_W0 m s1 i0 last) ?_
  obtain ⟨E_s1, F_met, F_firsts, F_seconds, F_parents, F_inputs, A_m, I1, I2, I3, I4, o1, o2, o3, o4, o5, o6, o7, o8, o9⟩ := hPS
  replace o1 : (s1 : Nat) < (m1 : Nat) := o1
  replace o2 : (m1 : Nat) < (l1 : Nat) := o2
  replace o3 : (l1 : Nat) < (b1 : Nat) := o3
  replace o4 : (b1 : Nat) < (l2 : Nat) := o4
  replace o5 : (l2 : Nat) < (b2 : Nat) := o5
  replace o6 : (b2 : Nat) < (l3 : Nat) := o6
  replace o7 : (l3 : Nat) < (b3 : Nat) := o7
  replace o8 : (b3 : Nat) < (l4 : Nat) := o8
  replace o9 : (l4 : Nat) < (b4 : Nat) := o9
  have K : Keep h0 h0 [] := Keep.refl _ _
  refine w_iconst C (q := 1) (1 : Int32) d12_0 rfl (by decide) ?_
  refine w_istoreN C (q := 2) #[.val (.ref s1), .val (.int i0), .val (.int last), .val (.int (1 : Int32)), .unset, .unset, .unset] d12_1 rfl rfl ?_
  refine w_iloadN C (q := 3) d12_2 rfl rfl ?_
  refine w_istore C (q := 5) #[.val (.ref s1), .val (.int i0), .val (.int last), .val (.int (1 : Int32)), .val (.int i0), .unset, .unset] d12_3 rfl rfl ?_
  refine w_aloadN C (q := 6) d12_5 rfl rfl rfl ?_
  refine w_getF C (q := 9) (host := "") (Or.inl (hw _ (List.mem_of_getElem? (i := 34) rfl))) Via.refl F_parents d12_6 rfl ?_
  refine w_iload C (q := 11) d12_9 rfl rfl ?_
  refine w_virtual C (q := 14) (y := ⟨"com/example/logic_to_machines/logictomachines/IntList", "get", "(I)I"⟩) (z := ⟨"com/example/logic_to_machines/logictomachines/IntList", "get", "(I)I"⟩) (rm := ({ frames := 0, cells := 0, slots := 0, locals := 0 } : Room)) (a := l3) (argsL := [(.int i0)]) (hw _ (List.mem_of_getElem? (i := 72) rfl)) (hw _ (List.mem_of_getElem? (i := 73) rfl)) (hw _ (List.mem_of_getElem? (i := 75) rfl)) (hw _ (List.mem_of_getElem? (i := 75) rfl)) (hw _ (List.mem_of_getElem? (i := 74) rfl)) (hw _ (List.mem_of_getElem? (i := 23) rfl)) (hw _ (List.mem_of_getElem? (i := 76) rfl)) I3.1 (rmGet l Z a0 hw l3 i0 _ n0 Z0 b3 k3 f3 r I3.2.1 I3.2.2.2 hi0 hp0) (by decide) (rest := []) (lenOf pd_7 rfl) rfl d12_11 rfl rfl (by decide) (Nat.le_of_ble_eq_true rfl) (by decide) (by decide) ?_
  intro v h45 hQ
  obtain ⟨rfl, rfl⟩ := hQ
  refine Wk.v1 ?_
  refine w_iflt_t C (q := 34) d12_14 (by decide) (by decide) hr ?_
  refine w_iloadN C (q := 35) d12_34 rfl rfl ?_
  refine w_newP C (q := 37) (hw _ (List.mem_of_getElem? (i := 0) rfl)) d12_35 rfl (by decide) 1 (by decide) (by decide) (by decide) (by decide) ?_
  intro h46 b5 k_b5 eq_b5 Ehh46 A_b5
  replace A_b5 : Ars Z h46 b5 k_b5 .int [(.int (0 : Int32))] := A_b5
  have lt_s1_b5 : (s1 : Nat) < (b5 : Nat) := Nat.lt_of_lt_of_le E_s1.lt (Nat.le_of_eq eq_b5.symm)
  have lt_l3_b5 : (l3 : Nat) < (b5 : Nat) := Nat.lt_of_lt_of_le I3.1.lt (Nat.le_of_eq eq_b5.symm)
  have lt_b3_b5 : (b3 : Nat) < (b5 : Nat) := Nat.lt_of_lt_of_le I3.2.2.2.lt (Nat.le_of_eq eq_b5.symm)
  have lt_l4_b5 : (l4 : Nat) < (b5 : Nat) := Nat.lt_of_lt_of_le I4.1.lt (Nat.le_of_eq eq_b5.symm)
  have lt_b4_b5 : (b4 : Nat) < (b5 : Nat) := Nat.lt_of_lt_of_le I4.2.2.2.lt (Nat.le_of_eq eq_b5.symm)
  have g_b5 : n0 ≤ b5 := Nat.le_trans Z0 (Nat.le_of_eq eq_b5.symm)
  have sz_b5 : h0.size ≤ b5 := Nat.le_trans K.1 (Nat.le_of_eq eq_b5.symm)
  replace Z0 := Nat.le_trans Z0 Ehh46.1
  replace E_s1 := E_s1.ext Ehh46
  replace F_parents := F_parents.ext Ehh46
  replace F_inputs := F_inputs.ext Ehh46
  replace I3 := I3.ext Ehh46
  replace I4 := I4.ext Ehh46
  replace K := K.ext Ehh46
  refine w_astore C (q := 39) #[.val (.ref s1), .val (.int i0), .val (.int last), .val (.int (1 : Int32)), .val (.ref b5), .unset, .unset] d12_37 rfl rfl rfl ?_
  refine w_aload C (q := 41) d12_39 rfl rfl rfl ?_
  refine w_iloadN C (q := 42) d12_41 rfl rfl ?_
  refine w_iconst C (q := 43) (1 : Int32) d12_42 rfl (by decide) ?_
  refine w_isub C (q := 44) d12_43 rfl ?_
  refine w_iloadN C (q := 45) d12_44 rfl rfl ?_
  refine w_iastore C (q := 46) A_b5 (by decide) (Nat.le_of_ble_eq_true rfl) d12_45 rfl g_b5 ?_
  intro h47 Wh47 A'
  replace A_b5 : Ars Z h47 b5 k_b5 .int [(.int last)] := A'
  skip
  replace E_s1 := E_s1.wr Wh47
  replace F_parents := F_parents.other Wh47 (Or.inl (Nat.ne_of_lt lt_s1_b5))
  replace F_inputs := F_inputs.other Wh47 (Or.inl (Nat.ne_of_lt lt_s1_b5))
  replace I3 := I3.wr Wh47 (Nat.ne_of_lt lt_l3_b5) (Nat.ne_of_lt lt_b3_b5)
  replace I4 := I4.wr Wh47 (Nat.ne_of_lt lt_l4_b5) (Nat.ne_of_lt lt_b4_b5)
  replace Z0 := Nat.le_trans Z0 (Nat.le_of_eq (Wr.size Wh47).symm)
  replace K := K.wr Wh47 (Or.inr sz_b5)
  refine w_iloadN C (q := 47) d12_46 rfl rfl ?_
  refine w_iconst C (q := 48) (2 : Int32) d12_47 rfl (by decide) ?_
  refine w_isub C (q := 49) d12_48 rfl ?_
  refine w_istore C (q := 51) #[.val (.ref s1), .val (.int i0), .val (.int last), .val (.int (1 : Int32)), .val (.ref b5), .val (.int (-1 : Int32)), .unset] d12_49 rfl rfl ?_
  refine w_iloadN C (q := 52) d12_51 rfl rfl ?_
  refine w_istore C (q := 54) #[.val (.ref s1), .val (.int i0), .val (.int last), .val (.int (1 : Int32)), .val (.ref b5), .val (.int (-1 : Int32)), .val (.int i0)] d12_52 rfl rfl ?_
  refine w_aloadN C (q := 55) d12_54 rfl rfl rfl ?_
  refine w_getF C (q := 58) (host := "") (Or.inl (hw _ (List.mem_of_getElem? (i := 34) rfl))) Via.refl F_parents d12_55 rfl ?_
  refine w_iload C (q := 60) d12_58 rfl rfl ?_
  refine w_virtual C (q := 63) (y := ⟨"com/example/logic_to_machines/logictomachines/IntList", "get", "(I)I"⟩) (z := ⟨"com/example/logic_to_machines/logictomachines/IntList", "get", "(I)I"⟩) (rm := ({ frames := 0, cells := 0, slots := 0, locals := 0 } : Room)) (a := l3) (argsL := [(.int i0)]) (hw _ (List.mem_of_getElem? (i := 72) rfl)) (hw _ (List.mem_of_getElem? (i := 73) rfl)) (hw _ (List.mem_of_getElem? (i := 75) rfl)) (hw _ (List.mem_of_getElem? (i := 75) rfl)) (hw _ (List.mem_of_getElem? (i := 74) rfl)) (hw _ (List.mem_of_getElem? (i := 23) rfl)) (hw _ (List.mem_of_getElem? (i := 76) rfl)) I3.1 (rmGet l Z a0 hw l3 i0 _ n0 Z0 b3 k3 f3 r I3.2.1 I3.2.2.2 hi0 hp0) (by decide) (rest := []) (lenOf pd_7 rfl) rfl d12_60 rfl rfl (by decide) (Nat.le_of_ble_eq_true rfl) (by decide) (by decide) ?_
  intro v h48 hQ
  obtain ⟨rfl, rfl⟩ := hQ
  refine Wk.v1 ?_
  refine w_iflt_t C (q := 97) d12_63 (by decide) (by decide) hr ?_
  refine w_aload C (q := 99) d12_97 rfl rfl rfl ?_
  exact w_retA C rfl rfl d12_99 (by decide) (by decide) ⟨b5, k_b5, rfl, sz_b5, K, A_b5⟩
theorem ef_W1 (m : MethodId) (s1 : Nat) (i0 : Int32) (last : Int32) : entryFrame m #[(.ref s1), (.int i0), (.int last)] 7 = mkF m 0 #[.val (.ref s1), .val (.int i0), .val (.int last), .unset, .unset, .unset, .unset] [] := by first | (simp [entryFrame, mkF, argsToLocals, Value.category]; done) | rfl
set_option maxRecDepth 65536 in
set_option maxHeartbeats 40000000 in
theorem rmW1 (l : Launch) (Z : State) (a0 : Array Value) (hw : ∀ d ∈ tables_1, d.before a0 Z = true) (s1 : Nat) (i0 : Int32) (last : Int32) (h0 : Heap) (n0 : Nat) (Z0 : n0 ≤ h0.size) (m1 l1 b1 l2 b2 l3 b3 l4 b4 : Nat) (km k1 k2 k3 k4 : ClassId) (ms f1 f2 f3 f4 : List Value) (n : Int32) (hPS : PS Z h0 s1 m1 l1 b1 l2 b2 l3 b3 l4 b4 km k1 k2 k3 k4 ms f1 f2 f3 f4 n) (i1 : Int32) (r : Int32) (y0 : Int32) (hi0 : ¬ i0 < 0) (hi1 : ¬ i1 < 0) (hr : r < 0) (hp0 : f3[i0.toNatClampNeg]? = some (.int i1)) (hp1 : f3[i1.toNatClampNeg]? = some (.int r)) (hx0 : f4[i0.toNatClampNeg]? = some (.int y0)) :
    Met1 l Z ⟨"com/example/logic_to_machines/logictomachines/PairSearch", "wordTo", "(II)[I"⟩ prog_32_method_6_code 7 (some (.array .int)) ({ frames := 1, cells := 1, slots := 2, locals := 16 } : Room) #[(.ref s1), (.int i0), (.int last)] h0 n0 (fun v h => ∃ (b : Nat) (k : ClassId), v = some (.ref b) ∧ h0.size ≤ b ∧ Keep h0 h [] ∧ Ars Z h b k .int [(.int y0), (.int last)]) := by
  refine Met1.of_body pn_12 (fun p e s m below meth c C => ?_)
  replace C : Cx p s m meth c Z "com/example/logic_to_machines/logictomachines/PairSearch" "wordTo" prog_32_method_6_code 7 (some (.array .int)) := C
  refine Wk.cast (ef_W1 m s1 i0 last) ?_
  obtain ⟨E_s1, F_met, F_firsts, F_seconds, F_parents, F_inputs, A_m, I1, I2, I3, I4, o1, o2, o3, o4, o5, o6, o7, o8, o9⟩ := hPS
  replace o1 : (s1 : Nat) < (m1 : Nat) := o1
  replace o2 : (m1 : Nat) < (l1 : Nat) := o2
  replace o3 : (l1 : Nat) < (b1 : Nat) := o3
  replace o4 : (b1 : Nat) < (l2 : Nat) := o4
  replace o5 : (l2 : Nat) < (b2 : Nat) := o5
  replace o6 : (b2 : Nat) < (l3 : Nat) := o6
  replace o7 : (l3 : Nat) < (b3 : Nat) := o7
  replace o8 : (b3 : Nat) < (l4 : Nat) := o8
  replace o9 : (l4 : Nat) < (b4 : Nat) := o9
  have K : Keep h0 h0 [] := Keep.refl _ _
  refine w_iconst C (q := 1) (1 : Int32) d12_0 rfl (by decide) ?_
  refine w_istoreN C (q := 2) #[.val (.ref s1), .val (.int i0), .val (.int last), .val (.int (1 : Int32)), .unset, .unset, .unset] d12_1 rfl rfl ?_
  refine w_iloadN C (q := 3) d12_2 rfl rfl ?_
  refine w_istore C (q := 5) #[.val (.ref s1), .val (.int i0), .val (.int last), .val (.int (1 : Int32)), .val (.int i0), .unset, .unset] d12_3 rfl rfl ?_
  refine w_aloadN C (q := 6) d12_5 rfl rfl rfl ?_
  refine w_getF C (q := 9) (host := "") (Or.inl (hw _ (List.mem_of_getElem? (i := 34) rfl))) Via.refl F_parents d12_6 rfl ?_
  refine w_iload C (q := 11) d12_9 rfl rfl ?_
  refine w_virtual C (q := 14) (y := ⟨"com/example/logic_to_machines/logictomachines/IntList", "get", "(I)I"⟩) (z := ⟨"com/example/logic_to_machines/logictomachines/IntList", "get", "(I)I"⟩) (rm := ({ frames := 0, cells := 0, slots := 0, locals := 0 } : Room)) (a := l3) (argsL := [(.int i0)]) (hw _ (List.mem_of_getElem? (i := 72) rfl)) (hw _ (List.mem_of_getElem? (i := 73) rfl)) (hw _ (List.mem_of_getElem? (i := 75) rfl)) (hw _ (List.mem_of_getElem? (i := 75) rfl)) (hw _ (List.mem_of_getElem? (i := 74) rfl)) (hw _ (List.mem_of_getElem? (i := 23) rfl)) (hw _ (List.mem_of_getElem? (i := 76) rfl)) I3.1 (rmGet l Z a0 hw l3 i0 _ n0 Z0 b3 k3 f3 i1 I3.2.1 I3.2.2.2 hi0 hp0) (by decide) (rest := []) (lenOf pd_7 rfl) rfl d12_11 rfl rfl (by decide) (Nat.le_of_ble_eq_true rfl) (by decide) (by decide) ?_
  intro v h49 hQ
  obtain ⟨rfl, rfl⟩ := hQ
  refine Wk.v1 ?_
  refine w_iflt_f C (q := 17) d12_14 rfl hi1 ?_
  refine w_iinc C (q := 20) (1 : Int32) #[.val (.ref s1), .val (.int i0), .val (.int last), .val (.int (2 : Int32)), .val (.int i0), .unset, .unset] d12_17 rfl (by decide) rfl rfl ?_
  refine w_aloadN C (q := 21) d12_20 rfl rfl rfl ?_
  refine w_getF C (q := 24) (host := "") (Or.inl (hw _ (List.mem_of_getElem? (i := 34) rfl))) Via.refl F_parents d12_21 rfl ?_
  refine w_iload C (q := 26) d12_24 rfl rfl ?_
  refine w_virtual C (q := 29) (y := ⟨"com/example/logic_to_machines/logictomachines/IntList", "get", "(I)I"⟩) (z := ⟨"com/example/logic_to_machines/logictomachines/IntList", "get", "(I)I"⟩) (rm := ({ frames := 0, cells := 0, slots := 0, locals := 0 } : Room)) (a := l3) (argsL := [(.int i0)]) (hw _ (List.mem_of_getElem? (i := 72) rfl)) (hw _ (List.mem_of_getElem? (i := 73) rfl)) (hw _ (List.mem_of_getElem? (i := 75) rfl)) (hw _ (List.mem_of_getElem? (i := 75) rfl)) (hw _ (List.mem_of_getElem? (i := 74) rfl)) (hw _ (List.mem_of_getElem? (i := 23) rfl)) (hw _ (List.mem_of_getElem? (i := 76) rfl)) I3.1 (rmGet l Z a0 hw l3 i0 _ n0 Z0 b3 k3 f3 i1 I3.2.1 I3.2.2.2 hi0 hp0) (by decide) (rest := []) (lenOf pd_7 rfl) rfl d12_26 rfl rfl (by decide) (Nat.le_of_ble_eq_true rfl) (by decide) (by decide) ?_
  intro v h50 hQ
  obtain ⟨rfl, rfl⟩ := hQ
  refine Wk.v1 ?_
  refine w_istore C (q := 31) #[.val (.ref s1), .val (.int i0), .val (.int last), .val (.int (2 : Int32)), .val (.int i1), .unset, .unset] d12_29 rfl rfl ?_
  refine w_goto C (q := 5) d12_31 (by decide) (by decide) ?_
  refine w_aloadN C (q := 6) d12_5 rfl rfl rfl ?_
  refine w_getF C (q := 9) (host := "") (Or.inl (hw _ (List.mem_of_getElem? (i := 34) rfl))) Via.refl F_parents d12_6 rfl ?_
  refine w_iload C (q := 11) d12_9 rfl rfl ?_
  refine w_virtual C (q := 14) (y := ⟨"com/example/logic_to_machines/logictomachines/IntList", "get", "(I)I"⟩) (z := ⟨"com/example/logic_to_machines/logictomachines/IntList", "get", "(I)I"⟩) (rm := ({ frames := 0, cells := 0, slots := 0, locals := 0 } : Room)) (a := l3) (argsL := [(.int i1)]) (hw _ (List.mem_of_getElem? (i := 72) rfl)) (hw _ (List.mem_of_getElem? (i := 73) rfl)) (hw _ (List.mem_of_getElem? (i := 75) rfl)) (hw _ (List.mem_of_getElem? (i := 75) rfl)) (hw _ (List.mem_of_getElem? (i := 74) rfl)) (hw _ (List.mem_of_getElem? (i := 23) rfl)) (hw _ (List.mem_of_getElem? (i := 76) rfl)) I3.1 (rmGet l Z a0 hw l3 i1 _ n0 Z0 b3 k3 f3 r I3.2.1 I3.2.2.2 hi1 hp1) (by decide) (rest := []) (lenOf pd_7 rfl) rfl d12_11 rfl rfl (by decide) (Nat.le_of_ble_eq_true rfl) (by decide) (by decide) ?_
  intro v h51 hQ
  obtain ⟨rfl, rfl⟩ := hQ
  refine Wk.v1 ?_
  refine w_iflt_t C (q := 34) d12_14 (by decide) (by decide) hr ?_
  refine w_iloadN C (q := 35) d12_34 rfl rfl ?_
  refine w_newP C (q := 37) (hw _ (List.mem_of_getElem? (i := 0) rfl)) d12_35 rfl (by decide) 2 (by decide) (by decide) (by decide) (by decide) ?_
  intro h52 b5 k_b5 eq_b5 Ehh52 A_b5
  replace A_b5 : Ars Z h52 b5 k_b5 .int [(.int (0 : Int32)), (.int (0 : Int32))] := A_b5
  have lt_s1_b5 : (s1 : Nat) < (b5 : Nat) := Nat.lt_of_lt_of_le E_s1.lt (Nat.le_of_eq eq_b5.symm)
  have lt_l3_b5 : (l3 : Nat) < (b5 : Nat) := Nat.lt_of_lt_of_le I3.1.lt (Nat.le_of_eq eq_b5.symm)
  have lt_b3_b5 : (b3 : Nat) < (b5 : Nat) := Nat.lt_of_lt_of_le I3.2.2.2.lt (Nat.le_of_eq eq_b5.symm)
  have lt_l4_b5 : (l4 : Nat) < (b5 : Nat) := Nat.lt_of_lt_of_le I4.1.lt (Nat.le_of_eq eq_b5.symm)
  have lt_b4_b5 : (b4 : Nat) < (b5 : Nat) := Nat.lt_of_lt_of_le I4.2.2.2.lt (Nat.le_of_eq eq_b5.symm)
  have g_b5 : n0 ≤ b5 := Nat.le_trans Z0 (Nat.le_of_eq eq_b5.symm)
  have sz_b5 : h0.size ≤ b5 := Nat.le_trans K.1 (Nat.le_of_eq eq_b5.symm)
  replace Z0 := Nat.le_trans Z0 Ehh52.1
  replace E_s1 := E_s1.ext Ehh52
  replace F_parents := F_parents.ext Ehh52
  replace F_inputs := F_inputs.ext Ehh52
  replace I3 := I3.ext Ehh52
  replace I4 := I4.ext Ehh52
  replace K := K.ext Ehh52
  refine w_astore C (q := 39) #[.val (.ref s1), .val (.int i0), .val (.int last), .val (.int (2 : Int32)), .val (.ref b5), .unset, .unset] d12_37 rfl rfl rfl ?_
  refine w_aload C (q := 41) d12_39 rfl rfl rfl ?_
  refine w_iloadN C (q := 42) d12_41 rfl rfl ?_
  refine w_iconst C (q := 43) (1 : Int32) d12_42 rfl (by decide) ?_
  refine w_isub C (q := 44) d12_43 rfl ?_
  refine w_iloadN C (q := 45) d12_44 rfl rfl ?_
  refine w_iastore C (q := 46) A_b5 (by decide) (Nat.le_of_ble_eq_true rfl) d12_45 rfl g_b5 ?_
  intro h53 Wh53 A'
  replace A_b5 : Ars Z h53 b5 k_b5 .int [(.int (0 : Int32)), (.int last)] := A'
  skip
  replace E_s1 := E_s1.wr Wh53
  replace F_parents := F_parents.other Wh53 (Or.inl (Nat.ne_of_lt lt_s1_b5))
  replace F_inputs := F_inputs.other Wh53 (Or.inl (Nat.ne_of_lt lt_s1_b5))
  replace I3 := I3.wr Wh53 (Nat.ne_of_lt lt_l3_b5) (Nat.ne_of_lt lt_b3_b5)
  replace I4 := I4.wr Wh53 (Nat.ne_of_lt lt_l4_b5) (Nat.ne_of_lt lt_b4_b5)
  replace Z0 := Nat.le_trans Z0 (Nat.le_of_eq (Wr.size Wh53).symm)
  replace K := K.wr Wh53 (Or.inr sz_b5)
  refine w_iloadN C (q := 47) d12_46 rfl rfl ?_
  refine w_iconst C (q := 48) (2 : Int32) d12_47 rfl (by decide) ?_
  refine w_isub C (q := 49) d12_48 rfl ?_
  refine w_istore C (q := 51) #[.val (.ref s1), .val (.int i0), .val (.int last), .val (.int (2 : Int32)), .val (.ref b5), .val (.int (0 : Int32)), .unset] d12_49 rfl rfl ?_
  refine w_iloadN C (q := 52) d12_51 rfl rfl ?_
  refine w_istore C (q := 54) #[.val (.ref s1), .val (.int i0), .val (.int last), .val (.int (2 : Int32)), .val (.ref b5), .val (.int (0 : Int32)), .val (.int i0)] d12_52 rfl rfl ?_
  refine w_aloadN C (q := 55) d12_54 rfl rfl rfl ?_
  refine w_getF C (q := 58) (host := "") (Or.inl (hw _ (List.mem_of_getElem? (i := 34) rfl))) Via.refl F_parents d12_55 rfl ?_
  refine w_iload C (q := 60) d12_58 rfl rfl ?_
  refine w_virtual C (q := 63) (y := ⟨"com/example/logic_to_machines/logictomachines/IntList", "get", "(I)I"⟩) (z := ⟨"com/example/logic_to_machines/logictomachines/IntList", "get", "(I)I"⟩) (rm := ({ frames := 0, cells := 0, slots := 0, locals := 0 } : Room)) (a := l3) (argsL := [(.int i0)]) (hw _ (List.mem_of_getElem? (i := 72) rfl)) (hw _ (List.mem_of_getElem? (i := 73) rfl)) (hw _ (List.mem_of_getElem? (i := 75) rfl)) (hw _ (List.mem_of_getElem? (i := 75) rfl)) (hw _ (List.mem_of_getElem? (i := 74) rfl)) (hw _ (List.mem_of_getElem? (i := 23) rfl)) (hw _ (List.mem_of_getElem? (i := 76) rfl)) I3.1 (rmGet l Z a0 hw l3 i0 _ n0 Z0 b3 k3 f3 i1 I3.2.1 I3.2.2.2 hi0 hp0) (by decide) (rest := []) (lenOf pd_7 rfl) rfl d12_60 rfl rfl (by decide) (Nat.le_of_ble_eq_true rfl) (by decide) (by decide) ?_
  intro v h54 hQ
  obtain ⟨rfl, rfl⟩ := hQ
  refine Wk.v1 ?_
  refine w_iflt_f C (q := 66) d12_63 rfl hi1 ?_
  refine w_aload C (q := 68) d12_66 rfl rfl rfl ?_
  refine w_iload C (q := 70) d12_68 rfl rfl ?_
  refine w_aloadN C (q := 71) d12_70 rfl rfl rfl ?_
  refine w_getF C (q := 74) (host := "") (Or.inl (hw _ (List.mem_of_getElem? (i := 36) rfl))) Via.refl F_inputs d12_71 rfl ?_
  refine w_iload C (q := 76) d12_74 rfl rfl ?_
  refine w_virtual C (q := 79) (y := ⟨"com/example/logic_to_machines/logictomachines/IntList", "get", "(I)I"⟩) (z := ⟨"com/example/logic_to_machines/logictomachines/IntList", "get", "(I)I"⟩) (rm := ({ frames := 0, cells := 0, slots := 0, locals := 0 } : Room)) (a := l4) (argsL := [(.int i0)]) (hw _ (List.mem_of_getElem? (i := 72) rfl)) (hw _ (List.mem_of_getElem? (i := 73) rfl)) (hw _ (List.mem_of_getElem? (i := 75) rfl)) (hw _ (List.mem_of_getElem? (i := 75) rfl)) (hw _ (List.mem_of_getElem? (i := 74) rfl)) (hw _ (List.mem_of_getElem? (i := 23) rfl)) (hw _ (List.mem_of_getElem? (i := 76) rfl)) I4.1 (rmGet l Z a0 hw l4 i0 _ n0 Z0 b4 k4 f4 y0 I4.2.1 I4.2.2.2 hi0 hx0) (by decide) (rest := [(.int (0 : Int32)), (.ref b5)]) (lenOf pd_7 rfl) rfl d12_76 rfl rfl (by decide) (Nat.le_of_ble_eq_true rfl) (by decide) (by decide) ?_
  intro v h55 hQ
  obtain ⟨rfl, rfl⟩ := hQ
  refine Wk.v1 ?_
  refine w_iastore C (q := 80) A_b5 (by decide) (Nat.le_of_ble_eq_true rfl) d12_79 rfl g_b5 ?_
  intro h56 Wh56 A'
  replace A_b5 : Ars Z h56 b5 k_b5 .int [(.int y0), (.int last)] := A'
  skip
  replace E_s1 := E_s1.wr Wh56
  replace F_parents := F_parents.other Wh56 (Or.inl (Nat.ne_of_lt lt_s1_b5))
  replace F_inputs := F_inputs.other Wh56 (Or.inl (Nat.ne_of_lt lt_s1_b5))
  replace I3 := I3.wr Wh56 (Nat.ne_of_lt lt_l3_b5) (Nat.ne_of_lt lt_b3_b5)
  replace I4 := I4.wr Wh56 (Nat.ne_of_lt lt_l4_b5) (Nat.ne_of_lt lt_b4_b5)
  replace Z0 := Nat.le_trans Z0 (Nat.le_of_eq (Wr.size Wh56).symm)
  replace K := K.wr Wh56 (Or.inr sz_b5)
  refine w_iinc C (q := 83) (-1 : Int32) #[.val (.ref s1), .val (.int i0), .val (.int last), .val (.int (2 : Int32)), .val (.ref b5), .val (.int (-1 : Int32)), .val (.int i0)] d12_80 rfl (by decide) rfl rfl ?_
  refine w_aloadN C (q := 84) d12_83 rfl rfl rfl ?_
  refine w_getF C (q := 87) (host := "") (Or.inl (hw _ (List.mem_of_getElem? (i := 34) rfl))) Via.refl F_parents d12_84 rfl ?_
  refine w_iload C (q := 89) d12_87 rfl rfl ?_
  refine w_virtual C (q := 92) (y := ⟨"com/example/logic_to_machines/logictomachines/IntList", "get", "(I)I"⟩) (z := ⟨"com/example/logic_to_machines/logictomachines/IntList", "get", "(I)I"⟩) (rm := ({ frames := 0, cells := 0, slots := 0, locals := 0 } : Room)) (a := l3) (argsL := [(.int i0)]) (hw _ (List.mem_of_getElem? (i := 72) rfl)) (hw _ (List.mem_of_getElem? (i := 73) rfl)) (hw _ (List.mem_of_getElem? (i := 75) rfl)) (hw _ (List.mem_of_getElem? (i := 75) rfl)) (hw _ (List.mem_of_getElem? (i := 74) rfl)) (hw _ (List.mem_of_getElem? (i := 23) rfl)) (hw _ (List.mem_of_getElem? (i := 76) rfl)) I3.1 (rmGet l Z a0 hw l3 i0 _ n0 Z0 b3 k3 f3 i1 I3.2.1 I3.2.2.2 hi0 hp0) (by decide) (rest := []) (lenOf pd_7 rfl) rfl d12_89 rfl rfl (by decide) (Nat.le_of_ble_eq_true rfl) (by decide) (by decide) ?_
  intro v h57 hQ
  obtain ⟨rfl, rfl⟩ := hQ
  refine Wk.v1 ?_
  refine w_istore C (q := 94) #[.val (.ref s1), .val (.int i0), .val (.int last), .val (.int (2 : Int32)), .val (.ref b5), .val (.int (-1 : Int32)), .val (.int i1)] d12_92 rfl rfl ?_
  refine w_goto C (q := 54) d12_94 (by decide) (by decide) ?_
  refine w_aloadN C (q := 55) d12_54 rfl rfl rfl ?_
  refine w_getF C (q := 58) (host := "") (Or.inl (hw _ (List.mem_of_getElem? (i := 34) rfl))) Via.refl F_parents d12_55 rfl ?_
  refine w_iload C (q := 60) d12_58 rfl rfl ?_
  refine w_virtual C (q := 63) (y := ⟨"com/example/logic_to_machines/logictomachines/IntList", "get", "(I)I"⟩) (z := ⟨"com/example/logic_to_machines/logictomachines/IntList", "get", "(I)I"⟩) (rm := ({ frames := 0, cells := 0, slots := 0, locals := 0 } : Room)) (a := l3) (argsL := [(.int i1)]) (hw _ (List.mem_of_getElem? (i := 72) rfl)) (hw _ (List.mem_of_getElem? (i := 73) rfl)) (hw _ (List.mem_of_getElem? (i := 75) rfl)) (hw _ (List.mem_of_getElem? (i := 75) rfl)) (hw _ (List.mem_of_getElem? (i := 74) rfl)) (hw _ (List.mem_of_getElem? (i := 23) rfl)) (hw _ (List.mem_of_getElem? (i := 76) rfl)) I3.1 (rmGet l Z a0 hw l3 i1 _ n0 Z0 b3 k3 f3 r I3.2.1 I3.2.2.2 hi1 hp1) (by decide) (rest := []) (lenOf pd_7 rfl) rfl d12_60 rfl rfl (by decide) (Nat.le_of_ble_eq_true rfl) (by decide) (by decide) ?_
  intro v h58 hQ
  obtain ⟨rfl, rfl⟩ := hQ
  refine Wk.v1 ?_
  refine w_iflt_t C (q := 97) d12_63 (by decide) (by decide) hr ?_
  refine w_aload C (q := 99) d12_97 rfl rfl rfl ?_
  exact w_retA C rfl rfl d12_99 (by decide) (by decide) ⟨b5, k_b5, rfl, sz_b5, K, A_b5⟩
theorem ef_W2 (m : MethodId) (s1 : Nat) (i0 : Int32) (last : Int32) : entryFrame m #[(.ref s1), (.int i0), (.int last)] 7 = mkF m 0 #[.val (.ref s1), .val (.int i0), .val (.int last), .unset, .unset, .unset, .unset] [] := by first | (simp [entryFrame, mkF, argsToLocals, Value.category]; done) | rfl
set_option maxRecDepth 65536 in
set_option maxHeartbeats 40000000 in
theorem rmW2 (l : Launch) (Z : State) (a0 : Array Value) (hw : ∀ d ∈ tables_1, d.before a0 Z = true) (s1 : Nat) (i0 : Int32) (last : Int32) (h0 : Heap) (n0 : Nat) (Z0 : n0 ≤ h0.size) (m1 l1 b1 l2 b2 l3 b3 l4 b4 : Nat) (km k1 k2 k3 k4 : ClassId) (ms f1 f2 f3 f4 : List Value) (n : Int32) (hPS : PS Z h0 s1 m1 l1 b1 l2 b2 l3 b3 l4 b4 km k1 k2 k3 k4 ms f1 f2 f3 f4 n) (i1 : Int32) (i2 : Int32) (r : Int32) (y0 : Int32) (y1 : Int32) (hi0 : ¬ i0 < 0) (hi1 : ¬ i1 < 0) (hi2 : ¬ i2 < 0) (hr : r < 0) (hp0 : f3[i0.toNatClampNeg]? = some (.int i1)) (hp1 : f3[i1.toNatClampNeg]? = some (.int i2)) (hp2 : f3[i2.toNatClampNeg]? = some (.int r)) (hx0 : f4[i0.toNatClampNeg]? = some (.int y0)) (hx1 : f4[i1.toNatClampNeg]? = some (.int y1)) :
    Met1 l Z ⟨"com/example/logic_to_machines/logictomachines/PairSearch", "wordTo", "(II)[I"⟩ prog_32_method_6_code 7 (some (.array .int)) ({ frames := 1, cells := 1, slots := 3, locals := 16 } : Room) #[(.ref s1), (.int i0), (.int last)] h0 n0 (fun v h => ∃ (b : Nat) (k : ClassId), v = some (.ref b) ∧ h0.size ≤ b ∧ Keep h0 h [] ∧ Ars Z h b k .int [(.int y1), (.int y0), (.int last)]) := by
  refine Met1.of_body pn_12 (fun p e s m below meth c C => ?_)
  replace C : Cx p s m meth c Z "com/example/logic_to_machines/logictomachines/PairSearch" "wordTo" prog_32_method_6_code 7 (some (.array .int)) := C
  refine Wk.cast (ef_W2 m s1 i0 last) ?_
  obtain ⟨E_s1, F_met, F_firsts, F_seconds, F_parents, F_inputs, A_m, I1, I2, I3, I4, o1, o2, o3, o4, o5, o6, o7, o8, o9⟩ := hPS
  replace o1 : (s1 : Nat) < (m1 : Nat) := o1
  replace o2 : (m1 : Nat) < (l1 : Nat) := o2
  replace o3 : (l1 : Nat) < (b1 : Nat) := o3
  replace o4 : (b1 : Nat) < (l2 : Nat) := o4
  replace o5 : (l2 : Nat) < (b2 : Nat) := o5
  replace o6 : (b2 : Nat) < (l3 : Nat) := o6
  replace o7 : (l3 : Nat) < (b3 : Nat) := o7
  replace o8 : (b3 : Nat) < (l4 : Nat) := o8
  replace o9 : (l4 : Nat) < (b4 : Nat) := o9
  have K : Keep h0 h0 [] := Keep.refl _ _
  refine w_iconst C (q := 1) (1 : Int32) d12_0 rfl (by decide) ?_
  refine w_istoreN C (q := 2) #[.val (.ref s1), .val (.int i0), .val (.int last), .val (.int (1 : Int32)), .unset, .unset, .unset] d12_1 rfl rfl ?_
  refine w_iloadN C (q := 3) d12_2 rfl rfl ?_
  refine w_istore C (q := 5) #[.val (.ref s1), .val (.int i0), .val (.int last), .val (.int (1 : Int32)), .val (.int i0), .unset, .unset] d12_3 rfl rfl ?_
  refine w_aloadN C (q := 6) d12_5 rfl rfl rfl ?_
  refine w_getF C (q := 9) (host := "") (Or.inl (hw _ (List.mem_of_getElem? (i := 34) rfl))) Via.refl F_parents d12_6 rfl ?_
  refine w_iload C (q := 11) d12_9 rfl rfl ?_
  refine w_virtual C (q := 14) (y := ⟨"com/example/logic_to_machines/logictomachines/IntList", "get", "(I)I"⟩) (z := ⟨"com/example/logic_to_machines/logictomachines/IntList", "get", "(I)I"⟩) (rm := ({ frames := 0, cells := 0, slots := 0, locals := 0 } : Room)) (a := l3) (argsL := [(.int i0)]) (hw _ (List.mem_of_getElem? (i := 72) rfl)) (hw _ (List.mem_of_getElem? (i := 73) rfl)) (hw _ (List.mem_of_getElem? (i := 75) rfl)) (hw _ (List.mem_of_getElem? (i := 75) rfl)) (hw _ (List.mem_of_getElem? (i := 74) rfl)) (hw _ (List.mem_of_getElem? (i := 23) rfl)) (hw _ (List.mem_of_getElem? (i := 76) rfl)) I3.1 (rmGet l Z a0 hw l3 i0 _ n0 Z0 b3 k3 f3 i1 I3.2.1 I3.2.2.2 hi0 hp0) (by decide) (rest := []) (lenOf pd_7 rfl) rfl d12_11 rfl rfl (by decide) (Nat.le_of_ble_eq_true rfl) (by decide) (by decide) ?_
  intro v h59 hQ
  obtain ⟨rfl, rfl⟩ := hQ
  refine Wk.v1 ?_
  refine w_iflt_f C (q := 17) d12_14 rfl hi1 ?_
  refine w_iinc C (q := 20) (1 : Int32) #[.val (.ref s1), .val (.int i0), .val (.int last), .val (.int (2 : Int32)), .val (.int i0), .unset, .unset] d12_17 rfl (by decide) rfl rfl ?_
  refine w_aloadN C (q := 21) d12_20 rfl rfl rfl ?_
  refine w_getF C (q := 24) (host := "") (Or.inl (hw _ (List.mem_of_getElem? (i := 34) rfl))) Via.refl F_parents d12_21 rfl ?_
  refine w_iload C (q := 26) d12_24 rfl rfl ?_
  refine w_virtual C (q := 29) (y := ⟨"com/example/logic_to_machines/logictomachines/IntList", "get", "(I)I"⟩) (z := ⟨"com/example/logic_to_machines/logictomachines/IntList", "get", "(I)I"⟩) (rm := ({ frames := 0, cells := 0, slots := 0, locals := 0 } : Room)) (a := l3) (argsL := [(.int i0)]) (hw _ (List.mem_of_getElem? (i := 72) rfl)) (hw _ (List.mem_of_getElem? (i := 73) rfl)) (hw _ (List.mem_of_getElem? (i := 75) rfl)) (hw _ (List.mem_of_getElem? (i := 75) rfl)) (hw _ (List.mem_of_getElem? (i := 74) rfl)) (hw _ (List.mem_of_getElem? (i := 23) rfl)) (hw _ (List.mem_of_getElem? (i := 76) rfl)) I3.1 (rmGet l Z a0 hw l3 i0 _ n0 Z0 b3 k3 f3 i1 I3.2.1 I3.2.2.2 hi0 hp0) (by decide) (rest := []) (lenOf pd_7 rfl) rfl d12_26 rfl rfl (by decide) (Nat.le_of_ble_eq_true rfl) (by decide) (by decide) ?_
  intro v h60 hQ
  obtain ⟨rfl, rfl⟩ := hQ
  refine Wk.v1 ?_
  refine w_istore C (q := 31) #[.val (.ref s1), .val (.int i0), .val (.int last), .val (.int (2 : Int32)), .val (.int i1), .unset, .unset] d12_29 rfl rfl ?_
  refine w_goto C (q := 5) d12_31 (by decide) (by decide) ?_
  refine w_aloadN C (q := 6) d12_5 rfl rfl rfl ?_
  refine w_getF C (q := 9) (host := "") (Or.inl (hw _ (List.mem_of_getElem? (i := 34) rfl))) Via.refl F_parents d12_6 rfl ?_
  refine w_iload C (q := 11) d12_9 rfl rfl ?_
  refine w_virtual C (q := 14) (y := ⟨"com/example/logic_to_machines/logictomachines/IntList", "get", "(I)I"⟩) (z := ⟨"com/example/logic_to_machines/logictomachines/IntList", "get", "(I)I"⟩) (rm := ({ frames := 0, cells := 0, slots := 0, locals := 0 } : Room)) (a := l3) (argsL := [(.int i1)]) (hw _ (List.mem_of_getElem? (i := 72) rfl)) (hw _ (List.mem_of_getElem? (i := 73) rfl)) (hw _ (List.mem_of_getElem? (i := 75) rfl)) (hw _ (List.mem_of_getElem? (i := 75) rfl)) (hw _ (List.mem_of_getElem? (i := 74) rfl)) (hw _ (List.mem_of_getElem? (i := 23) rfl)) (hw _ (List.mem_of_getElem? (i := 76) rfl)) I3.1 (rmGet l Z a0 hw l3 i1 _ n0 Z0 b3 k3 f3 i2 I3.2.1 I3.2.2.2 hi1 hp1) (by decide) (rest := []) (lenOf pd_7 rfl) rfl d12_11 rfl rfl (by decide) (Nat.le_of_ble_eq_true rfl) (by decide) (by decide) ?_
  intro v h61 hQ
  obtain ⟨rfl, rfl⟩ := hQ
  refine Wk.v1 ?_
  refine w_iflt_f C (q := 17) d12_14 rfl hi2 ?_
  refine w_iinc C (q := 20) (1 : Int32) #[.val (.ref s1), .val (.int i0), .val (.int last), .val (.int (3 : Int32)), .val (.int i1), .unset, .unset] d12_17 rfl (by decide) rfl rfl ?_
  refine w_aloadN C (q := 21) d12_20 rfl rfl rfl ?_
  refine w_getF C (q := 24) (host := "") (Or.inl (hw _ (List.mem_of_getElem? (i := 34) rfl))) Via.refl F_parents d12_21 rfl ?_
  refine w_iload C (q := 26) d12_24 rfl rfl ?_
  refine w_virtual C (q := 29) (y := ⟨"com/example/logic_to_machines/logictomachines/IntList", "get", "(I)I"⟩) (z := ⟨"com/example/logic_to_machines/logictomachines/IntList", "get", "(I)I"⟩) (rm := ({ frames := 0, cells := 0, slots := 0, locals := 0 } : Room)) (a := l3) (argsL := [(.int i1)]) (hw _ (List.mem_of_getElem? (i := 72) rfl)) (hw _ (List.mem_of_getElem? (i := 73) rfl)) (hw _ (List.mem_of_getElem? (i := 75) rfl)) (hw _ (List.mem_of_getElem? (i := 75) rfl)) (hw _ (List.mem_of_getElem? (i := 74) rfl)) (hw _ (List.mem_of_getElem? (i := 23) rfl)) (hw _ (List.mem_of_getElem? (i := 76) rfl)) I3.1 (rmGet l Z a0 hw l3 i1 _ n0 Z0 b3 k3 f3 i2 I3.2.1 I3.2.2.2 hi1 hp1) (by decide) (rest := []) (lenOf pd_7 rfl) rfl d12_26 rfl rfl (by decide) (Nat.le_of_ble_eq_true rfl) (by decide) (by decide) ?_
  intro v h62 hQ
  obtain ⟨rfl, rfl⟩ := hQ
  refine Wk.v1 ?_
  refine w_istore C (q := 31) #[.val (.ref s1), .val (.int i0), .val (.int last), .val (.int (3 : Int32)), .val (.int i2), .unset, .unset] d12_29 rfl rfl ?_
  refine w_goto C (q := 5) d12_31 (by decide) (by decide) ?_
  refine w_aloadN C (q := 6) d12_5 rfl rfl rfl ?_
  refine w_getF C (q := 9) (host := "") (Or.inl (hw _ (List.mem_of_getElem? (i := 34) rfl))) Via.refl F_parents d12_6 rfl ?_
  refine w_iload C (q := 11) d12_9 rfl rfl ?_
  refine w_virtual C (q := 14) (y := ⟨"com/example/logic_to_machines/logictomachines/IntList", "get", "(I)I"⟩) (z := ⟨"com/example/logic_to_machines/logictomachines/IntList", "get", "(I)I"⟩) (rm := ({ frames := 0, cells := 0, slots := 0, locals := 0 } : Room)) (a := l3) (argsL := [(.int i2)]) (hw _ (List.mem_of_getElem? (i := 72) rfl)) (hw _ (List.mem_of_getElem? (i := 73) rfl)) (hw _ (List.mem_of_getElem? (i := 75) rfl)) (hw _ (List.mem_of_getElem? (i := 75) rfl)) (hw _ (List.mem_of_getElem? (i := 74) rfl)) (hw _ (List.mem_of_getElem? (i := 23) rfl)) (hw _ (List.mem_of_getElem? (i := 76) rfl)) I3.1 (rmGet l Z a0 hw l3 i2 _ n0 Z0 b3 k3 f3 r I3.2.1 I3.2.2.2 hi2 hp2) (by decide) (rest := []) (lenOf pd_7 rfl) rfl d12_11 rfl rfl (by decide) (Nat.le_of_ble_eq_true rfl) (by decide) (by decide) ?_
  intro v h63 hQ
  obtain ⟨rfl, rfl⟩ := hQ
  refine Wk.v1 ?_
  refine w_iflt_t C (q := 34) d12_14 (by decide) (by decide) hr ?_
  refine w_iloadN C (q := 35) d12_34 rfl rfl ?_
  refine w_newP C (q := 37) (hw _ (List.mem_of_getElem? (i := 0) rfl)) d12_35 rfl (by decide) 3 (by decide) (by decide) (by decide) (by decide) ?_
  intro h64 b5 k_b5 eq_b5 Ehh64 A_b5
  replace A_b5 : Ars Z h64 b5 k_b5 .int [(.int (0 : Int32)), (.int (0 : Int32)), (.int (0 : Int32))] := A_b5
  have lt_s1_b5 : (s1 : Nat) < (b5 : Nat) := Nat.lt_of_lt_of_le E_s1.lt (Nat.le_of_eq eq_b5.symm)
  have lt_l3_b5 : (l3 : Nat) < (b5 : Nat) := Nat.lt_of_lt_of_le I3.1.lt (Nat.le_of_eq eq_b5.symm)
  have lt_b3_b5 : (b3 : Nat) < (b5 : Nat) := Nat.lt_of_lt_of_le I3.2.2.2.lt (Nat.le_of_eq eq_b5.symm)
  have lt_l4_b5 : (l4 : Nat) < (b5 : Nat) := Nat.lt_of_lt_of_le I4.1.lt (Nat.le_of_eq eq_b5.symm)
  have lt_b4_b5 : (b4 : Nat) < (b5 : Nat) := Nat.lt_of_lt_of_le I4.2.2.2.lt (Nat.le_of_eq eq_b5.symm)
  have g_b5 : n0 ≤ b5 := Nat.le_trans Z0 (Nat.le_of_eq eq_b5.symm)
  have sz_b5 : h0.size ≤ b5 := Nat.le_trans K.1 (Nat.le_of_eq eq_b5.symm)
  replace Z0 := Nat.le_trans Z0 Ehh64.1
  replace E_s1 := E_s1.ext Ehh64
  replace F_parents := F_parents.ext Ehh64
  replace F_inputs := F_inputs.ext Ehh64
  replace I3 := I3.ext Ehh64
  replace I4 := I4.ext Ehh64
  replace K := K.ext Ehh64
  refine w_astore C (q := 39) #[.val (.ref s1), .val (.int i0), .val (.int last), .val (.int (3 : Int32)), .val (.ref b5), .unset, .unset] d12_37 rfl rfl rfl ?_
  refine w_aload C (q := 41) d12_39 rfl rfl rfl ?_
  refine w_iloadN C (q := 42) d12_41 rfl rfl ?_
  refine w_iconst C (q := 43) (1 : Int32) d12_42 rfl (by decide) ?_
  refine w_isub C (q := 44) d12_43 rfl ?_
  refine w_iloadN C (q := 45) d12_44 rfl rfl ?_
  refine w_iastore C (q := 46) A_b5 (by decide) (Nat.le_of_ble_eq_true rfl) d12_45 rfl g_b5 ?_
  intro h65 Wh65 A'
  replace A_b5 : Ars Z h65 b5 k_b5 .int [(.int (0 : Int32)), (.int (0 : Int32)), (.int last)] := A'
  skip
  replace E_s1 := E_s1.wr Wh65
  replace F_parents := F_parents.other Wh65 (Or.inl (Nat.ne_of_lt lt_s1_b5))
  replace F_inputs := F_inputs.other Wh65 (Or.inl (Nat.ne_of_lt lt_s1_b5))
  replace I3 := I3.wr Wh65 (Nat.ne_of_lt lt_l3_b5) (Nat.ne_of_lt lt_b3_b5)
  replace I4 := I4.wr Wh65 (Nat.ne_of_lt lt_l4_b5) (Nat.ne_of_lt lt_b4_b5)
  replace Z0 := Nat.le_trans Z0 (Nat.le_of_eq (Wr.size Wh65).symm)
  replace K := K.wr Wh65 (Or.inr sz_b5)
  refine w_iloadN C (q := 47) d12_46 rfl rfl ?_
  refine w_iconst C (q := 48) (2 : Int32) d12_47 rfl (by decide) ?_
  refine w_isub C (q := 49) d12_48 rfl ?_
  refine w_istore C (q := 51) #[.val (.ref s1), .val (.int i0), .val (.int last), .val (.int (3 : Int32)), .val (.ref b5), .val (.int (1 : Int32)), .unset] d12_49 rfl rfl ?_
  refine w_iloadN C (q := 52) d12_51 rfl rfl ?_
  refine w_istore C (q := 54) #[.val (.ref s1), .val (.int i0), .val (.int last), .val (.int (3 : Int32)), .val (.ref b5), .val (.int (1 : Int32)), .val (.int i0)] d12_52 rfl rfl ?_
  refine w_aloadN C (q := 55) d12_54 rfl rfl rfl ?_
  refine w_getF C (q := 58) (host := "") (Or.inl (hw _ (List.mem_of_getElem? (i := 34) rfl))) Via.refl F_parents d12_55 rfl ?_
  refine w_iload C (q := 60) d12_58 rfl rfl ?_
  refine w_virtual C (q := 63) (y := ⟨"com/example/logic_to_machines/logictomachines/IntList", "get", "(I)I"⟩) (z := ⟨"com/example/logic_to_machines/logictomachines/IntList", "get", "(I)I"⟩) (rm := ({ frames := 0, cells := 0, slots := 0, locals := 0 } : Room)) (a := l3) (argsL := [(.int i0)]) (hw _ (List.mem_of_getElem? (i := 72) rfl)) (hw _ (List.mem_of_getElem? (i := 73) rfl)) (hw _ (List.mem_of_getElem? (i := 75) rfl)) (hw _ (List.mem_of_getElem? (i := 75) rfl)) (hw _ (List.mem_of_getElem? (i := 74) rfl)) (hw _ (List.mem_of_getElem? (i := 23) rfl)) (hw _ (List.mem_of_getElem? (i := 76) rfl)) I3.1 (rmGet l Z a0 hw l3 i0 _ n0 Z0 b3 k3 f3 i1 I3.2.1 I3.2.2.2 hi0 hp0) (by decide) (rest := []) (lenOf pd_7 rfl) rfl d12_60 rfl rfl (by decide) (Nat.le_of_ble_eq_true rfl) (by decide) (by decide) ?_
  intro v h66 hQ
  obtain ⟨rfl, rfl⟩ := hQ
  refine Wk.v1 ?_
  refine w_iflt_f C (q := 66) d12_63 rfl hi1 ?_
  refine w_aload C (q := 68) d12_66 rfl rfl rfl ?_
  refine w_iload C (q := 70) d12_68 rfl rfl ?_
  refine w_aloadN C (q := 71) d12_70 rfl rfl rfl ?_
  refine w_getF C (q := 74) (host := "") (Or.inl (hw _ (List.mem_of_getElem? (i := 36) rfl))) Via.refl F_inputs d12_71 rfl ?_
  refine w_iload C (q := 76) d12_74 rfl rfl ?_
  refine w_virtual C (q := 79) (y := ⟨"com/example/logic_to_machines/logictomachines/IntList", "get", "(I)I"⟩) (z := ⟨"com/example/logic_to_machines/logictomachines/IntList", "get", "(I)I"⟩) (rm := ({ frames := 0, cells := 0, slots := 0, locals := 0 } : Room)) (a := l4) (argsL := [(.int i0)]) (hw _ (List.mem_of_getElem? (i := 72) rfl)) (hw _ (List.mem_of_getElem? (i := 73) rfl)) (hw _ (List.mem_of_getElem? (i := 75) rfl)) (hw _ (List.mem_of_getElem? (i := 75) rfl)) (hw _ (List.mem_of_getElem? (i := 74) rfl)) (hw _ (List.mem_of_getElem? (i := 23) rfl)) (hw _ (List.mem_of_getElem? (i := 76) rfl)) I4.1 (rmGet l Z a0 hw l4 i0 _ n0 Z0 b4 k4 f4 y0 I4.2.1 I4.2.2.2 hi0 hx0) (by decide) (rest := [(.int (1 : Int32)), (.ref b5)]) (lenOf pd_7 rfl) rfl d12_76 rfl rfl (by decide) (Nat.le_of_ble_eq_true rfl) (by decide) (by decide) ?_
  intro v h67 hQ
  obtain ⟨rfl, rfl⟩ := hQ
  refine Wk.v1 ?_
  refine w_iastore C (q := 80) A_b5 (by decide) (Nat.le_of_ble_eq_true rfl) d12_79 rfl g_b5 ?_
  intro h68 Wh68 A'
  replace A_b5 : Ars Z h68 b5 k_b5 .int [(.int (0 : Int32)), (.int y0), (.int last)] := A'
  skip
  replace E_s1 := E_s1.wr Wh68
  replace F_parents := F_parents.other Wh68 (Or.inl (Nat.ne_of_lt lt_s1_b5))
  replace F_inputs := F_inputs.other Wh68 (Or.inl (Nat.ne_of_lt lt_s1_b5))
  replace I3 := I3.wr Wh68 (Nat.ne_of_lt lt_l3_b5) (Nat.ne_of_lt lt_b3_b5)
  replace I4 := I4.wr Wh68 (Nat.ne_of_lt lt_l4_b5) (Nat.ne_of_lt lt_b4_b5)
  replace Z0 := Nat.le_trans Z0 (Nat.le_of_eq (Wr.size Wh68).symm)
  replace K := K.wr Wh68 (Or.inr sz_b5)
  refine w_iinc C (q := 83) (-1 : Int32) #[.val (.ref s1), .val (.int i0), .val (.int last), .val (.int (3 : Int32)), .val (.ref b5), .val (.int (0 : Int32)), .val (.int i0)] d12_80 rfl (by decide) rfl rfl ?_
  refine w_aloadN C (q := 84) d12_83 rfl rfl rfl ?_
  refine w_getF C (q := 87) (host := "") (Or.inl (hw _ (List.mem_of_getElem? (i := 34) rfl))) Via.refl F_parents d12_84 rfl ?_
  refine w_iload C (q := 89) d12_87 rfl rfl ?_
  refine w_virtual C (q := 92) (y := ⟨"com/example/logic_to_machines/logictomachines/IntList", "get", "(I)I"⟩) (z := ⟨"com/example/logic_to_machines/logictomachines/IntList", "get", "(I)I"⟩) (rm := ({ frames := 0, cells := 0, slots := 0, locals := 0 } : Room)) (a := l3) (argsL := [(.int i0)]) (hw _ (List.mem_of_getElem? (i := 72) rfl)) (hw _ (List.mem_of_getElem? (i := 73) rfl)) (hw _ (List.mem_of_getElem? (i := 75) rfl)) (hw _ (List.mem_of_getElem? (i := 75) rfl)) (hw _ (List.mem_of_getElem? (i := 74) rfl)) (hw _ (List.mem_of_getElem? (i := 23) rfl)) (hw _ (List.mem_of_getElem? (i := 76) rfl)) I3.1 (rmGet l Z a0 hw l3 i0 _ n0 Z0 b3 k3 f3 i1 I3.2.1 I3.2.2.2 hi0 hp0) (by decide) (rest := []) (lenOf pd_7 rfl) rfl d12_89 rfl rfl (by decide) (Nat.le_of_ble_eq_true rfl) (by decide) (by decide) ?_
  intro v h69 hQ
  obtain ⟨rfl, rfl⟩ := hQ
  refine Wk.v1 ?_
  refine w_istore C (q := 94) #[.val (.ref s1), .val (.int i0), .val (.int last), .val (.int (3 : Int32)), .val (.ref b5), .val (.int (0 : Int32)), .val (.int i1)] d12_92 rfl rfl ?_
  refine w_goto C (q := 54) d12_94 (by decide) (by decide) ?_
  refine w_aloadN C (q := 55) d12_54 rfl rfl rfl ?_
  refine w_getF C (q := 58) (host := "") (Or.inl (hw _ (List.mem_of_getElem? (i := 34) rfl))) Via.refl F_parents d12_55 rfl ?_
  refine w_iload C (q := 60) d12_58 rfl rfl ?_
  refine w_virtual C (q := 63) (y := ⟨"com/example/logic_to_machines/logictomachines/IntList", "get", "(I)I"⟩) (z := ⟨"com/example/logic_to_machines/logictomachines/IntList", "get", "(I)I"⟩) (rm := ({ frames := 0, cells := 0, slots := 0, locals := 0 } : Room)) (a := l3) (argsL := [(.int i1)]) (hw _ (List.mem_of_getElem? (i := 72) rfl)) (hw _ (List.mem_of_getElem? (i := 73) rfl)) (hw _ (List.mem_of_getElem? (i := 75) rfl)) (hw _ (List.mem_of_getElem? (i := 75) rfl)) (hw _ (List.mem_of_getElem? (i := 74) rfl)) (hw _ (List.mem_of_getElem? (i := 23) rfl)) (hw _ (List.mem_of_getElem? (i := 76) rfl)) I3.1 (rmGet l Z a0 hw l3 i1 _ n0 Z0 b3 k3 f3 i2 I3.2.1 I3.2.2.2 hi1 hp1) (by decide) (rest := []) (lenOf pd_7 rfl) rfl d12_60 rfl rfl (by decide) (Nat.le_of_ble_eq_true rfl) (by decide) (by decide) ?_
  intro v h70 hQ
  obtain ⟨rfl, rfl⟩ := hQ
  refine Wk.v1 ?_
  refine w_iflt_f C (q := 66) d12_63 rfl hi2 ?_
  refine w_aload C (q := 68) d12_66 rfl rfl rfl ?_
  refine w_iload C (q := 70) d12_68 rfl rfl ?_
  refine w_aloadN C (q := 71) d12_70 rfl rfl rfl ?_
  refine w_getF C (q := 74) (host := "") (Or.inl (hw _ (List.mem_of_getElem? (i := 36) rfl))) Via.refl F_inputs d12_71 rfl ?_
  refine w_iload C (q := 76) d12_74 rfl rfl ?_
  refine w_virtual C (q := 79) (y := ⟨"com/example/logic_to_machines/logictomachines/IntList", "get", "(I)I"⟩) (z := ⟨"com/example/logic_to_machines/logictomachines/IntList", "get", "(I)I"⟩) (rm := ({ frames := 0, cells := 0, slots := 0, locals := 0 } : Room)) (a := l4) (argsL := [(.int i1)]) (hw _ (List.mem_of_getElem? (i := 72) rfl)) (hw _ (List.mem_of_getElem? (i := 73) rfl)) (hw _ (List.mem_of_getElem? (i := 75) rfl)) (hw _ (List.mem_of_getElem? (i := 75) rfl)) (hw _ (List.mem_of_getElem? (i := 74) rfl)) (hw _ (List.mem_of_getElem? (i := 23) rfl)) (hw _ (List.mem_of_getElem? (i := 76) rfl)) I4.1 (rmGet l Z a0 hw l4 i1 _ n0 Z0 b4 k4 f4 y1 I4.2.1 I4.2.2.2 hi1 hx1) (by decide) (rest := [(.int (0 : Int32)), (.ref b5)]) (lenOf pd_7 rfl) rfl d12_76 rfl rfl (by decide) (Nat.le_of_ble_eq_true rfl) (by decide) (by decide) ?_
  intro v h71 hQ
  obtain ⟨rfl, rfl⟩ := hQ
  refine Wk.v1 ?_
  refine w_iastore C (q := 80) A_b5 (by decide) (Nat.le_of_ble_eq_true rfl) d12_79 rfl g_b5 ?_
  intro h72 Wh72 A'
  replace A_b5 : Ars Z h72 b5 k_b5 .int [(.int y1), (.int y0), (.int last)] := A'
  skip
  replace E_s1 := E_s1.wr Wh72
  replace F_parents := F_parents.other Wh72 (Or.inl (Nat.ne_of_lt lt_s1_b5))
  replace F_inputs := F_inputs.other Wh72 (Or.inl (Nat.ne_of_lt lt_s1_b5))
  replace I3 := I3.wr Wh72 (Nat.ne_of_lt lt_l3_b5) (Nat.ne_of_lt lt_b3_b5)
  replace I4 := I4.wr Wh72 (Nat.ne_of_lt lt_l4_b5) (Nat.ne_of_lt lt_b4_b5)
  replace Z0 := Nat.le_trans Z0 (Nat.le_of_eq (Wr.size Wh72).symm)
  replace K := K.wr Wh72 (Or.inr sz_b5)
  refine w_iinc C (q := 83) (-1 : Int32) #[.val (.ref s1), .val (.int i0), .val (.int last), .val (.int (3 : Int32)), .val (.ref b5), .val (.int (-1 : Int32)), .val (.int i1)] d12_80 rfl (by decide) rfl rfl ?_
  refine w_aloadN C (q := 84) d12_83 rfl rfl rfl ?_
  refine w_getF C (q := 87) (host := "") (Or.inl (hw _ (List.mem_of_getElem? (i := 34) rfl))) Via.refl F_parents d12_84 rfl ?_
  refine w_iload C (q := 89) d12_87 rfl rfl ?_
  refine w_virtual C (q := 92) (y := ⟨"com/example/logic_to_machines/logictomachines/IntList", "get", "(I)I"⟩) (z := ⟨"com/example/logic_to_machines/logictomachines/IntList", "get", "(I)I"⟩) (rm := ({ frames := 0, cells := 0, slots := 0, locals := 0 } : Room)) (a := l3) (argsL := [(.int i1)]) (hw _ (List.mem_of_getElem? (i := 72) rfl)) (hw _ (List.mem_of_getElem? (i := 73) rfl)) (hw _ (List.mem_of_getElem? (i := 75) rfl)) (hw _ (List.mem_of_getElem? (i := 75) rfl)) (hw _ (List.mem_of_getElem? (i := 74) rfl)) (hw _ (List.mem_of_getElem? (i := 23) rfl)) (hw _ (List.mem_of_getElem? (i := 76) rfl)) I3.1 (rmGet l Z a0 hw l3 i1 _ n0 Z0 b3 k3 f3 i2 I3.2.1 I3.2.2.2 hi1 hp1) (by decide) (rest := []) (lenOf pd_7 rfl) rfl d12_89 rfl rfl (by decide) (Nat.le_of_ble_eq_true rfl) (by decide) (by decide) ?_
  intro v h73 hQ
  obtain ⟨rfl, rfl⟩ := hQ
  refine Wk.v1 ?_
  refine w_istore C (q := 94) #[.val (.ref s1), .val (.int i0), .val (.int last), .val (.int (3 : Int32)), .val (.ref b5), .val (.int (-1 : Int32)), .val (.int i2)] d12_92 rfl rfl ?_
  refine w_goto C (q := 54) d12_94 (by decide) (by decide) ?_
  refine w_aloadN C (q := 55) d12_54 rfl rfl rfl ?_
  refine w_getF C (q := 58) (host := "") (Or.inl (hw _ (List.mem_of_getElem? (i := 34) rfl))) Via.refl F_parents d12_55 rfl ?_
  refine w_iload C (q := 60) d12_58 rfl rfl ?_
  refine w_virtual C (q := 63) (y := ⟨"com/example/logic_to_machines/logictomachines/IntList", "get", "(I)I"⟩) (z := ⟨"com/example/logic_to_machines/logictomachines/IntList", "get", "(I)I"⟩) (rm := ({ frames := 0, cells := 0, slots := 0, locals := 0 } : Room)) (a := l3) (argsL := [(.int i2)]) (hw _ (List.mem_of_getElem? (i := 72) rfl)) (hw _ (List.mem_of_getElem? (i := 73) rfl)) (hw _ (List.mem_of_getElem? (i := 75) rfl)) (hw _ (List.mem_of_getElem? (i := 75) rfl)) (hw _ (List.mem_of_getElem? (i := 74) rfl)) (hw _ (List.mem_of_getElem? (i := 23) rfl)) (hw _ (List.mem_of_getElem? (i := 76) rfl)) I3.1 (rmGet l Z a0 hw l3 i2 _ n0 Z0 b3 k3 f3 r I3.2.1 I3.2.2.2 hi2 hp2) (by decide) (rest := []) (lenOf pd_7 rfl) rfl d12_60 rfl rfl (by decide) (Nat.le_of_ble_eq_true rfl) (by decide) (by decide) ?_
  intro v h74 hQ
  obtain ⟨rfl, rfl⟩ := hQ
  refine Wk.v1 ?_
  refine w_iflt_t C (q := 97) d12_63 (by decide) (by decide) hr ?_
  refine w_aload C (q := 99) d12_97 rfl rfl rfl ?_
  exact w_retA C rfl rfl d12_99 (by decide) (by decide) ⟨b5, k_b5, rfl, sz_b5, K, A_b5⟩
theorem ef_W3 (m : MethodId) (s1 : Nat) (i0 : Int32) (last : Int32) : entryFrame m #[(.ref s1), (.int i0), (.int last)] 7 = mkF m 0 #[.val (.ref s1), .val (.int i0), .val (.int last), .unset, .unset, .unset, .unset] [] := by first | (simp [entryFrame, mkF, argsToLocals, Value.category]; done) | rfl
set_option maxRecDepth 65536 in
set_option maxHeartbeats 40000000 in
theorem rmW3 (l : Launch) (Z : State) (a0 : Array Value) (hw : ∀ d ∈ tables_1, d.before a0 Z = true) (s1 : Nat) (i0 : Int32) (last : Int32) (h0 : Heap) (n0 : Nat) (Z0 : n0 ≤ h0.size) (m1 l1 b1 l2 b2 l3 b3 l4 b4 : Nat) (km k1 k2 k3 k4 : ClassId) (ms f1 f2 f3 f4 : List Value) (n : Int32) (hPS : PS Z h0 s1 m1 l1 b1 l2 b2 l3 b3 l4 b4 km k1 k2 k3 k4 ms f1 f2 f3 f4 n) (i1 : Int32) (i2 : Int32) (i3 : Int32) (r : Int32) (y0 : Int32) (y1 : Int32) (y2 : Int32) (hi0 : ¬ i0 < 0) (hi1 : ¬ i1 < 0) (hi2 : ¬ i2 < 0) (hi3 : ¬ i3 < 0) (hr : r < 0) (hp0 : f3[i0.toNatClampNeg]? = some (.int i1)) (hp1 : f3[i1.toNatClampNeg]? = some (.int i2)) (hp2 : f3[i2.toNatClampNeg]? = some (.int i3)) (hp3 : f3[i3.toNatClampNeg]? = some (.int r)) (hx0 : f4[i0.toNatClampNeg]? = some (.int y0)) (hx1 : f4[i1.toNatClampNeg]? = some (.int y1)) (hx2 : f4[i2.toNatClampNeg]? = some (.int y2)) :
    Met1 l Z ⟨"com/example/logic_to_machines/logictomachines/PairSearch", "wordTo", "(II)[I"⟩ prog_32_method_6_code 7 (some (.array .int)) ({ frames := 1, cells := 1, slots := 4, locals := 16 } : Room) #[(.ref s1), (.int i0), (.int last)] h0 n0 (fun v h => ∃ (b : Nat) (k : ClassId), v = some (.ref b) ∧ h0.size ≤ b ∧ Keep h0 h [] ∧ Ars Z h b k .int [(.int y2), (.int y1), (.int y0), (.int last)]) := by
  refine Met1.of_body pn_12 (fun p e s m below meth c C => ?_)
  replace C : Cx p s m meth c Z "com/example/logic_to_machines/logictomachines/PairSearch" "wordTo" prog_32_method_6_code 7 (some (.array .int)) := C
  refine Wk.cast (ef_W3 m s1 i0 last) ?_
  obtain ⟨E_s1, F_met, F_firsts, F_seconds, F_parents, F_inputs, A_m, I1, I2, I3, I4, o1, o2, o3, o4, o5, o6, o7, o8, o9⟩ := hPS
  replace o1 : (s1 : Nat) < (m1 : Nat) := o1
  replace o2 : (m1 : Nat) < (l1 : Nat) := o2
  replace o3 : (l1 : Nat) < (b1 : Nat) := o3
  replace o4 : (b1 : Nat) < (l2 : Nat) := o4
  replace o5 : (l2 : Nat) < (b2 : Nat) := o5
  replace o6 : (b2 : Nat) < (l3 : Nat) := o6
  replace o7 : (l3 : Nat) < (b3 : Nat) := o7
  replace o8 : (b3 : Nat) < (l4 : Nat) := o8
  replace o9 : (l4 : Nat) < (b4 : Nat) := o9
  have K : Keep h0 h0 [] := Keep.refl _ _
  refine w_iconst C (q := 1) (1 : Int32) d12_0 rfl (by decide) ?_
  refine w_istoreN C (q := 2) #[.val (.ref s1), .val (.int i0), .val (.int last), .val (.int (1 : Int32)), .unset, .unset, .unset] d12_1 rfl rfl ?_
  refine w_iloadN C (q := 3) d12_2 rfl rfl ?_
  refine w_istore C (q := 5) #[.val (.ref s1), .val (.int i0), .val (.int last), .val (.int (1 : Int32)), .val (.int i0), .unset, .unset] d12_3 rfl rfl ?_
  refine w_aloadN C (q := 6) d12_5 rfl rfl rfl ?_
  refine w_getF C (q := 9) (host := "") (Or.inl (hw _ (List.mem_of_getElem? (i := 34) rfl))) Via.refl F_parents d12_6 rfl ?_
  refine w_iload C (q := 11) d12_9 rfl rfl ?_
  refine w_virtual C (q := 14) (y := ⟨"com/example/logic_to_machines/logictomachines/IntList", "get", "(I)I"⟩) (z := ⟨"com/example/logic_to_machines/logictomachines/IntList", "get", "(I)I"⟩) (rm := ({ frames := 0, cells := 0, slots := 0, locals := 0 } : Room)) (a := l3) (argsL := [(.int i0)]) (hw _ (List.mem_of_getElem? (i := 72) rfl)) (hw _ (List.mem_of_getElem? (i := 73) rfl)) (hw _ (List.mem_of_getElem? (i := 75) rfl)) (hw _ (List.mem_of_getElem? (i := 75) rfl)) (hw _ (List.mem_of_getElem? (i := 74) rfl)) (hw _ (List.mem_of_getElem? (i := 23) rfl)) (hw _ (List.mem_of_getElem? (i := 76) rfl)) I3.1 (rmGet l Z a0 hw l3 i0 _ n0 Z0 b3 k3 f3 i1 I3.2.1 I3.2.2.2 hi0 hp0) (by decide) (rest := []) (lenOf pd_7 rfl) rfl d12_11 rfl rfl (by decide) (Nat.le_of_ble_eq_true rfl) (by decide) (by decide) ?_
  intro v h75 hQ
  obtain ⟨rfl, rfl⟩ := hQ
  refine Wk.v1 ?_
  refine w_iflt_f C (q := 17) d12_14 rfl hi1 ?_
  refine w_iinc C (q := 20) (1 : Int32) #[.val (.ref s1), .val (.int i0), .val (.int last), .val (.int (2 : Int32)), .val (.int i0), .unset, .unset] d12_17 rfl (by decide) rfl rfl ?_
  refine w_aloadN C (q := 21) d12_20 rfl rfl rfl ?_
  refine w_getF C (q := 24) (host := "") (Or.inl (hw _ (List.mem_of_getElem? (i := 34) rfl))) Via.refl F_parents d12_21 rfl ?_
  refine w_iload C (q := 26) d12_24 rfl rfl ?_
  refine w_virtual C (q := 29) (y := ⟨"com/example/logic_to_machines/logictomachines/IntList", "get", "(I)I"⟩) (z := ⟨"com/example/logic_to_machines/logictomachines/IntList", "get", "(I)I"⟩) (rm := ({ frames := 0, cells := 0, slots := 0, locals := 0 } : Room)) (a := l3) (argsL := [(.int i0)]) (hw _ (List.mem_of_getElem? (i := 72) rfl)) (hw _ (List.mem_of_getElem? (i := 73) rfl)) (hw _ (List.mem_of_getElem? (i := 75) rfl)) (hw _ (List.mem_of_getElem? (i := 75) rfl)) (hw _ (List.mem_of_getElem? (i := 74) rfl)) (hw _ (List.mem_of_getElem? (i := 23) rfl)) (hw _ (List.mem_of_getElem? (i := 76) rfl)) I3.1 (rmGet l Z a0 hw l3 i0 _ n0 Z0 b3 k3 f3 i1 I3.2.1 I3.2.2.2 hi0 hp0) (by decide) (rest := []) (lenOf pd_7 rfl) rfl d12_26 rfl rfl (by decide) (Nat.le_of_ble_eq_true rfl) (by decide) (by decide) ?_
  intro v h76 hQ
  obtain ⟨rfl, rfl⟩ := hQ
  refine Wk.v1 ?_
  refine w_istore C (q := 31) #[.val (.ref s1), .val (.int i0), .val (.int last), .val (.int (2 : Int32)), .val (.int i1), .unset, .unset] d12_29 rfl rfl ?_
  refine w_goto C (q := 5) d12_31 (by decide) (by decide) ?_
  refine w_aloadN C (q := 6) d12_5 rfl rfl rfl ?_
  refine w_getF C (q := 9) (host := "") (Or.inl (hw _ (List.mem_of_getElem? (i := 34) rfl))) Via.refl F_parents d12_6 rfl ?_
  refine w_iload C (q := 11) d12_9 rfl rfl ?_
  refine w_virtual C (q := 14) (y := ⟨"com/example/logic_to_machines/logictomachines/IntList", "get", "(I)I"⟩) (z := ⟨"com/example/logic_to_machines/logictomachines/IntList", "get", "(I)I"⟩) (rm := ({ frames := 0, cells := 0, slots := 0, locals := 0 } : Room)) (a := l3) (argsL := [(.int i1)]) (hw _ (List.mem_of_getElem? (i := 72) rfl)) (hw _ (List.mem_of_getElem? (i := 73) rfl)) (hw _ (List.mem_of_getElem? (i := 75) rfl)) (hw _ (List.mem_of_getElem? (i := 75) rfl)) (hw _ (List.mem_of_getElem? (i := 74) rfl)) (hw _ (List.mem_of_getElem? (i := 23) rfl)) (hw _ (List.mem_of_getElem? (i := 76) rfl)) I3.1 (rmGet l Z a0 hw l3 i1 _ n0 Z0 b3 k3 f3 i2 I3.2.1 I3.2.2.2 hi1 hp1) (by decide) (rest := []) (lenOf pd_7 rfl) rfl d12_11 rfl rfl (by decide) (Nat.le_of_ble_eq_true rfl) (by decide) (by decide) ?_
  intro v h77 hQ
  obtain ⟨rfl, rfl⟩ := hQ
  refine Wk.v1 ?_
  refine w_iflt_f C (q := 17) d12_14 rfl hi2 ?_
  refine w_iinc C (q := 20) (1 : Int32) #[.val (.ref s1), .val (.int i0), .val (.int last), .val (.int (3 : Int32)), .val (.int i1), .unset, .unset] d12_17 rfl (by decide) rfl rfl ?_
  refine w_aloadN C (q := 21) d12_20 rfl rfl rfl ?_
  refine w_getF C (q := 24) (host := "") (Or.inl (hw _ (List.mem_of_getElem? (i := 34) rfl))) Via.refl F_parents d12_21 rfl ?_
  refine w_iload C (q := 26) d12_24 rfl rfl ?_
  refine w_virtual C (q := 29) (y := ⟨"com/example/logic_to_machines/logictomachines/IntList", "get", "(I)I"⟩) (z := ⟨"com/example/logic_to_machines/logictomachines/IntList", "get", "(I)I"⟩) (rm := ({ frames := 0, cells := 0, slots := 0, locals := 0 } : Room)) (a := l3) (argsL := [(.int i1)]) (hw _ (List.mem_of_getElem? (i := 72) rfl)) (hw _ (List.mem_of_getElem? (i := 73) rfl)) (hw _ (List.mem_of_getElem? (i := 75) rfl)) (hw _ (List.mem_of_getElem? (i := 75) rfl)) (hw _ (List.mem_of_getElem? (i := 74) rfl)) (hw _ (List.mem_of_getElem? (i := 23) rfl)) (hw _ (List.mem_of_getElem? (i := 76) rfl)) I3.1 (rmGet l Z a0 hw l3 i1 _ n0 Z0 b3 k3 f3 i2 I3.2.1 I3.2.2.2 hi1 hp1) (by decide) (rest := []) (lenOf pd_7 rfl) rfl d12_26 rfl rfl (by decide) (Nat.le_of_ble_eq_true rfl) (by decide) (by decide) ?_
  intro v h78 hQ
  obtain ⟨rfl, rfl⟩ := hQ
  refine Wk.v1 ?_
  refine w_istore C (q := 31) #[.val (.ref s1), .val (.int i0), .val (.int last), .val (.int (3 : Int32)), .val (.int i2), .unset, .unset] d12_29 rfl rfl ?_
  refine w_goto C (q := 5) d12_31 (by decide) (by decide) ?_
  refine w_aloadN C (q := 6) d12_5 rfl rfl rfl ?_
  refine w_getF C (q := 9) (host := "") (Or.inl (hw _ (List.mem_of_getElem? (i := 34) rfl))) Via.refl F_parents d12_6 rfl ?_
  refine w_iload C (q := 11) d12_9 rfl rfl ?_
  refine w_virtual C (q := 14) (y := ⟨"com/example/logic_to_machines/logictomachines/IntList", "get", "(I)I"⟩) (z := ⟨"com/example/logic_to_machines/logictomachines/IntList", "get", "(I)I"⟩) (rm := ({ frames := 0, cells := 0, slots := 0, locals := 0 } : Room)) (a := l3) (argsL := [(.int i2)]) (hw _ (List.mem_of_getElem? (i := 72) rfl)) (hw _ (List.mem_of_getElem? (i := 73) rfl)) (hw _ (List.mem_of_getElem? (i := 75) rfl)) (hw _ (List.mem_of_getElem? (i := 75) rfl)) (hw _ (List.mem_of_getElem? (i := 74) rfl)) (hw _ (List.mem_of_getElem? (i := 23) rfl)) (hw _ (List.mem_of_getElem? (i := 76) rfl)) I3.1 (rmGet l Z a0 hw l3 i2 _ n0 Z0 b3 k3 f3 i3 I3.2.1 I3.2.2.2 hi2 hp2) (by decide) (rest := []) (lenOf pd_7 rfl) rfl d12_11 rfl rfl (by decide) (Nat.le_of_ble_eq_true rfl) (by decide) (by decide) ?_
  intro v h79 hQ
  obtain ⟨rfl, rfl⟩ := hQ
  refine Wk.v1 ?_
  refine w_iflt_f C (q := 17) d12_14 rfl hi3 ?_
  refine w_iinc C (q := 20) (1 : Int32) #[.val (.ref s1), .val (.int i0), .val (.int last), .val (.int (4 : Int32)), .val (.int i2), .unset, .unset] d12_17 rfl (by decide) rfl rfl ?_
  refine w_aloadN C (q := 21) d12_20 rfl rfl rfl ?_
  refine w_getF C (q := 24) (host := "") (Or.inl (hw _ (List.mem_of_getElem? (i := 34) rfl))) Via.refl F_parents d12_21 rfl ?_
  refine w_iload C (q := 26) d12_24 rfl rfl ?_
  refine w_virtual C (q := 29) (y := ⟨"com/example/logic_to_machines/logictomachines/IntList", "get", "(I)I"⟩) (z := ⟨"com/example/logic_to_machines/logictomachines/IntList", "get", "(I)I"⟩) (rm := ({ frames := 0, cells := 0, slots := 0, locals := 0 } : Room)) (a := l3) (argsL := [(.int i2)]) (hw _ (List.mem_of_getElem? (i := 72) rfl)) (hw _ (List.mem_of_getElem? (i := 73) rfl)) (hw _ (List.mem_of_getElem? (i := 75) rfl)) (hw _ (List.mem_of_getElem? (i := 75) rfl)) (hw _ (List.mem_of_getElem? (i := 74) rfl)) (hw _ (List.mem_of_getElem? (i := 23) rfl)) (hw _ (List.mem_of_getElem? (i := 76) rfl)) I3.1 (rmGet l Z a0 hw l3 i2 _ n0 Z0 b3 k3 f3 i3 I3.2.1 I3.2.2.2 hi2 hp2) (by decide) (rest := []) (lenOf pd_7 rfl) rfl d12_26 rfl rfl (by decide) (Nat.le_of_ble_eq_true rfl) (by decide) (by decide) ?_
  intro v h80 hQ
  obtain ⟨rfl, rfl⟩ := hQ
  refine Wk.v1 ?_
  refine w_istore C (q := 31) #[.val (.ref s1), .val (.int i0), .val (.int last), .val (.int (4 : Int32)), .val (.int i3), .unset, .unset] d12_29 rfl rfl ?_
  refine w_goto C (q := 5) d12_31 (by decide) (by decide) ?_
  refine w_aloadN C (q := 6) d12_5 rfl rfl rfl ?_
  refine w_getF C (q := 9) (host := "") (Or.inl (hw _ (List.mem_of_getElem? (i := 34) rfl))) Via.refl F_parents d12_6 rfl ?_
  refine w_iload C (q := 11) d12_9 rfl rfl ?_
  refine w_virtual C (q := 14) (y := ⟨"com/example/logic_to_machines/logictomachines/IntList", "get", "(I)I"⟩) (z := ⟨"com/example/logic_to_machines/logictomachines/IntList", "get", "(I)I"⟩) (rm := ({ frames := 0, cells := 0, slots := 0, locals := 0 } : Room)) (a := l3) (argsL := [(.int i3)]) (hw _ (List.mem_of_getElem? (i := 72) rfl)) (hw _ (List.mem_of_getElem? (i := 73) rfl)) (hw _ (List.mem_of_getElem? (i := 75) rfl)) (hw _ (List.mem_of_getElem? (i := 75) rfl)) (hw _ (List.mem_of_getElem? (i := 74) rfl)) (hw _ (List.mem_of_getElem? (i := 23) rfl)) (hw _ (List.mem_of_getElem? (i := 76) rfl)) I3.1 (rmGet l Z a0 hw l3 i3 _ n0 Z0 b3 k3 f3 r I3.2.1 I3.2.2.2 hi3 hp3) (by decide) (rest := []) (lenOf pd_7 rfl) rfl d12_11 rfl rfl (by decide) (Nat.le_of_ble_eq_true rfl) (by decide) (by decide) ?_
  intro v h81 hQ
  obtain ⟨rfl, rfl⟩ := hQ
  refine Wk.v1 ?_
  refine w_iflt_t C (q := 34) d12_14 (by decide) (by decide) hr ?_
  refine w_iloadN C (q := 35) d12_34 rfl rfl ?_
  refine w_newP C (q := 37) (hw _ (List.mem_of_getElem? (i := 0) rfl)) d12_35 rfl (by decide) 4 (by decide) (by decide) (by decide) (by decide) ?_
  intro h82 b5 k_b5 eq_b5 Ehh82 A_b5
  replace A_b5 : Ars Z h82 b5 k_b5 .int [(.int (0 : Int32)), (.int (0 : Int32)), (.int (0 : Int32)), (.int (0 : Int32))] := A_b5
  have lt_s1_b5 : (s1 : Nat) < (b5 : Nat) := Nat.lt_of_lt_of_le E_s1.lt (Nat.le_of_eq eq_b5.symm)
  have lt_l3_b5 : (l3 : Nat) < (b5 : Nat) := Nat.lt_of_lt_of_le I3.1.lt (Nat.le_of_eq eq_b5.symm)
  have lt_b3_b5 : (b3 : Nat) < (b5 : Nat) := Nat.lt_of_lt_of_le I3.2.2.2.lt (Nat.le_of_eq eq_b5.symm)
  have lt_l4_b5 : (l4 : Nat) < (b5 : Nat) := Nat.lt_of_lt_of_le I4.1.lt (Nat.le_of_eq eq_b5.symm)
  have lt_b4_b5 : (b4 : Nat) < (b5 : Nat) := Nat.lt_of_lt_of_le I4.2.2.2.lt (Nat.le_of_eq eq_b5.symm)
  have g_b5 : n0 ≤ b5 := Nat.le_trans Z0 (Nat.le_of_eq eq_b5.symm)
  have sz_b5 : h0.size ≤ b5 := Nat.le_trans K.1 (Nat.le_of_eq eq_b5.symm)
  replace Z0 := Nat.le_trans Z0 Ehh82.1
  replace E_s1 := E_s1.ext Ehh82
  replace F_parents := F_parents.ext Ehh82
  replace F_inputs := F_inputs.ext Ehh82
  replace I3 := I3.ext Ehh82
  replace I4 := I4.ext Ehh82
  replace K := K.ext Ehh82
  refine w_astore C (q := 39) #[.val (.ref s1), .val (.int i0), .val (.int last), .val (.int (4 : Int32)), .val (.ref b5), .unset, .unset] d12_37 rfl rfl rfl ?_
  refine w_aload C (q := 41) d12_39 rfl rfl rfl ?_
  refine w_iloadN C (q := 42) d12_41 rfl rfl ?_
  refine w_iconst C (q := 43) (1 : Int32) d12_42 rfl (by decide) ?_
  refine w_isub C (q := 44) d12_43 rfl ?_
  refine w_iloadN C (q := 45) d12_44 rfl rfl ?_
  refine w_iastore C (q := 46) A_b5 (by decide) (Nat.le_of_ble_eq_true rfl) d12_45 rfl g_b5 ?_
  intro h83 Wh83 A'
  replace A_b5 : Ars Z h83 b5 k_b5 .int [(.int (0 : Int32)), (.int (0 : Int32)), (.int (0 : Int32)), (.int last)] := A'
  skip
  replace E_s1 := E_s1.wr Wh83
  replace F_parents := F_parents.other Wh83 (Or.inl (Nat.ne_of_lt lt_s1_b5))
  replace F_inputs := F_inputs.other Wh83 (Or.inl (Nat.ne_of_lt lt_s1_b5))
  replace I3 := I3.wr Wh83 (Nat.ne_of_lt lt_l3_b5) (Nat.ne_of_lt lt_b3_b5)
  replace I4 := I4.wr Wh83 (Nat.ne_of_lt lt_l4_b5) (Nat.ne_of_lt lt_b4_b5)
  replace Z0 := Nat.le_trans Z0 (Nat.le_of_eq (Wr.size Wh83).symm)
  replace K := K.wr Wh83 (Or.inr sz_b5)
  refine w_iloadN C (q := 47) d12_46 rfl rfl ?_
  refine w_iconst C (q := 48) (2 : Int32) d12_47 rfl (by decide) ?_
  refine w_isub C (q := 49) d12_48 rfl ?_
  refine w_istore C (q := 51) #[.val (.ref s1), .val (.int i0), .val (.int last), .val (.int (4 : Int32)), .val (.ref b5), .val (.int (2 : Int32)), .unset] d12_49 rfl rfl ?_
  refine w_iloadN C (q := 52) d12_51 rfl rfl ?_
  refine w_istore C (q := 54) #[.val (.ref s1), .val (.int i0), .val (.int last), .val (.int (4 : Int32)), .val (.ref b5), .val (.int (2 : Int32)), .val (.int i0)] d12_52 rfl rfl ?_
  refine w_aloadN C (q := 55) d12_54 rfl rfl rfl ?_
  refine w_getF C (q := 58) (host := "") (Or.inl (hw _ (List.mem_of_getElem? (i := 34) rfl))) Via.refl F_parents d12_55 rfl ?_
  refine w_iload C (q := 60) d12_58 rfl rfl ?_
  refine w_virtual C (q := 63) (y := ⟨"com/example/logic_to_machines/logictomachines/IntList", "get", "(I)I"⟩) (z := ⟨"com/example/logic_to_machines/logictomachines/IntList", "get", "(I)I"⟩) (rm := ({ frames := 0, cells := 0, slots := 0, locals := 0 } : Room)) (a := l3) (argsL := [(.int i0)]) (hw _ (List.mem_of_getElem? (i := 72) rfl)) (hw _ (List.mem_of_getElem? (i := 73) rfl)) (hw _ (List.mem_of_getElem? (i := 75) rfl)) (hw _ (List.mem_of_getElem? (i := 75) rfl)) (hw _ (List.mem_of_getElem? (i := 74) rfl)) (hw _ (List.mem_of_getElem? (i := 23) rfl)) (hw _ (List.mem_of_getElem? (i := 76) rfl)) I3.1 (rmGet l Z a0 hw l3 i0 _ n0 Z0 b3 k3 f3 i1 I3.2.1 I3.2.2.2 hi0 hp0) (by decide) (rest := []) (lenOf pd_7 rfl) rfl d12_60 rfl rfl (by decide) (Nat.le_of_ble_eq_true rfl) (by decide) (by decide) ?_
  intro v h84 hQ
  obtain ⟨rfl, rfl⟩ := hQ
  refine Wk.v1 ?_
  refine w_iflt_f C (q := 66) d12_63 rfl hi1 ?_
  refine w_aload C (q := 68) d12_66 rfl rfl rfl ?_
  refine w_iload C (q := 70) d12_68 rfl rfl ?_
  refine w_aloadN C (q := 71) d12_70 rfl rfl rfl ?_
  refine w_getF C (q := 74) (host := "") (Or.inl (hw _ (List.mem_of_getElem? (i := 36) rfl))) Via.refl F_inputs d12_71 rfl ?_
  refine w_iload C (q := 76) d12_74 rfl rfl ?_
  refine w_virtual C (q := 79) (y := ⟨"com/example/logic_to_machines/logictomachines/IntList", "get", "(I)I"⟩) (z := ⟨"com/example/logic_to_machines/logictomachines/IntList", "get", "(I)I"⟩) (rm := ({ frames := 0, cells := 0, slots := 0, locals := 0 } : Room)) (a := l4) (argsL := [(.int i0)]) (hw _ (List.mem_of_getElem? (i := 72) rfl)) (hw _ (List.mem_of_getElem? (i := 73) rfl)) (hw _ (List.mem_of_getElem? (i := 75) rfl)) (hw _ (List.mem_of_getElem? (i := 75) rfl)) (hw _ (List.mem_of_getElem? (i := 74) rfl)) (hw _ (List.mem_of_getElem? (i := 23) rfl)) (hw _ (List.mem_of_getElem? (i := 76) rfl)) I4.1 (rmGet l Z a0 hw l4 i0 _ n0 Z0 b4 k4 f4 y0 I4.2.1 I4.2.2.2 hi0 hx0) (by decide) (rest := [(.int (2 : Int32)), (.ref b5)]) (lenOf pd_7 rfl) rfl d12_76 rfl rfl (by decide) (Nat.le_of_ble_eq_true rfl) (by decide) (by decide) ?_
  intro v h85 hQ
  obtain ⟨rfl, rfl⟩ := hQ
  refine Wk.v1 ?_
  refine w_iastore C (q := 80) A_b5 (by decide) (Nat.le_of_ble_eq_true rfl) d12_79 rfl g_b5 ?_
  intro h86 Wh86 A'
  replace A_b5 : Ars Z h86 b5 k_b5 .int [(.int (0 : Int32)), (.int (0 : Int32)), (.int y0), (.int last)] := A'
  skip
  replace E_s1 := E_s1.wr Wh86
  replace F_parents := F_parents.other Wh86 (Or.inl (Nat.ne_of_lt lt_s1_b5))
  replace F_inputs := F_inputs.other Wh86 (Or.inl (Nat.ne_of_lt lt_s1_b5))
  replace I3 := I3.wr Wh86 (Nat.ne_of_lt lt_l3_b5) (Nat.ne_of_lt lt_b3_b5)
  replace I4 := I4.wr Wh86 (Nat.ne_of_lt lt_l4_b5) (Nat.ne_of_lt lt_b4_b5)
  replace Z0 := Nat.le_trans Z0 (Nat.le_of_eq (Wr.size Wh86).symm)
  replace K := K.wr Wh86 (Or.inr sz_b5)
  refine w_iinc C (q := 83) (-1 : Int32) #[.val (.ref s1), .val (.int i0), .val (.int last), .val (.int (4 : Int32)), .val (.ref b5), .val (.int (1 : Int32)), .val (.int i0)] d12_80 rfl (by decide) rfl rfl ?_
  refine w_aloadN C (q := 84) d12_83 rfl rfl rfl ?_
  refine w_getF C (q := 87) (host := "") (Or.inl (hw _ (List.mem_of_getElem? (i := 34) rfl))) Via.refl F_parents d12_84 rfl ?_
  refine w_iload C (q := 89) d12_87 rfl rfl ?_
  refine w_virtual C (q := 92) (y := ⟨"com/example/logic_to_machines/logictomachines/IntList", "get", "(I)I"⟩) (z := ⟨"com/example/logic_to_machines/logictomachines/IntList", "get", "(I)I"⟩) (rm := ({ frames := 0, cells := 0, slots := 0, locals := 0 } : Room)) (a := l3) (argsL := [(.int i0)]) (hw _ (List.mem_of_getElem? (i := 72) rfl)) (hw _ (List.mem_of_getElem? (i := 73) rfl)) (hw _ (List.mem_of_getElem? (i := 75) rfl)) (hw _ (List.mem_of_getElem? (i := 75) rfl)) (hw _ (List.mem_of_getElem? (i := 74) rfl)) (hw _ (List.mem_of_getElem? (i := 23) rfl)) (hw _ (List.mem_of_getElem? (i := 76) rfl)) I3.1 (rmGet l Z a0 hw l3 i0 _ n0 Z0 b3 k3 f3 i1 I3.2.1 I3.2.2.2 hi0 hp0) (by decide) (rest := []) (lenOf pd_7 rfl) rfl d12_89 rfl rfl (by decide) (Nat.le_of_ble_eq_true rfl) (by decide) (by decide) ?_
  intro v h87 hQ
  obtain ⟨rfl, rfl⟩ := hQ
  refine Wk.v1 ?_
  refine w_istore C (q := 94) #[.val (.ref s1), .val (.int i0), .val (.int last), .val (.int (4 : Int32)), .val (.ref b5), .val (.int (1 : Int32)), .val (.int i1)] d12_92 rfl rfl ?_
  refine w_goto C (q := 54) d12_94 (by decide) (by decide) ?_
  refine w_aloadN C (q := 55) d12_54 rfl rfl rfl ?_
  refine w_getF C (q := 58) (host := "") (Or.inl (hw _ (List.mem_of_getElem? (i := 34) rfl))) Via.refl F_parents d12_55 rfl ?_
  refine w_iload C (q := 60) d12_58 rfl rfl ?_
  refine w_virtual C (q := 63) (y := ⟨"com/example/logic_to_machines/logictomachines/IntList", "get", "(I)I"⟩) (z := ⟨"com/example/logic_to_machines/logictomachines/IntList", "get", "(I)I"⟩) (rm := ({ frames := 0, cells := 0, slots := 0, locals := 0 } : Room)) (a := l3) (argsL := [(.int i1)]) (hw _ (List.mem_of_getElem? (i := 72) rfl)) (hw _ (List.mem_of_getElem? (i := 73) rfl)) (hw _ (List.mem_of_getElem? (i := 75) rfl)) (hw _ (List.mem_of_getElem? (i := 75) rfl)) (hw _ (List.mem_of_getElem? (i := 74) rfl)) (hw _ (List.mem_of_getElem? (i := 23) rfl)) (hw _ (List.mem_of_getElem? (i := 76) rfl)) I3.1 (rmGet l Z a0 hw l3 i1 _ n0 Z0 b3 k3 f3 i2 I3.2.1 I3.2.2.2 hi1 hp1) (by decide) (rest := []) (lenOf pd_7 rfl) rfl d12_60 rfl rfl (by decide) (Nat.le_of_ble_eq_true rfl) (by decide) (by decide) ?_
  intro v h88 hQ
  obtain ⟨rfl, rfl⟩ := hQ
  refine Wk.v1 ?_
  refine w_iflt_f C (q := 66) d12_63 rfl hi2 ?_
  refine w_aload C (q := 68) d12_66 rfl rfl rfl ?_
  refine w_iload C (q := 70) d12_68 rfl rfl ?_
  refine w_aloadN C (q := 71) d12_70 rfl rfl rfl ?_
  refine w_getF C (q := 74) (host := "") (Or.inl (hw _ (List.mem_of_getElem? (i := 36) rfl))) Via.refl F_inputs d12_71 rfl ?_
  refine w_iload C (q := 76) d12_74 rfl rfl ?_
  refine w_virtual C (q := 79) (y := ⟨"com/example/logic_to_machines/logictomachines/IntList", "get", "(I)I"⟩) (z := ⟨"com/example/logic_to_machines/logictomachines/IntList", "get", "(I)I"⟩) (rm := ({ frames := 0, cells := 0, slots := 0, locals := 0 } : Room)) (a := l4) (argsL := [(.int i1)]) (hw _ (List.mem_of_getElem? (i := 72) rfl)) (hw _ (List.mem_of_getElem? (i := 73) rfl)) (hw _ (List.mem_of_getElem? (i := 75) rfl)) (hw _ (List.mem_of_getElem? (i := 75) rfl)) (hw _ (List.mem_of_getElem? (i := 74) rfl)) (hw _ (List.mem_of_getElem? (i := 23) rfl)) (hw _ (List.mem_of_getElem? (i := 76) rfl)) I4.1 (rmGet l Z a0 hw l4 i1 _ n0 Z0 b4 k4 f4 y1 I4.2.1 I4.2.2.2 hi1 hx1) (by decide) (rest := [(.int (1 : Int32)), (.ref b5)]) (lenOf pd_7 rfl) rfl d12_76 rfl rfl (by decide) (Nat.le_of_ble_eq_true rfl) (by decide) (by decide) ?_
  intro v h89 hQ
  obtain ⟨rfl, rfl⟩ := hQ
  refine Wk.v1 ?_
  refine w_iastore C (q := 80) A_b5 (by decide) (Nat.le_of_ble_eq_true rfl) d12_79 rfl g_b5 ?_
  intro h90 Wh90 A'
  replace A_b5 : Ars Z h90 b5 k_b5 .int [(.int (0 : Int32)), (.int y1), (.int y0), (.int last)] := A'
  skip
  replace E_s1 := E_s1.wr Wh90
  replace F_parents := F_parents.other Wh90 (Or.inl (Nat.ne_of_lt lt_s1_b5))
  replace F_inputs := F_inputs.other Wh90 (Or.inl (Nat.ne_of_lt lt_s1_b5))
  replace I3 := I3.wr Wh90 (Nat.ne_of_lt lt_l3_b5) (Nat.ne_of_lt lt_b3_b5)
  replace I4 := I4.wr Wh90 (Nat.ne_of_lt lt_l4_b5) (Nat.ne_of_lt lt_b4_b5)
  replace Z0 := Nat.le_trans Z0 (Nat.le_of_eq (Wr.size Wh90).symm)
  replace K := K.wr Wh90 (Or.inr sz_b5)
  refine w_iinc C (q := 83) (-1 : Int32) #[.val (.ref s1), .val (.int i0), .val (.int last), .val (.int (4 : Int32)), .val (.ref b5), .val (.int (0 : Int32)), .val (.int i1)] d12_80 rfl (by decide) rfl rfl ?_
  refine w_aloadN C (q := 84) d12_83 rfl rfl rfl ?_
  refine w_getF C (q := 87) (host := "") (Or.inl (hw _ (List.mem_of_getElem? (i := 34) rfl))) Via.refl F_parents d12_84 rfl ?_
  refine w_iload C (q := 89) d12_87 rfl rfl ?_
  refine w_virtual C (q := 92) (y := ⟨"com/example/logic_to_machines/logictomachines/IntList", "get", "(I)I"⟩) (z := ⟨"com/example/logic_to_machines/logictomachines/IntList", "get", "(I)I"⟩) (rm := ({ frames := 0, cells := 0, slots := 0, locals := 0 } : Room)) (a := l3) (argsL := [(.int i1)]) (hw _ (List.mem_of_getElem? (i := 72) rfl)) (hw _ (List.mem_of_getElem? (i := 73) rfl)) (hw _ (List.mem_of_getElem? (i := 75) rfl)) (hw _ (List.mem_of_getElem? (i := 75) rfl)) (hw _ (List.mem_of_getElem? (i := 74) rfl)) (hw _ (List.mem_of_getElem? (i := 23) rfl)) (hw _ (List.mem_of_getElem? (i := 76) rfl)) I3.1 (rmGet l Z a0 hw l3 i1 _ n0 Z0 b3 k3 f3 i2 I3.2.1 I3.2.2.2 hi1 hp1) (by decide) (rest := []) (lenOf pd_7 rfl) rfl d12_89 rfl rfl (by decide) (Nat.le_of_ble_eq_true rfl) (by decide) (by decide) ?_
  intro v h91 hQ
  obtain ⟨rfl, rfl⟩ := hQ
  refine Wk.v1 ?_
  refine w_istore C (q := 94) #[.val (.ref s1), .val (.int i0), .val (.int last), .val (.int (4 : Int32)), .val (.ref b5), .val (.int (0 : Int32)), .val (.int i2)] d12_92 rfl rfl ?_
  refine w_goto C (q := 54) d12_94 (by decide) (by decide) ?_
  refine w_aloadN C (q := 55) d12_54 rfl rfl rfl ?_
  refine w_getF C (q := 58) (host := "") (Or.inl (hw _ (List.mem_of_getElem? (i := 34) rfl))) Via.refl F_parents d12_55 rfl ?_
  refine w_iload C (q := 60) d12_58 rfl rfl ?_
  refine w_virtual C (q := 63) (y := ⟨"com/example/logic_to_machines/logictomachines/IntList", "get", "(I)I"⟩) (z := ⟨"com/example/logic_to_machines/logictomachines/IntList", "get", "(I)I"⟩) (rm := ({ frames := 0, cells := 0, slots := 0, locals := 0 } : Room)) (a := l3) (argsL := [(.int i2)]) (hw _ (List.mem_of_getElem? (i := 72) rfl)) (hw _ (List.mem_of_getElem? (i := 73) rfl)) (hw _ (List.mem_of_getElem? (i := 75) rfl)) (hw _ (List.mem_of_getElem? (i := 75) rfl)) (hw _ (List.mem_of_getElem? (i := 74) rfl)) (hw _ (List.mem_of_getElem? (i := 23) rfl)) (hw _ (List.mem_of_getElem? (i := 76) rfl)) I3.1 (rmGet l Z a0 hw l3 i2 _ n0 Z0 b3 k3 f3 i3 I3.2.1 I3.2.2.2 hi2 hp2) (by decide) (rest := []) (lenOf pd_7 rfl) rfl d12_60 rfl rfl (by decide) (Nat.le_of_ble_eq_true rfl) (by decide) (by decide) ?_
  intro v h92 hQ
  obtain ⟨rfl, rfl⟩ := hQ
  refine Wk.v1 ?_
  refine w_iflt_f C (q := 66) d12_63 rfl hi3 ?_
  refine w_aload C (q := 68) d12_66 rfl rfl rfl ?_
  refine w_iload C (q := 70) d12_68 rfl rfl ?_
  refine w_aloadN C (q := 71) d12_70 rfl rfl rfl ?_
  refine w_getF C (q := 74) (host := "") (Or.inl (hw _ (List.mem_of_getElem? (i := 36) rfl))) Via.refl F_inputs d12_71 rfl ?_
  refine w_iload C (q := 76) d12_74 rfl rfl ?_
  refine w_virtual C (q := 79) (y := ⟨"com/example/logic_to_machines/logictomachines/IntList", "get", "(I)I"⟩) (z := ⟨"com/example/logic_to_machines/logictomachines/IntList", "get", "(I)I"⟩) (rm := ({ frames := 0, cells := 0, slots := 0, locals := 0 } : Room)) (a := l4) (argsL := [(.int i2)]) (hw _ (List.mem_of_getElem? (i := 72) rfl)) (hw _ (List.mem_of_getElem? (i := 73) rfl)) (hw _ (List.mem_of_getElem? (i := 75) rfl)) (hw _ (List.mem_of_getElem? (i := 75) rfl)) (hw _ (List.mem_of_getElem? (i := 74) rfl)) (hw _ (List.mem_of_getElem? (i := 23) rfl)) (hw _ (List.mem_of_getElem? (i := 76) rfl)) I4.1 (rmGet l Z a0 hw l4 i2 _ n0 Z0 b4 k4 f4 y2 I4.2.1 I4.2.2.2 hi2 hx2) (by decide) (rest := [(.int (0 : Int32)), (.ref b5)]) (lenOf pd_7 rfl) rfl d12_76 rfl rfl (by decide) (Nat.le_of_ble_eq_true rfl) (by decide) (by decide) ?_
  intro v h93 hQ
  obtain ⟨rfl, rfl⟩ := hQ
  refine Wk.v1 ?_
  refine w_iastore C (q := 80) A_b5 (by decide) (Nat.le_of_ble_eq_true rfl) d12_79 rfl g_b5 ?_
  intro h94 Wh94 A'
  replace A_b5 : Ars Z h94 b5 k_b5 .int [(.int y2), (.int y1), (.int y0), (.int last)] := A'
  skip
  replace E_s1 := E_s1.wr Wh94
  replace F_parents := F_parents.other Wh94 (Or.inl (Nat.ne_of_lt lt_s1_b5))
  replace F_inputs := F_inputs.other Wh94 (Or.inl (Nat.ne_of_lt lt_s1_b5))
  replace I3 := I3.wr Wh94 (Nat.ne_of_lt lt_l3_b5) (Nat.ne_of_lt lt_b3_b5)
  replace I4 := I4.wr Wh94 (Nat.ne_of_lt lt_l4_b5) (Nat.ne_of_lt lt_b4_b5)
  replace Z0 := Nat.le_trans Z0 (Nat.le_of_eq (Wr.size Wh94).symm)
  replace K := K.wr Wh94 (Or.inr sz_b5)
  refine w_iinc C (q := 83) (-1 : Int32) #[.val (.ref s1), .val (.int i0), .val (.int last), .val (.int (4 : Int32)), .val (.ref b5), .val (.int (-1 : Int32)), .val (.int i2)] d12_80 rfl (by decide) rfl rfl ?_
  refine w_aloadN C (q := 84) d12_83 rfl rfl rfl ?_
  refine w_getF C (q := 87) (host := "") (Or.inl (hw _ (List.mem_of_getElem? (i := 34) rfl))) Via.refl F_parents d12_84 rfl ?_
  refine w_iload C (q := 89) d12_87 rfl rfl ?_
  refine w_virtual C (q := 92) (y := ⟨"com/example/logic_to_machines/logictomachines/IntList", "get", "(I)I"⟩) (z := ⟨"com/example/logic_to_machines/logictomachines/IntList", "get", "(I)I"⟩) (rm := ({ frames := 0, cells := 0, slots := 0, locals := 0 } : Room)) (a := l3) (argsL := [(.int i2)]) (hw _ (List.mem_of_getElem? (i := 72) rfl)) (hw _ (List.mem_of_getElem? (i := 73) rfl)) (hw _ (List.mem_of_getElem? (i := 75) rfl)) (hw _ (List.mem_of_getElem? (i := 75) rfl)) (hw _ (List.mem_of_getElem? (i := 74) rfl)) (hw _ (List.mem_of_getElem? (i := 23) rfl)) (hw _ (List.mem_of_getElem? (i := 76) rfl)) I3.1 (rmGet l Z a0 hw l3 i2 _ n0 Z0 b3 k3 f3 i3 I3.2.1 I3.2.2.2 hi2 hp2) (by decide) (rest := []) (lenOf pd_7 rfl) rfl d12_89 rfl rfl (by decide) (Nat.le_of_ble_eq_true rfl) (by decide) (by decide) ?_
  intro v h95 hQ
  obtain ⟨rfl, rfl⟩ := hQ
  refine Wk.v1 ?_
  refine w_istore C (q := 94) #[.val (.ref s1), .val (.int i0), .val (.int last), .val (.int (4 : Int32)), .val (.ref b5), .val (.int (-1 : Int32)), .val (.int i3)] d12_92 rfl rfl ?_
  refine w_goto C (q := 54) d12_94 (by decide) (by decide) ?_
  refine w_aloadN C (q := 55) d12_54 rfl rfl rfl ?_
  refine w_getF C (q := 58) (host := "") (Or.inl (hw _ (List.mem_of_getElem? (i := 34) rfl))) Via.refl F_parents d12_55 rfl ?_
  refine w_iload C (q := 60) d12_58 rfl rfl ?_
  refine w_virtual C (q := 63) (y := ⟨"com/example/logic_to_machines/logictomachines/IntList", "get", "(I)I"⟩) (z := ⟨"com/example/logic_to_machines/logictomachines/IntList", "get", "(I)I"⟩) (rm := ({ frames := 0, cells := 0, slots := 0, locals := 0 } : Room)) (a := l3) (argsL := [(.int i3)]) (hw _ (List.mem_of_getElem? (i := 72) rfl)) (hw _ (List.mem_of_getElem? (i := 73) rfl)) (hw _ (List.mem_of_getElem? (i := 75) rfl)) (hw _ (List.mem_of_getElem? (i := 75) rfl)) (hw _ (List.mem_of_getElem? (i := 74) rfl)) (hw _ (List.mem_of_getElem? (i := 23) rfl)) (hw _ (List.mem_of_getElem? (i := 76) rfl)) I3.1 (rmGet l Z a0 hw l3 i3 _ n0 Z0 b3 k3 f3 r I3.2.1 I3.2.2.2 hi3 hp3) (by decide) (rest := []) (lenOf pd_7 rfl) rfl d12_60 rfl rfl (by decide) (Nat.le_of_ble_eq_true rfl) (by decide) (by decide) ?_
  intro v h96 hQ
  obtain ⟨rfl, rfl⟩ := hQ
  refine Wk.v1 ?_
  refine w_iflt_t C (q := 97) d12_63 (by decide) (by decide) hr ?_
  refine w_aload C (q := 99) d12_97 rfl rfl rfl ?_
  exact w_retA C rfl rfl d12_99 (by decide) (by decide) ⟨b5, k_b5, rfl, sz_b5, K, A_b5⟩
theorem own_m (x m : Int32) (k : Nat) (hk : k ≤ 31) (hm : m.toBitVec.toNat = 2 ^ k - 1) : (x &&& m).toInt = x.toInt % (2 ^ k : Nat) := c_mask x m k hk hm
theorem own_and1 (x : Int32) : x &&& 1 = 0 ∨ x &&& 1 = 1 := by
  have e : (x &&& 1).toInt = x.toInt % (2 ^ 1 : Nat) := c_mask x 1 1 (by decide) (by decide)
  have r : (x &&& 1).toInt = 0 ∨ (x &&& 1).toInt = 1 := by omega
  exact r.imp (fun q => Int32.toInt_inj.mp q) (fun q => Int32.toInt_inj.mp q)
theorem own_and3 (x : Int32) : x &&& 3 = 0 ∨ x &&& 3 = 1 ∨ x &&& 3 = 2 ∨ x &&& 3 = 3 := by
  have e : (x &&& 3).toInt = x.toInt % (2 ^ 2 : Nat) := c_mask x 3 2 (by decide) (by decide)
  have r : (x &&& 3).toInt = 0 ∨ (x &&& 3).toInt = 1 ∨ (x &&& 3).toInt = 2 ∨ (x &&& 3).toInt = 3 := by omega
  exact r.imp (fun q => Int32.toInt_inj.mp q) (fun r => r.imp (fun q => Int32.toInt_inj.mp q) (fun r => r.imp (fun q => Int32.toInt_inj.mp q) (fun q => Int32.toInt_inj.mp q)))
theorem own_rem (x : Int32) : (x &&& 3) - ((x &&& 3) / 3) * 3 = 0 ∨ (x &&& 3) - ((x &&& 3) / 3) * 3 = 1 ∨ (x &&& 3) - ((x &&& 3) / 3) * 3 = 2 := by
  rcases own_and3 x with q | q | q | q <;> rw [q] <;> decide
theorem ef_0 (m : MethodId) (p1 : Int32) (p2 : Int32) (p3 : Int32) (p4 : Int32) (p5 : Int32) (p6 : Int32) : entryFrame m #[(.int p1), (.int p2), (.int p3), (.int p4), (.int p5), (.int p6)] maxLocals = mkF m 0 #[.val (.int p1), .val (.int p2), .val (.int p3), .val (.int p4), .val (.int p5), .val (.int p6), .unset, .unset, .unset, .unset, .unset, .unset, .unset, .unset, .unset, .unset, .unset, .unset] [] := by first | (simp [entryFrame, mkF, argsToLocals, Value.category, maxLocals]; done) | rfl
set_option maxRecDepth 65536 in
set_option maxHeartbeats 40000000 in
theorem rm0 (l : Launch) (Z : State) (a0 : Array Value) (hw : ∀ d ∈ tables_1, d.before a0 Z = true) (p1 : Int32) (p2 : Int32) (p3 : Int32) (p4 : Int32) (p5 : Int32) (p6 : Int32) (h0 : Heap) (n0 : Nat) (Z0 : n0 ≤ h0.size) :
    Met1 l Z x code maxLocals ret room_1 #[(.int p1), (.int p2), (.int p3), (.int p4), (.int p5), (.int p6)] h0 n0 (fun v h => v = some (.int 1)) := by
  refine Met1.of_body pn_0 (fun p e s m below meth c C => ?_)
  replace C : Cx p s m meth c Z "com/example/logic_to_machines/logictomachines/PairSearchWordToPinLaw" "law" code 18 (some .boolean) := C
  refine Wk.cast (ef_0 m p1 p2 p3 p4 p5 p6) ?_
  have jn : ∀ (v1 v2 v3 qv : Int32), (v1 = (0 : Int32) ∨ v1 = (-1 : Int32)) → (v2 = (0 : Int32) ∨ v2 = (1 : Int32)) → (v3 = (0 : Int32) ∨ v3 = (1 : Int32) ∨ v3 = (2 : Int32)) → (qv = (0 : Int32) ∨ qv = (1 : Int32) ∨ qv = (2 : Int32) ∨ qv = (3 : Int32)) → Wk p l e room_1 s m #[(.int p1), (.int p2), (.int p3), (.int p4), (.int p5), (.int p6)] below meth c n0 (fun v h => v = some (.int 1)) h0 0 0 (mkF m 40 #[.val (.int p1), .val (.int p2), .val (.int p3), .val (.int p4), .val (.int p5), .val (.int p6), .val (.int v1), .val (.int v2), .val (.int v3), .val (.int qv), .unset, .unset, .unset, .unset, .unset, .unset, .unset, .unset] []) := by
    intro v1 v2 v3 qv hv1 hv2 hv3 hq
    refine w_iconst C (q := 41) (4 : Int32) at_40 rfl (by decide) ?_
    refine w_newP C (q := 43) (hw _ (List.mem_of_getElem? (i := 0) rfl)) at_41 rfl (by decide) 4 (by decide) (by decide) (by decide) (by decide) ?_
    intro h97 a1 k_a1 eq_a1 Ehh97 A_a1
    replace A_a1 : Ars Z h97 a1 k_a1 .int [(.int (0 : Int32)), (.int (0 : Int32)), (.int (0 : Int32)), (.int (0 : Int32))] := A_a1
    have g_a1 : n0 ≤ a1 := Nat.le_trans Z0 (Nat.le_of_eq eq_a1.symm)
    replace Z0 := Nat.le_trans Z0 Ehh97.1
    refine w_astore C (q := 45) #[.val (.int p1), .val (.int p2), .val (.int p3), .val (.int p4), .val (.int p5), .val (.int p6), .val (.int v1), .val (.int v2), .val (.int v3), .val (.int qv), .val (.ref a1), .unset, .unset, .unset, .unset, .unset, .unset, .unset] at_43 rfl rfl rfl ?_
    refine w_iconst C (q := 46) (4 : Int32) at_45 rfl (by decide) ?_
    refine w_newP C (q := 48) (hw _ (List.mem_of_getElem? (i := 0) rfl)) at_46 rfl (by decide) 4 (by decide) (by decide) (by decide) (by decide) ?_
    intro h98 a2 k_a2 eq_a2 Ehh98 A_a2
    replace A_a2 : Ars Z h98 a2 k_a2 .int [(.int (0 : Int32)), (.int (0 : Int32)), (.int (0 : Int32)), (.int (0 : Int32))] := A_a2
    have lt_a1_a2 : (a1 : Nat) < (a2 : Nat) := Nat.lt_of_lt_of_le A_a1.lt (Nat.le_of_eq eq_a2.symm)
    have g_a2 : n0 ≤ a2 := Nat.le_trans Z0 (Nat.le_of_eq eq_a2.symm)
    replace Z0 := Nat.le_trans Z0 Ehh98.1
    replace A_a1 := A_a1.ext Ehh98
    refine w_astore C (q := 50) #[.val (.int p1), .val (.int p2), .val (.int p3), .val (.int p4), .val (.int p5), .val (.int p6), .val (.int v1), .val (.int v2), .val (.int v3), .val (.int qv), .val (.ref a1), .val (.ref a2), .unset, .unset, .unset, .unset, .unset, .unset] at_48 rfl rfl rfl ?_
    refine w_aload C (q := 52) at_50 rfl rfl rfl ?_
    refine w_iconst C (q := 53) (0 : Int32) at_52 rfl (by decide) ?_
    refine w_iconst C (q := 54) (-1 : Int32) at_53 rfl (by decide) ?_
    refine w_iastore C (q := 55) A_a1 (by decide) (Nat.le_of_ble_eq_true rfl) at_54 rfl g_a1 ?_
    intro h99 Wh99 A'
    replace A_a1 : Ars Z h99 a1 k_a1 .int [(.int (-1 : Int32)), (.int (0 : Int32)), (.int (0 : Int32)), (.int (0 : Int32))] := A'
    skip
    replace A_a2 := A_a2.other Wh99 (Ne.symm (Nat.ne_of_lt lt_a1_a2))
    replace Z0 := Nat.le_trans Z0 (Nat.le_of_eq (Wr.size Wh99).symm)
    refine w_aload C (q := 57) at_55 rfl rfl rfl ?_
    refine w_iconst C (q := 58) (1 : Int32) at_57 rfl (by decide) ?_
    refine w_iload C (q := 60) at_58 rfl rfl ?_
    refine w_iastore C (q := 61) A_a1 (by decide) (Nat.le_of_ble_eq_true rfl) at_60 rfl g_a1 ?_
    intro h100 Wh100 A'
    replace A_a1 : Ars Z h100 a1 k_a1 .int [(.int (-1 : Int32)), (.int v1), (.int (0 : Int32)), (.int (0 : Int32))] := A'
    skip
    replace A_a2 := A_a2.other Wh100 (Ne.symm (Nat.ne_of_lt lt_a1_a2))
    replace Z0 := Nat.le_trans Z0 (Nat.le_of_eq (Wr.size Wh100).symm)
    refine w_aload C (q := 63) at_61 rfl rfl rfl ?_
    refine w_iconst C (q := 64) (2 : Int32) at_63 rfl (by decide) ?_
    refine w_iload C (q := 66) at_64 rfl rfl ?_
    refine w_iastore C (q := 67) A_a1 (by decide) (Nat.le_of_ble_eq_true rfl) at_66 rfl g_a1 ?_
    intro h101 Wh101 A'
    replace A_a1 : Ars Z h101 a1 k_a1 .int [(.int (-1 : Int32)), (.int v1), (.int v2), (.int (0 : Int32))] := A'
    skip
    replace A_a2 := A_a2.other Wh101 (Ne.symm (Nat.ne_of_lt lt_a1_a2))
    replace Z0 := Nat.le_trans Z0 (Nat.le_of_eq (Wr.size Wh101).symm)
    refine w_aload C (q := 69) at_67 rfl rfl rfl ?_
    refine w_iconst C (q := 70) (3 : Int32) at_69 rfl (by decide) ?_
    refine w_iload C (q := 72) at_70 rfl rfl ?_
    refine w_iastore C (q := 73) A_a1 (by decide) (Nat.le_of_ble_eq_true rfl) at_72 rfl g_a1 ?_
    intro h102 Wh102 A'
    replace A_a1 : Ars Z h102 a1 k_a1 .int [(.int (-1 : Int32)), (.int v1), (.int v2), (.int v3)] := A'
    skip
    replace A_a2 := A_a2.other Wh102 (Ne.symm (Nat.ne_of_lt lt_a1_a2))
    replace Z0 := Nat.le_trans Z0 (Nat.le_of_eq (Wr.size Wh102).symm)
    refine w_aload C (q := 75) at_73 rfl rfl rfl ?_
    refine w_iconst C (q := 76) (0 : Int32) at_75 rfl (by decide) ?_
    refine w_iloadN C (q := 77) at_76 rfl rfl ?_
    refine w_iastore C (q := 78) A_a2 (by decide) (Nat.le_of_ble_eq_true rfl) at_77 rfl g_a2 ?_
    intro h103 Wh103 A'
    replace A_a2 : Ars Z h103 a2 k_a2 .int [(.int p4), (.int (0 : Int32)), (.int (0 : Int32)), (.int (0 : Int32))] := A'
    skip
    replace A_a1 := A_a1.other Wh103 (Nat.ne_of_lt lt_a1_a2)
    replace Z0 := Nat.le_trans Z0 (Nat.le_of_eq (Wr.size Wh103).symm)
    refine w_aload C (q := 80) at_78 rfl rfl rfl ?_
    refine w_iconst C (q := 81) (1 : Int32) at_80 rfl (by decide) ?_
    refine w_iloadN C (q := 82) at_81 rfl rfl ?_
    refine w_iastore C (q := 83) A_a2 (by decide) (Nat.le_of_ble_eq_true rfl) at_82 rfl g_a2 ?_
    intro h104 Wh104 A'
    replace A_a2 : Ars Z h104 a2 k_a2 .int [(.int p4), (.int p1), (.int (0 : Int32)), (.int (0 : Int32))] := A'
    skip
    replace A_a1 := A_a1.other Wh104 (Nat.ne_of_lt lt_a1_a2)
    replace Z0 := Nat.le_trans Z0 (Nat.le_of_eq (Wr.size Wh104).symm)
    refine w_aload C (q := 85) at_83 rfl rfl rfl ?_
    refine w_iconst C (q := 86) (2 : Int32) at_85 rfl (by decide) ?_
    refine w_iloadN C (q := 87) at_86 rfl rfl ?_
    refine w_iastore C (q := 88) A_a2 (by decide) (Nat.le_of_ble_eq_true rfl) at_87 rfl g_a2 ?_
    intro h105 Wh105 A'
    replace A_a2 : Ars Z h105 a2 k_a2 .int [(.int p4), (.int p1), (.int p2), (.int (0 : Int32))] := A'
    skip
    replace A_a1 := A_a1.other Wh105 (Nat.ne_of_lt lt_a1_a2)
    replace Z0 := Nat.le_trans Z0 (Nat.le_of_eq (Wr.size Wh105).symm)
    refine w_aload C (q := 90) at_88 rfl rfl rfl ?_
    refine w_iconst C (q := 91) (3 : Int32) at_90 rfl (by decide) ?_
    refine w_iloadN C (q := 92) at_91 rfl rfl ?_
    refine w_iastore C (q := 93) A_a2 (by decide) (Nat.le_of_ble_eq_true rfl) at_92 rfl g_a2 ?_
    intro h106 Wh106 A'
    replace A_a2 : Ars Z h106 a2 k_a2 .int [(.int p4), (.int p1), (.int p2), (.int p3)] := A'
    skip
    replace A_a1 := A_a1.other Wh106 (Nat.ne_of_lt lt_a1_a2)
    replace Z0 := Nat.le_trans Z0 (Nat.le_of_eq (Wr.size Wh106).symm)
    refine w_newO C (q := 96) (hw _ (List.mem_of_getElem? (i := 1) rfl)) (hw _ (List.mem_of_getElem? (i := 2) rfl)) (hw _ (List.mem_of_getElem? (i := 3) rfl)) at_93 rfl (by decide) (by decide) ?_
    intro h107 s1 eq_s1 Ehh107 E_s1 D_s1
    have lt_a1_s1 : (a1 : Nat) < (s1 : Nat) := Nat.lt_of_lt_of_le A_a1.lt (Nat.le_of_eq eq_s1.symm)
    have lt_a2_s1 : (a2 : Nat) < (s1 : Nat) := Nat.lt_of_lt_of_le A_a2.lt (Nat.le_of_eq eq_s1.symm)
    have g_s1 : n0 ≤ s1 := Nat.le_trans Z0 (Nat.le_of_eq eq_s1.symm)
    replace Z0 := Nat.le_trans Z0 Ehh107.1
    replace A_a1 := A_a1.ext Ehh107
    replace A_a2 := A_a2.ext Ehh107
    have F_s1_met : Fld Z h107 s1 "com/example/logic_to_machines/logictomachines/PairSearch" "met" "[J" .null := D_s1 (Or.inl (hw _ (List.mem_of_getElem? (i := 20) rfl))) (ty := (.array .long)) (by decide)
    have F_s1_firsts : Fld Z h107 s1 "com/example/logic_to_machines/logictomachines/PairSearch" "firsts" "Lcom/example/logic_to_machines/logictomachines/IntList;" .null := D_s1 (Or.inr (hw _ (List.mem_of_getElem? (i := 31) rfl))) (ty := (.object "com/example/logic_to_machines/logictomachines/IntList")) (by decide)
    have F_s1_seconds : Fld Z h107 s1 "com/example/logic_to_machines/logictomachines/PairSearch" "seconds" "Lcom/example/logic_to_machines/logictomachines/IntList;" .null := D_s1 (Or.inr (hw _ (List.mem_of_getElem? (i := 33) rfl))) (ty := (.object "com/example/logic_to_machines/logictomachines/IntList")) (by decide)
    have F_s1_parents : Fld Z h107 s1 "com/example/logic_to_machines/logictomachines/PairSearch" "parents" "Lcom/example/logic_to_machines/logictomachines/IntList;" .null := D_s1 (Or.inr (hw _ (List.mem_of_getElem? (i := 35) rfl))) (ty := (.object "com/example/logic_to_machines/logictomachines/IntList")) (by decide)
    have F_s1_inputs : Fld Z h107 s1 "com/example/logic_to_machines/logictomachines/PairSearch" "inputs" "Lcom/example/logic_to_machines/logictomachines/IntList;" .null := D_s1 (Or.inr (hw _ (List.mem_of_getElem? (i := 37) rfl))) (ty := (.object "com/example/logic_to_machines/logictomachines/IntList")) (by decide)
    clear D_s1
    refine w_dup C (q := 97) at_96 rfl rfl ?_
    refine w_special C (q := 100) (y := ⟨"com/example/logic_to_machines/logictomachines/PairSearch", "<init>", "()V"⟩) (rm := ({ frames := 2, cells := 9, slots := 88, locals := 50 } : Room)) (a := s1) (argsL := []) rfl (hw _ (List.mem_of_getElem? (i := 4) rfl)) (hw _ (List.mem_of_getElem? (i := 5) rfl)) (hw _ (List.mem_of_getElem? (i := 3) rfl)) (hw _ (List.mem_of_getElem? (i := 6) rfl)) (rmI l Z a0 hw s1 _ n0 Z0 E_s1 g_s1 F_s1_met F_s1_firsts F_s1_seconds F_s1_parents F_s1_inputs) (by decide) (rest := [(.ref s1)]) (lenOf pd_2 rfl) rfl at_97 rfl rfl (by decide) (Nat.le_of_ble_eq_true rfl) (by decide) (by decide) ?_
    intro v h108 hQ
    obtain ⟨rfl, K1, m1, l1, b1, l2, b2, l3, b3, l4, b4, km, k1, k2, k3, k4, hPS⟩ := hQ
    replace A_a1 := A_a1.keep K1 (ninS (Nat.ne_of_lt lt_a1_s1) nin0)
    replace A_a2 := A_a2.keep K1 (ninS (Nat.ne_of_lt lt_a2_s1) nin0)
    replace E_s1 := E_s1.keep K1
    replace Z0 := Nat.le_trans Z0 K1.1
    refine Wk.v0 ?_
    have ps := hPS
    obtain ⟨-, -, -, -, -, -, -, -, -, -, -, o1, o2, o3, o4, o5, o6, o7, o8, o9⟩ := ps
    replace o1 : (s1 : Nat) < (m1 : Nat) := o1
    replace o2 : (m1 : Nat) < (l1 : Nat) := o2
    replace o3 : (l1 : Nat) < (b1 : Nat) := o3
    replace o4 : (b1 : Nat) < (l2 : Nat) := o4
    replace o5 : (l2 : Nat) < (b2 : Nat) := o5
    replace o6 : (b2 : Nat) < (l3 : Nat) := o6
    replace o7 : (l3 : Nat) < (b3 : Nat) := o7
    replace o8 : (b3 : Nat) < (l4 : Nat) := o8
    replace o9 : (l4 : Nat) < (b4 : Nat) := o9
    refine w_astore C (q := 102) #[.val (.int p1), .val (.int p2), .val (.int p3), .val (.int p4), .val (.int p5), .val (.int p6), .val (.int v1), .val (.int v2), .val (.int v3), .val (.int qv), .val (.ref a1), .val (.ref a2), .val (.ref s1), .unset, .unset, .unset, .unset, .unset] at_100 rfl rfl rfl ?_
    refine w_aload C (q := 104) at_102 rfl rfl rfl ?_
    refine w_iconst C (q := 105) (0 : Int32) at_104 rfl (by decide) ?_
    refine w_iconst C (q := 106) (0 : Int32) at_105 rfl (by decide) ?_
    refine w_iconst C (q := 107) (-1 : Int32) at_106 rfl (by decide) ?_
    refine w_iloadN C (q := 108) at_107 rfl rfl ?_
    refine w_virtual C (q := 111) (y := ⟨"com/example/logic_to_machines/logictomachines/PairSearch", "add", "(IIII)V"⟩) (z := ⟨"com/example/logic_to_machines/logictomachines/PairSearch", "add", "(IIII)V"⟩) (rm := ({ frames := 2, cells := 0, slots := 0, locals := 42 } : Room)) (a := s1) (argsL := [(.int (0 : Int32)), (.int (0 : Int32)), (.int (-1 : Int32)), (.int p4)]) (hw _ (List.mem_of_getElem? (i := 38) rfl)) (hw _ (List.mem_of_getElem? (i := 39) rfl)) (hw _ (List.mem_of_getElem? (i := 41) rfl)) (hw _ (List.mem_of_getElem? (i := 41) rfl)) (hw _ (List.mem_of_getElem? (i := 40) rfl)) (hw _ (List.mem_of_getElem? (i := 3) rfl)) (hw _ (List.mem_of_getElem? (i := 42) rfl)) E_s1 (rmAdd l Z a0 hw s1 (0 : Int32) (0 : Int32) (-1 : Int32) p4 _ n0 Z0 m1 l1 b1 l2 b2 l3 b3 l4 b4 km k1 k2 k3 k4 [(.long (-1 : Int64)), (.long (-1 : Int64)), (.long (-1 : Int64)), (.long (-1 : Int64)), (.long (-1 : Int64)), (.long (-1 : Int64)), (.long (-1 : Int64)), (.long (-1 : Int64)), (.long (-1 : Int64)), (.long (-1 : Int64)), (.long (-1 : Int64)), (.long (-1 : Int64)), (.long (-1 : Int64)), (.long (-1 : Int64)), (.long (-1 : Int64)), (.long (-1 : Int64))] [(.int (0 : Int32)), (.int (0 : Int32)), (.int (0 : Int32)), (.int (0 : Int32)), (.int (0 : Int32)), (.int (0 : Int32)), (.int (0 : Int32)), (.int (0 : Int32)), (.int (0 : Int32)), (.int (0 : Int32)), (.int (0 : Int32)), (.int (0 : Int32)), (.int (0 : Int32)), (.int (0 : Int32)), (.int (0 : Int32)), (.int (0 : Int32))] [(.int (0 : Int32)), (.int (0 : Int32)), (.int (0 : Int32)), (.int (0 : Int32)), (.int (0 : Int32)), (.int (0 : Int32)), (.int (0 : Int32)), (.int (0 : Int32)), (.int (0 : Int32)), (.int (0 : Int32)), (.int (0 : Int32)), (.int (0 : Int32)), (.int (0 : Int32)), (.int (0 : Int32)), (.int (0 : Int32)), (.int (0 : Int32))] [(.int (0 : Int32)), (.int (0 : Int32)), (.int (0 : Int32)), (.int (0 : Int32)), (.int (0 : Int32)), (.int (0 : Int32)), (.int (0 : Int32)), (.int (0 : Int32)), (.int (0 : Int32)), (.int (0 : Int32)), (.int (0 : Int32)), (.int (0 : Int32)), (.int (0 : Int32)), (.int (0 : Int32)), (.int (0 : Int32)), (.int (0 : Int32))] [(.int (0 : Int32)), (.int (0 : Int32)), (.int (0 : Int32)), (.int (0 : Int32)), (.int (0 : Int32)), (.int (0 : Int32)), (.int (0 : Int32)), (.int (0 : Int32)), (.int (0 : Int32)), (.int (0 : Int32)), (.int (0 : Int32)), (.int (0 : Int32)), (.int (0 : Int32)), (.int (0 : Int32)), (.int (0 : Int32)), (.int (0 : Int32))] (0 : Int32) (0 : Int32) hPS g_s1 rfl rfl rfl rfl rfl (by decide) (by decide) rfl (by decide) (by decide) (by decide) (by decide)) (by decide) (rest := []) (lenOf pd_8 rfl) rfl at_108 rfl rfl (by decide) (Nat.le_of_ble_eq_true rfl) (by decide) (by decide) ?_
    intro v h109 hQ
    obtain ⟨rfl, L0, hPS'⟩ := hQ
    replace hPS : PS Z h109 s1 m1 l1 b1 l2 b2 l3 b3 l4 b4 km k1 k2 k3 k4 [(.long (keyF (0 : Int32) (0 : Int32))), (.long (-1 : Int64)), (.long (-1 : Int64)), (.long (-1 : Int64)), (.long (-1 : Int64)), (.long (-1 : Int64)), (.long (-1 : Int64)), (.long (-1 : Int64)), (.long (-1 : Int64)), (.long (-1 : Int64)), (.long (-1 : Int64)), (.long (-1 : Int64)), (.long (-1 : Int64)), (.long (-1 : Int64)), (.long (-1 : Int64)), (.long (-1 : Int64))] [(.int (0 : Int32)), (.int (0 : Int32)), (.int (0 : Int32)), (.int (0 : Int32)), (.int (0 : Int32)), (.int (0 : Int32)), (.int (0 : Int32)), (.int (0 : Int32)), (.int (0 : Int32)), (.int (0 : Int32)), (.int (0 : Int32)), (.int (0 : Int32)), (.int (0 : Int32)), (.int (0 : Int32)), (.int (0 : Int32)), (.int (0 : Int32))] [(.int (0 : Int32)), (.int (0 : Int32)), (.int (0 : Int32)), (.int (0 : Int32)), (.int (0 : Int32)), (.int (0 : Int32)), (.int (0 : Int32)), (.int (0 : Int32)), (.int (0 : Int32)), (.int (0 : Int32)), (.int (0 : Int32)), (.int (0 : Int32)), (.int (0 : Int32)), (.int (0 : Int32)), (.int (0 : Int32)), (.int (0 : Int32))] [(.int (-1 : Int32)), (.int (0 : Int32)), (.int (0 : Int32)), (.int (0 : Int32)), (.int (0 : Int32)), (.int (0 : Int32)), (.int (0 : Int32)), (.int (0 : Int32)), (.int (0 : Int32)), (.int (0 : Int32)), (.int (0 : Int32)), (.int (0 : Int32)), (.int (0 : Int32)), (.int (0 : Int32)), (.int (0 : Int32)), (.int (0 : Int32))] [(.int p4), (.int (0 : Int32)), (.int (0 : Int32)), (.int (0 : Int32)), (.int (0 : Int32)), (.int (0 : Int32)), (.int (0 : Int32)), (.int (0 : Int32)), (.int (0 : Int32)), (.int (0 : Int32)), (.int (0 : Int32)), (.int (0 : Int32)), (.int (0 : Int32)), (.int (0 : Int32)), (.int (0 : Int32)), (.int (0 : Int32))] (1 : Int32) := hPS'
    clear hPS'
    replace A_a1 := A_a1.keep L0 (ninS (Nat.ne_of_lt (show (a1 : Nat) < (m1 : Nat) by omega)) (ninS (Nat.ne_of_lt (show (a1 : Nat) < (l1 : Nat) by omega)) (ninS (Nat.ne_of_lt (show (a1 : Nat) < (b1 : Nat) by omega)) (ninS (Nat.ne_of_lt (show (a1 : Nat) < (l2 : Nat) by omega)) (ninS (Nat.ne_of_lt (show (a1 : Nat) < (b2 : Nat) by omega)) (ninS (Nat.ne_of_lt (show (a1 : Nat) < (l3 : Nat) by omega)) (ninS (Nat.ne_of_lt (show (a1 : Nat) < (b3 : Nat) by omega)) (ninS (Nat.ne_of_lt (show (a1 : Nat) < (l4 : Nat) by omega)) (ninS (Nat.ne_of_lt (show (a1 : Nat) < (b4 : Nat) by omega)) nin0)))))))))
    replace A_a2 := A_a2.keep L0 (ninS (Nat.ne_of_lt (show (a2 : Nat) < (m1 : Nat) by omega)) (ninS (Nat.ne_of_lt (show (a2 : Nat) < (l1 : Nat) by omega)) (ninS (Nat.ne_of_lt (show (a2 : Nat) < (b1 : Nat) by omega)) (ninS (Nat.ne_of_lt (show (a2 : Nat) < (l2 : Nat) by omega)) (ninS (Nat.ne_of_lt (show (a2 : Nat) < (b2 : Nat) by omega)) (ninS (Nat.ne_of_lt (show (a2 : Nat) < (l3 : Nat) by omega)) (ninS (Nat.ne_of_lt (show (a2 : Nat) < (b3 : Nat) by omega)) (ninS (Nat.ne_of_lt (show (a2 : Nat) < (l4 : Nat) by omega)) (ninS (Nat.ne_of_lt (show (a2 : Nat) < (b4 : Nat) by omega)) nin0)))))))))
    replace E_s1 := E_s1.keep L0
    replace Z0 := Nat.le_trans Z0 L0.1
    refine Wk.v0 ?_
    refine w_aload C (q := 113) at_111 rfl rfl rfl ?_
    refine w_iconst C (q := 114) (1 : Int32) at_113 rfl (by decide) ?_
    refine w_iconst C (q := 115) (0 : Int32) at_114 rfl (by decide) ?_
    refine w_iload C (q := 117) at_115 rfl rfl ?_
    refine w_iloadN C (q := 118) at_117 rfl rfl ?_
    refine w_virtual C (q := 121) (y := ⟨"com/example/logic_to_machines/logictomachines/PairSearch", "add", "(IIII)V"⟩) (z := ⟨"com/example/logic_to_machines/logictomachines/PairSearch", "add", "(IIII)V"⟩) (rm := ({ frames := 2, cells := 0, slots := 0, locals := 42 } : Room)) (a := s1) (argsL := [(.int (1 : Int32)), (.int (0 : Int32)), (.int v1), (.int p1)]) (hw _ (List.mem_of_getElem? (i := 38) rfl)) (hw _ (List.mem_of_getElem? (i := 39) rfl)) (hw _ (List.mem_of_getElem? (i := 41) rfl)) (hw _ (List.mem_of_getElem? (i := 41) rfl)) (hw _ (List.mem_of_getElem? (i := 40) rfl)) (hw _ (List.mem_of_getElem? (i := 3) rfl)) (hw _ (List.mem_of_getElem? (i := 42) rfl)) E_s1 (rmAdd l Z a0 hw s1 (1 : Int32) (0 : Int32) v1 p1 _ n0 Z0 m1 l1 b1 l2 b2 l3 b3 l4 b4 km k1 k2 k3 k4 [(.long (keyF (0 : Int32) (0 : Int32))), (.long (-1 : Int64)), (.long (-1 : Int64)), (.long (-1 : Int64)), (.long (-1 : Int64)), (.long (-1 : Int64)), (.long (-1 : Int64)), (.long (-1 : Int64)), (.long (-1 : Int64)), (.long (-1 : Int64)), (.long (-1 : Int64)), (.long (-1 : Int64)), (.long (-1 : Int64)), (.long (-1 : Int64)), (.long (-1 : Int64)), (.long (-1 : Int64))] [(.int (0 : Int32)), (.int (0 : Int32)), (.int (0 : Int32)), (.int (0 : Int32)), (.int (0 : Int32)), (.int (0 : Int32)), (.int (0 : Int32)), (.int (0 : Int32)), (.int (0 : Int32)), (.int (0 : Int32)), (.int (0 : Int32)), (.int (0 : Int32)), (.int (0 : Int32)), (.int (0 : Int32)), (.int (0 : Int32)), (.int (0 : Int32))] [(.int (0 : Int32)), (.int (0 : Int32)), (.int (0 : Int32)), (.int (0 : Int32)), (.int (0 : Int32)), (.int (0 : Int32)), (.int (0 : Int32)), (.int (0 : Int32)), (.int (0 : Int32)), (.int (0 : Int32)), (.int (0 : Int32)), (.int (0 : Int32)), (.int (0 : Int32)), (.int (0 : Int32)), (.int (0 : Int32)), (.int (0 : Int32))] [(.int (-1 : Int32)), (.int (0 : Int32)), (.int (0 : Int32)), (.int (0 : Int32)), (.int (0 : Int32)), (.int (0 : Int32)), (.int (0 : Int32)), (.int (0 : Int32)), (.int (0 : Int32)), (.int (0 : Int32)), (.int (0 : Int32)), (.int (0 : Int32)), (.int (0 : Int32)), (.int (0 : Int32)), (.int (0 : Int32)), (.int (0 : Int32))] [(.int p4), (.int (0 : Int32)), (.int (0 : Int32)), (.int (0 : Int32)), (.int (0 : Int32)), (.int (0 : Int32)), (.int (0 : Int32)), (.int (0 : Int32)), (.int (0 : Int32)), (.int (0 : Int32)), (.int (0 : Int32)), (.int (0 : Int32)), (.int (0 : Int32)), (.int (0 : Int32)), (.int (0 : Int32)), (.int (0 : Int32))] (1 : Int32) (5 : Int32) hPS g_s1 rfl rfl rfl rfl rfl (by decide) (by decide) rfl (by decide) (by decide) (by decide) (by decide)) (by decide) (rest := []) (lenOf pd_8 rfl) rfl at_118 rfl rfl (by decide) (Nat.le_of_ble_eq_true rfl) (by decide) (by decide) ?_
    intro v h110 hQ
    obtain ⟨rfl, L1, hPS'⟩ := hQ
    replace hPS : PS Z h110 s1 m1 l1 b1 l2 b2 l3 b3 l4 b4 km k1 k2 k3 k4 [(.long (keyF (0 : Int32) (0 : Int32))), (.long (-1 : Int64)), (.long (-1 : Int64)), (.long (-1 : Int64)), (.long (-1 : Int64)), (.long (keyF (1 : Int32) (0 : Int32))), (.long (-1 : Int64)), (.long (-1 : Int64)), (.long (-1 : Int64)), (.long (-1 : Int64)), (.long (-1 : Int64)), (.long (-1 : Int64)), (.long (-1 : Int64)), (.long (-1 : Int64)), (.long (-1 : Int64)), (.long (-1 : Int64))] [(.int (0 : Int32)), (.int (1 : Int32)), (.int (0 : Int32)), (.int (0 : Int32)), (.int (0 : Int32)), (.int (0 : Int32)), (.int (0 : Int32)), (.int (0 : Int32)), (.int (0 : Int32)), (.int (0 : Int32)), (.int (0 : Int32)), (.int (0 : Int32)), (.int (0 : Int32)), (.int (0 : Int32)), (.int (0 : Int32)), (.int (0 : Int32))] [(.int (0 : Int32)), (.int (0 : Int32)), (.int (0 : Int32)), (.int (0 : Int32)), (.int (0 : Int32)), (.int (0 : Int32)), (.int (0 : Int32)), (.int (0 : Int32)), (.int (0 : Int32)), (.int (0 : Int32)), (.int (0 : Int32)), (.int (0 : Int32)), (.int (0 : Int32)), (.int (0 : Int32)), (.int (0 : Int32)), (.int (0 : Int32))] [(.int (-1 : Int32)), (.int v1), (.int (0 : Int32)), (.int (0 : Int32)), (.int (0 : Int32)), (.int (0 : Int32)), (.int (0 : Int32)), (.int (0 : Int32)), (.int (0 : Int32)), (.int (0 : Int32)), (.int (0 : Int32)), (.int (0 : Int32)), (.int (0 : Int32)), (.int (0 : Int32)), (.int (0 : Int32)), (.int (0 : Int32))] [(.int p4), (.int p1), (.int (0 : Int32)), (.int (0 : Int32)), (.int (0 : Int32)), (.int (0 : Int32)), (.int (0 : Int32)), (.int (0 : Int32)), (.int (0 : Int32)), (.int (0 : Int32)), (.int (0 : Int32)), (.int (0 : Int32)), (.int (0 : Int32)), (.int (0 : Int32)), (.int (0 : Int32)), (.int (0 : Int32))] (2 : Int32) := hPS'
    clear hPS'
    replace A_a1 := A_a1.keep L1 (ninS (Nat.ne_of_lt (show (a1 : Nat) < (m1 : Nat) by omega)) (ninS (Nat.ne_of_lt (show (a1 : Nat) < (l1 : Nat) by omega)) (ninS (Nat.ne_of_lt (show (a1 : Nat) < (b1 : Nat) by omega)) (ninS (Nat.ne_of_lt (show (a1 : Nat) < (l2 : Nat) by omega)) (ninS (Nat.ne_of_lt (show (a1 : Nat) < (b2 : Nat) by omega)) (ninS (Nat.ne_of_lt (show (a1 : Nat) < (l3 : Nat) by omega)) (ninS (Nat.ne_of_lt (show (a1 : Nat) < (b3 : Nat) by omega)) (ninS (Nat.ne_of_lt (show (a1 : Nat) < (l4 : Nat) by omega)) (ninS (Nat.ne_of_lt (show (a1 : Nat) < (b4 : Nat) by omega)) nin0)))))))))
    replace A_a2 := A_a2.keep L1 (ninS (Nat.ne_of_lt (show (a2 : Nat) < (m1 : Nat) by omega)) (ninS (Nat.ne_of_lt (show (a2 : Nat) < (l1 : Nat) by omega)) (ninS (Nat.ne_of_lt (show (a2 : Nat) < (b1 : Nat) by omega)) (ninS (Nat.ne_of_lt (show (a2 : Nat) < (l2 : Nat) by omega)) (ninS (Nat.ne_of_lt (show (a2 : Nat) < (b2 : Nat) by omega)) (ninS (Nat.ne_of_lt (show (a2 : Nat) < (l3 : Nat) by omega)) (ninS (Nat.ne_of_lt (show (a2 : Nat) < (b3 : Nat) by omega)) (ninS (Nat.ne_of_lt (show (a2 : Nat) < (l4 : Nat) by omega)) (ninS (Nat.ne_of_lt (show (a2 : Nat) < (b4 : Nat) by omega)) nin0)))))))))
    replace E_s1 := E_s1.keep L1
    replace Z0 := Nat.le_trans Z0 L1.1
    refine Wk.v0 ?_
    refine w_aload C (q := 123) at_121 rfl rfl rfl ?_
    refine w_iconst C (q := 124) (2 : Int32) at_123 rfl (by decide) ?_
    refine w_iconst C (q := 125) (0 : Int32) at_124 rfl (by decide) ?_
    refine w_iload C (q := 127) at_125 rfl rfl ?_
    refine w_iloadN C (q := 128) at_127 rfl rfl ?_
    refine w_virtual C (q := 131) (y := ⟨"com/example/logic_to_machines/logictomachines/PairSearch", "add", "(IIII)V"⟩) (z := ⟨"com/example/logic_to_machines/logictomachines/PairSearch", "add", "(IIII)V"⟩) (rm := ({ frames := 2, cells := 0, slots := 0, locals := 42 } : Room)) (a := s1) (argsL := [(.int (2 : Int32)), (.int (0 : Int32)), (.int v2), (.int p2)]) (hw _ (List.mem_of_getElem? (i := 38) rfl)) (hw _ (List.mem_of_getElem? (i := 39) rfl)) (hw _ (List.mem_of_getElem? (i := 41) rfl)) (hw _ (List.mem_of_getElem? (i := 41) rfl)) (hw _ (List.mem_of_getElem? (i := 40) rfl)) (hw _ (List.mem_of_getElem? (i := 3) rfl)) (hw _ (List.mem_of_getElem? (i := 42) rfl)) E_s1 (rmAdd l Z a0 hw s1 (2 : Int32) (0 : Int32) v2 p2 _ n0 Z0 m1 l1 b1 l2 b2 l3 b3 l4 b4 km k1 k2 k3 k4 [(.long (keyF (0 : Int32) (0 : Int32))), (.long (-1 : Int64)), (.long (-1 : Int64)), (.long (-1 : Int64)), (.long (-1 : Int64)), (.long (keyF (1 : Int32) (0 : Int32))), (.long (-1 : Int64)), (.long (-1 : Int64)), (.long (-1 : Int64)), (.long (-1 : Int64)), (.long (-1 : Int64)), (.long (-1 : Int64)), (.long (-1 : Int64)), (.long (-1 : Int64)), (.long (-1 : Int64)), (.long (-1 : Int64))] [(.int (0 : Int32)), (.int (1 : Int32)), (.int (0 : Int32)), (.int (0 : Int32)), (.int (0 : Int32)), (.int (0 : Int32)), (.int (0 : Int32)), (.int (0 : Int32)), (.int (0 : Int32)), (.int (0 : Int32)), (.int (0 : Int32)), (.int (0 : Int32)), (.int (0 : Int32)), (.int (0 : Int32)), (.int (0 : Int32)), (.int (0 : Int32))] [(.int (0 : Int32)), (.int (0 : Int32)), (.int (0 : Int32)), (.int (0 : Int32)), (.int (0 : Int32)), (.int (0 : Int32)), (.int (0 : Int32)), (.int (0 : Int32)), (.int (0 : Int32)), (.int (0 : Int32)), (.int (0 : Int32)), (.int (0 : Int32)), (.int (0 : Int32)), (.int (0 : Int32)), (.int (0 : Int32)), (.int (0 : Int32))] [(.int (-1 : Int32)), (.int v1), (.int (0 : Int32)), (.int (0 : Int32)), (.int (0 : Int32)), (.int (0 : Int32)), (.int (0 : Int32)), (.int (0 : Int32)), (.int (0 : Int32)), (.int (0 : Int32)), (.int (0 : Int32)), (.int (0 : Int32)), (.int (0 : Int32)), (.int (0 : Int32)), (.int (0 : Int32)), (.int (0 : Int32))] [(.int p4), (.int p1), (.int (0 : Int32)), (.int (0 : Int32)), (.int (0 : Int32)), (.int (0 : Int32)), (.int (0 : Int32)), (.int (0 : Int32)), (.int (0 : Int32)), (.int (0 : Int32)), (.int (0 : Int32)), (.int (0 : Int32)), (.int (0 : Int32)), (.int (0 : Int32)), (.int (0 : Int32)), (.int (0 : Int32))] (2 : Int32) (10 : Int32) hPS g_s1 rfl rfl rfl rfl rfl (by decide) (by decide) rfl (by decide) (by decide) (by decide) (by decide)) (by decide) (rest := []) (lenOf pd_8 rfl) rfl at_128 rfl rfl (by decide) (Nat.le_of_ble_eq_true rfl) (by decide) (by decide) ?_
    intro v h111 hQ
    obtain ⟨rfl, L2, hPS'⟩ := hQ
    replace hPS : PS Z h111 s1 m1 l1 b1 l2 b2 l3 b3 l4 b4 km k1 k2 k3 k4 [(.long (keyF (0 : Int32) (0 : Int32))), (.long (-1 : Int64)), (.long (-1 : Int64)), (.long (-1 : Int64)), (.long (-1 : Int64)), (.long (keyF (1 : Int32) (0 : Int32))), (.long (-1 : Int64)), (.long (-1 : Int64)), (.long (-1 : Int64)), (.long (-1 : Int64)), (.long (keyF (2 : Int32) (0 : Int32))), (.long (-1 : Int64)), (.long (-1 : Int64)), (.long (-1 : Int64)), (.long (-1 : Int64)), (.long (-1 : Int64))] [(.int (0 : Int32)), (.int (1 : Int32)), (.int (2 : Int32)), (.int (0 : Int32)), (.int (0 : Int32)), (.int (0 : Int32)), (.int (0 : Int32)), (.int (0 : Int32)), (.int (0 : Int32)), (.int (0 : Int32)), (.int (0 : Int32)), (.int (0 : Int32)), (.int (0 : Int32)), (.int (0 : Int32)), (.int (0 : Int32)), (.int (0 : Int32))] [(.int (0 : Int32)), (.int (0 : Int32)), (.int (0 : Int32)), (.int (0 : Int32)), (.int (0 : Int32)), (.int (0 : Int32)), (.int (0 : Int32)), (.int (0 : Int32)), (.int (0 : Int32)), (.int (0 : Int32)), (.int (0 : Int32)), (.int (0 : Int32)), (.int (0 : Int32)), (.int (0 : Int32)), (.int (0 : Int32)), (.int (0 : Int32))] [(.int (-1 : Int32)), (.int v1), (.int v2), (.int (0 : Int32)), (.int (0 : Int32)), (.int (0 : Int32)), (.int (0 : Int32)), (.int (0 : Int32)), (.int (0 : Int32)), (.int (0 : Int32)), (.int (0 : Int32)), (.int (0 : Int32)), (.int (0 : Int32)), (.int (0 : Int32)), (.int (0 : Int32)), (.int (0 : Int32))] [(.int p4), (.int p1), (.int p2), (.int (0 : Int32)), (.int (0 : Int32)), (.int (0 : Int32)), (.int (0 : Int32)), (.int (0 : Int32)), (.int (0 : Int32)), (.int (0 : Int32)), (.int (0 : Int32)), (.int (0 : Int32)), (.int (0 : Int32)), (.int (0 : Int32)), (.int (0 : Int32)), (.int (0 : Int32))] (3 : Int32) := hPS'
    clear hPS'
    replace A_a1 := A_a1.keep L2 (ninS (Nat.ne_of_lt (show (a1 : Nat) < (m1 : Nat) by omega)) (ninS (Nat.ne_of_lt (show (a1 : Nat) < (l1 : Nat) by omega)) (ninS (Nat.ne_of_lt (show (a1 : Nat) < (b1 : Nat) by omega)) (ninS (Nat.ne_of_lt (show (a1 : Nat) < (l2 : Nat) by omega)) (ninS (Nat.ne_of_lt (show (a1 : Nat) < (b2 : Nat) by omega)) (ninS (Nat.ne_of_lt (show (a1 : Nat) < (l3 : Nat) by omega)) (ninS (Nat.ne_of_lt (show (a1 : Nat) < (b3 : Nat) by omega)) (ninS (Nat.ne_of_lt (show (a1 : Nat) < (l4 : Nat) by omega)) (ninS (Nat.ne_of_lt (show (a1 : Nat) < (b4 : Nat) by omega)) nin0)))))))))
    replace A_a2 := A_a2.keep L2 (ninS (Nat.ne_of_lt (show (a2 : Nat) < (m1 : Nat) by omega)) (ninS (Nat.ne_of_lt (show (a2 : Nat) < (l1 : Nat) by omega)) (ninS (Nat.ne_of_lt (show (a2 : Nat) < (b1 : Nat) by omega)) (ninS (Nat.ne_of_lt (show (a2 : Nat) < (l2 : Nat) by omega)) (ninS (Nat.ne_of_lt (show (a2 : Nat) < (b2 : Nat) by omega)) (ninS (Nat.ne_of_lt (show (a2 : Nat) < (l3 : Nat) by omega)) (ninS (Nat.ne_of_lt (show (a2 : Nat) < (b3 : Nat) by omega)) (ninS (Nat.ne_of_lt (show (a2 : Nat) < (l4 : Nat) by omega)) (ninS (Nat.ne_of_lt (show (a2 : Nat) < (b4 : Nat) by omega)) nin0)))))))))
    replace E_s1 := E_s1.keep L2
    replace Z0 := Nat.le_trans Z0 L2.1
    refine Wk.v0 ?_
    refine w_aload C (q := 133) at_131 rfl rfl rfl ?_
    refine w_iconst C (q := 134) (3 : Int32) at_133 rfl (by decide) ?_
    refine w_iconst C (q := 135) (0 : Int32) at_134 rfl (by decide) ?_
    refine w_iload C (q := 137) at_135 rfl rfl ?_
    refine w_iloadN C (q := 138) at_137 rfl rfl ?_
    refine w_virtual C (q := 141) (y := ⟨"com/example/logic_to_machines/logictomachines/PairSearch", "add", "(IIII)V"⟩) (z := ⟨"com/example/logic_to_machines/logictomachines/PairSearch", "add", "(IIII)V"⟩) (rm := ({ frames := 2, cells := 0, slots := 0, locals := 42 } : Room)) (a := s1) (argsL := [(.int (3 : Int32)), (.int (0 : Int32)), (.int v3), (.int p3)]) (hw _ (List.mem_of_getElem? (i := 38) rfl)) (hw _ (List.mem_of_getElem? (i := 39) rfl)) (hw _ (List.mem_of_getElem? (i := 41) rfl)) (hw _ (List.mem_of_getElem? (i := 41) rfl)) (hw _ (List.mem_of_getElem? (i := 40) rfl)) (hw _ (List.mem_of_getElem? (i := 3) rfl)) (hw _ (List.mem_of_getElem? (i := 42) rfl)) E_s1 (rmAdd l Z a0 hw s1 (3 : Int32) (0 : Int32) v3 p3 _ n0 Z0 m1 l1 b1 l2 b2 l3 b3 l4 b4 km k1 k2 k3 k4 [(.long (keyF (0 : Int32) (0 : Int32))), (.long (-1 : Int64)), (.long (-1 : Int64)), (.long (-1 : Int64)), (.long (-1 : Int64)), (.long (keyF (1 : Int32) (0 : Int32))), (.long (-1 : Int64)), (.long (-1 : Int64)), (.long (-1 : Int64)), (.long (-1 : Int64)), (.long (keyF (2 : Int32) (0 : Int32))), (.long (-1 : Int64)), (.long (-1 : Int64)), (.long (-1 : Int64)), (.long (-1 : Int64)), (.long (-1 : Int64))] [(.int (0 : Int32)), (.int (1 : Int32)), (.int (2 : Int32)), (.int (0 : Int32)), (.int (0 : Int32)), (.int (0 : Int32)), (.int (0 : Int32)), (.int (0 : Int32)), (.int (0 : Int32)), (.int (0 : Int32)), (.int (0 : Int32)), (.int (0 : Int32)), (.int (0 : Int32)), (.int (0 : Int32)), (.int (0 : Int32)), (.int (0 : Int32))] [(.int (0 : Int32)), (.int (0 : Int32)), (.int (0 : Int32)), (.int (0 : Int32)), (.int (0 : Int32)), (.int (0 : Int32)), (.int (0 : Int32)), (.int (0 : Int32)), (.int (0 : Int32)), (.int (0 : Int32)), (.int (0 : Int32)), (.int (0 : Int32)), (.int (0 : Int32)), (.int (0 : Int32)), (.int (0 : Int32)), (.int (0 : Int32))] [(.int (-1 : Int32)), (.int v1), (.int v2), (.int (0 : Int32)), (.int (0 : Int32)), (.int (0 : Int32)), (.int (0 : Int32)), (.int (0 : Int32)), (.int (0 : Int32)), (.int (0 : Int32)), (.int (0 : Int32)), (.int (0 : Int32)), (.int (0 : Int32)), (.int (0 : Int32)), (.int (0 : Int32)), (.int (0 : Int32))] [(.int p4), (.int p1), (.int p2), (.int (0 : Int32)), (.int (0 : Int32)), (.int (0 : Int32)), (.int (0 : Int32)), (.int (0 : Int32)), (.int (0 : Int32)), (.int (0 : Int32)), (.int (0 : Int32)), (.int (0 : Int32)), (.int (0 : Int32)), (.int (0 : Int32)), (.int (0 : Int32)), (.int (0 : Int32))] (3 : Int32) (15 : Int32) hPS g_s1 rfl rfl rfl rfl rfl (by decide) (by decide) rfl (by decide) (by decide) (by decide) (by decide)) (by decide) (rest := []) (lenOf pd_8 rfl) rfl at_138 rfl rfl (by decide) (Nat.le_of_ble_eq_true rfl) (by decide) (by decide) ?_
    intro v h112 hQ
    obtain ⟨rfl, L3, hPS'⟩ := hQ
    replace hPS : PS Z h112 s1 m1 l1 b1 l2 b2 l3 b3 l4 b4 km k1 k2 k3 k4 [(.long (keyF (0 : Int32) (0 : Int32))), (.long (-1 : Int64)), (.long (-1 : Int64)), (.long (-1 : Int64)), (.long (-1 : Int64)), (.long (keyF (1 : Int32) (0 : Int32))), (.long (-1 : Int64)), (.long (-1 : Int64)), (.long (-1 : Int64)), (.long (-1 : Int64)), (.long (keyF (2 : Int32) (0 : Int32))), (.long (-1 : Int64)), (.long (-1 : Int64)), (.long (-1 : Int64)), (.long (-1 : Int64)), (.long (keyF (3 : Int32) (0 : Int32)))] [(.int (0 : Int32)), (.int (1 : Int32)), (.int (2 : Int32)), (.int (3 : Int32)), (.int (0 : Int32)), (.int (0 : Int32)), (.int (0 : Int32)), (.int (0 : Int32)), (.int (0 : Int32)), (.int (0 : Int32)), (.int (0 : Int32)), (.int (0 : Int32)), (.int (0 : Int32)), (.int (0 : Int32)), (.int (0 : Int32)), (.int (0 : Int32))] [(.int (0 : Int32)), (.int (0 : Int32)), (.int (0 : Int32)), (.int (0 : Int32)), (.int (0 : Int32)), (.int (0 : Int32)), (.int (0 : Int32)), (.int (0 : Int32)), (.int (0 : Int32)), (.int (0 : Int32)), (.int (0 : Int32)), (.int (0 : Int32)), (.int (0 : Int32)), (.int (0 : Int32)), (.int (0 : Int32)), (.int (0 : Int32))] [(.int (-1 : Int32)), (.int v1), (.int v2), (.int v3), (.int (0 : Int32)), (.int (0 : Int32)), (.int (0 : Int32)), (.int (0 : Int32)), (.int (0 : Int32)), (.int (0 : Int32)), (.int (0 : Int32)), (.int (0 : Int32)), (.int (0 : Int32)), (.int (0 : Int32)), (.int (0 : Int32)), (.int (0 : Int32))] [(.int p4), (.int p1), (.int p2), (.int p3), (.int (0 : Int32)), (.int (0 : Int32)), (.int (0 : Int32)), (.int (0 : Int32)), (.int (0 : Int32)), (.int (0 : Int32)), (.int (0 : Int32)), (.int (0 : Int32)), (.int (0 : Int32)), (.int (0 : Int32)), (.int (0 : Int32)), (.int (0 : Int32))] (4 : Int32) := hPS'
    clear hPS'
    replace A_a1 := A_a1.keep L3 (ninS (Nat.ne_of_lt (show (a1 : Nat) < (m1 : Nat) by omega)) (ninS (Nat.ne_of_lt (show (a1 : Nat) < (l1 : Nat) by omega)) (ninS (Nat.ne_of_lt (show (a1 : Nat) < (b1 : Nat) by omega)) (ninS (Nat.ne_of_lt (show (a1 : Nat) < (l2 : Nat) by omega)) (ninS (Nat.ne_of_lt (show (a1 : Nat) < (b2 : Nat) by omega)) (ninS (Nat.ne_of_lt (show (a1 : Nat) < (l3 : Nat) by omega)) (ninS (Nat.ne_of_lt (show (a1 : Nat) < (b3 : Nat) by omega)) (ninS (Nat.ne_of_lt (show (a1 : Nat) < (l4 : Nat) by omega)) (ninS (Nat.ne_of_lt (show (a1 : Nat) < (b4 : Nat) by omega)) nin0)))))))))
    replace A_a2 := A_a2.keep L3 (ninS (Nat.ne_of_lt (show (a2 : Nat) < (m1 : Nat) by omega)) (ninS (Nat.ne_of_lt (show (a2 : Nat) < (l1 : Nat) by omega)) (ninS (Nat.ne_of_lt (show (a2 : Nat) < (b1 : Nat) by omega)) (ninS (Nat.ne_of_lt (show (a2 : Nat) < (l2 : Nat) by omega)) (ninS (Nat.ne_of_lt (show (a2 : Nat) < (b2 : Nat) by omega)) (ninS (Nat.ne_of_lt (show (a2 : Nat) < (l3 : Nat) by omega)) (ninS (Nat.ne_of_lt (show (a2 : Nat) < (b3 : Nat) by omega)) (ninS (Nat.ne_of_lt (show (a2 : Nat) < (l4 : Nat) by omega)) (ninS (Nat.ne_of_lt (show (a2 : Nat) < (b4 : Nat) by omega)) nin0)))))))))
    replace E_s1 := E_s1.keep L3
    replace Z0 := Nat.le_trans Z0 L3.1
    refine Wk.v0 ?_
    refine w_aload C (q := 143) at_141 rfl rfl rfl ?_
    refine w_iload C (q := 145) at_143 rfl rfl ?_
    refine w_iload C (q := 147) at_145 rfl rfl ?_
    rcases hq with rfl | rfl | rfl | rfl
    · refine w_virtual C (q := 150) (y := ⟨"com/example/logic_to_machines/logictomachines/PairSearch", "wordTo", "(II)[I"⟩) (z := ⟨"com/example/logic_to_machines/logictomachines/PairSearch", "wordTo", "(II)[I"⟩) (rm := ({ frames := 1, cells := 1, slots := 1, locals := 16 } : Room)) (a := s1) (argsL := [(.int (0 : Int32)), (.int p5)]) (hw _ (List.mem_of_getElem? (i := 67) rfl)) (hw _ (List.mem_of_getElem? (i := 68) rfl)) (hw _ (List.mem_of_getElem? (i := 70) rfl)) (hw _ (List.mem_of_getElem? (i := 70) rfl)) (hw _ (List.mem_of_getElem? (i := 69) rfl)) (hw _ (List.mem_of_getElem? (i := 3) rfl)) (hw _ (List.mem_of_getElem? (i := 71) rfl)) E_s1 (rmW0 l Z a0 hw s1 (0 : Int32) p5 _ n0 Z0 m1 l1 b1 l2 b2 l3 b3 l4 b4 km k1 k2 k3 k4 _ _ _ _ _ _ hPS  (-1 : Int32)  (by decide) (by decide) rfl) (by decide) (rest := []) (lenOf pd_9 rfl) rfl at_147 rfl rfl (by decide) (Nat.le_of_ble_eq_true rfl) (by decide) (by decide) ?_
      intro v h113 hQ
      obtain ⟨b5, kb5, rfl, hb5, K5, A_b5⟩ := hQ
      replace A_a1 := A_a1.keep K5 nin0
      replace A_a2 := A_a2.keep K5 nin0
      replace E_s1 := E_s1.keep K5
      replace Z0 := Nat.le_trans Z0 K5.1
      refine Wk.v1 ?_
      refine w_astore C (q := 152) #[.val (.int p1), .val (.int p2), .val (.int p3), .val (.int p4), .val (.int p5), .val (.int p6), .val (.int v1), .val (.int v2), .val (.int v3), .val (.int (0 : Int32)), .val (.ref a1), .val (.ref a2), .val (.ref s1), .val (.ref b5), .unset, .unset, .unset, .unset] at_150 rfl rfl rfl ?_
      refine w_iconst C (q := 153) (4 : Int32) at_152 rfl (by decide) ?_
      refine w_newP C (q := 155) (hw _ (List.mem_of_getElem? (i := 0) rfl)) at_153 rfl (by decide) 4 (by decide) (by decide) (by decide) (by decide) ?_
      intro h114 b6 k_b6 eq_b6 Ehh114 A_b6
      replace A_b6 : Ars Z h114 b6 k_b6 .int [(.int (0 : Int32)), (.int (0 : Int32)), (.int (0 : Int32)), (.int (0 : Int32))] := A_b6
      have lt_a1_b6 : (a1 : Nat) < (b6 : Nat) := Nat.lt_of_lt_of_le A_a1.lt (Nat.le_of_eq eq_b6.symm)
      have lt_a2_b6 : (a2 : Nat) < (b6 : Nat) := Nat.lt_of_lt_of_le A_a2.lt (Nat.le_of_eq eq_b6.symm)
      have lt_s1_b6 : (s1 : Nat) < (b6 : Nat) := Nat.lt_of_lt_of_le E_s1.lt (Nat.le_of_eq eq_b6.symm)
      have lt_b5_b6 : (b5 : Nat) < (b6 : Nat) := Nat.lt_of_lt_of_le A_b5.lt (Nat.le_of_eq eq_b6.symm)
      have g_b6 : n0 ≤ b6 := Nat.le_trans Z0 (Nat.le_of_eq eq_b6.symm)
      replace Z0 := Nat.le_trans Z0 Ehh114.1
      replace A_a1 := A_a1.ext Ehh114
      replace A_a2 := A_a2.ext Ehh114
      replace E_s1 := E_s1.ext Ehh114
      replace A_b5 := A_b5.ext Ehh114
      refine w_astore C (q := 157) #[.val (.int p1), .val (.int p2), .val (.int p3), .val (.int p4), .val (.int p5), .val (.int p6), .val (.int v1), .val (.int v2), .val (.int v3), .val (.int (0 : Int32)), .val (.ref a1), .val (.ref a2), .val (.ref s1), .val (.ref b5), .unset, .val (.ref b6), .unset, .unset] at_155 rfl rfl rfl ?_
      refine w_aload C (q := 159) at_157 rfl rfl rfl ?_
      refine w_iload C (q := 161) at_159 rfl rfl ?_
      refine w_iaload C (q := 162) A_a1 (.int (-1 : Int32)) (by decide) rfl at_161 rfl ?_
      refine w_ifge_f C (q := 165) at_162 rfl (by decide) ?_
      refine w_iconst C (q := 166) (1 : Int32) at_165 rfl (by decide) ?_
      refine w_istore C (q := 168) #[.val (.int p1), .val (.int p2), .val (.int p3), .val (.int p4), .val (.int p5), .val (.int p6), .val (.int v1), .val (.int v2), .val (.int v3), .val (.int (0 : Int32)), .val (.ref a1), .val (.ref a2), .val (.ref s1), .val (.ref b5), .val (.int (1 : Int32)), .val (.ref b6), .unset, .unset] at_166 rfl rfl ?_
      refine w_aload C (q := 170) at_168 rfl rfl rfl ?_
      refine w_iconst C (q := 171) (0 : Int32) at_170 rfl (by decide) ?_
      refine w_iload C (q := 173) at_171 rfl rfl ?_
      refine w_iastore C (q := 174) A_b6 (by decide) (Nat.le_of_ble_eq_true rfl) at_173 rfl g_b6 ?_
      intro h115 Wh115 A'
      replace A_b6 : Ars Z h115 b6 k_b6 .int [(.int p5), (.int (0 : Int32)), (.int (0 : Int32)), (.int (0 : Int32))] := A'
      skip
      replace A_a1 := A_a1.other Wh115 (Nat.ne_of_lt lt_a1_b6)
      replace A_a2 := A_a2.other Wh115 (Nat.ne_of_lt lt_a2_b6)
      replace E_s1 := E_s1.wr Wh115
      replace A_b5 := A_b5.other Wh115 (Nat.ne_of_lt lt_b5_b6)
      replace Z0 := Nat.le_trans Z0 (Nat.le_of_eq (Wr.size Wh115).symm)
      refine w_goto C (q := 294) at_174 (by decide) (by decide) ?_
      refine w_aload C (q := 296) at_294 rfl rfl rfl ?_
      refine w_ifnullNo C (q := 299) at_296 rfl ?_
      refine w_aload C (q := 301) at_299 rfl rfl rfl ?_
      refine w_arraylength C (q := 302) A_b5 (1 : Int32) rfl at_301 rfl ?_
      refine w_iload C (q := 304) at_302 rfl rfl ?_
      refine w_iceq_t C (q := 309) at_304 (by decide) (by decide) (by decide) ?_
      refine w_aload C (q := 311) at_309 rfl rfl rfl ?_
      refine w_iconst C (q := 312) (0 : Int32) at_311 rfl (by decide) ?_
      refine w_iaload C (q := 313) A_b5 (.int p5) (by decide) rfl at_312 rfl ?_
      refine w_aload C (q := 315) at_313 rfl rfl rfl ?_
      refine w_iconst C (q := 316) (0 : Int32) at_315 rfl (by decide) ?_
      refine w_iaload C (q := 317) A_b6 (.int p5) (by decide) rfl at_316 rfl ?_
      refine w_icne_f C (q := 320) at_317 rfl rfl ?_
      refine w_iconst C (q := 321) (1 : Int32) at_320 rfl (by decide) ?_
      refine w_goto C (q := 325) at_321 (by decide) (by decide) ?_
      refine w_istore C (q := 327) #[.val (.int p1), .val (.int p2), .val (.int p3), .val (.int p4), .val (.int p5), .val (.int p6), .val (.int v1), .val (.int v2), .val (.int v3), .val (.int (0 : Int32)), .val (.ref a1), .val (.ref a2), .val (.ref s1), .val (.ref b5), .val (.int (1 : Int32)), .val (.ref b6), .val (.int (1 : Int32)), .unset] at_325 rfl rfl ?_
      refine w_iload C (q := 329) at_327 rfl rfl ?_
      refine w_iconst C (q := 330) (1 : Int32) at_329 rfl (by decide) ?_
      refine w_icle_t C (q := 356) at_330 (by decide) (by decide) (by decide) ?_
      refine w_iload C (q := 358) at_356 rfl rfl ?_
      refine w_iconst C (q := 359) (2 : Int32) at_358 rfl (by decide) ?_
      refine w_icle_t C (q := 385) at_359 (by decide) (by decide) (by decide) ?_
      refine w_iload C (q := 387) at_385 rfl rfl ?_
      refine w_iconst C (q := 388) (3 : Int32) at_387 rfl (by decide) ?_
      refine w_icle_t C (q := 414) at_388 (by decide) (by decide) (by decide) ?_
      refine w_iload C (q := 416) at_414 rfl rfl ?_
      exact w_retN C at_416 (by decide) (by decide) rfl
    · rcases hv1 with rfl | rfl
      · refine w_virtual C (q := 150) (y := ⟨"com/example/logic_to_machines/logictomachines/PairSearch", "wordTo", "(II)[I"⟩) (z := ⟨"com/example/logic_to_machines/logictomachines/PairSearch", "wordTo", "(II)[I"⟩) (rm := ({ frames := 1, cells := 1, slots := 2, locals := 16 } : Room)) (a := s1) (argsL := [(.int (1 : Int32)), (.int p5)]) (hw _ (List.mem_of_getElem? (i := 67) rfl)) (hw _ (List.mem_of_getElem? (i := 68) rfl)) (hw _ (List.mem_of_getElem? (i := 70) rfl)) (hw _ (List.mem_of_getElem? (i := 70) rfl)) (hw _ (List.mem_of_getElem? (i := 69) rfl)) (hw _ (List.mem_of_getElem? (i := 3) rfl)) (hw _ (List.mem_of_getElem? (i := 71) rfl)) E_s1 (rmW1 l Z a0 hw s1 (1 : Int32) p5 _ n0 Z0 m1 l1 b1 l2 b2 l3 b3 l4 b4 km k1 k2 k3 k4 _ _ _ _ _ _ hPS (0 : Int32) (-1 : Int32) p1 (by decide) (by decide) (by decide) rfl rfl rfl) (by decide) (rest := []) (lenOf pd_9 rfl) rfl at_147 rfl rfl (by decide) (Nat.le_of_ble_eq_true rfl) (by decide) (by decide) ?_
        intro v h116 hQ
        obtain ⟨b5, kb5, rfl, hb5, K5, A_b5⟩ := hQ
        replace A_a1 := A_a1.keep K5 nin0
        replace A_a2 := A_a2.keep K5 nin0
        replace E_s1 := E_s1.keep K5
        replace Z0 := Nat.le_trans Z0 K5.1
        refine Wk.v1 ?_
        refine w_astore C (q := 152) #[.val (.int p1), .val (.int p2), .val (.int p3), .val (.int p4), .val (.int p5), .val (.int p6), .val (.int (0 : Int32)), .val (.int v2), .val (.int v3), .val (.int (1 : Int32)), .val (.ref a1), .val (.ref a2), .val (.ref s1), .val (.ref b5), .unset, .unset, .unset, .unset] at_150 rfl rfl rfl ?_
        refine w_iconst C (q := 153) (4 : Int32) at_152 rfl (by decide) ?_
        refine w_newP C (q := 155) (hw _ (List.mem_of_getElem? (i := 0) rfl)) at_153 rfl (by decide) 4 (by decide) (by decide) (by decide) (by decide) ?_
        intro h117 b6 k_b6 eq_b6 Ehh117 A_b6
        replace A_b6 : Ars Z h117 b6 k_b6 .int [(.int (0 : Int32)), (.int (0 : Int32)), (.int (0 : Int32)), (.int (0 : Int32))] := A_b6
        have lt_a1_b6 : (a1 : Nat) < (b6 : Nat) := Nat.lt_of_lt_of_le A_a1.lt (Nat.le_of_eq eq_b6.symm)
        have lt_a2_b6 : (a2 : Nat) < (b6 : Nat) := Nat.lt_of_lt_of_le A_a2.lt (Nat.le_of_eq eq_b6.symm)
        have lt_s1_b6 : (s1 : Nat) < (b6 : Nat) := Nat.lt_of_lt_of_le E_s1.lt (Nat.le_of_eq eq_b6.symm)
        have lt_b5_b6 : (b5 : Nat) < (b6 : Nat) := Nat.lt_of_lt_of_le A_b5.lt (Nat.le_of_eq eq_b6.symm)
        have g_b6 : n0 ≤ b6 := Nat.le_trans Z0 (Nat.le_of_eq eq_b6.symm)
        replace Z0 := Nat.le_trans Z0 Ehh117.1
        replace A_a1 := A_a1.ext Ehh117
        replace A_a2 := A_a2.ext Ehh117
        replace E_s1 := E_s1.ext Ehh117
        replace A_b5 := A_b5.ext Ehh117
        refine w_astore C (q := 157) #[.val (.int p1), .val (.int p2), .val (.int p3), .val (.int p4), .val (.int p5), .val (.int p6), .val (.int (0 : Int32)), .val (.int v2), .val (.int v3), .val (.int (1 : Int32)), .val (.ref a1), .val (.ref a2), .val (.ref s1), .val (.ref b5), .unset, .val (.ref b6), .unset, .unset] at_155 rfl rfl rfl ?_
        refine w_aload C (q := 159) at_157 rfl rfl rfl ?_
        refine w_iload C (q := 161) at_159 rfl rfl ?_
        refine w_iaload C (q := 162) A_a1 (.int (0 : Int32)) (by decide) rfl at_161 rfl ?_
        refine w_ifge_t C (q := 177) at_162 (by decide) (by decide) (by decide) ?_
        refine w_aload C (q := 179) at_177 rfl rfl rfl ?_
        refine w_iload C (q := 181) at_179 rfl rfl ?_
        refine w_iaload C (q := 182) A_a1 (.int (0 : Int32)) (by decide) rfl at_181 rfl ?_
        refine w_istore C (q := 184) #[.val (.int p1), .val (.int p2), .val (.int p3), .val (.int p4), .val (.int p5), .val (.int p6), .val (.int (0 : Int32)), .val (.int v2), .val (.int v3), .val (.int (1 : Int32)), .val (.ref a1), .val (.ref a2), .val (.ref s1), .val (.ref b5), .unset, .val (.ref b6), .val (.int (0 : Int32)), .unset] at_182 rfl rfl ?_
        refine w_aload C (q := 186) at_184 rfl rfl rfl ?_
        refine w_iload C (q := 188) at_186 rfl rfl ?_
        refine w_iaload C (q := 189) A_a1 (.int (-1 : Int32)) (by decide) rfl at_188 rfl ?_
        refine w_ifge_f C (q := 192) at_189 rfl (by decide) ?_
        refine w_iconst C (q := 193) (2 : Int32) at_192 rfl (by decide) ?_
        refine w_istore C (q := 195) #[.val (.int p1), .val (.int p2), .val (.int p3), .val (.int p4), .val (.int p5), .val (.int p6), .val (.int (0 : Int32)), .val (.int v2), .val (.int v3), .val (.int (1 : Int32)), .val (.ref a1), .val (.ref a2), .val (.ref s1), .val (.ref b5), .val (.int (2 : Int32)), .val (.ref b6), .val (.int (0 : Int32)), .unset] at_193 rfl rfl ?_
        refine w_aload C (q := 197) at_195 rfl rfl rfl ?_
        refine w_iconst C (q := 198) (0 : Int32) at_197 rfl (by decide) ?_
        refine w_aload C (q := 200) at_198 rfl rfl rfl ?_
        refine w_iload C (q := 202) at_200 rfl rfl ?_
        refine w_iaload C (q := 203) A_a2 (.int p1) (by decide) rfl at_202 rfl ?_
        refine w_iastore C (q := 204) A_b6 (by decide) (Nat.le_of_ble_eq_true rfl) at_203 rfl g_b6 ?_
        intro h118 Wh118 A'
        replace A_b6 : Ars Z h118 b6 k_b6 .int [(.int p1), (.int (0 : Int32)), (.int (0 : Int32)), (.int (0 : Int32))] := A'
        skip
        replace A_a1 := A_a1.other Wh118 (Nat.ne_of_lt lt_a1_b6)
        replace A_a2 := A_a2.other Wh118 (Nat.ne_of_lt lt_a2_b6)
        replace E_s1 := E_s1.wr Wh118
        replace A_b5 := A_b5.other Wh118 (Nat.ne_of_lt lt_b5_b6)
        replace Z0 := Nat.le_trans Z0 (Nat.le_of_eq (Wr.size Wh118).symm)
        refine w_aload C (q := 206) at_204 rfl rfl rfl ?_
        refine w_iconst C (q := 207) (1 : Int32) at_206 rfl (by decide) ?_
        refine w_iload C (q := 209) at_207 rfl rfl ?_
        refine w_iastore C (q := 210) A_b6 (by decide) (Nat.le_of_ble_eq_true rfl) at_209 rfl g_b6 ?_
        intro h119 Wh119 A'
        replace A_b6 : Ars Z h119 b6 k_b6 .int [(.int p1), (.int p5), (.int (0 : Int32)), (.int (0 : Int32))] := A'
        skip
        replace A_a1 := A_a1.other Wh119 (Nat.ne_of_lt lt_a1_b6)
        replace A_a2 := A_a2.other Wh119 (Nat.ne_of_lt lt_a2_b6)
        replace E_s1 := E_s1.wr Wh119
        replace A_b5 := A_b5.other Wh119 (Nat.ne_of_lt lt_b5_b6)
        replace Z0 := Nat.le_trans Z0 (Nat.le_of_eq (Wr.size Wh119).symm)
        refine w_goto C (q := 294) at_210 (by decide) (by decide) ?_
        refine w_aload C (q := 296) at_294 rfl rfl rfl ?_
        refine w_ifnullNo C (q := 299) at_296 rfl ?_
        refine w_aload C (q := 301) at_299 rfl rfl rfl ?_
        refine w_arraylength C (q := 302) A_b5 (2 : Int32) rfl at_301 rfl ?_
        refine w_iload C (q := 304) at_302 rfl rfl ?_
        refine w_iceq_t C (q := 309) at_304 (by decide) (by decide) (by decide) ?_
        refine w_aload C (q := 311) at_309 rfl rfl rfl ?_
        refine w_iconst C (q := 312) (0 : Int32) at_311 rfl (by decide) ?_
        refine w_iaload C (q := 313) A_b5 (.int p1) (by decide) rfl at_312 rfl ?_
        refine w_aload C (q := 315) at_313 rfl rfl rfl ?_
        refine w_iconst C (q := 316) (0 : Int32) at_315 rfl (by decide) ?_
        refine w_iaload C (q := 317) A_b6 (.int p1) (by decide) rfl at_316 rfl ?_
        refine w_icne_f C (q := 320) at_317 rfl rfl ?_
        refine w_iconst C (q := 321) (1 : Int32) at_320 rfl (by decide) ?_
        refine w_goto C (q := 325) at_321 (by decide) (by decide) ?_
        refine w_istore C (q := 327) #[.val (.int p1), .val (.int p2), .val (.int p3), .val (.int p4), .val (.int p5), .val (.int p6), .val (.int (0 : Int32)), .val (.int v2), .val (.int v3), .val (.int (1 : Int32)), .val (.ref a1), .val (.ref a2), .val (.ref s1), .val (.ref b5), .val (.int (2 : Int32)), .val (.ref b6), .val (.int (1 : Int32)), .unset] at_325 rfl rfl ?_
        refine w_iload C (q := 329) at_327 rfl rfl ?_
        refine w_iconst C (q := 330) (1 : Int32) at_329 rfl (by decide) ?_
        refine w_icle_f C (q := 333) at_330 rfl (by decide) ?_
        refine w_iload C (q := 335) at_333 rfl rfl ?_
        refine w_ifeq_f C (q := 338) at_335 rfl (by decide) ?_
        refine w_aload C (q := 340) at_338 rfl rfl rfl ?_
        refine w_iconst C (q := 341) (1 : Int32) at_340 rfl (by decide) ?_
        refine w_iaload C (q := 342) A_b5 (.int p5) (by decide) rfl at_341 rfl ?_
        refine w_aload C (q := 344) at_342 rfl rfl rfl ?_
        refine w_iconst C (q := 345) (1 : Int32) at_344 rfl (by decide) ?_
        refine w_iaload C (q := 346) A_b6 (.int p5) (by decide) rfl at_345 rfl ?_
        refine w_icne_f C (q := 349) at_346 rfl rfl ?_
        refine w_iconst C (q := 350) (1 : Int32) at_349 rfl (by decide) ?_
        refine w_goto C (q := 354) at_350 (by decide) (by decide) ?_
        refine w_istore C (q := 356) #[.val (.int p1), .val (.int p2), .val (.int p3), .val (.int p4), .val (.int p5), .val (.int p6), .val (.int (0 : Int32)), .val (.int v2), .val (.int v3), .val (.int (1 : Int32)), .val (.ref a1), .val (.ref a2), .val (.ref s1), .val (.ref b5), .val (.int (2 : Int32)), .val (.ref b6), .val (.int (1 : Int32)), .unset] at_354 rfl rfl ?_
        refine w_iload C (q := 358) at_356 rfl rfl ?_
        refine w_iconst C (q := 359) (2 : Int32) at_358 rfl (by decide) ?_
        refine w_icle_t C (q := 385) at_359 (by decide) (by decide) (by decide) ?_
        refine w_iload C (q := 387) at_385 rfl rfl ?_
        refine w_iconst C (q := 388) (3 : Int32) at_387 rfl (by decide) ?_
        refine w_icle_t C (q := 414) at_388 (by decide) (by decide) (by decide) ?_
        refine w_iload C (q := 416) at_414 rfl rfl ?_
        exact w_retN C at_416 (by decide) (by decide) rfl
      · refine w_virtual C (q := 150) (y := ⟨"com/example/logic_to_machines/logictomachines/PairSearch", "wordTo", "(II)[I"⟩) (z := ⟨"com/example/logic_to_machines/logictomachines/PairSearch", "wordTo", "(II)[I"⟩) (rm := ({ frames := 1, cells := 1, slots := 1, locals := 16 } : Room)) (a := s1) (argsL := [(.int (1 : Int32)), (.int p5)]) (hw _ (List.mem_of_getElem? (i := 67) rfl)) (hw _ (List.mem_of_getElem? (i := 68) rfl)) (hw _ (List.mem_of_getElem? (i := 70) rfl)) (hw _ (List.mem_of_getElem? (i := 70) rfl)) (hw _ (List.mem_of_getElem? (i := 69) rfl)) (hw _ (List.mem_of_getElem? (i := 3) rfl)) (hw _ (List.mem_of_getElem? (i := 71) rfl)) E_s1 (rmW0 l Z a0 hw s1 (1 : Int32) p5 _ n0 Z0 m1 l1 b1 l2 b2 l3 b3 l4 b4 km k1 k2 k3 k4 _ _ _ _ _ _ hPS  (-1 : Int32)  (by decide) (by decide) rfl) (by decide) (rest := []) (lenOf pd_9 rfl) rfl at_147 rfl rfl (by decide) (Nat.le_of_ble_eq_true rfl) (by decide) (by decide) ?_
        intro v h120 hQ
        obtain ⟨b5, kb5, rfl, hb5, K5, A_b5⟩ := hQ
        replace A_a1 := A_a1.keep K5 nin0
        replace A_a2 := A_a2.keep K5 nin0
        replace E_s1 := E_s1.keep K5
        replace Z0 := Nat.le_trans Z0 K5.1
        refine Wk.v1 ?_
        refine w_astore C (q := 152) #[.val (.int p1), .val (.int p2), .val (.int p3), .val (.int p4), .val (.int p5), .val (.int p6), .val (.int (-1 : Int32)), .val (.int v2), .val (.int v3), .val (.int (1 : Int32)), .val (.ref a1), .val (.ref a2), .val (.ref s1), .val (.ref b5), .unset, .unset, .unset, .unset] at_150 rfl rfl rfl ?_
        refine w_iconst C (q := 153) (4 : Int32) at_152 rfl (by decide) ?_
        refine w_newP C (q := 155) (hw _ (List.mem_of_getElem? (i := 0) rfl)) at_153 rfl (by decide) 4 (by decide) (by decide) (by decide) (by decide) ?_
        intro h121 b6 k_b6 eq_b6 Ehh121 A_b6
        replace A_b6 : Ars Z h121 b6 k_b6 .int [(.int (0 : Int32)), (.int (0 : Int32)), (.int (0 : Int32)), (.int (0 : Int32))] := A_b6
        have lt_a1_b6 : (a1 : Nat) < (b6 : Nat) := Nat.lt_of_lt_of_le A_a1.lt (Nat.le_of_eq eq_b6.symm)
        have lt_a2_b6 : (a2 : Nat) < (b6 : Nat) := Nat.lt_of_lt_of_le A_a2.lt (Nat.le_of_eq eq_b6.symm)
        have lt_s1_b6 : (s1 : Nat) < (b6 : Nat) := Nat.lt_of_lt_of_le E_s1.lt (Nat.le_of_eq eq_b6.symm)
        have lt_b5_b6 : (b5 : Nat) < (b6 : Nat) := Nat.lt_of_lt_of_le A_b5.lt (Nat.le_of_eq eq_b6.symm)
        have g_b6 : n0 ≤ b6 := Nat.le_trans Z0 (Nat.le_of_eq eq_b6.symm)
        replace Z0 := Nat.le_trans Z0 Ehh121.1
        replace A_a1 := A_a1.ext Ehh121
        replace A_a2 := A_a2.ext Ehh121
        replace E_s1 := E_s1.ext Ehh121
        replace A_b5 := A_b5.ext Ehh121
        refine w_astore C (q := 157) #[.val (.int p1), .val (.int p2), .val (.int p3), .val (.int p4), .val (.int p5), .val (.int p6), .val (.int (-1 : Int32)), .val (.int v2), .val (.int v3), .val (.int (1 : Int32)), .val (.ref a1), .val (.ref a2), .val (.ref s1), .val (.ref b5), .unset, .val (.ref b6), .unset, .unset] at_155 rfl rfl rfl ?_
        refine w_aload C (q := 159) at_157 rfl rfl rfl ?_
        refine w_iload C (q := 161) at_159 rfl rfl ?_
        refine w_iaload C (q := 162) A_a1 (.int (-1 : Int32)) (by decide) rfl at_161 rfl ?_
        refine w_ifge_f C (q := 165) at_162 rfl (by decide) ?_
        refine w_iconst C (q := 166) (1 : Int32) at_165 rfl (by decide) ?_
        refine w_istore C (q := 168) #[.val (.int p1), .val (.int p2), .val (.int p3), .val (.int p4), .val (.int p5), .val (.int p6), .val (.int (-1 : Int32)), .val (.int v2), .val (.int v3), .val (.int (1 : Int32)), .val (.ref a1), .val (.ref a2), .val (.ref s1), .val (.ref b5), .val (.int (1 : Int32)), .val (.ref b6), .unset, .unset] at_166 rfl rfl ?_
        refine w_aload C (q := 170) at_168 rfl rfl rfl ?_
        refine w_iconst C (q := 171) (0 : Int32) at_170 rfl (by decide) ?_
        refine w_iload C (q := 173) at_171 rfl rfl ?_
        refine w_iastore C (q := 174) A_b6 (by decide) (Nat.le_of_ble_eq_true rfl) at_173 rfl g_b6 ?_
        intro h122 Wh122 A'
        replace A_b6 : Ars Z h122 b6 k_b6 .int [(.int p5), (.int (0 : Int32)), (.int (0 : Int32)), (.int (0 : Int32))] := A'
        skip
        replace A_a1 := A_a1.other Wh122 (Nat.ne_of_lt lt_a1_b6)
        replace A_a2 := A_a2.other Wh122 (Nat.ne_of_lt lt_a2_b6)
        replace E_s1 := E_s1.wr Wh122
        replace A_b5 := A_b5.other Wh122 (Nat.ne_of_lt lt_b5_b6)
        replace Z0 := Nat.le_trans Z0 (Nat.le_of_eq (Wr.size Wh122).symm)
        refine w_goto C (q := 294) at_174 (by decide) (by decide) ?_
        refine w_aload C (q := 296) at_294 rfl rfl rfl ?_
        refine w_ifnullNo C (q := 299) at_296 rfl ?_
        refine w_aload C (q := 301) at_299 rfl rfl rfl ?_
        refine w_arraylength C (q := 302) A_b5 (1 : Int32) rfl at_301 rfl ?_
        refine w_iload C (q := 304) at_302 rfl rfl ?_
        refine w_iceq_t C (q := 309) at_304 (by decide) (by decide) (by decide) ?_
        refine w_aload C (q := 311) at_309 rfl rfl rfl ?_
        refine w_iconst C (q := 312) (0 : Int32) at_311 rfl (by decide) ?_
        refine w_iaload C (q := 313) A_b5 (.int p5) (by decide) rfl at_312 rfl ?_
        refine w_aload C (q := 315) at_313 rfl rfl rfl ?_
        refine w_iconst C (q := 316) (0 : Int32) at_315 rfl (by decide) ?_
        refine w_iaload C (q := 317) A_b6 (.int p5) (by decide) rfl at_316 rfl ?_
        refine w_icne_f C (q := 320) at_317 rfl rfl ?_
        refine w_iconst C (q := 321) (1 : Int32) at_320 rfl (by decide) ?_
        refine w_goto C (q := 325) at_321 (by decide) (by decide) ?_
        refine w_istore C (q := 327) #[.val (.int p1), .val (.int p2), .val (.int p3), .val (.int p4), .val (.int p5), .val (.int p6), .val (.int (-1 : Int32)), .val (.int v2), .val (.int v3), .val (.int (1 : Int32)), .val (.ref a1), .val (.ref a2), .val (.ref s1), .val (.ref b5), .val (.int (1 : Int32)), .val (.ref b6), .val (.int (1 : Int32)), .unset] at_325 rfl rfl ?_
        refine w_iload C (q := 329) at_327 rfl rfl ?_
        refine w_iconst C (q := 330) (1 : Int32) at_329 rfl (by decide) ?_
        refine w_icle_t C (q := 356) at_330 (by decide) (by decide) (by decide) ?_
        refine w_iload C (q := 358) at_356 rfl rfl ?_
        refine w_iconst C (q := 359) (2 : Int32) at_358 rfl (by decide) ?_
        refine w_icle_t C (q := 385) at_359 (by decide) (by decide) (by decide) ?_
        refine w_iload C (q := 387) at_385 rfl rfl ?_
        refine w_iconst C (q := 388) (3 : Int32) at_387 rfl (by decide) ?_
        refine w_icle_t C (q := 414) at_388 (by decide) (by decide) (by decide) ?_
        refine w_iload C (q := 416) at_414 rfl rfl ?_
        exact w_retN C at_416 (by decide) (by decide) rfl
    · rcases hv2 with rfl | rfl
      · refine w_virtual C (q := 150) (y := ⟨"com/example/logic_to_machines/logictomachines/PairSearch", "wordTo", "(II)[I"⟩) (z := ⟨"com/example/logic_to_machines/logictomachines/PairSearch", "wordTo", "(II)[I"⟩) (rm := ({ frames := 1, cells := 1, slots := 2, locals := 16 } : Room)) (a := s1) (argsL := [(.int (2 : Int32)), (.int p5)]) (hw _ (List.mem_of_getElem? (i := 67) rfl)) (hw _ (List.mem_of_getElem? (i := 68) rfl)) (hw _ (List.mem_of_getElem? (i := 70) rfl)) (hw _ (List.mem_of_getElem? (i := 70) rfl)) (hw _ (List.mem_of_getElem? (i := 69) rfl)) (hw _ (List.mem_of_getElem? (i := 3) rfl)) (hw _ (List.mem_of_getElem? (i := 71) rfl)) E_s1 (rmW1 l Z a0 hw s1 (2 : Int32) p5 _ n0 Z0 m1 l1 b1 l2 b2 l3 b3 l4 b4 km k1 k2 k3 k4 _ _ _ _ _ _ hPS (0 : Int32) (-1 : Int32) p2 (by decide) (by decide) (by decide) rfl rfl rfl) (by decide) (rest := []) (lenOf pd_9 rfl) rfl at_147 rfl rfl (by decide) (Nat.le_of_ble_eq_true rfl) (by decide) (by decide) ?_
        intro v h123 hQ
        obtain ⟨b5, kb5, rfl, hb5, K5, A_b5⟩ := hQ
        replace A_a1 := A_a1.keep K5 nin0
        replace A_a2 := A_a2.keep K5 nin0
        replace E_s1 := E_s1.keep K5
        replace Z0 := Nat.le_trans Z0 K5.1
        refine Wk.v1 ?_
        refine w_astore C (q := 152) #[.val (.int p1), .val (.int p2), .val (.int p3), .val (.int p4), .val (.int p5), .val (.int p6), .val (.int v1), .val (.int (0 : Int32)), .val (.int v3), .val (.int (2 : Int32)), .val (.ref a1), .val (.ref a2), .val (.ref s1), .val (.ref b5), .unset, .unset, .unset, .unset] at_150 rfl rfl rfl ?_
        refine w_iconst C (q := 153) (4 : Int32) at_152 rfl (by decide) ?_
        refine w_newP C (q := 155) (hw _ (List.mem_of_getElem? (i := 0) rfl)) at_153 rfl (by decide) 4 (by decide) (by decide) (by decide) (by decide) ?_
        intro h124 b6 k_b6 eq_b6 Ehh124 A_b6
        replace A_b6 : Ars Z h124 b6 k_b6 .int [(.int (0 : Int32)), (.int (0 : Int32)), (.int (0 : Int32)), (.int (0 : Int32))] := A_b6
        have lt_a1_b6 : (a1 : Nat) < (b6 : Nat) := Nat.lt_of_lt_of_le A_a1.lt (Nat.le_of_eq eq_b6.symm)
        have lt_a2_b6 : (a2 : Nat) < (b6 : Nat) := Nat.lt_of_lt_of_le A_a2.lt (Nat.le_of_eq eq_b6.symm)
        have lt_s1_b6 : (s1 : Nat) < (b6 : Nat) := Nat.lt_of_lt_of_le E_s1.lt (Nat.le_of_eq eq_b6.symm)
        have lt_b5_b6 : (b5 : Nat) < (b6 : Nat) := Nat.lt_of_lt_of_le A_b5.lt (Nat.le_of_eq eq_b6.symm)
        have g_b6 : n0 ≤ b6 := Nat.le_trans Z0 (Nat.le_of_eq eq_b6.symm)
        replace Z0 := Nat.le_trans Z0 Ehh124.1
        replace A_a1 := A_a1.ext Ehh124
        replace A_a2 := A_a2.ext Ehh124
        replace E_s1 := E_s1.ext Ehh124
        replace A_b5 := A_b5.ext Ehh124
        refine w_astore C (q := 157) #[.val (.int p1), .val (.int p2), .val (.int p3), .val (.int p4), .val (.int p5), .val (.int p6), .val (.int v1), .val (.int (0 : Int32)), .val (.int v3), .val (.int (2 : Int32)), .val (.ref a1), .val (.ref a2), .val (.ref s1), .val (.ref b5), .unset, .val (.ref b6), .unset, .unset] at_155 rfl rfl rfl ?_
        refine w_aload C (q := 159) at_157 rfl rfl rfl ?_
        refine w_iload C (q := 161) at_159 rfl rfl ?_
        refine w_iaload C (q := 162) A_a1 (.int (0 : Int32)) (by decide) rfl at_161 rfl ?_
        refine w_ifge_t C (q := 177) at_162 (by decide) (by decide) (by decide) ?_
        refine w_aload C (q := 179) at_177 rfl rfl rfl ?_
        refine w_iload C (q := 181) at_179 rfl rfl ?_
        refine w_iaload C (q := 182) A_a1 (.int (0 : Int32)) (by decide) rfl at_181 rfl ?_
        refine w_istore C (q := 184) #[.val (.int p1), .val (.int p2), .val (.int p3), .val (.int p4), .val (.int p5), .val (.int p6), .val (.int v1), .val (.int (0 : Int32)), .val (.int v3), .val (.int (2 : Int32)), .val (.ref a1), .val (.ref a2), .val (.ref s1), .val (.ref b5), .unset, .val (.ref b6), .val (.int (0 : Int32)), .unset] at_182 rfl rfl ?_
        refine w_aload C (q := 186) at_184 rfl rfl rfl ?_
        refine w_iload C (q := 188) at_186 rfl rfl ?_
        refine w_iaload C (q := 189) A_a1 (.int (-1 : Int32)) (by decide) rfl at_188 rfl ?_
        refine w_ifge_f C (q := 192) at_189 rfl (by decide) ?_
        refine w_iconst C (q := 193) (2 : Int32) at_192 rfl (by decide) ?_
        refine w_istore C (q := 195) #[.val (.int p1), .val (.int p2), .val (.int p3), .val (.int p4), .val (.int p5), .val (.int p6), .val (.int v1), .val (.int (0 : Int32)), .val (.int v3), .val (.int (2 : Int32)), .val (.ref a1), .val (.ref a2), .val (.ref s1), .val (.ref b5), .val (.int (2 : Int32)), .val (.ref b6), .val (.int (0 : Int32)), .unset] at_193 rfl rfl ?_
        refine w_aload C (q := 197) at_195 rfl rfl rfl ?_
        refine w_iconst C (q := 198) (0 : Int32) at_197 rfl (by decide) ?_
        refine w_aload C (q := 200) at_198 rfl rfl rfl ?_
        refine w_iload C (q := 202) at_200 rfl rfl ?_
        refine w_iaload C (q := 203) A_a2 (.int p2) (by decide) rfl at_202 rfl ?_
        refine w_iastore C (q := 204) A_b6 (by decide) (Nat.le_of_ble_eq_true rfl) at_203 rfl g_b6 ?_
        intro h125 Wh125 A'
        replace A_b6 : Ars Z h125 b6 k_b6 .int [(.int p2), (.int (0 : Int32)), (.int (0 : Int32)), (.int (0 : Int32))] := A'
        skip
        replace A_a1 := A_a1.other Wh125 (Nat.ne_of_lt lt_a1_b6)
        replace A_a2 := A_a2.other Wh125 (Nat.ne_of_lt lt_a2_b6)
        replace E_s1 := E_s1.wr Wh125
        replace A_b5 := A_b5.other Wh125 (Nat.ne_of_lt lt_b5_b6)
        replace Z0 := Nat.le_trans Z0 (Nat.le_of_eq (Wr.size Wh125).symm)
        refine w_aload C (q := 206) at_204 rfl rfl rfl ?_
        refine w_iconst C (q := 207) (1 : Int32) at_206 rfl (by decide) ?_
        refine w_iload C (q := 209) at_207 rfl rfl ?_
        refine w_iastore C (q := 210) A_b6 (by decide) (Nat.le_of_ble_eq_true rfl) at_209 rfl g_b6 ?_
        intro h126 Wh126 A'
        replace A_b6 : Ars Z h126 b6 k_b6 .int [(.int p2), (.int p5), (.int (0 : Int32)), (.int (0 : Int32))] := A'
        skip
        replace A_a1 := A_a1.other Wh126 (Nat.ne_of_lt lt_a1_b6)
        replace A_a2 := A_a2.other Wh126 (Nat.ne_of_lt lt_a2_b6)
        replace E_s1 := E_s1.wr Wh126
        replace A_b5 := A_b5.other Wh126 (Nat.ne_of_lt lt_b5_b6)
        replace Z0 := Nat.le_trans Z0 (Nat.le_of_eq (Wr.size Wh126).symm)
        refine w_goto C (q := 294) at_210 (by decide) (by decide) ?_
        refine w_aload C (q := 296) at_294 rfl rfl rfl ?_
        refine w_ifnullNo C (q := 299) at_296 rfl ?_
        refine w_aload C (q := 301) at_299 rfl rfl rfl ?_
        refine w_arraylength C (q := 302) A_b5 (2 : Int32) rfl at_301 rfl ?_
        refine w_iload C (q := 304) at_302 rfl rfl ?_
        refine w_iceq_t C (q := 309) at_304 (by decide) (by decide) (by decide) ?_
        refine w_aload C (q := 311) at_309 rfl rfl rfl ?_
        refine w_iconst C (q := 312) (0 : Int32) at_311 rfl (by decide) ?_
        refine w_iaload C (q := 313) A_b5 (.int p2) (by decide) rfl at_312 rfl ?_
        refine w_aload C (q := 315) at_313 rfl rfl rfl ?_
        refine w_iconst C (q := 316) (0 : Int32) at_315 rfl (by decide) ?_
        refine w_iaload C (q := 317) A_b6 (.int p2) (by decide) rfl at_316 rfl ?_
        refine w_icne_f C (q := 320) at_317 rfl rfl ?_
        refine w_iconst C (q := 321) (1 : Int32) at_320 rfl (by decide) ?_
        refine w_goto C (q := 325) at_321 (by decide) (by decide) ?_
        refine w_istore C (q := 327) #[.val (.int p1), .val (.int p2), .val (.int p3), .val (.int p4), .val (.int p5), .val (.int p6), .val (.int v1), .val (.int (0 : Int32)), .val (.int v3), .val (.int (2 : Int32)), .val (.ref a1), .val (.ref a2), .val (.ref s1), .val (.ref b5), .val (.int (2 : Int32)), .val (.ref b6), .val (.int (1 : Int32)), .unset] at_325 rfl rfl ?_
        refine w_iload C (q := 329) at_327 rfl rfl ?_
        refine w_iconst C (q := 330) (1 : Int32) at_329 rfl (by decide) ?_
        refine w_icle_f C (q := 333) at_330 rfl (by decide) ?_
        refine w_iload C (q := 335) at_333 rfl rfl ?_
        refine w_ifeq_f C (q := 338) at_335 rfl (by decide) ?_
        refine w_aload C (q := 340) at_338 rfl rfl rfl ?_
        refine w_iconst C (q := 341) (1 : Int32) at_340 rfl (by decide) ?_
        refine w_iaload C (q := 342) A_b5 (.int p5) (by decide) rfl at_341 rfl ?_
        refine w_aload C (q := 344) at_342 rfl rfl rfl ?_
        refine w_iconst C (q := 345) (1 : Int32) at_344 rfl (by decide) ?_
        refine w_iaload C (q := 346) A_b6 (.int p5) (by decide) rfl at_345 rfl ?_
        refine w_icne_f C (q := 349) at_346 rfl rfl ?_
        refine w_iconst C (q := 350) (1 : Int32) at_349 rfl (by decide) ?_
        refine w_goto C (q := 354) at_350 (by decide) (by decide) ?_
        refine w_istore C (q := 356) #[.val (.int p1), .val (.int p2), .val (.int p3), .val (.int p4), .val (.int p5), .val (.int p6), .val (.int v1), .val (.int (0 : Int32)), .val (.int v3), .val (.int (2 : Int32)), .val (.ref a1), .val (.ref a2), .val (.ref s1), .val (.ref b5), .val (.int (2 : Int32)), .val (.ref b6), .val (.int (1 : Int32)), .unset] at_354 rfl rfl ?_
        refine w_iload C (q := 358) at_356 rfl rfl ?_
        refine w_iconst C (q := 359) (2 : Int32) at_358 rfl (by decide) ?_
        refine w_icle_t C (q := 385) at_359 (by decide) (by decide) (by decide) ?_
        refine w_iload C (q := 387) at_385 rfl rfl ?_
        refine w_iconst C (q := 388) (3 : Int32) at_387 rfl (by decide) ?_
        refine w_icle_t C (q := 414) at_388 (by decide) (by decide) (by decide) ?_
        refine w_iload C (q := 416) at_414 rfl rfl ?_
        exact w_retN C at_416 (by decide) (by decide) rfl
      · rcases hv1 with rfl | rfl
        · refine w_virtual C (q := 150) (y := ⟨"com/example/logic_to_machines/logictomachines/PairSearch", "wordTo", "(II)[I"⟩) (z := ⟨"com/example/logic_to_machines/logictomachines/PairSearch", "wordTo", "(II)[I"⟩) (rm := ({ frames := 1, cells := 1, slots := 3, locals := 16 } : Room)) (a := s1) (argsL := [(.int (2 : Int32)), (.int p5)]) (hw _ (List.mem_of_getElem? (i := 67) rfl)) (hw _ (List.mem_of_getElem? (i := 68) rfl)) (hw _ (List.mem_of_getElem? (i := 70) rfl)) (hw _ (List.mem_of_getElem? (i := 70) rfl)) (hw _ (List.mem_of_getElem? (i := 69) rfl)) (hw _ (List.mem_of_getElem? (i := 3) rfl)) (hw _ (List.mem_of_getElem? (i := 71) rfl)) E_s1 (rmW2 l Z a0 hw s1 (2 : Int32) p5 _ n0 Z0 m1 l1 b1 l2 b2 l3 b3 l4 b4 km k1 k2 k3 k4 _ _ _ _ _ _ hPS (1 : Int32) (0 : Int32) (-1 : Int32) p2 p1 (by decide) (by decide) (by decide) (by decide) rfl rfl rfl rfl rfl) (by decide) (rest := []) (lenOf pd_9 rfl) rfl at_147 rfl rfl (by decide) (Nat.le_of_ble_eq_true rfl) (by decide) (by decide) ?_
          intro v h127 hQ
          obtain ⟨b5, kb5, rfl, hb5, K5, A_b5⟩ := hQ
          replace A_a1 := A_a1.keep K5 nin0
          replace A_a2 := A_a2.keep K5 nin0
          replace E_s1 := E_s1.keep K5
          replace Z0 := Nat.le_trans Z0 K5.1
          refine Wk.v1 ?_
          refine w_astore C (q := 152) #[.val (.int p1), .val (.int p2), .val (.int p3), .val (.int p4), .val (.int p5), .val (.int p6), .val (.int (0 : Int32)), .val (.int (1 : Int32)), .val (.int v3), .val (.int (2 : Int32)), .val (.ref a1), .val (.ref a2), .val (.ref s1), .val (.ref b5), .unset, .unset, .unset, .unset] at_150 rfl rfl rfl ?_
          refine w_iconst C (q := 153) (4 : Int32) at_152 rfl (by decide) ?_
          refine w_newP C (q := 155) (hw _ (List.mem_of_getElem? (i := 0) rfl)) at_153 rfl (by decide) 4 (by decide) (by decide) (by decide) (by decide) ?_
          intro h128 b6 k_b6 eq_b6 Ehh128 A_b6
          replace A_b6 : Ars Z h128 b6 k_b6 .int [(.int (0 : Int32)), (.int (0 : Int32)), (.int (0 : Int32)), (.int (0 : Int32))] := A_b6
          have lt_a1_b6 : (a1 : Nat) < (b6 : Nat) := Nat.lt_of_lt_of_le A_a1.lt (Nat.le_of_eq eq_b6.symm)
          have lt_a2_b6 : (a2 : Nat) < (b6 : Nat) := Nat.lt_of_lt_of_le A_a2.lt (Nat.le_of_eq eq_b6.symm)
          have lt_s1_b6 : (s1 : Nat) < (b6 : Nat) := Nat.lt_of_lt_of_le E_s1.lt (Nat.le_of_eq eq_b6.symm)
          have lt_b5_b6 : (b5 : Nat) < (b6 : Nat) := Nat.lt_of_lt_of_le A_b5.lt (Nat.le_of_eq eq_b6.symm)
          have g_b6 : n0 ≤ b6 := Nat.le_trans Z0 (Nat.le_of_eq eq_b6.symm)
          replace Z0 := Nat.le_trans Z0 Ehh128.1
          replace A_a1 := A_a1.ext Ehh128
          replace A_a2 := A_a2.ext Ehh128
          replace E_s1 := E_s1.ext Ehh128
          replace A_b5 := A_b5.ext Ehh128
          refine w_astore C (q := 157) #[.val (.int p1), .val (.int p2), .val (.int p3), .val (.int p4), .val (.int p5), .val (.int p6), .val (.int (0 : Int32)), .val (.int (1 : Int32)), .val (.int v3), .val (.int (2 : Int32)), .val (.ref a1), .val (.ref a2), .val (.ref s1), .val (.ref b5), .unset, .val (.ref b6), .unset, .unset] at_155 rfl rfl rfl ?_
          refine w_aload C (q := 159) at_157 rfl rfl rfl ?_
          refine w_iload C (q := 161) at_159 rfl rfl ?_
          refine w_iaload C (q := 162) A_a1 (.int (1 : Int32)) (by decide) rfl at_161 rfl ?_
          refine w_ifge_t C (q := 177) at_162 (by decide) (by decide) (by decide) ?_
          refine w_aload C (q := 179) at_177 rfl rfl rfl ?_
          refine w_iload C (q := 181) at_179 rfl rfl ?_
          refine w_iaload C (q := 182) A_a1 (.int (1 : Int32)) (by decide) rfl at_181 rfl ?_
          refine w_istore C (q := 184) #[.val (.int p1), .val (.int p2), .val (.int p3), .val (.int p4), .val (.int p5), .val (.int p6), .val (.int (0 : Int32)), .val (.int (1 : Int32)), .val (.int v3), .val (.int (2 : Int32)), .val (.ref a1), .val (.ref a2), .val (.ref s1), .val (.ref b5), .unset, .val (.ref b6), .val (.int (1 : Int32)), .unset] at_182 rfl rfl ?_
          refine w_aload C (q := 186) at_184 rfl rfl rfl ?_
          refine w_iload C (q := 188) at_186 rfl rfl ?_
          refine w_iaload C (q := 189) A_a1 (.int (0 : Int32)) (by decide) rfl at_188 rfl ?_
          refine w_ifge_t C (q := 213) at_189 (by decide) (by decide) (by decide) ?_
          refine w_aload C (q := 215) at_213 rfl rfl rfl ?_
          refine w_iload C (q := 217) at_215 rfl rfl ?_
          refine w_iaload C (q := 218) A_a1 (.int (0 : Int32)) (by decide) rfl at_217 rfl ?_
          refine w_istore C (q := 220) #[.val (.int p1), .val (.int p2), .val (.int p3), .val (.int p4), .val (.int p5), .val (.int p6), .val (.int (0 : Int32)), .val (.int (1 : Int32)), .val (.int v3), .val (.int (2 : Int32)), .val (.ref a1), .val (.ref a2), .val (.ref s1), .val (.ref b5), .unset, .val (.ref b6), .val (.int (1 : Int32)), .val (.int (0 : Int32))] at_218 rfl rfl ?_
          refine w_aload C (q := 222) at_220 rfl rfl rfl ?_
          refine w_iload C (q := 224) at_222 rfl rfl ?_
          refine w_iaload C (q := 225) A_a1 (.int (-1 : Int32)) (by decide) rfl at_224 rfl ?_
          refine w_ifge_f C (q := 228) at_225 rfl (by decide) ?_
          refine w_iconst C (q := 229) (3 : Int32) at_228 rfl (by decide) ?_
          refine w_istore C (q := 231) #[.val (.int p1), .val (.int p2), .val (.int p3), .val (.int p4), .val (.int p5), .val (.int p6), .val (.int (0 : Int32)), .val (.int (1 : Int32)), .val (.int v3), .val (.int (2 : Int32)), .val (.ref a1), .val (.ref a2), .val (.ref s1), .val (.ref b5), .val (.int (3 : Int32)), .val (.ref b6), .val (.int (1 : Int32)), .val (.int (0 : Int32))] at_229 rfl rfl ?_
          refine w_aload C (q := 233) at_231 rfl rfl rfl ?_
          refine w_iconst C (q := 234) (0 : Int32) at_233 rfl (by decide) ?_
          refine w_aload C (q := 236) at_234 rfl rfl rfl ?_
          refine w_iload C (q := 238) at_236 rfl rfl ?_
          refine w_iaload C (q := 239) A_a2 (.int p1) (by decide) rfl at_238 rfl ?_
          refine w_iastore C (q := 240) A_b6 (by decide) (Nat.le_of_ble_eq_true rfl) at_239 rfl g_b6 ?_
          intro h129 Wh129 A'
          replace A_b6 : Ars Z h129 b6 k_b6 .int [(.int p1), (.int (0 : Int32)), (.int (0 : Int32)), (.int (0 : Int32))] := A'
          skip
          replace A_a1 := A_a1.other Wh129 (Nat.ne_of_lt lt_a1_b6)
          replace A_a2 := A_a2.other Wh129 (Nat.ne_of_lt lt_a2_b6)
          replace E_s1 := E_s1.wr Wh129
          replace A_b5 := A_b5.other Wh129 (Nat.ne_of_lt lt_b5_b6)
          replace Z0 := Nat.le_trans Z0 (Nat.le_of_eq (Wr.size Wh129).symm)
          refine w_aload C (q := 242) at_240 rfl rfl rfl ?_
          refine w_iconst C (q := 243) (1 : Int32) at_242 rfl (by decide) ?_
          refine w_aload C (q := 245) at_243 rfl rfl rfl ?_
          refine w_iload C (q := 247) at_245 rfl rfl ?_
          refine w_iaload C (q := 248) A_a2 (.int p2) (by decide) rfl at_247 rfl ?_
          refine w_iastore C (q := 249) A_b6 (by decide) (Nat.le_of_ble_eq_true rfl) at_248 rfl g_b6 ?_
          intro h130 Wh130 A'
          replace A_b6 : Ars Z h130 b6 k_b6 .int [(.int p1), (.int p2), (.int (0 : Int32)), (.int (0 : Int32))] := A'
          skip
          replace A_a1 := A_a1.other Wh130 (Nat.ne_of_lt lt_a1_b6)
          replace A_a2 := A_a2.other Wh130 (Nat.ne_of_lt lt_a2_b6)
          replace E_s1 := E_s1.wr Wh130
          replace A_b5 := A_b5.other Wh130 (Nat.ne_of_lt lt_b5_b6)
          replace Z0 := Nat.le_trans Z0 (Nat.le_of_eq (Wr.size Wh130).symm)
          refine w_aload C (q := 251) at_249 rfl rfl rfl ?_
          refine w_iconst C (q := 252) (2 : Int32) at_251 rfl (by decide) ?_
          refine w_iload C (q := 254) at_252 rfl rfl ?_
          refine w_iastore C (q := 255) A_b6 (by decide) (Nat.le_of_ble_eq_true rfl) at_254 rfl g_b6 ?_
          intro h131 Wh131 A'
          replace A_b6 : Ars Z h131 b6 k_b6 .int [(.int p1), (.int p2), (.int p5), (.int (0 : Int32))] := A'
          skip
          replace A_a1 := A_a1.other Wh131 (Nat.ne_of_lt lt_a1_b6)
          replace A_a2 := A_a2.other Wh131 (Nat.ne_of_lt lt_a2_b6)
          replace E_s1 := E_s1.wr Wh131
          replace A_b5 := A_b5.other Wh131 (Nat.ne_of_lt lt_b5_b6)
          replace Z0 := Nat.le_trans Z0 (Nat.le_of_eq (Wr.size Wh131).symm)
          refine w_goto C (q := 294) at_255 (by decide) (by decide) ?_
          refine w_aload C (q := 296) at_294 rfl rfl rfl ?_
          refine w_ifnullNo C (q := 299) at_296 rfl ?_
          refine w_aload C (q := 301) at_299 rfl rfl rfl ?_
          refine w_arraylength C (q := 302) A_b5 (3 : Int32) rfl at_301 rfl ?_
          refine w_iload C (q := 304) at_302 rfl rfl ?_
          refine w_iceq_t C (q := 309) at_304 (by decide) (by decide) (by decide) ?_
          refine w_aload C (q := 311) at_309 rfl rfl rfl ?_
          refine w_iconst C (q := 312) (0 : Int32) at_311 rfl (by decide) ?_
          refine w_iaload C (q := 313) A_b5 (.int p1) (by decide) rfl at_312 rfl ?_
          refine w_aload C (q := 315) at_313 rfl rfl rfl ?_
          refine w_iconst C (q := 316) (0 : Int32) at_315 rfl (by decide) ?_
          refine w_iaload C (q := 317) A_b6 (.int p1) (by decide) rfl at_316 rfl ?_
          refine w_icne_f C (q := 320) at_317 rfl rfl ?_
          refine w_iconst C (q := 321) (1 : Int32) at_320 rfl (by decide) ?_
          refine w_goto C (q := 325) at_321 (by decide) (by decide) ?_
          refine w_istore C (q := 327) #[.val (.int p1), .val (.int p2), .val (.int p3), .val (.int p4), .val (.int p5), .val (.int p6), .val (.int (0 : Int32)), .val (.int (1 : Int32)), .val (.int v3), .val (.int (2 : Int32)), .val (.ref a1), .val (.ref a2), .val (.ref s1), .val (.ref b5), .val (.int (3 : Int32)), .val (.ref b6), .val (.int (1 : Int32)), .val (.int (0 : Int32))] at_325 rfl rfl ?_
          refine w_iload C (q := 329) at_327 rfl rfl ?_
          refine w_iconst C (q := 330) (1 : Int32) at_329 rfl (by decide) ?_
          refine w_icle_f C (q := 333) at_330 rfl (by decide) ?_
          refine w_iload C (q := 335) at_333 rfl rfl ?_
          refine w_ifeq_f C (q := 338) at_335 rfl (by decide) ?_
          refine w_aload C (q := 340) at_338 rfl rfl rfl ?_
          refine w_iconst C (q := 341) (1 : Int32) at_340 rfl (by decide) ?_
          refine w_iaload C (q := 342) A_b5 (.int p2) (by decide) rfl at_341 rfl ?_
          refine w_aload C (q := 344) at_342 rfl rfl rfl ?_
          refine w_iconst C (q := 345) (1 : Int32) at_344 rfl (by decide) ?_
          refine w_iaload C (q := 346) A_b6 (.int p2) (by decide) rfl at_345 rfl ?_
          refine w_icne_f C (q := 349) at_346 rfl rfl ?_
          refine w_iconst C (q := 350) (1 : Int32) at_349 rfl (by decide) ?_
          refine w_goto C (q := 354) at_350 (by decide) (by decide) ?_
          refine w_istore C (q := 356) #[.val (.int p1), .val (.int p2), .val (.int p3), .val (.int p4), .val (.int p5), .val (.int p6), .val (.int (0 : Int32)), .val (.int (1 : Int32)), .val (.int v3), .val (.int (2 : Int32)), .val (.ref a1), .val (.ref a2), .val (.ref s1), .val (.ref b5), .val (.int (3 : Int32)), .val (.ref b6), .val (.int (1 : Int32)), .val (.int (0 : Int32))] at_354 rfl rfl ?_
          refine w_iload C (q := 358) at_356 rfl rfl ?_
          refine w_iconst C (q := 359) (2 : Int32) at_358 rfl (by decide) ?_
          refine w_icle_f C (q := 362) at_359 rfl (by decide) ?_
          refine w_iload C (q := 364) at_362 rfl rfl ?_
          refine w_ifeq_f C (q := 367) at_364 rfl (by decide) ?_
          refine w_aload C (q := 369) at_367 rfl rfl rfl ?_
          refine w_iconst C (q := 370) (2 : Int32) at_369 rfl (by decide) ?_
          refine w_iaload C (q := 371) A_b5 (.int p5) (by decide) rfl at_370 rfl ?_
          refine w_aload C (q := 373) at_371 rfl rfl rfl ?_
          refine w_iconst C (q := 374) (2 : Int32) at_373 rfl (by decide) ?_
          refine w_iaload C (q := 375) A_b6 (.int p5) (by decide) rfl at_374 rfl ?_
          refine w_icne_f C (q := 378) at_375 rfl rfl ?_
          refine w_iconst C (q := 379) (1 : Int32) at_378 rfl (by decide) ?_
          refine w_goto C (q := 383) at_379 (by decide) (by decide) ?_
          refine w_istore C (q := 385) #[.val (.int p1), .val (.int p2), .val (.int p3), .val (.int p4), .val (.int p5), .val (.int p6), .val (.int (0 : Int32)), .val (.int (1 : Int32)), .val (.int v3), .val (.int (2 : Int32)), .val (.ref a1), .val (.ref a2), .val (.ref s1), .val (.ref b5), .val (.int (3 : Int32)), .val (.ref b6), .val (.int (1 : Int32)), .val (.int (0 : Int32))] at_383 rfl rfl ?_
          refine w_iload C (q := 387) at_385 rfl rfl ?_
          refine w_iconst C (q := 388) (3 : Int32) at_387 rfl (by decide) ?_
          refine w_icle_t C (q := 414) at_388 (by decide) (by decide) (by decide) ?_
          refine w_iload C (q := 416) at_414 rfl rfl ?_
          exact w_retN C at_416 (by decide) (by decide) rfl
        · refine w_virtual C (q := 150) (y := ⟨"com/example/logic_to_machines/logictomachines/PairSearch", "wordTo", "(II)[I"⟩) (z := ⟨"com/example/logic_to_machines/logictomachines/PairSearch", "wordTo", "(II)[I"⟩) (rm := ({ frames := 1, cells := 1, slots := 2, locals := 16 } : Room)) (a := s1) (argsL := [(.int (2 : Int32)), (.int p5)]) (hw _ (List.mem_of_getElem? (i := 67) rfl)) (hw _ (List.mem_of_getElem? (i := 68) rfl)) (hw _ (List.mem_of_getElem? (i := 70) rfl)) (hw _ (List.mem_of_getElem? (i := 70) rfl)) (hw _ (List.mem_of_getElem? (i := 69) rfl)) (hw _ (List.mem_of_getElem? (i := 3) rfl)) (hw _ (List.mem_of_getElem? (i := 71) rfl)) E_s1 (rmW1 l Z a0 hw s1 (2 : Int32) p5 _ n0 Z0 m1 l1 b1 l2 b2 l3 b3 l4 b4 km k1 k2 k3 k4 _ _ _ _ _ _ hPS (1 : Int32) (-1 : Int32) p2 (by decide) (by decide) (by decide) rfl rfl rfl) (by decide) (rest := []) (lenOf pd_9 rfl) rfl at_147 rfl rfl (by decide) (Nat.le_of_ble_eq_true rfl) (by decide) (by decide) ?_
          intro v h132 hQ
          obtain ⟨b5, kb5, rfl, hb5, K5, A_b5⟩ := hQ
          replace A_a1 := A_a1.keep K5 nin0
          replace A_a2 := A_a2.keep K5 nin0
          replace E_s1 := E_s1.keep K5
          replace Z0 := Nat.le_trans Z0 K5.1
          refine Wk.v1 ?_
          refine w_astore C (q := 152) #[.val (.int p1), .val (.int p2), .val (.int p3), .val (.int p4), .val (.int p5), .val (.int p6), .val (.int (-1 : Int32)), .val (.int (1 : Int32)), .val (.int v3), .val (.int (2 : Int32)), .val (.ref a1), .val (.ref a2), .val (.ref s1), .val (.ref b5), .unset, .unset, .unset, .unset] at_150 rfl rfl rfl ?_
          refine w_iconst C (q := 153) (4 : Int32) at_152 rfl (by decide) ?_
          refine w_newP C (q := 155) (hw _ (List.mem_of_getElem? (i := 0) rfl)) at_153 rfl (by decide) 4 (by decide) (by decide) (by decide) (by decide) ?_
          intro h133 b6 k_b6 eq_b6 Ehh133 A_b6
          replace A_b6 : Ars Z h133 b6 k_b6 .int [(.int (0 : Int32)), (.int (0 : Int32)), (.int (0 : Int32)), (.int (0 : Int32))] := A_b6
          have lt_a1_b6 : (a1 : Nat) < (b6 : Nat) := Nat.lt_of_lt_of_le A_a1.lt (Nat.le_of_eq eq_b6.symm)
          have lt_a2_b6 : (a2 : Nat) < (b6 : Nat) := Nat.lt_of_lt_of_le A_a2.lt (Nat.le_of_eq eq_b6.symm)
          have lt_s1_b6 : (s1 : Nat) < (b6 : Nat) := Nat.lt_of_lt_of_le E_s1.lt (Nat.le_of_eq eq_b6.symm)
          have lt_b5_b6 : (b5 : Nat) < (b6 : Nat) := Nat.lt_of_lt_of_le A_b5.lt (Nat.le_of_eq eq_b6.symm)
          have g_b6 : n0 ≤ b6 := Nat.le_trans Z0 (Nat.le_of_eq eq_b6.symm)
          replace Z0 := Nat.le_trans Z0 Ehh133.1
          replace A_a1 := A_a1.ext Ehh133
          replace A_a2 := A_a2.ext Ehh133
          replace E_s1 := E_s1.ext Ehh133
          replace A_b5 := A_b5.ext Ehh133
          refine w_astore C (q := 157) #[.val (.int p1), .val (.int p2), .val (.int p3), .val (.int p4), .val (.int p5), .val (.int p6), .val (.int (-1 : Int32)), .val (.int (1 : Int32)), .val (.int v3), .val (.int (2 : Int32)), .val (.ref a1), .val (.ref a2), .val (.ref s1), .val (.ref b5), .unset, .val (.ref b6), .unset, .unset] at_155 rfl rfl rfl ?_
          refine w_aload C (q := 159) at_157 rfl rfl rfl ?_
          refine w_iload C (q := 161) at_159 rfl rfl ?_
          refine w_iaload C (q := 162) A_a1 (.int (1 : Int32)) (by decide) rfl at_161 rfl ?_
          refine w_ifge_t C (q := 177) at_162 (by decide) (by decide) (by decide) ?_
          refine w_aload C (q := 179) at_177 rfl rfl rfl ?_
          refine w_iload C (q := 181) at_179 rfl rfl ?_
          refine w_iaload C (q := 182) A_a1 (.int (1 : Int32)) (by decide) rfl at_181 rfl ?_
          refine w_istore C (q := 184) #[.val (.int p1), .val (.int p2), .val (.int p3), .val (.int p4), .val (.int p5), .val (.int p6), .val (.int (-1 : Int32)), .val (.int (1 : Int32)), .val (.int v3), .val (.int (2 : Int32)), .val (.ref a1), .val (.ref a2), .val (.ref s1), .val (.ref b5), .unset, .val (.ref b6), .val (.int (1 : Int32)), .unset] at_182 rfl rfl ?_
          refine w_aload C (q := 186) at_184 rfl rfl rfl ?_
          refine w_iload C (q := 188) at_186 rfl rfl ?_
          refine w_iaload C (q := 189) A_a1 (.int (-1 : Int32)) (by decide) rfl at_188 rfl ?_
          refine w_ifge_f C (q := 192) at_189 rfl (by decide) ?_
          refine w_iconst C (q := 193) (2 : Int32) at_192 rfl (by decide) ?_
          refine w_istore C (q := 195) #[.val (.int p1), .val (.int p2), .val (.int p3), .val (.int p4), .val (.int p5), .val (.int p6), .val (.int (-1 : Int32)), .val (.int (1 : Int32)), .val (.int v3), .val (.int (2 : Int32)), .val (.ref a1), .val (.ref a2), .val (.ref s1), .val (.ref b5), .val (.int (2 : Int32)), .val (.ref b6), .val (.int (1 : Int32)), .unset] at_193 rfl rfl ?_
          refine w_aload C (q := 197) at_195 rfl rfl rfl ?_
          refine w_iconst C (q := 198) (0 : Int32) at_197 rfl (by decide) ?_
          refine w_aload C (q := 200) at_198 rfl rfl rfl ?_
          refine w_iload C (q := 202) at_200 rfl rfl ?_
          refine w_iaload C (q := 203) A_a2 (.int p2) (by decide) rfl at_202 rfl ?_
          refine w_iastore C (q := 204) A_b6 (by decide) (Nat.le_of_ble_eq_true rfl) at_203 rfl g_b6 ?_
          intro h134 Wh134 A'
          replace A_b6 : Ars Z h134 b6 k_b6 .int [(.int p2), (.int (0 : Int32)), (.int (0 : Int32)), (.int (0 : Int32))] := A'
          skip
          replace A_a1 := A_a1.other Wh134 (Nat.ne_of_lt lt_a1_b6)
          replace A_a2 := A_a2.other Wh134 (Nat.ne_of_lt lt_a2_b6)
          replace E_s1 := E_s1.wr Wh134
          replace A_b5 := A_b5.other Wh134 (Nat.ne_of_lt lt_b5_b6)
          replace Z0 := Nat.le_trans Z0 (Nat.le_of_eq (Wr.size Wh134).symm)
          refine w_aload C (q := 206) at_204 rfl rfl rfl ?_
          refine w_iconst C (q := 207) (1 : Int32) at_206 rfl (by decide) ?_
          refine w_iload C (q := 209) at_207 rfl rfl ?_
          refine w_iastore C (q := 210) A_b6 (by decide) (Nat.le_of_ble_eq_true rfl) at_209 rfl g_b6 ?_
          intro h135 Wh135 A'
          replace A_b6 : Ars Z h135 b6 k_b6 .int [(.int p2), (.int p5), (.int (0 : Int32)), (.int (0 : Int32))] := A'
          skip
          replace A_a1 := A_a1.other Wh135 (Nat.ne_of_lt lt_a1_b6)
          replace A_a2 := A_a2.other Wh135 (Nat.ne_of_lt lt_a2_b6)
          replace E_s1 := E_s1.wr Wh135
          replace A_b5 := A_b5.other Wh135 (Nat.ne_of_lt lt_b5_b6)
          replace Z0 := Nat.le_trans Z0 (Nat.le_of_eq (Wr.size Wh135).symm)
          refine w_goto C (q := 294) at_210 (by decide) (by decide) ?_
          refine w_aload C (q := 296) at_294 rfl rfl rfl ?_
          refine w_ifnullNo C (q := 299) at_296 rfl ?_
          refine w_aload C (q := 301) at_299 rfl rfl rfl ?_
          refine w_arraylength C (q := 302) A_b5 (2 : Int32) rfl at_301 rfl ?_
          refine w_iload C (q := 304) at_302 rfl rfl ?_
          refine w_iceq_t C (q := 309) at_304 (by decide) (by decide) (by decide) ?_
          refine w_aload C (q := 311) at_309 rfl rfl rfl ?_
          refine w_iconst C (q := 312) (0 : Int32) at_311 rfl (by decide) ?_
          refine w_iaload C (q := 313) A_b5 (.int p2) (by decide) rfl at_312 rfl ?_
          refine w_aload C (q := 315) at_313 rfl rfl rfl ?_
          refine w_iconst C (q := 316) (0 : Int32) at_315 rfl (by decide) ?_
          refine w_iaload C (q := 317) A_b6 (.int p2) (by decide) rfl at_316 rfl ?_
          refine w_icne_f C (q := 320) at_317 rfl rfl ?_
          refine w_iconst C (q := 321) (1 : Int32) at_320 rfl (by decide) ?_
          refine w_goto C (q := 325) at_321 (by decide) (by decide) ?_
          refine w_istore C (q := 327) #[.val (.int p1), .val (.int p2), .val (.int p3), .val (.int p4), .val (.int p5), .val (.int p6), .val (.int (-1 : Int32)), .val (.int (1 : Int32)), .val (.int v3), .val (.int (2 : Int32)), .val (.ref a1), .val (.ref a2), .val (.ref s1), .val (.ref b5), .val (.int (2 : Int32)), .val (.ref b6), .val (.int (1 : Int32)), .unset] at_325 rfl rfl ?_
          refine w_iload C (q := 329) at_327 rfl rfl ?_
          refine w_iconst C (q := 330) (1 : Int32) at_329 rfl (by decide) ?_
          refine w_icle_f C (q := 333) at_330 rfl (by decide) ?_
          refine w_iload C (q := 335) at_333 rfl rfl ?_
          refine w_ifeq_f C (q := 338) at_335 rfl (by decide) ?_
          refine w_aload C (q := 340) at_338 rfl rfl rfl ?_
          refine w_iconst C (q := 341) (1 : Int32) at_340 rfl (by decide) ?_
          refine w_iaload C (q := 342) A_b5 (.int p5) (by decide) rfl at_341 rfl ?_
          refine w_aload C (q := 344) at_342 rfl rfl rfl ?_
          refine w_iconst C (q := 345) (1 : Int32) at_344 rfl (by decide) ?_
          refine w_iaload C (q := 346) A_b6 (.int p5) (by decide) rfl at_345 rfl ?_
          refine w_icne_f C (q := 349) at_346 rfl rfl ?_
          refine w_iconst C (q := 350) (1 : Int32) at_349 rfl (by decide) ?_
          refine w_goto C (q := 354) at_350 (by decide) (by decide) ?_
          refine w_istore C (q := 356) #[.val (.int p1), .val (.int p2), .val (.int p3), .val (.int p4), .val (.int p5), .val (.int p6), .val (.int (-1 : Int32)), .val (.int (1 : Int32)), .val (.int v3), .val (.int (2 : Int32)), .val (.ref a1), .val (.ref a2), .val (.ref s1), .val (.ref b5), .val (.int (2 : Int32)), .val (.ref b6), .val (.int (1 : Int32)), .unset] at_354 rfl rfl ?_
          refine w_iload C (q := 358) at_356 rfl rfl ?_
          refine w_iconst C (q := 359) (2 : Int32) at_358 rfl (by decide) ?_
          refine w_icle_t C (q := 385) at_359 (by decide) (by decide) (by decide) ?_
          refine w_iload C (q := 387) at_385 rfl rfl ?_
          refine w_iconst C (q := 388) (3 : Int32) at_387 rfl (by decide) ?_
          refine w_icle_t C (q := 414) at_388 (by decide) (by decide) (by decide) ?_
          refine w_iload C (q := 416) at_414 rfl rfl ?_
          exact w_retN C at_416 (by decide) (by decide) rfl
    · rcases hv3 with rfl | rfl | rfl
      · refine w_virtual C (q := 150) (y := ⟨"com/example/logic_to_machines/logictomachines/PairSearch", "wordTo", "(II)[I"⟩) (z := ⟨"com/example/logic_to_machines/logictomachines/PairSearch", "wordTo", "(II)[I"⟩) (rm := ({ frames := 1, cells := 1, slots := 2, locals := 16 } : Room)) (a := s1) (argsL := [(.int (3 : Int32)), (.int p5)]) (hw _ (List.mem_of_getElem? (i := 67) rfl)) (hw _ (List.mem_of_getElem? (i := 68) rfl)) (hw _ (List.mem_of_getElem? (i := 70) rfl)) (hw _ (List.mem_of_getElem? (i := 70) rfl)) (hw _ (List.mem_of_getElem? (i := 69) rfl)) (hw _ (List.mem_of_getElem? (i := 3) rfl)) (hw _ (List.mem_of_getElem? (i := 71) rfl)) E_s1 (rmW1 l Z a0 hw s1 (3 : Int32) p5 _ n0 Z0 m1 l1 b1 l2 b2 l3 b3 l4 b4 km k1 k2 k3 k4 _ _ _ _ _ _ hPS (0 : Int32) (-1 : Int32) p3 (by decide) (by decide) (by decide) rfl rfl rfl) (by decide) (rest := []) (lenOf pd_9 rfl) rfl at_147 rfl rfl (by decide) (Nat.le_of_ble_eq_true rfl) (by decide) (by decide) ?_
        intro v h136 hQ
        obtain ⟨b5, kb5, rfl, hb5, K5, A_b5⟩ := hQ
        replace A_a1 := A_a1.keep K5 nin0
        replace A_a2 := A_a2.keep K5 nin0
        replace E_s1 := E_s1.keep K5
        replace Z0 := Nat.le_trans Z0 K5.1
        refine Wk.v1 ?_
        refine w_astore C (q := 152) #[.val (.int p1), .val (.int p2), .val (.int p3), .val (.int p4), .val (.int p5), .val (.int p6), .val (.int v1), .val (.int v2), .val (.int (0 : Int32)), .val (.int (3 : Int32)), .val (.ref a1), .val (.ref a2), .val (.ref s1), .val (.ref b5), .unset, .unset, .unset, .unset] at_150 rfl rfl rfl ?_
        refine w_iconst C (q := 153) (4 : Int32) at_152 rfl (by decide) ?_
        refine w_newP C (q := 155) (hw _ (List.mem_of_getElem? (i := 0) rfl)) at_153 rfl (by decide) 4 (by decide) (by decide) (by decide) (by decide) ?_
        intro h137 b6 k_b6 eq_b6 Ehh137 A_b6
        replace A_b6 : Ars Z h137 b6 k_b6 .int [(.int (0 : Int32)), (.int (0 : Int32)), (.int (0 : Int32)), (.int (0 : Int32))] := A_b6
        have lt_a1_b6 : (a1 : Nat) < (b6 : Nat) := Nat.lt_of_lt_of_le A_a1.lt (Nat.le_of_eq eq_b6.symm)
        have lt_a2_b6 : (a2 : Nat) < (b6 : Nat) := Nat.lt_of_lt_of_le A_a2.lt (Nat.le_of_eq eq_b6.symm)
        have lt_s1_b6 : (s1 : Nat) < (b6 : Nat) := Nat.lt_of_lt_of_le E_s1.lt (Nat.le_of_eq eq_b6.symm)
        have lt_b5_b6 : (b5 : Nat) < (b6 : Nat) := Nat.lt_of_lt_of_le A_b5.lt (Nat.le_of_eq eq_b6.symm)
        have g_b6 : n0 ≤ b6 := Nat.le_trans Z0 (Nat.le_of_eq eq_b6.symm)
        replace Z0 := Nat.le_trans Z0 Ehh137.1
        replace A_a1 := A_a1.ext Ehh137
        replace A_a2 := A_a2.ext Ehh137
        replace E_s1 := E_s1.ext Ehh137
        replace A_b5 := A_b5.ext Ehh137
        refine w_astore C (q := 157) #[.val (.int p1), .val (.int p2), .val (.int p3), .val (.int p4), .val (.int p5), .val (.int p6), .val (.int v1), .val (.int v2), .val (.int (0 : Int32)), .val (.int (3 : Int32)), .val (.ref a1), .val (.ref a2), .val (.ref s1), .val (.ref b5), .unset, .val (.ref b6), .unset, .unset] at_155 rfl rfl rfl ?_
        refine w_aload C (q := 159) at_157 rfl rfl rfl ?_
        refine w_iload C (q := 161) at_159 rfl rfl ?_
        refine w_iaload C (q := 162) A_a1 (.int (0 : Int32)) (by decide) rfl at_161 rfl ?_
        refine w_ifge_t C (q := 177) at_162 (by decide) (by decide) (by decide) ?_
        refine w_aload C (q := 179) at_177 rfl rfl rfl ?_
        refine w_iload C (q := 181) at_179 rfl rfl ?_
        refine w_iaload C (q := 182) A_a1 (.int (0 : Int32)) (by decide) rfl at_181 rfl ?_
        refine w_istore C (q := 184) #[.val (.int p1), .val (.int p2), .val (.int p3), .val (.int p4), .val (.int p5), .val (.int p6), .val (.int v1), .val (.int v2), .val (.int (0 : Int32)), .val (.int (3 : Int32)), .val (.ref a1), .val (.ref a2), .val (.ref s1), .val (.ref b5), .unset, .val (.ref b6), .val (.int (0 : Int32)), .unset] at_182 rfl rfl ?_
        refine w_aload C (q := 186) at_184 rfl rfl rfl ?_
        refine w_iload C (q := 188) at_186 rfl rfl ?_
        refine w_iaload C (q := 189) A_a1 (.int (-1 : Int32)) (by decide) rfl at_188 rfl ?_
        refine w_ifge_f C (q := 192) at_189 rfl (by decide) ?_
        refine w_iconst C (q := 193) (2 : Int32) at_192 rfl (by decide) ?_
        refine w_istore C (q := 195) #[.val (.int p1), .val (.int p2), .val (.int p3), .val (.int p4), .val (.int p5), .val (.int p6), .val (.int v1), .val (.int v2), .val (.int (0 : Int32)), .val (.int (3 : Int32)), .val (.ref a1), .val (.ref a2), .val (.ref s1), .val (.ref b5), .val (.int (2 : Int32)), .val (.ref b6), .val (.int (0 : Int32)), .unset] at_193 rfl rfl ?_
        refine w_aload C (q := 197) at_195 rfl rfl rfl ?_
        refine w_iconst C (q := 198) (0 : Int32) at_197 rfl (by decide) ?_
        refine w_aload C (q := 200) at_198 rfl rfl rfl ?_
        refine w_iload C (q := 202) at_200 rfl rfl ?_
        refine w_iaload C (q := 203) A_a2 (.int p3) (by decide) rfl at_202 rfl ?_
        refine w_iastore C (q := 204) A_b6 (by decide) (Nat.le_of_ble_eq_true rfl) at_203 rfl g_b6 ?_
        intro h138 Wh138 A'
        replace A_b6 : Ars Z h138 b6 k_b6 .int [(.int p3), (.int (0 : Int32)), (.int (0 : Int32)), (.int (0 : Int32))] := A'
        skip
        replace A_a1 := A_a1.other Wh138 (Nat.ne_of_lt lt_a1_b6)
        replace A_a2 := A_a2.other Wh138 (Nat.ne_of_lt lt_a2_b6)
        replace E_s1 := E_s1.wr Wh138
        replace A_b5 := A_b5.other Wh138 (Nat.ne_of_lt lt_b5_b6)
        replace Z0 := Nat.le_trans Z0 (Nat.le_of_eq (Wr.size Wh138).symm)
        refine w_aload C (q := 206) at_204 rfl rfl rfl ?_
        refine w_iconst C (q := 207) (1 : Int32) at_206 rfl (by decide) ?_
        refine w_iload C (q := 209) at_207 rfl rfl ?_
        refine w_iastore C (q := 210) A_b6 (by decide) (Nat.le_of_ble_eq_true rfl) at_209 rfl g_b6 ?_
        intro h139 Wh139 A'
        replace A_b6 : Ars Z h139 b6 k_b6 .int [(.int p3), (.int p5), (.int (0 : Int32)), (.int (0 : Int32))] := A'
        skip
        replace A_a1 := A_a1.other Wh139 (Nat.ne_of_lt lt_a1_b6)
        replace A_a2 := A_a2.other Wh139 (Nat.ne_of_lt lt_a2_b6)
        replace E_s1 := E_s1.wr Wh139
        replace A_b5 := A_b5.other Wh139 (Nat.ne_of_lt lt_b5_b6)
        replace Z0 := Nat.le_trans Z0 (Nat.le_of_eq (Wr.size Wh139).symm)
        refine w_goto C (q := 294) at_210 (by decide) (by decide) ?_
        refine w_aload C (q := 296) at_294 rfl rfl rfl ?_
        refine w_ifnullNo C (q := 299) at_296 rfl ?_
        refine w_aload C (q := 301) at_299 rfl rfl rfl ?_
        refine w_arraylength C (q := 302) A_b5 (2 : Int32) rfl at_301 rfl ?_
        refine w_iload C (q := 304) at_302 rfl rfl ?_
        refine w_iceq_t C (q := 309) at_304 (by decide) (by decide) (by decide) ?_
        refine w_aload C (q := 311) at_309 rfl rfl rfl ?_
        refine w_iconst C (q := 312) (0 : Int32) at_311 rfl (by decide) ?_
        refine w_iaload C (q := 313) A_b5 (.int p3) (by decide) rfl at_312 rfl ?_
        refine w_aload C (q := 315) at_313 rfl rfl rfl ?_
        refine w_iconst C (q := 316) (0 : Int32) at_315 rfl (by decide) ?_
        refine w_iaload C (q := 317) A_b6 (.int p3) (by decide) rfl at_316 rfl ?_
        refine w_icne_f C (q := 320) at_317 rfl rfl ?_
        refine w_iconst C (q := 321) (1 : Int32) at_320 rfl (by decide) ?_
        refine w_goto C (q := 325) at_321 (by decide) (by decide) ?_
        refine w_istore C (q := 327) #[.val (.int p1), .val (.int p2), .val (.int p3), .val (.int p4), .val (.int p5), .val (.int p6), .val (.int v1), .val (.int v2), .val (.int (0 : Int32)), .val (.int (3 : Int32)), .val (.ref a1), .val (.ref a2), .val (.ref s1), .val (.ref b5), .val (.int (2 : Int32)), .val (.ref b6), .val (.int (1 : Int32)), .unset] at_325 rfl rfl ?_
        refine w_iload C (q := 329) at_327 rfl rfl ?_
        refine w_iconst C (q := 330) (1 : Int32) at_329 rfl (by decide) ?_
        refine w_icle_f C (q := 333) at_330 rfl (by decide) ?_
        refine w_iload C (q := 335) at_333 rfl rfl ?_
        refine w_ifeq_f C (q := 338) at_335 rfl (by decide) ?_
        refine w_aload C (q := 340) at_338 rfl rfl rfl ?_
        refine w_iconst C (q := 341) (1 : Int32) at_340 rfl (by decide) ?_
        refine w_iaload C (q := 342) A_b5 (.int p5) (by decide) rfl at_341 rfl ?_
        refine w_aload C (q := 344) at_342 rfl rfl rfl ?_
        refine w_iconst C (q := 345) (1 : Int32) at_344 rfl (by decide) ?_
        refine w_iaload C (q := 346) A_b6 (.int p5) (by decide) rfl at_345 rfl ?_
        refine w_icne_f C (q := 349) at_346 rfl rfl ?_
        refine w_iconst C (q := 350) (1 : Int32) at_349 rfl (by decide) ?_
        refine w_goto C (q := 354) at_350 (by decide) (by decide) ?_
        refine w_istore C (q := 356) #[.val (.int p1), .val (.int p2), .val (.int p3), .val (.int p4), .val (.int p5), .val (.int p6), .val (.int v1), .val (.int v2), .val (.int (0 : Int32)), .val (.int (3 : Int32)), .val (.ref a1), .val (.ref a2), .val (.ref s1), .val (.ref b5), .val (.int (2 : Int32)), .val (.ref b6), .val (.int (1 : Int32)), .unset] at_354 rfl rfl ?_
        refine w_iload C (q := 358) at_356 rfl rfl ?_
        refine w_iconst C (q := 359) (2 : Int32) at_358 rfl (by decide) ?_
        refine w_icle_t C (q := 385) at_359 (by decide) (by decide) (by decide) ?_
        refine w_iload C (q := 387) at_385 rfl rfl ?_
        refine w_iconst C (q := 388) (3 : Int32) at_387 rfl (by decide) ?_
        refine w_icle_t C (q := 414) at_388 (by decide) (by decide) (by decide) ?_
        refine w_iload C (q := 416) at_414 rfl rfl ?_
        exact w_retN C at_416 (by decide) (by decide) rfl
      · rcases hv1 with rfl | rfl
        · refine w_virtual C (q := 150) (y := ⟨"com/example/logic_to_machines/logictomachines/PairSearch", "wordTo", "(II)[I"⟩) (z := ⟨"com/example/logic_to_machines/logictomachines/PairSearch", "wordTo", "(II)[I"⟩) (rm := ({ frames := 1, cells := 1, slots := 3, locals := 16 } : Room)) (a := s1) (argsL := [(.int (3 : Int32)), (.int p5)]) (hw _ (List.mem_of_getElem? (i := 67) rfl)) (hw _ (List.mem_of_getElem? (i := 68) rfl)) (hw _ (List.mem_of_getElem? (i := 70) rfl)) (hw _ (List.mem_of_getElem? (i := 70) rfl)) (hw _ (List.mem_of_getElem? (i := 69) rfl)) (hw _ (List.mem_of_getElem? (i := 3) rfl)) (hw _ (List.mem_of_getElem? (i := 71) rfl)) E_s1 (rmW2 l Z a0 hw s1 (3 : Int32) p5 _ n0 Z0 m1 l1 b1 l2 b2 l3 b3 l4 b4 km k1 k2 k3 k4 _ _ _ _ _ _ hPS (1 : Int32) (0 : Int32) (-1 : Int32) p3 p1 (by decide) (by decide) (by decide) (by decide) rfl rfl rfl rfl rfl) (by decide) (rest := []) (lenOf pd_9 rfl) rfl at_147 rfl rfl (by decide) (Nat.le_of_ble_eq_true rfl) (by decide) (by decide) ?_
          intro v h140 hQ
          obtain ⟨b5, kb5, rfl, hb5, K5, A_b5⟩ := hQ
          replace A_a1 := A_a1.keep K5 nin0
          replace A_a2 := A_a2.keep K5 nin0
          replace E_s1 := E_s1.keep K5
          replace Z0 := Nat.le_trans Z0 K5.1
          refine Wk.v1 ?_
          refine w_astore C (q := 152) #[.val (.int p1), .val (.int p2), .val (.int p3), .val (.int p4), .val (.int p5), .val (.int p6), .val (.int (0 : Int32)), .val (.int v2), .val (.int (1 : Int32)), .val (.int (3 : Int32)), .val (.ref a1), .val (.ref a2), .val (.ref s1), .val (.ref b5), .unset, .unset, .unset, .unset] at_150 rfl rfl rfl ?_
          refine w_iconst C (q := 153) (4 : Int32) at_152 rfl (by decide) ?_
          refine w_newP C (q := 155) (hw _ (List.mem_of_getElem? (i := 0) rfl)) at_153 rfl (by decide) 4 (by decide) (by decide) (by decide) (by decide) ?_
          intro h141 b6 k_b6 eq_b6 Ehh141 A_b6
          replace A_b6 : Ars Z h141 b6 k_b6 .int [(.int (0 : Int32)), (.int (0 : Int32)), (.int (0 : Int32)), (.int (0 : Int32))] := A_b6
          have lt_a1_b6 : (a1 : Nat) < (b6 : Nat) := Nat.lt_of_lt_of_le A_a1.lt (Nat.le_of_eq eq_b6.symm)
          have lt_a2_b6 : (a2 : Nat) < (b6 : Nat) := Nat.lt_of_lt_of_le A_a2.lt (Nat.le_of_eq eq_b6.symm)
          have lt_s1_b6 : (s1 : Nat) < (b6 : Nat) := Nat.lt_of_lt_of_le E_s1.lt (Nat.le_of_eq eq_b6.symm)
          have lt_b5_b6 : (b5 : Nat) < (b6 : Nat) := Nat.lt_of_lt_of_le A_b5.lt (Nat.le_of_eq eq_b6.symm)
          have g_b6 : n0 ≤ b6 := Nat.le_trans Z0 (Nat.le_of_eq eq_b6.symm)
          replace Z0 := Nat.le_trans Z0 Ehh141.1
          replace A_a1 := A_a1.ext Ehh141
          replace A_a2 := A_a2.ext Ehh141
          replace E_s1 := E_s1.ext Ehh141
          replace A_b5 := A_b5.ext Ehh141
          refine w_astore C (q := 157) #[.val (.int p1), .val (.int p2), .val (.int p3), .val (.int p4), .val (.int p5), .val (.int p6), .val (.int (0 : Int32)), .val (.int v2), .val (.int (1 : Int32)), .val (.int (3 : Int32)), .val (.ref a1), .val (.ref a2), .val (.ref s1), .val (.ref b5), .unset, .val (.ref b6), .unset, .unset] at_155 rfl rfl rfl ?_
          refine w_aload C (q := 159) at_157 rfl rfl rfl ?_
          refine w_iload C (q := 161) at_159 rfl rfl ?_
          refine w_iaload C (q := 162) A_a1 (.int (1 : Int32)) (by decide) rfl at_161 rfl ?_
          refine w_ifge_t C (q := 177) at_162 (by decide) (by decide) (by decide) ?_
          refine w_aload C (q := 179) at_177 rfl rfl rfl ?_
          refine w_iload C (q := 181) at_179 rfl rfl ?_
          refine w_iaload C (q := 182) A_a1 (.int (1 : Int32)) (by decide) rfl at_181 rfl ?_
          refine w_istore C (q := 184) #[.val (.int p1), .val (.int p2), .val (.int p3), .val (.int p4), .val (.int p5), .val (.int p6), .val (.int (0 : Int32)), .val (.int v2), .val (.int (1 : Int32)), .val (.int (3 : Int32)), .val (.ref a1), .val (.ref a2), .val (.ref s1), .val (.ref b5), .unset, .val (.ref b6), .val (.int (1 : Int32)), .unset] at_182 rfl rfl ?_
          refine w_aload C (q := 186) at_184 rfl rfl rfl ?_
          refine w_iload C (q := 188) at_186 rfl rfl ?_
          refine w_iaload C (q := 189) A_a1 (.int (0 : Int32)) (by decide) rfl at_188 rfl ?_
          refine w_ifge_t C (q := 213) at_189 (by decide) (by decide) (by decide) ?_
          refine w_aload C (q := 215) at_213 rfl rfl rfl ?_
          refine w_iload C (q := 217) at_215 rfl rfl ?_
          refine w_iaload C (q := 218) A_a1 (.int (0 : Int32)) (by decide) rfl at_217 rfl ?_
          refine w_istore C (q := 220) #[.val (.int p1), .val (.int p2), .val (.int p3), .val (.int p4), .val (.int p5), .val (.int p6), .val (.int (0 : Int32)), .val (.int v2), .val (.int (1 : Int32)), .val (.int (3 : Int32)), .val (.ref a1), .val (.ref a2), .val (.ref s1), .val (.ref b5), .unset, .val (.ref b6), .val (.int (1 : Int32)), .val (.int (0 : Int32))] at_218 rfl rfl ?_
          refine w_aload C (q := 222) at_220 rfl rfl rfl ?_
          refine w_iload C (q := 224) at_222 rfl rfl ?_
          refine w_iaload C (q := 225) A_a1 (.int (-1 : Int32)) (by decide) rfl at_224 rfl ?_
          refine w_ifge_f C (q := 228) at_225 rfl (by decide) ?_
          refine w_iconst C (q := 229) (3 : Int32) at_228 rfl (by decide) ?_
          refine w_istore C (q := 231) #[.val (.int p1), .val (.int p2), .val (.int p3), .val (.int p4), .val (.int p5), .val (.int p6), .val (.int (0 : Int32)), .val (.int v2), .val (.int (1 : Int32)), .val (.int (3 : Int32)), .val (.ref a1), .val (.ref a2), .val (.ref s1), .val (.ref b5), .val (.int (3 : Int32)), .val (.ref b6), .val (.int (1 : Int32)), .val (.int (0 : Int32))] at_229 rfl rfl ?_
          refine w_aload C (q := 233) at_231 rfl rfl rfl ?_
          refine w_iconst C (q := 234) (0 : Int32) at_233 rfl (by decide) ?_
          refine w_aload C (q := 236) at_234 rfl rfl rfl ?_
          refine w_iload C (q := 238) at_236 rfl rfl ?_
          refine w_iaload C (q := 239) A_a2 (.int p1) (by decide) rfl at_238 rfl ?_
          refine w_iastore C (q := 240) A_b6 (by decide) (Nat.le_of_ble_eq_true rfl) at_239 rfl g_b6 ?_
          intro h142 Wh142 A'
          replace A_b6 : Ars Z h142 b6 k_b6 .int [(.int p1), (.int (0 : Int32)), (.int (0 : Int32)), (.int (0 : Int32))] := A'
          skip
          replace A_a1 := A_a1.other Wh142 (Nat.ne_of_lt lt_a1_b6)
          replace A_a2 := A_a2.other Wh142 (Nat.ne_of_lt lt_a2_b6)
          replace E_s1 := E_s1.wr Wh142
          replace A_b5 := A_b5.other Wh142 (Nat.ne_of_lt lt_b5_b6)
          replace Z0 := Nat.le_trans Z0 (Nat.le_of_eq (Wr.size Wh142).symm)
          refine w_aload C (q := 242) at_240 rfl rfl rfl ?_
          refine w_iconst C (q := 243) (1 : Int32) at_242 rfl (by decide) ?_
          refine w_aload C (q := 245) at_243 rfl rfl rfl ?_
          refine w_iload C (q := 247) at_245 rfl rfl ?_
          refine w_iaload C (q := 248) A_a2 (.int p3) (by decide) rfl at_247 rfl ?_
          refine w_iastore C (q := 249) A_b6 (by decide) (Nat.le_of_ble_eq_true rfl) at_248 rfl g_b6 ?_
          intro h143 Wh143 A'
          replace A_b6 : Ars Z h143 b6 k_b6 .int [(.int p1), (.int p3), (.int (0 : Int32)), (.int (0 : Int32))] := A'
          skip
          replace A_a1 := A_a1.other Wh143 (Nat.ne_of_lt lt_a1_b6)
          replace A_a2 := A_a2.other Wh143 (Nat.ne_of_lt lt_a2_b6)
          replace E_s1 := E_s1.wr Wh143
          replace A_b5 := A_b5.other Wh143 (Nat.ne_of_lt lt_b5_b6)
          replace Z0 := Nat.le_trans Z0 (Nat.le_of_eq (Wr.size Wh143).symm)
          refine w_aload C (q := 251) at_249 rfl rfl rfl ?_
          refine w_iconst C (q := 252) (2 : Int32) at_251 rfl (by decide) ?_
          refine w_iload C (q := 254) at_252 rfl rfl ?_
          refine w_iastore C (q := 255) A_b6 (by decide) (Nat.le_of_ble_eq_true rfl) at_254 rfl g_b6 ?_
          intro h144 Wh144 A'
          replace A_b6 : Ars Z h144 b6 k_b6 .int [(.int p1), (.int p3), (.int p5), (.int (0 : Int32))] := A'
          skip
          replace A_a1 := A_a1.other Wh144 (Nat.ne_of_lt lt_a1_b6)
          replace A_a2 := A_a2.other Wh144 (Nat.ne_of_lt lt_a2_b6)
          replace E_s1 := E_s1.wr Wh144
          replace A_b5 := A_b5.other Wh144 (Nat.ne_of_lt lt_b5_b6)
          replace Z0 := Nat.le_trans Z0 (Nat.le_of_eq (Wr.size Wh144).symm)
          refine w_goto C (q := 294) at_255 (by decide) (by decide) ?_
          refine w_aload C (q := 296) at_294 rfl rfl rfl ?_
          refine w_ifnullNo C (q := 299) at_296 rfl ?_
          refine w_aload C (q := 301) at_299 rfl rfl rfl ?_
          refine w_arraylength C (q := 302) A_b5 (3 : Int32) rfl at_301 rfl ?_
          refine w_iload C (q := 304) at_302 rfl rfl ?_
          refine w_iceq_t C (q := 309) at_304 (by decide) (by decide) (by decide) ?_
          refine w_aload C (q := 311) at_309 rfl rfl rfl ?_
          refine w_iconst C (q := 312) (0 : Int32) at_311 rfl (by decide) ?_
          refine w_iaload C (q := 313) A_b5 (.int p1) (by decide) rfl at_312 rfl ?_
          refine w_aload C (q := 315) at_313 rfl rfl rfl ?_
          refine w_iconst C (q := 316) (0 : Int32) at_315 rfl (by decide) ?_
          refine w_iaload C (q := 317) A_b6 (.int p1) (by decide) rfl at_316 rfl ?_
          refine w_icne_f C (q := 320) at_317 rfl rfl ?_
          refine w_iconst C (q := 321) (1 : Int32) at_320 rfl (by decide) ?_
          refine w_goto C (q := 325) at_321 (by decide) (by decide) ?_
          refine w_istore C (q := 327) #[.val (.int p1), .val (.int p2), .val (.int p3), .val (.int p4), .val (.int p5), .val (.int p6), .val (.int (0 : Int32)), .val (.int v2), .val (.int (1 : Int32)), .val (.int (3 : Int32)), .val (.ref a1), .val (.ref a2), .val (.ref s1), .val (.ref b5), .val (.int (3 : Int32)), .val (.ref b6), .val (.int (1 : Int32)), .val (.int (0 : Int32))] at_325 rfl rfl ?_
          refine w_iload C (q := 329) at_327 rfl rfl ?_
          refine w_iconst C (q := 330) (1 : Int32) at_329 rfl (by decide) ?_
          refine w_icle_f C (q := 333) at_330 rfl (by decide) ?_
          refine w_iload C (q := 335) at_333 rfl rfl ?_
          refine w_ifeq_f C (q := 338) at_335 rfl (by decide) ?_
          refine w_aload C (q := 340) at_338 rfl rfl rfl ?_
          refine w_iconst C (q := 341) (1 : Int32) at_340 rfl (by decide) ?_
          refine w_iaload C (q := 342) A_b5 (.int p3) (by decide) rfl at_341 rfl ?_
          refine w_aload C (q := 344) at_342 rfl rfl rfl ?_
          refine w_iconst C (q := 345) (1 : Int32) at_344 rfl (by decide) ?_
          refine w_iaload C (q := 346) A_b6 (.int p3) (by decide) rfl at_345 rfl ?_
          refine w_icne_f C (q := 349) at_346 rfl rfl ?_
          refine w_iconst C (q := 350) (1 : Int32) at_349 rfl (by decide) ?_
          refine w_goto C (q := 354) at_350 (by decide) (by decide) ?_
          refine w_istore C (q := 356) #[.val (.int p1), .val (.int p2), .val (.int p3), .val (.int p4), .val (.int p5), .val (.int p6), .val (.int (0 : Int32)), .val (.int v2), .val (.int (1 : Int32)), .val (.int (3 : Int32)), .val (.ref a1), .val (.ref a2), .val (.ref s1), .val (.ref b5), .val (.int (3 : Int32)), .val (.ref b6), .val (.int (1 : Int32)), .val (.int (0 : Int32))] at_354 rfl rfl ?_
          refine w_iload C (q := 358) at_356 rfl rfl ?_
          refine w_iconst C (q := 359) (2 : Int32) at_358 rfl (by decide) ?_
          refine w_icle_f C (q := 362) at_359 rfl (by decide) ?_
          refine w_iload C (q := 364) at_362 rfl rfl ?_
          refine w_ifeq_f C (q := 367) at_364 rfl (by decide) ?_
          refine w_aload C (q := 369) at_367 rfl rfl rfl ?_
          refine w_iconst C (q := 370) (2 : Int32) at_369 rfl (by decide) ?_
          refine w_iaload C (q := 371) A_b5 (.int p5) (by decide) rfl at_370 rfl ?_
          refine w_aload C (q := 373) at_371 rfl rfl rfl ?_
          refine w_iconst C (q := 374) (2 : Int32) at_373 rfl (by decide) ?_
          refine w_iaload C (q := 375) A_b6 (.int p5) (by decide) rfl at_374 rfl ?_
          refine w_icne_f C (q := 378) at_375 rfl rfl ?_
          refine w_iconst C (q := 379) (1 : Int32) at_378 rfl (by decide) ?_
          refine w_goto C (q := 383) at_379 (by decide) (by decide) ?_
          refine w_istore C (q := 385) #[.val (.int p1), .val (.int p2), .val (.int p3), .val (.int p4), .val (.int p5), .val (.int p6), .val (.int (0 : Int32)), .val (.int v2), .val (.int (1 : Int32)), .val (.int (3 : Int32)), .val (.ref a1), .val (.ref a2), .val (.ref s1), .val (.ref b5), .val (.int (3 : Int32)), .val (.ref b6), .val (.int (1 : Int32)), .val (.int (0 : Int32))] at_383 rfl rfl ?_
          refine w_iload C (q := 387) at_385 rfl rfl ?_
          refine w_iconst C (q := 388) (3 : Int32) at_387 rfl (by decide) ?_
          refine w_icle_t C (q := 414) at_388 (by decide) (by decide) (by decide) ?_
          refine w_iload C (q := 416) at_414 rfl rfl ?_
          exact w_retN C at_416 (by decide) (by decide) rfl
        · refine w_virtual C (q := 150) (y := ⟨"com/example/logic_to_machines/logictomachines/PairSearch", "wordTo", "(II)[I"⟩) (z := ⟨"com/example/logic_to_machines/logictomachines/PairSearch", "wordTo", "(II)[I"⟩) (rm := ({ frames := 1, cells := 1, slots := 2, locals := 16 } : Room)) (a := s1) (argsL := [(.int (3 : Int32)), (.int p5)]) (hw _ (List.mem_of_getElem? (i := 67) rfl)) (hw _ (List.mem_of_getElem? (i := 68) rfl)) (hw _ (List.mem_of_getElem? (i := 70) rfl)) (hw _ (List.mem_of_getElem? (i := 70) rfl)) (hw _ (List.mem_of_getElem? (i := 69) rfl)) (hw _ (List.mem_of_getElem? (i := 3) rfl)) (hw _ (List.mem_of_getElem? (i := 71) rfl)) E_s1 (rmW1 l Z a0 hw s1 (3 : Int32) p5 _ n0 Z0 m1 l1 b1 l2 b2 l3 b3 l4 b4 km k1 k2 k3 k4 _ _ _ _ _ _ hPS (1 : Int32) (-1 : Int32) p3 (by decide) (by decide) (by decide) rfl rfl rfl) (by decide) (rest := []) (lenOf pd_9 rfl) rfl at_147 rfl rfl (by decide) (Nat.le_of_ble_eq_true rfl) (by decide) (by decide) ?_
          intro v h145 hQ
          obtain ⟨b5, kb5, rfl, hb5, K5, A_b5⟩ := hQ
          replace A_a1 := A_a1.keep K5 nin0
          replace A_a2 := A_a2.keep K5 nin0
          replace E_s1 := E_s1.keep K5
          replace Z0 := Nat.le_trans Z0 K5.1
          refine Wk.v1 ?_
          refine w_astore C (q := 152) #[.val (.int p1), .val (.int p2), .val (.int p3), .val (.int p4), .val (.int p5), .val (.int p6), .val (.int (-1 : Int32)), .val (.int v2), .val (.int (1 : Int32)), .val (.int (3 : Int32)), .val (.ref a1), .val (.ref a2), .val (.ref s1), .val (.ref b5), .unset, .unset, .unset, .unset] at_150 rfl rfl rfl ?_
          refine w_iconst C (q := 153) (4 : Int32) at_152 rfl (by decide) ?_
          refine w_newP C (q := 155) (hw _ (List.mem_of_getElem? (i := 0) rfl)) at_153 rfl (by decide) 4 (by decide) (by decide) (by decide) (by decide) ?_
          intro h146 b6 k_b6 eq_b6 Ehh146 A_b6
          replace A_b6 : Ars Z h146 b6 k_b6 .int [(.int (0 : Int32)), (.int (0 : Int32)), (.int (0 : Int32)), (.int (0 : Int32))] := A_b6
          have lt_a1_b6 : (a1 : Nat) < (b6 : Nat) := Nat.lt_of_lt_of_le A_a1.lt (Nat.le_of_eq eq_b6.symm)
          have lt_a2_b6 : (a2 : Nat) < (b6 : Nat) := Nat.lt_of_lt_of_le A_a2.lt (Nat.le_of_eq eq_b6.symm)
          have lt_s1_b6 : (s1 : Nat) < (b6 : Nat) := Nat.lt_of_lt_of_le E_s1.lt (Nat.le_of_eq eq_b6.symm)
          have lt_b5_b6 : (b5 : Nat) < (b6 : Nat) := Nat.lt_of_lt_of_le A_b5.lt (Nat.le_of_eq eq_b6.symm)
          have g_b6 : n0 ≤ b6 := Nat.le_trans Z0 (Nat.le_of_eq eq_b6.symm)
          replace Z0 := Nat.le_trans Z0 Ehh146.1
          replace A_a1 := A_a1.ext Ehh146
          replace A_a2 := A_a2.ext Ehh146
          replace E_s1 := E_s1.ext Ehh146
          replace A_b5 := A_b5.ext Ehh146
          refine w_astore C (q := 157) #[.val (.int p1), .val (.int p2), .val (.int p3), .val (.int p4), .val (.int p5), .val (.int p6), .val (.int (-1 : Int32)), .val (.int v2), .val (.int (1 : Int32)), .val (.int (3 : Int32)), .val (.ref a1), .val (.ref a2), .val (.ref s1), .val (.ref b5), .unset, .val (.ref b6), .unset, .unset] at_155 rfl rfl rfl ?_
          refine w_aload C (q := 159) at_157 rfl rfl rfl ?_
          refine w_iload C (q := 161) at_159 rfl rfl ?_
          refine w_iaload C (q := 162) A_a1 (.int (1 : Int32)) (by decide) rfl at_161 rfl ?_
          refine w_ifge_t C (q := 177) at_162 (by decide) (by decide) (by decide) ?_
          refine w_aload C (q := 179) at_177 rfl rfl rfl ?_
          refine w_iload C (q := 181) at_179 rfl rfl ?_
          refine w_iaload C (q := 182) A_a1 (.int (1 : Int32)) (by decide) rfl at_181 rfl ?_
          refine w_istore C (q := 184) #[.val (.int p1), .val (.int p2), .val (.int p3), .val (.int p4), .val (.int p5), .val (.int p6), .val (.int (-1 : Int32)), .val (.int v2), .val (.int (1 : Int32)), .val (.int (3 : Int32)), .val (.ref a1), .val (.ref a2), .val (.ref s1), .val (.ref b5), .unset, .val (.ref b6), .val (.int (1 : Int32)), .unset] at_182 rfl rfl ?_
          refine w_aload C (q := 186) at_184 rfl rfl rfl ?_
          refine w_iload C (q := 188) at_186 rfl rfl ?_
          refine w_iaload C (q := 189) A_a1 (.int (-1 : Int32)) (by decide) rfl at_188 rfl ?_
          refine w_ifge_f C (q := 192) at_189 rfl (by decide) ?_
          refine w_iconst C (q := 193) (2 : Int32) at_192 rfl (by decide) ?_
          refine w_istore C (q := 195) #[.val (.int p1), .val (.int p2), .val (.int p3), .val (.int p4), .val (.int p5), .val (.int p6), .val (.int (-1 : Int32)), .val (.int v2), .val (.int (1 : Int32)), .val (.int (3 : Int32)), .val (.ref a1), .val (.ref a2), .val (.ref s1), .val (.ref b5), .val (.int (2 : Int32)), .val (.ref b6), .val (.int (1 : Int32)), .unset] at_193 rfl rfl ?_
          refine w_aload C (q := 197) at_195 rfl rfl rfl ?_
          refine w_iconst C (q := 198) (0 : Int32) at_197 rfl (by decide) ?_
          refine w_aload C (q := 200) at_198 rfl rfl rfl ?_
          refine w_iload C (q := 202) at_200 rfl rfl ?_
          refine w_iaload C (q := 203) A_a2 (.int p3) (by decide) rfl at_202 rfl ?_
          refine w_iastore C (q := 204) A_b6 (by decide) (Nat.le_of_ble_eq_true rfl) at_203 rfl g_b6 ?_
          intro h147 Wh147 A'
          replace A_b6 : Ars Z h147 b6 k_b6 .int [(.int p3), (.int (0 : Int32)), (.int (0 : Int32)), (.int (0 : Int32))] := A'
          skip
          replace A_a1 := A_a1.other Wh147 (Nat.ne_of_lt lt_a1_b6)
          replace A_a2 := A_a2.other Wh147 (Nat.ne_of_lt lt_a2_b6)
          replace E_s1 := E_s1.wr Wh147
          replace A_b5 := A_b5.other Wh147 (Nat.ne_of_lt lt_b5_b6)
          replace Z0 := Nat.le_trans Z0 (Nat.le_of_eq (Wr.size Wh147).symm)
          refine w_aload C (q := 206) at_204 rfl rfl rfl ?_
          refine w_iconst C (q := 207) (1 : Int32) at_206 rfl (by decide) ?_
          refine w_iload C (q := 209) at_207 rfl rfl ?_
          refine w_iastore C (q := 210) A_b6 (by decide) (Nat.le_of_ble_eq_true rfl) at_209 rfl g_b6 ?_
          intro h148 Wh148 A'
          replace A_b6 : Ars Z h148 b6 k_b6 .int [(.int p3), (.int p5), (.int (0 : Int32)), (.int (0 : Int32))] := A'
          skip
          replace A_a1 := A_a1.other Wh148 (Nat.ne_of_lt lt_a1_b6)
          replace A_a2 := A_a2.other Wh148 (Nat.ne_of_lt lt_a2_b6)
          replace E_s1 := E_s1.wr Wh148
          replace A_b5 := A_b5.other Wh148 (Nat.ne_of_lt lt_b5_b6)
          replace Z0 := Nat.le_trans Z0 (Nat.le_of_eq (Wr.size Wh148).symm)
          refine w_goto C (q := 294) at_210 (by decide) (by decide) ?_
          refine w_aload C (q := 296) at_294 rfl rfl rfl ?_
          refine w_ifnullNo C (q := 299) at_296 rfl ?_
          refine w_aload C (q := 301) at_299 rfl rfl rfl ?_
          refine w_arraylength C (q := 302) A_b5 (2 : Int32) rfl at_301 rfl ?_
          refine w_iload C (q := 304) at_302 rfl rfl ?_
          refine w_iceq_t C (q := 309) at_304 (by decide) (by decide) (by decide) ?_
          refine w_aload C (q := 311) at_309 rfl rfl rfl ?_
          refine w_iconst C (q := 312) (0 : Int32) at_311 rfl (by decide) ?_
          refine w_iaload C (q := 313) A_b5 (.int p3) (by decide) rfl at_312 rfl ?_
          refine w_aload C (q := 315) at_313 rfl rfl rfl ?_
          refine w_iconst C (q := 316) (0 : Int32) at_315 rfl (by decide) ?_
          refine w_iaload C (q := 317) A_b6 (.int p3) (by decide) rfl at_316 rfl ?_
          refine w_icne_f C (q := 320) at_317 rfl rfl ?_
          refine w_iconst C (q := 321) (1 : Int32) at_320 rfl (by decide) ?_
          refine w_goto C (q := 325) at_321 (by decide) (by decide) ?_
          refine w_istore C (q := 327) #[.val (.int p1), .val (.int p2), .val (.int p3), .val (.int p4), .val (.int p5), .val (.int p6), .val (.int (-1 : Int32)), .val (.int v2), .val (.int (1 : Int32)), .val (.int (3 : Int32)), .val (.ref a1), .val (.ref a2), .val (.ref s1), .val (.ref b5), .val (.int (2 : Int32)), .val (.ref b6), .val (.int (1 : Int32)), .unset] at_325 rfl rfl ?_
          refine w_iload C (q := 329) at_327 rfl rfl ?_
          refine w_iconst C (q := 330) (1 : Int32) at_329 rfl (by decide) ?_
          refine w_icle_f C (q := 333) at_330 rfl (by decide) ?_
          refine w_iload C (q := 335) at_333 rfl rfl ?_
          refine w_ifeq_f C (q := 338) at_335 rfl (by decide) ?_
          refine w_aload C (q := 340) at_338 rfl rfl rfl ?_
          refine w_iconst C (q := 341) (1 : Int32) at_340 rfl (by decide) ?_
          refine w_iaload C (q := 342) A_b5 (.int p5) (by decide) rfl at_341 rfl ?_
          refine w_aload C (q := 344) at_342 rfl rfl rfl ?_
          refine w_iconst C (q := 345) (1 : Int32) at_344 rfl (by decide) ?_
          refine w_iaload C (q := 346) A_b6 (.int p5) (by decide) rfl at_345 rfl ?_
          refine w_icne_f C (q := 349) at_346 rfl rfl ?_
          refine w_iconst C (q := 350) (1 : Int32) at_349 rfl (by decide) ?_
          refine w_goto C (q := 354) at_350 (by decide) (by decide) ?_
          refine w_istore C (q := 356) #[.val (.int p1), .val (.int p2), .val (.int p3), .val (.int p4), .val (.int p5), .val (.int p6), .val (.int (-1 : Int32)), .val (.int v2), .val (.int (1 : Int32)), .val (.int (3 : Int32)), .val (.ref a1), .val (.ref a2), .val (.ref s1), .val (.ref b5), .val (.int (2 : Int32)), .val (.ref b6), .val (.int (1 : Int32)), .unset] at_354 rfl rfl ?_
          refine w_iload C (q := 358) at_356 rfl rfl ?_
          refine w_iconst C (q := 359) (2 : Int32) at_358 rfl (by decide) ?_
          refine w_icle_t C (q := 385) at_359 (by decide) (by decide) (by decide) ?_
          refine w_iload C (q := 387) at_385 rfl rfl ?_
          refine w_iconst C (q := 388) (3 : Int32) at_387 rfl (by decide) ?_
          refine w_icle_t C (q := 414) at_388 (by decide) (by decide) (by decide) ?_
          refine w_iload C (q := 416) at_414 rfl rfl ?_
          exact w_retN C at_416 (by decide) (by decide) rfl
      · rcases hv2 with rfl | rfl
        · refine w_virtual C (q := 150) (y := ⟨"com/example/logic_to_machines/logictomachines/PairSearch", "wordTo", "(II)[I"⟩) (z := ⟨"com/example/logic_to_machines/logictomachines/PairSearch", "wordTo", "(II)[I"⟩) (rm := ({ frames := 1, cells := 1, slots := 3, locals := 16 } : Room)) (a := s1) (argsL := [(.int (3 : Int32)), (.int p5)]) (hw _ (List.mem_of_getElem? (i := 67) rfl)) (hw _ (List.mem_of_getElem? (i := 68) rfl)) (hw _ (List.mem_of_getElem? (i := 70) rfl)) (hw _ (List.mem_of_getElem? (i := 70) rfl)) (hw _ (List.mem_of_getElem? (i := 69) rfl)) (hw _ (List.mem_of_getElem? (i := 3) rfl)) (hw _ (List.mem_of_getElem? (i := 71) rfl)) E_s1 (rmW2 l Z a0 hw s1 (3 : Int32) p5 _ n0 Z0 m1 l1 b1 l2 b2 l3 b3 l4 b4 km k1 k2 k3 k4 _ _ _ _ _ _ hPS (2 : Int32) (0 : Int32) (-1 : Int32) p3 p2 (by decide) (by decide) (by decide) (by decide) rfl rfl rfl rfl rfl) (by decide) (rest := []) (lenOf pd_9 rfl) rfl at_147 rfl rfl (by decide) (Nat.le_of_ble_eq_true rfl) (by decide) (by decide) ?_
          intro v h149 hQ
          obtain ⟨b5, kb5, rfl, hb5, K5, A_b5⟩ := hQ
          replace A_a1 := A_a1.keep K5 nin0
          replace A_a2 := A_a2.keep K5 nin0
          replace E_s1 := E_s1.keep K5
          replace Z0 := Nat.le_trans Z0 K5.1
          refine Wk.v1 ?_
          refine w_astore C (q := 152) #[.val (.int p1), .val (.int p2), .val (.int p3), .val (.int p4), .val (.int p5), .val (.int p6), .val (.int v1), .val (.int (0 : Int32)), .val (.int (2 : Int32)), .val (.int (3 : Int32)), .val (.ref a1), .val (.ref a2), .val (.ref s1), .val (.ref b5), .unset, .unset, .unset, .unset] at_150 rfl rfl rfl ?_
          refine w_iconst C (q := 153) (4 : Int32) at_152 rfl (by decide) ?_
          refine w_newP C (q := 155) (hw _ (List.mem_of_getElem? (i := 0) rfl)) at_153 rfl (by decide) 4 (by decide) (by decide) (by decide) (by decide) ?_
          intro h150 b6 k_b6 eq_b6 Ehh150 A_b6
          replace A_b6 : Ars Z h150 b6 k_b6 .int [(.int (0 : Int32)), (.int (0 : Int32)), (.int (0 : Int32)), (.int (0 : Int32))] := A_b6
          have lt_a1_b6 : (a1 : Nat) < (b6 : Nat) := Nat.lt_of_lt_of_le A_a1.lt (Nat.le_of_eq eq_b6.symm)
          have lt_a2_b6 : (a2 : Nat) < (b6 : Nat) := Nat.lt_of_lt_of_le A_a2.lt (Nat.le_of_eq eq_b6.symm)
          have lt_s1_b6 : (s1 : Nat) < (b6 : Nat) := Nat.lt_of_lt_of_le E_s1.lt (Nat.le_of_eq eq_b6.symm)
          have lt_b5_b6 : (b5 : Nat) < (b6 : Nat) := Nat.lt_of_lt_of_le A_b5.lt (Nat.le_of_eq eq_b6.symm)
          have g_b6 : n0 ≤ b6 := Nat.le_trans Z0 (Nat.le_of_eq eq_b6.symm)
          replace Z0 := Nat.le_trans Z0 Ehh150.1
          replace A_a1 := A_a1.ext Ehh150
          replace A_a2 := A_a2.ext Ehh150
          replace E_s1 := E_s1.ext Ehh150
          replace A_b5 := A_b5.ext Ehh150
          refine w_astore C (q := 157) #[.val (.int p1), .val (.int p2), .val (.int p3), .val (.int p4), .val (.int p5), .val (.int p6), .val (.int v1), .val (.int (0 : Int32)), .val (.int (2 : Int32)), .val (.int (3 : Int32)), .val (.ref a1), .val (.ref a2), .val (.ref s1), .val (.ref b5), .unset, .val (.ref b6), .unset, .unset] at_155 rfl rfl rfl ?_
          refine w_aload C (q := 159) at_157 rfl rfl rfl ?_
          refine w_iload C (q := 161) at_159 rfl rfl ?_
          refine w_iaload C (q := 162) A_a1 (.int (2 : Int32)) (by decide) rfl at_161 rfl ?_
          refine w_ifge_t C (q := 177) at_162 (by decide) (by decide) (by decide) ?_
          refine w_aload C (q := 179) at_177 rfl rfl rfl ?_
          refine w_iload C (q := 181) at_179 rfl rfl ?_
          refine w_iaload C (q := 182) A_a1 (.int (2 : Int32)) (by decide) rfl at_181 rfl ?_
          refine w_istore C (q := 184) #[.val (.int p1), .val (.int p2), .val (.int p3), .val (.int p4), .val (.int p5), .val (.int p6), .val (.int v1), .val (.int (0 : Int32)), .val (.int (2 : Int32)), .val (.int (3 : Int32)), .val (.ref a1), .val (.ref a2), .val (.ref s1), .val (.ref b5), .unset, .val (.ref b6), .val (.int (2 : Int32)), .unset] at_182 rfl rfl ?_
          refine w_aload C (q := 186) at_184 rfl rfl rfl ?_
          refine w_iload C (q := 188) at_186 rfl rfl ?_
          refine w_iaload C (q := 189) A_a1 (.int (0 : Int32)) (by decide) rfl at_188 rfl ?_
          refine w_ifge_t C (q := 213) at_189 (by decide) (by decide) (by decide) ?_
          refine w_aload C (q := 215) at_213 rfl rfl rfl ?_
          refine w_iload C (q := 217) at_215 rfl rfl ?_
          refine w_iaload C (q := 218) A_a1 (.int (0 : Int32)) (by decide) rfl at_217 rfl ?_
          refine w_istore C (q := 220) #[.val (.int p1), .val (.int p2), .val (.int p3), .val (.int p4), .val (.int p5), .val (.int p6), .val (.int v1), .val (.int (0 : Int32)), .val (.int (2 : Int32)), .val (.int (3 : Int32)), .val (.ref a1), .val (.ref a2), .val (.ref s1), .val (.ref b5), .unset, .val (.ref b6), .val (.int (2 : Int32)), .val (.int (0 : Int32))] at_218 rfl rfl ?_
          refine w_aload C (q := 222) at_220 rfl rfl rfl ?_
          refine w_iload C (q := 224) at_222 rfl rfl ?_
          refine w_iaload C (q := 225) A_a1 (.int (-1 : Int32)) (by decide) rfl at_224 rfl ?_
          refine w_ifge_f C (q := 228) at_225 rfl (by decide) ?_
          refine w_iconst C (q := 229) (3 : Int32) at_228 rfl (by decide) ?_
          refine w_istore C (q := 231) #[.val (.int p1), .val (.int p2), .val (.int p3), .val (.int p4), .val (.int p5), .val (.int p6), .val (.int v1), .val (.int (0 : Int32)), .val (.int (2 : Int32)), .val (.int (3 : Int32)), .val (.ref a1), .val (.ref a2), .val (.ref s1), .val (.ref b5), .val (.int (3 : Int32)), .val (.ref b6), .val (.int (2 : Int32)), .val (.int (0 : Int32))] at_229 rfl rfl ?_
          refine w_aload C (q := 233) at_231 rfl rfl rfl ?_
          refine w_iconst C (q := 234) (0 : Int32) at_233 rfl (by decide) ?_
          refine w_aload C (q := 236) at_234 rfl rfl rfl ?_
          refine w_iload C (q := 238) at_236 rfl rfl ?_
          refine w_iaload C (q := 239) A_a2 (.int p2) (by decide) rfl at_238 rfl ?_
          refine w_iastore C (q := 240) A_b6 (by decide) (Nat.le_of_ble_eq_true rfl) at_239 rfl g_b6 ?_
          intro h151 Wh151 A'
          replace A_b6 : Ars Z h151 b6 k_b6 .int [(.int p2), (.int (0 : Int32)), (.int (0 : Int32)), (.int (0 : Int32))] := A'
          skip
          replace A_a1 := A_a1.other Wh151 (Nat.ne_of_lt lt_a1_b6)
          replace A_a2 := A_a2.other Wh151 (Nat.ne_of_lt lt_a2_b6)
          replace E_s1 := E_s1.wr Wh151
          replace A_b5 := A_b5.other Wh151 (Nat.ne_of_lt lt_b5_b6)
          replace Z0 := Nat.le_trans Z0 (Nat.le_of_eq (Wr.size Wh151).symm)
          refine w_aload C (q := 242) at_240 rfl rfl rfl ?_
          refine w_iconst C (q := 243) (1 : Int32) at_242 rfl (by decide) ?_
          refine w_aload C (q := 245) at_243 rfl rfl rfl ?_
          refine w_iload C (q := 247) at_245 rfl rfl ?_
          refine w_iaload C (q := 248) A_a2 (.int p3) (by decide) rfl at_247 rfl ?_
          refine w_iastore C (q := 249) A_b6 (by decide) (Nat.le_of_ble_eq_true rfl) at_248 rfl g_b6 ?_
          intro h152 Wh152 A'
          replace A_b6 : Ars Z h152 b6 k_b6 .int [(.int p2), (.int p3), (.int (0 : Int32)), (.int (0 : Int32))] := A'
          skip
          replace A_a1 := A_a1.other Wh152 (Nat.ne_of_lt lt_a1_b6)
          replace A_a2 := A_a2.other Wh152 (Nat.ne_of_lt lt_a2_b6)
          replace E_s1 := E_s1.wr Wh152
          replace A_b5 := A_b5.other Wh152 (Nat.ne_of_lt lt_b5_b6)
          replace Z0 := Nat.le_trans Z0 (Nat.le_of_eq (Wr.size Wh152).symm)
          refine w_aload C (q := 251) at_249 rfl rfl rfl ?_
          refine w_iconst C (q := 252) (2 : Int32) at_251 rfl (by decide) ?_
          refine w_iload C (q := 254) at_252 rfl rfl ?_
          refine w_iastore C (q := 255) A_b6 (by decide) (Nat.le_of_ble_eq_true rfl) at_254 rfl g_b6 ?_
          intro h153 Wh153 A'
          replace A_b6 : Ars Z h153 b6 k_b6 .int [(.int p2), (.int p3), (.int p5), (.int (0 : Int32))] := A'
          skip
          replace A_a1 := A_a1.other Wh153 (Nat.ne_of_lt lt_a1_b6)
          replace A_a2 := A_a2.other Wh153 (Nat.ne_of_lt lt_a2_b6)
          replace E_s1 := E_s1.wr Wh153
          replace A_b5 := A_b5.other Wh153 (Nat.ne_of_lt lt_b5_b6)
          replace Z0 := Nat.le_trans Z0 (Nat.le_of_eq (Wr.size Wh153).symm)
          refine w_goto C (q := 294) at_255 (by decide) (by decide) ?_
          refine w_aload C (q := 296) at_294 rfl rfl rfl ?_
          refine w_ifnullNo C (q := 299) at_296 rfl ?_
          refine w_aload C (q := 301) at_299 rfl rfl rfl ?_
          refine w_arraylength C (q := 302) A_b5 (3 : Int32) rfl at_301 rfl ?_
          refine w_iload C (q := 304) at_302 rfl rfl ?_
          refine w_iceq_t C (q := 309) at_304 (by decide) (by decide) (by decide) ?_
          refine w_aload C (q := 311) at_309 rfl rfl rfl ?_
          refine w_iconst C (q := 312) (0 : Int32) at_311 rfl (by decide) ?_
          refine w_iaload C (q := 313) A_b5 (.int p2) (by decide) rfl at_312 rfl ?_
          refine w_aload C (q := 315) at_313 rfl rfl rfl ?_
          refine w_iconst C (q := 316) (0 : Int32) at_315 rfl (by decide) ?_
          refine w_iaload C (q := 317) A_b6 (.int p2) (by decide) rfl at_316 rfl ?_
          refine w_icne_f C (q := 320) at_317 rfl rfl ?_
          refine w_iconst C (q := 321) (1 : Int32) at_320 rfl (by decide) ?_
          refine w_goto C (q := 325) at_321 (by decide) (by decide) ?_
          refine w_istore C (q := 327) #[.val (.int p1), .val (.int p2), .val (.int p3), .val (.int p4), .val (.int p5), .val (.int p6), .val (.int v1), .val (.int (0 : Int32)), .val (.int (2 : Int32)), .val (.int (3 : Int32)), .val (.ref a1), .val (.ref a2), .val (.ref s1), .val (.ref b5), .val (.int (3 : Int32)), .val (.ref b6), .val (.int (1 : Int32)), .val (.int (0 : Int32))] at_325 rfl rfl ?_
          refine w_iload C (q := 329) at_327 rfl rfl ?_
          refine w_iconst C (q := 330) (1 : Int32) at_329 rfl (by decide) ?_
          refine w_icle_f C (q := 333) at_330 rfl (by decide) ?_
          refine w_iload C (q := 335) at_333 rfl rfl ?_
          refine w_ifeq_f C (q := 338) at_335 rfl (by decide) ?_
          refine w_aload C (q := 340) at_338 rfl rfl rfl ?_
          refine w_iconst C (q := 341) (1 : Int32) at_340 rfl (by decide) ?_
          refine w_iaload C (q := 342) A_b5 (.int p3) (by decide) rfl at_341 rfl ?_
          refine w_aload C (q := 344) at_342 rfl rfl rfl ?_
          refine w_iconst C (q := 345) (1 : Int32) at_344 rfl (by decide) ?_
          refine w_iaload C (q := 346) A_b6 (.int p3) (by decide) rfl at_345 rfl ?_
          refine w_icne_f C (q := 349) at_346 rfl rfl ?_
          refine w_iconst C (q := 350) (1 : Int32) at_349 rfl (by decide) ?_
          refine w_goto C (q := 354) at_350 (by decide) (by decide) ?_
          refine w_istore C (q := 356) #[.val (.int p1), .val (.int p2), .val (.int p3), .val (.int p4), .val (.int p5), .val (.int p6), .val (.int v1), .val (.int (0 : Int32)), .val (.int (2 : Int32)), .val (.int (3 : Int32)), .val (.ref a1), .val (.ref a2), .val (.ref s1), .val (.ref b5), .val (.int (3 : Int32)), .val (.ref b6), .val (.int (1 : Int32)), .val (.int (0 : Int32))] at_354 rfl rfl ?_
          refine w_iload C (q := 358) at_356 rfl rfl ?_
          refine w_iconst C (q := 359) (2 : Int32) at_358 rfl (by decide) ?_
          refine w_icle_f C (q := 362) at_359 rfl (by decide) ?_
          refine w_iload C (q := 364) at_362 rfl rfl ?_
          refine w_ifeq_f C (q := 367) at_364 rfl (by decide) ?_
          refine w_aload C (q := 369) at_367 rfl rfl rfl ?_
          refine w_iconst C (q := 370) (2 : Int32) at_369 rfl (by decide) ?_
          refine w_iaload C (q := 371) A_b5 (.int p5) (by decide) rfl at_370 rfl ?_
          refine w_aload C (q := 373) at_371 rfl rfl rfl ?_
          refine w_iconst C (q := 374) (2 : Int32) at_373 rfl (by decide) ?_
          refine w_iaload C (q := 375) A_b6 (.int p5) (by decide) rfl at_374 rfl ?_
          refine w_icne_f C (q := 378) at_375 rfl rfl ?_
          refine w_iconst C (q := 379) (1 : Int32) at_378 rfl (by decide) ?_
          refine w_goto C (q := 383) at_379 (by decide) (by decide) ?_
          refine w_istore C (q := 385) #[.val (.int p1), .val (.int p2), .val (.int p3), .val (.int p4), .val (.int p5), .val (.int p6), .val (.int v1), .val (.int (0 : Int32)), .val (.int (2 : Int32)), .val (.int (3 : Int32)), .val (.ref a1), .val (.ref a2), .val (.ref s1), .val (.ref b5), .val (.int (3 : Int32)), .val (.ref b6), .val (.int (1 : Int32)), .val (.int (0 : Int32))] at_383 rfl rfl ?_
          refine w_iload C (q := 387) at_385 rfl rfl ?_
          refine w_iconst C (q := 388) (3 : Int32) at_387 rfl (by decide) ?_
          refine w_icle_t C (q := 414) at_388 (by decide) (by decide) (by decide) ?_
          refine w_iload C (q := 416) at_414 rfl rfl ?_
          exact w_retN C at_416 (by decide) (by decide) rfl
        · rcases hv1 with rfl | rfl
          · refine w_virtual C (q := 150) (y := ⟨"com/example/logic_to_machines/logictomachines/PairSearch", "wordTo", "(II)[I"⟩) (z := ⟨"com/example/logic_to_machines/logictomachines/PairSearch", "wordTo", "(II)[I"⟩) (rm := ({ frames := 1, cells := 1, slots := 4, locals := 16 } : Room)) (a := s1) (argsL := [(.int (3 : Int32)), (.int p5)]) (hw _ (List.mem_of_getElem? (i := 67) rfl)) (hw _ (List.mem_of_getElem? (i := 68) rfl)) (hw _ (List.mem_of_getElem? (i := 70) rfl)) (hw _ (List.mem_of_getElem? (i := 70) rfl)) (hw _ (List.mem_of_getElem? (i := 69) rfl)) (hw _ (List.mem_of_getElem? (i := 3) rfl)) (hw _ (List.mem_of_getElem? (i := 71) rfl)) E_s1 (rmW3 l Z a0 hw s1 (3 : Int32) p5 _ n0 Z0 m1 l1 b1 l2 b2 l3 b3 l4 b4 km k1 k2 k3 k4 _ _ _ _ _ _ hPS (2 : Int32) (1 : Int32) (0 : Int32) (-1 : Int32) p3 p2 p1 (by decide) (by decide) (by decide) (by decide) (by decide) rfl rfl rfl rfl rfl rfl rfl) (by decide) (rest := []) (lenOf pd_9 rfl) rfl at_147 rfl rfl (by decide) (Nat.le_of_ble_eq_true rfl) (by decide) (by decide) ?_
            intro v h154 hQ
            obtain ⟨b5, kb5, rfl, hb5, K5, A_b5⟩ := hQ
            replace A_a1 := A_a1.keep K5 nin0
            replace A_a2 := A_a2.keep K5 nin0
            replace E_s1 := E_s1.keep K5
            replace Z0 := Nat.le_trans Z0 K5.1
            refine Wk.v1 ?_
            refine w_astore C (q := 152) #[.val (.int p1), .val (.int p2), .val (.int p3), .val (.int p4), .val (.int p5), .val (.int p6), .val (.int (0 : Int32)), .val (.int (1 : Int32)), .val (.int (2 : Int32)), .val (.int (3 : Int32)), .val (.ref a1), .val (.ref a2), .val (.ref s1), .val (.ref b5), .unset, .unset, .unset, .unset] at_150 rfl rfl rfl ?_
            refine w_iconst C (q := 153) (4 : Int32) at_152 rfl (by decide) ?_
            refine w_newP C (q := 155) (hw _ (List.mem_of_getElem? (i := 0) rfl)) at_153 rfl (by decide) 4 (by decide) (by decide) (by decide) (by decide) ?_
            intro h155 b6 k_b6 eq_b6 Ehh155 A_b6
            replace A_b6 : Ars Z h155 b6 k_b6 .int [(.int (0 : Int32)), (.int (0 : Int32)), (.int (0 : Int32)), (.int (0 : Int32))] := A_b6
            have lt_a1_b6 : (a1 : Nat) < (b6 : Nat) := Nat.lt_of_lt_of_le A_a1.lt (Nat.le_of_eq eq_b6.symm)
            have lt_a2_b6 : (a2 : Nat) < (b6 : Nat) := Nat.lt_of_lt_of_le A_a2.lt (Nat.le_of_eq eq_b6.symm)
            have lt_s1_b6 : (s1 : Nat) < (b6 : Nat) := Nat.lt_of_lt_of_le E_s1.lt (Nat.le_of_eq eq_b6.symm)
            have lt_b5_b6 : (b5 : Nat) < (b6 : Nat) := Nat.lt_of_lt_of_le A_b5.lt (Nat.le_of_eq eq_b6.symm)
            have g_b6 : n0 ≤ b6 := Nat.le_trans Z0 (Nat.le_of_eq eq_b6.symm)
            replace Z0 := Nat.le_trans Z0 Ehh155.1
            replace A_a1 := A_a1.ext Ehh155
            replace A_a2 := A_a2.ext Ehh155
            replace E_s1 := E_s1.ext Ehh155
            replace A_b5 := A_b5.ext Ehh155
            refine w_astore C (q := 157) #[.val (.int p1), .val (.int p2), .val (.int p3), .val (.int p4), .val (.int p5), .val (.int p6), .val (.int (0 : Int32)), .val (.int (1 : Int32)), .val (.int (2 : Int32)), .val (.int (3 : Int32)), .val (.ref a1), .val (.ref a2), .val (.ref s1), .val (.ref b5), .unset, .val (.ref b6), .unset, .unset] at_155 rfl rfl rfl ?_
            refine w_aload C (q := 159) at_157 rfl rfl rfl ?_
            refine w_iload C (q := 161) at_159 rfl rfl ?_
            refine w_iaload C (q := 162) A_a1 (.int (2 : Int32)) (by decide) rfl at_161 rfl ?_
            refine w_ifge_t C (q := 177) at_162 (by decide) (by decide) (by decide) ?_
            refine w_aload C (q := 179) at_177 rfl rfl rfl ?_
            refine w_iload C (q := 181) at_179 rfl rfl ?_
            refine w_iaload C (q := 182) A_a1 (.int (2 : Int32)) (by decide) rfl at_181 rfl ?_
            refine w_istore C (q := 184) #[.val (.int p1), .val (.int p2), .val (.int p3), .val (.int p4), .val (.int p5), .val (.int p6), .val (.int (0 : Int32)), .val (.int (1 : Int32)), .val (.int (2 : Int32)), .val (.int (3 : Int32)), .val (.ref a1), .val (.ref a2), .val (.ref s1), .val (.ref b5), .unset, .val (.ref b6), .val (.int (2 : Int32)), .unset] at_182 rfl rfl ?_
            refine w_aload C (q := 186) at_184 rfl rfl rfl ?_
            refine w_iload C (q := 188) at_186 rfl rfl ?_
            refine w_iaload C (q := 189) A_a1 (.int (1 : Int32)) (by decide) rfl at_188 rfl ?_
            refine w_ifge_t C (q := 213) at_189 (by decide) (by decide) (by decide) ?_
            refine w_aload C (q := 215) at_213 rfl rfl rfl ?_
            refine w_iload C (q := 217) at_215 rfl rfl ?_
            refine w_iaload C (q := 218) A_a1 (.int (1 : Int32)) (by decide) rfl at_217 rfl ?_
            refine w_istore C (q := 220) #[.val (.int p1), .val (.int p2), .val (.int p3), .val (.int p4), .val (.int p5), .val (.int p6), .val (.int (0 : Int32)), .val (.int (1 : Int32)), .val (.int (2 : Int32)), .val (.int (3 : Int32)), .val (.ref a1), .val (.ref a2), .val (.ref s1), .val (.ref b5), .unset, .val (.ref b6), .val (.int (2 : Int32)), .val (.int (1 : Int32))] at_218 rfl rfl ?_
            refine w_aload C (q := 222) at_220 rfl rfl rfl ?_
            refine w_iload C (q := 224) at_222 rfl rfl ?_
            refine w_iaload C (q := 225) A_a1 (.int (0 : Int32)) (by decide) rfl at_224 rfl ?_
            refine w_ifge_t C (q := 258) at_225 (by decide) (by decide) (by decide) ?_
            refine w_iconst C (q := 259) (4 : Int32) at_258 rfl (by decide) ?_
            refine w_istore C (q := 261) #[.val (.int p1), .val (.int p2), .val (.int p3), .val (.int p4), .val (.int p5), .val (.int p6), .val (.int (0 : Int32)), .val (.int (1 : Int32)), .val (.int (2 : Int32)), .val (.int (3 : Int32)), .val (.ref a1), .val (.ref a2), .val (.ref s1), .val (.ref b5), .val (.int (4 : Int32)), .val (.ref b6), .val (.int (2 : Int32)), .val (.int (1 : Int32))] at_259 rfl rfl ?_
            refine w_aload C (q := 263) at_261 rfl rfl rfl ?_
            refine w_iconst C (q := 264) (0 : Int32) at_263 rfl (by decide) ?_
            refine w_aload C (q := 266) at_264 rfl rfl rfl ?_
            refine w_iload C (q := 268) at_266 rfl rfl ?_
            refine w_iaload C (q := 269) A_a2 (.int p1) (by decide) rfl at_268 rfl ?_
            refine w_iastore C (q := 270) A_b6 (by decide) (Nat.le_of_ble_eq_true rfl) at_269 rfl g_b6 ?_
            intro h156 Wh156 A'
            replace A_b6 : Ars Z h156 b6 k_b6 .int [(.int p1), (.int (0 : Int32)), (.int (0 : Int32)), (.int (0 : Int32))] := A'
            skip
            replace A_a1 := A_a1.other Wh156 (Nat.ne_of_lt lt_a1_b6)
            replace A_a2 := A_a2.other Wh156 (Nat.ne_of_lt lt_a2_b6)
            replace E_s1 := E_s1.wr Wh156
            replace A_b5 := A_b5.other Wh156 (Nat.ne_of_lt lt_b5_b6)
            replace Z0 := Nat.le_trans Z0 (Nat.le_of_eq (Wr.size Wh156).symm)
            refine w_aload C (q := 272) at_270 rfl rfl rfl ?_
            refine w_iconst C (q := 273) (1 : Int32) at_272 rfl (by decide) ?_
            refine w_aload C (q := 275) at_273 rfl rfl rfl ?_
            refine w_iload C (q := 277) at_275 rfl rfl ?_
            refine w_iaload C (q := 278) A_a2 (.int p2) (by decide) rfl at_277 rfl ?_
            refine w_iastore C (q := 279) A_b6 (by decide) (Nat.le_of_ble_eq_true rfl) at_278 rfl g_b6 ?_
            intro h157 Wh157 A'
            replace A_b6 : Ars Z h157 b6 k_b6 .int [(.int p1), (.int p2), (.int (0 : Int32)), (.int (0 : Int32))] := A'
            skip
            replace A_a1 := A_a1.other Wh157 (Nat.ne_of_lt lt_a1_b6)
            replace A_a2 := A_a2.other Wh157 (Nat.ne_of_lt lt_a2_b6)
            replace E_s1 := E_s1.wr Wh157
            replace A_b5 := A_b5.other Wh157 (Nat.ne_of_lt lt_b5_b6)
            replace Z0 := Nat.le_trans Z0 (Nat.le_of_eq (Wr.size Wh157).symm)
            refine w_aload C (q := 281) at_279 rfl rfl rfl ?_
            refine w_iconst C (q := 282) (2 : Int32) at_281 rfl (by decide) ?_
            refine w_aload C (q := 284) at_282 rfl rfl rfl ?_
            refine w_iload C (q := 286) at_284 rfl rfl ?_
            refine w_iaload C (q := 287) A_a2 (.int p3) (by decide) rfl at_286 rfl ?_
            refine w_iastore C (q := 288) A_b6 (by decide) (Nat.le_of_ble_eq_true rfl) at_287 rfl g_b6 ?_
            intro h158 Wh158 A'
            replace A_b6 : Ars Z h158 b6 k_b6 .int [(.int p1), (.int p2), (.int p3), (.int (0 : Int32))] := A'
            skip
            replace A_a1 := A_a1.other Wh158 (Nat.ne_of_lt lt_a1_b6)
            replace A_a2 := A_a2.other Wh158 (Nat.ne_of_lt lt_a2_b6)
            replace E_s1 := E_s1.wr Wh158
            replace A_b5 := A_b5.other Wh158 (Nat.ne_of_lt lt_b5_b6)
            replace Z0 := Nat.le_trans Z0 (Nat.le_of_eq (Wr.size Wh158).symm)
            refine w_aload C (q := 290) at_288 rfl rfl rfl ?_
            refine w_iconst C (q := 291) (3 : Int32) at_290 rfl (by decide) ?_
            refine w_iload C (q := 293) at_291 rfl rfl ?_
            refine w_iastore C (q := 294) A_b6 (by decide) (Nat.le_of_ble_eq_true rfl) at_293 rfl g_b6 ?_
            intro h159 Wh159 A'
            replace A_b6 : Ars Z h159 b6 k_b6 .int [(.int p1), (.int p2), (.int p3), (.int p5)] := A'
            skip
            replace A_a1 := A_a1.other Wh159 (Nat.ne_of_lt lt_a1_b6)
            replace A_a2 := A_a2.other Wh159 (Nat.ne_of_lt lt_a2_b6)
            replace E_s1 := E_s1.wr Wh159
            replace A_b5 := A_b5.other Wh159 (Nat.ne_of_lt lt_b5_b6)
            replace Z0 := Nat.le_trans Z0 (Nat.le_of_eq (Wr.size Wh159).symm)
            refine w_aload C (q := 296) at_294 rfl rfl rfl ?_
            refine w_ifnullNo C (q := 299) at_296 rfl ?_
            refine w_aload C (q := 301) at_299 rfl rfl rfl ?_
            refine w_arraylength C (q := 302) A_b5 (4 : Int32) rfl at_301 rfl ?_
            refine w_iload C (q := 304) at_302 rfl rfl ?_
            refine w_iceq_t C (q := 309) at_304 (by decide) (by decide) (by decide) ?_
            refine w_aload C (q := 311) at_309 rfl rfl rfl ?_
            refine w_iconst C (q := 312) (0 : Int32) at_311 rfl (by decide) ?_
            refine w_iaload C (q := 313) A_b5 (.int p1) (by decide) rfl at_312 rfl ?_
            refine w_aload C (q := 315) at_313 rfl rfl rfl ?_
            refine w_iconst C (q := 316) (0 : Int32) at_315 rfl (by decide) ?_
            refine w_iaload C (q := 317) A_b6 (.int p1) (by decide) rfl at_316 rfl ?_
            refine w_icne_f C (q := 320) at_317 rfl rfl ?_
            refine w_iconst C (q := 321) (1 : Int32) at_320 rfl (by decide) ?_
            refine w_goto C (q := 325) at_321 (by decide) (by decide) ?_
            refine w_istore C (q := 327) #[.val (.int p1), .val (.int p2), .val (.int p3), .val (.int p4), .val (.int p5), .val (.int p6), .val (.int (0 : Int32)), .val (.int (1 : Int32)), .val (.int (2 : Int32)), .val (.int (3 : Int32)), .val (.ref a1), .val (.ref a2), .val (.ref s1), .val (.ref b5), .val (.int (4 : Int32)), .val (.ref b6), .val (.int (1 : Int32)), .val (.int (1 : Int32))] at_325 rfl rfl ?_
            refine w_iload C (q := 329) at_327 rfl rfl ?_
            refine w_iconst C (q := 330) (1 : Int32) at_329 rfl (by decide) ?_
            refine w_icle_f C (q := 333) at_330 rfl (by decide) ?_
            refine w_iload C (q := 335) at_333 rfl rfl ?_
            refine w_ifeq_f C (q := 338) at_335 rfl (by decide) ?_
            refine w_aload C (q := 340) at_338 rfl rfl rfl ?_
            refine w_iconst C (q := 341) (1 : Int32) at_340 rfl (by decide) ?_
            refine w_iaload C (q := 342) A_b5 (.int p2) (by decide) rfl at_341 rfl ?_
            refine w_aload C (q := 344) at_342 rfl rfl rfl ?_
            refine w_iconst C (q := 345) (1 : Int32) at_344 rfl (by decide) ?_
            refine w_iaload C (q := 346) A_b6 (.int p2) (by decide) rfl at_345 rfl ?_
            refine w_icne_f C (q := 349) at_346 rfl rfl ?_
            refine w_iconst C (q := 350) (1 : Int32) at_349 rfl (by decide) ?_
            refine w_goto C (q := 354) at_350 (by decide) (by decide) ?_
            refine w_istore C (q := 356) #[.val (.int p1), .val (.int p2), .val (.int p3), .val (.int p4), .val (.int p5), .val (.int p6), .val (.int (0 : Int32)), .val (.int (1 : Int32)), .val (.int (2 : Int32)), .val (.int (3 : Int32)), .val (.ref a1), .val (.ref a2), .val (.ref s1), .val (.ref b5), .val (.int (4 : Int32)), .val (.ref b6), .val (.int (1 : Int32)), .val (.int (1 : Int32))] at_354 rfl rfl ?_
            refine w_iload C (q := 358) at_356 rfl rfl ?_
            refine w_iconst C (q := 359) (2 : Int32) at_358 rfl (by decide) ?_
            refine w_icle_f C (q := 362) at_359 rfl (by decide) ?_
            refine w_iload C (q := 364) at_362 rfl rfl ?_
            refine w_ifeq_f C (q := 367) at_364 rfl (by decide) ?_
            refine w_aload C (q := 369) at_367 rfl rfl rfl ?_
            refine w_iconst C (q := 370) (2 : Int32) at_369 rfl (by decide) ?_
            refine w_iaload C (q := 371) A_b5 (.int p3) (by decide) rfl at_370 rfl ?_
            refine w_aload C (q := 373) at_371 rfl rfl rfl ?_
            refine w_iconst C (q := 374) (2 : Int32) at_373 rfl (by decide) ?_
            refine w_iaload C (q := 375) A_b6 (.int p3) (by decide) rfl at_374 rfl ?_
            refine w_icne_f C (q := 378) at_375 rfl rfl ?_
            refine w_iconst C (q := 379) (1 : Int32) at_378 rfl (by decide) ?_
            refine w_goto C (q := 383) at_379 (by decide) (by decide) ?_
            refine w_istore C (q := 385) #[.val (.int p1), .val (.int p2), .val (.int p3), .val (.int p4), .val (.int p5), .val (.int p6), .val (.int (0 : Int32)), .val (.int (1 : Int32)), .val (.int (2 : Int32)), .val (.int (3 : Int32)), .val (.ref a1), .val (.ref a2), .val (.ref s1), .val (.ref b5), .val (.int (4 : Int32)), .val (.ref b6), .val (.int (1 : Int32)), .val (.int (1 : Int32))] at_383 rfl rfl ?_
            refine w_iload C (q := 387) at_385 rfl rfl ?_
            refine w_iconst C (q := 388) (3 : Int32) at_387 rfl (by decide) ?_
            refine w_icle_f C (q := 391) at_388 rfl (by decide) ?_
            refine w_iload C (q := 393) at_391 rfl rfl ?_
            refine w_ifeq_f C (q := 396) at_393 rfl (by decide) ?_
            refine w_aload C (q := 398) at_396 rfl rfl rfl ?_
            refine w_iconst C (q := 399) (3 : Int32) at_398 rfl (by decide) ?_
            refine w_iaload C (q := 400) A_b5 (.int p5) (by decide) rfl at_399 rfl ?_
            refine w_aload C (q := 402) at_400 rfl rfl rfl ?_
            refine w_iconst C (q := 403) (3 : Int32) at_402 rfl (by decide) ?_
            refine w_iaload C (q := 404) A_b6 (.int p5) (by decide) rfl at_403 rfl ?_
            refine w_icne_f C (q := 407) at_404 rfl rfl ?_
            refine w_iconst C (q := 408) (1 : Int32) at_407 rfl (by decide) ?_
            refine w_goto C (q := 412) at_408 (by decide) (by decide) ?_
            refine w_istore C (q := 414) #[.val (.int p1), .val (.int p2), .val (.int p3), .val (.int p4), .val (.int p5), .val (.int p6), .val (.int (0 : Int32)), .val (.int (1 : Int32)), .val (.int (2 : Int32)), .val (.int (3 : Int32)), .val (.ref a1), .val (.ref a2), .val (.ref s1), .val (.ref b5), .val (.int (4 : Int32)), .val (.ref b6), .val (.int (1 : Int32)), .val (.int (1 : Int32))] at_412 rfl rfl ?_
            refine w_iload C (q := 416) at_414 rfl rfl ?_
            exact w_retN C at_416 (by decide) (by decide) rfl
          · refine w_virtual C (q := 150) (y := ⟨"com/example/logic_to_machines/logictomachines/PairSearch", "wordTo", "(II)[I"⟩) (z := ⟨"com/example/logic_to_machines/logictomachines/PairSearch", "wordTo", "(II)[I"⟩) (rm := ({ frames := 1, cells := 1, slots := 3, locals := 16 } : Room)) (a := s1) (argsL := [(.int (3 : Int32)), (.int p5)]) (hw _ (List.mem_of_getElem? (i := 67) rfl)) (hw _ (List.mem_of_getElem? (i := 68) rfl)) (hw _ (List.mem_of_getElem? (i := 70) rfl)) (hw _ (List.mem_of_getElem? (i := 70) rfl)) (hw _ (List.mem_of_getElem? (i := 69) rfl)) (hw _ (List.mem_of_getElem? (i := 3) rfl)) (hw _ (List.mem_of_getElem? (i := 71) rfl)) E_s1 (rmW2 l Z a0 hw s1 (3 : Int32) p5 _ n0 Z0 m1 l1 b1 l2 b2 l3 b3 l4 b4 km k1 k2 k3 k4 _ _ _ _ _ _ hPS (2 : Int32) (1 : Int32) (-1 : Int32) p3 p2 (by decide) (by decide) (by decide) (by decide) rfl rfl rfl rfl rfl) (by decide) (rest := []) (lenOf pd_9 rfl) rfl at_147 rfl rfl (by decide) (Nat.le_of_ble_eq_true rfl) (by decide) (by decide) ?_
            intro v h160 hQ
            obtain ⟨b5, kb5, rfl, hb5, K5, A_b5⟩ := hQ
            replace A_a1 := A_a1.keep K5 nin0
            replace A_a2 := A_a2.keep K5 nin0
            replace E_s1 := E_s1.keep K5
            replace Z0 := Nat.le_trans Z0 K5.1
            refine Wk.v1 ?_
            refine w_astore C (q := 152) #[.val (.int p1), .val (.int p2), .val (.int p3), .val (.int p4), .val (.int p5), .val (.int p6), .val (.int (-1 : Int32)), .val (.int (1 : Int32)), .val (.int (2 : Int32)), .val (.int (3 : Int32)), .val (.ref a1), .val (.ref a2), .val (.ref s1), .val (.ref b5), .unset, .unset, .unset, .unset] at_150 rfl rfl rfl ?_
            refine w_iconst C (q := 153) (4 : Int32) at_152 rfl (by decide) ?_
            refine w_newP C (q := 155) (hw _ (List.mem_of_getElem? (i := 0) rfl)) at_153 rfl (by decide) 4 (by decide) (by decide) (by decide) (by decide) ?_
            intro h161 b6 k_b6 eq_b6 Ehh161 A_b6
            replace A_b6 : Ars Z h161 b6 k_b6 .int [(.int (0 : Int32)), (.int (0 : Int32)), (.int (0 : Int32)), (.int (0 : Int32))] := A_b6
            have lt_a1_b6 : (a1 : Nat) < (b6 : Nat) := Nat.lt_of_lt_of_le A_a1.lt (Nat.le_of_eq eq_b6.symm)
            have lt_a2_b6 : (a2 : Nat) < (b6 : Nat) := Nat.lt_of_lt_of_le A_a2.lt (Nat.le_of_eq eq_b6.symm)
            have lt_s1_b6 : (s1 : Nat) < (b6 : Nat) := Nat.lt_of_lt_of_le E_s1.lt (Nat.le_of_eq eq_b6.symm)
            have lt_b5_b6 : (b5 : Nat) < (b6 : Nat) := Nat.lt_of_lt_of_le A_b5.lt (Nat.le_of_eq eq_b6.symm)
            have g_b6 : n0 ≤ b6 := Nat.le_trans Z0 (Nat.le_of_eq eq_b6.symm)
            replace Z0 := Nat.le_trans Z0 Ehh161.1
            replace A_a1 := A_a1.ext Ehh161
            replace A_a2 := A_a2.ext Ehh161
            replace E_s1 := E_s1.ext Ehh161
            replace A_b5 := A_b5.ext Ehh161
            refine w_astore C (q := 157) #[.val (.int p1), .val (.int p2), .val (.int p3), .val (.int p4), .val (.int p5), .val (.int p6), .val (.int (-1 : Int32)), .val (.int (1 : Int32)), .val (.int (2 : Int32)), .val (.int (3 : Int32)), .val (.ref a1), .val (.ref a2), .val (.ref s1), .val (.ref b5), .unset, .val (.ref b6), .unset, .unset] at_155 rfl rfl rfl ?_
            refine w_aload C (q := 159) at_157 rfl rfl rfl ?_
            refine w_iload C (q := 161) at_159 rfl rfl ?_
            refine w_iaload C (q := 162) A_a1 (.int (2 : Int32)) (by decide) rfl at_161 rfl ?_
            refine w_ifge_t C (q := 177) at_162 (by decide) (by decide) (by decide) ?_
            refine w_aload C (q := 179) at_177 rfl rfl rfl ?_
            refine w_iload C (q := 181) at_179 rfl rfl ?_
            refine w_iaload C (q := 182) A_a1 (.int (2 : Int32)) (by decide) rfl at_181 rfl ?_
            refine w_istore C (q := 184) #[.val (.int p1), .val (.int p2), .val (.int p3), .val (.int p4), .val (.int p5), .val (.int p6), .val (.int (-1 : Int32)), .val (.int (1 : Int32)), .val (.int (2 : Int32)), .val (.int (3 : Int32)), .val (.ref a1), .val (.ref a2), .val (.ref s1), .val (.ref b5), .unset, .val (.ref b6), .val (.int (2 : Int32)), .unset] at_182 rfl rfl ?_
            refine w_aload C (q := 186) at_184 rfl rfl rfl ?_
            refine w_iload C (q := 188) at_186 rfl rfl ?_
            refine w_iaload C (q := 189) A_a1 (.int (1 : Int32)) (by decide) rfl at_188 rfl ?_
            refine w_ifge_t C (q := 213) at_189 (by decide) (by decide) (by decide) ?_
            refine w_aload C (q := 215) at_213 rfl rfl rfl ?_
            refine w_iload C (q := 217) at_215 rfl rfl ?_
            refine w_iaload C (q := 218) A_a1 (.int (1 : Int32)) (by decide) rfl at_217 rfl ?_
            refine w_istore C (q := 220) #[.val (.int p1), .val (.int p2), .val (.int p3), .val (.int p4), .val (.int p5), .val (.int p6), .val (.int (-1 : Int32)), .val (.int (1 : Int32)), .val (.int (2 : Int32)), .val (.int (3 : Int32)), .val (.ref a1), .val (.ref a2), .val (.ref s1), .val (.ref b5), .unset, .val (.ref b6), .val (.int (2 : Int32)), .val (.int (1 : Int32))] at_218 rfl rfl ?_
            refine w_aload C (q := 222) at_220 rfl rfl rfl ?_
            refine w_iload C (q := 224) at_222 rfl rfl ?_
            refine w_iaload C (q := 225) A_a1 (.int (-1 : Int32)) (by decide) rfl at_224 rfl ?_
            refine w_ifge_f C (q := 228) at_225 rfl (by decide) ?_
            refine w_iconst C (q := 229) (3 : Int32) at_228 rfl (by decide) ?_
            refine w_istore C (q := 231) #[.val (.int p1), .val (.int p2), .val (.int p3), .val (.int p4), .val (.int p5), .val (.int p6), .val (.int (-1 : Int32)), .val (.int (1 : Int32)), .val (.int (2 : Int32)), .val (.int (3 : Int32)), .val (.ref a1), .val (.ref a2), .val (.ref s1), .val (.ref b5), .val (.int (3 : Int32)), .val (.ref b6), .val (.int (2 : Int32)), .val (.int (1 : Int32))] at_229 rfl rfl ?_
            refine w_aload C (q := 233) at_231 rfl rfl rfl ?_
            refine w_iconst C (q := 234) (0 : Int32) at_233 rfl (by decide) ?_
            refine w_aload C (q := 236) at_234 rfl rfl rfl ?_
            refine w_iload C (q := 238) at_236 rfl rfl ?_
            refine w_iaload C (q := 239) A_a2 (.int p2) (by decide) rfl at_238 rfl ?_
            refine w_iastore C (q := 240) A_b6 (by decide) (Nat.le_of_ble_eq_true rfl) at_239 rfl g_b6 ?_
            intro h162 Wh162 A'
            replace A_b6 : Ars Z h162 b6 k_b6 .int [(.int p2), (.int (0 : Int32)), (.int (0 : Int32)), (.int (0 : Int32))] := A'
            skip
            replace A_a1 := A_a1.other Wh162 (Nat.ne_of_lt lt_a1_b6)
            replace A_a2 := A_a2.other Wh162 (Nat.ne_of_lt lt_a2_b6)
            replace E_s1 := E_s1.wr Wh162
            replace A_b5 := A_b5.other Wh162 (Nat.ne_of_lt lt_b5_b6)
            replace Z0 := Nat.le_trans Z0 (Nat.le_of_eq (Wr.size Wh162).symm)
            refine w_aload C (q := 242) at_240 rfl rfl rfl ?_
            refine w_iconst C (q := 243) (1 : Int32) at_242 rfl (by decide) ?_
            refine w_aload C (q := 245) at_243 rfl rfl rfl ?_
            refine w_iload C (q := 247) at_245 rfl rfl ?_
            refine w_iaload C (q := 248) A_a2 (.int p3) (by decide) rfl at_247 rfl ?_
            refine w_iastore C (q := 249) A_b6 (by decide) (Nat.le_of_ble_eq_true rfl) at_248 rfl g_b6 ?_
            intro h163 Wh163 A'
            replace A_b6 : Ars Z h163 b6 k_b6 .int [(.int p2), (.int p3), (.int (0 : Int32)), (.int (0 : Int32))] := A'
            skip
            replace A_a1 := A_a1.other Wh163 (Nat.ne_of_lt lt_a1_b6)
            replace A_a2 := A_a2.other Wh163 (Nat.ne_of_lt lt_a2_b6)
            replace E_s1 := E_s1.wr Wh163
            replace A_b5 := A_b5.other Wh163 (Nat.ne_of_lt lt_b5_b6)
            replace Z0 := Nat.le_trans Z0 (Nat.le_of_eq (Wr.size Wh163).symm)
            refine w_aload C (q := 251) at_249 rfl rfl rfl ?_
            refine w_iconst C (q := 252) (2 : Int32) at_251 rfl (by decide) ?_
            refine w_iload C (q := 254) at_252 rfl rfl ?_
            refine w_iastore C (q := 255) A_b6 (by decide) (Nat.le_of_ble_eq_true rfl) at_254 rfl g_b6 ?_
            intro h164 Wh164 A'
            replace A_b6 : Ars Z h164 b6 k_b6 .int [(.int p2), (.int p3), (.int p5), (.int (0 : Int32))] := A'
            skip
            replace A_a1 := A_a1.other Wh164 (Nat.ne_of_lt lt_a1_b6)
            replace A_a2 := A_a2.other Wh164 (Nat.ne_of_lt lt_a2_b6)
            replace E_s1 := E_s1.wr Wh164
            replace A_b5 := A_b5.other Wh164 (Nat.ne_of_lt lt_b5_b6)
            replace Z0 := Nat.le_trans Z0 (Nat.le_of_eq (Wr.size Wh164).symm)
            refine w_goto C (q := 294) at_255 (by decide) (by decide) ?_
            refine w_aload C (q := 296) at_294 rfl rfl rfl ?_
            refine w_ifnullNo C (q := 299) at_296 rfl ?_
            refine w_aload C (q := 301) at_299 rfl rfl rfl ?_
            refine w_arraylength C (q := 302) A_b5 (3 : Int32) rfl at_301 rfl ?_
            refine w_iload C (q := 304) at_302 rfl rfl ?_
            refine w_iceq_t C (q := 309) at_304 (by decide) (by decide) (by decide) ?_
            refine w_aload C (q := 311) at_309 rfl rfl rfl ?_
            refine w_iconst C (q := 312) (0 : Int32) at_311 rfl (by decide) ?_
            refine w_iaload C (q := 313) A_b5 (.int p2) (by decide) rfl at_312 rfl ?_
            refine w_aload C (q := 315) at_313 rfl rfl rfl ?_
            refine w_iconst C (q := 316) (0 : Int32) at_315 rfl (by decide) ?_
            refine w_iaload C (q := 317) A_b6 (.int p2) (by decide) rfl at_316 rfl ?_
            refine w_icne_f C (q := 320) at_317 rfl rfl ?_
            refine w_iconst C (q := 321) (1 : Int32) at_320 rfl (by decide) ?_
            refine w_goto C (q := 325) at_321 (by decide) (by decide) ?_
            refine w_istore C (q := 327) #[.val (.int p1), .val (.int p2), .val (.int p3), .val (.int p4), .val (.int p5), .val (.int p6), .val (.int (-1 : Int32)), .val (.int (1 : Int32)), .val (.int (2 : Int32)), .val (.int (3 : Int32)), .val (.ref a1), .val (.ref a2), .val (.ref s1), .val (.ref b5), .val (.int (3 : Int32)), .val (.ref b6), .val (.int (1 : Int32)), .val (.int (1 : Int32))] at_325 rfl rfl ?_
            refine w_iload C (q := 329) at_327 rfl rfl ?_
            refine w_iconst C (q := 330) (1 : Int32) at_329 rfl (by decide) ?_
            refine w_icle_f C (q := 333) at_330 rfl (by decide) ?_
            refine w_iload C (q := 335) at_333 rfl rfl ?_
            refine w_ifeq_f C (q := 338) at_335 rfl (by decide) ?_
            refine w_aload C (q := 340) at_338 rfl rfl rfl ?_
            refine w_iconst C (q := 341) (1 : Int32) at_340 rfl (by decide) ?_
            refine w_iaload C (q := 342) A_b5 (.int p3) (by decide) rfl at_341 rfl ?_
            refine w_aload C (q := 344) at_342 rfl rfl rfl ?_
            refine w_iconst C (q := 345) (1 : Int32) at_344 rfl (by decide) ?_
            refine w_iaload C (q := 346) A_b6 (.int p3) (by decide) rfl at_345 rfl ?_
            refine w_icne_f C (q := 349) at_346 rfl rfl ?_
            refine w_iconst C (q := 350) (1 : Int32) at_349 rfl (by decide) ?_
            refine w_goto C (q := 354) at_350 (by decide) (by decide) ?_
            refine w_istore C (q := 356) #[.val (.int p1), .val (.int p2), .val (.int p3), .val (.int p4), .val (.int p5), .val (.int p6), .val (.int (-1 : Int32)), .val (.int (1 : Int32)), .val (.int (2 : Int32)), .val (.int (3 : Int32)), .val (.ref a1), .val (.ref a2), .val (.ref s1), .val (.ref b5), .val (.int (3 : Int32)), .val (.ref b6), .val (.int (1 : Int32)), .val (.int (1 : Int32))] at_354 rfl rfl ?_
            refine w_iload C (q := 358) at_356 rfl rfl ?_
            refine w_iconst C (q := 359) (2 : Int32) at_358 rfl (by decide) ?_
            refine w_icle_f C (q := 362) at_359 rfl (by decide) ?_
            refine w_iload C (q := 364) at_362 rfl rfl ?_
            refine w_ifeq_f C (q := 367) at_364 rfl (by decide) ?_
            refine w_aload C (q := 369) at_367 rfl rfl rfl ?_
            refine w_iconst C (q := 370) (2 : Int32) at_369 rfl (by decide) ?_
            refine w_iaload C (q := 371) A_b5 (.int p5) (by decide) rfl at_370 rfl ?_
            refine w_aload C (q := 373) at_371 rfl rfl rfl ?_
            refine w_iconst C (q := 374) (2 : Int32) at_373 rfl (by decide) ?_
            refine w_iaload C (q := 375) A_b6 (.int p5) (by decide) rfl at_374 rfl ?_
            refine w_icne_f C (q := 378) at_375 rfl rfl ?_
            refine w_iconst C (q := 379) (1 : Int32) at_378 rfl (by decide) ?_
            refine w_goto C (q := 383) at_379 (by decide) (by decide) ?_
            refine w_istore C (q := 385) #[.val (.int p1), .val (.int p2), .val (.int p3), .val (.int p4), .val (.int p5), .val (.int p6), .val (.int (-1 : Int32)), .val (.int (1 : Int32)), .val (.int (2 : Int32)), .val (.int (3 : Int32)), .val (.ref a1), .val (.ref a2), .val (.ref s1), .val (.ref b5), .val (.int (3 : Int32)), .val (.ref b6), .val (.int (1 : Int32)), .val (.int (1 : Int32))] at_383 rfl rfl ?_
            refine w_iload C (q := 387) at_385 rfl rfl ?_
            refine w_iconst C (q := 388) (3 : Int32) at_387 rfl (by decide) ?_
            refine w_icle_t C (q := 414) at_388 (by decide) (by decide) (by decide) ?_
            refine w_iload C (q := 416) at_414 rfl rfl ?_
            exact w_retN C at_416 (by decide) (by decide) rfl
  refine w_iload C (q := 2) at_0 rfl rfl ?_
  refine w_iconst C (q := 3) (5 : Int32) at_2 rfl (by decide) ?_
  refine w_iushr C (q := 4) at_3 rfl ?_
  refine w_iconst C (q := 5) (1 : Int32) at_4 rfl (by decide) ?_
  refine w_iand C (q := 6) at_5 rfl ?_
  refine w_ifne C (q := 13) (q' := 9) at_6 (by decide) (by decide) rfl (fun hc6 => ?_) (fun hc6 => ?_)
  · refine w_iconst C (q := 14) (-1 : Int32) at_13 rfl (by decide) ?_
    refine w_istore C (q := 16) #[.val (.int p1), .val (.int p2), .val (.int p3), .val (.int p4), .val (.int p5), .val (.int p6), .val (.int (-1 : Int32)), .unset, .unset, .unset, .unset, .unset, .unset, .unset, .unset, .unset, .unset, .unset] at_14 rfl rfl ?_
    refine w_iload C (q := 18) at_16 rfl rfl ?_
    refine w_iconst C (q := 19) (1 : Int32) at_18 rfl (by decide) ?_
    refine w_iand C (q := 20) at_19 rfl ?_
    refine w_istore C (q := 22) #[.val (.int p1), .val (.int p2), .val (.int p3), .val (.int p4), .val (.int p5), .val (.int p6), .val (.int (-1 : Int32)), .val (.int (p6 &&& (1 : Int32))), .unset, .unset, .unset, .unset, .unset, .unset, .unset, .unset, .unset, .unset] at_20 rfl rfl ?_
    refine w_iload C (q := 24) at_22 rfl rfl ?_
    refine w_iconst C (q := 25) (1 : Int32) at_24 rfl (by decide) ?_
    refine w_iushr C (q := 26) at_25 rfl ?_
    refine w_iconst C (q := 27) (3 : Int32) at_26 rfl (by decide) ?_
    refine w_iand C (q := 28) at_27 rfl ?_
    refine w_iconst C (q := 29) (3 : Int32) at_28 rfl (by decide) ?_
    refine w_irem C (q := 30) at_29 rfl (by decide) ?_
    refine w_istore C (q := 32) #[.val (.int p1), .val (.int p2), .val (.int p3), .val (.int p4), .val (.int p5), .val (.int p6), .val (.int (-1 : Int32)), .val (.int (p6 &&& (1 : Int32))), .val (.int (((XT.ushr p6 (1 : Int32)) &&& (3 : Int32)) - (((XT.ushr p6 (1 : Int32)) &&& (3 : Int32)) / (3 : Int32)) * (3 : Int32))), .unset, .unset, .unset, .unset, .unset, .unset, .unset, .unset, .unset] at_30 rfl rfl ?_
    refine w_iload C (q := 34) at_32 rfl rfl ?_
    refine w_iconst C (q := 35) (3 : Int32) at_34 rfl (by decide) ?_
    refine w_iushr C (q := 36) at_35 rfl ?_
    refine w_iconst C (q := 37) (3 : Int32) at_36 rfl (by decide) ?_
    refine w_iand C (q := 38) at_37 rfl ?_
    refine w_istore C (q := 40) #[.val (.int p1), .val (.int p2), .val (.int p3), .val (.int p4), .val (.int p5), .val (.int p6), .val (.int (-1 : Int32)), .val (.int (p6 &&& (1 : Int32))), .val (.int (((XT.ushr p6 (1 : Int32)) &&& (3 : Int32)) - (((XT.ushr p6 (1 : Int32)) &&& (3 : Int32)) / (3 : Int32)) * (3 : Int32))), .val (.int ((XT.ushr p6 (3 : Int32)) &&& (3 : Int32))), .unset, .unset, .unset, .unset, .unset, .unset, .unset, .unset] at_38 rfl rfl ?_
    exact jn _ _ _ _ (Or.inr rfl) (own_and1 _) (own_rem _) (own_and3 _)
  · refine w_iconst C (q := 10) (0 : Int32) at_9 rfl (by decide) ?_
    refine w_goto C (q := 14) at_10 (by decide) (by decide) ?_
    refine w_istore C (q := 16) #[.val (.int p1), .val (.int p2), .val (.int p3), .val (.int p4), .val (.int p5), .val (.int p6), .val (.int (0 : Int32)), .unset, .unset, .unset, .unset, .unset, .unset, .unset, .unset, .unset, .unset, .unset] at_14 rfl rfl ?_
    refine w_iload C (q := 18) at_16 rfl rfl ?_
    refine w_iconst C (q := 19) (1 : Int32) at_18 rfl (by decide) ?_
    refine w_iand C (q := 20) at_19 rfl ?_
    refine w_istore C (q := 22) #[.val (.int p1), .val (.int p2), .val (.int p3), .val (.int p4), .val (.int p5), .val (.int p6), .val (.int (0 : Int32)), .val (.int (p6 &&& (1 : Int32))), .unset, .unset, .unset, .unset, .unset, .unset, .unset, .unset, .unset, .unset] at_20 rfl rfl ?_
    refine w_iload C (q := 24) at_22 rfl rfl ?_
    refine w_iconst C (q := 25) (1 : Int32) at_24 rfl (by decide) ?_
    refine w_iushr C (q := 26) at_25 rfl ?_
    refine w_iconst C (q := 27) (3 : Int32) at_26 rfl (by decide) ?_
    refine w_iand C (q := 28) at_27 rfl ?_
    refine w_iconst C (q := 29) (3 : Int32) at_28 rfl (by decide) ?_
    refine w_irem C (q := 30) at_29 rfl (by decide) ?_
    refine w_istore C (q := 32) #[.val (.int p1), .val (.int p2), .val (.int p3), .val (.int p4), .val (.int p5), .val (.int p6), .val (.int (0 : Int32)), .val (.int (p6 &&& (1 : Int32))), .val (.int (((XT.ushr p6 (1 : Int32)) &&& (3 : Int32)) - (((XT.ushr p6 (1 : Int32)) &&& (3 : Int32)) / (3 : Int32)) * (3 : Int32))), .unset, .unset, .unset, .unset, .unset, .unset, .unset, .unset, .unset] at_30 rfl rfl ?_
    refine w_iload C (q := 34) at_32 rfl rfl ?_
    refine w_iconst C (q := 35) (3 : Int32) at_34 rfl (by decide) ?_
    refine w_iushr C (q := 36) at_35 rfl ?_
    refine w_iconst C (q := 37) (3 : Int32) at_36 rfl (by decide) ?_
    refine w_iand C (q := 38) at_37 rfl ?_
    refine w_istore C (q := 40) #[.val (.int p1), .val (.int p2), .val (.int p3), .val (.int p4), .val (.int p5), .val (.int p6), .val (.int (0 : Int32)), .val (.int (p6 &&& (1 : Int32))), .val (.int (((XT.ushr p6 (1 : Int32)) &&& (3 : Int32)) - (((XT.ushr p6 (1 : Int32)) &&& (3 : Int32)) / (3 : Int32)) * (3 : Int32))), .val (.int ((XT.ushr p6 (3 : Int32)) &&& (3 : Int32))), .unset, .unset, .unset, .unset, .unset, .unset, .unset, .unset] at_38 rfl rfl ?_
    exact jn _ _ _ _ (Or.inl rfl) (own_and1 _) (own_rem _) (own_and3 _)
set_option maxRecDepth 65536 in
set_option maxHeartbeats 40000000 in
theorem comes_1 {Post : Tables → Env → Array Value → State → Outcome → State → Prop} (hpost : ∀ tb e args s v u, (limb_1_1.after args s (.returned v) u = true ∧ limb_1_2.after args s (.returned v) u = true ∧ True) → FrameEnd s (.returned v) u (Jvm.fieldLocs frame_1_writes args s ++ Jvm.arrayLocs frame_1_arrays args s ++ Jvm.staticLocs frame_1_statics s) 40 320 → Post tb e args s (.returned v) u) :
    ArmFor flags0 classFile x code maxLocals ret World_1 tables_1 room_1 Calls_1 rest_1 Pre_1 Post := by
  intro l hfl _ _ p e ha hc hk s m args below hf hA hF happ hP
  obtain ⟨hcalls, hrest, hpre⟩ := hP
  obtain ⟨-, -, -, hnamed, -, -, -, hat⟩ := (Spec.applies_iff hf).mp happ
  obtain ⟨hg, hn⟩ := and_e (Cond.before_iff.mp (show (Jvm.Cond.and given_1 narrow_1).before args s = true from hpre))
  obtain ⟨g0, g1⟩ := and_e hg
  obtain ⟨w0, w1, w2, w3, w4, w5, rfl⟩ : ∃ w0 w1 w2 w3 w4 w5 : Value, args = #[w0, w1, w2, w3, w4, w5] := by
    have hs : args.size = 6 := by simpa [Cond.value, given_1] using g0
    obtain ⟨L⟩ := args
    match L, hs with
    | [w0, w1, w2, w3, w4, w5], _ => exact ⟨w0, w1, w2, w3, w4, w5, rfl⟩
  have hw := fun d (hd : d ∈ tables_1) => atoms_spec (ws := Jvm.Cond.code x code maxLocals ret :: tables_1) hat d (List.mem_cons_of_mem _ hd)
  have hfit : Fit s := fun {y c} hc i hi => by
    obtain ⟨ha, rfl⟩ := Array.getElem?_eq_some_iff.mp hc
    have q := List.all_eq_true.mp ((Array.all_eq_true_iff_forall_mem.mp hF) _ (Array.getElem_mem ha)) i (List.mem_range.mpr hi)
    simpa [Array.getElem?_eq_getElem hi] using q
  obtain ⟨t0, g2⟩ := and_e g1
  obtain ⟨p1, e0⟩ := is_v t0
  obtain rfl : w0 = (.int p1) := Option.some.inj e0
  obtain ⟨t1, g3⟩ := and_e g2
  obtain ⟨p2, e1⟩ := is_v t1
  obtain rfl : w1 = (.int p2) := Option.some.inj e1
  obtain ⟨t2, g4⟩ := and_e g3
  obtain ⟨p3, e2⟩ := is_v t2
  obtain rfl : w2 = (.int p3) := Option.some.inj e2
  obtain ⟨t3, g5⟩ := and_e g4
  obtain ⟨p4, e3⟩ := is_v t3
  obtain rfl : w3 = (.int p4) := Option.some.inj e3
  obtain ⟨t4, g6⟩ := and_e g5
  obtain ⟨p5, e4⟩ := is_v t4
  obtain rfl : w4 = (.int p5) := Option.some.inj e4
  obtain ⟨p6, e5⟩ := is_v g6
  obtain rfl : w5 = (.int p6) := Option.some.inj e5
  obtain ⟨n, o, h1, h2, h3, _, L, rfl, ⟨hQ, N⟩, hq⟩ := rm0 l s _ hw p1 p2 p3 p4 p5 p6 s.heap s.heap.size (Nat.le_refl _) tables_1 p e ha hc hk s m _ below hf ((Spec.applies_iff_loose hf).mp happ).1 ⟨rfl, State.Warmed39.refl s, rfl⟩ trivial
  cases hQ
  exact ⟨n, _, h1, h2, h3, hpost _ _ _ _ _ _ ⟨Cond.after_iff.mpr rfl, Cond.after_iff.mpr (eq_i res_at (Term.int_eval (1)) rfl), trivial⟩ ⟨hq.1, hq.2.1, (hq.2.2.sift fun y hy => Or.inr (N y hy)).mono (by decide) (by decide)⟩⟩
theorem main_1_1 : Claimed_1_1 := comes_1 fun _ _ _ _ _ _ h hF => ⟨h.1, hF⟩
theorem main_1_2 : Claimed_1_2 := comes_1 fun _ _ _ _ _ _ h hF => ⟨h.2.1, hF⟩
end Jvm.Pilot.@@N@@
namespace Jvm.Pilot.@@N@@
open Jvm Jvm.ClassFile Sem Op Lib Jvm.Free Jvm.Stand Jvm.Pilot.@@N@@.Jvm.D
/-! MADE BY PROGRAM (witnessworld.py) out of the Statement's table words and the real class files: 13 classes; the members and pool entries that the words name. The judged class is class 1, her method 1. -/
namespace start1
open Jvm.ClassFile
def u (s : String) : CpInfo := .utf8 (stringToUtf16 s)
/-- a pool by its gaps: so many unusable entries, then the entry; so many at the end -/
def gap : Nat → List CpInfo → List CpInfo
  | 0, r => r
  | n + 1, r => .unusable :: gap n r
def poolList (es : List (Nat × CpInfo)) (last : Nat) : List CpInfo := es.foldr (fun e r => gap e.1 (e.2 :: r)) (gap last [])
def pool (es : List (Nat × CpInfo)) (last : Nat) : Array CpInfo := ⟨poolList es last⟩
def fileOf (pool : Array CpInfo) (this : Nat) (attrs : Array Attribute := #[]) (ms : Array MethodInfo := #[]) (fl : Nat := 33) (sup : Nat := 0) (ifs : Array Nat := #[]) (fds : Array FieldInfo := #[]) : ClassFile where
  minorVersion := 0
  majorVersion := 65
  constantPool := pool
  accessFlags := fl
  thisClass := this
  superClass := sup
  interfaces := ifs
  fields := fds
  methods := ms
  attributes := attrs
def plain (name : String) (sup : Option ClassId) : Class where
  name := name
  kind := .ordinary
  loader := none
  accessFlags := 33
  super := sup
  interfaces := #[]
  cf := none
  fields := #[]
  methods := #[]
  instanceTypes := #[]
  staticTypes := #[]
  resolved := #[]
  callSites := []
  init := .initialized
  statics := none
  mirror := none

def pool0 : Array CpInfo := pool [(5, u "<init>"), (0, u "()V"), (1, .class_ 10), (1, u "java/lang/Object")] 113

def k0c0 : Code := { maxStack := 0, maxLocals := 1, code := object_method_1_code, exceptionTable := #[], attributes := #[] }
def k0m0 : Method := { name := "<init>", desc := "()V", sig := { parameters := [], returnType := none }, accessFlags := 1, code := some k0c0 }
/-- java/lang/Object -/
def k0 : Class := { plain "java/lang/Object" none with
  accessFlags := 33
  interfaces := #[]
  cf := some (fileOf pool0 8 #[] #[{ accessFlags := 1, nameIndex := 5, descriptorIndex := 6, attributes := #[] }] 33 0 #[] #[])
  fields := #[]
  methods := #[k0m0]
  instanceTypes := #[]
  staticTypes := #[]
  resolved := Array.replicate 124 none
  statics := none }

def pool1 : Array CpInfo := pool [(2, .class_ 4), (0, .nameAndType 5 6), (0, u "java/lang/Object"), (0, u "<init>"), (0, u "()V"), (0, .class_ 8), (0, u "com/example/logic_to_machines/logictomachines/PairSearch"), (0, .methodref 7 3), (0, .methodref 7 11), (0, .nameAndType 12 13), (0, u "add"), (0, u "(IIII)V"), (0, .methodref 7 15), (0, .nameAndType 16 17), (0, u "wordTo"), (0, u "(II)[I"), (0, .class_ 19), (0, u "com/example/logic_to_machines/logictomachines/PairSearchWordToPinLaw"), (2, u "law"), (0, u "(IIIIII)Z")] 5

def k1m0 : Method := { name := "<init>", desc := "()V", sig := { parameters := [], returnType := none }, accessFlags := 1, code := none }
def k1c1 : Code := { maxStack := 5, maxLocals := 18, code := code, exceptionTable := #[], attributes := #[] }
def k1m1 : Method := { name := "law", desc := "(IIIIII)Z", sig := { parameters := [.int, .int, .int, .int, .int, .int], returnType := some .boolean }, accessFlags := 9, code := some k1c1 }
/-- com/example/logic_to_machines/logictomachines/PairSearchWordToPinLaw -/
def k1 : Class := { plain "com/example/logic_to_machines/logictomachines/PairSearchWordToPinLaw" (some 0) with
  accessFlags := 49
  interfaces := #[]
  cf := some (fileOf pool1 18 #[] #[{ accessFlags := 1, nameIndex := 5, descriptorIndex := 6, attributes := #[] }, { accessFlags := 9, nameIndex := 22, descriptorIndex := 23, attributes := #[] }] 49 2 #[] #[])
  fields := #[]
  methods := #[k1m0, k1m1]
  instanceTypes := #[]
  staticTypes := #[]
  resolved := Array.replicate 29 none
  statics := none }

def pool2 : Array CpInfo := pool [(1, .methodref 2 3), (0, .class_ 4), (0, .nameAndType 5 6), (0, u "java/lang/Object"), (0, u "<init>"), (0, u "()V"), (0, .methodref 8 9), (0, .class_ 10), (0, .nameAndType 11 12), (0, u "com/example/logic_to_machines/logictomachines/PairSearch"), (0, u "freeSlots"), (0, u "(I)[J"), (0, .fieldref 8 14), (0, .nameAndType 15 16), (0, u "met"), (0, u "[J"), (0, .class_ 18), (0, u "com/example/logic_to_machines/logictomachines/IntList"), (0, .methodref 17 3), (0, .fieldref 8 21), (0, .nameAndType 22 23), (0, u "firsts"), (0, u "Lcom/example/logic_to_machines/logictomachines/IntList;"), (0, .fieldref 8 25), (0, .nameAndType 26 23), (0, u "seconds"), (0, .fieldref 8 28), (0, .nameAndType 29 23), (0, u "parents"), (0, .fieldref 8 31), (0, .nameAndType 32 23), (0, u "inputs"), (0, .methodref 8 34), (0, .nameAndType 35 36), (0, u "key"), (0, u "(II)J"), (0, .methodref 8 38), (0, .nameAndType 39 40), (0, u "insert"), (0, u "([JJ)Z"), (0, .methodref 17 42), (0, .nameAndType 43 44), (0, u "add"), (0, u "(I)V"), (0, .methodref 8 46), (0, .nameAndType 47 48), (0, u "count"), (0, u "()I"), (4, .methodref 17 54), (0, .nameAndType 55 48), (0, u "size"), (0, .methodref 17 57), (0, .nameAndType 58 59), (0, u "get"), (0, u "(I)I"), (0, .long 11400714819323198485), (1, .long 18446744073709551615), (1, .methodref 65 66), (0, .class_ 67), (0, .nameAndType 68 69), (0, u "java/util/Arrays"), (0, u "fill"), (0, u "([JJ)V"), (0, u "FREE"), (0, u "J"), (3, u "(IIII)V"), (3, u "wordTo"), (0, u "(II)[I")] 5

def k2c0 : Code := { maxStack := 3, maxLocals := 1, code := prog_32_method_1_code, exceptionTable := #[], attributes := #[] }
def k2m0 : Method := { name := "<init>", desc := "()V", sig := { parameters := [], returnType := none }, accessFlags := 0, code := some k2c0 }
def k2c1 : Code := { maxStack := 3, maxLocals := 5, code := prog_32_method_2_code, exceptionTable := #[], attributes := #[] }
def k2m1 : Method := { name := "add", desc := "(IIII)V", sig := { parameters := [.int, .int, .int, .int], returnType := none }, accessFlags := 0, code := some k2c1 }
def k2c2 : Code := { maxStack := 1, maxLocals := 1, code := prog_32_method_3_code, exceptionTable := #[], attributes := #[] }
def k2m2 : Method := { name := "count", desc := "()I", sig := { parameters := [], returnType := some .int }, accessFlags := 0, code := some k2c2 }
def k2c3 : Code := { maxStack := 4, maxLocals := 7, code := prog_32_method_6_code, exceptionTable := #[], attributes := #[] }
def k2m3 : Method := { name := "wordTo", desc := "(II)[I", sig := { parameters := [.int, .int], returnType := some (.array .int) }, accessFlags := 0, code := some k2c3 }
def k2c4 : Code := { maxStack := 4, maxLocals := 2, code := prog_32_method_7_code, exceptionTable := #[], attributes := #[] }
def k2m4 : Method := { name := "key", desc := "(II)J", sig := { parameters := [.int, .int], returnType := some .long }, accessFlags := 10, code := some k2c4 }
def k2c5 : Code := { maxStack := 4, maxLocals := 7, code := prog_32_method_8_code, exceptionTable := #[], attributes := #[] }
def k2m5 : Method := { name := "insert", desc := "([JJ)Z", sig := { parameters := [(.array .long), .long], returnType := some .boolean }, accessFlags := 10, code := some k2c5 }
def k2c6 : Code := { maxStack := 3, maxLocals := 2, code := prog_32_method_10_code, exceptionTable := #[], attributes := #[] }
def k2m6 : Method := { name := "freeSlots", desc := "(I)[J", sig := { parameters := [.int], returnType := some (.array .long) }, accessFlags := 10, code := some k2c6 }
/-- com/example/logic_to_machines/logictomachines/PairSearch -/
def k2 : Class := { plain "com/example/logic_to_machines/logictomachines/PairSearch" (some 0) with
  accessFlags := 32
  interfaces := #[]
  cf := some (fileOf pool2 8 #[] #[{ accessFlags := 0, nameIndex := 5, descriptorIndex := 6, attributes := #[] }, { accessFlags := 0, nameIndex := 43, descriptorIndex := 75, attributes := #[] }, { accessFlags := 0, nameIndex := 47, descriptorIndex := 48, attributes := #[] }, { accessFlags := 0, nameIndex := 79, descriptorIndex := 80, attributes := #[] }, { accessFlags := 10, nameIndex := 35, descriptorIndex := 36, attributes := #[] }, { accessFlags := 10, nameIndex := 39, descriptorIndex := 40, attributes := #[] }, { accessFlags := 10, nameIndex := 11, descriptorIndex := 12, attributes := #[] }] 32 2 #[] #[{ accessFlags := 26, nameIndex := 70, descriptorIndex := 71, attributes := #[] }, { accessFlags := 2, nameIndex := 15, descriptorIndex := 16, attributes := #[] }, { accessFlags := 18, nameIndex := 22, descriptorIndex := 23, attributes := #[] }, { accessFlags := 18, nameIndex := 26, descriptorIndex := 23, attributes := #[] }, { accessFlags := 18, nameIndex := 29, descriptorIndex := 23, attributes := #[] }, { accessFlags := 18, nameIndex := 32, descriptorIndex := 23, attributes := #[] }])
  fields := #[{ name := "FREE", type := .long, accessFlags := 26, slot := 0, constantValue := 0 }, { name := "met", type := (.array .long), accessFlags := 2, slot := 0, constantValue := 0 }, { name := "firsts", type := (.object "com/example/logic_to_machines/logictomachines/IntList"), accessFlags := 18, slot := 1, constantValue := 0 }, { name := "seconds", type := (.object "com/example/logic_to_machines/logictomachines/IntList"), accessFlags := 18, slot := 2, constantValue := 0 }, { name := "parents", type := (.object "com/example/logic_to_machines/logictomachines/IntList"), accessFlags := 18, slot := 3, constantValue := 0 }, { name := "inputs", type := (.object "com/example/logic_to_machines/logictomachines/IntList"), accessFlags := 18, slot := 4, constantValue := 0 }]
  methods := #[k2m0, k2m1, k2m2, k2m3, k2m4, k2m5, k2m6]
  instanceTypes := #[(.array .long), (.object "com/example/logic_to_machines/logictomachines/IntList"), (.object "com/example/logic_to_machines/logictomachines/IntList"), (.object "com/example/logic_to_machines/logictomachines/IntList"), (.object "com/example/logic_to_machines/logictomachines/IntList")]
  staticTypes := #[.long]
  resolved := Array.replicate 86 none
  statics := none }

def pool3 : Array CpInfo := pool [(2, .class_ 4), (1, u "java/lang/Object"), (0, u "<init>"), (0, u "()V"), (7, .class_ 16), (1, u "java/util/Arrays"), (57, .class_ 76), (1, u "java/util/Arrays$NaturalOrder"), (36, .class_ 115), (1, u "java/util/Arrays$LegacyMergeSort"), (1, u "Z"), (257, .class_ 376), (0, u "java/util/Arrays$ArrayList"), (68, u "$assertionsDisabled"), (269, u "MIN_ARRAY_SORT_GRAN"), (0, u "I"), (2, u "INSERTIONSORT_THRESHOLD"), (120, u "fill"), (0, u "([JJ)V"), (133, .class_ 976), (0, u "java/util/Arrays$ArrayItr")] 52

def k3m0 : Method := { name := "<init>", desc := "()V", sig := { parameters := [], returnType := none }, accessFlags := 2, code := none }
def k3c1 : Code := { maxStack := 4, maxLocals := 5, code := jdk_65_method_101_code, exceptionTable := #[], attributes := #[] }
def k3m1 : Method := { name := "fill", desc := "([JJ)V", sig := { parameters := [(.array .long), .long], returnType := none }, accessFlags := 9, code := some k3c1 }
/-- java/util/Arrays -/
def k3 : Class := { plain "java/util/Arrays" (some 0) with
  accessFlags := 49
  interfaces := #[]
  cf := some (fileOf pool3 14 #[.nestMembers #[975, 375, 113, 74]] #[{ accessFlags := 2, nameIndex := 5, descriptorIndex := 6, attributes := #[] }, { accessFlags := 9, nameIndex := 840, descriptorIndex := 841, attributes := #[] }] 49 2 #[] #[{ accessFlags := 26, nameIndex := 715, descriptorIndex := 716, attributes := #[] }, { accessFlags := 26, nameIndex := 719, descriptorIndex := 716, attributes := #[] }, { accessFlags := 4120, nameIndex := 445, descriptorIndex := 117, attributes := #[] }])
  fields := #[{ name := "MIN_ARRAY_SORT_GRAN", type := .int, accessFlags := 26, slot := 0, constantValue := 0 }, { name := "INSERTIONSORT_THRESHOLD", type := .int, accessFlags := 26, slot := 1, constantValue := 0 }, { name := "$assertionsDisabled", type := .boolean, accessFlags := 4120, slot := 2, constantValue := 0 }]
  methods := #[k3m0, k3m1]
  instanceTypes := #[]
  staticTypes := #[.int, .int, .boolean]
  resolved := Array.replicate 1029 none
  statics := none }

def pool4 : Array CpInfo := pool [(1, .methodref 2 3), (0, .class_ 4), (0, .nameAndType 5 6), (0, u "java/lang/Object"), (0, u "<init>"), (0, u "()V"), (0, .fieldref 8 9), (0, .class_ 10), (0, .nameAndType 11 12), (0, u "com/example/logic_to_machines/logictomachines/IntList"), (0, u "values"), (0, u "[I"), (0, .fieldref 8 14), (0, .nameAndType 15 16), (0, u "size"), (0, u "I"), (8, u "add"), (0, u "(I)V"), (1, u "get"), (0, u "(I)I"), (0, u "()I")] 4

def k4c0 : Code := { maxStack := 2, maxLocals := 1, code := prog_20_method_1_code, exceptionTable := #[], attributes := #[] }
def k4m0 : Method := { name := "<init>", desc := "()V", sig := { parameters := [], returnType := none }, accessFlags := 0, code := some k4c0 }
def k4c1 : Code := { maxStack := 4, maxLocals := 2, code := prog_20_method_2_code, exceptionTable := #[], attributes := #[] }
def k4m1 : Method := { name := "add", desc := "(I)V", sig := { parameters := [.int], returnType := none }, accessFlags := 0, code := some k4c1 }
def k4c2 : Code := { maxStack := 2, maxLocals := 2, code := prog_20_method_3_code, exceptionTable := #[], attributes := #[] }
def k4m2 : Method := { name := "get", desc := "(I)I", sig := { parameters := [.int], returnType := some .int }, accessFlags := 0, code := some k4c2 }
def k4c3 : Code := { maxStack := 1, maxLocals := 1, code := prog_20_method_4_code, exceptionTable := #[], attributes := #[] }
def k4m3 : Method := { name := "size", desc := "()I", sig := { parameters := [], returnType := some .int }, accessFlags := 0, code := some k4c3 }
/-- com/example/logic_to_machines/logictomachines/IntList -/
def k4 : Class := { plain "com/example/logic_to_machines/logictomachines/IntList" (some 0) with
  accessFlags := 32
  interfaces := #[]
  cf := some (fileOf pool4 8 #[] #[{ accessFlags := 0, nameIndex := 5, descriptorIndex := 6, attributes := #[] }, { accessFlags := 0, nameIndex := 25, descriptorIndex := 26, attributes := #[] }, { accessFlags := 0, nameIndex := 28, descriptorIndex := 29, attributes := #[] }, { accessFlags := 0, nameIndex := 15, descriptorIndex := 30, attributes := #[] }] 32 2 #[] #[{ accessFlags := 2, nameIndex := 11, descriptorIndex := 12, attributes := #[] }, { accessFlags := 2, nameIndex := 15, descriptorIndex := 16, attributes := #[] }])
  fields := #[{ name := "values", type := (.array .int), accessFlags := 2, slot := 0, constantValue := 0 }, { name := "size", type := .int, accessFlags := 2, slot := 1, constantValue := 0 }]
  methods := #[k4m0, k4m1, k4m2, k4m3]
  instanceTypes := #[(.array .int), .int]
  staticTypes := #[]
  resolved := Array.replicate 35 none
  statics := none }

def pool5 : Array CpInfo := pool [(1, u "java/lang/Cloneable"), (0, .class_ 1), (0, u "java/lang/Object"), (0, .class_ 3)] 3

/-- java/lang/Cloneable -/
def k5 : Class := { plain "java/lang/Cloneable" (some 0) with
  accessFlags := 1537
  interfaces := #[]
  cf := some (fileOf pool5 2 #[] #[] 1537 4 #[] #[])
  fields := #[]
  methods := #[]
  instanceTypes := #[]
  staticTypes := #[]
  resolved := Array.replicate 8 none
  statics := none }

def pool6 : Array CpInfo := pool [(1, u "java/io/Serializable"), (0, .class_ 1), (0, u "java/lang/Object"), (0, .class_ 3)] 3

/-- java/io/Serializable -/
def k6 : Class := { plain "java/io/Serializable" (some 0) with
  accessFlags := 1537
  interfaces := #[]
  cf := some (fileOf pool6 2 #[] #[] 1537 4 #[] #[])
  fields := #[]
  methods := #[]
  instanceTypes := #[]
  staticTypes := #[]
  resolved := Array.replicate 8 none
  statics := none }

/-- the primitive byte -/
def k7 : Class := { plain "byte" none with kind := .primitive 'B', accessFlags := 0x411 }
/-- [B -/
def k8 : Class := { plain "[B" (some 0) with kind := .array 7 .byte, interfaces := #[5, 6], accessFlags := 1041 }

/-- the primitive int -/
def k9 : Class := { plain "int" none with kind := .primitive 'I', accessFlags := 0x411 }
/-- [I -/
def k10 : Class := { plain "[I" (some 0) with kind := .array 9 .int, interfaces := #[5, 6], accessFlags := 1041 }

/-- the primitive long -/
def k11 : Class := { plain "long" none with kind := .primitive 'J', accessFlags := 0x411 }
/-- [J -/
def k12 : Class := { plain "[J" (some 0) with kind := .array 11 .long, interfaces := #[5, 6], accessFlags := 1041 }

def heap : Heap := #[]
def classes : Array Class := #[k0, k1, k2, k3, k4, k5, k6, k7, k8, k9, k10, k11, k12]
def interned : List (Array UInt16 × Addr) := []
def slotsUsed : Nat := 0
def theMethod : MethodId := ⟨1, 1⟩
def args0 : Array Value := #[.int 5, .int 7, .int 9, .int 11, .int 13, .int 63]
def aboutOver (below : List Frame) : State where
  vm := { classes := classes, interned := interned.toArray }
  heap := heap
  slotsUsed := slotsUsed
  threads := #[{ frames := .invoking theMethod args0 :: below }]
def below0 : List Frame := [.native { method := ⟨0, 0⟩, args := #[] }]
def about1 : State := aboutOver below0
def p0 : Program := .bare "" "" ""
def e0 : Env := launch0.env 0 0 0
theorem w_frames : about1.frames = Frame.invoking theMethod args0 :: below0 := rfl
set_option maxRecDepth 65536 in
theorem w_args : argsFit about1.vm theMethod args0 = true := by decide +kernel
set_option maxRecDepth 65536 in
theorem w_heap : heapFits about1 = true := by decide +kernel
set_option maxRecDepth 65536 in
theorem w_runnable : about1.curStatus? = some .runnable := by decide +kernel
set_option maxRecDepth 65536 in
theorem w_alone : about1.alone = true := by decide +kernel
set_option maxRecDepth 65536 in
theorem w_named : about1.methodNamed? x = some theMethod := by decide +kernel
set_option maxRecDepth 65536 in
theorem w_hears : about1.hears theMethod below0 = true := by decide +kernel
set_option maxRecDepth 65536 in
theorem w_ripe : about1.ripe theMethod args0 below0 = true := by decide +kernel
theorem w_running : about1.status = .running := rfl
set_option maxRecDepth 65536 in
theorem w_room : about1.hasRoom e0.platform room_1 = true :=
  launch0.hasRoom_least _ room_1 (by decide +kernel) (by decide +kernel) (by decide +kernel) (by decide +kernel) (by decide +kernel) (by decide +kernel)
theorem allAtoms_all (ts : List Jvm.Cond) (a : Array Jvm.Value) (st : Jvm.State) : (allAtoms ts).before a st = ts.all (fun c => c.before a st) := by
  induction ts with
  | nil => rfl
  | cons c t ih =>
    show (Jvm.Cond.and c (allAtoms t)).before a st = _
    rw [Jvm.Cond.before_and, ih, List.all_cons]
def words1 : List Jvm.Cond := Jvm.Cond.code x code maxLocals ret :: tables_1
/-- a 'code' word, met by the world's own term for the bytes: nothing is compared byte by byte -/
theorem code_word {y : MethodName} {bytes : ByteArray} {mx : Nat} {rt : Option FieldType} {a : Array Value} {s : State} {m : MethodId} {meth : Method} {c : Code} (h1 : s.methodNamed? y = some m) (h2 : s.vm.method? m = some meth) (h3 : meth.code = some c) (h4 : c.code = bytes)
    (h5 : (c.maxLocals == mx && c.exceptionTable.isEmpty && decide (c.maxStack ≤ mostOperands) && decide (meth.sig.returnType = rt) && !meth.locks && decide (parseMethodDescriptor y.desc = some meth.sig)) = true) : (Jvm.Cond.code y bytes mx rt).before a s = true := by
  simp only [Bool.and_eq_true, beq_iff_eq, Bool.not_eq_true', decide_eq_true_eq] at h5
  obtain ⟨⟨⟨⟨⟨g1, g2⟩, g3⟩, g4⟩, g5⟩, g6⟩ := h5
  simp [Cond.before, Cond.holds, Cond.value, h1, h2, h3, h4, g1, g2, g3, g4, g5, g6]
def isCode : Jvm.Cond → Bool
  | .code _ _ _ _ => true
  | _ => false
theorem all_split {L : List Jvm.Cond} {P : Jvm.Cond → Bool} (h1 : L.all (fun c => isCode c || P c) = true) (h2 : ∀ c ∈ L.filter isCode, P c = true) : L.all P = true := by
  refine List.all_eq_true.mpr fun c hc => ?_
  have h := List.all_eq_true.mp h1 c hc
  rcases Bool.eq_false_or_eq_true (isCode c) with hi | hi
  · exact h2 c (List.mem_filter.mpr ⟨hc, hi⟩)
  · simpa [hi] using h
set_option maxRecDepth 65536 in
theorem w_c0 : (Jvm.Cond.code x code maxLocals ret).before args0 about1 = true := code_word (m := ⟨1, 1⟩) (meth := k1m1) (c := k1c1) (by decide +kernel) rfl rfl rfl (by decide +kernel)
set_option maxRecDepth 65536 in
theorem w_c1 : (Jvm.Cond.code ({ cls := "com/example/logic_to_machines/logictomachines/PairSearch", name := "<init>", desc := "()V" } : Jvm.MethodName) prog_32_method_1_code (1 : Nat) (Option.none : Option Jvm.ClassFile.FieldType)).before args0 about1 = true := code_word (m := ⟨2, 0⟩) (meth := k2m0) (c := k2c0) (by decide +kernel) rfl rfl rfl (by decide +kernel)
set_option maxRecDepth 65536 in
theorem w_c2 : (Jvm.Cond.code ({ cls := "java/lang/Object", name := "<init>", desc := "()V" } : Jvm.MethodName) object_method_1_code (1 : Nat) (Option.none : Option Jvm.ClassFile.FieldType)).before args0 about1 = true := code_word (m := ⟨0, 0⟩) (meth := k0m0) (c := k0c0) (by decide +kernel) rfl rfl rfl (by decide +kernel)
set_option maxRecDepth 65536 in
theorem w_c3 : (Jvm.Cond.code ({ cls := "com/example/logic_to_machines/logictomachines/PairSearch", name := "freeSlots", desc := "(I)[J" } : Jvm.MethodName) prog_32_method_10_code (2 : Nat) (Option.some (Jvm.ClassFile.FieldType.array Jvm.ClassFile.FieldType.long))).before args0 about1 = true := code_word (m := ⟨2, 6⟩) (meth := k2m6) (c := k2c6) (by decide +kernel) rfl rfl rfl (by decide +kernel)
set_option maxRecDepth 65536 in
theorem w_c4 : (Jvm.Cond.code ({ cls := "java/util/Arrays", name := "fill", desc := "([JJ)V" } : Jvm.MethodName) jdk_65_method_101_code (5 : Nat) (Option.none : Option Jvm.ClassFile.FieldType)).before args0 about1 = true := code_word (m := ⟨3, 1⟩) (meth := k3m1) (c := k3c1) (by decide +kernel) rfl rfl rfl (by decide +kernel)
set_option maxRecDepth 65536 in
theorem w_c5 : (Jvm.Cond.code ({ cls := "com/example/logic_to_machines/logictomachines/IntList", name := "<init>", desc := "()V" } : Jvm.MethodName) prog_20_method_1_code (1 : Nat) (Option.none : Option Jvm.ClassFile.FieldType)).before args0 about1 = true := code_word (m := ⟨4, 0⟩) (meth := k4m0) (c := k4c0) (by decide +kernel) rfl rfl rfl (by decide +kernel)
set_option maxRecDepth 65536 in
theorem w_c6 : (Jvm.Cond.code ({ cls := "com/example/logic_to_machines/logictomachines/PairSearch", name := "add", desc := "(IIII)V" } : Jvm.MethodName) prog_32_method_2_code (5 : Nat) (Option.none : Option Jvm.ClassFile.FieldType)).before args0 about1 = true := code_word (m := ⟨2, 1⟩) (meth := k2m1) (c := k2c1) (by decide +kernel) rfl rfl rfl (by decide +kernel)
set_option maxRecDepth 65536 in
theorem w_c7 : (Jvm.Cond.code ({ cls := "com/example/logic_to_machines/logictomachines/PairSearch", name := "key", desc := "(II)J" } : Jvm.MethodName) prog_32_method_7_code (2 : Nat) (Option.some Jvm.ClassFile.FieldType.long)).before args0 about1 = true := code_word (m := ⟨2, 4⟩) (meth := k2m4) (c := k2c4) (by decide +kernel) rfl rfl rfl (by decide +kernel)
set_option maxRecDepth 65536 in
theorem w_c8 : (Jvm.Cond.code ({ cls := "com/example/logic_to_machines/logictomachines/PairSearch", name := "insert", desc := "([JJ)Z" } : Jvm.MethodName) prog_32_method_8_code (7 : Nat) (Option.some Jvm.ClassFile.FieldType.boolean)).before args0 about1 = true := code_word (m := ⟨2, 5⟩) (meth := k2m5) (c := k2c5) (by decide +kernel) rfl rfl rfl (by decide +kernel)
set_option maxRecDepth 65536 in
theorem w_c9 : (Jvm.Cond.code ({ cls := "com/example/logic_to_machines/logictomachines/IntList", name := "add", desc := "(I)V" } : Jvm.MethodName) prog_20_method_2_code (2 : Nat) (Option.none : Option Jvm.ClassFile.FieldType)).before args0 about1 = true := code_word (m := ⟨4, 1⟩) (meth := k4m1) (c := k4c1) (by decide +kernel) rfl rfl rfl (by decide +kernel)
set_option maxRecDepth 65536 in
theorem w_c10 : (Jvm.Cond.code ({ cls := "com/example/logic_to_machines/logictomachines/PairSearch", name := "count", desc := "()I" } : Jvm.MethodName) prog_32_method_3_code (1 : Nat) (Option.some Jvm.ClassFile.FieldType.int)).before args0 about1 = true := code_word (m := ⟨2, 2⟩) (meth := k2m2) (c := k2c2) (by decide +kernel) rfl rfl rfl (by decide +kernel)
set_option maxRecDepth 65536 in
theorem w_c11 : (Jvm.Cond.code ({ cls := "com/example/logic_to_machines/logictomachines/IntList", name := "size", desc := "()I" } : Jvm.MethodName) prog_20_method_4_code (1 : Nat) (Option.some Jvm.ClassFile.FieldType.int)).before args0 about1 = true := code_word (m := ⟨4, 3⟩) (meth := k4m3) (c := k4c3) (by decide +kernel) rfl rfl rfl (by decide +kernel)
set_option maxRecDepth 65536 in
theorem w_c12 : (Jvm.Cond.code ({ cls := "com/example/logic_to_machines/logictomachines/PairSearch", name := "wordTo", desc := "(II)[I" } : Jvm.MethodName) prog_32_method_6_code (7 : Nat) (Option.some (Jvm.ClassFile.FieldType.array Jvm.ClassFile.FieldType.int))).before args0 about1 = true := code_word (m := ⟨2, 3⟩) (meth := k2m3) (c := k2c3) (by decide +kernel) rfl rfl rfl (by decide +kernel)
set_option maxRecDepth 65536 in
theorem w_c13 : (Jvm.Cond.code ({ cls := "com/example/logic_to_machines/logictomachines/IntList", name := "get", desc := "(I)I" } : Jvm.MethodName) prog_20_method_3_code (2 : Nat) (Option.some Jvm.ClassFile.FieldType.int)).before args0 about1 = true := code_word (m := ⟨4, 2⟩) (meth := k4m2) (c := k4c2) (by decide +kernel) rfl rfl rfl (by decide +kernel)
def codes1 : List Jvm.Cond := [Jvm.Cond.code x code maxLocals ret, Jvm.Cond.code ({ cls := "com/example/logic_to_machines/logictomachines/PairSearch", name := "<init>", desc := "()V" } : Jvm.MethodName) prog_32_method_1_code (1 : Nat) (Option.none : Option Jvm.ClassFile.FieldType), Jvm.Cond.code ({ cls := "java/lang/Object", name := "<init>", desc := "()V" } : Jvm.MethodName) object_method_1_code (1 : Nat) (Option.none : Option Jvm.ClassFile.FieldType), Jvm.Cond.code ({ cls := "com/example/logic_to_machines/logictomachines/PairSearch", name := "freeSlots", desc := "(I)[J" } : Jvm.MethodName) prog_32_method_10_code (2 : Nat) (Option.some (Jvm.ClassFile.FieldType.array Jvm.ClassFile.FieldType.long)), Jvm.Cond.code ({ cls := "java/util/Arrays", name := "fill", desc := "([JJ)V" } : Jvm.MethodName) jdk_65_method_101_code (5 : Nat) (Option.none : Option Jvm.ClassFile.FieldType), Jvm.Cond.code ({ cls := "com/example/logic_to_machines/logictomachines/IntList", name := "<init>", desc := "()V" } : Jvm.MethodName) prog_20_method_1_code (1 : Nat) (Option.none : Option Jvm.ClassFile.FieldType), Jvm.Cond.code ({ cls := "com/example/logic_to_machines/logictomachines/PairSearch", name := "add", desc := "(IIII)V" } : Jvm.MethodName) prog_32_method_2_code (5 : Nat) (Option.none : Option Jvm.ClassFile.FieldType), Jvm.Cond.code ({ cls := "com/example/logic_to_machines/logictomachines/PairSearch", name := "key", desc := "(II)J" } : Jvm.MethodName) prog_32_method_7_code (2 : Nat) (Option.some Jvm.ClassFile.FieldType.long), Jvm.Cond.code ({ cls := "com/example/logic_to_machines/logictomachines/PairSearch", name := "insert", desc := "([JJ)Z" } : Jvm.MethodName) prog_32_method_8_code (7 : Nat) (Option.some Jvm.ClassFile.FieldType.boolean), Jvm.Cond.code ({ cls := "com/example/logic_to_machines/logictomachines/IntList", name := "add", desc := "(I)V" } : Jvm.MethodName) prog_20_method_2_code (2 : Nat) (Option.none : Option Jvm.ClassFile.FieldType), Jvm.Cond.code ({ cls := "com/example/logic_to_machines/logictomachines/PairSearch", name := "count", desc := "()I" } : Jvm.MethodName) prog_32_method_3_code (1 : Nat) (Option.some Jvm.ClassFile.FieldType.int), Jvm.Cond.code ({ cls := "com/example/logic_to_machines/logictomachines/IntList", name := "size", desc := "()I" } : Jvm.MethodName) prog_20_method_4_code (1 : Nat) (Option.some Jvm.ClassFile.FieldType.int), Jvm.Cond.code ({ cls := "com/example/logic_to_machines/logictomachines/PairSearch", name := "wordTo", desc := "(II)[I" } : Jvm.MethodName) prog_32_method_6_code (7 : Nat) (Option.some (Jvm.ClassFile.FieldType.array Jvm.ClassFile.FieldType.int)), Jvm.Cond.code ({ cls := "com/example/logic_to_machines/logictomachines/IntList", name := "get", desc := "(I)I" } : Jvm.MethodName) prog_20_method_3_code (2 : Nat) (Option.some Jvm.ClassFile.FieldType.int)]
set_option maxRecDepth 65536 in
theorem codes_eq : words1.filter isCode = codes1 := rfl
theorem w_codes : ∀ c ∈ words1.filter isCode, c.before args0 about1 = true := by
  rw [codes_eq]
  intro c hc
  simp only [codes1, List.mem_cons, List.not_mem_nil, or_false] at hc
  rcases hc with rfl | rfl | rfl | rfl | rfl | rfl | rfl | rfl | rfl | rfl | rfl | rfl | rfl | rfl
  · exact w_c0
  · exact w_c1
  · exact w_c2
  · exact w_c3
  · exact w_c4
  · exact w_c5
  · exact w_c6
  · exact w_c7
  · exact w_c8
  · exact w_c9
  · exact w_c10
  · exact w_c11
  · exact w_c12
  · exact w_c13
set_option maxRecDepth 65536 in
theorem w_t1 : (words1.take 24).all (fun c => isCode c || c.before args0 about1) = true := by decide +kernel
set_option maxRecDepth 65536 in
theorem w_t2 : ((words1.drop 24).take 24).all (fun c => isCode c || c.before args0 about1) = true := by decide +kernel
set_option maxRecDepth 65536 in
theorem w_t3 : (((words1.drop 24).drop 24).take 24).all (fun c => isCode c || c.before args0 about1) = true := by decide +kernel
set_option maxRecDepth 65536 in
theorem w_t4 : (((words1.drop 24).drop 24).drop 24).all (fun c => isCode c || c.before args0 about1) = true := by decide +kernel
theorem w_tables : (allAtoms (Jvm.Cond.code x code maxLocals ret :: tables_1)).before args0 about1 = true := by
  rw [allAtoms_all]
  show words1.all (fun c => c.before args0 about1) = true
  refine all_split ?_ w_codes
  rw [← List.take_append_drop 24 words1, List.all_append, w_t1, ← List.take_append_drop 24 (words1.drop 24), List.all_append, w_t2, ← List.take_append_drop 24 ((words1.drop 24).drop 24), List.all_append, w_t3, w_t4]
  rfl
set_option maxRecDepth 65536 in
theorem w_case : (Jvm.Cond.and given_1 narrow_1).before args0 about1 = true := by decide +kernel
theorem w_applies : (headSpec (Jvm.Cond.code x code maxLocals ret :: tables_1) room_1).applies x e0.platform about1 = true :=
  (Spec.applies_iff w_frames).mpr ⟨w_running, w_runnable, w_alone, w_named, w_hears, w_ripe, w_room, w_tables⟩
theorem atStart : AtStart classFile x code maxLocals ret World_1 tables_1 room_1 Calls_1 rest_1 Pre_1 launch0 p0 e0 about1 theMethod args0 below0 :=
  ⟨lists_1, trivial, launch0.admits_env _ _ _, launch0.least_env, fairChoices_fair.cas, fairChoices_fair.clock, w_frames, w_args, w_heap, w_applies, trivial, trivial, w_case⟩
end start1
theorem witness_1 : WitnessClaimed_1 := ⟨start1.p0, start1.e0, start1.about1, start1.theMethod, start1.args0, start1.below0, start1.atStart⟩
end Jvm.Pilot.@@N@@
