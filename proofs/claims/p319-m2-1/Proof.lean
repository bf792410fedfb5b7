import JvmDerived
import JvmDerived.Pilot.@@N@@Statement
import JvmDerived.Pilot.@@N@@Code
set_option linter.unusedVariables false
set_option linter.unusedSimpArgs false
namespace Jvm.Pilot.@@N@@
open Jvm Jvm.ClassFile Sem Op Lib Jvm.Free Jvm.Stand Jvm.LawKit Jvm.RoadKit Bundle Jvm.Pilot.@@N@@.Jvm.D
section Own
variable {Z : State} {own nm : String} {bytes : ByteArray} {ml : Nat} {ret : Option FieldType} {R : Room} {n0 : Nat} {Q : Option Value → Heap → Prop} {k n : Nat} {h : Heap} {pc q r : Nat} {L L' : Array Slot} {S S' : List Value} {a0 : Array Value}
/-- what a body's own record says of it -/
def oCtx (p : Program) (s : State) (m : MethodId) (meth : Method) (c : Code) (Z : State) (own nm : String) (bytes : ByteArray) (ml : Nat) (ret : Option FieldType) : Prop :=
  p.tables.exec = Jvm.exec ∧ Z.Warmed39 s.vm ∧ c.code = bytes ∧ c.maxLocals = ml ∧ s.vm.findClass own = some m.cls ∧ meth.sig.returnType = ret ∧ meth.locks = false ∧ meth.name = nm
/-- from here on the body comes to its end, and there Q holds; nothing old is written -/
def oGo (Z : State) (own nm : String) (bytes : ByteArray) (ml : Nat) (ret : Option FieldType) (R : Room) (n0 : Nat) (Q : Option Value → Heap → Prop) (k n : Nat) (h : Heap) (pc : Nat) (L : Array Slot) (S : List Value) : Prop :=
  ∀ (p : Program) (l : Launch) (e : Env) (s : State) (m : MethodId) (args : Array Value) (below : List Frame) (meth : Method) (c : Code) (T : State) (locs : List Loc),
    oCtx p s m meth c Z own nm bytes ml ret → Stand p l e R s m args below meth c T locs k n → T.heap = h → Fr n0 locs →
    ∃ s₂ o, Steps p.tables e below (T.setTop (mkF m pc L S)) s₂ ∧ s₂.status = .running ∧ Ended s₂ below o ∧ ∃ v L', o = .returned v ∧ (Q v s₂.heap ∧ Fr n0 L') ∧ FrameEnd s o s₂ L' R.cells R.slots
/-- a body's contract -/
def oCon (Z : State) (y : MethodName) (bytes : ByteArray) (ml : Nat) (ret : Option FieldType) (rm : Room) (as : Array Value) (h : Heap) (n0 : Nat) (Q : Option Value → Heap → Prop) : Prop :=
  ∀ (l : Launch) (ws : List Jvm.Cond), MetFree l y (head1 (Jvm.Cond.code y bytes ml ret :: ws) rm) (fun a U => a = as ∧ Z.Warmed39 U.vm ∧ U.heap = h) (fun _ _ _ _ _ => True) (fun _ U o U' => ∃ v L, o = .returned v ∧ (Q v U'.heap ∧ Fr n0 L) ∧ FrameEnd U o U' L rm.cells rm.slots)
theorem oCon.of {y : MethodName} {rm : Room} {as : Array Value} {L0 : Array Slot} (hp : plainFor y = true) (he : ∀ m, entryFrame m as ml = mkF m 0 L0 []) (K : oGo Z y.cls y.name bytes ml ret rm n0 Q 0 0 h 0 L0 []) : oCon Z y bytes ml ret rm as h n0 Q := by
  intro l ws
  refine MetFree.of_bodySF hp hisR ?_
  intro p e s m args below meth c s₁ Bd hml0 hP hK
  obtain ⟨rfl, hZ, hh⟩ := hP
  have e0 : s₁.heap = h := by rw [← hh, Bd.state]; rfl
  obtain ⟨s₂, o, h1, h2, h3, h4⟩ := K p l e s m args below meth c s₁ [] ⟨Bd.exec, hZ, Bd.bytes, hml0, findClass_of_methodNamed Bd.named, Bd.returns, Bd.notSynchronized, (name_of_methodNamed Bd.named Bd.method).1⟩ (Stand.of_body Bd) e0 (Fr.nil n0)
  exact ⟨s₂, o, castTop (he m) h1, h2, h3, h4⟩
theorem oGo.more {k' n' : Nat} (hk : k ≤ k') (hn : n ≤ n') (K : oGo Z own nm bytes ml ret R n0 Q k' n' h pc L S) : oGo Z own nm bytes ml ret R n0 Q k n h pc L S :=
  fun p l e s m args below meth c T locs C X eT N => K p l e s m args below meth c T locs C (X.more hk hn) eT N
theorem oGo.st (H : ∀ (p : Program) (e : Env) (m : MethodId) (below : List Frame) (c : Code) (T : State), p.tables.exec = Jvm.exec → c.code = bytes → At T m c below → ∀ t, Steps p.tables e below (T.setTop (mkF m q L' S')) t → Steps p.tables e below (T.setTop (mkF m pc L S)) t) (K : oGo Z own nm bytes ml ret R n0 Q k n h q L' S') : oGo Z own nm bytes ml ret R n0 Q k n h pc L S :=
  fun p l e s m args below meth c T locs C X eT N => by
    obtain ⟨s₂, o, h1, r⟩ := K p l e s m args below meth c T locs C X eT N
    exact ⟨s₂, o, H p e m below c T C.1 C.2.2.1 X.here s₂ h1, r⟩
theorem oGo.iadd {x y : Int32} (hd : decode bytes pc = .ok (.iadd, 1)) (hq : pc + 1 = q) (K : oGo Z own nm bytes ml ret R n0 Q k n h q L (.int (x + y) :: S)) : oGo Z own nm bytes ml ret R n0 Q k n h pc L (.int y :: .int x :: S) := by
  subst hq; exact oGo.st (fun p e m below c T hx hby hA t k => XS.iadd hA hx rfl (hb hby hd) rfl k) K
theorem oGo.isub {x y : Int32} (hd : decode bytes pc = .ok (.isub, 1)) (hq : pc + 1 = q) (K : oGo Z own nm bytes ml ret R n0 Q k n h q L (.int (x - y) :: S)) : oGo Z own nm bytes ml ret R n0 Q k n h pc L (.int y :: .int x :: S) := by
  subst hq; exact oGo.st (fun p e m below c T hx hby hA t k => XS.isub hA hx rfl (hb hby hd) rfl k) K
theorem oGo.imul {x y : Int32} (hd : decode bytes pc = .ok (.imul, 1)) (hq : pc + 1 = q) (K : oGo Z own nm bytes ml ret R n0 Q k n h q L (.int (x * y) :: S)) : oGo Z own nm bytes ml ret R n0 Q k n h pc L (.int y :: .int x :: S) := by
  subst hq; exact oGo.st (fun p e m below c T hx hby hA t k => XS.imul hA hx rfl (hb hby hd) rfl k) K
theorem oGo.iand {x y : Int32} (hd : decode bytes pc = .ok (.iand, 1)) (hq : pc + 1 = q) (K : oGo Z own nm bytes ml ret R n0 Q k n h q L (.int (x &&& y) :: S)) : oGo Z own nm bytes ml ret R n0 Q k n h pc L (.int y :: .int x :: S) := by
  subst hq; exact oGo.st (fun p e m below c T hx hby hA t k => XS.iand hA hx rfl (hb hby hd) rfl k) K
theorem oGo.ior {x y : Int32} (hd : decode bytes pc = .ok (.ior, 1)) (hq : pc + 1 = q) (K : oGo Z own nm bytes ml ret R n0 Q k n h q L (.int (x ||| y) :: S)) : oGo Z own nm bytes ml ret R n0 Q k n h pc L (.int y :: .int x :: S) := by
  subst hq; exact oGo.st (fun p e m below c T hx hby hA t k => XS.ior hA hx rfl (hb hby hd) rfl k) K
theorem oGo.ixor {x y : Int32} (hd : decode bytes pc = .ok (.ixor, 1)) (hq : pc + 1 = q) (K : oGo Z own nm bytes ml ret R n0 Q k n h q L (.int (x ^^^ y) :: S)) : oGo Z own nm bytes ml ret R n0 Q k n h pc L (.int y :: .int x :: S) := by
  subst hq; exact oGo.st (fun p e m below c T hx hby hA t k => XS.ixor hA hx rfl (hb hby hd) rfl k) K
theorem oGo.ishl {x y : Int32} (hd : decode bytes pc = .ok (.ishl, 1)) (hq : pc + 1 = q) (K : oGo Z own nm bytes ml ret R n0 Q k n h q L (.int (x <<< (y &&& 31)) :: S)) : oGo Z own nm bytes ml ret R n0 Q k n h pc L (.int y :: .int x :: S) := by
  subst hq; exact oGo.st (fun p e m below c T hx hby hA t k => XS.ishl hA hx rfl (hb hby hd) rfl k) K
theorem oGo.ishr {x y : Int32} (hd : decode bytes pc = .ok (.ishr, 1)) (hq : pc + 1 = q) (K : oGo Z own nm bytes ml ret R n0 Q k n h q L (.int (x >>> (y &&& 31)) :: S)) : oGo Z own nm bytes ml ret R n0 Q k n h pc L (.int y :: .int x :: S) := by
  subst hq; exact oGo.st (fun p e m below c T hx hby hA t k => XS.ishr hA hx rfl (hb hby hd) rfl k) K
theorem oGo.iushr {x y : Int32} (hd : decode bytes pc = .ok (.iushr, 1)) (hq : pc + 1 = q) (K : oGo Z own nm bytes ml ret R n0 Q k n h q L (.int ((x.toUInt32 >>> (y &&& 31).toUInt32).toInt32) :: S)) : oGo Z own nm bytes ml ret R n0 Q k n h pc L (.int y :: .int x :: S) := by
  subst hq; exact oGo.st (fun p e m below c T hx hby hA t k => XS.iushr hA hx rfl (hb hby hd) rfl k) K
theorem oGo.ladd {x y : Int64} (hd : decode bytes pc = .ok (.ladd, 1)) (hq : pc + 1 = q) (K : oGo Z own nm bytes ml ret R n0 Q k n h q L (.long (x + y) :: S)) : oGo Z own nm bytes ml ret R n0 Q k n h pc L (.long y :: .long x :: S) := by
  subst hq; exact oGo.st (fun p e m below c T hx hby hA t k => XS.ladd hA hx rfl (hb hby hd) rfl k) K
theorem oGo.lsub {x y : Int64} (hd : decode bytes pc = .ok (.lsub, 1)) (hq : pc + 1 = q) (K : oGo Z own nm bytes ml ret R n0 Q k n h q L (.long (x - y) :: S)) : oGo Z own nm bytes ml ret R n0 Q k n h pc L (.long y :: .long x :: S) := by
  subst hq; exact oGo.st (fun p e m below c T hx hby hA t k => XS.lsub hA hx rfl (hb hby hd) rfl k) K
theorem oGo.lmul {x y : Int64} (hd : decode bytes pc = .ok (.lmul, 1)) (hq : pc + 1 = q) (K : oGo Z own nm bytes ml ret R n0 Q k n h q L (.long (x * y) :: S)) : oGo Z own nm bytes ml ret R n0 Q k n h pc L (.long y :: .long x :: S) := by
  subst hq; exact oGo.st (fun p e m below c T hx hby hA t k => XS.lmul hA hx rfl (hb hby hd) rfl k) K
theorem oGo.land {x y : Int64} (hd : decode bytes pc = .ok (.land, 1)) (hq : pc + 1 = q) (K : oGo Z own nm bytes ml ret R n0 Q k n h q L (.long (x &&& y) :: S)) : oGo Z own nm bytes ml ret R n0 Q k n h pc L (.long y :: .long x :: S) := by
  subst hq; exact oGo.st (fun p e m below c T hx hby hA t k => XS.land hA hx rfl (hb hby hd) rfl k) K
theorem oGo.lor {x y : Int64} (hd : decode bytes pc = .ok (.lor, 1)) (hq : pc + 1 = q) (K : oGo Z own nm bytes ml ret R n0 Q k n h q L (.long (x ||| y) :: S)) : oGo Z own nm bytes ml ret R n0 Q k n h pc L (.long y :: .long x :: S) := by
  subst hq; exact oGo.st (fun p e m below c T hx hby hA t k => XS.lor hA hx rfl (hb hby hd) rfl k) K
theorem oGo.lxor {x y : Int64} (hd : decode bytes pc = .ok (.lxor, 1)) (hq : pc + 1 = q) (K : oGo Z own nm bytes ml ret R n0 Q k n h q L (.long (x ^^^ y) :: S)) : oGo Z own nm bytes ml ret R n0 Q k n h pc L (.long y :: .long x :: S) := by
  subst hq; exact oGo.st (fun p e m below c T hx hby hA t k => XS.lxor hA hx rfl (hb hby hd) rfl k) K
theorem oGo.lshl {x : Int64} {y : Int32} (hd : decode bytes pc = .ok (.lshl, 1)) (hq : pc + 1 = q) (K : oGo Z own nm bytes ml ret R n0 Q k n h q L (.long (x <<< (y &&& 0x3f).toInt64) :: S)) : oGo Z own nm bytes ml ret R n0 Q k n h pc L (.int y :: .long x :: S) := by
  subst hq; exact oGo.st (fun p e m below c T hx hby hA t k => XS.lshl hA hx rfl (hb hby hd) rfl k) K
theorem oGo.lshr {x : Int64} {y : Int32} (hd : decode bytes pc = .ok (.lshr, 1)) (hq : pc + 1 = q) (K : oGo Z own nm bytes ml ret R n0 Q k n h q L (.long (x >>> (y &&& 0x3f).toInt64) :: S)) : oGo Z own nm bytes ml ret R n0 Q k n h pc L (.int y :: .long x :: S) := by
  subst hq; exact oGo.st (fun p e m below c T hx hby hA t k => XS.lshr hA hx rfl (hb hby hd) rfl k) K
theorem oGo.lushr {x : Int64} {y : Int32} (hd : decode bytes pc = .ok (.lushr, 1)) (hq : pc + 1 = q) (K : oGo Z own nm bytes ml ret R n0 Q k n h q L (.long ((x.toUInt64 >>> (y &&& 0x3f).toInt64.toUInt64).toInt64) :: S)) : oGo Z own nm bytes ml ret R n0 Q k n h pc L (.int y :: .long x :: S) := by
  subst hq; exact oGo.st (fun p e m below c T hx hby hA t k => XS.lushr hA hx rfl (hb hby hd) rfl k) K
theorem oGo.idiv {x y : Int32} (hd : decode bytes pc = .ok (.idiv, 1)) (hq : pc + 1 = q) (hy : y ≠ 0) (K : oGo Z own nm bytes ml ret R n0 Q k n h q L (.int (x / y) :: S)) : oGo Z own nm bytes ml ret R n0 Q k n h pc L (.int y :: .int x :: S) := by
  subst hq; exact oGo.st (fun p e m below c T hx hby hA t k => XS.idiv hA hx rfl (hb hby hd) rfl hy k) K
theorem oGo.ldiv {x y : Int64} (hd : decode bytes pc = .ok (.ldiv, 1)) (hq : pc + 1 = q) (hy : y ≠ 0) (K : oGo Z own nm bytes ml ret R n0 Q k n h q L (.long (x / y) :: S)) : oGo Z own nm bytes ml ret R n0 Q k n h pc L (.long y :: .long x :: S) := by
  subst hq; exact oGo.st (fun p e m below c T hx hby hA t k => XS.ldiv hA hx rfl (hb hby hd) rfl hy k) K
theorem oGo.irem {x y : Int32} (hd : decode bytes pc = .ok (.irem, 1)) (hq : pc + 1 = q) (hy : y ≠ 0) (K : oGo Z own nm bytes ml ret R n0 Q k n h q L (.int (x % y) :: S)) : oGo Z own nm bytes ml ret R n0 Q k n h pc L (.int y :: .int x :: S) := by
  subst hq; exact oGo.st (fun p e m below c T hx hby hA t k => XS.irem hA hx rfl (hb hby hd) rfl hy (by rw [irem_eq_mod]; exact k)) K
theorem oGo.lrem {x y : Int64} (hd : decode bytes pc = .ok (.lrem, 1)) (hq : pc + 1 = q) (hy : y ≠ 0) (K : oGo Z own nm bytes ml ret R n0 Q k n h q L (.long (x % y) :: S)) : oGo Z own nm bytes ml ret R n0 Q k n h pc L (.long y :: .long x :: S) := by
  subst hq; exact oGo.st (fun p e m below c T hx hby hA t k => XS.lrem hA hx rfl (hb hby hd) rfl hy (by rw [lrem_mod]; exact k)) K
theorem oGo.ineg {x : Int32} (hd : decode bytes pc = .ok (.ineg, 1)) (hq : pc + 1 = q) (K : oGo Z own nm bytes ml ret R n0 Q k n h q L (.int (-x) :: S)) : oGo Z own nm bytes ml ret R n0 Q k n h pc L (.int x :: S) := by
  subst hq; exact oGo.st (fun p e m below c T hx hby hA t k => XS.ineg hA hx rfl (hb hby hd) rfl k) K
theorem oGo.lneg {x : Int64} (hd : decode bytes pc = .ok (.lneg, 1)) (hq : pc + 1 = q) (K : oGo Z own nm bytes ml ret R n0 Q k n h q L (.long (-x) :: S)) : oGo Z own nm bytes ml ret R n0 Q k n h pc L (.long x :: S) := by
  subst hq; exact oGo.st (fun p e m below c T hx hby hA t k => XS.lneg hA hx rfl (hb hby hd) rfl k) K
theorem oGo.i2b {x : Int32} (hd : decode bytes pc = .ok (.i2b, 1)) (hq : pc + 1 = q) (K : oGo Z own nm bytes ml ret R n0 Q k n h q L (.int (x.toInt8.toInt32) :: S)) : oGo Z own nm bytes ml ret R n0 Q k n h pc L (.int x :: S) := by
  subst hq; exact oGo.st (fun p e m below c T hx hby hA t k => XS.i2b hA hx rfl (hb hby hd) rfl k) K
theorem oGo.i2c {x : Int32} (hd : decode bytes pc = .ok (.i2c, 1)) (hq : pc + 1 = q) (K : oGo Z own nm bytes ml ret R n0 Q k n h q L (.int (x.toUInt32.toUInt16.toUInt32.toInt32) :: S)) : oGo Z own nm bytes ml ret R n0 Q k n h pc L (.int x :: S) := by
  subst hq; exact oGo.st (fun p e m below c T hx hby hA t k => XS.i2c hA hx rfl (hb hby hd) rfl k) K
theorem oGo.i2s {x : Int32} (hd : decode bytes pc = .ok (.i2s, 1)) (hq : pc + 1 = q) (K : oGo Z own nm bytes ml ret R n0 Q k n h q L (.int (x.toInt16.toInt32) :: S)) : oGo Z own nm bytes ml ret R n0 Q k n h pc L (.int x :: S) := by
  subst hq; exact oGo.st (fun p e m below c T hx hby hA t k => XS.i2s hA hx rfl (hb hby hd) rfl k) K
theorem oGo.i2l {x : Int32} (hd : decode bytes pc = .ok (.i2l, 1)) (hq : pc + 1 = q) (K : oGo Z own nm bytes ml ret R n0 Q k n h q L (.long (x.toInt64) :: S)) : oGo Z own nm bytes ml ret R n0 Q k n h pc L (.int x :: S) := by
  subst hq; exact oGo.st (fun p e m below c T hx hby hA t k => XS.i2l hA hx rfl (hb hby hd) rfl k) K
theorem oGo.l2i {x : Int64} (hd : decode bytes pc = .ok (.l2i, 1)) (hq : pc + 1 = q) (K : oGo Z own nm bytes ml ret R n0 Q k n h q L (.int (x.toInt32) :: S)) : oGo Z own nm bytes ml ret R n0 Q k n h pc L (.long x :: S) := by
  subst hq; exact oGo.st (fun p e m below c T hx hby hA t k => XS.l2i hA hx rfl (hb hby hd) rfl k) K
theorem oGo.iconst {i : Int} {v : Int32} (hd : decode bytes pc = .ok (.iconst i, 1)) (hq : pc + 1 = q) (hv : Int32.ofInt i = v) (K : oGo Z own nm bytes ml ret R n0 Q k n h q L (.int v :: S)) : oGo Z own nm bytes ml ret R n0 Q k n h pc L S := by
  subst hq hv; exact oGo.st (fun p e m below c T hx hby hA t k => XS.iconst hA hx rfl (hb hby hd) k) K
theorem oGo.bipush {i : Int} {v : Int32} (hd : decode bytes pc = .ok (.bipush i, 2)) (hq : pc + 2 = q) (hv : (Int8.ofInt i).toInt32 = v) (K : oGo Z own nm bytes ml ret R n0 Q k n h q L (.int v :: S)) : oGo Z own nm bytes ml ret R n0 Q k n h pc L S := by
  subst hq hv; exact oGo.st (fun p e m below c T hx hby hA t k => XS.bipush hA hx rfl (hb hby hd) k) K
theorem oGo.sipush {i : Int} {v : Int32} (hd : decode bytes pc = .ok (.sipush i, 3)) (hq : pc + 3 = q) (hv : (Int16.ofInt i).toInt32 = v) (K : oGo Z own nm bytes ml ret R n0 Q k n h q L (.int v :: S)) : oGo Z own nm bytes ml ret R n0 Q k n h pc L S := by
  subst hq hv; exact oGo.st (fun p e m below c T hx hby hA t k => XS.sipush hA hx rfl (hb hby hd) k) K
theorem oGo.lconst {i : Fin 2} {v : Int64} (hd : decode bytes pc = .ok (.lconst i, 1)) (hq : pc + 1 = q) (hv : Int64.ofNat i = v) (K : oGo Z own nm bytes ml ret R n0 Q k n h q L (.long v :: S)) : oGo Z own nm bytes ml ret R n0 Q k n h pc L S := by
  subst hq hv; exact oGo.st (fun p e m below c T hx hby hA t k => XS.lconst hA hx rfl (hb hby hd) k) K
theorem oGo.aconstNull (hd : decode bytes pc = .ok (.aconst_null, 1)) (hq : pc + 1 = q) (K : oGo Z own nm bytes ml ret R n0 Q k n h q L (.null :: S)) : oGo Z own nm bytes ml ret R n0 Q k n h pc L (S) := by
  subst hq; exact oGo.st (fun p e m below c T hx hby hA t k => XS.aconstNull hA hx rfl (hb hby hd) k) K
theorem oGo.iload {i : Nat} {v : Int32} (hd : decode bytes pc = .ok (.iload i, 2)) (hq : pc + 2 = q) (hl : L[i]? = some (.val (.int v))) (K : oGo Z own nm bytes ml ret R n0 Q k n h q L (.int v :: S)) : oGo Z own nm bytes ml ret R n0 Q k n h pc L S := by
  subst hq; exact oGo.st (fun p e m below c T hx hby hA t k => XS.iload hA hx rfl (hb hby hd) hl k) K
theorem oGo.iloadN {i : Fin 4} {v : Int32} (hd : decode bytes pc = .ok (.iload_n i, 1)) (hq : pc + 1 = q) (hl : L[i.val]? = some (.val (.int v))) (K : oGo Z own nm bytes ml ret R n0 Q k n h q L (.int v :: S)) : oGo Z own nm bytes ml ret R n0 Q k n h pc L S := by
  subst hq; exact oGo.st (fun p e m below c T hx hby hA t k => XS.iloadN hA hx rfl (hb hby hd) hl k) K
theorem oGo.istore {i : Nat} {v : Int32} (hd : decode bytes pc = .ok (.istore i, 2)) (hq : pc + 2 = q) (hl : storeLocals L i (.int v) = some L') (K : oGo Z own nm bytes ml ret R n0 Q k n h q L' S) : oGo Z own nm bytes ml ret R n0 Q k n h pc L (.int v :: S) := by
  subst hq; exact oGo.st (fun p e m below c T hx hby hA t k => XS.istore hA hx rfl (hb hby hd) rfl hl k) K
theorem oGo.istoreN {i : Fin 4} {v : Int32} (hd : decode bytes pc = .ok (.istore_n i, 1)) (hq : pc + 1 = q) (hl : storeLocals L i.val (.int v) = some L') (K : oGo Z own nm bytes ml ret R n0 Q k n h q L' S) : oGo Z own nm bytes ml ret R n0 Q k n h pc L (.int v :: S) := by
  subst hq; exact oGo.st (fun p e m below c T hx hby hA t k => XS.istoreN hA hx rfl (hb hby hd) rfl hl k) K
theorem oGo.lload {i : Nat} {v : Int64} (hd : decode bytes pc = .ok (.lload i, 2)) (hq : pc + 2 = q) (hl : L[i]? = some (.val (.long v))) (K : oGo Z own nm bytes ml ret R n0 Q k n h q L (.long v :: S)) : oGo Z own nm bytes ml ret R n0 Q k n h pc L S := by
  subst hq; exact oGo.st (fun p e m below c T hx hby hA t k => XS.lload hA hx rfl (hb hby hd) hl k) K
theorem oGo.lloadN {i : Fin 4} {v : Int64} (hd : decode bytes pc = .ok (.lload_n i, 1)) (hq : pc + 1 = q) (hl : L[i.val]? = some (.val (.long v))) (K : oGo Z own nm bytes ml ret R n0 Q k n h q L (.long v :: S)) : oGo Z own nm bytes ml ret R n0 Q k n h pc L S := by
  subst hq; exact oGo.st (fun p e m below c T hx hby hA t k => XS.lloadN hA hx rfl (hb hby hd) hl k) K
theorem oGo.lstore {i : Nat} {v : Int64} (hd : decode bytes pc = .ok (.lstore i, 2)) (hq : pc + 2 = q) (hl : storeLocals L i (.long v) = some L') (K : oGo Z own nm bytes ml ret R n0 Q k n h q L' S) : oGo Z own nm bytes ml ret R n0 Q k n h pc L (.long v :: S) := by
  subst hq; exact oGo.st (fun p e m below c T hx hby hA t k => XS.lstore hA hx rfl (hb hby hd) rfl hl k) K
theorem oGo.lstoreN {i : Fin 4} {v : Int64} (hd : decode bytes pc = .ok (.lstore_n i, 1)) (hq : pc + 1 = q) (hl : storeLocals L i.val (.long v) = some L') (K : oGo Z own nm bytes ml ret R n0 Q k n h q L' S) : oGo Z own nm bytes ml ret R n0 Q k n h pc L (.long v :: S) := by
  subst hq; exact oGo.st (fun p e m below c T hx hby hA t k => XS.lstoreN hA hx rfl (hb hby hd) rfl hl k) K
theorem oGo.aload {i : Nat} {v : Value} (hd : decode bytes pc = .ok (.aload i, 2)) (hq : pc + 2 = q) (hl : L[i]? = some (.val v)) (hv : v.isRef = true) (K : oGo Z own nm bytes ml ret R n0 Q k n h q L (v :: S)) : oGo Z own nm bytes ml ret R n0 Q k n h pc L S := by
  subst hq; exact oGo.st (fun p e m below c T hx hby hA t k => XS.aload hA hx rfl (hb hby hd) hl hv k) K
theorem oGo.aloadN {i : Fin 4} {v : Value} (hd : decode bytes pc = .ok (.aload_n i, 1)) (hq : pc + 1 = q) (hl : L[i.val]? = some (.val v)) (hv : v.isRef = true) (K : oGo Z own nm bytes ml ret R n0 Q k n h q L (v :: S)) : oGo Z own nm bytes ml ret R n0 Q k n h pc L S := by
  subst hq; exact oGo.st (fun p e m below c T hx hby hA t k => XS.aloadN hA hx rfl (hb hby hd) hl hv k) K
theorem oGo.astore {i : Nat} {v : Value} (hd : decode bytes pc = .ok (.astore i, 2)) (hq : pc + 2 = q) (hv : v.isRef = true) (hl : storeLocals L i v = some L') (K : oGo Z own nm bytes ml ret R n0 Q k n h q L' S) : oGo Z own nm bytes ml ret R n0 Q k n h pc L (v :: S) := by
  subst hq; exact oGo.st (fun p e m below c T hx hby hA t k => XS.astore hA hx rfl (hb hby hd) rfl hv hl k) K
theorem oGo.astoreN {i : Fin 4} {v : Value} (hd : decode bytes pc = .ok (.astore_n i, 1)) (hq : pc + 1 = q) (hv : v.isRef = true) (hl : storeLocals L i.val v = some L') (K : oGo Z own nm bytes ml ret R n0 Q k n h q L' S) : oGo Z own nm bytes ml ret R n0 Q k n h pc L (v :: S) := by
  subst hq; exact oGo.st (fun p e m below c T hx hby hA t k => XS.astoreN hA hx rfl (hb hby hd) rfl hv hl k) K
theorem oGo.iinc {i : Nat} {cst : Int} {x v : Int32} (hd : decode bytes pc = .ok (.iinc i cst, 3)) (hq : pc + 3 = q) (hl : L[i]? = some (.val (.int x))) (hv : x + Int32.ofInt cst = v) (hs : storeLocals L i (.int v) = some L') (K : oGo Z own nm bytes ml ret R n0 Q k n h q L' S) : oGo Z own nm bytes ml ret R n0 Q k n h pc L S := by
  subst hq hv; exact oGo.st (fun p e m below c T hx hby hA t k => XS.iinc hA hx rfl (hb hby hd) hl hs k) K
theorem oGo.dup {v : Value} (hd : decode bytes pc = .ok (.dup, 1)) (hq : pc + 1 = q) (hc : v.category = 1) (K : oGo Z own nm bytes ml ret R n0 Q k n h q L (v :: v :: S)) : oGo Z own nm bytes ml ret R n0 Q k n h pc L (v :: S) := by
  subst hq; exact oGo.st (fun p e m below c T hx hby hA t k => XS.dup hA hx rfl (hb hby hd) rfl hc k) K
theorem oGo.dupX1 {v w : Value} (hd : decode bytes pc = .ok (.dup_x1, 1)) (hq : pc + 1 = q) (hc : v.category = 1) (hc' : w.category = 1) (K : oGo Z own nm bytes ml ret R n0 Q k n h q L (v :: w :: v :: S)) : oGo Z own nm bytes ml ret R n0 Q k n h pc L (v :: w :: S) := by
  subst hq; exact oGo.st (fun p e m below c T hx hby hA t k => XS.dupX1 hA hx rfl (hb hby hd) rfl hc hc' k) K
theorem oGo.dup2 {v w : Value} (hd : decode bytes pc = .ok (.dup2, 1)) (hq : pc + 1 = q) (hc : v.category = 1) (hc' : w.category = 1) (K : oGo Z own nm bytes ml ret R n0 Q k n h q L (v :: w :: v :: w :: S)) : oGo Z own nm bytes ml ret R n0 Q k n h pc L (v :: w :: S) := by
  subst hq; exact oGo.st (fun p e m below c T hx hby hA t k => XT.dup2 hA hx rfl (hb hby hd) rfl hc hc' k) K
theorem oGo.pop {v : Value} (hd : decode bytes pc = .ok (.pop, 1)) (hq : pc + 1 = q) (hc : v.category = 1) (K : oGo Z own nm bytes ml ret R n0 Q k n h q L S) : oGo Z own nm bytes ml ret R n0 Q k n h pc L (v :: S) := by
  subst hq; exact oGo.st (fun p e m below c T hx hby hA t k => XS.pop hA hx rfl (hb hby hd) rfl hc k) K
theorem oGo.goto {o : Int} (hd : decode bytes pc = .ok (.goto o, 3)) (hq : (pc : Int) + o = (q : Int)) (K : oGo Z own nm bytes ml ret R n0 Q k n h q L S) : oGo Z own nm bytes ml ret R n0 Q k n h pc L S :=
  oGo.st (fun p e m below c T hx hby hA t k => XS.goto hA hx rfl (pc0 := pc) (pc' := q) rfl (hb hby hd) (by omega) (by omega) k) K
theorem oGo.ifnonnullYes {o : Int} {b : Addr} (hd : decode bytes pc = .ok (.ifnonnull o, 3)) (hq : (pc : Int) + o = (q : Int)) (K : oGo Z own nm bytes ml ret R n0 Q k n h q L S) : oGo Z own nm bytes ml ret R n0 Q k n h pc L (.ref b :: S) :=
  oGo.st (fun p e m below c T hx hby hA t k => XS.ifnonnullYes hA hx rfl (pc0 := pc) (pc' := q) rfl (hb hby hd) rfl (by omega) (by omega) k) K
theorem oGo.lcmp {x y : Int64} (hd : decode bytes pc = .ok (.lcmp, 1)) (hq : pc + 1 = q) (K : oGo Z own nm bytes ml ret R n0 Q k n h q L (.int (lcmpW x y) :: S)) : oGo Z own nm bytes ml ret R n0 Q k n h pc L (.long y :: .long x :: S) := by
  subst hq; exact oGo.st (fun p e m below c T hx hby hA t k => XS.lcmp hA hx rfl (hb hby hd) rfl k) K
theorem own_hlt {x y : Int32} : (x.toInt < y.toInt → if_icmp.holds .lt x y = true) ∧ (y.toInt ≤ x.toInt → if_icmp.holds .lt x y = false) :=
  ⟨fun hc => (tlt (Int32.lt_iff_toInt_lt.mpr hc)).1, fun hc => (flt (fun z => by have := Int32.lt_iff_toInt_lt.mp z; omega)).1⟩
theorem own_dlt (x y : Int32) : (x.toInt < y.toInt) ∨ (y.toInt ≤ x.toInt) := by omega
theorem own_elt (x y : Int64) : (x.toInt < y.toInt) ∨ (y.toInt ≤ x.toInt) := by omega
theorem oGo.icmp_lt {o : Int} {x y : Int32} (hd : decode bytes pc = .ok (.if_icmp .lt o, 3)) (hq : (pc : Int) + o = (q : Int)) (hr : pc + 3 = r) (K1 : x.toInt < y.toInt → oGo Z own nm bytes ml ret R n0 Q k n h q L S) (K2 : y.toInt ≤ x.toInt → oGo Z own nm bytes ml ret R n0 Q k n h r L S) : oGo Z own nm bytes ml ret R n0 Q k n h pc L (.int y :: .int x :: S) := by
  rcases own_dlt x y with hc | hc
  · exact oGo.st (fun p e m below c T hx hby hA t k => XS.icmpYes hA hx rfl (pc0 := pc) (pc' := q) rfl (hb hby hd) rfl (own_hlt.1 hc) (by omega) (by omega) k) (K1 hc)
  · subst hr; exact oGo.st (fun p e m below c T hx hby hA t k => XS.icmpNo hA hx rfl (hb hby hd) rfl (own_hlt.2 hc) k) (K2 hc)
theorem oGo.if_lt {o : Int} {x : Int32} (hd : decode bytes pc = .ok (.ifCond .lt o, 3)) (hq : (pc : Int) + o = (q : Int)) (hr : pc + 3 = r) (K1 : x.toInt < 0 → oGo Z own nm bytes ml ret R n0 Q k n h q L S) (K2 : 0 ≤ x.toInt → oGo Z own nm bytes ml ret R n0 Q k n h r L S) : oGo Z own nm bytes ml ret R n0 Q k n h pc L (.int x :: S) := by
  rcases own_dlt x 0 with hc | hc
  · exact oGo.st (fun p e m below c T hx hby hA t k => XS.ifYes hA hx rfl (pc0 := pc) (pc' := q) rfl (hb hby hd) rfl ((if0 _ _).trans (own_hlt.1 hc)) (by omega) (by omega) k) (K1 hc)
  · subst hr; exact oGo.st (fun p e m below c T hx hby hA t k => XS.ifNo hA hx rfl (hb hby hd) rfl ((if0 _ _).trans (own_hlt.2 hc)) k) (K2 hc)
theorem own_llt {x y : Int64} : (x.toInt < y.toInt → (lcmpW x y).toInt < 0) ∧ (y.toInt ≤ x.toInt → 0 ≤ (lcmpW x y).toInt) := by
  obtain ⟨h1, h2, h3⟩ := c_lcmp x y
  refine ⟨fun hc => ?_, fun hc => ?_⟩ <;> (rcases Int.lt_trichotomy x.toInt y.toInt with u | u | u <;> simp_all <;> omega)
theorem oGo.lif_lt {o : Int} {x y : Int64} {pc2 : Nat} (hd : decode bytes pc = .ok (.lcmp, 1)) (h1 : pc + 1 = pc2) (hd2 : decode bytes pc2 = .ok (.ifCond .lt o, 3)) (hq : (pc2 : Int) + o = (q : Int)) (hr : pc2 + 3 = r) (K1 : x.toInt < y.toInt → oGo Z own nm bytes ml ret R n0 Q k n h q L S) (K2 : y.toInt ≤ x.toInt → oGo Z own nm bytes ml ret R n0 Q k n h r L S) : oGo Z own nm bytes ml ret R n0 Q k n h pc L (.long y :: .long x :: S) := by
  refine oGo.lcmp hd h1 (oGo.if_lt hd2 hq hr (fun hc => ?_) (fun hc => ?_))
  · rcases own_elt x y with u | u
    · exact K1 u
    · have := own_llt.2 u; first | exact absurd hc this | exact absurd this hc | omega
  · rcases own_elt x y with u | u
    · have := own_llt.1 u; first | exact absurd hc this | exact absurd this hc | omega
    · exact K2 u
theorem own_hge {x y : Int32} : (y.toInt ≤ x.toInt → if_icmp.holds .ge x y = true) ∧ (x.toInt < y.toInt → if_icmp.holds .ge x y = false) :=
  ⟨fun hc => (flt (fun z => by have := Int32.lt_iff_toInt_lt.mp z; omega)).2.1, fun hc => (tlt (Int32.lt_iff_toInt_lt.mpr hc)).2.1⟩
theorem own_dge (x y : Int32) : (y.toInt ≤ x.toInt) ∨ (x.toInt < y.toInt) := by omega
theorem own_ege (x y : Int64) : (y.toInt ≤ x.toInt) ∨ (x.toInt < y.toInt) := by omega
theorem oGo.icmp_ge {o : Int} {x y : Int32} (hd : decode bytes pc = .ok (.if_icmp .ge o, 3)) (hq : (pc : Int) + o = (q : Int)) (hr : pc + 3 = r) (K1 : y.toInt ≤ x.toInt → oGo Z own nm bytes ml ret R n0 Q k n h q L S) (K2 : x.toInt < y.toInt → oGo Z own nm bytes ml ret R n0 Q k n h r L S) : oGo Z own nm bytes ml ret R n0 Q k n h pc L (.int y :: .int x :: S) := by
  rcases own_dge x y with hc | hc
  · exact oGo.st (fun p e m below c T hx hby hA t k => XS.icmpYes hA hx rfl (pc0 := pc) (pc' := q) rfl (hb hby hd) rfl (own_hge.1 hc) (by omega) (by omega) k) (K1 hc)
  · subst hr; exact oGo.st (fun p e m below c T hx hby hA t k => XS.icmpNo hA hx rfl (hb hby hd) rfl (own_hge.2 hc) k) (K2 hc)
theorem oGo.if_ge {o : Int} {x : Int32} (hd : decode bytes pc = .ok (.ifCond .ge o, 3)) (hq : (pc : Int) + o = (q : Int)) (hr : pc + 3 = r) (K1 : 0 ≤ x.toInt → oGo Z own nm bytes ml ret R n0 Q k n h q L S) (K2 : x.toInt < 0 → oGo Z own nm bytes ml ret R n0 Q k n h r L S) : oGo Z own nm bytes ml ret R n0 Q k n h pc L (.int x :: S) := by
  rcases own_dge x 0 with hc | hc
  · exact oGo.st (fun p e m below c T hx hby hA t k => XS.ifYes hA hx rfl (pc0 := pc) (pc' := q) rfl (hb hby hd) rfl ((if0 _ _).trans (own_hge.1 hc)) (by omega) (by omega) k) (K1 hc)
  · subst hr; exact oGo.st (fun p e m below c T hx hby hA t k => XS.ifNo hA hx rfl (hb hby hd) rfl ((if0 _ _).trans (own_hge.2 hc)) k) (K2 hc)
theorem own_lge {x y : Int64} : (y.toInt ≤ x.toInt → 0 ≤ (lcmpW x y).toInt) ∧ (x.toInt < y.toInt → (lcmpW x y).toInt < 0) := by
  obtain ⟨h1, h2, h3⟩ := c_lcmp x y
  refine ⟨fun hc => ?_, fun hc => ?_⟩ <;> (rcases Int.lt_trichotomy x.toInt y.toInt with u | u | u <;> simp_all <;> omega)
theorem oGo.lif_ge {o : Int} {x y : Int64} {pc2 : Nat} (hd : decode bytes pc = .ok (.lcmp, 1)) (h1 : pc + 1 = pc2) (hd2 : decode bytes pc2 = .ok (.ifCond .ge o, 3)) (hq : (pc2 : Int) + o = (q : Int)) (hr : pc2 + 3 = r) (K1 : y.toInt ≤ x.toInt → oGo Z own nm bytes ml ret R n0 Q k n h q L S) (K2 : x.toInt < y.toInt → oGo Z own nm bytes ml ret R n0 Q k n h r L S) : oGo Z own nm bytes ml ret R n0 Q k n h pc L (.long y :: .long x :: S) := by
  refine oGo.lcmp hd h1 (oGo.if_ge hd2 hq hr (fun hc => ?_) (fun hc => ?_))
  · rcases own_ege x y with u | u
    · exact K1 u
    · have := own_lge.2 u; first | exact absurd hc this | exact absurd this hc | omega
  · rcases own_ege x y with u | u
    · have := own_lge.1 u; first | exact absurd hc this | exact absurd this hc | omega
    · exact K2 u
theorem own_hgt {x y : Int32} : (y.toInt < x.toInt → if_icmp.holds .gt x y = true) ∧ (x.toInt ≤ y.toInt → if_icmp.holds .gt x y = false) :=
  ⟨fun hc => (tlt (Int32.lt_iff_toInt_lt.mpr hc)).2.2.1, fun hc => (flt (fun z => by have := Int32.lt_iff_toInt_lt.mp z; omega)).2.2.1⟩
theorem own_dgt (x y : Int32) : (y.toInt < x.toInt) ∨ (x.toInt ≤ y.toInt) := by omega
theorem own_egt (x y : Int64) : (y.toInt < x.toInt) ∨ (x.toInt ≤ y.toInt) := by omega
theorem oGo.icmp_gt {o : Int} {x y : Int32} (hd : decode bytes pc = .ok (.if_icmp .gt o, 3)) (hq : (pc : Int) + o = (q : Int)) (hr : pc + 3 = r) (K1 : y.toInt < x.toInt → oGo Z own nm bytes ml ret R n0 Q k n h q L S) (K2 : x.toInt ≤ y.toInt → oGo Z own nm bytes ml ret R n0 Q k n h r L S) : oGo Z own nm bytes ml ret R n0 Q k n h pc L (.int y :: .int x :: S) := by
  rcases own_dgt x y with hc | hc
  · exact oGo.st (fun p e m below c T hx hby hA t k => XS.icmpYes hA hx rfl (pc0 := pc) (pc' := q) rfl (hb hby hd) rfl (own_hgt.1 hc) (by omega) (by omega) k) (K1 hc)
  · subst hr; exact oGo.st (fun p e m below c T hx hby hA t k => XS.icmpNo hA hx rfl (hb hby hd) rfl (own_hgt.2 hc) k) (K2 hc)
theorem oGo.if_gt {o : Int} {x : Int32} (hd : decode bytes pc = .ok (.ifCond .gt o, 3)) (hq : (pc : Int) + o = (q : Int)) (hr : pc + 3 = r) (K1 : 0 < x.toInt → oGo Z own nm bytes ml ret R n0 Q k n h q L S) (K2 : x.toInt ≤ 0 → oGo Z own nm bytes ml ret R n0 Q k n h r L S) : oGo Z own nm bytes ml ret R n0 Q k n h pc L (.int x :: S) := by
  rcases own_dgt x 0 with hc | hc
  · exact oGo.st (fun p e m below c T hx hby hA t k => XS.ifYes hA hx rfl (pc0 := pc) (pc' := q) rfl (hb hby hd) rfl ((if0 _ _).trans (own_hgt.1 hc)) (by omega) (by omega) k) (K1 hc)
  · subst hr; exact oGo.st (fun p e m below c T hx hby hA t k => XS.ifNo hA hx rfl (hb hby hd) rfl ((if0 _ _).trans (own_hgt.2 hc)) k) (K2 hc)
theorem own_lgt {x y : Int64} : (y.toInt < x.toInt → 0 < (lcmpW x y).toInt) ∧ (x.toInt ≤ y.toInt → (lcmpW x y).toInt ≤ 0) := by
  obtain ⟨h1, h2, h3⟩ := c_lcmp x y
  refine ⟨fun hc => ?_, fun hc => ?_⟩ <;> (rcases Int.lt_trichotomy x.toInt y.toInt with u | u | u <;> simp_all <;> omega)
theorem oGo.lif_gt {o : Int} {x y : Int64} {pc2 : Nat} (hd : decode bytes pc = .ok (.lcmp, 1)) (h1 : pc + 1 = pc2) (hd2 : decode bytes pc2 = .ok (.ifCond .gt o, 3)) (hq : (pc2 : Int) + o = (q : Int)) (hr : pc2 + 3 = r) (K1 : y.toInt < x.toInt → oGo Z own nm bytes ml ret R n0 Q k n h q L S) (K2 : x.toInt ≤ y.toInt → oGo Z own nm bytes ml ret R n0 Q k n h r L S) : oGo Z own nm bytes ml ret R n0 Q k n h pc L (.long y :: .long x :: S) := by
  refine oGo.lcmp hd h1 (oGo.if_gt hd2 hq hr (fun hc => ?_) (fun hc => ?_))
  · rcases own_egt x y with u | u
    · exact K1 u
    · have := own_lgt.2 u; first | exact absurd hc this | exact absurd this hc | omega
  · rcases own_egt x y with u | u
    · have := own_lgt.1 u; first | exact absurd hc this | exact absurd this hc | omega
    · exact K2 u
theorem own_hle {x y : Int32} : (x.toInt ≤ y.toInt → if_icmp.holds .le x y = true) ∧ (y.toInt < x.toInt → if_icmp.holds .le x y = false) :=
  ⟨fun hc => (flt (fun z => by have := Int32.lt_iff_toInt_lt.mp z; omega)).2.2.2, fun hc => (tlt (Int32.lt_iff_toInt_lt.mpr hc)).2.2.2⟩
theorem own_dle (x y : Int32) : (x.toInt ≤ y.toInt) ∨ (y.toInt < x.toInt) := by omega
theorem own_ele (x y : Int64) : (x.toInt ≤ y.toInt) ∨ (y.toInt < x.toInt) := by omega
theorem oGo.icmp_le {o : Int} {x y : Int32} (hd : decode bytes pc = .ok (.if_icmp .le o, 3)) (hq : (pc : Int) + o = (q : Int)) (hr : pc + 3 = r) (K1 : x.toInt ≤ y.toInt → oGo Z own nm bytes ml ret R n0 Q k n h q L S) (K2 : y.toInt < x.toInt → oGo Z own nm bytes ml ret R n0 Q k n h r L S) : oGo Z own nm bytes ml ret R n0 Q k n h pc L (.int y :: .int x :: S) := by
  rcases own_dle x y with hc | hc
  · exact oGo.st (fun p e m below c T hx hby hA t k => XS.icmpYes hA hx rfl (pc0 := pc) (pc' := q) rfl (hb hby hd) rfl (own_hle.1 hc) (by omega) (by omega) k) (K1 hc)
  · subst hr; exact oGo.st (fun p e m below c T hx hby hA t k => XS.icmpNo hA hx rfl (hb hby hd) rfl (own_hle.2 hc) k) (K2 hc)
theorem oGo.if_le {o : Int} {x : Int32} (hd : decode bytes pc = .ok (.ifCond .le o, 3)) (hq : (pc : Int) + o = (q : Int)) (hr : pc + 3 = r) (K1 : x.toInt ≤ 0 → oGo Z own nm bytes ml ret R n0 Q k n h q L S) (K2 : 0 < x.toInt → oGo Z own nm bytes ml ret R n0 Q k n h r L S) : oGo Z own nm bytes ml ret R n0 Q k n h pc L (.int x :: S) := by
  rcases own_dle x 0 with hc | hc
  · exact oGo.st (fun p e m below c T hx hby hA t k => XS.ifYes hA hx rfl (pc0 := pc) (pc' := q) rfl (hb hby hd) rfl ((if0 _ _).trans (own_hle.1 hc)) (by omega) (by omega) k) (K1 hc)
  · subst hr; exact oGo.st (fun p e m below c T hx hby hA t k => XS.ifNo hA hx rfl (hb hby hd) rfl ((if0 _ _).trans (own_hle.2 hc)) k) (K2 hc)
theorem own_lle {x y : Int64} : (x.toInt ≤ y.toInt → (lcmpW x y).toInt ≤ 0) ∧ (y.toInt < x.toInt → 0 < (lcmpW x y).toInt) := by
  obtain ⟨h1, h2, h3⟩ := c_lcmp x y
  refine ⟨fun hc => ?_, fun hc => ?_⟩ <;> (rcases Int.lt_trichotomy x.toInt y.toInt with u | u | u <;> simp_all <;> omega)
theorem oGo.lif_le {o : Int} {x y : Int64} {pc2 : Nat} (hd : decode bytes pc = .ok (.lcmp, 1)) (h1 : pc + 1 = pc2) (hd2 : decode bytes pc2 = .ok (.ifCond .le o, 3)) (hq : (pc2 : Int) + o = (q : Int)) (hr : pc2 + 3 = r) (K1 : x.toInt ≤ y.toInt → oGo Z own nm bytes ml ret R n0 Q k n h q L S) (K2 : y.toInt < x.toInt → oGo Z own nm bytes ml ret R n0 Q k n h r L S) : oGo Z own nm bytes ml ret R n0 Q k n h pc L (.long y :: .long x :: S) := by
  refine oGo.lcmp hd h1 (oGo.if_le hd2 hq hr (fun hc => ?_) (fun hc => ?_))
  · rcases own_ele x y with u | u
    · exact K1 u
    · have := own_lle.2 u; first | exact absurd hc this | exact absurd this hc | omega
  · rcases own_ele x y with u | u
    · have := own_lle.1 u; first | exact absurd hc this | exact absurd this hc | omega
    · exact K2 u
theorem own_heq {x y : Int32} : (x = y → if_icmp.holds .eq x y = true) ∧ (x ≠ y → if_icmp.holds .eq x y = false) :=
  ⟨fun hc => (teq hc).1, fun hc => (feq hc).1⟩
theorem own_deq (x y : Int32) : (x = y) ∨ (x ≠ y) := by exact Decidable.em _
theorem own_eeq (x y : Int64) : (x = y) ∨ (x ≠ y) := by exact Decidable.em _
theorem oGo.icmp_eq {o : Int} {x y : Int32} (hd : decode bytes pc = .ok (.if_icmp .eq o, 3)) (hq : (pc : Int) + o = (q : Int)) (hr : pc + 3 = r) (K1 : x = y → oGo Z own nm bytes ml ret R n0 Q k n h q L S) (K2 : x ≠ y → oGo Z own nm bytes ml ret R n0 Q k n h r L S) : oGo Z own nm bytes ml ret R n0 Q k n h pc L (.int y :: .int x :: S) := by
  rcases own_deq x y with hc | hc
  · exact oGo.st (fun p e m below c T hx hby hA t k => XS.icmpYes hA hx rfl (pc0 := pc) (pc' := q) rfl (hb hby hd) rfl (own_heq.1 hc) (by omega) (by omega) k) (K1 hc)
  · subst hr; exact oGo.st (fun p e m below c T hx hby hA t k => XS.icmpNo hA hx rfl (hb hby hd) rfl (own_heq.2 hc) k) (K2 hc)
theorem oGo.if_eq {o : Int} {x : Int32} (hd : decode bytes pc = .ok (.ifCond .eq o, 3)) (hq : (pc : Int) + o = (q : Int)) (hr : pc + 3 = r) (K1 : x = 0 → oGo Z own nm bytes ml ret R n0 Q k n h q L S) (K2 : x ≠ 0 → oGo Z own nm bytes ml ret R n0 Q k n h r L S) : oGo Z own nm bytes ml ret R n0 Q k n h pc L (.int x :: S) := by
  rcases own_deq x 0 with hc | hc
  · exact oGo.st (fun p e m below c T hx hby hA t k => XS.ifYes hA hx rfl (pc0 := pc) (pc' := q) rfl (hb hby hd) rfl ((if0 _ _).trans (own_heq.1 hc)) (by omega) (by omega) k) (K1 hc)
  · subst hr; exact oGo.st (fun p e m below c T hx hby hA t k => XS.ifNo hA hx rfl (hb hby hd) rfl ((if0 _ _).trans (own_heq.2 hc)) k) (K2 hc)
theorem own_leq {x y : Int64} : (x = y → lcmpW x y = 0) ∧ (x ≠ y → lcmpW x y ≠ 0) := by
  obtain ⟨h1, h2, h3⟩ := c_lcmp x y
  refine ⟨fun hc => ?_, fun hc => ?_⟩ <;> (first | exact (lw_eq x y).mpr hc | exact fun z => hc ((lw_eq x y).mp z))
theorem oGo.lif_eq {o : Int} {x y : Int64} {pc2 : Nat} (hd : decode bytes pc = .ok (.lcmp, 1)) (h1 : pc + 1 = pc2) (hd2 : decode bytes pc2 = .ok (.ifCond .eq o, 3)) (hq : (pc2 : Int) + o = (q : Int)) (hr : pc2 + 3 = r) (K1 : x = y → oGo Z own nm bytes ml ret R n0 Q k n h q L S) (K2 : x ≠ y → oGo Z own nm bytes ml ret R n0 Q k n h r L S) : oGo Z own nm bytes ml ret R n0 Q k n h pc L (.long y :: .long x :: S) := by
  refine oGo.lcmp hd h1 (oGo.if_eq hd2 hq hr (fun hc => ?_) (fun hc => ?_))
  · rcases own_eeq x y with u | u
    · exact K1 u
    · have := own_leq.2 u; first | exact absurd hc this | exact absurd this hc | omega
  · rcases own_eeq x y with u | u
    · have := own_leq.1 u; first | exact absurd hc this | exact absurd this hc | omega
    · exact K2 u
theorem own_hne {x y : Int32} : (x ≠ y → if_icmp.holds .ne x y = true) ∧ (x = y → if_icmp.holds .ne x y = false) :=
  ⟨fun hc => (feq hc).2, fun hc => (teq hc).2⟩
theorem own_dne (x y : Int32) : (x ≠ y) ∨ (x = y) := by exact (Decidable.em _).symm
theorem own_ene (x y : Int64) : (x ≠ y) ∨ (x = y) := by exact (Decidable.em _).symm
theorem oGo.icmp_ne {o : Int} {x y : Int32} (hd : decode bytes pc = .ok (.if_icmp .ne o, 3)) (hq : (pc : Int) + o = (q : Int)) (hr : pc + 3 = r) (K1 : x ≠ y → oGo Z own nm bytes ml ret R n0 Q k n h q L S) (K2 : x = y → oGo Z own nm bytes ml ret R n0 Q k n h r L S) : oGo Z own nm bytes ml ret R n0 Q k n h pc L (.int y :: .int x :: S) := by
  rcases own_dne x y with hc | hc
  · exact oGo.st (fun p e m below c T hx hby hA t k => XS.icmpYes hA hx rfl (pc0 := pc) (pc' := q) rfl (hb hby hd) rfl (own_hne.1 hc) (by omega) (by omega) k) (K1 hc)
  · subst hr; exact oGo.st (fun p e m below c T hx hby hA t k => XS.icmpNo hA hx rfl (hb hby hd) rfl (own_hne.2 hc) k) (K2 hc)
theorem oGo.if_ne {o : Int} {x : Int32} (hd : decode bytes pc = .ok (.ifCond .ne o, 3)) (hq : (pc : Int) + o = (q : Int)) (hr : pc + 3 = r) (K1 : x ≠ 0 → oGo Z own nm bytes ml ret R n0 Q k n h q L S) (K2 : x = 0 → oGo Z own nm bytes ml ret R n0 Q k n h r L S) : oGo Z own nm bytes ml ret R n0 Q k n h pc L (.int x :: S) := by
  rcases own_dne x 0 with hc | hc
  · exact oGo.st (fun p e m below c T hx hby hA t k => XS.ifYes hA hx rfl (pc0 := pc) (pc' := q) rfl (hb hby hd) rfl ((if0 _ _).trans (own_hne.1 hc)) (by omega) (by omega) k) (K1 hc)
  · subst hr; exact oGo.st (fun p e m below c T hx hby hA t k => XS.ifNo hA hx rfl (hb hby hd) rfl ((if0 _ _).trans (own_hne.2 hc)) k) (K2 hc)
theorem own_lne {x y : Int64} : (x ≠ y → lcmpW x y ≠ 0) ∧ (x = y → lcmpW x y = 0) := by
  obtain ⟨h1, h2, h3⟩ := c_lcmp x y
  refine ⟨fun hc => ?_, fun hc => ?_⟩ <;> (first | exact (lw_eq x y).mpr hc | exact fun z => hc ((lw_eq x y).mp z))
theorem oGo.lif_ne {o : Int} {x y : Int64} {pc2 : Nat} (hd : decode bytes pc = .ok (.lcmp, 1)) (h1 : pc + 1 = pc2) (hd2 : decode bytes pc2 = .ok (.ifCond .ne o, 3)) (hq : (pc2 : Int) + o = (q : Int)) (hr : pc2 + 3 = r) (K1 : x ≠ y → oGo Z own nm bytes ml ret R n0 Q k n h q L S) (K2 : x = y → oGo Z own nm bytes ml ret R n0 Q k n h r L S) : oGo Z own nm bytes ml ret R n0 Q k n h pc L (.long y :: .long x :: S) := by
  refine oGo.lcmp hd h1 (oGo.if_ne hd2 hq hr (fun hc => ?_) (fun hc => ?_))
  · rcases own_ene x y with u | u
    · exact K1 u
    · have := own_lne.2 u; first | exact absurd hc this | exact absurd this hc | omega
  · rcases own_ene x y with u | u
    · have := own_lne.1 u; first | exact absurd hc this | exact absurd this hc | omega
    · exact K2 u
theorem oGo.ldc2 {i : Nat} {v : Int64} (hd : decode bytes pc = .ok (.ldc2_w i, 3)) (hq : pc + 3 = q) (w : (Cond.constantLong own i v).before a0 Z = true) (K : oGo Z own nm bytes ml ret R n0 Q k n h q L (.long v :: S)) : oGo Z own nm bytes ml ret R n0 Q k n h pc L S :=
  fun p l e s m args below meth c T locs C X eT N => by
    obtain ⟨hx, hZ, hby, hml, hown, hret, hlk, hnm⟩ := C
    subst hq
    obtain ⟨s₂, o, h1, r⟩ := K p l e s m args below meth c T locs ⟨hx, hZ, hby, hml, hown, hret, hlk, hnm⟩ X eT N
    exact ⟨s₂, o, X.ldc2Long hx hown (mvT hZ w) (g := mkF m pc L S) rfl (hb hby hd) _ h1, r⟩
theorem oGo.ldcI {i : Nat} {v : Int32} (hd : decode bytes pc = .ok (.ldc i, 2)) (hq : pc + 2 = q) (w : (Cond.constant own i v).before a0 Z = true) (K : oGo Z own nm bytes ml ret R n0 Q k n h q L (.int v :: S)) : oGo Z own nm bytes ml ret R n0 Q k n h pc L S :=
  fun p l e s m args below meth c T locs C X eT N => by
    obtain ⟨hx, hZ, hby, hml, hown, hret, hlk, hnm⟩ := C
    subst hq
    obtain ⟨s₂, o, h1, r⟩ := K p l e s m args below meth c T locs ⟨hx, hZ, hby, hml, hown, hret, hlk, hnm⟩ X eT N
    exact ⟨s₂, o, X.ldcInt hx hown (mvT hZ w) (g := mkF m pc L S) rfl (hb hby hd) _ h1, r⟩
/-! the returns -/
theorem own_end {p : Program} {l : Launch} {e : Env} {s : State} {m : MethodId} {args : Array Value} {below : List Frame} {meth : Method} {c : Code} {T : State} {locs : List Loc} (X : Stand p l e R s m args below meth c T locs k n) (hlk : meth.locks = false) {v : Option Value} (hv : meth.sig.returnType = none → v = none) (hk : k ≤ R.cells) (hn : n ≤ R.slots) (N : Fr n0 locs) (hQ : Q v T.heap) {g : JFrame}
    (H : ∀ fs, (∀ (f : JFrame) (acts : List Action), f.method = m → f.locked = none → f.entered = [] → (doReturn e (T.setTop f) acts v).1 = T.setFrames fs) → Steps p.tables e below (T.setTop g) (T.setFrames fs)) :
    ∃ s₂ o, Steps p.tables e below (T.setTop g) s₂ ∧ s₂.status = .running ∧ Ended s₂ below o ∧ ∃ v L', o = .returned v ∧ (Q v s₂.heap ∧ Fr n0 L') ∧ FrameEnd s o s₂ L' R.cells R.slots := by
  obtain ⟨fs, hr, hrun, hended, hW, hsame⟩ := X.leave hv hlk
  exact ⟨_, _, H fs hr, hrun, hended, _, _, rfl, ⟨hQ, N⟩, ⟨_, rfl⟩, hW, hsame.mono hk hn⟩
theorem oGo.retI {z : Int32} (hd : decode bytes pc = .ok (.ireturn, 1)) (hret : ret = some .int) (hk : k ≤ R.cells) (hn : n ≤ R.slots) (hQ : Q (some (.int z)) h) : oGo Z own nm bytes ml ret R n0 Q k n h pc L (.int z :: S) :=
  fun p l e s m args below meth c T locs C X eT N => by
    obtain ⟨hx, hZ, hby, hml, hown, hrt, hlk, hnm⟩ := C
    subst eT
    exact own_end X hlk (fun u => by rw [hrt, hret] at u; cases u) hk hn N hQ fun fs hr => retOut X hx (hrt.trans hret) rfl (Or.inl ⟨rfl, Or.inl rfl, z, rfl⟩) (hb hby hd) hr
theorem oGo.retN {z : Int32} {t : FieldType} (hd : decode bytes pc = .ok (.ireturn, 1)) (hret : ret = some t) (ht : t = .boolean ∨ t = .byte ∨ t = .char ∨ t = .short) (hk : k ≤ R.cells) (hn : n ≤ R.slots) (hQ : Q (some (.int (nar t z))) h) : oGo Z own nm bytes ml ret R n0 Q k n h pc L (.int z :: S) :=
  fun p l e s m args below meth c T locs C X eT N => by
    obtain ⟨hx, hZ, hby, hml, hown, hrt, hlk, hnm⟩ := C
    subst eT
    exact own_end X hlk (fun u => by rw [hrt, hret] at u; cases u) hk hn N hQ fun fs hr => Jvm.RoadKit.retN X hx (hrt.trans hret) ht (hb hby hd) hr
theorem oGo.retJ {z : Int64} (hd : decode bytes pc = .ok (.lreturn, 1)) (hret : ret = some .long) (hk : k ≤ R.cells) (hn : n ≤ R.slots) (hQ : Q (some (.long z)) h) : oGo Z own nm bytes ml ret R n0 Q k n h pc L (.long z :: S) :=
  fun p l e s m args below meth c T locs C X eT N => by
    obtain ⟨hx, hZ, hby, hml, hown, hrt, hlk, hnm⟩ := C
    subst eT
    exact own_end X hlk (fun u => by rw [hrt, hret] at u; cases u) hk hn N hQ fun fs hr => retOut X hx (hrt.trans hret) rfl (Or.inr (Or.inl ⟨rfl, rfl, z, rfl⟩)) (hb hby hd) hr
theorem oGo.retA {v : Value} {t : FieldType} (hd : decode bytes pc = .ok (.areturn, 1)) (hret : ret = some t) (ht : t.isReference = true) (hv : v.isRef = true) (hk : k ≤ R.cells) (hn : n ≤ R.slots) (hQ : Q (some v) h) : oGo Z own nm bytes ml ret R n0 Q k n h pc L (v :: S) :=
  fun p l e s m args below meth c T locs C X eT N => by
    obtain ⟨hx, hZ, hby, hml, hown, hrt, hlk, hnm⟩ := C
    subst eT
    exact own_end X hlk (fun u => by rw [hrt, hret] at u; cases u) hk hn N hQ fun fs hr => retOut X hx (hrt.trans hret) (by cases t <;> first | (cases ht; done) | rfl) (Or.inr (Or.inr (Or.inr (Or.inr ⟨rfl, ht, hv⟩)))) (hb hby hd) hr
theorem oGo.retV (hd : decode bytes pc = .ok (.return_, 1)) (hret : ret = none) (hk : k ≤ R.cells) (hn : n ≤ R.slots) (hQ : Q none h) : oGo Z own nm bytes ml ret R n0 Q k n h pc L [] :=
  fun p l e s m args below meth c T locs C X eT N => by
    obtain ⟨hx, hZ, hby, hml, hown, hrt, hlk, hnm⟩ := C
    subst eT
    exact own_end X hlk (fun _ => rfl) hk hn N hQ fun fs hr => X.returnOut hx (hrt.trans hret) (hb hby hd) hr
/-! calls by contract -/
theorem oGo.callS {y : MethodName} {i W : Nat} {bytes' : ByteArray} {ml' : Nat} {ret' : Option FieldType} {rm : Room} {as : Array Value} {Q' : Option Value → Heap → Prop} {ps : List FieldType} {rt : Option FieldType} (argsL rest : List Value) (hd : decode bytes pc = .ok (.invokestatic i, 3)) (hq : pc + 3 = q)
    (w1 : (Cond.methodLink own i y).before a0 Z = true) (w2 : (Cond.static y).before a0 Z = true) (w3 : (Cond.initialized y.cls).before a0 Z = true) (w4 : (Cond.code y bytes' ml' ret').before a0 Z = true) (hy : y.cls ≠ "java/lang/invoke/MethodHandle" ∧ y.cls ≠ "java/lang/invoke/VarHandle")
    (hC : oCon Z y bytes' ml' ret' rm as h n0 Q') (hS : S = argsL.reverse ++ rest) (has : argsL.toArray = as) (hpd : parseMethodDescriptor y.desc = some ⟨ps, rt⟩) (hlen : argsL.length = ps.length) (hL : L.size = ml) (hW : 2 * 0 + (rest.map fun v => v.category).sum ≤ W) (hf : rm.frames + 1 ≤ R.frames) (hl : W + (ml' + 11) + rm.locals ≤ R.locals) (hc : k + rm.cells ≤ R.cells) (hs : n + rm.slots ≤ R.slots)
    (K : ∀ v h', Q' v h' → oGo Z own nm bytes ml ret R n0 Q (k + rm.cells) (n + rm.slots) h' q L (v.toList ++ rest)) : oGo Z own nm bytes ml ret R n0 Q k n h pc L S :=
  fun p l e s m args below meth c T locs C X eT N => by
    obtain ⟨hx, hZ, hby, hml, hown, hrt, hlk, hnm⟩ := C
    subst hq
    obtain ⟨v, _, ⟨T', L2, k2, n2⟩, -, X', ⟨Lc, hQ', l', y', z'⟩, st⟩ := Jvm.LawKit.callS X hx (y := y) hown (mvT hZ w1) (mvT hZ w2) (mvT hZ w3) (mvT hZ w4) hy (backOf (W := W) (Q := fun v h' L => Q' v h' ∧ Fr n0 L) (hC l []) hZ w4 w3 hf hl) (g := mkF m pc L S) rfl (by rw [hml]; exact hL) (argsL := argsL) (rest := rest) (lenOf hpd hlen) hS hW (hb hby hd) (fun _ _ => ⟨has, eT, hc, hs⟩)
    dsimp only [Pt.U, Pt.locs, Pt.cells, Pt.slots] at X' l' y' z' st hQ'
    subst l' y' z'
    obtain ⟨s₂, o, h1, r⟩ := K v T'.heap hQ'.1 p l e s m args below meth c T' _ ⟨hx, hZ, hby, hml, hown, hrt, hlk, hnm⟩ X' rfl (Fr.app N hQ'.2)
    exact ⟨s₂, o, st _ h1, r⟩
theorem oGo.callI {y : MethodName} {i W : Nat} {bytes' : ByteArray} {ml' : Nat} {rm : Room} {as : Array Value} {Q' : Option Value → Heap → Prop} {ps : List FieldType} {rt : Option FieldType} {a : Addr} (argsL rest : List Value) (hd : decode bytes pc = .ok (.invokespecial i, 3)) (hq : pc + 3 = q) (hy1 : y.name = "<init>")
    (w1 : (Cond.methodLink own i y).before a0 Z = true) (w2 : (Cond.instanceMethod y).before a0 Z = true) (w3 : (Cond.initialized y.cls).before a0 Z = true) (w4 : (Cond.code y bytes' ml' none).before a0 Z = true) (hy : y.cls ≠ "java/lang/invoke/MethodHandle" ∧ y.cls ≠ "java/lang/invoke/VarHandle")
    (hC : oCon Z y bytes' ml' none rm as h n0 Q') (hS : S = argsL.reverse ++ .ref a :: rest) (has : (.ref a :: argsL).toArray = as) (hpd : parseMethodDescriptor y.desc = some ⟨ps, rt⟩) (hlen : argsL.length = ps.length) (hL : L.size = ml) (hW : 2 * 0 + (rest.map fun v => v.category).sum ≤ W) (hf : rm.frames + 1 ≤ R.frames) (hl : W + (ml' + 11) + rm.locals ≤ R.locals) (hc : k + rm.cells ≤ R.cells) (hs : n + rm.slots ≤ R.slots)
    (K : ∀ v h', Q' v h' → oGo Z own nm bytes ml ret R n0 Q (k + rm.cells) (n + rm.slots) h' q L (v.toList ++ rest)) : oGo Z own nm bytes ml ret R n0 Q k n h pc L S :=
  fun p l e s m args below meth c T locs C X eT N => by
    obtain ⟨hx, hZ, hby, hml, hown, hrt, hlk, hnm⟩ := C
    subst hq
    obtain ⟨v, _, ⟨T', L2, k2, n2⟩, -, X', ⟨Lc, hQ', l', y', z'⟩, st⟩ := X.specialBack hx (y := y) hy1 hown (mvT hZ w1) (mvT hZ w2) (mvT hZ w4) hy (backOf (W := W) (Q := fun v h' L => Q' v h' ∧ Fr n0 L) (hC l []) hZ w4 w3 hf hl) (g := mkF m pc L S) rfl (by rw [hml]; exact hL) (Steps.refl _) (a := a) (argsL := argsL) (rest := rest) (lenOf hpd hlen) hS hW (hb hby hd) (fun _ _ => ⟨has, eT, hc, hs⟩)
    dsimp only [Pt.U, Pt.locs, Pt.cells, Pt.slots] at X' l' y' z' st hQ'
    subst l' y' z'
    obtain ⟨s₂, o, h1, r⟩ := K v T'.heap hQ'.1 p l e s m args below meth c T' _ ⟨hx, hZ, hby, hml, hown, hrt, hlk, hnm⟩ X' rfl (Fr.app N hQ'.2)
    exact ⟨s₂, o, st.trans h1, r⟩
theorem oGo.callV {y z : MethodName} {C : String} {i W : Nat} {bytes' : ByteArray} {ml' : Nat} {ret' : Option FieldType} {rm : Room} {as : Array Value} {Q' : Option Value → Heap → Prop} {ps : List FieldType} {rt : Option FieldType} {a : Addr} (argsL rest : List Value) (hd : decode bytes pc = .ok (.invokevirtual i, 3)) (hq : pc + 3 = q)
    (w1 : (Cond.methodLink own i y).before a0 Z = true) (w2 : (Cond.declares y).before a0 Z = true) (w5 : (Cond.selects C y z).before a0 Z = true) (w6 : (Cond.instanceMethod z).before a0 Z = true) (w3 : (Cond.initialized z.cls).before a0 Z = true) (w4 : (Cond.code z bytes' ml' ret').before a0 Z = true) (hyz : y = z) (hy : y.cls ≠ "java/lang/invoke/MethodHandle" ∧ y.cls ≠ "java/lang/invoke/VarHandle") (E : Exa Z h a C)
    (hC : oCon Z z bytes' ml' ret' rm as h n0 Q') (hS : S = argsL.reverse ++ .ref a :: rest) (has : (.ref a :: argsL).toArray = as) (hpd : parseMethodDescriptor y.desc = some ⟨ps, rt⟩) (hlen : argsL.length = ps.length) (hL : L.size = ml) (hW : 2 * 0 + (rest.map fun v => v.category).sum ≤ W) (hf : rm.frames + 1 ≤ R.frames) (hl : W + (ml' + 11) + rm.locals ≤ R.locals) (hc : k + rm.cells ≤ R.cells) (hs : n + rm.slots ≤ R.slots)
    (K : ∀ v h', Q' v h' → oGo Z own nm bytes ml ret R n0 Q (k + rm.cells) (n + rm.slots) h' q L (v.toList ++ rest)) : oGo Z own nm bytes ml ret R n0 Q k n h pc L S :=
  fun p l e s m args below meth c T locs Cx X eT N => by
    obtain ⟨hx, hZ, hby, hml, hown, hrt, hlk, hnm⟩ := Cx
    subst hq hyz
    obtain ⟨cq, kq, qa, qb, qc⟩ := isOf (T := T) hZ eT E
    obtain ⟨v, _, ⟨T', L2, k2, n2⟩, -, X', ⟨Lc, hQ', l', y', z'⟩, st⟩ := X.virtualBack hx (y := y) (z := y) hown (mvT hZ w1) (mvT hZ w2) (notFace_of_selects (args := #[]) (mvT hZ w5)) (mvT hZ w5) (mvT hZ w6) hy (backOf (W := W) (Q := fun v h' L => Q' v h' ∧ Fr n0 L) (hC l []) hZ w4 w3 hf hl) qa qc (g := mkF m pc L S) rfl (by rw [hml]; exact hL) (Steps.refl _) (argsL := argsL) (rest := rest) (lenOf hpd hlen) hS hW (hb hby hd) (fun _ _ => ⟨has, eT, hc, hs⟩)
    dsimp only [Pt.U, Pt.locs, Pt.cells, Pt.slots] at X' l' y' z' st hQ'
    subst l' y' z'
    obtain ⟨s₂, o, h1, r⟩ := K v T'.heap hQ'.1 p l e s m args below meth c T' _ ⟨hx, hZ, hby, hml, hown, hrt, hlk, hnm⟩ X' rfl (Fr.app N hQ'.2)
    exact ⟨s₂, o, st.trans h1, r⟩
theorem oGo.initO {i W : Nat} {a : Addr} (hd : decode bytes pc = .ok (.invokespecial i, 3)) (hq : pc + 3 = q) (w1 : (Cond.methodLink own i Lib.objectInit).before a0 Z = true) (w2 : (Cond.instanceMethod Lib.objectInit).before a0 Z = true) (w3 : (Cond.code Lib.objectInit ⟨#[0xb1]⟩ 1 none).before a0 Z = true) (hL : L.size = ml) (hf : 1 ≤ R.frames) (hW : 2 * 0 + (S.map fun v => v.category).sum ≤ W) (hl : W + 12 ≤ R.locals) (K : oGo Z own nm bytes ml ret R n0 Q k n h q L S) : oGo Z own nm bytes ml ret R n0 Q k n h pc L (.ref a :: S) :=
  fun p l e s m args below meth c T locs C X eT N => by
    obtain ⟨hx, hZ, hby, hml, hown, hrt, hlk, hnm⟩ := C
    subst hq
    obtain ⟨T', X', e', st⟩ := Jvm.RoadKit.initO X hx hZ hown w1 w2 w3 eT (g := mkF m pc L (.ref a :: S)) rfl (by rw [hml]; exact hL) rfl (hb hby hd) hf hW hl
    obtain ⟨s₂, o, h1, r⟩ := K p l e s m args below meth c T' locs ⟨hx, hZ, hby, hml, hown, hrt, hlk, hnm⟩ X' e' N
    exact ⟨s₂, o, st _ h1, r⟩
/-! objects -/
theorem own_keep {h h' : Heap} (E : Ext h h') : Keep h h' [] := (Keep.refl h []).ext E
theorem oGo.newO {C : String} {i nn : Nat} (hd : decode bytes pc = .ok (.new i, 3)) (hq : pc + 3 = q) (w : (Cond.classLink own i C).before a0 Z = true) (wi : (Cond.instantiable C nn).before a0 Z = true) (wz : (Cond.initialized C).before a0 Z = true) (hc : k + 1 ≤ R.cells) (hs : n + nn ≤ R.slots)
    (K : ∀ h' a, a = h.size → Keep h h' [] → Exa Z h' a C → (∀ {O f d : String} {ty : FieldType}, Laid Z a0 C O f d → parseFieldDescriptor d = some ty → Fld Z h' a O f d (defaultValue ty)) → oGo Z own nm bytes ml ret R n0 Q (k + 1) (n + nn) h' q L (.ref a :: S)) : oGo Z own nm bytes ml ret R n0 Q k n h pc L S :=
  fun p l e s m args below meth c T locs Cx X eT N => by
    obtain ⟨hx, hZ, hby, hml, hown, hrt, hlk, hnm⟩ := Cx
    subst hq
    obtain ⟨T', h', X', e', E, A, D, -, st⟩ := Jvm.RoadKit.newO X hx hZ hown w wi wz eT (g := mkF m pc L S) rfl (hb hby hd) hc hs
    obtain ⟨s₂, o, h1, r⟩ := K h' h.size rfl (own_keep E) A D p l e s m args below meth c T' locs ⟨hx, hZ, hby, hml, hown, hrt, hlk, hnm⟩ X' e' N
    exact ⟨s₂, o, st _ h1, r⟩
theorem oGo.getF {R0 O f d host : String} {i : Nat} {a : Addr} {v : Value} (hd : decode bytes pc = .ok (.getfield i, 3)) (hq : pc + 3 = q) (w : (Cond.fieldLink own i R0 f d).before a0 Z = true ∨ (Cond.fieldLinkNest own i R0 f d host).before a0 Z = true) (via : Via Z R0 O f d) (F : Fld Z h a O f d v) (K : oGo Z own nm bytes ml ret R n0 Q k n h q L (v :: S)) : oGo Z own nm bytes ml ret R n0 Q k n h pc L (.ref a :: S) :=
  fun p l e s m args below meth c T locs C X eT N => by
    obtain ⟨hx, hZ, hby, hml, hown, hrt, hlk, hnm⟩ := C
    subst hq
    obtain ⟨T', X', e', st⟩ := Jvm.RoadKit.getF X hx hZ hown w via eT F (g := mkF m pc L (.ref a :: S)) rfl rfl (hb hby hd)
    obtain ⟨s₂, o, h1, r⟩ := K p l e s m args below meth c T' locs ⟨hx, hZ, hby, hml, hown, hrt, hlk, hnm⟩ X' e' N
    exact ⟨s₂, o, st _ h1, r⟩
theorem oGo.getS {R0 O f d : String} {i : Nat} {v : Value} (hd : decode bytes pc = .ok (.getstatic i, 3)) (hq : pc + 3 = q) (w : (Cond.fieldLink own i R0 f d).before a0 Z = true) (via : Via Z R0 O f d) (F : Sta Z h O f d v) (K : oGo Z own nm bytes ml ret R n0 Q k n h q L (v :: S)) : oGo Z own nm bytes ml ret R n0 Q k n h pc L S :=
  fun p l e s m args below meth c T locs C X eT N => by
    obtain ⟨hx, hZ, hby, hml, hown, hrt, hlk, hnm⟩ := C
    subst hq
    obtain ⟨T', X', e', st⟩ := Jvm.RoadKit.getS (host := "") X hx hZ hown w via eT F (g := mkF m pc L S) rfl (hb hby hd)
    obtain ⟨s₂, o, h1, r⟩ := K p l e s m args below meth c T' locs ⟨hx, hZ, hby, hml, hown, hrt, hlk, hnm⟩ X' e' N
    exact ⟨s₂, o, st _ h1, r⟩
theorem oGo.putF {R0 O f d host C : String} {i kk : Nat} {ty : FieldType} {a : Addr} {v w0 : Value} (hd : decode bytes pc = .ok (.putfield i, 3)) (hq : pc + 3 = q) (w : (Cond.fieldLink own i R0 f d).before a0 Z = true ∨ (Cond.fieldLinkNest own i R0 f d host).before a0 Z = true) (via : Via Z R0 O f d) (F : Fld Z h a O f d w0) (E : Exa Z h a C)
    (Lw : (Cond.lays C O f d).before a0 Z = true ∨ ((Cond.laysFinal C O f d).before a0 Z = true ∧ own = O ∧ nm = "<init>")) (wi : (Cond.instantiable C kk).before a0 Z = true) (hty : parseFieldDescriptor d = some ty) (hn : narrow ty v = v) (hf : fits ty v = true) (ha : n0 ≤ a)
    (K : ∀ h', Keep h h' [a] → Exa Z h' a C → Fld Z h' a O f d v → (∀ {O' f' d' : String} {u : Value}, Jvm.RoadKit.slotOf Z O' f' d' ≠ Jvm.RoadKit.slotOf Z O f d → Fld Z h a O' f' d' u → Fld Z h' a O' f' d' u) → oGo Z own nm bytes ml ret R n0 Q k n h' q L S) : oGo Z own nm bytes ml ret R n0 Q k n h pc L (v :: .ref a :: S) :=
  fun p l e s m args below meth c T locs Cx X eT N => by
    obtain ⟨hx, hZ, hby, hml, hown, hrt, hlk, hnm⟩ := Cx
    subst hq
    obtain ⟨T', h', X', e', W, st⟩ := Jvm.RoadKit.putF X hx hZ hown w via eT F E (Lw.imp id fun u => ⟨u.1, u.2.1, hnm.trans u.2.2⟩) wi hty hn hf (g := mkF m pc L (v :: .ref a :: S)) rfl rfl (hb hby hd)
    obtain ⟨s₂, o, h1, r⟩ := K h' (Keep.of_wr W) (E.wr W) (F.same W) (fun hne G => G.other W (Or.inr hne)) p l e s m args below meth c T' _ ⟨hx, hZ, hby, hml, hown, hrt, hlk, hnm⟩ X' e' (Fr.snoc X' N ha)
    exact ⟨s₂, o, st _ h1, r⟩
/-! arrays -/
def Ars (Z : State) (h : Heap) (a : Addr) (ty : FieldType) (vs : List Value) : Prop := ∃ c : Cell, Arr Z h a c ty ∧ c.slots.toList = vs ∧ ∀ v ∈ vs, fits ty v = true
theorem Ars.lt {a : Addr} {ty : FieldType} {vs : List Value} (A : Ars Z h a ty vs) : a < h.size := by obtain ⟨c, A, -⟩ := A; exact A.lt
theorem Ars.keep {h' : Heap} {ws : List Addr} {a : Addr} {ty : FieldType} {vs : List Value} (A : Ars Z h a ty vs) (K : Keep h h' ws) (q : a ∉ ws) : Ars Z h' a ty vs := by obtain ⟨c, A, r⟩ := A; exact ⟨c, ⟨K.2.1 a c A.1 q, A.2⟩, r⟩
theorem own_cn {j : Int32} {i : Nat} (hi : j.toInt = (i : Int)) : j.toNatClampNeg = i := by simp [Int32.toNatClampNeg, hi]
theorem own_in {j : Int32} {i : Nat} {c : Cell} {vs : List Value} (hi : j.toInt = (i : Int)) (hc : c.slots.toList = vs) (hl : i < vs.length) : ¬ (j < 0 ∨ c.slots.size ≤ j.toNatClampNeg) := by
  have e1 : c.slots.size = vs.length := by rw [← hc]; simp
  rw [own_cn hi, e1]
  rintro (u | u)
  · have := Int32.lt_iff_toInt_lt.mp u; have e0 : (0 : Int32).toInt = 0 := rfl; omega
  · omega
theorem own_at {j : Int32} {i : Nat} {c : Cell} {vs : List Value} {v : Value} (hi : j.toInt = (i : Int)) (hc : c.slots.toList = vs) (hv : vs[i]? = some v) : c.slots[j.toNatClampNeg]? = some v := by
  rw [own_cn hi, ← hv, ← hc]; simp
theorem Ars.wr {h' : Heap} {a : Addr} {ty : FieldType} {vs : List Value} {c : Cell} {i : Nat} {v : Value} {j : Int32} (hi : j.toInt = (i : Int)) (A : Arr Z h a c ty) (hc : c.slots.toList = vs) (hf : ∀ v ∈ vs, fits ty v = true) (hv : fits ty v = true) (W : Wr h h' a j.toNatClampNeg v) : Ars Z h' a ty (vs.set i v) := by
  refine ⟨_, A.same W, ?_, fun u hu => ?_⟩
  · rw [← hc, own_cn hi]; simp [Cell.setSlot]
  · rcases List.mem_or_eq_of_mem_set hu with u1 | u1
    · exact hf u u1
    · exact u1 ▸ hv
theorem oGo.newP {aty : ArrayType} {nn : Int32} {len : Nat} {ad : String} (cap : Nat) (hd : decode bytes pc = .ok (.newarray aty, 2)) (hq : pc + 2 = q) (w : (Cond.arrayClass (newarray.typeOf aty)).before a0 Z = true) (hn : nn.toInt = (len : Int)) (hcap : len ≤ cap) (hb8 : cap * 8 ≤ 536870912) (hc : k + 1 ≤ R.cells) (hs : n + cap ≤ R.slots) (had : "[" ++ (newarray.typeOf aty).toString = ad)
    (K : ∀ h' a, a = h.size → Keep h h' [] → Ars Z h' a (newarray.typeOf aty) (List.replicate len (defaultValue (newarray.typeOf aty))) → Exa Z h' a ad → oGo Z own nm bytes ml ret R n0 Q (k + 1) (n + cap) h' q L (.ref a :: S)) : oGo Z own nm bytes ml ret R n0 Q k n h pc L (.int nn :: S) :=
  fun p l e s m args below meth c T locs Cx X eT N => by
    obtain ⟨hx, hZ, hby, hml, hown, hrt, hlk, hnm⟩ := Cx
    subst hq
    have h0 : ¬ nn < 0 := fun u => by have := Int32.lt_iff_toInt_lt.mp u; have e0 : (0 : Int32).toInt = 0 := rfl; omega
    obtain ⟨T', h', cA, X', e', E, A, EA, st⟩ := Jvm.RoadKit.newPE X hx hZ w eT (g := mkF m pc L (.int nn :: S)) rfl (hb hby hd) rfl h0 (cap := cap) (by rw [own_cn hn]; exact hcap) hb8 hc hs had
    obtain ⟨s₂, o, h1, r⟩ := K h' h.size rfl (own_keep E) ⟨_, A, by simp [newA, own_cn hn], fun v hv => by rw [(List.mem_replicate.mp hv).2]; cases aty <;> rfl⟩ EA p l e s m args below meth c T' locs ⟨hx, hZ, hby, hml, hown, hrt, hlk, hnm⟩ X' e' N
    exact ⟨s₂, o, st _ h1, r⟩
theorem oGo.cast {i : Nat} {C : String} {a : Addr} (hd : decode bytes pc = .ok (.checkcast i, 3)) (hq : pc + 3 = q) (w : (Cond.classLink own i C).before a0 Z = true) (F : Ins Z h a C true) (K : oGo Z own nm bytes ml ret R n0 Q k n h q L (.ref a :: S)) : oGo Z own nm bytes ml ret R n0 Q k n h pc L (.ref a :: S) :=
  fun p l e s m args below meth c T locs Cx X eT N => by
    obtain ⟨hx, hZ, hby, hml, hown, hrt, hlk, hnm⟩ := Cx
    subst hq
    obtain ⟨T', X', e', st⟩ := Jvm.RoadKit.castY X hx hZ hown w eT F (g := mkF m pc L (.ref a :: S)) rfl rfl (hb hby hd)
    obtain ⟨s₂, o, h1, r⟩ := K p l e s m args below meth c T' locs ⟨hx, hZ, hby, hml, hown, hrt, hlk, hnm⟩ X' e' N
    exact ⟨s₂, o, st _ h1, r⟩
theorem oGo.arraylength {a : Addr} {ty : FieldType} {vs : List Value} {v : Int32} (hd : decode bytes pc = .ok (.arraylength, 1)) (hq : pc + 1 = q) (A : Ars Z h a ty vs) (hv : Int32.ofNat vs.length = v) (K : oGo Z own nm bytes ml ret R n0 Q k n h q L (.int v :: S)) : oGo Z own nm bytes ml ret R n0 Q k n h pc L (.ref a :: S) :=
  fun p l e s m args below meth c T locs Cx X eT N => by
    obtain ⟨hx, hZ, hby, hml, hown, hrt, hlk, hnm⟩ := Cx
    subst hq
    obtain ⟨cl, A, hc, -⟩ := A
    have e1 : cl.slots.size.toInt32 = v := by rw [← hv, ← hc, Array.length_toList]
    obtain ⟨s₂, o, h1, r⟩ := K p l e s m args below meth c T locs ⟨hx, hZ, hby, hml, hown, hrt, hlk, hnm⟩ X eT N
    exact ⟨s₂, o, X.arraylength hx (by rw [eT]; exact A.1) (State.isArrayOf_alike hZ.alike A.2.1) (g := mkF m pc L (.ref a :: S)) rfl rfl (hb hby hd) _ (by rw [e1]; exact h1), r⟩
theorem oGo.iaload {a : Addr} {j : Int32} {i : Nat} {vs : List Value} {v : Value} (hd : decode bytes pc = .ok (.iaload, 1)) (hq : pc + 1 = q) (A : Ars Z h a .int vs) (hi : j.toInt = (i : Int)) (hv : vs[i]? = some v) (K : oGo Z own nm bytes ml ret R n0 Q k n h q L (v :: S)) : oGo Z own nm bytes ml ret R n0 Q k n h pc L (.int j :: .ref a :: S) :=
  fun p l e s m args below meth c T locs Cx X eT N => by
    obtain ⟨hx, hZ, hby, hml, hown, hrt, hlk, hnm⟩ := Cx
    subst hq
    obtain ⟨cl, A, hc, -⟩ := A
    obtain ⟨s₂, o, h1, r⟩ := K p l e s m args below meth c T locs ⟨hx, hZ, hby, hml, hown, hrt, hlk, hnm⟩ X eT N
    exact ⟨s₂, o, X.iaload hx (by rw [eT]; exact A.1) (State.isArrayOf_alike hZ.alike A.2.1) A.2.2 (own_in hi hc (List.getElem?_eq_some_iff.mp hv).1) (own_at hi hc hv) (g := mkF m pc L (.int j :: .ref a :: S)) rfl rfl (hb hby hd) _ h1, r⟩
theorem oGo.laload {a : Addr} {j : Int32} {i : Nat} {vs : List Value} {v : Value} (hd : decode bytes pc = .ok (.laload, 1)) (hq : pc + 1 = q) (A : Ars Z h a .long vs) (hi : j.toInt = (i : Int)) (hv : vs[i]? = some v) (K : oGo Z own nm bytes ml ret R n0 Q k n h q L (v :: S)) : oGo Z own nm bytes ml ret R n0 Q k n h pc L (.int j :: .ref a :: S) :=
  fun p l e s m args below meth c T locs Cx X eT N => by
    obtain ⟨hx, hZ, hby, hml, hown, hrt, hlk, hnm⟩ := Cx
    subst hq
    obtain ⟨cl, A, hc, -⟩ := A
    obtain ⟨s₂, o, h1, r⟩ := K p l e s m args below meth c T locs ⟨hx, hZ, hby, hml, hown, hrt, hlk, hnm⟩ X eT N
    exact ⟨s₂, o, X.laload hx (by rw [eT]; exact A.1) (State.isArrayOf_alike hZ.alike A.2.1) A.2.2 (own_in hi hc (List.getElem?_eq_some_iff.mp hv).1) (own_at hi hc hv) (g := mkF m pc L (.int j :: .ref a :: S)) rfl rfl (hb hby hd) _ h1, r⟩
theorem oGo.baload {a : Addr} {j : Int32} {i : Nat} {vs : List Value} {v : Value} (hd : decode bytes pc = .ok (.baload, 1)) (hq : pc + 1 = q) (A : Ars Z h a .byte vs) (hi : j.toInt = (i : Int)) (hv : vs[i]? = some v) (K : oGo Z own nm bytes ml ret R n0 Q k n h q L (v :: S)) : oGo Z own nm bytes ml ret R n0 Q k n h pc L (.int j :: .ref a :: S) :=
  fun p l e s m args below meth c T locs Cx X eT N => by
    obtain ⟨hx, hZ, hby, hml, hown, hrt, hlk, hnm⟩ := Cx
    subst hq
    obtain ⟨cl, A, hc, -⟩ := A
    obtain ⟨s₂, o, h1, r⟩ := K p l e s m args below meth c T locs ⟨hx, hZ, hby, hml, hown, hrt, hlk, hnm⟩ X eT N
    exact ⟨s₂, o, X.baloadBytes hx (by rw [eT]; exact A.1) (State.isArrayOf_alike hZ.alike A.2.1) A.2.2 (own_in hi hc (List.getElem?_eq_some_iff.mp hv).1) (own_at hi hc hv) (g := mkF m pc L (.int j :: .ref a :: S)) rfl rfl (hb hby hd) _ h1, r⟩
theorem oGo.iastore {a : Addr} {j : Int32} {x : Int32} {i : Nat} {vs : List Value} (hd : decode bytes pc = .ok (.iastore, 1)) (hq : pc + 1 = q) (A : Ars Z h a .int vs) (hi : j.toInt = (i : Int)) (hl : i < vs.length) (ha : n0 ≤ a) (K : ∀ h', Keep h h' [a] → Ars Z h' a .int (vs.set i (.int x)) → oGo Z own nm bytes ml ret R n0 Q k n h' q L S) : oGo Z own nm bytes ml ret R n0 Q k n h pc L (.int x :: .int j :: .ref a :: S) :=
  fun p l e s m args below meth c T locs Cx X eT N => by
    obtain ⟨hx, hZ, hby, hml, hown, hrt, hlk, hnm⟩ := Cx
    subst hq
    obtain ⟨cl, A, hc, hf⟩ := A
    obtain ⟨T', h', X', e', W, st⟩ := Jvm.RoadKit.stI X hx hZ eT A (own_in hi hc hl) (g := mkF m pc L (.int x :: .int j :: .ref a :: S)) rfl rfl (hb hby hd)
    obtain ⟨s₂, o, h1, r⟩ := K h' (Keep.of_wr W) (Ars.wr hi A hc hf rfl W) p l e s m args below meth c T' _ ⟨hx, hZ, hby, hml, hown, hrt, hlk, hnm⟩ X' e' (Fr.snoc X' N ha)
    exact ⟨s₂, o, st _ h1, r⟩
theorem oGo.lastore {a : Addr} {j : Int32} {x : Int64} {i : Nat} {vs : List Value} (hd : decode bytes pc = .ok (.lastore, 1)) (hq : pc + 1 = q) (A : Ars Z h a .long vs) (hi : j.toInt = (i : Int)) (hl : i < vs.length) (ha : n0 ≤ a) (K : ∀ h', Keep h h' [a] → Ars Z h' a .long (vs.set i (.long x)) → oGo Z own nm bytes ml ret R n0 Q k n h' q L S) : oGo Z own nm bytes ml ret R n0 Q k n h pc L (.long x :: .int j :: .ref a :: S) :=
  fun p l e s m args below meth c T locs Cx X eT N => by
    obtain ⟨hx, hZ, hby, hml, hown, hrt, hlk, hnm⟩ := Cx
    subst hq
    obtain ⟨cl, A, hc, hf⟩ := A
    obtain ⟨T', h', X', e', W, st⟩ := Jvm.RoadKit.stJ X hx hZ eT A (own_in hi hc hl) (g := mkF m pc L (.long x :: .int j :: .ref a :: S)) rfl rfl (hb hby hd)
    obtain ⟨s₂, o, h1, r⟩ := K h' (Keep.of_wr W) (Ars.wr hi A hc hf rfl W) p l e s m args below meth c T' _ ⟨hx, hZ, hby, hml, hown, hrt, hlk, hnm⟩ X' e' (Fr.snoc X' N ha)
    exact ⟨s₂, o, st _ h1, r⟩
theorem oGo.bastore {a : Addr} {j x y : Int32} {i : Nat} {vs : List Value} (hd : decode bytes pc = .ok (.bastore, 1)) (hq : pc + 1 = q) (A : Ars Z h a .byte vs) (hi : j.toInt = (i : Int)) (hl : i < vs.length) (ha : n0 ≤ a) (hy : x.toInt8.toInt32 = y) (K : ∀ h', Keep h h' [a] → Ars Z h' a .byte (vs.set i (.int y)) → oGo Z own nm bytes ml ret R n0 Q k n h' q L S) : oGo Z own nm bytes ml ret R n0 Q k n h pc L (.int x :: .int j :: .ref a :: S) :=
  fun p l e s m args below meth c T locs Cx X eT N => by
    obtain ⟨hx, hZ, hby, hml, hown, hrt, hlk, hnm⟩ := Cx
    subst hq hy
    obtain ⟨cl, A, hc, hf⟩ := A
    obtain ⟨T', h', X', e', W, st⟩ := Jvm.RoadKit.stB X hx hZ eT A (own_in hi hc hl) (g := mkF m pc L (.int x :: .int j :: .ref a :: S)) rfl rfl (hb hby hd)
    obtain ⟨s₂, o, h1, r⟩ := K h' (Keep.of_wr W) (Ars.wr hi A hc hf (fits_nar_byte x) W) p l e s m args below meth c T' _ ⟨hx, hZ, hby, hml, hown, hrt, hlk, hnm⟩ X' e' (Fr.snoc X' N ha)
    exact ⟨s₂, o, st _ h1, r⟩
/-! small numbers -/
theorem own_oi {i : Nat} (hi : i < 2147483648) : (Int32.ofNat i).toInt = (i : Int) := Int32.toInt_ofNat_of_lt (by omega)
theorem own_oinc (i : Nat) : Int32.ofNat i + Int32.ofInt 1 = Int32.ofNat (i + 1) := (Int32.ofNat_add i 1).symm
theorem own_oadd {i m : Nat} {c : Int32} (hc : c = Int32.ofNat m) : Int32.ofNat i + c = Int32.ofNat (i + m) := by rw [hc]; exact (Int32.ofNat_add i m).symm
theorem own_oiadd {i m : Nat} {c : Int32} (hc : c = Int32.ofNat m) (h : i + m < 2147483648) : (Int32.ofNat i + c).toInt = ((i + m : Nat) : Int) := by rw [own_oadd hc]; exact own_oi h
theorem own_pred {i : Nat} (hi : i < 2147483647) : (Int32.ofNat (i + 1) - (1 : Int32)).toInt = (i : Int) := by
  have a := c_isub (Int32.ofNat (i + 1)) 1
  have e := own_oi (i := i + 1) (by omega)
  have z : (1 : Int32).toInt = 1 := by decide
  have r := rng32 (Int32.ofNat (i + 1) - 1)
  omega
theorem own_bb (x : Int32) : x.toInt8.toInt32.toInt8.toInt32 = x.toInt8.toInt32 := by
  apply Int32.toInt_inj.mp
  have h1 := c_i2b x
  have h2 := c_i2b x.toInt8.toInt32
  omega
def own_ints (vs : List Value) (n : Nat) : Prop := vs.length = n ∧ ∀ k, k < n → ∃ x : Int32, vs[k]? = some (.int x)
theorem own_ints.set {vs : List Value} {n i : Nat} {x : Int32} (u : own_ints vs n) : own_ints (vs.set i (.int x)) n := by
  refine ⟨by rw [List.length_set]; exact u.1, fun k hk => ?_⟩
  by_cases e : i = k
  · subst e; exact ⟨x, List.getElem?_set_self (by rw [u.1]; exact hk)⟩
  · rw [List.getElem?_set_ne e]; exact u.2 k hk
theorem own_irem (x y : Int32) (hx : 0 ≤ x.toInt) : (x % y).toInt = x.toInt % y.toInt := by rw [Int32.toInt_mod]; exact (tr _ _).1 hx
theorem own_lrem (x y : Int64) (hx : 0 ≤ x.toInt) : (x % y).toInt = x.toInt % y.toInt := by rw [Int64.toInt_mod]; exact (tr _ _).1 hx
theorem own_int32 {x y : Int32} (e : x.toInt = y.toInt) : x = y := Int32.toInt_inj.mp e
theorem own_int64 {x y : Int64} (e : x.toInt = y.toInt) : x = y := Int64.toInt_inj.mp e
theorem own_nat {x : Int32} {i : Nat} (e : x.toInt = (i : Int)) (hi : i < 2147483648) : x = Int32.ofNat i := own_int32 (e.trans (own_oi hi).symm)
/-! System.arraycopy -/
theorem Ars.arv {a : Addr} {ty : FieldType} {vs : List Value} (dv : Value) (A : Ars Z h a ty vs) (hl : vs.length < 2147483648) : ∃ k, Arv Z h a k ty (Int32.ofNat vs.length) vs dv := by
  obtain ⟨c, A, hc, hf⟩ := A
  have e1 : c.slots.size = vs.length := by rw [← hc, Array.length_toList]
  have e2 : (Int32.ofNat vs.length).toNatClampNeg = vs.length := own_cn (own_oi hl)
  refine ⟨c.cls, c, A, rfl, by rw [e1, e2], fun u => ?_, fun k hk => ?_, fun i hi => ?_⟩
  · have := Int32.lt_iff_toInt_lt.mp u
    have e0 : (0 : Int32).toInt = 0 := rfl
    rw [own_oi hl] at this
    omega
  · rw [e1] at hk
    rw [← Array.getElem?_toList, hc, List.getD_eq_getElem?_getD, List.getElem?_eq_getElem hk]
    rfl
  · rw [e1] at hi
    rw [List.getD_eq_getElem?_getD, List.getElem?_eq_getElem hi]
    exact hf _ (List.getElem_mem hi)
theorem Ars.of_arv {a : Addr} {ty : FieldType} {vs : List Value} {dv : Value} {z : Int32} {k : ClassId} (A : Arv Z h a k ty z vs dv) (hz : z.toNatClampNeg = vs.length) : Ars Z h a ty vs := by
  obtain ⟨c, A, -, e1, -, H, F⟩ := A
  rw [hz] at e1
  refine ⟨c, A, List.ext_getElem? fun i => ?_, fun v hv => ?_⟩
  · rw [Array.getElem?_toList]
    by_cases u : i < vs.length
    · rw [H i (by rw [e1]; exact u), List.getD_eq_getElem?_getD, List.getElem?_eq_getElem u]; rfl
    · rw [List.getElem?_eq_none (by omega), Array.getElem?_eq_none (by omega)]
  · obtain ⟨i, hi, rfl⟩ := List.mem_iff_getElem.mp hv
    have := F i (by rw [e1]; exact hi)
    rwa [List.getD_eq_getElem?_getD, List.getElem?_eq_getElem hi] at this
theorem own_us {vs : List Value} {si len : Nat} {dv : Value} (hl : si + len ≤ vs.length) : (vs.drop si).take len = (List.range len).map fun i => vs.getD (si + i) dv := by
  apply List.ext_getElem
  · simp; omega
  · intro i h1 h2
    simp only [List.length_map, List.length_range] at h2
    simp [List.getD_eq_getElem?_getD, List.getElem?_eq_getElem (show si + i < vs.length by omega)]
theorem own_nn {j : Int32} {i : Nat} (hi : j.toInt = (i : Int)) : ¬ j < 0 := fun u => by
  have := Int32.lt_iff_toInt_lt.mp u
  have e0 : (0 : Int32).toInt = 0 := rfl
  omega
theorem oGo.acopy {i W : Nat} {a b : Addr} {ty : FieldType} {vs vd : List Value} {sp dp nn : Int32} {si di len : Nat} (hd : decode bytes pc = .ok (.invokestatic i, 3)) (hq : pc + 3 = q)
    (w1 : (Cond.methodLink own i Jvm.Stand.acN).before a0 Z = true) (w2 : (Cond.native Jvm.Stand.acN).before a0 Z = true) (w3 : (Cond.static Jvm.Stand.acN).before a0 Z = true) (w4 : (Cond.initialized "java/lang/System").before a0 Z = true)
    (A : Ars Z h a ty vs) (B : Ars Z h b ty vd) (hty : refKind ty = false) (h1 : sp.toInt = (si : Int)) (h2 : dp.toInt = (di : Int)) (h3 : nn.toInt = (len : Int)) (h4 : si + len ≤ vs.length) (h5 : di + len ≤ vd.length) (l1 : vs.length < 2147483648) (l2 : vd.length < 2147483648) (ge : n0 ≤ b) (hL : L.size = ml) (hf : 1 ≤ R.frames) (hW : 2 * 0 + (S.map fun v => v.category).sum ≤ W) (hlo : W + (nativeFrameWords "java/lang/System" "arraycopy" 5 + 11) ≤ R.locals)
    (K : ∀ h', Keep h h' [b] → Ars Z h' b ty (vd.take di ++ (vs.drop si).take len ++ vd.drop (di + len)) → oGo Z own nm bytes ml ret R n0 Q k n h' q L S) : oGo Z own nm bytes ml ret R n0 Q k n h pc L (.int nn :: .int dp :: .ref b :: .int sp :: .ref a :: S) :=
  fun p l e s m args below meth c T locs Cx X eT N => by
    obtain ⟨hx, hZ, hby, hml, hown, hrt, hlk, hnm⟩ := Cx
    subst hq
    obtain ⟨k1, A'⟩ := A.arv .null l1
    obtain ⟨k2, B'⟩ := B.arv .null l2
    have c1 := own_cn h1
    have c2 := own_cn h2
    have c3 := own_cn h3
    have e1 := own_cn (own_oi l1)
    have e2 := own_cn (own_oi l2)
    obtain ⟨T', h', L', X', e', N', K', B'', st⟩ := cpA X hx hZ hown w1 w2 w3 w4 eT A' B' (Or.inl ⟨rfl, hty⟩) (own_nn h1) (own_nn h2) (own_nn h3) (by rw [c1, c3, e1]; exact h4) (by rw [c2, c3, e2]; exact h5) rfl (by rw [c2, c3]; exact h5) N ge (g := mkF m pc L (.int nn :: .int dp :: .ref b :: .int sp :: .ref a :: S)) rfl (by rw [hml]; exact hL) rfl (hb hby hd) hf hW hlo
    rw [c1, c2, c3, ← own_us h4] at B''
    obtain ⟨s₂, o, g1, r⟩ := K h' K' (Ars.of_arv B'' (by rw [e2]; simp only [List.length_append, List.length_take, List.length_drop]; omega)) p l e s m args below meth c T' L' ⟨hx, hZ, hby, hml, hown, hrt, hlk, hnm⟩ X' e' N'
    exact ⟨s₂, o, st _ g1, r⟩
theorem oGo.clone {i W : Nat} {ad : String} {a : Addr} {ty : FieldType} {vs : List Value} (cap : Nat) (hd : decode bytes pc = .ok (.invokevirtual i, 3)) (hq : pc + 3 = q)
    (w1 : (Cond.methodLink own i ⟨ad, "clone", "()Ljava/lang/Object;"⟩).before a0 Z = true) (w2 : (Cond.sameMethod ad "java/lang/Object" "clone" "()Ljava/lang/Object;").before a0 Z = true) (w3 : (Cond.native ⟨"java/lang/Object", "clone", "()Ljava/lang/Object;"⟩).before a0 Z = true)
    (w4 : (Cond.instanceMethod ⟨"java/lang/Object", "clone", "()Ljava/lang/Object;"⟩).before a0 Z = true) (w5 : (Cond.selects ad ⟨ad, "clone", "()Ljava/lang/Object;"⟩ ⟨"java/lang/Object", "clone", "()Ljava/lang/Object;"⟩).before a0 Z = true) (w6 : (Cond.castable ad "java/lang/Cloneable").before a0 Z = true)
    (A : Ars Z h a ty vs) (E : Exa Z h a ad) (hl : vs.length < 2147483648) (hcap : vs.length ≤ cap) (hL : L.size = ml) (hf : 1 ≤ R.frames) (hW : 2 * 0 + (S.map fun v => v.category).sum ≤ W) (hlo : W + 14 ≤ R.locals) (hc : k + 1 ≤ R.cells) (hs : n + cap ≤ R.slots)
    (K : ∀ h' b, b = h.size → Keep h h' [] → Ars Z h' b ty vs → Exa Z h' b ad → oGo Z own nm bytes ml ret R n0 Q (k + 1) (n + cap) h' q L (.ref b :: S)) : oGo Z own nm bytes ml ret R n0 Q k n h pc L (.ref a :: S) :=
  fun p l e s m args below meth c T locs Cx X eT N => by
    obtain ⟨hx, hZ, hby, hml, hown, hrt, hlk, hnm⟩ := Cx
    subst hq
    obtain ⟨k1, A'⟩ := A.arv .null hl
    have e1 := own_cn (own_oi hl)
    obtain ⟨T', h', X', e', Ex, B', EB, st⟩ := cloneH X hx hZ hown w1 w2 w3 w4 w5 w6 eT A'.arh E (g := mkF m pc L (.ref a :: S)) rfl (by rw [hml]; exact hL) rfl (hb hby hd) hf hW hlo (cap := cap) (by rw [e1]; exact hcap) hc hs
    obtain ⟨s₂, o, g1, r⟩ := K h' h.size rfl (own_keep Ex) (Ars.of_arv (show Arv Z h' h.size k1 ty (Int32.ofNat vs.length) vs .null from B') e1) EB p l e s m args below meth c T' locs ⟨hx, hZ, hby, hml, hown, hrt, hlk, hnm⟩ X' e' N
    exact ⟨s₂, o, st _ g1, r⟩
theorem oGo.callP {y : MethodName} {i W kk : Nat} {bytes' : ByteArray} {ml' : Nat} {ret' : Option FieldType} {rm : Room} {as : Array Value} {Q' : Option Value → Heap → Prop} {ps : List FieldType} {rt : Option FieldType} {a : Addr} {C : String} (argsL rest : List Value) (hd : decode bytes pc = .ok (.invokevirtual i, 3)) (hq : pc + 3 = q)
    (w1 : (Cond.methodLink own i y).before a0 Z = true) (w2 : (Cond.instanceMethod y).before a0 Z = true) (wp : (Cond.privateMethod y).before a0 Z = true) (wi : (Cond.instantiable y.cls kk).before a0 Z = true) (w3 : (Cond.initialized y.cls).before a0 Z = true) (w4 : (Cond.code y bytes' ml' ret').before a0 Z = true) (hy : y.cls ≠ "java/lang/invoke/MethodHandle" ∧ y.cls ≠ "java/lang/invoke/VarHandle") (E : Exa Z h a C)
    (hC : oCon Z y bytes' ml' ret' rm as h n0 Q') (hS : S = argsL.reverse ++ .ref a :: rest) (has : (.ref a :: argsL).toArray = as) (hpd : parseMethodDescriptor y.desc = some ⟨ps, rt⟩) (hlen : argsL.length = ps.length) (hL : L.size = ml) (hW : 2 * 0 + (rest.map fun v => v.category).sum ≤ W) (hf : rm.frames + 1 ≤ R.frames) (hl : W + (ml' + 11) + rm.locals ≤ R.locals) (hc : k + rm.cells ≤ R.cells) (hs : n + rm.slots ≤ R.slots)
    (K : ∀ v h', Q' v h' → oGo Z own nm bytes ml ret R n0 Q (k + rm.cells) (n + rm.slots) h' q L (v.toList ++ rest)) : oGo Z own nm bytes ml ret R n0 Q k n h pc L S :=
  fun p l e s m args below meth c T locs Cx X eT N => by
    obtain ⟨hx, hZ, hby, hml, hown, hrt, hlk, hnm⟩ := Cx
    subst hq
    obtain ⟨cq, q1, q2⟩ := E.cell
    have hpr := Cond.privateMethod_at (mvP hZ wp (args := #[]))
    have hin : (Cond.instanceMethod y).before args s = true := mvT hZ w2
    obtain ⟨ci, ki, i1, i2, -, i4, -, -⟩ := Cond.instantiable_spec (show (Cond.instantiable y.cls kk).before args s = true from mvT hZ wi)
    have hsel := selects_self_of_private (args := args) i1 i2 (by simp only [Bool.or_eq_false_iff] at i4; exact i4.1) hpr hin hy
    obtain ⟨v, _, ⟨T', L2, k2, n2⟩, -, X', ⟨Lc, hQ', l', y', z'⟩, st⟩ := X.privateBack hx (y := y) hown (mvT hZ w1) hin hsel hpr (mvT hZ w4) hy (backOf (W := W) (Q := fun v h' L => Q' v h' ∧ Fr n0 L) (hC l []) hZ w4 w3 hf hl) (g := mkF m pc L S) rfl (by rw [hml]; exact hL) (Steps.refl _) (a := a) (by rw [eT]; exact q1) q2 (argsL := argsL) (rest := rest) (lenOf hpd hlen) hS hW (hb hby hd) (fun _ _ => ⟨has, eT, hc, hs⟩)
    dsimp only [Pt.U, Pt.locs, Pt.cells, Pt.slots] at X' l' y' z' st hQ'
    subst l' y' z'
    obtain ⟨s₂, o, h1, r⟩ := K v T'.heap hQ'.1 p l e s m args below meth c T' _ ⟨hx, hZ, hby, hml, hown, hrt, hlk, hnm⟩ X' rfl (Fr.app N hQ'.2)
    exact ⟨s₂, o, st.trans h1, r⟩
/-! booleans -/
def own_b (b : Int32) (P : Prop) : Prop := (b = 1 ∧ P) ∨ (b = 0 ∧ ¬ P)
theorem own_b.t {P : Prop} (hp : P) : own_b 1 P := Or.inl ⟨rfl, hp⟩
theorem own_b.f {P : Prop} (hp : ¬ P) : own_b 0 P := Or.inr ⟨rfl, hp⟩
theorem own_b.z {b : Int32} {P : Prop} (u : own_b b P) (hb : b = 0) : ¬ P := by
  rcases u with ⟨rfl, _⟩ | ⟨_, u⟩
  · exact absurd hb (by decide)
  · exact u
theorem own_b.nz {b : Int32} {P : Prop} (u : own_b b P) (hb : b ≠ 0) : P := by
  rcases u with ⟨_, u⟩ | ⟨rfl, _⟩
  · exact u
  · exact absurd rfl hb
theorem own_b.nar {b : Int32} {P : Prop} (u : own_b b P) : nar .boolean b = b := by
  rcases u with ⟨rfl, _⟩ | ⟨rfl, _⟩ <;> rfl
theorem own_b.eq {b c : Int32} {P P' : Prop} (u : own_b b P) (v : own_b c P') (hp : P ↔ P') : b = c := by
  rcases u with ⟨rfl, u⟩ | ⟨rfl, u⟩ <;> rcases v with ⟨rfl, v⟩ | ⟨rfl, v⟩
  · rfl
  · exact absurd (hp.mp u) v
  · exact absurd (hp.mpr v) u
  · rfl
theorem own_b.is0 {b : Int32} {P : Prop} (u : own_b b P) (hp : ¬ P) : b = 0 := u.elim (fun z => absurd z.2 hp) (fun z => z.1)
theorem own_b.is1 {b : Int32} {P : Prop} (u : own_b b P) (hp : P) : b = 1 := u.elim (fun z => z.1) (fun z => absurd hp z.2)
theorem own_b.iff {b : Int32} {P P' : Prop} (u : own_b b P) (hp : P ↔ P') : own_b b P' := u.imp (fun z => ⟨z.1, hp.mp z.2⟩) (fun z => ⟨z.1, fun y => z.2 (hp.mpr y)⟩)
end Own
theorem d1_0 : decode prog_43_method_5_code 0 = .ok (.iconst 0, 1) := by decide +kernel
theorem d1_1 : decode prog_43_method_5_code 1 = .ok (.istore 4, 2) := by decide +kernel
theorem d1_3 : decode prog_43_method_5_code 3 = .ok (.iload 4, 2) := by decide +kernel
theorem d1_5 : decode prog_43_method_5_code 5 = .ok (.iload_n 2, 1) := by decide +kernel
theorem d1_6 : decode prog_43_method_5_code 6 = .ok (.if_icmp .ge 26, 3) := by decide +kernel
theorem d1_9 : decode prog_43_method_5_code 9 = .ok (.aload_n 3, 1) := by decide +kernel
theorem d1_10 : decode prog_43_method_5_code 10 = .ok (.iload 4, 2) := by decide +kernel
theorem d1_12 : decode prog_43_method_5_code 12 = .ok (.lload_n 0, 1) := by decide +kernel
theorem d1_13 : decode prog_43_method_5_code 13 = .ok (.bipush 8, 2) := by decide +kernel
theorem d1_15 : decode prog_43_method_5_code 15 = .ok (.iload_n 2, 1) := by decide +kernel
theorem d1_16 : decode prog_43_method_5_code 16 = .ok (.iconst 1, 1) := by decide +kernel
theorem d1_17 : decode prog_43_method_5_code 17 = .ok (.isub, 1) := by decide +kernel
theorem d1_18 : decode prog_43_method_5_code 18 = .ok (.iload 4, 2) := by decide +kernel
theorem d1_20 : decode prog_43_method_5_code 20 = .ok (.isub, 1) := by decide +kernel
theorem d1_21 : decode prog_43_method_5_code 21 = .ok (.imul, 1) := by decide +kernel
theorem d1_22 : decode prog_43_method_5_code 22 = .ok (.lushr, 1) := by decide +kernel
theorem d1_23 : decode prog_43_method_5_code 23 = .ok (.l2i, 1) := by decide +kernel
theorem d1_24 : decode prog_43_method_5_code 24 = .ok (.i2b, 1) := by decide +kernel
theorem d1_25 : decode prog_43_method_5_code 25 = .ok (.bastore, 1) := by decide +kernel
theorem d1_26 : decode prog_43_method_5_code 26 = .ok (.iinc 4 1, 3) := by decide +kernel
theorem d1_29 : decode prog_43_method_5_code 29 = .ok (.goto (-26), 3) := by decide +kernel
theorem d1_32 : decode prog_43_method_5_code 32 = .ok (.return_, 1) := by decide +kernel
theorem own_pd0 : parseMethodDescriptor "(JI[B)V" = some ⟨[.long, .int, (.array .byte)], none⟩ := by decide +kernel
theorem d2_0 : decode method_3_code 0 = .ok (.iload 4, 2) := by decide +kernel
theorem d2_2 : decode method_3_code 2 = .ok (.iload_n 2, 1) := by decide +kernel
theorem d2_3 : decode method_3_code 3 = .ok (.if_icmp .ge 24, 3) := by decide +kernel
theorem d2_6 : decode method_3_code 6 = .ok (.aload_n 0, 1) := by decide +kernel
theorem d2_7 : decode method_3_code 7 = .ok (.iload 4, 2) := by decide +kernel
theorem d2_9 : decode method_3_code 9 = .ok (.baload, 1) := by decide +kernel
theorem d2_10 : decode method_3_code 10 = .ok (.aload_n 1, 1) := by decide +kernel
theorem d2_11 : decode method_3_code 11 = .ok (.iload_n 2, 1) := by decide +kernel
theorem d2_12 : decode method_3_code 12 = .ok (.iconst 1, 1) := by decide +kernel
theorem d2_13 : decode method_3_code 13 = .ok (.isub, 1) := by decide +kernel
theorem d2_14 : decode method_3_code 14 = .ok (.iload 4, 2) := by decide +kernel
theorem d2_16 : decode method_3_code 16 = .ok (.isub, 1) := by decide +kernel
theorem d2_17 : decode method_3_code 17 = .ok (.baload, 1) := by decide +kernel
theorem d2_18 : decode method_3_code 18 = .ok (.if_icmp .ne 7, 3) := by decide +kernel
theorem d2_21 : decode method_3_code 21 = .ok (.iconst 1, 1) := by decide +kernel
theorem d2_22 : decode method_3_code 22 = .ok (.goto 4, 3) := by decide +kernel
theorem d2_25 : decode method_3_code 25 = .ok (.iconst 0, 1) := by decide +kernel
theorem d2_26 : decode method_3_code 26 = .ok (.ireturn, 1) := by decide +kernel
theorem d2_27 : decode method_3_code 27 = .ok (.aload_n 0, 1) := by decide +kernel
theorem d2_28 : decode method_3_code 28 = .ok (.iload 4, 2) := by decide +kernel
theorem d2_30 : decode method_3_code 30 = .ok (.baload, 1) := by decide +kernel
theorem d2_31 : decode method_3_code 31 = .ok (.iload_n 3, 1) := by decide +kernel
theorem d2_32 : decode method_3_code 32 = .ok (.iload 4, 2) := by decide +kernel
theorem d2_34 : decode method_3_code 34 = .ok (.iadd, 1) := by decide +kernel
theorem d2_35 : decode method_3_code 35 = .ok (.i2b, 1) := by decide +kernel
theorem d2_36 : decode method_3_code 36 = .ok (.if_icmp .ne 7, 3) := by decide +kernel
theorem d2_39 : decode method_3_code 39 = .ok (.iconst 1, 1) := by decide +kernel
theorem d2_40 : decode method_3_code 40 = .ok (.goto 4, 3) := by decide +kernel
theorem d2_43 : decode method_3_code 43 = .ok (.iconst 0, 1) := by decide +kernel
theorem d2_44 : decode method_3_code 44 = .ok (.ireturn, 1) := by decide +kernel
theorem own_pd1 : parseMethodDescriptor "([B[BIII)Z" = some ⟨[(.array .byte), (.array .byte), .int, .int, .int], some .boolean⟩ := by decide +kernel
def own_low (q : Int64) (k : Nat) : Int32 := ((q.toUInt64 >>> ((Int32.ofNat (8 * k)) &&& 0x3f).toInt64.toUInt64).toInt64).toInt32.toInt8.toInt32
theorem own_low0 (q : Int64) : q.toInt32.toInt8.toInt32 = own_low q 0 := by
  have e : ((q.toUInt64 >>> ((Int32.ofNat (8 * 0)) &&& 0x3f).toInt64.toUInt64).toInt64) = q := by
    apply Int64.toBitVec_inj.mp
    rfl
  unfold own_low
  rw [e]
theorem own_sub {n i k : Nat} (h : i + 1 + k = n) (hn : n < 2147483648) : (Int32.ofNat n - (1 : Int32)) - Int32.ofNat i = Int32.ofNat k := by
  apply own_int32
  have a := c_isub (Int32.ofNat n) 1
  have b := c_isub (Int32.ofNat n - 1) (Int32.ofNat i)
  have e1 := own_oi (i := n) (by omega)
  have e2 := own_oi (i := i) (by omega)
  have e3 := own_oi (i := k) (by omega)
  have z : (1 : Int32).toInt = 1 := by decide
  have r := rng32 (Int32.ofNat n - 1 - Int32.ofNat i)
  omega
theorem own_idx {n i k : Nat} (h : i + 1 + k = n) (hn : n ≤ 8) : (8 : Int32) * ((Int32.ofNat n - (1 : Int32)) - Int32.ofNat i) = Int32.ofNat (8 * k) := by
  rw [own_sub h (by omega)]
  apply own_int32
  have a := c_imul 8 (Int32.ofNat k)
  have e3 := own_oi (i := k) (by omega)
  have e4 := own_oi (i := 8 * k) (by omega)
  have z : (8 : Int32).toInt = 8 := by decide
  rw [z, e3] at a
  have r := rng32 (8 * Int32.ofNat k)
  omega
theorem own_ef1 (m : MethodId) (x0 : Int64) (x1 : Int32) (x2 : Addr) : entryFrame m #[(.long x0), (.int x1), (.ref x2)] 5 = mkF m 0 #[.val (.long x0), .second, .val (.int x1), .val (.ref x2), .unset] [] := by first | (simp [entryFrame, mkF, argsToLocals, Value.category]; done) | rfl
theorem own_pn1 : plainFor (⟨"com/example/bowerbird/bowerbird/detect/Vocabulary", "unpack", "(JI[B)V"⟩ : MethodName) = true := plainFor_of_name (by first | (simp [plainName, overriddenIn]; done) | decide +kernel)
set_option maxRecDepth 65536 in
set_option maxHeartbeats 40000000 in
theorem c1 {Z : State} {a0 : Array Value} (hw : ∀ d ∈ tables_1, d.before a0 Z = true) (q1 : Int64) (n : Nat) (a : Addr) (vs : List Value) (h : Heap) (n0 : Nat) (hn : n ≤ 8) (ga : n0 ≤ a) (A : Ars Z h a .byte vs) (hv : own_ints vs 9) :
    oCon Z (⟨"com/example/bowerbird/bowerbird/detect/Vocabulary", "unpack", "(JI[B)V"⟩ : MethodName) prog_43_method_5_code 5 none ({ frames := 0, cells := 0, slots := 0, locals := 0 } : Room) #[(.long q1), (.int (Int32.ofNat n)), (.ref a)] h n0 (fun v h' => v = none ∧ ∃ vs', Keep h h' [a] ∧ Ars Z h' a .byte vs' ∧ own_ints vs' 9 ∧ (∀ k, k < 9 → vs'[k]? = if k < n then some (.int (own_low q1 (n - 1 - k))) else vs[k]?)) := by
  refine oCon.of own_pn1 (fun m => own_ef1 m q1 (Int32.ofNat n) a) ?_
  show oGo Z _ _ _ _ _ _ n0 _ 0 0 h 0 #[.val (.long q1), .second, .val (.int (Int32.ofNat n)), .val (.ref a), .unset] []
  refine oGo.iconst (q := 1) (v := (0 : Int32)) d1_0 rfl rfl ?_
  refine oGo.istore (q := 3) (L' := #[.val (.long q1), .second, .val (.int (Int32.ofNat n)), .val (.ref a), .val (.int (0 : Int32))]) d1_1 rfl rfl ?_
  have loop : ∀ (t i : Nat) (hi : Heap) (vi : List Value), i + t = n → Keep h hi [a] → Ars Z hi a .byte vi → own_ints vi 9 → (∀ k, k < 9 → vi[k]? = if k < i then some (.int (own_low q1 (n - 1 - k))) else vs[k]?) → oGo Z "com/example/bowerbird/bowerbird/detect/Vocabulary" "unpack" prog_43_method_5_code 5 none ({ frames := 0, cells := 0, slots := 0, locals := 0 } : Room) n0 (fun v h' => v = none ∧ ∃ vs', Keep h h' [a] ∧ Ars Z h' a .byte vs' ∧ own_ints vs' 9 ∧ (∀ k, k < 9 → vs'[k]? = if k < n then some (.int (own_low q1 (n - 1 - k))) else vs[k]?)) 0 0 hi 3 #[.val (.long q1), .second, .val (.int (Int32.ofNat n)), .val (.ref a), .val (.int (Int32.ofNat i))] [] := by
    intro t
    induction t with
    | zero =>
      intro i hi vi hin K A hvi H
      have e1 := own_oi (i := i) (by omega)
      have e2 := own_oi (i := n) (by omega)
      refine oGo.iload (q := 5) d1_3 rfl rfl ?_
      refine oGo.iloadN (q := 6) d1_5 rfl rfl ?_
      refine oGo.icmp_ge (q := 32) (r := 9) d1_6 (by decide) rfl (fun hc => ?_) (fun hc => absurd hc (by omega))
      obtain rfl : i = n := by omega
      exact oGo.retV d1_32 rfl (by decide) (by decide) (⟨rfl, vi, K, A, hvi, H⟩)
    | succ t ih =>
      intro i hi vi hin K A hvi H
      have e1 := own_oi (i := i) (by omega)
      have e2 := own_oi (i := n) (by omega)
      refine oGo.iload (q := 5) d1_3 rfl rfl ?_
      refine oGo.iloadN (q := 6) d1_5 rfl rfl ?_
      refine oGo.icmp_ge (q := 32) (r := 9) d1_6 (by decide) rfl (fun hc => absurd hc (by omega)) (fun hc => ?_)
      refine oGo.aloadN (q := 10) d1_9 rfl rfl rfl ?_
      refine oGo.iload (q := 12) d1_10 rfl rfl ?_
      refine oGo.lloadN (q := 13) d1_12 rfl rfl ?_
      refine oGo.bipush (q := 15) (v := (8 : Int32)) d1_13 rfl rfl ?_
      refine oGo.iloadN (q := 16) d1_15 rfl rfl ?_
      refine oGo.iconst (q := 17) (v := (1 : Int32)) d1_16 rfl rfl ?_
      refine oGo.isub (q := 18) d1_17 rfl ?_
      refine oGo.iload (q := 20) d1_18 rfl rfl ?_
      refine oGo.isub (q := 21) d1_20 rfl ?_
      refine oGo.imul (q := 22) d1_21 rfl ?_
      rw [own_idx (k := t) (by omega) hn]
      refine oGo.lushr (q := 23) d1_22 rfl ?_
      refine oGo.l2i (q := 24) d1_23 rfl ?_
      refine oGo.i2b (q := 25) d1_24 rfl ?_
      refine oGo.bastore (q := 26) (i := i) (y := (own_low q1 t)) d1_25 rfl A e1 (by rw [hvi.1]; omega) ga (own_bb _) ?_
      intro h1 K1 A1
      show oGo Z _ _ _ _ _ _ n0 _ 0 0 h1 26 #[.val (.long q1), .second, .val (.int (Int32.ofNat n)), .val (.ref a), .val (.int (Int32.ofNat i))] []
      refine oGo.iinc (q := 29) (v := (Int32.ofNat (i + 1))) (L' := #[.val (.long q1), .second, .val (.int (Int32.ofNat n)), .val (.ref a), .val (.int (Int32.ofNat (i + 1)))]) d1_26 rfl rfl (own_oinc i) rfl ?_
      refine oGo.goto (q := 3) d1_29 (by decide) ?_
      refine ih (i + 1) _ _ (by omega) (Keep.trans K K1 (fun x hx => Or.inl hx)) A1 hvi.set (fun k hk => ?_)
      by_cases e : i = k
      · subst e
        rw [List.getElem?_set_self (by rw [hvi.1]; omega), if_pos (by omega), show n - 1 - i = t by omega]
      · rw [List.getElem?_set_ne e, H k hk]
        by_cases u : k < i
        · rw [if_pos u, if_pos (by omega)]
        · rw [if_neg u, if_neg (by omega)]
  refine loop n 0 h vs (by omega) (Keep.refl h [a]) A hv (fun k hk => by rw [if_neg (by omega)])
theorem own_ef2 (m : MethodId) (x0 : Addr) (x1 : Addr) (x2 : Int32) (x3 : Int32) (x4 : Int32) : entryFrame m #[(.ref x0), (.ref x1), (.int x2), (.int x3), (.int x4)] 5 = mkF m 0 #[.val (.ref x0), .val (.ref x1), .val (.int x2), .val (.int x3), .val (.int x4)] [] := by first | (simp [entryFrame, mkF, argsToLocals, Value.category]; done) | rfl
theorem own_pn2 : plainFor (⟨"com/example/bowerbird/bowerbird/detect/VocabularyUnpackPinLaw", "at", "([B[BIII)Z"⟩ : MethodName) = true := plainFor_of_name (by first | (simp [plainName, overriddenIn]; done) | decide +kernel)
set_option maxRecDepth 65536 in
set_option maxHeartbeats 40000000 in
theorem c2 {Z : State} {a0 : Array Value} (hw : ∀ d ∈ tables_1, d.before a0 Z = true) (a b : Addr) (n : Nat) (f i : Int32) (k : Nat) (vs ws : List Value) (h : Heap) (n0 : Nat) (hn : n ≤ 8) (hi : i.toInt = (k : Int)) (A : Ars Z h a .byte vs) (B : Ars Z h b .byte ws) (H : (k < n ∧ ∃ x : Int32, vs[k]? = some (.int x) ∧ ws[n - 1 - k]? = some (.int x)) ∨ (n ≤ k ∧ vs[k]? = some (.int (f + i).toInt8.toInt32))) :
    oCon Z (⟨"com/example/bowerbird/bowerbird/detect/VocabularyUnpackPinLaw", "at", "([B[BIII)Z"⟩ : MethodName) method_3_code 5 (some .boolean) ({ frames := 0, cells := 0, slots := 0, locals := 0 } : Room) #[(.ref a), (.ref b), (.int (Int32.ofNat n)), (.int f), (.int i)] h n0 (fun v h' => v = some (.int 1) ∧ h' = h) := by
  refine oCon.of own_pn2 (fun m => own_ef2 m a b (Int32.ofNat n) f i) ?_
  show oGo Z _ _ _ _ _ _ n0 _ 0 0 h 0 #[.val (.ref a), .val (.ref b), .val (.int (Int32.ofNat n)), .val (.int f), .val (.int i)] []
  have e2 := own_oi (i := n) (by omega)
  refine oGo.iload (q := 2) d2_0 rfl rfl ?_
  refine oGo.iloadN (q := 3) d2_2 rfl rfl ?_
  refine oGo.icmp_ge (q := 27) (r := 6) d2_3 (by decide) rfl (fun hc => ?_) (fun hc => ?_)
  · skip
    obtain ⟨_, hx⟩ := H.resolve_left fun z => by omega
    refine oGo.aloadN (q := 28) d2_27 rfl rfl rfl ?_
    refine oGo.iload (q := 30) d2_28 rfl rfl ?_
    refine oGo.baload (q := 31) (i := k) (v := (.int (f + i).toInt8.toInt32)) d2_30 rfl A hi hx ?_
    refine oGo.iloadN (q := 32) d2_31 rfl rfl ?_
    refine oGo.iload (q := 34) d2_32 rfl rfl ?_
    refine oGo.iadd (q := 35) d2_34 rfl ?_
    refine oGo.i2b (q := 36) d2_35 rfl ?_
    refine oGo.icmp_ne (q := 43) (r := 39) d2_36 (by decide) rfl (fun hc2 => absurd rfl hc2) (fun hc2 => ?_)
    refine oGo.iconst (q := 40) (v := (1 : Int32)) d2_39 rfl rfl ?_
    refine oGo.goto (q := 44) d2_40 (by decide) ?_
    exact oGo.retN (t := .boolean) d2_44 rfl (by simp) (by decide) (by decide) (⟨rfl, rfl⟩)
  · skip
    obtain ⟨hkn, x, hx, hy⟩ := H.resolve_right fun z => by omega
    refine oGo.aloadN (q := 7) d2_6 rfl rfl rfl ?_
    refine oGo.iload (q := 9) d2_7 rfl rfl ?_
    refine oGo.baload (q := 10) (i := k) (v := (.int x)) d2_9 rfl A hi hx ?_
    refine oGo.aloadN (q := 11) d2_10 rfl rfl rfl ?_
    refine oGo.iloadN (q := 12) d2_11 rfl rfl ?_
    refine oGo.iconst (q := 13) (v := (1 : Int32)) d2_12 rfl rfl ?_
    refine oGo.isub (q := 14) d2_13 rfl ?_
    refine oGo.iload (q := 16) d2_14 rfl rfl ?_
    refine oGo.isub (q := 17) d2_16 rfl ?_
    have hj : ((Int32.ofNat n - (1 : Int32)) - i).toInt = ((n - 1 - k : Nat) : Int) := by
      rw [own_nat hi (by omega), own_sub (k := n - 1 - k) (by omega) (by omega)]; exact own_oi (by omega)
    refine oGo.baload (q := 18) (i := (n - 1 - k)) (v := (.int x)) d2_17 rfl B hj hy ?_
    refine oGo.icmp_ne (q := 25) (r := 21) d2_18 (by decide) rfl (fun hc2 => absurd rfl hc2) (fun hc2 => ?_)
    refine oGo.iconst (q := 22) (v := (1 : Int32)) d2_21 rfl rfl ?_
    refine oGo.goto (q := 26) d2_22 (by decide) ?_
    exact oGo.retN (t := .boolean) d2_26 rfl (by simp) (by decide) (by decide) (⟨rfl, rfl⟩)
theorem own_ef0 (m : MethodId) (x0 : Int64) (x1 : Int32) (x2 : Int32) : entryFrame m #[(.long x0), (.int x1), (.int x2)] maxLocals = mkF m 0 #[.val (.long x0), .second, .val (.int x1), .val (.int x2), .unset, .unset, .unset] [] := by first | (simp [entryFrame, mkF, argsToLocals, Value.category, maxLocals]; done) | rfl
theorem own_pn0 : plainFor x = true := plainFor_of_name (by first | (simp [plainName, overriddenIn, x]; done) | decide +kernel)
set_option maxRecDepth 65536 in
set_option maxHeartbeats 40000000 in
theorem law {Z : State} {a0 : Array Value} (hw : ∀ d ∈ tables_1, d.before a0 Z = true) (q1 : Int64) (p2 f : Int32) (h : Heap) (n0 : Nat) (Z0 : n0 ≤ h.size) :
    oCon Z x code maxLocals ret room_1 #[(.long q1), (.int p2), (.int f)] h n0 (fun v _ => v = some (.int 1)) := by
  refine oCon.of own_pn0 (fun m => own_ef0 m q1 p2 f) ?_
  show oGo Z _ _ _ _ _ _ n0 _ 0 0 h 0 #[.val (.long q1), .second, .val (.int p2), .val (.int f), .unset, .unset, .unset] []
  refine oGo.iloadN (q := 1) at_0 rfl rfl ?_
  refine oGo.ldcI (q := 3) (v := (2147483647 : Int32)) at_1 rfl (hw _ (List.mem_of_getElem? (i := 0) rfl)) ?_
  refine oGo.iand (q := 4) at_3 rfl ?_
  refine oGo.bipush (q := 6) (v := (9 : Int32)) at_4 rfl rfl ?_
  refine oGo.irem (q := 7) at_6 rfl (by decide) ?_
  obtain ⟨n, hn, hn8⟩ : ∃ n : Nat, ((p2 &&& (2147483647 : Int32)) % (9 : Int32)) = Int32.ofNat n ∧ n ≤ 8 := by
    have a1 := c_mask p2 (2147483647 : Int32) 31 (by decide) (by decide)
    have p : ((2 ^ 31 : Nat) : Int) = 2147483648 := by decide
    rw [p] at a1
    have a2 := own_irem (p2 &&& (2147483647 : Int32)) 9 (by omega)
    have z : (9 : Int32).toInt = 9 := by decide
    rw [z] at a2
    exact ⟨(((p2 &&& (2147483647 : Int32)) % (9 : Int32)).toInt).toNat, own_nat (by omega) (by omega), by omega⟩
  rw [hn]
  refine oGo.istore (q := 9) (L' := #[.val (.long q1), .second, .val (.int p2), .val (.int f), .val (.int (Int32.ofNat n)), .unset, .unset]) at_7 rfl rfl ?_
  refine oGo.bipush (q := 11) (v := (8 : Int32)) at_9 rfl rfl ?_
  refine oGo.newP (q := 13) (len := 8) 8 at_11 rfl (hw _ (List.mem_of_getElem? (i := 1) rfl)) rfl (by first | decide | omega) (by decide) (by decide) (by decide) (ad := "[B") rfl ?_
  intro h2 b g2 K2 A2 E2
  have ge_b : n0 ≤ b := Nat.le_trans Z0 (Nat.le_of_eq g2.symm)
  have Z0_ := Nat.le_trans Z0 K2.1
  replace A2 : Ars Z h2 b .byte [(.int (0 : Int32)), (.int (0 : Int32)), (.int (0 : Int32)), (.int (0 : Int32)), (.int (0 : Int32)), (.int (0 : Int32)), (.int (0 : Int32)), (.int (0 : Int32))] := A2
  show oGo Z _ _ _ _ _ _ n0 _ 1 8 h2 13 #[.val (.long q1), .second, .val (.int p2), .val (.int f), .val (.int (Int32.ofNat n)), .unset, .unset] [(.ref b)]
  refine oGo.dup (q := 14) at_13 rfl rfl ?_
  refine oGo.iconst (q := 15) (v := (0 : Int32)) at_14 rfl rfl ?_
  refine oGo.lloadN (q := 16) at_15 rfl rfl ?_
  refine oGo.l2i (q := 17) at_16 rfl ?_
  refine oGo.i2b (q := 18) at_17 rfl ?_
  refine oGo.bastore (q := 19) (i := 0) (y := (own_low q1 0)) at_18 rfl A2 rfl (Nat.le_of_ble_eq_true rfl) ge_b ((own_bb _).trans (own_low0 q1)) ?_
  intro h3 K3 A3
  replace A3 : Ars Z h3 b .byte [(.int (own_low q1 0)), (.int (0 : Int32)), (.int (0 : Int32)), (.int (0 : Int32)), (.int (0 : Int32)), (.int (0 : Int32)), (.int (0 : Int32)), (.int (0 : Int32))] := A3
  have E2_ := Exa.keep E2 K3
  have Z0__ := Nat.le_trans Z0_ K3.1
  show oGo Z _ _ _ _ _ _ n0 _ 1 8 h3 19 #[.val (.long q1), .second, .val (.int p2), .val (.int f), .val (.int (Int32.ofNat n)), .unset, .unset] [(.ref b)]
  refine oGo.dup (q := 20) at_19 rfl rfl ?_
  refine oGo.iconst (q := 21) (v := (1 : Int32)) at_20 rfl rfl ?_
  refine oGo.lloadN (q := 22) at_21 rfl rfl ?_
  refine oGo.bipush (q := 24) (v := (8 : Int32)) at_22 rfl rfl ?_
  refine oGo.lushr (q := 25) at_24 rfl ?_
  refine oGo.l2i (q := 26) at_25 rfl ?_
  refine oGo.i2b (q := 27) at_26 rfl ?_
  refine oGo.bastore (q := 28) (i := 1) (y := (own_low q1 1)) at_27 rfl A3 rfl (Nat.le_of_ble_eq_true rfl) ge_b (own_bb _) ?_
  intro h4 K4 A4
  replace A4 : Ars Z h4 b .byte [(.int (own_low q1 0)), (.int (own_low q1 1)), (.int (0 : Int32)), (.int (0 : Int32)), (.int (0 : Int32)), (.int (0 : Int32)), (.int (0 : Int32)), (.int (0 : Int32))] := A4
  have E2__ := Exa.keep E2_ K4
  have Z0___ := Nat.le_trans Z0__ K4.1
  show oGo Z _ _ _ _ _ _ n0 _ 1 8 h4 28 #[.val (.long q1), .second, .val (.int p2), .val (.int f), .val (.int (Int32.ofNat n)), .unset, .unset] [(.ref b)]
  refine oGo.dup (q := 29) at_28 rfl rfl ?_
  refine oGo.iconst (q := 30) (v := (2 : Int32)) at_29 rfl rfl ?_
  refine oGo.lloadN (q := 31) at_30 rfl rfl ?_
  refine oGo.bipush (q := 33) (v := (16 : Int32)) at_31 rfl rfl ?_
  refine oGo.lushr (q := 34) at_33 rfl ?_
  refine oGo.l2i (q := 35) at_34 rfl ?_
  refine oGo.i2b (q := 36) at_35 rfl ?_
  refine oGo.bastore (q := 37) (i := 2) (y := (own_low q1 2)) at_36 rfl A4 rfl (Nat.le_of_ble_eq_true rfl) ge_b (own_bb _) ?_
  intro h5 K5 A5
  replace A5 : Ars Z h5 b .byte [(.int (own_low q1 0)), (.int (own_low q1 1)), (.int (own_low q1 2)), (.int (0 : Int32)), (.int (0 : Int32)), (.int (0 : Int32)), (.int (0 : Int32)), (.int (0 : Int32))] := A5
  have E2___ := Exa.keep E2__ K5
  have Z0____ := Nat.le_trans Z0___ K5.1
  show oGo Z _ _ _ _ _ _ n0 _ 1 8 h5 37 #[.val (.long q1), .second, .val (.int p2), .val (.int f), .val (.int (Int32.ofNat n)), .unset, .unset] [(.ref b)]
  refine oGo.dup (q := 38) at_37 rfl rfl ?_
  refine oGo.iconst (q := 39) (v := (3 : Int32)) at_38 rfl rfl ?_
  refine oGo.lloadN (q := 40) at_39 rfl rfl ?_
  refine oGo.bipush (q := 42) (v := (24 : Int32)) at_40 rfl rfl ?_
  refine oGo.lushr (q := 43) at_42 rfl ?_
  refine oGo.l2i (q := 44) at_43 rfl ?_
  refine oGo.i2b (q := 45) at_44 rfl ?_
  refine oGo.bastore (q := 46) (i := 3) (y := (own_low q1 3)) at_45 rfl A5 rfl (Nat.le_of_ble_eq_true rfl) ge_b (own_bb _) ?_
  intro h6 K6 A6
  replace A6 : Ars Z h6 b .byte [(.int (own_low q1 0)), (.int (own_low q1 1)), (.int (own_low q1 2)), (.int (own_low q1 3)), (.int (0 : Int32)), (.int (0 : Int32)), (.int (0 : Int32)), (.int (0 : Int32))] := A6
  have E2____ := Exa.keep E2___ K6
  have Z0_____ := Nat.le_trans Z0____ K6.1
  show oGo Z _ _ _ _ _ _ n0 _ 1 8 h6 46 #[.val (.long q1), .second, .val (.int p2), .val (.int f), .val (.int (Int32.ofNat n)), .unset, .unset] [(.ref b)]
  refine oGo.dup (q := 47) at_46 rfl rfl ?_
  refine oGo.iconst (q := 48) (v := (4 : Int32)) at_47 rfl rfl ?_
  refine oGo.lloadN (q := 49) at_48 rfl rfl ?_
  refine oGo.bipush (q := 51) (v := (32 : Int32)) at_49 rfl rfl ?_
  refine oGo.lushr (q := 52) at_51 rfl ?_
  refine oGo.l2i (q := 53) at_52 rfl ?_
  refine oGo.i2b (q := 54) at_53 rfl ?_
  refine oGo.bastore (q := 55) (i := 4) (y := (own_low q1 4)) at_54 rfl A6 rfl (Nat.le_of_ble_eq_true rfl) ge_b (own_bb _) ?_
  intro h7 K7 A7
  replace A7 : Ars Z h7 b .byte [(.int (own_low q1 0)), (.int (own_low q1 1)), (.int (own_low q1 2)), (.int (own_low q1 3)), (.int (own_low q1 4)), (.int (0 : Int32)), (.int (0 : Int32)), (.int (0 : Int32))] := A7
  have E2_____ := Exa.keep E2____ K7
  have Z0______ := Nat.le_trans Z0_____ K7.1
  show oGo Z _ _ _ _ _ _ n0 _ 1 8 h7 55 #[.val (.long q1), .second, .val (.int p2), .val (.int f), .val (.int (Int32.ofNat n)), .unset, .unset] [(.ref b)]
  refine oGo.dup (q := 56) at_55 rfl rfl ?_
  refine oGo.iconst (q := 57) (v := (5 : Int32)) at_56 rfl rfl ?_
  refine oGo.lloadN (q := 58) at_57 rfl rfl ?_
  refine oGo.bipush (q := 60) (v := (40 : Int32)) at_58 rfl rfl ?_
  refine oGo.lushr (q := 61) at_60 rfl ?_
  refine oGo.l2i (q := 62) at_61 rfl ?_
  refine oGo.i2b (q := 63) at_62 rfl ?_
  refine oGo.bastore (q := 64) (i := 5) (y := (own_low q1 5)) at_63 rfl A7 rfl (Nat.le_of_ble_eq_true rfl) ge_b (own_bb _) ?_
  intro h8 K8 A8
  replace A8 : Ars Z h8 b .byte [(.int (own_low q1 0)), (.int (own_low q1 1)), (.int (own_low q1 2)), (.int (own_low q1 3)), (.int (own_low q1 4)), (.int (own_low q1 5)), (.int (0 : Int32)), (.int (0 : Int32))] := A8
  have E2______ := Exa.keep E2_____ K8
  have Z0_______ := Nat.le_trans Z0______ K8.1
  show oGo Z _ _ _ _ _ _ n0 _ 1 8 h8 64 #[.val (.long q1), .second, .val (.int p2), .val (.int f), .val (.int (Int32.ofNat n)), .unset, .unset] [(.ref b)]
  refine oGo.dup (q := 65) at_64 rfl rfl ?_
  refine oGo.bipush (q := 67) (v := (6 : Int32)) at_65 rfl rfl ?_
  refine oGo.lloadN (q := 68) at_67 rfl rfl ?_
  refine oGo.bipush (q := 70) (v := (48 : Int32)) at_68 rfl rfl ?_
  refine oGo.lushr (q := 71) at_70 rfl ?_
  refine oGo.l2i (q := 72) at_71 rfl ?_
  refine oGo.i2b (q := 73) at_72 rfl ?_
  refine oGo.bastore (q := 74) (i := 6) (y := (own_low q1 6)) at_73 rfl A8 rfl (Nat.le_of_ble_eq_true rfl) ge_b (own_bb _) ?_
  intro h9 K9 A9
  replace A9 : Ars Z h9 b .byte [(.int (own_low q1 0)), (.int (own_low q1 1)), (.int (own_low q1 2)), (.int (own_low q1 3)), (.int (own_low q1 4)), (.int (own_low q1 5)), (.int (own_low q1 6)), (.int (0 : Int32))] := A9
  have E2_______ := Exa.keep E2______ K9
  have Z0________ := Nat.le_trans Z0_______ K9.1
  show oGo Z _ _ _ _ _ _ n0 _ 1 8 h9 74 #[.val (.long q1), .second, .val (.int p2), .val (.int f), .val (.int (Int32.ofNat n)), .unset, .unset] [(.ref b)]
  refine oGo.dup (q := 75) at_74 rfl rfl ?_
  refine oGo.bipush (q := 77) (v := (7 : Int32)) at_75 rfl rfl ?_
  refine oGo.lloadN (q := 78) at_77 rfl rfl ?_
  refine oGo.bipush (q := 80) (v := (56 : Int32)) at_78 rfl rfl ?_
  refine oGo.lushr (q := 81) at_80 rfl ?_
  refine oGo.l2i (q := 82) at_81 rfl ?_
  refine oGo.i2b (q := 83) at_82 rfl ?_
  refine oGo.bastore (q := 84) (i := 7) (y := (own_low q1 7)) at_83 rfl A9 rfl (Nat.le_of_ble_eq_true rfl) ge_b (own_bb _) ?_
  intro h10 K10 A10
  replace A10 : Ars Z h10 b .byte [(.int (own_low q1 0)), (.int (own_low q1 1)), (.int (own_low q1 2)), (.int (own_low q1 3)), (.int (own_low q1 4)), (.int (own_low q1 5)), (.int (own_low q1 6)), (.int (own_low q1 7))] := A10
  have E2________ := Exa.keep E2_______ K10
  have Z0_________ := Nat.le_trans Z0________ K10.1
  show oGo Z _ _ _ _ _ _ n0 _ 1 8 h10 84 #[.val (.long q1), .second, .val (.int p2), .val (.int f), .val (.int (Int32.ofNat n)), .unset, .unset] [(.ref b)]
  refine oGo.astore (q := 86) (L' := #[.val (.long q1), .second, .val (.int p2), .val (.int f), .val (.int (Int32.ofNat n)), .val (.ref b), .unset]) at_84 rfl rfl rfl ?_
  refine oGo.bipush (q := 88) (v := (9 : Int32)) at_86 rfl rfl ?_
  refine oGo.newP (q := 90) (len := 9) 9 at_88 rfl (hw _ (List.mem_of_getElem? (i := 1) rfl)) rfl (by first | decide | omega) (by decide) (by decide) (by decide) (ad := "[B") rfl ?_
  intro h11 a g11 K11 A11 E11
  have ne_b_a : b ≠ a := Nat.ne_of_lt (Nat.lt_of_lt_of_eq (E2________.lt) g11.symm)
  have ge_a : n0 ≤ a := Nat.le_trans Z0_________ (Nat.le_of_eq g11.symm)
  have E2_________ := Exa.keep E2________ K11
  have A10_ := Ars.keep A10 K11 nin0
  have Z0__________ := Nat.le_trans Z0_________ K11.1
  replace A11 : Ars Z h11 a .byte [(.int (0 : Int32)), (.int (0 : Int32)), (.int (0 : Int32)), (.int (0 : Int32)), (.int (0 : Int32)), (.int (0 : Int32)), (.int (0 : Int32)), (.int (0 : Int32)), (.int (0 : Int32))] := A11
  show oGo Z _ _ _ _ _ _ n0 _ 2 17 h11 90 #[.val (.long q1), .second, .val (.int p2), .val (.int f), .val (.int (Int32.ofNat n)), .val (.ref b), .unset] [(.ref a)]
  refine oGo.astore (q := 92) (L' := #[.val (.long q1), .second, .val (.int p2), .val (.int f), .val (.int (Int32.ofNat n)), .val (.ref b), .val (.ref a)]) at_90 rfl rfl rfl ?_
  refine oGo.aload (q := 94) at_92 rfl rfl rfl ?_
  refine oGo.iconst (q := 95) (v := (0 : Int32)) at_94 rfl rfl ?_
  refine oGo.iloadN (q := 96) at_95 rfl rfl ?_
  refine oGo.i2b (q := 97) at_96 rfl ?_
  refine oGo.bastore (q := 98) (i := 0) (y := (f + (0 : Int32)).toInt8.toInt32) at_97 rfl A11 rfl (Nat.le_of_ble_eq_true rfl) ge_a (by rw [Int32.add_zero]; exact own_bb _) ?_
  intro h12 K12 A12
  replace A12 : Ars Z h12 a .byte [(.int (f + (0 : Int32)).toInt8.toInt32), (.int (0 : Int32)), (.int (0 : Int32)), (.int (0 : Int32)), (.int (0 : Int32)), (.int (0 : Int32)), (.int (0 : Int32)), (.int (0 : Int32)), (.int (0 : Int32))] := A12
  have E2__________ := Exa.keep E2_________ K12
  have A10__ := Ars.keep A10_ K12 (ninS ne_b_a nin0)
  have E11_ := Exa.keep E11 K12
  have Z0___________ := Nat.le_trans Z0__________ K12.1
  show oGo Z _ _ _ _ _ _ n0 _ 2 17 h12 98 #[.val (.long q1), .second, .val (.int p2), .val (.int f), .val (.int (Int32.ofNat n)), .val (.ref b), .val (.ref a)] []
  refine oGo.aload (q := 100) at_98 rfl rfl rfl ?_
  refine oGo.iconst (q := 101) (v := (1 : Int32)) at_100 rfl rfl ?_
  refine oGo.iloadN (q := 102) at_101 rfl rfl ?_
  refine oGo.iconst (q := 103) (v := (1 : Int32)) at_102 rfl rfl ?_
  refine oGo.iadd (q := 104) at_103 rfl ?_
  refine oGo.i2b (q := 105) at_104 rfl ?_
  refine oGo.bastore (q := 106) (i := 1) (y := (f + (1 : Int32)).toInt8.toInt32) at_105 rfl A12 rfl (Nat.le_of_ble_eq_true rfl) ge_a (own_bb _) ?_
  intro h13 K13 A13
  replace A13 : Ars Z h13 a .byte [(.int (f + (0 : Int32)).toInt8.toInt32), (.int (f + (1 : Int32)).toInt8.toInt32), (.int (0 : Int32)), (.int (0 : Int32)), (.int (0 : Int32)), (.int (0 : Int32)), (.int (0 : Int32)), (.int (0 : Int32)), (.int (0 : Int32))] := A13
  have E2___________ := Exa.keep E2__________ K13
  have A10___ := Ars.keep A10__ K13 (ninS ne_b_a nin0)
  have E11__ := Exa.keep E11_ K13
  have Z0____________ := Nat.le_trans Z0___________ K13.1
  show oGo Z _ _ _ _ _ _ n0 _ 2 17 h13 106 #[.val (.long q1), .second, .val (.int p2), .val (.int f), .val (.int (Int32.ofNat n)), .val (.ref b), .val (.ref a)] []
  refine oGo.aload (q := 108) at_106 rfl rfl rfl ?_
  refine oGo.iconst (q := 109) (v := (2 : Int32)) at_108 rfl rfl ?_
  refine oGo.iloadN (q := 110) at_109 rfl rfl ?_
  refine oGo.iconst (q := 111) (v := (2 : Int32)) at_110 rfl rfl ?_
  refine oGo.iadd (q := 112) at_111 rfl ?_
  refine oGo.i2b (q := 113) at_112 rfl ?_
  refine oGo.bastore (q := 114) (i := 2) (y := (f + (2 : Int32)).toInt8.toInt32) at_113 rfl A13 rfl (Nat.le_of_ble_eq_true rfl) ge_a (own_bb _) ?_
  intro h14 K14 A14
  replace A14 : Ars Z h14 a .byte [(.int (f + (0 : Int32)).toInt8.toInt32), (.int (f + (1 : Int32)).toInt8.toInt32), (.int (f + (2 : Int32)).toInt8.toInt32), (.int (0 : Int32)), (.int (0 : Int32)), (.int (0 : Int32)), (.int (0 : Int32)), (.int (0 : Int32)), (.int (0 : Int32))] := A14
  have E2____________ := Exa.keep E2___________ K14
  have A10____ := Ars.keep A10___ K14 (ninS ne_b_a nin0)
  have E11___ := Exa.keep E11__ K14
  have Z0_____________ := Nat.le_trans Z0____________ K14.1
  show oGo Z _ _ _ _ _ _ n0 _ 2 17 h14 114 #[.val (.long q1), .second, .val (.int p2), .val (.int f), .val (.int (Int32.ofNat n)), .val (.ref b), .val (.ref a)] []
  refine oGo.aload (q := 116) at_114 rfl rfl rfl ?_
  refine oGo.iconst (q := 117) (v := (3 : Int32)) at_116 rfl rfl ?_
  refine oGo.iloadN (q := 118) at_117 rfl rfl ?_
  refine oGo.iconst (q := 119) (v := (3 : Int32)) at_118 rfl rfl ?_
  refine oGo.iadd (q := 120) at_119 rfl ?_
  refine oGo.i2b (q := 121) at_120 rfl ?_
  refine oGo.bastore (q := 122) (i := 3) (y := (f + (3 : Int32)).toInt8.toInt32) at_121 rfl A14 rfl (Nat.le_of_ble_eq_true rfl) ge_a (own_bb _) ?_
  intro h15 K15 A15
  replace A15 : Ars Z h15 a .byte [(.int (f + (0 : Int32)).toInt8.toInt32), (.int (f + (1 : Int32)).toInt8.toInt32), (.int (f + (2 : Int32)).toInt8.toInt32), (.int (f + (3 : Int32)).toInt8.toInt32), (.int (0 : Int32)), (.int (0 : Int32)), (.int (0 : Int32)), (.int (0 : Int32)), (.int (0 : Int32))] := A15
  have E2_____________ := Exa.keep E2____________ K15
  have A10_____ := Ars.keep A10____ K15 (ninS ne_b_a nin0)
  have E11____ := Exa.keep E11___ K15
  have Z0______________ := Nat.le_trans Z0_____________ K15.1
  show oGo Z _ _ _ _ _ _ n0 _ 2 17 h15 122 #[.val (.long q1), .second, .val (.int p2), .val (.int f), .val (.int (Int32.ofNat n)), .val (.ref b), .val (.ref a)] []
  refine oGo.aload (q := 124) at_122 rfl rfl rfl ?_
  refine oGo.iconst (q := 125) (v := (4 : Int32)) at_124 rfl rfl ?_
  refine oGo.iloadN (q := 126) at_125 rfl rfl ?_
  refine oGo.iconst (q := 127) (v := (4 : Int32)) at_126 rfl rfl ?_
  refine oGo.iadd (q := 128) at_127 rfl ?_
  refine oGo.i2b (q := 129) at_128 rfl ?_
  refine oGo.bastore (q := 130) (i := 4) (y := (f + (4 : Int32)).toInt8.toInt32) at_129 rfl A15 rfl (Nat.le_of_ble_eq_true rfl) ge_a (own_bb _) ?_
  intro h16 K16 A16
  replace A16 : Ars Z h16 a .byte [(.int (f + (0 : Int32)).toInt8.toInt32), (.int (f + (1 : Int32)).toInt8.toInt32), (.int (f + (2 : Int32)).toInt8.toInt32), (.int (f + (3 : Int32)).toInt8.toInt32), (.int (f + (4 : Int32)).toInt8.toInt32), (.int (0 : Int32)), (.int (0 : Int32)), (.int (0 : Int32)), (.int (0 : Int32))] := A16
  have E2______________ := Exa.keep E2_____________ K16
  have A10______ := Ars.keep A10_____ K16 (ninS ne_b_a nin0)
  have E11_____ := Exa.keep E11____ K16
  have Z0_______________ := Nat.le_trans Z0______________ K16.1
  show oGo Z _ _ _ _ _ _ n0 _ 2 17 h16 130 #[.val (.long q1), .second, .val (.int p2), .val (.int f), .val (.int (Int32.ofNat n)), .val (.ref b), .val (.ref a)] []
  refine oGo.aload (q := 132) at_130 rfl rfl rfl ?_
  refine oGo.iconst (q := 133) (v := (5 : Int32)) at_132 rfl rfl ?_
  refine oGo.iloadN (q := 134) at_133 rfl rfl ?_
  refine oGo.iconst (q := 135) (v := (5 : Int32)) at_134 rfl rfl ?_
  refine oGo.iadd (q := 136) at_135 rfl ?_
  refine oGo.i2b (q := 137) at_136 rfl ?_
  refine oGo.bastore (q := 138) (i := 5) (y := (f + (5 : Int32)).toInt8.toInt32) at_137 rfl A16 rfl (Nat.le_of_ble_eq_true rfl) ge_a (own_bb _) ?_
  intro h17 K17 A17
  replace A17 : Ars Z h17 a .byte [(.int (f + (0 : Int32)).toInt8.toInt32), (.int (f + (1 : Int32)).toInt8.toInt32), (.int (f + (2 : Int32)).toInt8.toInt32), (.int (f + (3 : Int32)).toInt8.toInt32), (.int (f + (4 : Int32)).toInt8.toInt32), (.int (f + (5 : Int32)).toInt8.toInt32), (.int (0 : Int32)), (.int (0 : Int32)), (.int (0 : Int32))] := A17
  have E2_______________ := Exa.keep E2______________ K17
  have A10_______ := Ars.keep A10______ K17 (ninS ne_b_a nin0)
  have E11______ := Exa.keep E11_____ K17
  have Z0________________ := Nat.le_trans Z0_______________ K17.1
  show oGo Z _ _ _ _ _ _ n0 _ 2 17 h17 138 #[.val (.long q1), .second, .val (.int p2), .val (.int f), .val (.int (Int32.ofNat n)), .val (.ref b), .val (.ref a)] []
  refine oGo.aload (q := 140) at_138 rfl rfl rfl ?_
  refine oGo.bipush (q := 142) (v := (6 : Int32)) at_140 rfl rfl ?_
  refine oGo.iloadN (q := 143) at_142 rfl rfl ?_
  refine oGo.bipush (q := 145) (v := (6 : Int32)) at_143 rfl rfl ?_
  refine oGo.iadd (q := 146) at_145 rfl ?_
  refine oGo.i2b (q := 147) at_146 rfl ?_
  refine oGo.bastore (q := 148) (i := 6) (y := (f + (6 : Int32)).toInt8.toInt32) at_147 rfl A17 rfl (Nat.le_of_ble_eq_true rfl) ge_a (own_bb _) ?_
  intro h18 K18 A18
  replace A18 : Ars Z h18 a .byte [(.int (f + (0 : Int32)).toInt8.toInt32), (.int (f + (1 : Int32)).toInt8.toInt32), (.int (f + (2 : Int32)).toInt8.toInt32), (.int (f + (3 : Int32)).toInt8.toInt32), (.int (f + (4 : Int32)).toInt8.toInt32), (.int (f + (5 : Int32)).toInt8.toInt32), (.int (f + (6 : Int32)).toInt8.toInt32), (.int (0 : Int32)), (.int (0 : Int32))] := A18
  have E2________________ := Exa.keep E2_______________ K18
  have A10________ := Ars.keep A10_______ K18 (ninS ne_b_a nin0)
  have E11_______ := Exa.keep E11______ K18
  have Z0_________________ := Nat.le_trans Z0________________ K18.1
  show oGo Z _ _ _ _ _ _ n0 _ 2 17 h18 148 #[.val (.long q1), .second, .val (.int p2), .val (.int f), .val (.int (Int32.ofNat n)), .val (.ref b), .val (.ref a)] []
  refine oGo.aload (q := 150) at_148 rfl rfl rfl ?_
  refine oGo.bipush (q := 152) (v := (7 : Int32)) at_150 rfl rfl ?_
  refine oGo.iloadN (q := 153) at_152 rfl rfl ?_
  refine oGo.bipush (q := 155) (v := (7 : Int32)) at_153 rfl rfl ?_
  refine oGo.iadd (q := 156) at_155 rfl ?_
  refine oGo.i2b (q := 157) at_156 rfl ?_
  refine oGo.bastore (q := 158) (i := 7) (y := (f + (7 : Int32)).toInt8.toInt32) at_157 rfl A18 rfl (Nat.le_of_ble_eq_true rfl) ge_a (own_bb _) ?_
  intro h19 K19 A19
  replace A19 : Ars Z h19 a .byte [(.int (f + (0 : Int32)).toInt8.toInt32), (.int (f + (1 : Int32)).toInt8.toInt32), (.int (f + (2 : Int32)).toInt8.toInt32), (.int (f + (3 : Int32)).toInt8.toInt32), (.int (f + (4 : Int32)).toInt8.toInt32), (.int (f + (5 : Int32)).toInt8.toInt32), (.int (f + (6 : Int32)).toInt8.toInt32), (.int (f + (7 : Int32)).toInt8.toInt32), (.int (0 : Int32))] := A19
  have E2_________________ := Exa.keep E2________________ K19
  have A10_________ := Ars.keep A10________ K19 (ninS ne_b_a nin0)
  have E11________ := Exa.keep E11_______ K19
  have Z0__________________ := Nat.le_trans Z0_________________ K19.1
  show oGo Z _ _ _ _ _ _ n0 _ 2 17 h19 158 #[.val (.long q1), .second, .val (.int p2), .val (.int f), .val (.int (Int32.ofNat n)), .val (.ref b), .val (.ref a)] []
  refine oGo.aload (q := 160) at_158 rfl rfl rfl ?_
  refine oGo.bipush (q := 162) (v := (8 : Int32)) at_160 rfl rfl ?_
  refine oGo.iloadN (q := 163) at_162 rfl rfl ?_
  refine oGo.bipush (q := 165) (v := (8 : Int32)) at_163 rfl rfl ?_
  refine oGo.iadd (q := 166) at_165 rfl ?_
  refine oGo.i2b (q := 167) at_166 rfl ?_
  refine oGo.bastore (q := 168) (i := 8) (y := (f + (8 : Int32)).toInt8.toInt32) at_167 rfl A19 rfl (Nat.le_of_ble_eq_true rfl) ge_a (own_bb _) ?_
  intro h20 K20 A20
  replace A20 : Ars Z h20 a .byte [(.int (f + (0 : Int32)).toInt8.toInt32), (.int (f + (1 : Int32)).toInt8.toInt32), (.int (f + (2 : Int32)).toInt8.toInt32), (.int (f + (3 : Int32)).toInt8.toInt32), (.int (f + (4 : Int32)).toInt8.toInt32), (.int (f + (5 : Int32)).toInt8.toInt32), (.int (f + (6 : Int32)).toInt8.toInt32), (.int (f + (7 : Int32)).toInt8.toInt32), (.int (f + (8 : Int32)).toInt8.toInt32)] := A20
  have E2__________________ := Exa.keep E2_________________ K20
  have A10__________ := Ars.keep A10_________ K20 (ninS ne_b_a nin0)
  have E11_________ := Exa.keep E11________ K20
  have Z0___________________ := Nat.le_trans Z0__________________ K20.1
  show oGo Z _ _ _ _ _ _ n0 _ 2 17 h20 168 #[.val (.long q1), .second, .val (.int p2), .val (.int f), .val (.int (Int32.ofNat n)), .val (.ref b), .val (.ref a)] []
  refine oGo.lloadN (q := 169) at_168 rfl rfl ?_
  refine oGo.iload (q := 171) at_169 rfl rfl ?_
  refine oGo.aload (q := 173) at_171 rfl rfl rfl ?_
  have hv : own_ints [(.int (f + (0 : Int32)).toInt8.toInt32), (.int (f + (1 : Int32)).toInt8.toInt32), (.int (f + (2 : Int32)).toInt8.toInt32), (.int (f + (3 : Int32)).toInt8.toInt32), (.int (f + (4 : Int32)).toInt8.toInt32), (.int (f + (5 : Int32)).toInt8.toInt32), (.int (f + (6 : Int32)).toInt8.toInt32), (.int (f + (7 : Int32)).toInt8.toInt32), (.int (f + (8 : Int32)).toInt8.toInt32)] 9 := ⟨rfl, fun k hk => by
    match k, hk with
    | 0, _ => exact ⟨_, rfl⟩
    | 1, _ => exact ⟨_, rfl⟩
    | 2, _ => exact ⟨_, rfl⟩
    | 3, _ => exact ⟨_, rfl⟩
    | 4, _ => exact ⟨_, rfl⟩
    | 5, _ => exact ⟨_, rfl⟩
    | 6, _ => exact ⟨_, rfl⟩
    | 7, _ => exact ⟨_, rfl⟩
    | 8, _ => exact ⟨_, rfl⟩⟩
  have hws : ∀ j, j < 8 → ([(.int (own_low q1 0)), (.int (own_low q1 1)), (.int (own_low q1 2)), (.int (own_low q1 3)), (.int (own_low q1 4)), (.int (own_low q1 5)), (.int (own_low q1 6)), (.int (own_low q1 7))] : List Value)[j]? = some (Value.int (own_low q1 j)) := fun j hj => by
    match j, hj with
    | 0, _ => rfl
    | 1, _ => rfl
    | 2, _ => rfl
    | 3, _ => rfl
    | 4, _ => rfl
    | 5, _ => rfl
    | 6, _ => rfl
    | 7, _ => rfl
  refine oGo.callS (W := 0) (rm := ({ frames := 0, cells := 0, slots := 0, locals := 0 } : Room)) (q := 176) [(.long q1), (.int (Int32.ofNat n)), (.ref a)] [] at_173 rfl (hw _ (List.mem_of_getElem? (i := 2) rfl)) (hw _ (List.mem_of_getElem? (i := 3) rfl)) (hw _ (List.mem_of_getElem? (i := 4) rfl)) (hw _ (List.mem_of_getElem? (i := 5) rfl)) (by decide) (c1 hw q1 n a [(.int (f + (0 : Int32)).toInt8.toInt32), (.int (f + (1 : Int32)).toInt8.toInt32), (.int (f + (2 : Int32)).toInt8.toInt32), (.int (f + (3 : Int32)).toInt8.toInt32), (.int (f + (4 : Int32)).toInt8.toInt32), (.int (f + (5 : Int32)).toInt8.toInt32), (.int (f + (6 : Int32)).toInt8.toInt32), (.int (f + (7 : Int32)).toInt8.toInt32), (.int (f + (8 : Int32)).toInt8.toInt32)] h20 n0 hn8 ge_a A20 hv) rfl rfl own_pd0 rfl rfl (Nat.le_of_eq rfl) (by decide) (by decide) (by decide) (by decide) ?_
  rintro _ h21 ⟨rfl, vs, K, A, hvs, H⟩
  show oGo Z _ _ _ _ _ _ n0 _ 2 17 h21 176 #[.val (.long q1), .second, .val (.int p2), .val (.int f), .val (.int (Int32.ofNat n)), .val (.ref b), .val (.ref a)] []
  have E2___________________ := Exa.keep E2__________________ K
  have A10___________ := Ars.keep A10__________ K (ninS ne_b_a nin0)
  have E11__________ := Exa.keep E11_________ K
  have Z0____________________ := Nat.le_trans Z0___________________ K.1
  refine oGo.aload (q := 178) at_176 rfl rfl rfl ?_
  refine oGo.aload (q := 180) at_178 rfl rfl rfl ?_
  refine oGo.iload (q := 182) at_180 rfl rfl ?_
  refine oGo.iloadN (q := 183) at_182 rfl rfl ?_
  refine oGo.iconst (q := 184) (v := (0 : Int32)) at_183 rfl rfl ?_
  have P0 : (0 < n ∧ ∃ x : Int32, vs[0]? = some (.int x) ∧ ([(.int (own_low q1 0)), (.int (own_low q1 1)), (.int (own_low q1 2)), (.int (own_low q1 3)), (.int (own_low q1 4)), (.int (own_low q1 5)), (.int (own_low q1 6)), (.int (own_low q1 7))] : List Value)[n - 1 - 0]? = some (.int x)) ∨ (n ≤ 0 ∧ vs[0]? = some (.int (f + (0 : Int32)).toInt8.toInt32)) := by
    have q := H 0 (by decide)
    by_cases u : 0 < n
    · rw [if_pos u] at q; exact Or.inl ⟨u, _, q, hws _ (by omega)⟩
    · rw [if_neg u] at q; exact Or.inr ⟨by omega, q⟩
  refine oGo.callS (W := 0) (rm := ({ frames := 0, cells := 0, slots := 0, locals := 0 } : Room)) (q := 187) [(.ref a), (.ref b), (.int (Int32.ofNat n)), (.int f), (.int (0 : Int32))] [] at_184 rfl (hw _ (List.mem_of_getElem? (i := 6) rfl)) (hw _ (List.mem_of_getElem? (i := 7) rfl)) (hw _ (List.mem_of_getElem? (i := 8) rfl)) (hw _ (List.mem_of_getElem? (i := 9) rfl)) (by decide) (c2 hw a b n f (0 : Int32) 0 vs ([(.int (own_low q1 0)), (.int (own_low q1 1)), (.int (own_low q1 2)), (.int (own_low q1 3)), (.int (own_low q1 4)), (.int (own_low q1 5)), (.int (own_low q1 6)), (.int (own_low q1 7))] : List Value) h21 n0 hn8 rfl A A10___________ P0) rfl rfl own_pd1 rfl rfl (Nat.le_of_eq rfl) (by decide) (by decide) (by decide) (by decide) ?_
  rintro _ h22 ⟨rfl, eh⟩
  all_goals subst h22
  show oGo Z _ _ _ _ _ _ n0 _ 2 17 h21 187 #[.val (.long q1), .second, .val (.int p2), .val (.int f), .val (.int (Int32.ofNat n)), .val (.ref b), .val (.ref a)] [(.int (1 : Int32))]
  refine oGo.if_eq (q := 309) (r := 190) at_187 (by decide) rfl (fun hc => absurd hc (by decide)) (fun hc => ?_)
  refine oGo.aload (q := 192) at_190 rfl rfl rfl ?_
  refine oGo.aload (q := 194) at_192 rfl rfl rfl ?_
  refine oGo.iload (q := 196) at_194 rfl rfl ?_
  refine oGo.iloadN (q := 197) at_196 rfl rfl ?_
  refine oGo.iconst (q := 198) (v := (1 : Int32)) at_197 rfl rfl ?_
  have P1 : (1 < n ∧ ∃ x : Int32, vs[1]? = some (.int x) ∧ ([(.int (own_low q1 0)), (.int (own_low q1 1)), (.int (own_low q1 2)), (.int (own_low q1 3)), (.int (own_low q1 4)), (.int (own_low q1 5)), (.int (own_low q1 6)), (.int (own_low q1 7))] : List Value)[n - 1 - 1]? = some (.int x)) ∨ (n ≤ 1 ∧ vs[1]? = some (.int (f + (1 : Int32)).toInt8.toInt32)) := by
    have q := H 1 (by decide)
    by_cases u : 1 < n
    · rw [if_pos u] at q; exact Or.inl ⟨u, _, q, hws _ (by omega)⟩
    · rw [if_neg u] at q; exact Or.inr ⟨by omega, q⟩
  refine oGo.callS (W := 0) (rm := ({ frames := 0, cells := 0, slots := 0, locals := 0 } : Room)) (q := 201) [(.ref a), (.ref b), (.int (Int32.ofNat n)), (.int f), (.int (1 : Int32))] [] at_198 rfl (hw _ (List.mem_of_getElem? (i := 6) rfl)) (hw _ (List.mem_of_getElem? (i := 7) rfl)) (hw _ (List.mem_of_getElem? (i := 8) rfl)) (hw _ (List.mem_of_getElem? (i := 9) rfl)) (by decide) (c2 hw a b n f (1 : Int32) 1 vs ([(.int (own_low q1 0)), (.int (own_low q1 1)), (.int (own_low q1 2)), (.int (own_low q1 3)), (.int (own_low q1 4)), (.int (own_low q1 5)), (.int (own_low q1 6)), (.int (own_low q1 7))] : List Value) h21 n0 hn8 rfl A A10___________ P1) rfl rfl own_pd1 rfl rfl (Nat.le_of_eq rfl) (by decide) (by decide) (by decide) (by decide) ?_
  rintro _ h23 ⟨rfl, eh⟩
  all_goals subst h23
  show oGo Z _ _ _ _ _ _ n0 _ 2 17 h21 201 #[.val (.long q1), .second, .val (.int p2), .val (.int f), .val (.int (Int32.ofNat n)), .val (.ref b), .val (.ref a)] [(.int (1 : Int32))]
  refine oGo.if_eq (q := 309) (r := 204) at_201 (by decide) rfl (fun hc => absurd hc (by decide)) (fun hc => ?_)
  refine oGo.aload (q := 206) at_204 rfl rfl rfl ?_
  refine oGo.aload (q := 208) at_206 rfl rfl rfl ?_
  refine oGo.iload (q := 210) at_208 rfl rfl ?_
  refine oGo.iloadN (q := 211) at_210 rfl rfl ?_
  refine oGo.iconst (q := 212) (v := (2 : Int32)) at_211 rfl rfl ?_
  have P2 : (2 < n ∧ ∃ x : Int32, vs[2]? = some (.int x) ∧ ([(.int (own_low q1 0)), (.int (own_low q1 1)), (.int (own_low q1 2)), (.int (own_low q1 3)), (.int (own_low q1 4)), (.int (own_low q1 5)), (.int (own_low q1 6)), (.int (own_low q1 7))] : List Value)[n - 1 - 2]? = some (.int x)) ∨ (n ≤ 2 ∧ vs[2]? = some (.int (f + (2 : Int32)).toInt8.toInt32)) := by
    have q := H 2 (by decide)
    by_cases u : 2 < n
    · rw [if_pos u] at q; exact Or.inl ⟨u, _, q, hws _ (by omega)⟩
    · rw [if_neg u] at q; exact Or.inr ⟨by omega, q⟩
  refine oGo.callS (W := 0) (rm := ({ frames := 0, cells := 0, slots := 0, locals := 0 } : Room)) (q := 215) [(.ref a), (.ref b), (.int (Int32.ofNat n)), (.int f), (.int (2 : Int32))] [] at_212 rfl (hw _ (List.mem_of_getElem? (i := 6) rfl)) (hw _ (List.mem_of_getElem? (i := 7) rfl)) (hw _ (List.mem_of_getElem? (i := 8) rfl)) (hw _ (List.mem_of_getElem? (i := 9) rfl)) (by decide) (c2 hw a b n f (2 : Int32) 2 vs ([(.int (own_low q1 0)), (.int (own_low q1 1)), (.int (own_low q1 2)), (.int (own_low q1 3)), (.int (own_low q1 4)), (.int (own_low q1 5)), (.int (own_low q1 6)), (.int (own_low q1 7))] : List Value) h21 n0 hn8 rfl A A10___________ P2) rfl rfl own_pd1 rfl rfl (Nat.le_of_eq rfl) (by decide) (by decide) (by decide) (by decide) ?_
  rintro _ h24 ⟨rfl, eh⟩
  all_goals subst h24
  show oGo Z _ _ _ _ _ _ n0 _ 2 17 h21 215 #[.val (.long q1), .second, .val (.int p2), .val (.int f), .val (.int (Int32.ofNat n)), .val (.ref b), .val (.ref a)] [(.int (1 : Int32))]
  refine oGo.if_eq (q := 309) (r := 218) at_215 (by decide) rfl (fun hc => absurd hc (by decide)) (fun hc => ?_)
  refine oGo.aload (q := 220) at_218 rfl rfl rfl ?_
  refine oGo.aload (q := 222) at_220 rfl rfl rfl ?_
  refine oGo.iload (q := 224) at_222 rfl rfl ?_
  refine oGo.iloadN (q := 225) at_224 rfl rfl ?_
  refine oGo.iconst (q := 226) (v := (3 : Int32)) at_225 rfl rfl ?_
  have P3 : (3 < n ∧ ∃ x : Int32, vs[3]? = some (.int x) ∧ ([(.int (own_low q1 0)), (.int (own_low q1 1)), (.int (own_low q1 2)), (.int (own_low q1 3)), (.int (own_low q1 4)), (.int (own_low q1 5)), (.int (own_low q1 6)), (.int (own_low q1 7))] : List Value)[n - 1 - 3]? = some (.int x)) ∨ (n ≤ 3 ∧ vs[3]? = some (.int (f + (3 : Int32)).toInt8.toInt32)) := by
    have q := H 3 (by decide)
    by_cases u : 3 < n
    · rw [if_pos u] at q; exact Or.inl ⟨u, _, q, hws _ (by omega)⟩
    · rw [if_neg u] at q; exact Or.inr ⟨by omega, q⟩
  refine oGo.callS (W := 0) (rm := ({ frames := 0, cells := 0, slots := 0, locals := 0 } : Room)) (q := 229) [(.ref a), (.ref b), (.int (Int32.ofNat n)), (.int f), (.int (3 : Int32))] [] at_226 rfl (hw _ (List.mem_of_getElem? (i := 6) rfl)) (hw _ (List.mem_of_getElem? (i := 7) rfl)) (hw _ (List.mem_of_getElem? (i := 8) rfl)) (hw _ (List.mem_of_getElem? (i := 9) rfl)) (by decide) (c2 hw a b n f (3 : Int32) 3 vs ([(.int (own_low q1 0)), (.int (own_low q1 1)), (.int (own_low q1 2)), (.int (own_low q1 3)), (.int (own_low q1 4)), (.int (own_low q1 5)), (.int (own_low q1 6)), (.int (own_low q1 7))] : List Value) h21 n0 hn8 rfl A A10___________ P3) rfl rfl own_pd1 rfl rfl (Nat.le_of_eq rfl) (by decide) (by decide) (by decide) (by decide) ?_
  rintro _ h25 ⟨rfl, eh⟩
  all_goals subst h25
  show oGo Z _ _ _ _ _ _ n0 _ 2 17 h21 229 #[.val (.long q1), .second, .val (.int p2), .val (.int f), .val (.int (Int32.ofNat n)), .val (.ref b), .val (.ref a)] [(.int (1 : Int32))]
  refine oGo.if_eq (q := 309) (r := 232) at_229 (by decide) rfl (fun hc => absurd hc (by decide)) (fun hc => ?_)
  refine oGo.aload (q := 234) at_232 rfl rfl rfl ?_
  refine oGo.aload (q := 236) at_234 rfl rfl rfl ?_
  refine oGo.iload (q := 238) at_236 rfl rfl ?_
  refine oGo.iloadN (q := 239) at_238 rfl rfl ?_
  refine oGo.iconst (q := 240) (v := (4 : Int32)) at_239 rfl rfl ?_
  have P4 : (4 < n ∧ ∃ x : Int32, vs[4]? = some (.int x) ∧ ([(.int (own_low q1 0)), (.int (own_low q1 1)), (.int (own_low q1 2)), (.int (own_low q1 3)), (.int (own_low q1 4)), (.int (own_low q1 5)), (.int (own_low q1 6)), (.int (own_low q1 7))] : List Value)[n - 1 - 4]? = some (.int x)) ∨ (n ≤ 4 ∧ vs[4]? = some (.int (f + (4 : Int32)).toInt8.toInt32)) := by
    have q := H 4 (by decide)
    by_cases u : 4 < n
    · rw [if_pos u] at q; exact Or.inl ⟨u, _, q, hws _ (by omega)⟩
    · rw [if_neg u] at q; exact Or.inr ⟨by omega, q⟩
  refine oGo.callS (W := 0) (rm := ({ frames := 0, cells := 0, slots := 0, locals := 0 } : Room)) (q := 243) [(.ref a), (.ref b), (.int (Int32.ofNat n)), (.int f), (.int (4 : Int32))] [] at_240 rfl (hw _ (List.mem_of_getElem? (i := 6) rfl)) (hw _ (List.mem_of_getElem? (i := 7) rfl)) (hw _ (List.mem_of_getElem? (i := 8) rfl)) (hw _ (List.mem_of_getElem? (i := 9) rfl)) (by decide) (c2 hw a b n f (4 : Int32) 4 vs ([(.int (own_low q1 0)), (.int (own_low q1 1)), (.int (own_low q1 2)), (.int (own_low q1 3)), (.int (own_low q1 4)), (.int (own_low q1 5)), (.int (own_low q1 6)), (.int (own_low q1 7))] : List Value) h21 n0 hn8 rfl A A10___________ P4) rfl rfl own_pd1 rfl rfl (Nat.le_of_eq rfl) (by decide) (by decide) (by decide) (by decide) ?_
  rintro _ h26 ⟨rfl, eh⟩
  all_goals subst h26
  show oGo Z _ _ _ _ _ _ n0 _ 2 17 h21 243 #[.val (.long q1), .second, .val (.int p2), .val (.int f), .val (.int (Int32.ofNat n)), .val (.ref b), .val (.ref a)] [(.int (1 : Int32))]
  refine oGo.if_eq (q := 309) (r := 246) at_243 (by decide) rfl (fun hc => absurd hc (by decide)) (fun hc => ?_)
  refine oGo.aload (q := 248) at_246 rfl rfl rfl ?_
  refine oGo.aload (q := 250) at_248 rfl rfl rfl ?_
  refine oGo.iload (q := 252) at_250 rfl rfl ?_
  refine oGo.iloadN (q := 253) at_252 rfl rfl ?_
  refine oGo.iconst (q := 254) (v := (5 : Int32)) at_253 rfl rfl ?_
  have P5 : (5 < n ∧ ∃ x : Int32, vs[5]? = some (.int x) ∧ ([(.int (own_low q1 0)), (.int (own_low q1 1)), (.int (own_low q1 2)), (.int (own_low q1 3)), (.int (own_low q1 4)), (.int (own_low q1 5)), (.int (own_low q1 6)), (.int (own_low q1 7))] : List Value)[n - 1 - 5]? = some (.int x)) ∨ (n ≤ 5 ∧ vs[5]? = some (.int (f + (5 : Int32)).toInt8.toInt32)) := by
    have q := H 5 (by decide)
    by_cases u : 5 < n
    · rw [if_pos u] at q; exact Or.inl ⟨u, _, q, hws _ (by omega)⟩
    · rw [if_neg u] at q; exact Or.inr ⟨by omega, q⟩
  refine oGo.callS (W := 0) (rm := ({ frames := 0, cells := 0, slots := 0, locals := 0 } : Room)) (q := 257) [(.ref a), (.ref b), (.int (Int32.ofNat n)), (.int f), (.int (5 : Int32))] [] at_254 rfl (hw _ (List.mem_of_getElem? (i := 6) rfl)) (hw _ (List.mem_of_getElem? (i := 7) rfl)) (hw _ (List.mem_of_getElem? (i := 8) rfl)) (hw _ (List.mem_of_getElem? (i := 9) rfl)) (by decide) (c2 hw a b n f (5 : Int32) 5 vs ([(.int (own_low q1 0)), (.int (own_low q1 1)), (.int (own_low q1 2)), (.int (own_low q1 3)), (.int (own_low q1 4)), (.int (own_low q1 5)), (.int (own_low q1 6)), (.int (own_low q1 7))] : List Value) h21 n0 hn8 rfl A A10___________ P5) rfl rfl own_pd1 rfl rfl (Nat.le_of_eq rfl) (by decide) (by decide) (by decide) (by decide) ?_
  rintro _ h27 ⟨rfl, eh⟩
  all_goals subst h27
  show oGo Z _ _ _ _ _ _ n0 _ 2 17 h21 257 #[.val (.long q1), .second, .val (.int p2), .val (.int f), .val (.int (Int32.ofNat n)), .val (.ref b), .val (.ref a)] [(.int (1 : Int32))]
  refine oGo.if_eq (q := 309) (r := 260) at_257 (by decide) rfl (fun hc => absurd hc (by decide)) (fun hc => ?_)
  refine oGo.aload (q := 262) at_260 rfl rfl rfl ?_
  refine oGo.aload (q := 264) at_262 rfl rfl rfl ?_
  refine oGo.iload (q := 266) at_264 rfl rfl ?_
  refine oGo.iloadN (q := 267) at_266 rfl rfl ?_
  refine oGo.bipush (q := 269) (v := (6 : Int32)) at_267 rfl rfl ?_
  have P6 : (6 < n ∧ ∃ x : Int32, vs[6]? = some (.int x) ∧ ([(.int (own_low q1 0)), (.int (own_low q1 1)), (.int (own_low q1 2)), (.int (own_low q1 3)), (.int (own_low q1 4)), (.int (own_low q1 5)), (.int (own_low q1 6)), (.int (own_low q1 7))] : List Value)[n - 1 - 6]? = some (.int x)) ∨ (n ≤ 6 ∧ vs[6]? = some (.int (f + (6 : Int32)).toInt8.toInt32)) := by
    have q := H 6 (by decide)
    by_cases u : 6 < n
    · rw [if_pos u] at q; exact Or.inl ⟨u, _, q, hws _ (by omega)⟩
    · rw [if_neg u] at q; exact Or.inr ⟨by omega, q⟩
  refine oGo.callS (W := 0) (rm := ({ frames := 0, cells := 0, slots := 0, locals := 0 } : Room)) (q := 272) [(.ref a), (.ref b), (.int (Int32.ofNat n)), (.int f), (.int (6 : Int32))] [] at_269 rfl (hw _ (List.mem_of_getElem? (i := 6) rfl)) (hw _ (List.mem_of_getElem? (i := 7) rfl)) (hw _ (List.mem_of_getElem? (i := 8) rfl)) (hw _ (List.mem_of_getElem? (i := 9) rfl)) (by decide) (c2 hw a b n f (6 : Int32) 6 vs ([(.int (own_low q1 0)), (.int (own_low q1 1)), (.int (own_low q1 2)), (.int (own_low q1 3)), (.int (own_low q1 4)), (.int (own_low q1 5)), (.int (own_low q1 6)), (.int (own_low q1 7))] : List Value) h21 n0 hn8 rfl A A10___________ P6) rfl rfl own_pd1 rfl rfl (Nat.le_of_eq rfl) (by decide) (by decide) (by decide) (by decide) ?_
  rintro _ h28 ⟨rfl, eh⟩
  all_goals subst h28
  show oGo Z _ _ _ _ _ _ n0 _ 2 17 h21 272 #[.val (.long q1), .second, .val (.int p2), .val (.int f), .val (.int (Int32.ofNat n)), .val (.ref b), .val (.ref a)] [(.int (1 : Int32))]
  refine oGo.if_eq (q := 309) (r := 275) at_272 (by decide) rfl (fun hc => absurd hc (by decide)) (fun hc => ?_)
  refine oGo.aload (q := 277) at_275 rfl rfl rfl ?_
  refine oGo.aload (q := 279) at_277 rfl rfl rfl ?_
  refine oGo.iload (q := 281) at_279 rfl rfl ?_
  refine oGo.iloadN (q := 282) at_281 rfl rfl ?_
  refine oGo.bipush (q := 284) (v := (7 : Int32)) at_282 rfl rfl ?_
  have P7 : (7 < n ∧ ∃ x : Int32, vs[7]? = some (.int x) ∧ ([(.int (own_low q1 0)), (.int (own_low q1 1)), (.int (own_low q1 2)), (.int (own_low q1 3)), (.int (own_low q1 4)), (.int (own_low q1 5)), (.int (own_low q1 6)), (.int (own_low q1 7))] : List Value)[n - 1 - 7]? = some (.int x)) ∨ (n ≤ 7 ∧ vs[7]? = some (.int (f + (7 : Int32)).toInt8.toInt32)) := by
    have q := H 7 (by decide)
    by_cases u : 7 < n
    · rw [if_pos u] at q; exact Or.inl ⟨u, _, q, hws _ (by omega)⟩
    · rw [if_neg u] at q; exact Or.inr ⟨by omega, q⟩
  refine oGo.callS (W := 0) (rm := ({ frames := 0, cells := 0, slots := 0, locals := 0 } : Room)) (q := 287) [(.ref a), (.ref b), (.int (Int32.ofNat n)), (.int f), (.int (7 : Int32))] [] at_284 rfl (hw _ (List.mem_of_getElem? (i := 6) rfl)) (hw _ (List.mem_of_getElem? (i := 7) rfl)) (hw _ (List.mem_of_getElem? (i := 8) rfl)) (hw _ (List.mem_of_getElem? (i := 9) rfl)) (by decide) (c2 hw a b n f (7 : Int32) 7 vs ([(.int (own_low q1 0)), (.int (own_low q1 1)), (.int (own_low q1 2)), (.int (own_low q1 3)), (.int (own_low q1 4)), (.int (own_low q1 5)), (.int (own_low q1 6)), (.int (own_low q1 7))] : List Value) h21 n0 hn8 rfl A A10___________ P7) rfl rfl own_pd1 rfl rfl (Nat.le_of_eq rfl) (by decide) (by decide) (by decide) (by decide) ?_
  rintro _ h29 ⟨rfl, eh⟩
  all_goals subst h29
  show oGo Z _ _ _ _ _ _ n0 _ 2 17 h21 287 #[.val (.long q1), .second, .val (.int p2), .val (.int f), .val (.int (Int32.ofNat n)), .val (.ref b), .val (.ref a)] [(.int (1 : Int32))]
  refine oGo.if_eq (q := 309) (r := 290) at_287 (by decide) rfl (fun hc => absurd hc (by decide)) (fun hc => ?_)
  refine oGo.aload (q := 292) at_290 rfl rfl rfl ?_
  refine oGo.aload (q := 294) at_292 rfl rfl rfl ?_
  refine oGo.iload (q := 296) at_294 rfl rfl ?_
  refine oGo.iloadN (q := 297) at_296 rfl rfl ?_
  refine oGo.bipush (q := 299) (v := (8 : Int32)) at_297 rfl rfl ?_
  have P8 : (8 < n ∧ ∃ x : Int32, vs[8]? = some (.int x) ∧ ([(.int (own_low q1 0)), (.int (own_low q1 1)), (.int (own_low q1 2)), (.int (own_low q1 3)), (.int (own_low q1 4)), (.int (own_low q1 5)), (.int (own_low q1 6)), (.int (own_low q1 7))] : List Value)[n - 1 - 8]? = some (.int x)) ∨ (n ≤ 8 ∧ vs[8]? = some (.int (f + (8 : Int32)).toInt8.toInt32)) := by
    have q := H 8 (by decide)
    by_cases u : 8 < n
    · rw [if_pos u] at q; exact Or.inl ⟨u, _, q, hws _ (by omega)⟩
    · rw [if_neg u] at q; exact Or.inr ⟨by omega, q⟩
  refine oGo.callS (W := 0) (rm := ({ frames := 0, cells := 0, slots := 0, locals := 0 } : Room)) (q := 302) [(.ref a), (.ref b), (.int (Int32.ofNat n)), (.int f), (.int (8 : Int32))] [] at_299 rfl (hw _ (List.mem_of_getElem? (i := 6) rfl)) (hw _ (List.mem_of_getElem? (i := 7) rfl)) (hw _ (List.mem_of_getElem? (i := 8) rfl)) (hw _ (List.mem_of_getElem? (i := 9) rfl)) (by decide) (c2 hw a b n f (8 : Int32) 8 vs ([(.int (own_low q1 0)), (.int (own_low q1 1)), (.int (own_low q1 2)), (.int (own_low q1 3)), (.int (own_low q1 4)), (.int (own_low q1 5)), (.int (own_low q1 6)), (.int (own_low q1 7))] : List Value) h21 n0 hn8 rfl A A10___________ P8) rfl rfl own_pd1 rfl rfl (Nat.le_of_eq rfl) (by decide) (by decide) (by decide) (by decide) ?_
  rintro _ h30 ⟨rfl, eh⟩
  all_goals subst h30
  show oGo Z _ _ _ _ _ _ n0 _ 2 17 h21 302 #[.val (.long q1), .second, .val (.int p2), .val (.int f), .val (.int (Int32.ofNat n)), .val (.ref b), .val (.ref a)] [(.int (1 : Int32))]
  refine oGo.if_eq (q := 309) (r := 305) at_302 (by decide) rfl (fun hc => absurd hc (by decide)) (fun hc => ?_)
  refine oGo.iconst (q := 306) (v := (1 : Int32)) at_305 rfl rfl ?_
  refine oGo.goto (q := 310) at_306 (by decide) ?_
  exact oGo.retN (t := .boolean) at_310 rfl (by simp) (by decide) (by decide) (rfl)
set_option maxRecDepth 65536 in
set_option maxHeartbeats 40000000 in
theorem comes_1 {Post : Tables → Env → Array Value → State → Outcome → State → Prop} (hpost : ∀ tb e args s v u, (limb_1_1.after args s (.returned v) u = true ∧ limb_1_2.after args s (.returned v) u = true ∧ True) → FrameEnd s (.returned v) u (Jvm.fieldLocs frame_1_writes args s ++ Jvm.arrayLocs frame_1_arrays args s ++ Jvm.staticLocs frame_1_statics s) 16 128 → Post tb e args s (.returned v) u) :
    ArmFor flags0 classFile x code maxLocals ret World_1 tables_1 room_1 Calls_1 rest_1 Pre_1 Post := by
  intro l hfl _ _ p e ha hc hk s m args below hf hA hF happ hP
  obtain ⟨hcalls, hrest, hpre⟩ := hP
  obtain ⟨-, -, -, hnamed, -, -, -, hat⟩ := (Spec.applies_iff hf).mp happ
  obtain ⟨hg, hn⟩ := and_e (Cond.before_iff.mp (show (Jvm.Cond.and given_1 narrow_1).before args s = true from hpre))
  obtain ⟨h1, g0⟩ := and_e hg
  obtain ⟨b0, g1⟩ := and_e g0
  obtain ⟨b1, g2⟩ := and_e g1
  have b2 := g2
  obtain ⟨w0, w1, w2, rfl⟩ : ∃ w0 w1 w2 : Value, args = #[w0, w1, w2] := by
    have hs : args.size = 3 := by simpa [Cond.value, given_1] using h1
    obtain ⟨L⟩ := args
    match L, hs with
    | [w0, w1, w2], _ => exact ⟨w0, w1, w2, rfl⟩
  have hw := fun d (hd : d ∈ tables_1) => atoms_spec (ws := Jvm.Cond.code x code maxLocals ret :: tables_1) hat d (List.mem_cons_of_mem _ hd)
  have hfit : Fit s := fun {y c} hc i hi => by
    obtain ⟨ha, rfl⟩ := Array.getElem?_eq_some_iff.mp hc
    have q := List.all_eq_true.mp ((Array.all_eq_true_iff_forall_mem.mp hF) _ (Array.getElem_mem ha)) i (List.mem_range.mpr hi)
    simpa [Array.getElem?_eq_getElem hi] using q
  obtain ⟨i0, e0⟩ := isL_v b0
  obtain rfl : w0 = (.long i0) := Option.some.inj e0
  obtain ⟨i1, e1⟩ := is_v b1
  obtain rfl : w1 = (.int i1) := Option.some.inj e1
  obtain ⟨i2, e2⟩ := is_v b2
  obtain rfl : w2 = (.int i2) := Option.some.inj e2
  obtain ⟨n, o, q1, q2, q3, _, L, rfl, ⟨rfl, N⟩, hq⟩ := (law hw i0 i1 i2 s.heap s.heap.size (Nat.le_refl _)) l tables_1 p e ha hc hk s m _ below hf ((Spec.applies_iff_loose hf).mp happ).1 ⟨rfl, State.Warmed39.refl s, rfl⟩ trivial
  refine ⟨n, _, q1, q2, q3, hpost _ _ _ _ _ _ ⟨Cond.after_iff.mpr rfl, Cond.after_iff.mpr (eq_i res_at (Term.int_eval (1)) rfl), trivial⟩ ⟨hq.1, hq.2.1, (hq.2.2.sift fun y hy => Or.inr (N y hy)).mono (by decide) (by decide)⟩⟩
theorem main_1_1 : Claimed_1_1 := comes_1 fun _ _ _ _ _ _ h hF => ⟨h.1, hF⟩
theorem main_1_2 : Claimed_1_2 := comes_1 fun _ _ _ _ _ _ h hF => ⟨h.2.1, hF⟩
end Jvm.Pilot.@@N@@
namespace Jvm.Pilot.@@N@@
open Jvm Jvm.ClassFile Sem Op Lib Jvm.Free Jvm.Stand Jvm.Pilot.@@N@@.Jvm.D
/-! MADE BY PROGRAM (witnessworld.py) out of the Statement's table words and the real class files: 9 classes; the members and pool entries that the words name. The judged class is class 1, her method 1. -/
namespace start1
open Jvm.ClassFile
def u (s : String) : CpInfo := .utf8 (stringToUtf16 s)
/-- a pool by its gaps: so many unusable entries, then the entry; so many at the end -/
def gap : Nat → List CpInfo → List CpInfo
  | 0, r => r
  | n + 1, r => .unusable :: gap n r
def poolList (es : List (Nat × CpInfo)) (last : Nat) : List CpInfo := es.foldr (fun e r => gap e.1 (e.2 :: r)) (gap last [])
def pool (es : List (Nat × CpInfo)) (last : Nat) : Array CpInfo := ⟨poolList es last⟩
def fileOf (pool : Array CpInfo) (this : Nat) (attrs : Array Attribute := #[]) (ms : Array MethodInfo := #[]) (fl : Nat := 33) (sup : Nat := 0) (ifs : Array Nat := #[]) (fds : Array FieldInfo := #[]) : ClassFile where
  minorVersion := 0
  majorVersion := 65
  constantPool := pool
  accessFlags := fl
  thisClass := this
  superClass := sup
  interfaces := ifs
  fields := fds
  methods := ms
  attributes := attrs
def plain (name : String) (sup : Option ClassId) : Class where
  name := name
  kind := .ordinary
  loader := none
  accessFlags := 33
  super := sup
  interfaces := #[]
  cf := none
  fields := #[]
  methods := #[]
  instanceTypes := #[]
  staticTypes := #[]
  resolved := #[]
  callSites := []
  init := .initialized
  statics := none
  mirror := none

def pool0 : Array CpInfo := pool [(5, u "<init>"), (0, u "()V"), (1, .class_ 10), (1, u "java/lang/Object")] 113

def k0m0 : Method := { name := "<init>", desc := "()V", sig := { parameters := [], returnType := none }, accessFlags := 1, code := none }
/-- java/lang/Object -/
def k0 : Class := { plain "java/lang/Object" none with
  accessFlags := 33
  interfaces := #[]
  cf := some (fileOf pool0 8 #[] #[{ accessFlags := 1, nameIndex := 5, descriptorIndex := 6, attributes := #[] }] 33 0 #[] #[])
  fields := #[]
  methods := #[k0m0]
  instanceTypes := #[]
  staticTypes := #[]
  resolved := Array.replicate 124 none
  statics := none }

def pool1 : Array CpInfo := pool [(2, .class_ 4), (1, u "java/lang/Object"), (0, u "<init>"), (0, u "()V"), (0, .integer 2147483647), (0, .methodref 9 10), (0, .class_ 11), (0, .nameAndType 12 13), (0, u "com/example/bowerbird/bowerbird/detect/Vocabulary"), (0, u "unpack"), (0, u "(JI[B)V"), (0, .methodref 15 16), (0, .class_ 17), (0, .nameAndType 18 19), (0, u "com/example/bowerbird/bowerbird/detect/VocabularyUnpackPinLaw"), (0, u "at"), (0, u "([B[BIII)Z"), (2, u "law"), (0, u "(JII)Z")] 5

def k1m0 : Method := { name := "<init>", desc := "()V", sig := { parameters := [], returnType := none }, accessFlags := 1, code := none }
def k1c1 : Code := { maxStack := 6, maxLocals := 7, code := code, exceptionTable := #[], attributes := #[] }
def k1m1 : Method := { name := "law", desc := "(JII)Z", sig := { parameters := [.long, .int, .int], returnType := some .boolean }, accessFlags := 9, code := some k1c1 }
def k1c2 : Code := { maxStack := 4, maxLocals := 5, code := method_3_code, exceptionTable := #[], attributes := #[] }
def k1m2 : Method := { name := "at", desc := "([B[BIII)Z", sig := { parameters := [(.array .byte), (.array .byte), .int, .int, .int], returnType := some .boolean }, accessFlags := 10, code := some k1c2 }
/-- com/example/bowerbird/bowerbird/detect/VocabularyUnpackPinLaw -/
def k1 : Class := { plain "com/example/bowerbird/bowerbird/detect/VocabularyUnpackPinLaw" (some 0) with
  accessFlags := 49
  interfaces := #[]
  cf := some (fileOf pool1 15 #[] #[{ accessFlags := 1, nameIndex := 5, descriptorIndex := 6, attributes := #[] }, { accessFlags := 9, nameIndex := 22, descriptorIndex := 23, attributes := #[] }, { accessFlags := 10, nameIndex := 18, descriptorIndex := 19, attributes := #[] }] 49 2 #[] #[])
  fields := #[]
  methods := #[k1m0, k1m1, k1m2]
  instanceTypes := #[]
  staticTypes := #[]
  resolved := Array.replicate 29 none
  statics := none }

def pool2 : Array CpInfo := pool [(4, .class_ 6), (1, u "java/lang/Object"), (0, u "<init>"), (0, u "()V"), (0, .class_ 10), (0, u "com/example/bowerbird/bowerbird/detect/Vocabulary$Table"), (0, .class_ 12), (0, u "com/example/bowerbird/bowerbird/detect/Vocabulary"), (5, u "table"), (0, u "Lcom/example/bowerbird/bowerbird/detect/Vocabulary$Table;"), (32, u "SPELLING"), (0, u "I"), (2, u "PACKED"), (1, u "FIRST"), (1, u "ESCAPE"), (1, u "FOUND"), (1, u "NONE"), (1, u "OTHERS"), (9, u "unpack"), (0, u "(JI[B)V")] 13

def k2m0 : Method := { name := "<init>", desc := "()V", sig := { parameters := [], returnType := none }, accessFlags := 0, code := none }
def k2c1 : Code := { maxStack := 7, maxLocals := 5, code := prog_43_method_5_code, exceptionTable := #[], attributes := #[] }
def k2m1 : Method := { name := "unpack", desc := "(JI[B)V", sig := { parameters := [.long, .int, (.array .byte)], returnType := none }, accessFlags := 8, code := some k2c1 }
/-- com/example/bowerbird/bowerbird/detect/Vocabulary -/
def k2 : Class := { plain "com/example/bowerbird/bowerbird/detect/Vocabulary" (some 0) with
  accessFlags := 48
  interfaces := #[]
  cf := some (fileOf pool2 11 #[.nestMembers #[9]] #[{ accessFlags := 0, nameIndex := 7, descriptorIndex := 8, attributes := #[] }, { accessFlags := 8, nameIndex := 76, descriptorIndex := 77, attributes := #[] }] 48 4 #[] #[{ accessFlags := 24, nameIndex := 52, descriptorIndex := 53, attributes := #[] }, { accessFlags := 24, nameIndex := 56, descriptorIndex := 53, attributes := #[] }, { accessFlags := 26, nameIndex := 58, descriptorIndex := 53, attributes := #[] }, { accessFlags := 26, nameIndex := 60, descriptorIndex := 53, attributes := #[] }, { accessFlags := 26, nameIndex := 62, descriptorIndex := 53, attributes := #[] }, { accessFlags := 26, nameIndex := 64, descriptorIndex := 53, attributes := #[] }, { accessFlags := 26, nameIndex := 66, descriptorIndex := 53, attributes := #[] }, { accessFlags := 66, nameIndex := 18, descriptorIndex := 19, attributes := #[] }])
  fields := #[{ name := "SPELLING", type := .int, accessFlags := 24, slot := 0, constantValue := 0 }, { name := "PACKED", type := .int, accessFlags := 24, slot := 1, constantValue := 0 }, { name := "FIRST", type := .int, accessFlags := 26, slot := 2, constantValue := 0 }, { name := "ESCAPE", type := .int, accessFlags := 26, slot := 3, constantValue := 0 }, { name := "FOUND", type := .int, accessFlags := 26, slot := 4, constantValue := 0 }, { name := "NONE", type := .int, accessFlags := 26, slot := 5, constantValue := 0 }, { name := "OTHERS", type := .int, accessFlags := 26, slot := 6, constantValue := 0 }, { name := "table", type := (.object "com/example/bowerbird/bowerbird/detect/Vocabulary$Table"), accessFlags := 66, slot := 0, constantValue := 0 }]
  methods := #[k2m0, k2m1]
  instanceTypes := #[(.object "com/example/bowerbird/bowerbird/detect/Vocabulary$Table")]
  staticTypes := #[.int, .int, .int, .int, .int, .int, .int]
  resolved := Array.replicate 91 none
  statics := none }

def pool3 : Array CpInfo := pool [(1, u "java/lang/Cloneable"), (0, .class_ 1), (0, u "java/lang/Object"), (0, .class_ 3)] 3

/-- java/lang/Cloneable -/
def k3 : Class := { plain "java/lang/Cloneable" (some 0) with
  accessFlags := 1537
  interfaces := #[]
  cf := some (fileOf pool3 2 #[] #[] 1537 4 #[] #[])
  fields := #[]
  methods := #[]
  instanceTypes := #[]
  staticTypes := #[]
  resolved := Array.replicate 8 none
  statics := none }

def pool4 : Array CpInfo := pool [(1, u "java/io/Serializable"), (0, .class_ 1), (0, u "java/lang/Object"), (0, .class_ 3)] 3

/-- java/io/Serializable -/
def k4 : Class := { plain "java/io/Serializable" (some 0) with
  accessFlags := 1537
  interfaces := #[]
  cf := some (fileOf pool4 2 #[] #[] 1537 4 #[] #[])
  fields := #[]
  methods := #[]
  instanceTypes := #[]
  staticTypes := #[]
  resolved := Array.replicate 8 none
  statics := none }

/-- the primitive byte -/
def k5 : Class := { plain "byte" none with kind := .primitive 'B', accessFlags := 0x411 }
/-- [B -/
def k6 : Class := { plain "[B" (some 0) with kind := .array 5 .byte, interfaces := #[3, 4], accessFlags := 1041 }

/-- the primitive int -/
def k7 : Class := { plain "int" none with kind := .primitive 'I', accessFlags := 0x411 }
/-- [I -/
def k8 : Class := { plain "[I" (some 0) with kind := .array 7 .int, interfaces := #[3, 4], accessFlags := 1041 }

def heap : Heap := #[]
def classes : Array Class := #[k0, k1, k2, k3, k4, k5, k6, k7, k8]
def interned : List (Array UInt16 × Addr) := []
def slotsUsed : Nat := 0
def theMethod : MethodId := ⟨1, 1⟩
def args0 : Array Value := #[.long 5, .int 2, .int 5]
def aboutOver (below : List Frame) : State where
  vm := { classes := classes, interned := interned.toArray }
  heap := heap
  slotsUsed := slotsUsed
  threads := #[{ frames := .invoking theMethod args0 :: below }]
def below0 : List Frame := [.native { method := ⟨0, 0⟩, args := #[] }]
def about1 : State := aboutOver below0
def p0 : Program := .bare "" "" ""
def e0 : Env := launch0.env 0 0 0
theorem w_frames : about1.frames = Frame.invoking theMethod args0 :: below0 := rfl
set_option maxRecDepth 65536 in
theorem w_args : argsFit about1.vm theMethod args0 = true := by decide +kernel
set_option maxRecDepth 65536 in
theorem w_heap : heapFits about1 = true := by decide +kernel
set_option maxRecDepth 65536 in
theorem w_runnable : about1.curStatus? = some .runnable := by decide +kernel
set_option maxRecDepth 65536 in
theorem w_alone : about1.alone = true := by decide +kernel
set_option maxRecDepth 65536 in
theorem w_named : about1.methodNamed? x = some theMethod := by decide +kernel
set_option maxRecDepth 65536 in
theorem w_hears : about1.hears theMethod below0 = true := by decide +kernel
set_option maxRecDepth 65536 in
theorem w_ripe : about1.ripe theMethod args0 below0 = true := by decide +kernel
theorem w_running : about1.status = .running := rfl
set_option maxRecDepth 65536 in
theorem w_room : about1.hasRoom e0.platform room_1 = true :=
  launch0.hasRoom_least _ room_1 (by decide +kernel) (by decide +kernel) (by decide +kernel) (by decide +kernel) (by decide +kernel) (by decide +kernel)
theorem allAtoms_all (ts : List Jvm.Cond) (a : Array Jvm.Value) (st : Jvm.State) : (allAtoms ts).before a st = ts.all (fun c => c.before a st) := by
  induction ts with
  | nil => rfl
  | cons c t ih =>
    show (Jvm.Cond.and c (allAtoms t)).before a st = _
    rw [Jvm.Cond.before_and, ih, List.all_cons]
def words1 : List Jvm.Cond := Jvm.Cond.code x code maxLocals ret :: tables_1
/-- a 'code' word, met by the world's own term for the bytes: nothing is compared byte by byte -/
theorem code_word {y : MethodName} {bytes : ByteArray} {mx : Nat} {rt : Option FieldType} {a : Array Value} {s : State} {m : MethodId} {meth : Method} {c : Code} (h1 : s.methodNamed? y = some m) (h2 : s.vm.method? m = some meth) (h3 : meth.code = some c) (h4 : c.code = bytes)
    (h5 : (c.maxLocals == mx && c.exceptionTable.isEmpty && decide (c.maxStack ≤ mostOperands) && decide (meth.sig.returnType = rt) && !meth.locks && decide (parseMethodDescriptor y.desc = some meth.sig)) = true) : (Jvm.Cond.code y bytes mx rt).before a s = true := by
  simp only [Bool.and_eq_true, beq_iff_eq, Bool.not_eq_true', decide_eq_true_eq] at h5
  obtain ⟨⟨⟨⟨⟨g1, g2⟩, g3⟩, g4⟩, g5⟩, g6⟩ := h5
  simp [Cond.before, Cond.holds, Cond.value, h1, h2, h3, h4, g1, g2, g3, g4, g5, g6]
def isCode : Jvm.Cond → Bool
  | .code _ _ _ _ => true
  | _ => false
theorem all_split {L : List Jvm.Cond} {P : Jvm.Cond → Bool} (h1 : L.all (fun c => isCode c || P c) = true) (h2 : ∀ c ∈ L.filter isCode, P c = true) : L.all P = true := by
  refine List.all_eq_true.mpr fun c hc => ?_
  have h := List.all_eq_true.mp h1 c hc
  rcases Bool.eq_false_or_eq_true (isCode c) with hi | hi
  · exact h2 c (List.mem_filter.mpr ⟨hc, hi⟩)
  · simpa [hi] using h
set_option maxRecDepth 65536 in
theorem w_c0 : (Jvm.Cond.code x code maxLocals ret).before args0 about1 = true := code_word (m := ⟨1, 1⟩) (meth := k1m1) (c := k1c1) (by decide +kernel) rfl rfl rfl (by decide +kernel)
set_option maxRecDepth 65536 in
theorem w_c1 : (Jvm.Cond.code ({ cls := "com/example/bowerbird/bowerbird/detect/Vocabulary", name := "unpack", desc := "(JI[B)V" } : Jvm.MethodName) prog_43_method_5_code (5 : Nat) (Option.none : Option Jvm.ClassFile.FieldType)).before args0 about1 = true := code_word (m := ⟨2, 1⟩) (meth := k2m1) (c := k2c1) (by decide +kernel) rfl rfl rfl (by decide +kernel)
set_option maxRecDepth 65536 in
theorem w_c2 : (Jvm.Cond.code ({ cls := "com/example/bowerbird/bowerbird/detect/VocabularyUnpackPinLaw", name := "at", desc := "([B[BIII)Z" } : Jvm.MethodName) method_3_code (5 : Nat) (Option.some Jvm.ClassFile.FieldType.boolean)).before args0 about1 = true := code_word (m := ⟨1, 2⟩) (meth := k1m2) (c := k1c2) (by decide +kernel) rfl rfl rfl (by decide +kernel)
def codes1 : List Jvm.Cond := [Jvm.Cond.code x code maxLocals ret, Jvm.Cond.code ({ cls := "com/example/bowerbird/bowerbird/detect/Vocabulary", name := "unpack", desc := "(JI[B)V" } : Jvm.MethodName) prog_43_method_5_code (5 : Nat) (Option.none : Option Jvm.ClassFile.FieldType), Jvm.Cond.code ({ cls := "com/example/bowerbird/bowerbird/detect/VocabularyUnpackPinLaw", name := "at", desc := "([B[BIII)Z" } : Jvm.MethodName) method_3_code (5 : Nat) (Option.some Jvm.ClassFile.FieldType.boolean)]
set_option maxRecDepth 65536 in
theorem codes_eq : words1.filter isCode = codes1 := rfl
theorem w_codes : ∀ c ∈ words1.filter isCode, c.before args0 about1 = true := by
  rw [codes_eq]
  intro c hc
  simp only [codes1, List.mem_cons, List.not_mem_nil, or_false] at hc
  rcases hc with rfl | rfl | rfl
  · exact w_c0
  · exact w_c1
  · exact w_c2
set_option maxRecDepth 65536 in
theorem w_t1 : words1.all (fun c => isCode c || c.before args0 about1) = true := by decide +kernel
theorem w_tables : (allAtoms (Jvm.Cond.code x code maxLocals ret :: tables_1)).before args0 about1 = true := by
  rw [allAtoms_all]
  show words1.all (fun c => c.before args0 about1) = true
  refine all_split ?_ w_codes
  rw [w_t1]
set_option maxRecDepth 65536 in
theorem w_case : (Jvm.Cond.and given_1 narrow_1).before args0 about1 = true := by decide +kernel
theorem w_applies : (headSpec (Jvm.Cond.code x code maxLocals ret :: tables_1) room_1).applies x e0.platform about1 = true :=
  (Spec.applies_iff w_frames).mpr ⟨w_running, w_runnable, w_alone, w_named, w_hears, w_ripe, w_room, w_tables⟩
theorem atStart : AtStart classFile x code maxLocals ret World_1 tables_1 room_1 Calls_1 rest_1 Pre_1 launch0 p0 e0 about1 theMethod args0 below0 :=
  ⟨lists_1, trivial, launch0.admits_env _ _ _, launch0.least_env, fairChoices_fair.cas, fairChoices_fair.clock, w_frames, w_args, w_heap, w_applies, trivial, trivial, w_case⟩
end start1
theorem witness_1 : WitnessClaimed_1 := ⟨start1.p0, start1.e0, start1.about1, start1.theMethod, start1.args0, start1.below0, start1.atStart⟩
end Jvm.Pilot.@@N@@
