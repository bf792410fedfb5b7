import JvmDerived
import JvmDerived.Pilot.@@N@@Statement
import JvmDerived.Pilot.@@N@@Code
set_option linter.unusedVariables false
set_option linter.unusedSimpArgs false
namespace Jvm.Pilot.@@N@@
open Jvm Jvm.ClassFile Sem Op Lib Jvm.Free Jvm.Stand Jvm.LawKit Jvm.RoadKit Bundle Jvm.Pilot.@@N@@.Jvm.D
section Own
variable {Z : State} {own nm : String} {bytes : ByteArray} {ml : Nat} {ret : Option FieldType} {R : Room} {n0 : Nat} {Q : Option Value → Heap → Prop} {k n : Nat} {h : Heap} {pc q r : Nat} {L L' : Array Slot} {S S' : List Value} {a0 : Array Value}
/-- what a body's own record says of it -/
def oCtx (p : Program) (s : State) (m : MethodId) (meth : Method) (c : Code) (Z : State) (own nm : String) (bytes : ByteArray) (ml : Nat) (ret : Option FieldType) : Prop :=
  p.tables.exec = Jvm.exec ∧ Z.Warmed39 s.vm ∧ c.code = bytes ∧ c.maxLocals = ml ∧ s.vm.findClass own = some m.cls ∧ meth.sig.returnType = ret ∧ meth.locks = false ∧ meth.name = nm
/-- from here on the body comes to its end, and there Q holds; nothing old is written -/
def oGo (Z : State) (own nm : String) (bytes : ByteArray) (ml : Nat) (ret : Option FieldType) (R : Room) (n0 : Nat) (Q : Option Value → Heap → Prop) (k n : Nat) (h : Heap) (pc : Nat) (L : Array Slot) (S : List Value) : Prop :=
  ∀ (p : Program) (l : Launch) (e : Env) (s : State) (m : MethodId) (args : Array Value) (below : List Frame) (meth : Method) (c : Code) (T : State) (locs : List Loc),
    oCtx p s m meth c Z own nm bytes ml ret → Stand p l e R s m args below meth c T locs k n → T.heap = h → Fr n0 locs →
    ∃ s₂ o, Steps p.tables e below (T.setTop (mkF m pc L S)) s₂ ∧ s₂.status = .running ∧ Ended s₂ below o ∧ ∃ v L', o = .returned v ∧ (Q v s₂.heap ∧ Fr n0 L') ∧ FrameEnd s o s₂ L' R.cells R.slots
/-- a body's contract -/
def oCon (Z : State) (y : MethodName) (bytes : ByteArray) (ml : Nat) (ret : Option FieldType) (rm : Room) (as : Array Value) (h : Heap) (n0 : Nat) (Q : Option Value → Heap → Prop) : Prop :=
  ∀ (l : Launch) (ws : List Jvm.Cond), MetFree l y (head1 (Jvm.Cond.code y bytes ml ret :: ws) rm) (fun a U => a = as ∧ Z.Warmed39 U.vm ∧ U.heap = h) (fun _ _ _ _ _ => True) (fun _ U o U' => ∃ v L, o = .returned v ∧ (Q v U'.heap ∧ Fr n0 L) ∧ FrameEnd U o U' L rm.cells rm.slots)
theorem oCon.of {y : MethodName} {rm : Room} {as : Array Value} {L0 : Array Slot} (hp : plainFor y = true) (he : ∀ m, entryFrame m as ml = mkF m 0 L0 []) (K : oGo Z y.cls y.name bytes ml ret rm n0 Q 0 0 h 0 L0 []) : oCon Z y bytes ml ret rm as h n0 Q := by
  intro l ws
  refine MetFree.of_bodySF hp hisR ?_
  intro p e s m args below meth c s₁ Bd hml0 hP hK
  obtain ⟨rfl, hZ, hh⟩ := hP
  have e0 : s₁.heap = h := by rw [← hh, Bd.state]; rfl
  obtain ⟨s₂, o, h1, h2, h3, h4⟩ := K p l e s m args below meth c s₁ [] ⟨Bd.exec, hZ, Bd.bytes, hml0, findClass_of_methodNamed Bd.named, Bd.returns, Bd.notSynchronized, (name_of_methodNamed Bd.named Bd.method).1⟩ (Stand.of_body Bd) e0 (Fr.nil n0)
  exact ⟨s₂, o, castTop (he m) h1, h2, h3, h4⟩
theorem oGo.more {k' n' : Nat} (hk : k ≤ k') (hn : n ≤ n') (K : oGo Z own nm bytes ml ret R n0 Q k' n' h pc L S) : oGo Z own nm bytes ml ret R n0 Q k n h pc L S :=
  fun p l e s m args below meth c T locs C X eT N => K p l e s m args below meth c T locs C (X.more hk hn) eT N
theorem oGo.st (H : ∀ (p : Program) (e : Env) (m : MethodId) (below : List Frame) (c : Code) (T : State), p.tables.exec = Jvm.exec → c.code = bytes → At T m c below → ∀ t, Steps p.tables e below (T.setTop (mkF m q L' S')) t → Steps p.tables e below (T.setTop (mkF m pc L S)) t) (K : oGo Z own nm bytes ml ret R n0 Q k n h q L' S') : oGo Z own nm bytes ml ret R n0 Q k n h pc L S :=
  fun p l e s m args below meth c T locs C X eT N => by
    obtain ⟨s₂, o, h1, r⟩ := K p l e s m args below meth c T locs C X eT N
    exact ⟨s₂, o, H p e m below c T C.1 C.2.2.1 X.here s₂ h1, r⟩
theorem oGo.iadd {x y : Int32} (hd : decode bytes pc = .ok (.iadd, 1)) (hq : pc + 1 = q) (K : oGo Z own nm bytes ml ret R n0 Q k n h q L (.int (x + y) :: S)) : oGo Z own nm bytes ml ret R n0 Q k n h pc L (.int y :: .int x :: S) := by
  subst hq; exact oGo.st (fun p e m below c T hx hby hA t k => XS.iadd hA hx rfl (hb hby hd) rfl k) K
theorem oGo.isub {x y : Int32} (hd : decode bytes pc = .ok (.isub, 1)) (hq : pc + 1 = q) (K : oGo Z own nm bytes ml ret R n0 Q k n h q L (.int (x - y) :: S)) : oGo Z own nm bytes ml ret R n0 Q k n h pc L (.int y :: .int x :: S) := by
  subst hq; exact oGo.st (fun p e m below c T hx hby hA t k => XS.isub hA hx rfl (hb hby hd) rfl k) K
theorem oGo.imul {x y : Int32} (hd : decode bytes pc = .ok (.imul, 1)) (hq : pc + 1 = q) (K : oGo Z own nm bytes ml ret R n0 Q k n h q L (.int (x * y) :: S)) : oGo Z own nm bytes ml ret R n0 Q k n h pc L (.int y :: .int x :: S) := by
  subst hq; exact oGo.st (fun p e m below c T hx hby hA t k => XS.imul hA hx rfl (hb hby hd) rfl k) K
theorem oGo.iand {x y : Int32} (hd : decode bytes pc = .ok (.iand, 1)) (hq : pc + 1 = q) (K : oGo Z own nm bytes ml ret R n0 Q k n h q L (.int (x &&& y) :: S)) : oGo Z own nm bytes ml ret R n0 Q k n h pc L (.int y :: .int x :: S) := by
  subst hq; exact oGo.st (fun p e m below c T hx hby hA t k => XS.iand hA hx rfl (hb hby hd) rfl k) K
theorem oGo.ior {x y : Int32} (hd : decode bytes pc = .ok (.ior, 1)) (hq : pc + 1 = q) (K : oGo Z own nm bytes ml ret R n0 Q k n h q L (.int (x ||| y) :: S)) : oGo Z own nm bytes ml ret R n0 Q k n h pc L (.int y :: .int x :: S) := by
  subst hq; exact oGo.st (fun p e m below c T hx hby hA t k => XS.ior hA hx rfl (hb hby hd) rfl k) K
theorem oGo.ixor {x y : Int32} (hd : decode bytes pc = .ok (.ixor, 1)) (hq : pc + 1 = q) (K : oGo Z own nm bytes ml ret R n0 Q k n h q L (.int (x ^^^ y) :: S)) : oGo Z own nm bytes ml ret R n0 Q k n h pc L (.int y :: .int x :: S) := by
  subst hq; exact oGo.st (fun p e m below c T hx hby hA t k => XS.ixor hA hx rfl (hb hby hd) rfl k) K
theorem oGo.ishl {x y : Int32} (hd : decode bytes pc = .ok (.ishl, 1)) (hq : pc + 1 = q) (K : oGo Z own nm bytes ml ret R n0 Q k n h q L (.int (x <<< (y &&& 31)) :: S)) : oGo Z own nm bytes ml ret R n0 Q k n h pc L (.int y :: .int x :: S) := by
  subst hq; exact oGo.st (fun p e m below c T hx hby hA t k => XS.ishl hA hx rfl (hb hby hd) rfl k) K
theorem oGo.ishr {x y : Int32} (hd : decode bytes pc = .ok (.ishr, 1)) (hq : pc + 1 = q) (K : oGo Z own nm bytes ml ret R n0 Q k n h q L (.int (x >>> (y &&& 31)) :: S)) : oGo Z own nm bytes ml ret R n0 Q k n h pc L (.int y :: .int x :: S) := by
  subst hq; exact oGo.st (fun p e m below c T hx hby hA t k => XS.ishr hA hx rfl (hb hby hd) rfl k) K
theorem oGo.iushr {x y : Int32} (hd : decode bytes pc = .ok (.iushr, 1)) (hq : pc + 1 = q) (K : oGo Z own nm bytes ml ret R n0 Q k n h q L (.int ((x.toUInt32 >>> (y &&& 31).toUInt32).toInt32) :: S)) : oGo Z own nm bytes ml ret R n0 Q k n h pc L (.int y :: .int x :: S) := by
  subst hq; exact oGo.st (fun p e m below c T hx hby hA t k => XS.iushr hA hx rfl (hb hby hd) rfl k) K
theorem oGo.ladd {x y : Int64} (hd : decode bytes pc = .ok (.ladd, 1)) (hq : pc + 1 = q) (K : oGo Z own nm bytes ml ret R n0 Q k n h q L (.long (x + y) :: S)) : oGo Z own nm bytes ml ret R n0 Q k n h pc L (.long y :: .long x :: S) := by
  subst hq; exact oGo.st (fun p e m below c T hx hby hA t k => XS.ladd hA hx rfl (hb hby hd) rfl k) K
theorem oGo.lsub {x y : Int64} (hd : decode bytes pc = .ok (.lsub, 1)) (hq : pc + 1 = q) (K : oGo Z own nm bytes ml ret R n0 Q k n h q L (.long (x - y) :: S)) : oGo Z own nm bytes ml ret R n0 Q k n h pc L (.long y :: .long x :: S) := by
  subst hq; exact oGo.st (fun p e m below c T hx hby hA t k => XS.lsub hA hx rfl (hb hby hd) rfl k) K
theorem oGo.lmul {x y : Int64} (hd : decode bytes pc = .ok (.lmul, 1)) (hq : pc + 1 = q) (K : oGo Z own nm bytes ml ret R n0 Q k n h q L (.long (x * y) :: S)) : oGo Z own nm bytes ml ret R n0 Q k n h pc L (.long y :: .long x :: S) := by
  subst hq; exact oGo.st (fun p e m below c T hx hby hA t k => XS.lmul hA hx rfl (hb hby hd) rfl k) K
theorem oGo.land {x y : Int64} (hd : decode bytes pc = .ok (.land, 1)) (hq : pc + 1 = q) (K : oGo Z own nm bytes ml ret R n0 Q k n h q L (.long (x &&& y) :: S)) : oGo Z own nm bytes ml ret R n0 Q k n h pc L (.long y :: .long x :: S) := by
  subst hq; exact oGo.st (fun p e m below c T hx hby hA t k => XS.land hA hx rfl (hb hby hd) rfl k) K
theorem oGo.lor {x y : Int64} (hd : decode bytes pc = .ok (.lor, 1)) (hq : pc + 1 = q) (K : oGo Z own nm bytes ml ret R n0 Q k n h q L (.long (x ||| y) :: S)) : oGo Z own nm bytes ml ret R n0 Q k n h pc L (.long y :: .long x :: S) := by
  subst hq; exact oGo.st (fun p e m below c T hx hby hA t k => XS.lor hA hx rfl (hb hby hd) rfl k) K
theorem oGo.lxor {x y : Int64} (hd : decode bytes pc = .ok (.lxor, 1)) (hq : pc + 1 = q) (K : oGo Z own nm bytes ml ret R n0 Q k n h q L (.long (x ^^^ y) :: S)) : oGo Z own nm bytes ml ret R n0 Q k n h pc L (.long y :: .long x :: S) := by
  subst hq; exact oGo.st (fun p e m below c T hx hby hA t k => XS.lxor hA hx rfl (hb hby hd) rfl k) K
theorem oGo.lshl {x : Int64} {y : Int32} (hd : decode bytes pc = .ok (.lshl, 1)) (hq : pc + 1 = q) (K : oGo Z own nm bytes ml ret R n0 Q k n h q L (.long (x <<< (y &&& 0x3f).toInt64) :: S)) : oGo Z own nm bytes ml ret R n0 Q k n h pc L (.int y :: .long x :: S) := by
  subst hq; exact oGo.st (fun p e m below c T hx hby hA t k => XS.lshl hA hx rfl (hb hby hd) rfl k) K
theorem oGo.lshr {x : Int64} {y : Int32} (hd : decode bytes pc = .ok (.lshr, 1)) (hq : pc + 1 = q) (K : oGo Z own nm bytes ml ret R n0 Q k n h q L (.long (x >>> (y &&& 0x3f).toInt64) :: S)) : oGo Z own nm bytes ml ret R n0 Q k n h pc L (.int y :: .long x :: S) := by
  subst hq; exact oGo.st (fun p e m below c T hx hby hA t k => XS.lshr hA hx rfl (hb hby hd) rfl k) K
theorem oGo.lushr {x : Int64} {y : Int32} (hd : decode bytes pc = .ok (.lushr, 1)) (hq : pc + 1 = q) (K : oGo Z own nm bytes ml ret R n0 Q k n h q L (.long ((x.toUInt64 >>> (y &&& 0x3f).toInt64.toUInt64).toInt64) :: S)) : oGo Z own nm bytes ml ret R n0 Q k n h pc L (.int y :: .long x :: S) := by
  subst hq; exact oGo.st (fun p e m below c T hx hby hA t k => XS.lushr hA hx rfl (hb hby hd) rfl k) K
theorem oGo.idiv {x y : Int32} (hd : decode bytes pc = .ok (.idiv, 1)) (hq : pc + 1 = q) (hy : y ≠ 0) (K : oGo Z own nm bytes ml ret R n0 Q k n h q L (.int (x / y) :: S)) : oGo Z own nm bytes ml ret R n0 Q k n h pc L (.int y :: .int x :: S) := by
  subst hq; exact oGo.st (fun p e m below c T hx hby hA t k => XS.idiv hA hx rfl (hb hby hd) rfl hy k) K
theorem oGo.ldiv {x y : Int64} (hd : decode bytes pc = .ok (.ldiv, 1)) (hq : pc + 1 = q) (hy : y ≠ 0) (K : oGo Z own nm bytes ml ret R n0 Q k n h q L (.long (x / y) :: S)) : oGo Z own nm bytes ml ret R n0 Q k n h pc L (.long y :: .long x :: S) := by
  subst hq; exact oGo.st (fun p e m below c T hx hby hA t k => XS.ldiv hA hx rfl (hb hby hd) rfl hy k) K
theorem oGo.irem {x y : Int32} (hd : decode bytes pc = .ok (.irem, 1)) (hq : pc + 1 = q) (hy : y ≠ 0) (K : oGo Z own nm bytes ml ret R n0 Q k n h q L (.int (x % y) :: S)) : oGo Z own nm bytes ml ret R n0 Q k n h pc L (.int y :: .int x :: S) := by
  subst hq; exact oGo.st (fun p e m below c T hx hby hA t k => XS.irem hA hx rfl (hb hby hd) rfl hy (by rw [irem_eq_mod]; exact k)) K
theorem oGo.lrem {x y : Int64} (hd : decode bytes pc = .ok (.lrem, 1)) (hq : pc + 1 = q) (hy : y ≠ 0) (K : oGo Z own nm bytes ml ret R n0 Q k n h q L (.long (x % y) :: S)) : oGo Z own nm bytes ml ret R n0 Q k n h pc L (.long y :: .long x :: S) := by
  subst hq; exact oGo.st (fun p e m below c T hx hby hA t k => XS.lrem hA hx rfl (hb hby hd) rfl hy (by rw [lrem_mod]; exact k)) K
theorem oGo.ineg {x : Int32} (hd : decode bytes pc = .ok (.ineg, 1)) (hq : pc + 1 = q) (K : oGo Z own nm bytes ml ret R n0 Q k n h q L (.int (-x) :: S)) : oGo Z own nm bytes ml ret R n0 Q k n h pc L (.int x :: S) := by
  subst hq; exact oGo.st (fun p e m below c T hx hby hA t k => XS.ineg hA hx rfl (hb hby hd) rfl k) K
theorem oGo.lneg {x : Int64} (hd : decode bytes pc = .ok (.lneg, 1)) (hq : pc + 1 = q) (K : oGo Z own nm bytes ml ret R n0 Q k n h q L (.long (-x) :: S)) : oGo Z own nm bytes ml ret R n0 Q k n h pc L (.long x :: S) := by
  subst hq; exact oGo.st (fun p e m below c T hx hby hA t k => XS.lneg hA hx rfl (hb hby hd) rfl k) K
theorem oGo.i2b {x : Int32} (hd : decode bytes pc = .ok (.i2b, 1)) (hq : pc + 1 = q) (K : oGo Z own nm bytes ml ret R n0 Q k n h q L (.int (x.toInt8.toInt32) :: S)) : oGo Z own nm bytes ml ret R n0 Q k n h pc L (.int x :: S) := by
  subst hq; exact oGo.st (fun p e m below c T hx hby hA t k => XS.i2b hA hx rfl (hb hby hd) rfl k) K
theorem oGo.i2c {x : Int32} (hd : decode bytes pc = .ok (.i2c, 1)) (hq : pc + 1 = q) (K : oGo Z own nm bytes ml ret R n0 Q k n h q L (.int (x.toUInt32.toUInt16.toUInt32.toInt32) :: S)) : oGo Z own nm bytes ml ret R n0 Q k n h pc L (.int x :: S) := by
  subst hq; exact oGo.st (fun p e m below c T hx hby hA t k => XS.i2c hA hx rfl (hb hby hd) rfl k) K
theorem oGo.i2s {x : Int32} (hd : decode bytes pc = .ok (.i2s, 1)) (hq : pc + 1 = q) (K : oGo Z own nm bytes ml ret R n0 Q k n h q L (.int (x.toInt16.toInt32) :: S)) : oGo Z own nm bytes ml ret R n0 Q k n h pc L (.int x :: S) := by
  subst hq; exact oGo.st (fun p e m below c T hx hby hA t k => XS.i2s hA hx rfl (hb hby hd) rfl k) K
theorem oGo.i2l {x : Int32} (hd : decode bytes pc = .ok (.i2l, 1)) (hq : pc + 1 = q) (K : oGo Z own nm bytes ml ret R n0 Q k n h q L (.long (x.toInt64) :: S)) : oGo Z own nm bytes ml ret R n0 Q k n h pc L (.int x :: S) := by
  subst hq; exact oGo.st (fun p e m below c T hx hby hA t k => XS.i2l hA hx rfl (hb hby hd) rfl k) K
theorem oGo.l2i {x : Int64} (hd : decode bytes pc = .ok (.l2i, 1)) (hq : pc + 1 = q) (K : oGo Z own nm bytes ml ret R n0 Q k n h q L (.int (x.toInt32) :: S)) : oGo Z own nm bytes ml ret R n0 Q k n h pc L (.long x :: S) := by
  subst hq; exact oGo.st (fun p e m below c T hx hby hA t k => XS.l2i hA hx rfl (hb hby hd) rfl k) K
theorem oGo.iconst {i : Int} {v : Int32} (hd : decode bytes pc = .ok (.iconst i, 1)) (hq : pc + 1 = q) (hv : Int32.ofInt i = v) (K : oGo Z own nm bytes ml ret R n0 Q k n h q L (.int v :: S)) : oGo Z own nm bytes ml ret R n0 Q k n h pc L S := by
  subst hq hv; exact oGo.st (fun p e m below c T hx hby hA t k => XS.iconst hA hx rfl (hb hby hd) k) K
theorem oGo.bipush {i : Int} {v : Int32} (hd : decode bytes pc = .ok (.bipush i, 2)) (hq : pc + 2 = q) (hv : (Int8.ofInt i).toInt32 = v) (K : oGo Z own nm bytes ml ret R n0 Q k n h q L (.int v :: S)) : oGo Z own nm bytes ml ret R n0 Q k n h pc L S := by
  subst hq hv; exact oGo.st (fun p e m below c T hx hby hA t k => XS.bipush hA hx rfl (hb hby hd) k) K
theorem oGo.sipush {i : Int} {v : Int32} (hd : decode bytes pc = .ok (.sipush i, 3)) (hq : pc + 3 = q) (hv : (Int16.ofInt i).toInt32 = v) (K : oGo Z own nm bytes ml ret R n0 Q k n h q L (.int v :: S)) : oGo Z own nm bytes ml ret R n0 Q k n h pc L S := by
  subst hq hv; exact oGo.st (fun p e m below c T hx hby hA t k => XS.sipush hA hx rfl (hb hby hd) k) K
theorem oGo.lconst {i : Fin 2} {v : Int64} (hd : decode bytes pc = .ok (.lconst i, 1)) (hq : pc + 1 = q) (hv : Int64.ofNat i = v) (K : oGo Z own nm bytes ml ret R n0 Q k n h q L (.long v :: S)) : oGo Z own nm bytes ml ret R n0 Q k n h pc L S := by
  subst hq hv; exact oGo.st (fun p e m below c T hx hby hA t k => XS.lconst hA hx rfl (hb hby hd) k) K
theorem oGo.aconstNull (hd : decode bytes pc = .ok (.aconst_null, 1)) (hq : pc + 1 = q) (K : oGo Z own nm bytes ml ret R n0 Q k n h q L (.null :: S)) : oGo Z own nm bytes ml ret R n0 Q k n h pc L (S) := by
  subst hq; exact oGo.st (fun p e m below c T hx hby hA t k => XS.aconstNull hA hx rfl (hb hby hd) k) K
theorem oGo.iload {i : Nat} {v : Int32} (hd : decode bytes pc = .ok (.iload i, 2)) (hq : pc + 2 = q) (hl : L[i]? = some (.val (.int v))) (K : oGo Z own nm bytes ml ret R n0 Q k n h q L (.int v :: S)) : oGo Z own nm bytes ml ret R n0 Q k n h pc L S := by
  subst hq; exact oGo.st (fun p e m below c T hx hby hA t k => XS.iload hA hx rfl (hb hby hd) hl k) K
theorem oGo.iloadN {i : Fin 4} {v : Int32} (hd : decode bytes pc = .ok (.iload_n i, 1)) (hq : pc + 1 = q) (hl : L[i.val]? = some (.val (.int v))) (K : oGo Z own nm bytes ml ret R n0 Q k n h q L (.int v :: S)) : oGo Z own nm bytes ml ret R n0 Q k n h pc L S := by
  subst hq; exact oGo.st (fun p e m below c T hx hby hA t k => XS.iloadN hA hx rfl (hb hby hd) hl k) K
theorem oGo.istore {i : Nat} {v : Int32} (hd : decode bytes pc = .ok (.istore i, 2)) (hq : pc + 2 = q) (hl : storeLocals L i (.int v) = some L') (K : oGo Z own nm bytes ml ret R n0 Q k n h q L' S) : oGo Z own nm bytes ml ret R n0 Q k n h pc L (.int v :: S) := by
  subst hq; exact oGo.st (fun p e m below c T hx hby hA t k => XS.istore hA hx rfl (hb hby hd) rfl hl k) K
theorem oGo.istoreN {i : Fin 4} {v : Int32} (hd : decode bytes pc = .ok (.istore_n i, 1)) (hq : pc + 1 = q) (hl : storeLocals L i.val (.int v) = some L') (K : oGo Z own nm bytes ml ret R n0 Q k n h q L' S) : oGo Z own nm bytes ml ret R n0 Q k n h pc L (.int v :: S) := by
  subst hq; exact oGo.st (fun p e m below c T hx hby hA t k => XS.istoreN hA hx rfl (hb hby hd) rfl hl k) K
theorem oGo.lload {i : Nat} {v : Int64} (hd : decode bytes pc = .ok (.lload i, 2)) (hq : pc + 2 = q) (hl : L[i]? = some (.val (.long v))) (K : oGo Z own nm bytes ml ret R n0 Q k n h q L (.long v :: S)) : oGo Z own nm bytes ml ret R n0 Q k n h pc L S := by
  subst hq; exact oGo.st (fun p e m below c T hx hby hA t k => XS.lload hA hx rfl (hb hby hd) hl k) K
theorem oGo.lloadN {i : Fin 4} {v : Int64} (hd : decode bytes pc = .ok (.lload_n i, 1)) (hq : pc + 1 = q) (hl : L[i.val]? = some (.val (.long v))) (K : oGo Z own nm bytes ml ret R n0 Q k n h q L (.long v :: S)) : oGo Z own nm bytes ml ret R n0 Q k n h pc L S := by
  subst hq; exact oGo.st (fun p e m below c T hx hby hA t k => XS.lloadN hA hx rfl (hb hby hd) hl k) K
theorem oGo.lstore {i : Nat} {v : Int64} (hd : decode bytes pc = .ok (.lstore i, 2)) (hq : pc + 2 = q) (hl : storeLocals L i (.long v) = some L') (K : oGo Z own nm bytes ml ret R n0 Q k n h q L' S) : oGo Z own nm bytes ml ret R n0 Q k n h pc L (.long v :: S) := by
  subst hq; exact oGo.st (fun p e m below c T hx hby hA t k => XS.lstore hA hx rfl (hb hby hd) rfl hl k) K
theorem oGo.lstoreN {i : Fin 4} {v : Int64} (hd : decode bytes pc = .ok (.lstore_n i, 1)) (hq : pc + 1 = q) (hl : storeLocals L i.val (.long v) = some L') (K : oGo Z own nm bytes ml ret R n0 Q k n h q L' S) : oGo Z own nm bytes ml ret R n0 Q k n h pc L (.long v :: S) := by
  subst hq; exact oGo.st (fun p e m below c T hx hby hA t k => XS.lstoreN hA hx rfl (hb hby hd) rfl hl k) K
theorem oGo.aload {i : Nat} {v : Value} (hd : decode bytes pc = .ok (.aload i, 2)) (hq : pc + 2 = q) (hl : L[i]? = some (.val v)) (hv : v.isRef = true) (K : oGo Z own nm bytes ml ret R n0 Q k n h q L (v :: S)) : oGo Z own nm bytes ml ret R n0 Q k n h pc L S := by
  subst hq; exact oGo.st (fun p e m below c T hx hby hA t k => XS.aload hA hx rfl (hb hby hd) hl hv k) K
theorem oGo.aloadN {i : Fin 4} {v : Value} (hd : decode bytes pc = .ok (.aload_n i, 1)) (hq : pc + 1 = q) (hl : L[i.val]? = some (.val v)) (hv : v.isRef = true) (K : oGo Z own nm bytes ml ret R n0 Q k n h q L (v :: S)) : oGo Z own nm bytes ml ret R n0 Q k n h pc L S := by
  subst hq; exact oGo.st (fun p e m below c T hx hby hA t k => XS.aloadN hA hx rfl (hb hby hd) hl hv k) K
theorem oGo.astore {i : Nat} {v : Value} (hd : decode bytes pc = .ok (.astore i, 2)) (hq : pc + 2 = q) (hv : v.isRef = true) (hl : storeLocals L i v = some L') (K : oGo Z own nm bytes ml ret R n0 Q k n h q L' S) : oGo Z own nm bytes ml ret R n0 Q k n h pc L (v :: S) := by
  subst hq; exact oGo.st (fun p e m below c T hx hby hA t k => XS.astore hA hx rfl (hb hby hd) rfl hv hl k) K
theorem oGo.astoreN {i : Fin 4} {v : Value} (hd : decode bytes pc = .ok (.astore_n i, 1)) (hq : pc + 1 = q) (hv : v.isRef = true) (hl : storeLocals L i.val v = some L') (K : oGo Z own nm bytes ml ret R n0 Q k n h q L' S) : oGo Z own nm bytes ml ret R n0 Q k n h pc L (v :: S) := by
  subst hq; exact oGo.st (fun p e m below c T hx hby hA t k => XS.astoreN hA hx rfl (hb hby hd) rfl hv hl k) K
theorem oGo.iinc {i : Nat} {cst : Int} {x v : Int32} (hd : decode bytes pc = .ok (.iinc i cst, 3)) (hq : pc + 3 = q) (hl : L[i]? = some (.val (.int x))) (hv : x + Int32.ofInt cst = v) (hs : storeLocals L i (.int v) = some L') (K : oGo Z own nm bytes ml ret R n0 Q k n h q L' S) : oGo Z own nm bytes ml ret R n0 Q k n h pc L S := by
  subst hq hv; exact oGo.st (fun p e m below c T hx hby hA t k => XS.iinc hA hx rfl (hb hby hd) hl hs k) K
theorem oGo.dup {v : Value} (hd : decode bytes pc = .ok (.dup, 1)) (hq : pc + 1 = q) (hc : v.category = 1) (K : oGo Z own nm bytes ml ret R n0 Q k n h q L (v :: v :: S)) : oGo Z own nm bytes ml ret R n0 Q k n h pc L (v :: S) := by
  subst hq; exact oGo.st (fun p e m below c T hx hby hA t k => XS.dup hA hx rfl (hb hby hd) rfl hc k) K
theorem oGo.dupX1 {v w : Value} (hd : decode bytes pc = .ok (.dup_x1, 1)) (hq : pc + 1 = q) (hc : v.category = 1) (hc' : w.category = 1) (K : oGo Z own nm bytes ml ret R n0 Q k n h q L (v :: w :: v :: S)) : oGo Z own nm bytes ml ret R n0 Q k n h pc L (v :: w :: S) := by
  subst hq; exact oGo.st (fun p e m below c T hx hby hA t k => XS.dupX1 hA hx rfl (hb hby hd) rfl hc hc' k) K
theorem oGo.dup2 {v w : Value} (hd : decode bytes pc = .ok (.dup2, 1)) (hq : pc + 1 = q) (hc : v.category = 1) (hc' : w.category = 1) (K : oGo Z own nm bytes ml ret R n0 Q k n h q L (v :: w :: v :: w :: S)) : oGo Z own nm bytes ml ret R n0 Q k n h pc L (v :: w :: S) := by
  subst hq; exact oGo.st (fun p e m below c T hx hby hA t k => XT.dup2 hA hx rfl (hb hby hd) rfl hc hc' k) K
theorem oGo.pop {v : Value} (hd : decode bytes pc = .ok (.pop, 1)) (hq : pc + 1 = q) (hc : v.category = 1) (K : oGo Z own nm bytes ml ret R n0 Q k n h q L S) : oGo Z own nm bytes ml ret R n0 Q k n h pc L (v :: S) := by
  subst hq; exact oGo.st (fun p e m below c T hx hby hA t k => XS.pop hA hx rfl (hb hby hd) rfl hc k) K
theorem oGo.goto {o : Int} (hd : decode bytes pc = .ok (.goto o, 3)) (hq : (pc : Int) + o = (q : Int)) (K : oGo Z own nm bytes ml ret R n0 Q k n h q L S) : oGo Z own nm bytes ml ret R n0 Q k n h pc L S :=
  oGo.st (fun p e m below c T hx hby hA t k => XS.goto hA hx rfl (pc0 := pc) (pc' := q) rfl (hb hby hd) (by omega) (by omega) k) K
theorem oGo.ifnonnullYes {o : Int} {b : Addr} (hd : decode bytes pc = .ok (.ifnonnull o, 3)) (hq : (pc : Int) + o = (q : Int)) (K : oGo Z own nm bytes ml ret R n0 Q k n h q L S) : oGo Z own nm bytes ml ret R n0 Q k n h pc L (.ref b :: S) :=
  oGo.st (fun p e m below c T hx hby hA t k => XS.ifnonnullYes hA hx rfl (pc0 := pc) (pc' := q) rfl (hb hby hd) rfl (by omega) (by omega) k) K
theorem oGo.lcmp {x y : Int64} (hd : decode bytes pc = .ok (.lcmp, 1)) (hq : pc + 1 = q) (K : oGo Z own nm bytes ml ret R n0 Q k n h q L (.int (lcmpW x y) :: S)) : oGo Z own nm bytes ml ret R n0 Q k n h pc L (.long y :: .long x :: S) := by
  subst hq; exact oGo.st (fun p e m below c T hx hby hA t k => XS.lcmp hA hx rfl (hb hby hd) rfl k) K
theorem own_hlt {x y : Int32} : (x.toInt < y.toInt → if_icmp.holds .lt x y = true) ∧ (y.toInt ≤ x.toInt → if_icmp.holds .lt x y = false) :=
  ⟨fun hc => (tlt (Int32.lt_iff_toInt_lt.mpr hc)).1, fun hc => (flt (fun z => by have := Int32.lt_iff_toInt_lt.mp z; omega)).1⟩
theorem own_dlt (x y : Int32) : (x.toInt < y.toInt) ∨ (y.toInt ≤ x.toInt) := by omega
theorem own_elt (x y : Int64) : (x.toInt < y.toInt) ∨ (y.toInt ≤ x.toInt) := by omega
theorem oGo.icmp_lt {o : Int} {x y : Int32} (hd : decode bytes pc = .ok (.if_icmp .lt o, 3)) (hq : (pc : Int) + o = (q : Int)) (hr : pc + 3 = r) (K1 : x.toInt < y.toInt → oGo Z own nm bytes ml ret R n0 Q k n h q L S) (K2 : y.toInt ≤ x.toInt → oGo Z own nm bytes ml ret R n0 Q k n h r L S) : oGo Z own nm bytes ml ret R n0 Q k n h pc L (.int y :: .int x :: S) := by
  rcases own_dlt x y with hc | hc
  · exact oGo.st (fun p e m below c T hx hby hA t k => XS.icmpYes hA hx rfl (pc0 := pc) (pc' := q) rfl (hb hby hd) rfl (own_hlt.1 hc) (by omega) (by omega) k) (K1 hc)
  · subst hr; exact oGo.st (fun p e m below c T hx hby hA t k => XS.icmpNo hA hx rfl (hb hby hd) rfl (own_hlt.2 hc) k) (K2 hc)
theorem oGo.if_lt {o : Int} {x : Int32} (hd : decode bytes pc = .ok (.ifCond .lt o, 3)) (hq : (pc : Int) + o = (q : Int)) (hr : pc + 3 = r) (K1 : x.toInt < 0 → oGo Z own nm bytes ml ret R n0 Q k n h q L S) (K2 : 0 ≤ x.toInt → oGo Z own nm bytes ml ret R n0 Q k n h r L S) : oGo Z own nm bytes ml ret R n0 Q k n h pc L (.int x :: S) := by
  rcases own_dlt x 0 with hc | hc
  · exact oGo.st (fun p e m below c T hx hby hA t k => XS.ifYes hA hx rfl (pc0 := pc) (pc' := q) rfl (hb hby hd) rfl ((if0 _ _).trans (own_hlt.1 hc)) (by omega) (by omega) k) (K1 hc)
  · subst hr; exact oGo.st (fun p e m below c T hx hby hA t k => XS.ifNo hA hx rfl (hb hby hd) rfl ((if0 _ _).trans (own_hlt.2 hc)) k) (K2 hc)
theorem own_llt {x y : Int64} : (x.toInt < y.toInt → (lcmpW x y).toInt < 0) ∧ (y.toInt ≤ x.toInt → 0 ≤ (lcmpW x y).toInt) := by
  obtain ⟨h1, h2, h3⟩ := c_lcmp x y
  refine ⟨fun hc => ?_, fun hc => ?_⟩ <;> (rcases Int.lt_trichotomy x.toInt y.toInt with u | u | u <;> simp_all <;> omega)
theorem oGo.lif_lt {o : Int} {x y : Int64} {pc2 : Nat} (hd : decode bytes pc = .ok (.lcmp, 1)) (h1 : pc + 1 = pc2) (hd2 : decode bytes pc2 = .ok (.ifCond .lt o, 3)) (hq : (pc2 : Int) + o = (q : Int)) (hr : pc2 + 3 = r) (K1 : x.toInt < y.toInt → oGo Z own nm bytes ml ret R n0 Q k n h q L S) (K2 : y.toInt ≤ x.toInt → oGo Z own nm bytes ml ret R n0 Q k n h r L S) : oGo Z own nm bytes ml ret R n0 Q k n h pc L (.long y :: .long x :: S) := by
  refine oGo.lcmp hd h1 (oGo.if_lt hd2 hq hr (fun hc => ?_) (fun hc => ?_))
  · rcases own_elt x y with u | u
    · exact K1 u
    · have := own_llt.2 u; first | exact absurd hc this | exact absurd this hc | omega
  · rcases own_elt x y with u | u
    · have := own_llt.1 u; first | exact absurd hc this | exact absurd this hc | omega
    · exact K2 u
theorem own_hge {x y : Int32} : (y.toInt ≤ x.toInt → if_icmp.holds .ge x y = true) ∧ (x.toInt < y.toInt → if_icmp.holds .ge x y = false) :=
  ⟨fun hc => (flt (fun z => by have := Int32.lt_iff_toInt_lt.mp z; omega)).2.1, fun hc => (tlt (Int32.lt_iff_toInt_lt.mpr hc)).2.1⟩
theorem own_dge (x y : Int32) : (y.toInt ≤ x.toInt) ∨ (x.toInt < y.toInt) := by omega
theorem own_ege (x y : Int64) : (y.toInt ≤ x.toInt) ∨ (x.toInt < y.toInt) := by omega
theorem oGo.icmp_ge {o : Int} {x y : Int32} (hd : decode bytes pc = .ok (.if_icmp .ge o, 3)) (hq : (pc : Int) + o = (q : Int)) (hr : pc + 3 = r) (K1 : y.toInt ≤ x.toInt → oGo Z own nm bytes ml ret R n0 Q k n h q L S) (K2 : x.toInt < y.toInt → oGo Z own nm bytes ml ret R n0 Q k n h r L S) : oGo Z own nm bytes ml ret R n0 Q k n h pc L (.int y :: .int x :: S) := by
  rcases own_dge x y with hc | hc
  · exact oGo.st (fun p e m below c T hx hby hA t k => XS.icmpYes hA hx rfl (pc0 := pc) (pc' := q) rfl (hb hby hd) rfl (own_hge.1 hc) (by omega) (by omega) k) (K1 hc)
  · subst hr; exact oGo.st (fun p e m below c T hx hby hA t k => XS.icmpNo hA hx rfl (hb hby hd) rfl (own_hge.2 hc) k) (K2 hc)
theorem oGo.if_ge {o : Int} {x : Int32} (hd : decode bytes pc = .ok (.ifCond .ge o, 3)) (hq : (pc : Int) + o = (q : Int)) (hr : pc + 3 = r) (K1 : 0 ≤ x.toInt → oGo Z own nm bytes ml ret R n0 Q k n h q L S) (K2 : x.toInt < 0 → oGo Z own nm bytes ml ret R n0 Q k n h r L S) : oGo Z own nm bytes ml ret R n0 Q k n h pc L (.int x :: S) := by
  rcases own_dge x 0 with hc | hc
  · exact oGo.st (fun p e m below c T hx hby hA t k => XS.ifYes hA hx rfl (pc0 := pc) (pc' := q) rfl (hb hby hd) rfl ((if0 _ _).trans (own_hge.1 hc)) (by omega) (by omega) k) (K1 hc)
  · subst hr; exact oGo.st (fun p e m below c T hx hby hA t k => XS.ifNo hA hx rfl (hb hby hd) rfl ((if0 _ _).trans (own_hge.2 hc)) k) (K2 hc)
theorem own_lge {x y : Int64} : (y.toInt ≤ x.toInt → 0 ≤ (lcmpW x y).toInt) ∧ (x.toInt < y.toInt → (lcmpW x y).toInt < 0) := by
  obtain ⟨h1, h2, h3⟩ := c_lcmp x y
  refine ⟨fun hc => ?_, fun hc => ?_⟩ <;> (rcases Int.lt_trichotomy x.toInt y.toInt with u | u | u <;> simp_all <;> omega)
theorem oGo.lif_ge {o : Int} {x y : Int64} {pc2 : Nat} (hd : decode bytes pc = .ok (.lcmp, 1)) (h1 : pc + 1 = pc2) (hd2 : decode bytes pc2 = .ok (.ifCond .ge o, 3)) (hq : (pc2 : Int) + o = (q : Int)) (hr : pc2 + 3 = r) (K1 : y.toInt ≤ x.toInt → oGo Z own nm bytes ml ret R n0 Q k n h q L S) (K2 : x.toInt < y.toInt → oGo Z own nm bytes ml ret R n0 Q k n h r L S) : oGo Z own nm bytes ml ret R n0 Q k n h pc L (.long y :: .long x :: S) := by
  refine oGo.lcmp hd h1 (oGo.if_ge hd2 hq hr (fun hc => ?_) (fun hc => ?_))
  · rcases own_ege x y with u | u
    · exact K1 u
    · have := own_lge.2 u; first | exact absurd hc this | exact absurd this hc | omega
  · rcases own_ege x y with u | u
    · have := own_lge.1 u; first | exact absurd hc this | exact absurd this hc | omega
    · exact K2 u
theorem own_hgt {x y : Int32} : (y.toInt < x.toInt → if_icmp.holds .gt x y = true) ∧ (x.toInt ≤ y.toInt → if_icmp.holds .gt x y = false) :=
  ⟨fun hc => (tlt (Int32.lt_iff_toInt_lt.mpr hc)).2.2.1, fun hc => (flt (fun z => by have := Int32.lt_iff_toInt_lt.mp z; omega)).2.2.1⟩
theorem own_dgt (x y : Int32) : (y.toInt < x.toInt) ∨ (x.toInt ≤ y.toInt) := by omega
theorem own_egt (x y : Int64) : (y.toInt < x.toInt) ∨ (x.toInt ≤ y.toInt) := by omega
theorem oGo.icmp_gt {o : Int} {x y : Int32} (hd : decode bytes pc = .ok (.if_icmp .gt o, 3)) (hq : (pc : Int) + o = (q : Int)) (hr : pc + 3 = r) (K1 : y.toInt < x.toInt → oGo Z own nm bytes ml ret R n0 Q k n h q L S) (K2 : x.toInt ≤ y.toInt → oGo Z own nm bytes ml ret R n0 Q k n h r L S) : oGo Z own nm bytes ml ret R n0 Q k n h pc L (.int y :: .int x :: S) := by
  rcases own_dgt x y with hc | hc
  · exact oGo.st (fun p e m below c T hx hby hA t k => XS.icmpYes hA hx rfl (pc0 := pc) (pc' := q) rfl (hb hby hd) rfl (own_hgt.1 hc) (by omega) (by omega) k) (K1 hc)
  · subst hr; exact oGo.st (fun p e m below c T hx hby hA t k => XS.icmpNo hA hx rfl (hb hby hd) rfl (own_hgt.2 hc) k) (K2 hc)
theorem oGo.if_gt {o : Int} {x : Int32} (hd : decode bytes pc = .ok (.ifCond .gt o, 3)) (hq : (pc : Int) + o = (q : Int)) (hr : pc + 3 = r) (K1 : 0 < x.toInt → oGo Z own nm bytes ml ret R n0 Q k n h q L S) (K2 : x.toInt ≤ 0 → oGo Z own nm bytes ml ret R n0 Q k n h r L S) : oGo Z own nm bytes ml ret R n0 Q k n h pc L (.int x :: S) := by
  rcases own_dgt x 0 with hc | hc
  · exact oGo.st (fun p e m below c T hx hby hA t k => XS.ifYes hA hx rfl (pc0 := pc) (pc' := q) rfl (hb hby hd) rfl ((if0 _ _).trans (own_hgt.1 hc)) (by omega) (by omega) k) (K1 hc)
  · subst hr; exact oGo.st (fun p e m below c T hx hby hA t k => XS.ifNo hA hx rfl (hb hby hd) rfl ((if0 _ _).trans (own_hgt.2 hc)) k) (K2 hc)
theorem own_lgt {x y : Int64} : (y.toInt < x.toInt → 0 < (lcmpW x y).toInt) ∧ (x.toInt ≤ y.toInt → (lcmpW x y).toInt ≤ 0) := by
  obtain ⟨h1, h2, h3⟩ := c_lcmp x y
  refine ⟨fun hc => ?_, fun hc => ?_⟩ <;> (rcases Int.lt_trichotomy x.toInt y.toInt with u | u | u <;> simp_all <;> omega)
theorem oGo.lif_gt {o : Int} {x y : Int64} {pc2 : Nat} (hd : decode bytes pc = .ok (.lcmp, 1)) (h1 : pc + 1 = pc2) (hd2 : decode bytes pc2 = .ok (.ifCond .gt o, 3)) (hq : (pc2 : Int) + o = (q : Int)) (hr : pc2 + 3 = r) (K1 : y.toInt < x.toInt → oGo Z own nm bytes ml ret R n0 Q k n h q L S) (K2 : x.toInt ≤ y.toInt → oGo Z own nm bytes ml ret R n0 Q k n h r L S) : oGo Z own nm bytes ml ret R n0 Q k n h pc L (.long y :: .long x :: S) := by
  refine oGo.lcmp hd h1 (oGo.if_gt hd2 hq hr (fun hc => ?_) (fun hc => ?_))
  · rcases own_egt x y with u | u
    · exact K1 u
    · have := own_lgt.2 u; first | exact absurd hc this | exact absurd this hc | omega
  · rcases own_egt x y with u | u
    · have := own_lgt.1 u; first | exact absurd hc this | exact absurd this hc | omega
    · exact K2 u
theorem own_hle {x y : Int32} : (x.toInt ≤ y.toInt → if_icmp.holds .le x y = true) ∧ (y.toInt < x.toInt → if_icmp.holds .le x y = false) :=
  ⟨fun hc => (flt (fun z => by have := Int32.lt_iff_toInt_lt.mp z; omega)).2.2.2, fun hc => (tlt (Int32.lt_iff_toInt_lt.mpr hc)).2.2.2⟩
theorem own_dle (x y : Int32) : (x.toInt ≤ y.toInt) ∨ (y.toInt < x.toInt) := by omega
theorem own_ele (x y : Int64) : (x.toInt ≤ y.toInt) ∨ (y.toInt < x.toInt) := by omega
theorem oGo.icmp_le {o : Int} {x y : Int32} (hd : decode bytes pc = .ok (.if_icmp .le o, 3)) (hq : (pc : Int) + o = (q : Int)) (hr : pc + 3 = r) (K1 : x.toInt ≤ y.toInt → oGo Z own nm bytes ml ret R n0 Q k n h q L S) (K2 : y.toInt < x.toInt → oGo Z own nm bytes ml ret R n0 Q k n h r L S) : oGo Z own nm bytes ml ret R n0 Q k n h pc L (.int y :: .int x :: S) := by
  rcases own_dle x y with hc | hc
  · exact oGo.st (fun p e m below c T hx hby hA t k => XS.icmpYes hA hx rfl (pc0 := pc) (pc' := q) rfl (hb hby hd) rfl (own_hle.1 hc) (by omega) (by omega) k) (K1 hc)
  · subst hr; exact oGo.st (fun p e m below c T hx hby hA t k => XS.icmpNo hA hx rfl (hb hby hd) rfl (own_hle.2 hc) k) (K2 hc)
theorem oGo.if_le {o : Int} {x : Int32} (hd : decode bytes pc = .ok (.ifCond .le o, 3)) (hq : (pc : Int) + o = (q : Int)) (hr : pc + 3 = r) (K1 : x.toInt ≤ 0 → oGo Z own nm bytes ml ret R n0 Q k n h q L S) (K2 : 0 < x.toInt → oGo Z own nm bytes ml ret R n0 Q k n h r L S) : oGo Z own nm bytes ml ret R n0 Q k n h pc L (.int x :: S) := by
  rcases own_dle x 0 with hc | hc
  · exact oGo.st (fun p e m below c T hx hby hA t k => XS.ifYes hA hx rfl (pc0 := pc) (pc' := q) rfl (hb hby hd) rfl ((if0 _ _).trans (own_hle.1 hc)) (by omega) (by omega) k) (K1 hc)
  · subst hr; exact oGo.st (fun p e m below c T hx hby hA t k => XS.ifNo hA hx rfl (hb hby hd) rfl ((if0 _ _).trans (own_hle.2 hc)) k) (K2 hc)
theorem own_lle {x y : Int64} : (x.toInt ≤ y.toInt → (lcmpW x y).toInt ≤ 0) ∧ (y.toInt < x.toInt → 0 < (lcmpW x y).toInt) := by
  obtain ⟨h1, h2, h3⟩ := c_lcmp x y
  refine ⟨fun hc => ?_, fun hc => ?_⟩ <;> (rcases Int.lt_trichotomy x.toInt y.toInt with u | u | u <;> simp_all <;> omega)
theorem oGo.lif_le {o : Int} {x y : Int64} {pc2 : Nat} (hd : decode bytes pc = .ok (.lcmp, 1)) (h1 : pc + 1 = pc2) (hd2 : decode bytes pc2 = .ok (.ifCond .le o, 3)) (hq : (pc2 : Int) + o = (q : Int)) (hr : pc2 + 3 = r) (K1 : x.toInt ≤ y.toInt → oGo Z own nm bytes ml ret R n0 Q k n h q L S) (K2 : y.toInt < x.toInt → oGo Z own nm bytes ml ret R n0 Q k n h r L S) : oGo Z own nm bytes ml ret R n0 Q k n h pc L (.long y :: .long x :: S) := by
  refine oGo.lcmp hd h1 (oGo.if_le hd2 hq hr (fun hc => ?_) (fun hc => ?_))
  · rcases own_ele x y with u | u
    · exact K1 u
    · have := own_lle.2 u; first | exact absurd hc this | exact absurd this hc | omega
  · rcases own_ele x y with u | u
    · have := own_lle.1 u; first | exact absurd hc this | exact absurd this hc | omega
    · exact K2 u
theorem own_heq {x y : Int32} : (x = y → if_icmp.holds .eq x y = true) ∧ (x ≠ y → if_icmp.holds .eq x y = false) :=
  ⟨fun hc => (teq hc).1, fun hc => (feq hc).1⟩
theorem own_deq (x y : Int32) : (x = y) ∨ (x ≠ y) := by exact Decidable.em _
theorem own_eeq (x y : Int64) : (x = y) ∨ (x ≠ y) := by exact Decidable.em _
theorem oGo.icmp_eq {o : Int} {x y : Int32} (hd : decode bytes pc = .ok (.if_icmp .eq o, 3)) (hq : (pc : Int) + o = (q : Int)) (hr : pc + 3 = r) (K1 : x = y → oGo Z own nm bytes ml ret R n0 Q k n h q L S) (K2 : x ≠ y → oGo Z own nm bytes ml ret R n0 Q k n h r L S) : oGo Z own nm bytes ml ret R n0 Q k n h pc L (.int y :: .int x :: S) := by
  rcases own_deq x y with hc | hc
  · exact oGo.st (fun p e m below c T hx hby hA t k => XS.icmpYes hA hx rfl (pc0 := pc) (pc' := q) rfl (hb hby hd) rfl (own_heq.1 hc) (by omega) (by omega) k) (K1 hc)
  · subst hr; exact oGo.st (fun p e m below c T hx hby hA t k => XS.icmpNo hA hx rfl (hb hby hd) rfl (own_heq.2 hc) k) (K2 hc)
theorem oGo.if_eq {o : Int} {x : Int32} (hd : decode bytes pc = .ok (.ifCond .eq o, 3)) (hq : (pc : Int) + o = (q : Int)) (hr : pc + 3 = r) (K1 : x = 0 → oGo Z own nm bytes ml ret R n0 Q k n h q L S) (K2 : x ≠ 0 → oGo Z own nm bytes ml ret R n0 Q k n h r L S) : oGo Z own nm bytes ml ret R n0 Q k n h pc L (.int x :: S) := by
  rcases own_deq x 0 with hc | hc
  · exact oGo.st (fun p e m below c T hx hby hA t k => XS.ifYes hA hx rfl (pc0 := pc) (pc' := q) rfl (hb hby hd) rfl ((if0 _ _).trans (own_heq.1 hc)) (by omega) (by omega) k) (K1 hc)
  · subst hr; exact oGo.st (fun p e m below c T hx hby hA t k => XS.ifNo hA hx rfl (hb hby hd) rfl ((if0 _ _).trans (own_heq.2 hc)) k) (K2 hc)
theorem own_leq {x y : Int64} : (x = y → lcmpW x y = 0) ∧ (x ≠ y → lcmpW x y ≠ 0) := by
  obtain ⟨h1, h2, h3⟩ := c_lcmp x y
  refine ⟨fun hc => ?_, fun hc => ?_⟩ <;> (first | exact (lw_eq x y).mpr hc | exact fun z => hc ((lw_eq x y).mp z))
theorem oGo.lif_eq {o : Int} {x y : Int64} {pc2 : Nat} (hd : decode bytes pc = .ok (.lcmp, 1)) (h1 : pc + 1 = pc2) (hd2 : decode bytes pc2 = .ok (.ifCond .eq o, 3)) (hq : (pc2 : Int) + o = (q : Int)) (hr : pc2 + 3 = r) (K1 : x = y → oGo Z own nm bytes ml ret R n0 Q k n h q L S) (K2 : x ≠ y → oGo Z own nm bytes ml ret R n0 Q k n h r L S) : oGo Z own nm bytes ml ret R n0 Q k n h pc L (.long y :: .long x :: S) := by
  refine oGo.lcmp hd h1 (oGo.if_eq hd2 hq hr (fun hc => ?_) (fun hc => ?_))
  · rcases own_eeq x y with u | u
    · exact K1 u
    · have := own_leq.2 u; first | exact absurd hc this | exact absurd this hc | omega
  · rcases own_eeq x y with u | u
    · have := own_leq.1 u; first | exact absurd hc this | exact absurd this hc | omega
    · exact K2 u
theorem own_hne {x y : Int32} : (x ≠ y → if_icmp.holds .ne x y = true) ∧ (x = y → if_icmp.holds .ne x y = false) :=
  ⟨fun hc => (feq hc).2, fun hc => (teq hc).2⟩
theorem own_dne (x y : Int32) : (x ≠ y) ∨ (x = y) := by exact (Decidable.em _).symm
theorem own_ene (x y : Int64) : (x ≠ y) ∨ (x = y) := by exact (Decidable.em _).symm
theorem oGo.icmp_ne {o : Int} {x y : Int32} (hd : decode bytes pc = .ok (.if_icmp .ne o, 3)) (hq : (pc : Int) + o = (q : Int)) (hr : pc + 3 = r) (K1 : x ≠ y → oGo Z own nm bytes ml ret R n0 Q k n h q L S) (K2 : x = y → oGo Z own nm bytes ml ret R n0 Q k n h r L S) : oGo Z own nm bytes ml ret R n0 Q k n h pc L (.int y :: .int x :: S) := by
  rcases own_dne x y with hc | hc
  · exact oGo.st (fun p e m below c T hx hby hA t k => XS.icmpYes hA hx rfl (pc0 := pc) (pc' := q) rfl (hb hby hd) rfl (own_hne.1 hc) (by omega) (by omega) k) (K1 hc)
  · subst hr; exact oGo.st (fun p e m below c T hx hby hA t k => XS.icmpNo hA hx rfl (hb hby hd) rfl (own_hne.2 hc) k) (K2 hc)
theorem oGo.if_ne {o : Int} {x : Int32} (hd : decode bytes pc = .ok (.ifCond .ne o, 3)) (hq : (pc : Int) + o = (q : Int)) (hr : pc + 3 = r) (K1 : x ≠ 0 → oGo Z own nm bytes ml ret R n0 Q k n h q L S) (K2 : x = 0 → oGo Z own nm bytes ml ret R n0 Q k n h r L S) : oGo Z own nm bytes ml ret R n0 Q k n h pc L (.int x :: S) := by
  rcases own_dne x 0 with hc | hc
  · exact oGo.st (fun p e m below c T hx hby hA t k => XS.ifYes hA hx rfl (pc0 := pc) (pc' := q) rfl (hb hby hd) rfl ((if0 _ _).trans (own_hne.1 hc)) (by omega) (by omega) k) (K1 hc)
  · subst hr; exact oGo.st (fun p e m below c T hx hby hA t k => XS.ifNo hA hx rfl (hb hby hd) rfl ((if0 _ _).trans (own_hne.2 hc)) k) (K2 hc)
theorem own_lne {x y : Int64} : (x ≠ y → lcmpW x y ≠ 0) ∧ (x = y → lcmpW x y = 0) := by
  obtain ⟨h1, h2, h3⟩ := c_lcmp x y
  refine ⟨fun hc => ?_, fun hc => ?_⟩ <;> (first | exact (lw_eq x y).mpr hc | exact fun z => hc ((lw_eq x y).mp z))
theorem oGo.lif_ne {o : Int} {x y : Int64} {pc2 : Nat} (hd : decode bytes pc = .ok (.lcmp, 1)) (h1 : pc + 1 = pc2) (hd2 : decode bytes pc2 = .ok (.ifCond .ne o, 3)) (hq : (pc2 : Int) + o = (q : Int)) (hr : pc2 + 3 = r) (K1 : x ≠ y → oGo Z own nm bytes ml ret R n0 Q k n h q L S) (K2 : x = y → oGo Z own nm bytes ml ret R n0 Q k n h r L S) : oGo Z own nm bytes ml ret R n0 Q k n h pc L (.long y :: .long x :: S) := by
  refine oGo.lcmp hd h1 (oGo.if_ne hd2 hq hr (fun hc => ?_) (fun hc => ?_))
  · rcases own_ene x y with u | u
    · exact K1 u
    · have := own_lne.2 u; first | exact absurd hc this | exact absurd this hc | omega
  · rcases own_ene x y with u | u
    · have := own_lne.1 u; first | exact absurd hc this | exact absurd this hc | omega
    · exact K2 u
theorem oGo.ldc2 {i : Nat} {v : Int64} (hd : decode bytes pc = .ok (.ldc2_w i, 3)) (hq : pc + 3 = q) (w : (Cond.constantLong own i v).before a0 Z = true) (K : oGo Z own nm bytes ml ret R n0 Q k n h q L (.long v :: S)) : oGo Z own nm bytes ml ret R n0 Q k n h pc L S :=
  fun p l e s m args below meth c T locs C X eT N => by
    obtain ⟨hx, hZ, hby, hml, hown, hret, hlk, hnm⟩ := C
    subst hq
    obtain ⟨s₂, o, h1, r⟩ := K p l e s m args below meth c T locs ⟨hx, hZ, hby, hml, hown, hret, hlk, hnm⟩ X eT N
    exact ⟨s₂, o, X.ldc2Long hx hown (mvT hZ w) (g := mkF m pc L S) rfl (hb hby hd) _ h1, r⟩
theorem oGo.ldcI {i : Nat} {v : Int32} (hd : decode bytes pc = .ok (.ldc i, 2)) (hq : pc + 2 = q) (w : (Cond.constant own i v).before a0 Z = true) (K : oGo Z own nm bytes ml ret R n0 Q k n h q L (.int v :: S)) : oGo Z own nm bytes ml ret R n0 Q k n h pc L S :=
  fun p l e s m args below meth c T locs C X eT N => by
    obtain ⟨hx, hZ, hby, hml, hown, hret, hlk, hnm⟩ := C
    subst hq
    obtain ⟨s₂, o, h1, r⟩ := K p l e s m args below meth c T locs ⟨hx, hZ, hby, hml, hown, hret, hlk, hnm⟩ X eT N
    exact ⟨s₂, o, X.ldcInt hx hown (mvT hZ w) (g := mkF m pc L S) rfl (hb hby hd) _ h1, r⟩
/-! the returns -/
theorem own_end {p : Program} {l : Launch} {e : Env} {s : State} {m : MethodId} {args : Array Value} {below : List Frame} {meth : Method} {c : Code} {T : State} {locs : List Loc} (X : Stand p l e R s m args below meth c T locs k n) (hlk : meth.locks = false) {v : Option Value} (hv : meth.sig.returnType = none → v = none) (hk : k ≤ R.cells) (hn : n ≤ R.slots) (N : Fr n0 locs) (hQ : Q v T.heap) {g : JFrame}
    (H : ∀ fs, (∀ (f : JFrame) (acts : List Action), f.method = m → f.locked = none → f.entered = [] → (doReturn e (T.setTop f) acts v).1 = T.setFrames fs) → Steps p.tables e below (T.setTop g) (T.setFrames fs)) :
    ∃ s₂ o, Steps p.tables e below (T.setTop g) s₂ ∧ s₂.status = .running ∧ Ended s₂ below o ∧ ∃ v L', o = .returned v ∧ (Q v s₂.heap ∧ Fr n0 L') ∧ FrameEnd s o s₂ L' R.cells R.slots := by
  obtain ⟨fs, hr, hrun, hended, hW, hsame⟩ := X.leave hv hlk
  exact ⟨_, _, H fs hr, hrun, hended, _, _, rfl, ⟨hQ, N⟩, ⟨_, rfl⟩, hW, hsame.mono hk hn⟩
theorem oGo.retI {z : Int32} (hd : decode bytes pc = .ok (.ireturn, 1)) (hret : ret = some .int) (hk : k ≤ R.cells) (hn : n ≤ R.slots) (hQ : Q (some (.int z)) h) : oGo Z own nm bytes ml ret R n0 Q k n h pc L (.int z :: S) :=
  fun p l e s m args below meth c T locs C X eT N => by
    obtain ⟨hx, hZ, hby, hml, hown, hrt, hlk, hnm⟩ := C
    subst eT
    exact own_end X hlk (fun u => by rw [hrt, hret] at u; cases u) hk hn N hQ fun fs hr => retOut X hx (hrt.trans hret) rfl (Or.inl ⟨rfl, Or.inl rfl, z, rfl⟩) (hb hby hd) hr
theorem oGo.retN {z : Int32} {t : FieldType} (hd : decode bytes pc = .ok (.ireturn, 1)) (hret : ret = some t) (ht : t = .boolean ∨ t = .byte ∨ t = .char ∨ t = .short) (hk : k ≤ R.cells) (hn : n ≤ R.slots) (hQ : Q (some (.int (nar t z))) h) : oGo Z own nm bytes ml ret R n0 Q k n h pc L (.int z :: S) :=
  fun p l e s m args below meth c T locs C X eT N => by
    obtain ⟨hx, hZ, hby, hml, hown, hrt, hlk, hnm⟩ := C
    subst eT
    exact own_end X hlk (fun u => by rw [hrt, hret] at u; cases u) hk hn N hQ fun fs hr => Jvm.RoadKit.retN X hx (hrt.trans hret) ht (hb hby hd) hr
theorem oGo.retJ {z : Int64} (hd : decode bytes pc = .ok (.lreturn, 1)) (hret : ret = some .long) (hk : k ≤ R.cells) (hn : n ≤ R.slots) (hQ : Q (some (.long z)) h) : oGo Z own nm bytes ml ret R n0 Q k n h pc L (.long z :: S) :=
  fun p l e s m args below meth c T locs C X eT N => by
    obtain ⟨hx, hZ, hby, hml, hown, hrt, hlk, hnm⟩ := C
    subst eT
    exact own_end X hlk (fun u => by rw [hrt, hret] at u; cases u) hk hn N hQ fun fs hr => retOut X hx (hrt.trans hret) rfl (Or.inr (Or.inl ⟨rfl, rfl, z, rfl⟩)) (hb hby hd) hr
theorem oGo.retA {v : Value} {t : FieldType} (hd : decode bytes pc = .ok (.areturn, 1)) (hret : ret = some t) (ht : t.isReference = true) (hv : v.isRef = true) (hk : k ≤ R.cells) (hn : n ≤ R.slots) (hQ : Q (some v) h) : oGo Z own nm bytes ml ret R n0 Q k n h pc L (v :: S) :=
  fun p l e s m args below meth c T locs C X eT N => by
    obtain ⟨hx, hZ, hby, hml, hown, hrt, hlk, hnm⟩ := C
    subst eT
    exact own_end X hlk (fun u => by rw [hrt, hret] at u; cases u) hk hn N hQ fun fs hr => retOut X hx (hrt.trans hret) (by cases t <;> first | (cases ht; done) | rfl) (Or.inr (Or.inr (Or.inr (Or.inr ⟨rfl, ht, hv⟩)))) (hb hby hd) hr
theorem oGo.retV (hd : decode bytes pc = .ok (.return_, 1)) (hret : ret = none) (hk : k ≤ R.cells) (hn : n ≤ R.slots) (hQ : Q none h) : oGo Z own nm bytes ml ret R n0 Q k n h pc L [] :=
  fun p l e s m args below meth c T locs C X eT N => by
    obtain ⟨hx, hZ, hby, hml, hown, hrt, hlk, hnm⟩ := C
    subst eT
    exact own_end X hlk (fun _ => rfl) hk hn N hQ fun fs hr => X.returnOut hx (hrt.trans hret) (hb hby hd) hr
/-! calls by contract -/
theorem oGo.callS {y : MethodName} {i W : Nat} {bytes' : ByteArray} {ml' : Nat} {ret' : Option FieldType} {rm : Room} {as : Array Value} {Q' : Option Value → Heap → Prop} {ps : List FieldType} {rt : Option FieldType} (argsL rest : List Value) (hd : decode bytes pc = .ok (.invokestatic i, 3)) (hq : pc + 3 = q)
    (w1 : (Cond.methodLink own i y).before a0 Z = true) (w2 : (Cond.static y).before a0 Z = true) (w3 : (Cond.initialized y.cls).before a0 Z = true) (w4 : (Cond.code y bytes' ml' ret').before a0 Z = true) (hy : y.cls ≠ "java/lang/invoke/MethodHandle" ∧ y.cls ≠ "java/lang/invoke/VarHandle")
    (hC : oCon Z y bytes' ml' ret' rm as h n0 Q') (hS : S = argsL.reverse ++ rest) (has : argsL.toArray = as) (hpd : parseMethodDescriptor y.desc = some ⟨ps, rt⟩) (hlen : argsL.length = ps.length) (hL : L.size = ml) (hW : 2 * 0 + (rest.map fun v => v.category).sum ≤ W) (hf : rm.frames + 1 ≤ R.frames) (hl : W + (ml' + 11) + rm.locals ≤ R.locals) (hc : k + rm.cells ≤ R.cells) (hs : n + rm.slots ≤ R.slots)
    (K : ∀ v h', Q' v h' → oGo Z own nm bytes ml ret R n0 Q (k + rm.cells) (n + rm.slots) h' q L (v.toList ++ rest)) : oGo Z own nm bytes ml ret R n0 Q k n h pc L S :=
  fun p l e s m args below meth c T locs C X eT N => by
    obtain ⟨hx, hZ, hby, hml, hown, hrt, hlk, hnm⟩ := C
    subst hq
    obtain ⟨v, _, ⟨T', L2, k2, n2⟩, -, X', ⟨Lc, hQ', l', y', z'⟩, st⟩ := Jvm.LawKit.callS X hx (y := y) hown (mvT hZ w1) (mvT hZ w2) (mvT hZ w3) (mvT hZ w4) hy (backOf (W := W) (Q := fun v h' L => Q' v h' ∧ Fr n0 L) (hC l []) hZ w4 w3 hf hl) (g := mkF m pc L S) rfl (by rw [hml]; exact hL) (argsL := argsL) (rest := rest) (lenOf hpd hlen) hS hW (hb hby hd) (fun _ _ => ⟨has, eT, hc, hs⟩)
    dsimp only [Pt.U, Pt.locs, Pt.cells, Pt.slots] at X' l' y' z' st hQ'
    subst l' y' z'
    obtain ⟨s₂, o, h1, r⟩ := K v T'.heap hQ'.1 p l e s m args below meth c T' _ ⟨hx, hZ, hby, hml, hown, hrt, hlk, hnm⟩ X' rfl (Fr.app N hQ'.2)
    exact ⟨s₂, o, st _ h1, r⟩
theorem oGo.callI {y : MethodName} {i W : Nat} {bytes' : ByteArray} {ml' : Nat} {rm : Room} {as : Array Value} {Q' : Option Value → Heap → Prop} {ps : List FieldType} {rt : Option FieldType} {a : Addr} (argsL rest : List Value) (hd : decode bytes pc = .ok (.invokespecial i, 3)) (hq : pc + 3 = q) (hy1 : y.name = "<init>")
    (w1 : (Cond.methodLink own i y).before a0 Z = true) (w2 : (Cond.instanceMethod y).before a0 Z = true) (w3 : (Cond.initialized y.cls).before a0 Z = true) (w4 : (Cond.code y bytes' ml' none).before a0 Z = true) (hy : y.cls ≠ "java/lang/invoke/MethodHandle" ∧ y.cls ≠ "java/lang/invoke/VarHandle")
    (hC : oCon Z y bytes' ml' none rm as h n0 Q') (hS : S = argsL.reverse ++ .ref a :: rest) (has : (.ref a :: argsL).toArray = as) (hpd : parseMethodDescriptor y.desc = some ⟨ps, rt⟩) (hlen : argsL.length = ps.length) (hL : L.size = ml) (hW : 2 * 0 + (rest.map fun v => v.category).sum ≤ W) (hf : rm.frames + 1 ≤ R.frames) (hl : W + (ml' + 11) + rm.locals ≤ R.locals) (hc : k + rm.cells ≤ R.cells) (hs : n + rm.slots ≤ R.slots)
    (K : ∀ v h', Q' v h' → oGo Z own nm bytes ml ret R n0 Q (k + rm.cells) (n + rm.slots) h' q L (v.toList ++ rest)) : oGo Z own nm bytes ml ret R n0 Q k n h pc L S :=
  fun p l e s m args below meth c T locs C X eT N => by
    obtain ⟨hx, hZ, hby, hml, hown, hrt, hlk, hnm⟩ := C
    subst hq
    obtain ⟨v, _, ⟨T', L2, k2, n2⟩, -, X', ⟨Lc, hQ', l', y', z'⟩, st⟩ := X.specialBack hx (y := y) hy1 hown (mvT hZ w1) (mvT hZ w2) (mvT hZ w4) hy (backOf (W := W) (Q := fun v h' L => Q' v h' ∧ Fr n0 L) (hC l []) hZ w4 w3 hf hl) (g := mkF m pc L S) rfl (by rw [hml]; exact hL) (Steps.refl _) (a := a) (argsL := argsL) (rest := rest) (lenOf hpd hlen) hS hW (hb hby hd) (fun _ _ => ⟨has, eT, hc, hs⟩)
    dsimp only [Pt.U, Pt.locs, Pt.cells, Pt.slots] at X' l' y' z' st hQ'
    subst l' y' z'
    obtain ⟨s₂, o, h1, r⟩ := K v T'.heap hQ'.1 p l e s m args below meth c T' _ ⟨hx, hZ, hby, hml, hown, hrt, hlk, hnm⟩ X' rfl (Fr.app N hQ'.2)
    exact ⟨s₂, o, st.trans h1, r⟩
theorem oGo.callV {y z : MethodName} {C : String} {i W : Nat} {bytes' : ByteArray} {ml' : Nat} {ret' : Option FieldType} {rm : Room} {as : Array Value} {Q' : Option Value → Heap → Prop} {ps : List FieldType} {rt : Option FieldType} {a : Addr} (argsL rest : List Value) (hd : decode bytes pc = .ok (.invokevirtual i, 3)) (hq : pc + 3 = q)
    (w1 : (Cond.methodLink own i y).before a0 Z = true) (w2 : (Cond.declares y).before a0 Z = true) (w5 : (Cond.selects C y z).before a0 Z = true) (w6 : (Cond.instanceMethod z).before a0 Z = true) (w3 : (Cond.initialized z.cls).before a0 Z = true) (w4 : (Cond.code z bytes' ml' ret').before a0 Z = true) (hyz : y = z) (hy : y.cls ≠ "java/lang/invoke/MethodHandle" ∧ y.cls ≠ "java/lang/invoke/VarHandle") (E : Exa Z h a C)
    (hC : oCon Z z bytes' ml' ret' rm as h n0 Q') (hS : S = argsL.reverse ++ .ref a :: rest) (has : (.ref a :: argsL).toArray = as) (hpd : parseMethodDescriptor y.desc = some ⟨ps, rt⟩) (hlen : argsL.length = ps.length) (hL : L.size = ml) (hW : 2 * 0 + (rest.map fun v => v.category).sum ≤ W) (hf : rm.frames + 1 ≤ R.frames) (hl : W + (ml' + 11) + rm.locals ≤ R.locals) (hc : k + rm.cells ≤ R.cells) (hs : n + rm.slots ≤ R.slots)
    (K : ∀ v h', Q' v h' → oGo Z own nm bytes ml ret R n0 Q (k + rm.cells) (n + rm.slots) h' q L (v.toList ++ rest)) : oGo Z own nm bytes ml ret R n0 Q k n h pc L S :=
  fun p l e s m args below meth c T locs Cx X eT N => by
    obtain ⟨hx, hZ, hby, hml, hown, hrt, hlk, hnm⟩ := Cx
    subst hq hyz
    obtain ⟨cq, kq, qa, qb, qc⟩ := isOf (T := T) hZ eT E
    obtain ⟨v, _, ⟨T', L2, k2, n2⟩, -, X', ⟨Lc, hQ', l', y', z'⟩, st⟩ := X.virtualBack hx (y := y) (z := y) hown (mvT hZ w1) (mvT hZ w2) (notFace_of_selects (args := #[]) (mvT hZ w5)) (mvT hZ w5) (mvT hZ w6) hy (backOf (W := W) (Q := fun v h' L => Q' v h' ∧ Fr n0 L) (hC l []) hZ w4 w3 hf hl) qa qc (g := mkF m pc L S) rfl (by rw [hml]; exact hL) (Steps.refl _) (argsL := argsL) (rest := rest) (lenOf hpd hlen) hS hW (hb hby hd) (fun _ _ => ⟨has, eT, hc, hs⟩)
    dsimp only [Pt.U, Pt.locs, Pt.cells, Pt.slots] at X' l' y' z' st hQ'
    subst l' y' z'
    obtain ⟨s₂, o, h1, r⟩ := K v T'.heap hQ'.1 p l e s m args below meth c T' _ ⟨hx, hZ, hby, hml, hown, hrt, hlk, hnm⟩ X' rfl (Fr.app N hQ'.2)
    exact ⟨s₂, o, st.trans h1, r⟩
theorem oGo.initO {i W : Nat} {a : Addr} (hd : decode bytes pc = .ok (.invokespecial i, 3)) (hq : pc + 3 = q) (w1 : (Cond.methodLink own i Lib.objectInit).before a0 Z = true) (w2 : (Cond.instanceMethod Lib.objectInit).before a0 Z = true) (w3 : (Cond.code Lib.objectInit ⟨#[0xb1]⟩ 1 none).before a0 Z = true) (hL : L.size = ml) (hf : 1 ≤ R.frames) (hW : 2 * 0 + (S.map fun v => v.category).sum ≤ W) (hl : W + 12 ≤ R.locals) (K : oGo Z own nm bytes ml ret R n0 Q k n h q L S) : oGo Z own nm bytes ml ret R n0 Q k n h pc L (.ref a :: S) :=
  fun p l e s m args below meth c T locs C X eT N => by
    obtain ⟨hx, hZ, hby, hml, hown, hrt, hlk, hnm⟩ := C
    subst hq
    obtain ⟨T', X', e', st⟩ := Jvm.RoadKit.initO X hx hZ hown w1 w2 w3 eT (g := mkF m pc L (.ref a :: S)) rfl (by rw [hml]; exact hL) rfl (hb hby hd) hf hW hl
    obtain ⟨s₂, o, h1, r⟩ := K p l e s m args below meth c T' locs ⟨hx, hZ, hby, hml, hown, hrt, hlk, hnm⟩ X' e' N
    exact ⟨s₂, o, st _ h1, r⟩
/-! objects -/
theorem own_keep {h h' : Heap} (E : Ext h h') : Keep h h' [] := (Keep.refl h []).ext E
theorem oGo.newO {C : String} {i nn : Nat} (hd : decode bytes pc = .ok (.new i, 3)) (hq : pc + 3 = q) (w : (Cond.classLink own i C).before a0 Z = true) (wi : (Cond.instantiable C nn).before a0 Z = true) (wz : (Cond.initialized C).before a0 Z = true) (hc : k + 1 ≤ R.cells) (hs : n + nn ≤ R.slots)
    (K : ∀ h' a, a = h.size → Keep h h' [] → Exa Z h' a C → (∀ {O f d : String} {ty : FieldType}, Laid Z a0 C O f d → parseFieldDescriptor d = some ty → Fld Z h' a O f d (defaultValue ty)) → oGo Z own nm bytes ml ret R n0 Q (k + 1) (n + nn) h' q L (.ref a :: S)) : oGo Z own nm bytes ml ret R n0 Q k n h pc L S :=
  fun p l e s m args below meth c T locs Cx X eT N => by
    obtain ⟨hx, hZ, hby, hml, hown, hrt, hlk, hnm⟩ := Cx
    subst hq
    obtain ⟨T', h', X', e', E, A, D, -, st⟩ := Jvm.RoadKit.newO X hx hZ hown w wi wz eT (g := mkF m pc L S) rfl (hb hby hd) hc hs
    obtain ⟨s₂, o, h1, r⟩ := K h' h.size rfl (own_keep E) A D p l e s m args below meth c T' locs ⟨hx, hZ, hby, hml, hown, hrt, hlk, hnm⟩ X' e' N
    exact ⟨s₂, o, st _ h1, r⟩
theorem oGo.getF {R0 O f d host : String} {i : Nat} {a : Addr} {v : Value} (hd : decode bytes pc = .ok (.getfield i, 3)) (hq : pc + 3 = q) (w : (Cond.fieldLink own i R0 f d).before a0 Z = true ∨ (Cond.fieldLinkNest own i R0 f d host).before a0 Z = true) (via : Via Z R0 O f d) (F : Fld Z h a O f d v) (K : oGo Z own nm bytes ml ret R n0 Q k n h q L (v :: S)) : oGo Z own nm bytes ml ret R n0 Q k n h pc L (.ref a :: S) :=
  fun p l e s m args below meth c T locs C X eT N => by
    obtain ⟨hx, hZ, hby, hml, hown, hrt, hlk, hnm⟩ := C
    subst hq
    obtain ⟨T', X', e', st⟩ := Jvm.RoadKit.getF X hx hZ hown w via eT F (g := mkF m pc L (.ref a :: S)) rfl rfl (hb hby hd)
    obtain ⟨s₂, o, h1, r⟩ := K p l e s m args below meth c T' locs ⟨hx, hZ, hby, hml, hown, hrt, hlk, hnm⟩ X' e' N
    exact ⟨s₂, o, st _ h1, r⟩
theorem oGo.getS {R0 O f d : String} {i : Nat} {v : Value} (hd : decode bytes pc = .ok (.getstatic i, 3)) (hq : pc + 3 = q) (w : (Cond.fieldLink own i R0 f d).before a0 Z = true) (via : Via Z R0 O f d) (F : Sta Z h O f d v) (K : oGo Z own nm bytes ml ret R n0 Q k n h q L (v :: S)) : oGo Z own nm bytes ml ret R n0 Q k n h pc L S :=
  fun p l e s m args below meth c T locs C X eT N => by
    obtain ⟨hx, hZ, hby, hml, hown, hrt, hlk, hnm⟩ := C
    subst hq
    obtain ⟨T', X', e', st⟩ := Jvm.RoadKit.getS (host := "") X hx hZ hown w via eT F (g := mkF m pc L S) rfl (hb hby hd)
    obtain ⟨s₂, o, h1, r⟩ := K p l e s m args below meth c T' locs ⟨hx, hZ, hby, hml, hown, hrt, hlk, hnm⟩ X' e' N
    exact ⟨s₂, o, st _ h1, r⟩
theorem oGo.putF {R0 O f d host C : String} {i kk : Nat} {ty : FieldType} {a : Addr} {v w0 : Value} (hd : decode bytes pc = .ok (.putfield i, 3)) (hq : pc + 3 = q) (w : (Cond.fieldLink own i R0 f d).before a0 Z = true ∨ (Cond.fieldLinkNest own i R0 f d host).before a0 Z = true) (via : Via Z R0 O f d) (F : Fld Z h a O f d w0) (E : Exa Z h a C)
    (Lw : (Cond.lays C O f d).before a0 Z = true ∨ ((Cond.laysFinal C O f d).before a0 Z = true ∧ own = O ∧ nm = "<init>")) (wi : (Cond.instantiable C kk).before a0 Z = true) (hty : parseFieldDescriptor d = some ty) (hn : narrow ty v = v) (hf : fits ty v = true) (ha : n0 ≤ a)
    (K : ∀ h', Keep h h' [a] → Exa Z h' a C → Fld Z h' a O f d v → (∀ {O' f' d' : String} {u : Value}, Jvm.RoadKit.slotOf Z O' f' d' ≠ Jvm.RoadKit.slotOf Z O f d → Fld Z h a O' f' d' u → Fld Z h' a O' f' d' u) → oGo Z own nm bytes ml ret R n0 Q k n h' q L S) : oGo Z own nm bytes ml ret R n0 Q k n h pc L (v :: .ref a :: S) :=
  fun p l e s m args below meth c T locs Cx X eT N => by
    obtain ⟨hx, hZ, hby, hml, hown, hrt, hlk, hnm⟩ := Cx
    subst hq
    obtain ⟨T', h', X', e', W, st⟩ := Jvm.RoadKit.putF X hx hZ hown w via eT F E (Lw.imp id fun u => ⟨u.1, u.2.1, hnm.trans u.2.2⟩) wi hty hn hf (g := mkF m pc L (v :: .ref a :: S)) rfl rfl (hb hby hd)
    obtain ⟨s₂, o, h1, r⟩ := K h' (Keep.of_wr W) (E.wr W) (F.same W) (fun hne G => G.other W (Or.inr hne)) p l e s m args below meth c T' _ ⟨hx, hZ, hby, hml, hown, hrt, hlk, hnm⟩ X' e' (Fr.snoc X' N ha)
    exact ⟨s₂, o, st _ h1, r⟩
/-! arrays -/
def Ars (Z : State) (h : Heap) (a : Addr) (ty : FieldType) (vs : List Value) : Prop := ∃ c : Cell, Arr Z h a c ty ∧ c.slots.toList = vs ∧ ∀ v ∈ vs, fits ty v = true
theorem Ars.lt {a : Addr} {ty : FieldType} {vs : List Value} (A : Ars Z h a ty vs) : a < h.size := by obtain ⟨c, A, -⟩ := A; exact A.lt
theorem Ars.keep {h' : Heap} {ws : List Addr} {a : Addr} {ty : FieldType} {vs : List Value} (A : Ars Z h a ty vs) (K : Keep h h' ws) (q : a ∉ ws) : Ars Z h' a ty vs := by obtain ⟨c, A, r⟩ := A; exact ⟨c, ⟨K.2.1 a c A.1 q, A.2⟩, r⟩
theorem own_cn {j : Int32} {i : Nat} (hi : j.toInt = (i : Int)) : j.toNatClampNeg = i := by simp [Int32.toNatClampNeg, hi]
theorem own_in {j : Int32} {i : Nat} {c : Cell} {vs : List Value} (hi : j.toInt = (i : Int)) (hc : c.slots.toList = vs) (hl : i < vs.length) : ¬ (j < 0 ∨ c.slots.size ≤ j.toNatClampNeg) := by
  have e1 : c.slots.size = vs.length := by rw [← hc]; simp
  rw [own_cn hi, e1]
  rintro (u | u)
  · have := Int32.lt_iff_toInt_lt.mp u; have e0 : (0 : Int32).toInt = 0 := rfl; omega
  · omega
theorem own_at {j : Int32} {i : Nat} {c : Cell} {vs : List Value} {v : Value} (hi : j.toInt = (i : Int)) (hc : c.slots.toList = vs) (hv : vs[i]? = some v) : c.slots[j.toNatClampNeg]? = some v := by
  rw [own_cn hi, ← hv, ← hc]; simp
theorem Ars.wr {h' : Heap} {a : Addr} {ty : FieldType} {vs : List Value} {c : Cell} {i : Nat} {v : Value} {j : Int32} (hi : j.toInt = (i : Int)) (A : Arr Z h a c ty) (hc : c.slots.toList = vs) (hf : ∀ v ∈ vs, fits ty v = true) (hv : fits ty v = true) (W : Wr h h' a j.toNatClampNeg v) : Ars Z h' a ty (vs.set i v) := by
  refine ⟨_, A.same W, ?_, fun u hu => ?_⟩
  · rw [← hc, own_cn hi]; simp [Cell.setSlot]
  · rcases List.mem_or_eq_of_mem_set hu with u1 | u1
    · exact hf u u1
    · exact u1 ▸ hv
theorem oGo.newP {aty : ArrayType} {nn : Int32} {len : Nat} {ad : String} (cap : Nat) (hd : decode bytes pc = .ok (.newarray aty, 2)) (hq : pc + 2 = q) (w : (Cond.arrayClass (newarray.typeOf aty)).before a0 Z = true) (hn : nn.toInt = (len : Int)) (hcap : len ≤ cap) (hb8 : cap * 8 ≤ 536870912) (hc : k + 1 ≤ R.cells) (hs : n + cap ≤ R.slots) (had : "[" ++ (newarray.typeOf aty).toString = ad)
    (K : ∀ h' a, a = h.size → Keep h h' [] → Ars Z h' a (newarray.typeOf aty) (List.replicate len (defaultValue (newarray.typeOf aty))) → Exa Z h' a ad → oGo Z own nm bytes ml ret R n0 Q (k + 1) (n + cap) h' q L (.ref a :: S)) : oGo Z own nm bytes ml ret R n0 Q k n h pc L (.int nn :: S) :=
  fun p l e s m args below meth c T locs Cx X eT N => by
    obtain ⟨hx, hZ, hby, hml, hown, hrt, hlk, hnm⟩ := Cx
    subst hq
    have h0 : ¬ nn < 0 := fun u => by have := Int32.lt_iff_toInt_lt.mp u; have e0 : (0 : Int32).toInt = 0 := rfl; omega
    obtain ⟨T', h', cA, X', e', E, A, EA, st⟩ := Jvm.RoadKit.newPE X hx hZ w eT (g := mkF m pc L (.int nn :: S)) rfl (hb hby hd) rfl h0 (cap := cap) (by rw [own_cn hn]; exact hcap) hb8 hc hs had
    obtain ⟨s₂, o, h1, r⟩ := K h' h.size rfl (own_keep E) ⟨_, A, by simp [newA, own_cn hn], fun v hv => by rw [(List.mem_replicate.mp hv).2]; cases aty <;> rfl⟩ EA p l e s m args below meth c T' locs ⟨hx, hZ, hby, hml, hown, hrt, hlk, hnm⟩ X' e' N
    exact ⟨s₂, o, st _ h1, r⟩
theorem oGo.cast {i : Nat} {C : String} {a : Addr} (hd : decode bytes pc = .ok (.checkcast i, 3)) (hq : pc + 3 = q) (w : (Cond.classLink own i C).before a0 Z = true) (F : Ins Z h a C true) (K : oGo Z own nm bytes ml ret R n0 Q k n h q L (.ref a :: S)) : oGo Z own nm bytes ml ret R n0 Q k n h pc L (.ref a :: S) :=
  fun p l e s m args below meth c T locs Cx X eT N => by
    obtain ⟨hx, hZ, hby, hml, hown, hrt, hlk, hnm⟩ := Cx
    subst hq
    obtain ⟨T', X', e', st⟩ := Jvm.RoadKit.castY X hx hZ hown w eT F (g := mkF m pc L (.ref a :: S)) rfl rfl (hb hby hd)
    obtain ⟨s₂, o, h1, r⟩ := K p l e s m args below meth c T' locs ⟨hx, hZ, hby, hml, hown, hrt, hlk, hnm⟩ X' e' N
    exact ⟨s₂, o, st _ h1, r⟩
theorem oGo.arraylength {a : Addr} {ty : FieldType} {vs : List Value} {v : Int32} (hd : decode bytes pc = .ok (.arraylength, 1)) (hq : pc + 1 = q) (A : Ars Z h a ty vs) (hv : Int32.ofNat vs.length = v) (K : oGo Z own nm bytes ml ret R n0 Q k n h q L (.int v :: S)) : oGo Z own nm bytes ml ret R n0 Q k n h pc L (.ref a :: S) :=
  fun p l e s m args below meth c T locs Cx X eT N => by
    obtain ⟨hx, hZ, hby, hml, hown, hrt, hlk, hnm⟩ := Cx
    subst hq
    obtain ⟨cl, A, hc, -⟩ := A
    have e1 : cl.slots.size.toInt32 = v := by rw [← hv, ← hc, Array.length_toList]
    obtain ⟨s₂, o, h1, r⟩ := K p l e s m args below meth c T locs ⟨hx, hZ, hby, hml, hown, hrt, hlk, hnm⟩ X eT N
    exact ⟨s₂, o, X.arraylength hx (by rw [eT]; exact A.1) (State.isArrayOf_alike hZ.alike A.2.1) (g := mkF m pc L (.ref a :: S)) rfl rfl (hb hby hd) _ (by rw [e1]; exact h1), r⟩
theorem oGo.iaload {a : Addr} {j : Int32} {i : Nat} {vs : List Value} {v : Value} (hd : decode bytes pc = .ok (.iaload, 1)) (hq : pc + 1 = q) (A : Ars Z h a .int vs) (hi : j.toInt = (i : Int)) (hv : vs[i]? = some v) (K : oGo Z own nm bytes ml ret R n0 Q k n h q L (v :: S)) : oGo Z own nm bytes ml ret R n0 Q k n h pc L (.int j :: .ref a :: S) :=
  fun p l e s m args below meth c T locs Cx X eT N => by
    obtain ⟨hx, hZ, hby, hml, hown, hrt, hlk, hnm⟩ := Cx
    subst hq
    obtain ⟨cl, A, hc, -⟩ := A
    obtain ⟨s₂, o, h1, r⟩ := K p l e s m args below meth c T locs ⟨hx, hZ, hby, hml, hown, hrt, hlk, hnm⟩ X eT N
    exact ⟨s₂, o, X.iaload hx (by rw [eT]; exact A.1) (State.isArrayOf_alike hZ.alike A.2.1) A.2.2 (own_in hi hc (List.getElem?_eq_some_iff.mp hv).1) (own_at hi hc hv) (g := mkF m pc L (.int j :: .ref a :: S)) rfl rfl (hb hby hd) _ h1, r⟩
theorem oGo.laload {a : Addr} {j : Int32} {i : Nat} {vs : List Value} {v : Value} (hd : decode bytes pc = .ok (.laload, 1)) (hq : pc + 1 = q) (A : Ars Z h a .long vs) (hi : j.toInt = (i : Int)) (hv : vs[i]? = some v) (K : oGo Z own nm bytes ml ret R n0 Q k n h q L (v :: S)) : oGo Z own nm bytes ml ret R n0 Q k n h pc L (.int j :: .ref a :: S) :=
  fun p l e s m args below meth c T locs Cx X eT N => by
    obtain ⟨hx, hZ, hby, hml, hown, hrt, hlk, hnm⟩ := Cx
    subst hq
    obtain ⟨cl, A, hc, -⟩ := A
    obtain ⟨s₂, o, h1, r⟩ := K p l e s m args below meth c T locs ⟨hx, hZ, hby, hml, hown, hrt, hlk, hnm⟩ X eT N
    exact ⟨s₂, o, X.laload hx (by rw [eT]; exact A.1) (State.isArrayOf_alike hZ.alike A.2.1) A.2.2 (own_in hi hc (List.getElem?_eq_some_iff.mp hv).1) (own_at hi hc hv) (g := mkF m pc L (.int j :: .ref a :: S)) rfl rfl (hb hby hd) _ h1, r⟩
theorem oGo.baload {a : Addr} {j : Int32} {i : Nat} {vs : List Value} {v : Value} (hd : decode bytes pc = .ok (.baload, 1)) (hq : pc + 1 = q) (A : Ars Z h a .byte vs) (hi : j.toInt = (i : Int)) (hv : vs[i]? = some v) (K : oGo Z own nm bytes ml ret R n0 Q k n h q L (v :: S)) : oGo Z own nm bytes ml ret R n0 Q k n h pc L (.int j :: .ref a :: S) :=
  fun p l e s m args below meth c T locs Cx X eT N => by
    obtain ⟨hx, hZ, hby, hml, hown, hrt, hlk, hnm⟩ := Cx
    subst hq
    obtain ⟨cl, A, hc, -⟩ := A
    obtain ⟨s₂, o, h1, r⟩ := K p l e s m args below meth c T locs ⟨hx, hZ, hby, hml, hown, hrt, hlk, hnm⟩ X eT N
    exact ⟨s₂, o, X.baloadBytes hx (by rw [eT]; exact A.1) (State.isArrayOf_alike hZ.alike A.2.1) A.2.2 (own_in hi hc (List.getElem?_eq_some_iff.mp hv).1) (own_at hi hc hv) (g := mkF m pc L (.int j :: .ref a :: S)) rfl rfl (hb hby hd) _ h1, r⟩
theorem oGo.iastore {a : Addr} {j : Int32} {x : Int32} {i : Nat} {vs : List Value} (hd : decode bytes pc = .ok (.iastore, 1)) (hq : pc + 1 = q) (A : Ars Z h a .int vs) (hi : j.toInt = (i : Int)) (hl : i < vs.length) (ha : n0 ≤ a) (K : ∀ h', Keep h h' [a] → Ars Z h' a .int (vs.set i (.int x)) → oGo Z own nm bytes ml ret R n0 Q k n h' q L S) : oGo Z own nm bytes ml ret R n0 Q k n h pc L (.int x :: .int j :: .ref a :: S) :=
  fun p l e s m args below meth c T locs Cx X eT N => by
    obtain ⟨hx, hZ, hby, hml, hown, hrt, hlk, hnm⟩ := Cx
    subst hq
    obtain ⟨cl, A, hc, hf⟩ := A
    obtain ⟨T', h', X', e', W, st⟩ := Jvm.RoadKit.stI X hx hZ eT A (own_in hi hc hl) (g := mkF m pc L (.int x :: .int j :: .ref a :: S)) rfl rfl (hb hby hd)
    obtain ⟨s₂, o, h1, r⟩ := K h' (Keep.of_wr W) (Ars.wr hi A hc hf rfl W) p l e s m args below meth c T' _ ⟨hx, hZ, hby, hml, hown, hrt, hlk, hnm⟩ X' e' (Fr.snoc X' N ha)
    exact ⟨s₂, o, st _ h1, r⟩
theorem oGo.lastore {a : Addr} {j : Int32} {x : Int64} {i : Nat} {vs : List Value} (hd : decode bytes pc = .ok (.lastore, 1)) (hq : pc + 1 = q) (A : Ars Z h a .long vs) (hi : j.toInt = (i : Int)) (hl : i < vs.length) (ha : n0 ≤ a) (K : ∀ h', Keep h h' [a] → Ars Z h' a .long (vs.set i (.long x)) → oGo Z own nm bytes ml ret R n0 Q k n h' q L S) : oGo Z own nm bytes ml ret R n0 Q k n h pc L (.long x :: .int j :: .ref a :: S) :=
  fun p l e s m args below meth c T locs Cx X eT N => by
    obtain ⟨hx, hZ, hby, hml, hown, hrt, hlk, hnm⟩ := Cx
    subst hq
    obtain ⟨cl, A, hc, hf⟩ := A
    obtain ⟨T', h', X', e', W, st⟩ := Jvm.RoadKit.stJ X hx hZ eT A (own_in hi hc hl) (g := mkF m pc L (.long x :: .int j :: .ref a :: S)) rfl rfl (hb hby hd)
    obtain ⟨s₂, o, h1, r⟩ := K h' (Keep.of_wr W) (Ars.wr hi A hc hf rfl W) p l e s m args below meth c T' _ ⟨hx, hZ, hby, hml, hown, hrt, hlk, hnm⟩ X' e' (Fr.snoc X' N ha)
    exact ⟨s₂, o, st _ h1, r⟩
theorem oGo.bastore {a : Addr} {j x y : Int32} {i : Nat} {vs : List Value} (hd : decode bytes pc = .ok (.bastore, 1)) (hq : pc + 1 = q) (A : Ars Z h a .byte vs) (hi : j.toInt = (i : Int)) (hl : i < vs.length) (ha : n0 ≤ a) (hy : x.toInt8.toInt32 = y) (K : ∀ h', Keep h h' [a] → Ars Z h' a .byte (vs.set i (.int y)) → oGo Z own nm bytes ml ret R n0 Q k n h' q L S) : oGo Z own nm bytes ml ret R n0 Q k n h pc L (.int x :: .int j :: .ref a :: S) :=
  fun p l e s m args below meth c T locs Cx X eT N => by
    obtain ⟨hx, hZ, hby, hml, hown, hrt, hlk, hnm⟩ := Cx
    subst hq hy
    obtain ⟨cl, A, hc, hf⟩ := A
    obtain ⟨T', h', X', e', W, st⟩ := Jvm.RoadKit.stB X hx hZ eT A (own_in hi hc hl) (g := mkF m pc L (.int x :: .int j :: .ref a :: S)) rfl rfl (hb hby hd)
    obtain ⟨s₂, o, h1, r⟩ := K h' (Keep.of_wr W) (Ars.wr hi A hc hf (fits_nar_byte x) W) p l e s m args below meth c T' _ ⟨hx, hZ, hby, hml, hown, hrt, hlk, hnm⟩ X' e' (Fr.snoc X' N ha)
    exact ⟨s₂, o, st _ h1, r⟩
/-! small numbers -/
theorem own_oi {i : Nat} (hi : i < 2147483648) : (Int32.ofNat i).toInt = (i : Int) := Int32.toInt_ofNat_of_lt (by omega)
theorem own_oinc (i : Nat) : Int32.ofNat i + Int32.ofInt 1 = Int32.ofNat (i + 1) := (Int32.ofNat_add i 1).symm
theorem own_oadd {i m : Nat} {c : Int32} (hc : c = Int32.ofNat m) : Int32.ofNat i + c = Int32.ofNat (i + m) := by rw [hc]; exact (Int32.ofNat_add i m).symm
theorem own_oiadd {i m : Nat} {c : Int32} (hc : c = Int32.ofNat m) (h : i + m < 2147483648) : (Int32.ofNat i + c).toInt = ((i + m : Nat) : Int) := by rw [own_oadd hc]; exact own_oi h
theorem own_pred {i : Nat} (hi : i < 2147483647) : (Int32.ofNat (i + 1) - (1 : Int32)).toInt = (i : Int) := by
  have a := c_isub (Int32.ofNat (i + 1)) 1
  have e := own_oi (i := i + 1) (by omega)
  have z : (1 : Int32).toInt = 1 := by decide
  have r := rng32 (Int32.ofNat (i + 1) - 1)
  omega
theorem own_bb (x : Int32) : x.toInt8.toInt32.toInt8.toInt32 = x.toInt8.toInt32 := by
  apply Int32.toInt_inj.mp
  have h1 := c_i2b x
  have h2 := c_i2b x.toInt8.toInt32
  omega
def own_ints (vs : List Value) (n : Nat) : Prop := vs.length = n ∧ ∀ k, k < n → ∃ x : Int32, vs[k]? = some (.int x)
theorem own_ints.set {vs : List Value} {n i : Nat} {x : Int32} (u : own_ints vs n) : own_ints (vs.set i (.int x)) n := by
  refine ⟨by rw [List.length_set]; exact u.1, fun k hk => ?_⟩
  by_cases e : i = k
  · subst e; exact ⟨x, List.getElem?_set_self (by rw [u.1]; exact hk)⟩
  · rw [List.getElem?_set_ne e]; exact u.2 k hk
theorem own_irem (x y : Int32) (hx : 0 ≤ x.toInt) : (x % y).toInt = x.toInt % y.toInt := by rw [Int32.toInt_mod]; exact (tr _ _).1 hx
theorem own_lrem (x y : Int64) (hx : 0 ≤ x.toInt) : (x % y).toInt = x.toInt % y.toInt := by rw [Int64.toInt_mod]; exact (tr _ _).1 hx
theorem own_int32 {x y : Int32} (e : x.toInt = y.toInt) : x = y := Int32.toInt_inj.mp e
theorem own_int64 {x y : Int64} (e : x.toInt = y.toInt) : x = y := Int64.toInt_inj.mp e
theorem own_nat {x : Int32} {i : Nat} (e : x.toInt = (i : Int)) (hi : i < 2147483648) : x = Int32.ofNat i := own_int32 (e.trans (own_oi hi).symm)
/-! System.arraycopy -/
theorem Ars.arv {a : Addr} {ty : FieldType} {vs : List Value} (dv : Value) (A : Ars Z h a ty vs) (hl : vs.length < 2147483648) : ∃ k, Arv Z h a k ty (Int32.ofNat vs.length) vs dv := by
  obtain ⟨c, A, hc, hf⟩ := A
  have e1 : c.slots.size = vs.length := by rw [← hc, Array.length_toList]
  have e2 : (Int32.ofNat vs.length).toNatClampNeg = vs.length := own_cn (own_oi hl)
  refine ⟨c.cls, c, A, rfl, by rw [e1, e2], fun u => ?_, fun k hk => ?_, fun i hi => ?_⟩
  · have := Int32.lt_iff_toInt_lt.mp u
    have e0 : (0 : Int32).toInt = 0 := rfl
    rw [own_oi hl] at this
    omega
  · rw [e1] at hk
    rw [← Array.getElem?_toList, hc, List.getD_eq_getElem?_getD, List.getElem?_eq_getElem hk]
    rfl
  · rw [e1] at hi
    rw [List.getD_eq_getElem?_getD, List.getElem?_eq_getElem hi]
    exact hf _ (List.getElem_mem hi)
theorem Ars.of_arv {a : Addr} {ty : FieldType} {vs : List Value} {dv : Value} {z : Int32} {k : ClassId} (A : Arv Z h a k ty z vs dv) (hz : z.toNatClampNeg = vs.length) : Ars Z h a ty vs := by
  obtain ⟨c, A, -, e1, -, H, F⟩ := A
  rw [hz] at e1
  refine ⟨c, A, List.ext_getElem? fun i => ?_, fun v hv => ?_⟩
  · rw [Array.getElem?_toList]
    by_cases u : i < vs.length
    · rw [H i (by rw [e1]; exact u), List.getD_eq_getElem?_getD, List.getElem?_eq_getElem u]; rfl
    · rw [List.getElem?_eq_none (by omega), Array.getElem?_eq_none (by omega)]
  · obtain ⟨i, hi, rfl⟩ := List.mem_iff_getElem.mp hv
    have := F i (by rw [e1]; exact hi)
    rwa [List.getD_eq_getElem?_getD, List.getElem?_eq_getElem hi] at this
theorem own_us {vs : List Value} {si len : Nat} {dv : Value} (hl : si + len ≤ vs.length) : (vs.drop si).take len = (List.range len).map fun i => vs.getD (si + i) dv := by
  apply List.ext_getElem
  · simp; omega
  · intro i h1 h2
    simp only [List.length_map, List.length_range] at h2
    simp [List.getD_eq_getElem?_getD, List.getElem?_eq_getElem (show si + i < vs.length by omega)]
theorem own_nn {j : Int32} {i : Nat} (hi : j.toInt = (i : Int)) : ¬ j < 0 := fun u => by
  have := Int32.lt_iff_toInt_lt.mp u
  have e0 : (0 : Int32).toInt = 0 := rfl
  omega
theorem oGo.acopy {i W : Nat} {a b : Addr} {ty : FieldType} {vs vd : List Value} {sp dp nn : Int32} {si di len : Nat} (hd : decode bytes pc = .ok (.invokestatic i, 3)) (hq : pc + 3 = q)
    (w1 : (Cond.methodLink own i Jvm.Stand.acN).before a0 Z = true) (w2 : (Cond.native Jvm.Stand.acN).before a0 Z = true) (w3 : (Cond.static Jvm.Stand.acN).before a0 Z = true) (w4 : (Cond.initialized "java/lang/System").before a0 Z = true)
    (A : Ars Z h a ty vs) (B : Ars Z h b ty vd) (hty : refKind ty = false) (h1 : sp.toInt = (si : Int)) (h2 : dp.toInt = (di : Int)) (h3 : nn.toInt = (len : Int)) (h4 : si + len ≤ vs.length) (h5 : di + len ≤ vd.length) (l1 : vs.length < 2147483648) (l2 : vd.length < 2147483648) (ge : n0 ≤ b) (hL : L.size = ml) (hf : 1 ≤ R.frames) (hW : 2 * 0 + (S.map fun v => v.category).sum ≤ W) (hlo : W + (nativeFrameWords "java/lang/System" "arraycopy" 5 + 11) ≤ R.locals)
    (K : ∀ h', Keep h h' [b] → Ars Z h' b ty (vd.take di ++ (vs.drop si).take len ++ vd.drop (di + len)) → oGo Z own nm bytes ml ret R n0 Q k n h' q L S) : oGo Z own nm bytes ml ret R n0 Q k n h pc L (.int nn :: .int dp :: .ref b :: .int sp :: .ref a :: S) :=
  fun p l e s m args below meth c T locs Cx X eT N => by
    obtain ⟨hx, hZ, hby, hml, hown, hrt, hlk, hnm⟩ := Cx
    subst hq
    obtain ⟨k1, A'⟩ := A.arv .null l1
    obtain ⟨k2, B'⟩ := B.arv .null l2
    have c1 := own_cn h1
    have c2 := own_cn h2
    have c3 := own_cn h3
    have e1 := own_cn (own_oi l1)
    have e2 := own_cn (own_oi l2)
    obtain ⟨T', h', L', X', e', N', K', B'', st⟩ := cpA X hx hZ hown w1 w2 w3 w4 eT A' B' (Or.inl ⟨rfl, hty⟩) (own_nn h1) (own_nn h2) (own_nn h3) (by rw [c1, c3, e1]; exact h4) (by rw [c2, c3, e2]; exact h5) rfl (by rw [c2, c3]; exact h5) N ge (g := mkF m pc L (.int nn :: .int dp :: .ref b :: .int sp :: .ref a :: S)) rfl (by rw [hml]; exact hL) rfl (hb hby hd) hf hW hlo
    rw [c1, c2, c3, ← own_us h4] at B''
    obtain ⟨s₂, o, g1, r⟩ := K h' K' (Ars.of_arv B'' (by rw [e2]; simp only [List.length_append, List.length_take, List.length_drop]; omega)) p l e s m args below meth c T' L' ⟨hx, hZ, hby, hml, hown, hrt, hlk, hnm⟩ X' e' N'
    exact ⟨s₂, o, st _ g1, r⟩
theorem oGo.clone {i W : Nat} {ad : String} {a : Addr} {ty : FieldType} {vs : List Value} (cap : Nat) (hd : decode bytes pc = .ok (.invokevirtual i, 3)) (hq : pc + 3 = q)
    (w1 : (Cond.methodLink own i ⟨ad, "clone", "()Ljava/lang/Object;"⟩).before a0 Z = true) (w2 : (Cond.sameMethod ad "java/lang/Object" "clone" "()Ljava/lang/Object;").before a0 Z = true) (w3 : (Cond.native ⟨"java/lang/Object", "clone", "()Ljava/lang/Object;"⟩).before a0 Z = true)
    (w4 : (Cond.instanceMethod ⟨"java/lang/Object", "clone", "()Ljava/lang/Object;"⟩).before a0 Z = true) (w5 : (Cond.selects ad ⟨ad, "clone", "()Ljava/lang/Object;"⟩ ⟨"java/lang/Object", "clone", "()Ljava/lang/Object;"⟩).before a0 Z = true) (w6 : (Cond.castable ad "java/lang/Cloneable").before a0 Z = true)
    (A : Ars Z h a ty vs) (E : Exa Z h a ad) (hl : vs.length < 2147483648) (hcap : vs.length ≤ cap) (hL : L.size = ml) (hf : 1 ≤ R.frames) (hW : 2 * 0 + (S.map fun v => v.category).sum ≤ W) (hlo : W + 14 ≤ R.locals) (hc : k + 1 ≤ R.cells) (hs : n + cap ≤ R.slots)
    (K : ∀ h' b, b = h.size → Keep h h' [] → Ars Z h' b ty vs → Exa Z h' b ad → oGo Z own nm bytes ml ret R n0 Q (k + 1) (n + cap) h' q L (.ref b :: S)) : oGo Z own nm bytes ml ret R n0 Q k n h pc L (.ref a :: S) :=
  fun p l e s m args below meth c T locs Cx X eT N => by
    obtain ⟨hx, hZ, hby, hml, hown, hrt, hlk, hnm⟩ := Cx
    subst hq
    obtain ⟨k1, A'⟩ := A.arv .null hl
    have e1 := own_cn (own_oi hl)
    obtain ⟨T', h', X', e', Ex, B', EB, st⟩ := cloneH X hx hZ hown w1 w2 w3 w4 w5 w6 eT A'.arh E (g := mkF m pc L (.ref a :: S)) rfl (by rw [hml]; exact hL) rfl (hb hby hd) hf hW hlo (cap := cap) (by rw [e1]; exact hcap) hc hs
    obtain ⟨s₂, o, g1, r⟩ := K h' h.size rfl (own_keep Ex) (Ars.of_arv (show Arv Z h' h.size k1 ty (Int32.ofNat vs.length) vs .null from B') e1) EB p l e s m args below meth c T' locs ⟨hx, hZ, hby, hml, hown, hrt, hlk, hnm⟩ X' e' N
    exact ⟨s₂, o, st _ g1, r⟩
theorem oGo.callP {y : MethodName} {i W kk : Nat} {bytes' : ByteArray} {ml' : Nat} {ret' : Option FieldType} {rm : Room} {as : Array Value} {Q' : Option Value → Heap → Prop} {ps : List FieldType} {rt : Option FieldType} {a : Addr} {C : String} (argsL rest : List Value) (hd : decode bytes pc = .ok (.invokevirtual i, 3)) (hq : pc + 3 = q)
    (w1 : (Cond.methodLink own i y).before a0 Z = true) (w2 : (Cond.instanceMethod y).before a0 Z = true) (wp : (Cond.privateMethod y).before a0 Z = true) (wi : (Cond.instantiable y.cls kk).before a0 Z = true) (w3 : (Cond.initialized y.cls).before a0 Z = true) (w4 : (Cond.code y bytes' ml' ret').before a0 Z = true) (hy : y.cls ≠ "java/lang/invoke/MethodHandle" ∧ y.cls ≠ "java/lang/invoke/VarHandle") (E : Exa Z h a C)
    (hC : oCon Z y bytes' ml' ret' rm as h n0 Q') (hS : S = argsL.reverse ++ .ref a :: rest) (has : (.ref a :: argsL).toArray = as) (hpd : parseMethodDescriptor y.desc = some ⟨ps, rt⟩) (hlen : argsL.length = ps.length) (hL : L.size = ml) (hW : 2 * 0 + (rest.map fun v => v.category).sum ≤ W) (hf : rm.frames + 1 ≤ R.frames) (hl : W + (ml' + 11) + rm.locals ≤ R.locals) (hc : k + rm.cells ≤ R.cells) (hs : n + rm.slots ≤ R.slots)
    (K : ∀ v h', Q' v h' → oGo Z own nm bytes ml ret R n0 Q (k + rm.cells) (n + rm.slots) h' q L (v.toList ++ rest)) : oGo Z own nm bytes ml ret R n0 Q k n h pc L S :=
  fun p l e s m args below meth c T locs Cx X eT N => by
    obtain ⟨hx, hZ, hby, hml, hown, hrt, hlk, hnm⟩ := Cx
    subst hq
    obtain ⟨cq, q1, q2⟩ := E.cell
    have hpr := Cond.privateMethod_at (mvP hZ wp (args := #[]))
    have hin : (Cond.instanceMethod y).before args s = true := mvT hZ w2
    obtain ⟨ci, ki, i1, i2, -, i4, -, -⟩ := Cond.instantiable_spec (show (Cond.instantiable y.cls kk).before args s = true from mvT hZ wi)
    have hsel := selects_self_of_private (args := args) i1 i2 (by simp only [Bool.or_eq_false_iff] at i4; exact i4.1) hpr hin hy
    obtain ⟨v, _, ⟨T', L2, k2, n2⟩, -, X', ⟨Lc, hQ', l', y', z'⟩, st⟩ := X.privateBack hx (y := y) hown (mvT hZ w1) hin hsel hpr (mvT hZ w4) hy (backOf (W := W) (Q := fun v h' L => Q' v h' ∧ Fr n0 L) (hC l []) hZ w4 w3 hf hl) (g := mkF m pc L S) rfl (by rw [hml]; exact hL) (Steps.refl _) (a := a) (by rw [eT]; exact q1) q2 (argsL := argsL) (rest := rest) (lenOf hpd hlen) hS hW (hb hby hd) (fun _ _ => ⟨has, eT, hc, hs⟩)
    dsimp only [Pt.U, Pt.locs, Pt.cells, Pt.slots] at X' l' y' z' st hQ'
    subst l' y' z'
    obtain ⟨s₂, o, h1, r⟩ := K v T'.heap hQ'.1 p l e s m args below meth c T' _ ⟨hx, hZ, hby, hml, hown, hrt, hlk, hnm⟩ X' rfl (Fr.app N hQ'.2)
    exact ⟨s₂, o, st.trans h1, r⟩
/-! booleans -/
def own_b (b : Int32) (P : Prop) : Prop := (b = 1 ∧ P) ∨ (b = 0 ∧ ¬ P)
theorem own_b.t {P : Prop} (hp : P) : own_b 1 P := Or.inl ⟨rfl, hp⟩
theorem own_b.f {P : Prop} (hp : ¬ P) : own_b 0 P := Or.inr ⟨rfl, hp⟩
theorem own_b.z {b : Int32} {P : Prop} (u : own_b b P) (hb : b = 0) : ¬ P := by
  rcases u with ⟨rfl, _⟩ | ⟨_, u⟩
  · exact absurd hb (by decide)
  · exact u
theorem own_b.nz {b : Int32} {P : Prop} (u : own_b b P) (hb : b ≠ 0) : P := by
  rcases u with ⟨_, u⟩ | ⟨rfl, _⟩
  · exact u
  · exact absurd rfl hb
theorem own_b.nar {b : Int32} {P : Prop} (u : own_b b P) : nar .boolean b = b := by
  rcases u with ⟨rfl, _⟩ | ⟨rfl, _⟩ <;> rfl
theorem own_b.eq {b c : Int32} {P P' : Prop} (u : own_b b P) (v : own_b c P') (hp : P ↔ P') : b = c := by
  rcases u with ⟨rfl, u⟩ | ⟨rfl, u⟩ <;> rcases v with ⟨rfl, v⟩ | ⟨rfl, v⟩
  · rfl
  · exact absurd (hp.mp u) v
  · exact absurd (hp.mpr v) u
  · rfl
theorem own_b.is0 {b : Int32} {P : Prop} (u : own_b b P) (hp : ¬ P) : b = 0 := u.elim (fun z => absurd z.2 hp) (fun z => z.1)
theorem own_b.is1 {b : Int32} {P : Prop} (u : own_b b P) (hp : P) : b = 1 := u.elim (fun z => z.1) (fun z => absurd hp z.2)
theorem own_b.iff {b : Int32} {P P' : Prop} (u : own_b b P) (hp : P ↔ P') : own_b b P' := u.imp (fun z => ⟨z.1, hp.mp z.2⟩) (fun z => ⟨z.1, fun y => z.2 (hp.mpr y)⟩)
end Own
theorem d1_0 : decode jdk_29_method_70_code 0 = .ok (.lload_n 0, 1) := by decide +kernel
theorem d1_1 : decode jdk_29_method_70_code 1 = .ok (.lload_n 2, 1) := by decide +kernel
theorem d1_2 : decode jdk_29_method_70_code 2 = .ok (.lcmp, 1) := by decide +kernel
theorem d1_3 : decode jdk_29_method_70_code 3 = .ok (.ifCond .gt 7, 3) := by decide +kernel
theorem d1_6 : decode jdk_29_method_70_code 6 = .ok (.lload_n 0, 1) := by decide +kernel
theorem d1_7 : decode jdk_29_method_70_code 7 = .ok (.goto 4, 3) := by decide +kernel
theorem d1_10 : decode jdk_29_method_70_code 10 = .ok (.lload_n 2, 1) := by decide +kernel
theorem d1_11 : decode jdk_29_method_70_code 11 = .ok (.lreturn, 1) := by decide +kernel
theorem own_pd0 : parseMethodDescriptor "(JJ)J" = some ⟨[.long, .long], some .long⟩ := by decide +kernel
theorem d2_0 : decode jdk_29_method_66_code 0 = .ok (.lload_n 0, 1) := by decide +kernel
theorem d2_1 : decode jdk_29_method_66_code 1 = .ok (.lload_n 2, 1) := by decide +kernel
theorem d2_2 : decode jdk_29_method_66_code 2 = .ok (.lcmp, 1) := by decide +kernel
theorem d2_3 : decode jdk_29_method_66_code 3 = .ok (.ifCond .lt 7, 3) := by decide +kernel
theorem d2_6 : decode jdk_29_method_66_code 6 = .ok (.lload_n 0, 1) := by decide +kernel
theorem d2_7 : decode jdk_29_method_66_code 7 = .ok (.goto 4, 3) := by decide +kernel
theorem d2_10 : decode jdk_29_method_66_code 10 = .ok (.lload_n 2, 1) := by decide +kernel
theorem d2_11 : decode jdk_29_method_66_code 11 = .ok (.lreturn, 1) := by decide +kernel
theorem d3_0 : decode prog_54_method_1_code 0 = .ok (.aload_n 0, 1) := by decide +kernel
theorem d3_1 : decode prog_54_method_1_code 1 = .ok (.invokespecial 1, 3) := by decide +kernel
theorem d3_4 : decode prog_54_method_1_code 4 = .ok (.aload_n 0, 1) := by decide +kernel
theorem d3_5 : decode prog_54_method_1_code 5 = .ok (.bipush 8, 2) := by decide +kernel
theorem d3_7 : decode prog_54_method_1_code 7 = .ok (.newarray .long, 2) := by decide +kernel
theorem d3_9 : decode prog_54_method_1_code 9 = .ok (.putfield 7, 3) := by decide +kernel
theorem d3_12 : decode prog_54_method_1_code 12 = .ok (.return_, 1) := by decide +kernel
theorem own_pd1 : parseMethodDescriptor "()V" = some ⟨[], none⟩ := by decide +kernel
theorem d5_0 : decode prog_54_method_10_code 0 = .ok (.aload_n 0, 1) := by decide +kernel
theorem d5_1 : decode prog_54_method_10_code 1 = .ok (.getfield 15, 3) := by decide +kernel
theorem d5_4 : decode prog_54_method_10_code 4 = .ok (.aload_n 0, 1) := by decide +kernel
theorem d5_5 : decode prog_54_method_10_code 5 = .ok (.getfield 7, 3) := by decide +kernel
theorem d5_8 : decode prog_54_method_10_code 8 = .ok (.arraylength, 1) := by decide +kernel
theorem d5_9 : decode prog_54_method_10_code 9 = .ok (.if_icmp .ne 20, 3) := by decide +kernel
theorem d5_12 : decode prog_54_method_10_code 12 = .ok (.aload_n 0, 1) := by decide +kernel
theorem d5_13 : decode prog_54_method_10_code 13 = .ok (.aload_n 0, 1) := by decide +kernel
theorem d5_14 : decode prog_54_method_10_code 14 = .ok (.getfield 7, 3) := by decide +kernel
theorem d5_17 : decode prog_54_method_10_code 17 = .ok (.iconst 2, 1) := by decide +kernel
theorem d5_18 : decode prog_54_method_10_code 18 = .ok (.aload_n 0, 1) := by decide +kernel
theorem d5_19 : decode prog_54_method_10_code 19 = .ok (.getfield 15, 3) := by decide +kernel
theorem d5_22 : decode prog_54_method_10_code 22 = .ok (.imul, 1) := by decide +kernel
theorem d5_23 : decode prog_54_method_10_code 23 = .ok (.invokestatic 34, 3) := by decide +kernel
theorem d5_26 : decode prog_54_method_10_code 26 = .ok (.putfield 7, 3) := by decide +kernel
theorem d5_29 : decode prog_54_method_10_code 29 = .ok (.aload_n 0, 1) := by decide +kernel
theorem d5_30 : decode prog_54_method_10_code 30 = .ok (.getfield 7, 3) := by decide +kernel
theorem d5_33 : decode prog_54_method_10_code 33 = .ok (.aload_n 0, 1) := by decide +kernel
theorem d5_34 : decode prog_54_method_10_code 34 = .ok (.dup, 1) := by decide +kernel
theorem d5_35 : decode prog_54_method_10_code 35 = .ok (.getfield 15, 3) := by decide +kernel
theorem d5_38 : decode prog_54_method_10_code 38 = .ok (.dup_x1, 1) := by decide +kernel
theorem d5_39 : decode prog_54_method_10_code 39 = .ok (.iconst 1, 1) := by decide +kernel
theorem d5_40 : decode prog_54_method_10_code 40 = .ok (.iadd, 1) := by decide +kernel
theorem d5_41 : decode prog_54_method_10_code 41 = .ok (.putfield 15, 3) := by decide +kernel
theorem d5_44 : decode prog_54_method_10_code 44 = .ok (.lload_n 1, 1) := by decide +kernel
theorem d5_45 : decode prog_54_method_10_code 45 = .ok (.lastore, 1) := by decide +kernel
theorem d5_46 : decode prog_54_method_10_code 46 = .ok (.return_, 1) := by decide +kernel
theorem own_pd2 : parseMethodDescriptor "(J)V" = some ⟨[.long], none⟩ := by decide +kernel
theorem d6_0 : decode prog_54_method_16_code 0 = .ok (.iconst 0, 1) := by decide +kernel
theorem d6_1 : decode prog_54_method_16_code 1 = .ok (.istore_n 3, 1) := by decide +kernel
theorem d6_2 : decode prog_54_method_16_code 2 = .ok (.aload_n 0, 1) := by decide +kernel
theorem d6_3 : decode prog_54_method_16_code 3 = .ok (.getfield 15, 3) := by decide +kernel
theorem d6_6 : decode prog_54_method_16_code 6 = .ok (.istore 4, 2) := by decide +kernel
theorem d6_8 : decode prog_54_method_16_code 8 = .ok (.iload_n 3, 1) := by decide +kernel
theorem d6_9 : decode prog_54_method_16_code 9 = .ok (.iload 4, 2) := by decide +kernel
theorem d6_11 : decode prog_54_method_16_code 11 = .ok (.if_icmp .ge 38, 3) := by decide +kernel
theorem d6_14 : decode prog_54_method_16_code 14 = .ok (.iload_n 3, 1) := by decide +kernel
theorem d6_15 : decode prog_54_method_16_code 15 = .ok (.iload 4, 2) := by decide +kernel
theorem d6_17 : decode prog_54_method_16_code 17 = .ok (.iadd, 1) := by decide +kernel
theorem d6_18 : decode prog_54_method_16_code 18 = .ok (.iconst 1, 1) := by decide +kernel
theorem d6_19 : decode prog_54_method_16_code 19 = .ok (.iushr, 1) := by decide +kernel
theorem d6_20 : decode prog_54_method_16_code 20 = .ok (.istore 5, 2) := by decide +kernel
theorem d6_22 : decode prog_54_method_16_code 22 = .ok (.aload_n 0, 1) := by decide +kernel
theorem d6_23 : decode prog_54_method_16_code 23 = .ok (.getfield 7, 3) := by decide +kernel
theorem d6_26 : decode prog_54_method_16_code 26 = .ok (.iload 5, 2) := by decide +kernel
theorem d6_28 : decode prog_54_method_16_code 28 = .ok (.laload, 1) := by decide +kernel
theorem d6_29 : decode prog_54_method_16_code 29 = .ok (.lload_n 1, 1) := by decide +kernel
theorem d6_30 : decode prog_54_method_16_code 30 = .ok (.lcmp, 1) := by decide +kernel
theorem d6_31 : decode prog_54_method_16_code 31 = .ok (.ifCond .gt 11, 3) := by decide +kernel
theorem d6_34 : decode prog_54_method_16_code 34 = .ok (.iload 5, 2) := by decide +kernel
theorem d6_36 : decode prog_54_method_16_code 36 = .ok (.iconst 1, 1) := by decide +kernel
theorem d6_37 : decode prog_54_method_16_code 37 = .ok (.iadd, 1) := by decide +kernel
theorem d6_38 : decode prog_54_method_16_code 38 = .ok (.istore_n 3, 1) := by decide +kernel
theorem d6_39 : decode prog_54_method_16_code 39 = .ok (.goto 7, 3) := by decide +kernel
theorem d6_42 : decode prog_54_method_16_code 42 = .ok (.iload 5, 2) := by decide +kernel
theorem d6_44 : decode prog_54_method_16_code 44 = .ok (.istore 4, 2) := by decide +kernel
theorem d6_46 : decode prog_54_method_16_code 46 = .ok (.goto (-38), 3) := by decide +kernel
theorem d6_49 : decode prog_54_method_16_code 49 = .ok (.iload_n 3, 1) := by decide +kernel
theorem d6_50 : decode prog_54_method_16_code 50 = .ok (.ireturn, 1) := by decide +kernel
theorem own_pd3 : parseMethodDescriptor "(J)I" = some ⟨[.long], some .int⟩ := by decide +kernel
def own_sl (Z : State) (h : Heap) (a : Addr) (v0 v1 : Value) : Prop := Exa Z h a "com/example/interlace/interlace/search/SpanList" ∧ Fld Z h a "com/example/interlace/interlace/search/SpanList" "spans" "[J" v0 ∧ Fld Z h a "com/example/interlace/interlace/search/SpanList" "size" "I" v1
theorem own_sl.lt {Z : State} {h : Heap} {a : Addr} {v0 v1 : Value} (O : own_sl Z h a v0 v1) : a < h.size := O.1.lt
theorem own_sl.keep {Z : State} {h h' : Heap} {ws : List Addr} {a : Addr} {v0 v1 : Value} (O : own_sl Z h a v0 v1) (K : Keep h h' ws) (q : a ∉ ws) : own_sl Z h' a v0 v1 := by
  obtain ⟨E, F0, F1⟩ := O; exact ⟨E.keep K, F0.keep K q, F1.keep K q⟩
theorem own_ef1 (m : MethodId) (x0 : Int64) (x1 : Int64) : entryFrame m #[(.long x0), (.long x1)] 4 = mkF m 0 #[.val (.long x0), .second, .val (.long x1), .second] [] := by first | (simp [entryFrame, mkF, argsToLocals, Value.category]; done) | rfl
theorem own_pn1 : plainFor (⟨"java/lang/Math", "min", "(JJ)J"⟩ : MethodName) = true := Jvm.Free.JP.mathPlain rfl (by decide +kernel)
set_option maxRecDepth 65536 in
set_option maxHeartbeats 40000000 in
theorem cmin {Z : State} {a0 : Array Value} (hw : ∀ d ∈ tables_1, d.before a0 Z = true) (u v : Int64) (h : Heap) (n0 : Nat) :
    oCon Z (⟨"java/lang/Math", "min", "(JJ)J"⟩ : MethodName) jdk_29_method_70_code 4 (some .long) ({ frames := 0, cells := 0, slots := 0, locals := 0 } : Room) #[(.long u), (.long v)] h n0 (fun r h' => (∃ z : Int64, r = some (.long z) ∧ z.toInt = min u.toInt v.toInt) ∧ h' = h) := by
  refine oCon.of own_pn1 (fun mid => own_ef1 mid u v) ?_
  show oGo Z _ _ _ _ _ _ n0 _ 0 0 h 0 #[.val (.long u), .second, .val (.long v), .second] []
  refine oGo.lloadN (q := 1) d1_0 rfl rfl ?_
  refine oGo.lloadN (q := 2) d1_1 rfl rfl ?_
  refine oGo.lif_gt (pc2 := 3) (q := 10) (r := 6) d1_2 rfl d1_3 (by decide) rfl (fun hc => ?_) (fun hc => ?_)
  · skip
    refine oGo.lloadN (q := 11) d1_10 rfl rfl ?_
    exact oGo.retJ d1_11 rfl (by decide) (by decide) (⟨⟨_, rfl, by omega⟩, rfl⟩)
  · skip
    refine oGo.lloadN (q := 7) d1_6 rfl rfl ?_
    refine oGo.goto (q := 11) d1_7 (by decide) ?_
    exact oGo.retJ d1_11 rfl (by decide) (by decide) (⟨⟨_, rfl, by omega⟩, rfl⟩)
theorem own_ef2 (m : MethodId) (x0 : Int64) (x1 : Int64) : entryFrame m #[(.long x0), (.long x1)] 4 = mkF m 0 #[.val (.long x0), .second, .val (.long x1), .second] [] := by first | (simp [entryFrame, mkF, argsToLocals, Value.category]; done) | rfl
theorem own_pn2 : plainFor (⟨"java/lang/Math", "max", "(JJ)J"⟩ : MethodName) = true := Jvm.Free.JP.mathPlain rfl (by decide +kernel)
set_option maxRecDepth 65536 in
set_option maxHeartbeats 40000000 in
theorem cmax {Z : State} {a0 : Array Value} (hw : ∀ d ∈ tables_1, d.before a0 Z = true) (u v : Int64) (h : Heap) (n0 : Nat) :
    oCon Z (⟨"java/lang/Math", "max", "(JJ)J"⟩ : MethodName) jdk_29_method_66_code 4 (some .long) ({ frames := 0, cells := 0, slots := 0, locals := 0 } : Room) #[(.long u), (.long v)] h n0 (fun r h' => (∃ z : Int64, r = some (.long z) ∧ z.toInt = max u.toInt v.toInt) ∧ h' = h) := by
  refine oCon.of own_pn2 (fun mid => own_ef2 mid u v) ?_
  show oGo Z _ _ _ _ _ _ n0 _ 0 0 h 0 #[.val (.long u), .second, .val (.long v), .second] []
  refine oGo.lloadN (q := 1) d2_0 rfl rfl ?_
  refine oGo.lloadN (q := 2) d2_1 rfl rfl ?_
  refine oGo.lif_lt (pc2 := 3) (q := 10) (r := 6) d2_2 rfl d2_3 (by decide) rfl (fun hc => ?_) (fun hc => ?_)
  · skip
    refine oGo.lloadN (q := 11) d2_10 rfl rfl ?_
    exact oGo.retJ d2_11 rfl (by decide) (by decide) (⟨⟨_, rfl, by omega⟩, rfl⟩)
  · skip
    refine oGo.lloadN (q := 7) d2_6 rfl rfl ?_
    refine oGo.goto (q := 11) d2_7 (by decide) ?_
    exact oGo.retJ d2_11 rfl (by decide) (by decide) (⟨⟨_, rfl, by omega⟩, rfl⟩)
theorem own_ef3 (m : MethodId) (x0 : Addr) : entryFrame m #[(.ref x0)] 1 = mkF m 0 #[.val (.ref x0)] [] := by first | (simp [entryFrame, mkF, argsToLocals, Value.category]; done) | rfl
theorem own_pn3 : plainFor (⟨"com/example/interlace/interlace/search/SpanList", "<init>", "()V"⟩ : MethodName) = true := plainFor_of_name (by first | (simp [plainName, overriddenIn]; done) | decide +kernel)
set_option maxRecDepth 65536 in
set_option maxHeartbeats 40000000 in
theorem ci {Z : State} {a0 : Array Value} (hw : ∀ d ∈ tables_1, d.before a0 Z = true) (l : Addr) (h : Heap) (n0 : Nat) (Z0 : n0 ≤ h.size) (gl : n0 ≤ l) (O : own_sl Z h l .null (.int 0)) :
    oCon Z (⟨"com/example/interlace/interlace/search/SpanList", "<init>", "()V"⟩ : MethodName) prog_54_method_1_code 1 none ({ frames := 1, cells := 1, slots := 8, locals := 14 } : Room) #[(.ref l)] h n0 (fun v h' => v = none ∧ ∃ a, h.size ≤ a ∧ Keep h h' [l] ∧ own_sl Z h' l (.ref a) (.int 0) ∧ Ars Z h' a .long [(.long (0 : Int64)), (.long (0 : Int64)), (.long (0 : Int64)), (.long (0 : Int64)), (.long (0 : Int64)), (.long (0 : Int64)), (.long (0 : Int64)), (.long (0 : Int64))]) := by
  refine oCon.of own_pn3 (fun mid => own_ef3 mid l) ?_
  show oGo Z _ _ _ _ _ _ n0 _ 0 0 h 0 #[.val (.ref l)] []
  obtain ⟨E1, F1_spans, F1_size⟩ := O
  refine oGo.aloadN (q := 1) d3_0 rfl rfl rfl ?_
  refine oGo.initO (W := 0) (q := 4) d3_1 rfl (hw _ (List.mem_of_getElem? (i := 14) rfl)) (hw _ (List.mem_of_getElem? (i := 15) rfl)) (hw _ (List.mem_of_getElem? (i := 16) rfl)) rfl (by decide) (Nat.le_of_eq rfl) (by decide) ?_
  refine oGo.aloadN (q := 5) d3_4 rfl rfl rfl ?_
  refine oGo.bipush (q := 7) (v := (8 : Int32)) d3_5 rfl rfl ?_
  refine oGo.newP (q := 9) (len := 8) 8 d3_7 rfl (hw _ (List.mem_of_getElem? (i := 17) rfl)) rfl (by first | decide | omega) (by decide) (by decide) (by decide) (ad := "[J") rfl ?_
  intro h2 a g2 K2 A2 E2
  have ne_l_a : l ≠ a := Nat.ne_of_lt (Nat.lt_of_lt_of_eq (E1.lt) g2.symm)
  have ge_a : n0 ≤ a := Nat.le_trans Z0 (Nat.le_of_eq g2.symm)
  have E1_ := Exa.keep E1 K2
  have F1_spans_ := Fld.keep F1_spans K2 nin0
  have F1_size_ := Fld.keep F1_size K2 nin0
  have Z0_ := Nat.le_trans Z0 K2.1
  replace A2 : Ars Z h2 a .long [(.long (0 : Int64)), (.long (0 : Int64)), (.long (0 : Int64)), (.long (0 : Int64)), (.long (0 : Int64)), (.long (0 : Int64)), (.long (0 : Int64)), (.long (0 : Int64))] := A2
  show oGo Z _ _ _ _ _ _ n0 _ 1 8 h2 9 #[.val (.ref l)] [(.ref a), (.ref l)]
  refine oGo.putF (host := "") (ty := (.array .long)) (q := 12) d3_9 rfl (Or.inl (hw _ (List.mem_of_getElem? (i := 18) rfl))) Via.refl F1_spans_ E1_ (Or.inl (hw _ (List.mem_of_getElem? (i := 19) rfl))) (hw _ (List.mem_of_getElem? (i := 9) rfl)) (by decide) rfl rfl gl ?_
  intro h3 K3 E3 F3 G3
  have F3_size := G3 (slot_ne (Or.inl (hw _ (List.mem_of_getElem? (i := 26) rfl))) (Or.inl (hw _ (List.mem_of_getElem? (i := 19) rfl))) (by decide) (t := .int) (t' := (.array .long)) (by decide) (by decide)) F1_size_
  have A2_ := Ars.keep A2 K3 (ninS (Ne.symm ne_l_a) nin0)
  have E2_ := Exa.keep E2 K3
  have Z0__ := Nat.le_trans Z0_ K3.1
  show oGo Z _ _ _ _ _ _ n0 _ 1 8 h3 12 #[.val (.ref l)] []
  exact oGo.retV d3_12 rfl (by decide) (by decide) (⟨rfl, a, Nat.le_of_eq g2.symm, Keep.trans ((Keep.refl h [l]).trans K2 (fun x hx => nomatch hx)) K3 (fun x hx => Or.inl hx), ⟨E3, F3, F3_size⟩, A2_⟩)
theorem own_ef5 (m : MethodId) (x0 : Addr) (x1 : Int64) : entryFrame m #[(.ref x0), (.long x1)] 3 = mkF m 0 #[.val (.ref x0), .val (.long x1), .second] [] := by first | (simp [entryFrame, mkF, argsToLocals, Value.category]; done) | rfl
theorem own_pn5 : plainFor (⟨"com/example/interlace/interlace/search/SpanList", "add", "(J)V"⟩ : MethodName) = true := plainFor_of_name (by first | (simp [plainName, overriddenIn]; done) | decide +kernel)
set_option maxRecDepth 65536 in
set_option maxHeartbeats 40000000 in
theorem ca {Z : State} {a0 : Array Value} (hw : ∀ d ∈ tables_1, d.before a0 Z = true) (l : Addr) (z : Int64) (a : Addr) (s s' : Int32) (i : Nat) (vs vs' : List Value) (h : Heap) (n0 : Nat) (gl : n0 ≤ l) (ga : n0 ≤ a) (hne : a ≠ l) (O : own_sl Z h l (.ref a) (.int s)) (A : Ars Z h a .long vs) (hs : s.toInt = (i : Int)) (hl : i < vs.length) (hlv : vs.length < 2147483648) (hs' : s + (1 : Int32) = s') (hv : vs.set i (.long z) = vs') :
    oCon Z (⟨"com/example/interlace/interlace/search/SpanList", "add", "(J)V"⟩ : MethodName) prog_54_method_10_code 3 none ({ frames := 0, cells := 0, slots := 0, locals := 0 } : Room) #[(.ref l), (.long z)] h n0 (fun v h' => v = none ∧ Keep h h' [l, a] ∧ own_sl Z h' l (.ref a) (.int s') ∧ Ars Z h' a .long vs') := by
  refine oCon.of own_pn5 (fun mid => own_ef5 mid l z) ?_
  show oGo Z _ _ _ _ _ _ n0 _ 0 0 h 0 #[.val (.ref l), .val (.long z), .second] []
  subst hs' hv
  have el := own_oi (i := vs.length) hlv
  obtain ⟨E4, F4_spans, F4_size⟩ := O
  refine oGo.aloadN (q := 1) d5_0 rfl rfl rfl ?_
  refine oGo.getF (host := "") (q := 4) (v := (.int s)) d5_1 rfl (Or.inl (hw _ (List.mem_of_getElem? (i := 25) rfl))) Via.refl F4_size ?_
  refine oGo.aloadN (q := 5) d5_4 rfl rfl rfl ?_
  refine oGo.getF (host := "") (q := 8) (v := (.ref a)) d5_5 rfl (Or.inl (hw _ (List.mem_of_getElem? (i := 18) rfl))) Via.refl F4_spans ?_
  refine oGo.arraylength (q := 9) (v := (Int32.ofNat vs.length)) d5_8 rfl A rfl ?_
  refine oGo.icmp_ne (q := 29) (r := 12) d5_9 (by decide) rfl (fun hc => ?_) (fun hc => absurd hc fun e => by have := congrArg Int32.toInt e; omega)
  refine oGo.aloadN (q := 30) d5_29 rfl rfl rfl ?_
  refine oGo.getF (host := "") (q := 33) (v := (.ref a)) d5_30 rfl (Or.inl (hw _ (List.mem_of_getElem? (i := 18) rfl))) Via.refl F4_spans ?_
  refine oGo.aloadN (q := 34) d5_33 rfl rfl rfl ?_
  refine oGo.dup (q := 35) d5_34 rfl rfl ?_
  refine oGo.getF (host := "") (q := 38) (v := (.int s)) d5_35 rfl (Or.inl (hw _ (List.mem_of_getElem? (i := 25) rfl))) Via.refl F4_size ?_
  refine oGo.dupX1 (q := 39) d5_38 rfl rfl rfl ?_
  refine oGo.iconst (q := 40) (v := (1 : Int32)) d5_39 rfl rfl ?_
  refine oGo.iadd (q := 41) d5_40 rfl ?_
  refine oGo.putF (host := "") (ty := .int) (q := 44) d5_41 rfl (Or.inl (hw _ (List.mem_of_getElem? (i := 25) rfl))) Via.refl F4_size E4 (Or.inl (hw _ (List.mem_of_getElem? (i := 26) rfl))) (hw _ (List.mem_of_getElem? (i := 9) rfl)) (by decide) rfl rfl gl ?_
  intro h5 K5 E5 F5 G5
  have F5_spans := G5 (slot_ne (Or.inl (hw _ (List.mem_of_getElem? (i := 19) rfl))) (Or.inl (hw _ (List.mem_of_getElem? (i := 26) rfl))) (by decide) (t := (.array .long)) (t' := .int) (by decide) (by decide)) F4_spans
  have A_ := Ars.keep A K5 (ninS hne nin0)
  show oGo Z _ _ _ _ _ _ n0 _ 0 0 h5 44 #[.val (.ref l), .val (.long z), .second] [(.int s), (.ref a)]
  refine oGo.lloadN (q := 45) d5_44 rfl rfl ?_
  refine oGo.lastore (q := 46) (i := i) d5_45 rfl A_ hs hl ga ?_
  intro h6 K6 A6
  have E5_ := Exa.keep E5 K6
  have F5_ := Fld.keep F5 K6 (ninS (Ne.symm hne) nin0)
  have F5_spans_ := Fld.keep F5_spans K6 (ninS (Ne.symm hne) nin0)
  show oGo Z _ _ _ _ _ _ n0 _ 0 0 h6 46 #[.val (.ref l), .val (.long z), .second] []
  exact oGo.retV d5_46 rfl (by decide) (by decide) (⟨rfl, Keep.trans (Keep.trans (Keep.refl h [l, a]) K5 (fun x hx => Or.inl (by simp at hx; simp [hx]))) K6 (fun x hx => Or.inl (by simp at hx; simp [hx])), ⟨E5_, F5_spans_, F5_⟩, A6⟩)
theorem own_mid {i j : Nat} (h : i + j < 2147483648) : ((Int32.ofNat i + Int32.ofNat j).toUInt32 >>> ((1 : Int32) &&& 31).toUInt32).toInt32 = Int32.ofNat ((i + j) / 2) := by
  apply own_int32
  have a := c_iushr (Int32.ofNat i + Int32.ofNat j) 1 1 (by decide) (by decide)
  have p : ((2 ^ 1 : Nat) : Int) = 2 := by decide
  rw [p, own_oiadd rfl h] at a
  rw [a, own_oi (by omega)]
  omega
def own_fa (q : Int64) (k r : Nat) (f : Nat → Int64) : Prop := r ≤ k ∧ (∀ i, i < r → (f i).toInt ≤ q.toInt) ∧ ∀ i, r ≤ i → i < k → q.toInt < (f i).toInt
theorem own_ef6 (m : MethodId) (x0 : Addr) (x1 : Int64) : entryFrame m #[(.ref x0), (.long x1)] 6 = mkF m 0 #[.val (.ref x0), .val (.long x1), .second, .unset, .unset, .unset] [] := by first | (simp [entryFrame, mkF, argsToLocals, Value.category]; done) | rfl
theorem own_pn6 : plainFor (⟨"com/example/interlace/interlace/search/SpanList", "firstAfter", "(J)I"⟩ : MethodName) = true := plainFor_of_name (by first | (simp [plainName, overriddenIn]; done) | decide +kernel)
set_option maxRecDepth 65536 in
set_option maxHeartbeats 40000000 in
theorem cf {Z : State} {a0 : Array Value} (hw : ∀ d ∈ tables_1, d.before a0 Z = true) (l : Addr) (q : Int64) (a : Addr) (k : Nat) (f : Nat → Int64) (vs : List Value) (h : Heap) (n0 : Nat) (O : own_sl Z h l (.ref a) (.int (Int32.ofNat k))) (A : Ars Z h a .long vs) (hk : k ≤ 8) (hv : ∀ i, i < k → vs[i]? = some (.long (f i))) (hm : ∀ i j, i ≤ j → j < k → (f i).toInt ≤ (f j).toInt) :
    oCon Z (⟨"com/example/interlace/interlace/search/SpanList", "firstAfter", "(J)I"⟩ : MethodName) prog_54_method_16_code 6 (some .int) ({ frames := 0, cells := 0, slots := 0, locals := 0 } : Room) #[(.ref l), (.long q)] h n0 (fun v h' => (∃ r : Nat, v = some (.int (Int32.ofNat r)) ∧ own_fa q k r f) ∧ h' = h) := by
  refine oCon.of own_pn6 (fun mid => own_ef6 mid l q) ?_
  show oGo Z _ _ _ _ _ _ n0 _ 0 0 h 0 #[.val (.ref l), .val (.long q), .second, .unset, .unset, .unset] []
  obtain ⟨E7, F7_spans, F7_size⟩ := O
  refine oGo.iconst (q := 1) (v := (0 : Int32)) d6_0 rfl rfl ?_
  refine oGo.istoreN (q := 2) (L' := #[.val (.ref l), .val (.long q), .second, .val (.int (0 : Int32)), .unset, .unset]) d6_1 rfl rfl ?_
  refine oGo.aloadN (q := 3) d6_2 rfl rfl rfl ?_
  refine oGo.getF (host := "") (q := 6) (v := (.int (Int32.ofNat k))) d6_3 rfl (Or.inl (hw _ (List.mem_of_getElem? (i := 25) rfl))) Via.refl F7_size ?_
  refine oGo.istore (q := 8) (L' := #[.val (.ref l), .val (.long q), .second, .val (.int (0 : Int32)), .val (.int (Int32.ofNat k)), .unset]) d6_6 rfl rfl ?_
  have loop : ∀ (t lo hi : Nat) (s5 : Slot), hi - lo ≤ t → lo ≤ hi → hi ≤ k → (∀ i, i < lo → (f i).toInt ≤ q.toInt) → (∀ i, hi ≤ i → i < k → q.toInt < (f i).toInt) → (s5 = .unset ∨ ∃ v : Int32, s5 = .val (.int v)) → oGo Z "com/example/interlace/interlace/search/SpanList" "firstAfter" prog_54_method_16_code 6 (some .int) ({ frames := 0, cells := 0, slots := 0, locals := 0 } : Room) n0 (fun v h' => (∃ r : Nat, v = some (.int (Int32.ofNat r)) ∧ own_fa q k r f) ∧ h' = h) 0 0 h 8 #[.val (.ref l), .val (.long q), .second, .val (.int (Int32.ofNat lo)), .val (.int (Int32.ofNat hi)), s5] [] := by
    intro t
    induction t with
    | zero =>
      intro lo hi s5 ht hlh hhk H1 H2 hs
      have e1 := own_oi (i := lo) (by omega)
      have e2 := own_oi (i := hi) (by omega)
      refine oGo.iloadN (q := 9) d6_8 rfl rfl ?_
      refine oGo.iload (q := 11) d6_9 rfl rfl ?_
      refine oGo.icmp_ge (q := 49) (r := 14) d6_11 (by decide) rfl (fun hc => ?_) (fun hc => absurd hc (by omega))
      refine oGo.iloadN (q := 50) d6_49 rfl rfl ?_
      exact oGo.retI d6_50 rfl (by decide) (by decide) (⟨⟨lo, rfl, by omega, H1, fun i hi' hik => H2 i (by omega) hik⟩, rfl⟩)
    | succ t ih =>
      intro lo hi s5 ht hlh hhk H1 H2 hs
      have e1 := own_oi (i := lo) (by omega)
      have e2 := own_oi (i := hi) (by omega)
      refine oGo.iloadN (q := 9) d6_8 rfl rfl ?_
      refine oGo.iload (q := 11) d6_9 rfl rfl ?_
      refine oGo.icmp_ge (q := 49) (r := 14) d6_11 (by decide) rfl (fun hc => ?_) (fun hc => ?_)
      · skip
        refine oGo.iloadN (q := 50) d6_49 rfl rfl ?_
        exact oGo.retI d6_50 rfl (by decide) (by decide) (⟨⟨lo, rfl, by omega, H1, fun i hi' hik => H2 i (by omega) hik⟩, rfl⟩)
      · skip
        refine oGo.iloadN (q := 15) d6_14 rfl rfl ?_
        refine oGo.iload (q := 17) d6_15 rfl rfl ?_
        refine oGo.iadd (q := 18) d6_17 rfl ?_
        refine oGo.iconst (q := 19) (v := (1 : Int32)) d6_18 rfl rfl ?_
        refine oGo.iushr (q := 20) d6_19 rfl ?_
        rw [own_mid (i := lo) (j := hi) (by omega)]
        refine oGo.istore (q := 22) (L' := #[.val (.ref l), .val (.long q), .second, .val (.int (Int32.ofNat lo)), .val (.int (Int32.ofNat hi)), .val (.int (Int32.ofNat ((lo + hi) / 2)))]) d6_20 rfl (by rcases hs with rfl | ⟨u, rfl⟩ <;> rfl) ?_
        refine oGo.aloadN (q := 23) d6_22 rfl rfl rfl ?_
        refine oGo.getF (host := "") (q := 26) (v := (.ref a)) d6_23 rfl (Or.inl (hw _ (List.mem_of_getElem? (i := 18) rfl))) Via.refl F7_spans ?_
        refine oGo.iload (q := 28) d6_26 rfl rfl ?_
        refine oGo.laload (q := 29) (i := ((lo + hi) / 2)) (v := (.long (f ((lo + hi) / 2)))) d6_28 rfl A (own_oi (by omega)) (hv _ (by omega)) ?_
        refine oGo.lloadN (q := 30) d6_29 rfl rfl ?_
        refine oGo.lif_gt (pc2 := 31) (q := 42) (r := 34) d6_30 rfl d6_31 (by decide) rfl (fun hc2 => ?_) (fun hc2 => ?_)
        · skip
          refine oGo.iload (q := 44) d6_42 rfl rfl ?_
          refine oGo.istore (q := 46) (L' := #[.val (.ref l), .val (.long q), .second, .val (.int (Int32.ofNat lo)), .val (.int (Int32.ofNat ((lo + hi) / 2))), .val (.int (Int32.ofNat ((lo + hi) / 2)))]) d6_44 rfl rfl ?_
          refine oGo.goto (q := 8) d6_46 (by decide) ?_
          exact ih lo ((lo + hi) / 2) _ (by omega) (by omega) (by omega) H1 (fun i hi' hik => Int.lt_of_lt_of_le hc2 (hm _ _ hi' hik)) (Or.inr ⟨_, rfl⟩)
        · skip
          refine oGo.iload (q := 36) d6_34 rfl rfl ?_
          refine oGo.iconst (q := 37) (v := (1 : Int32)) d6_36 rfl rfl ?_
          refine oGo.iadd (q := 38) d6_37 rfl ?_
          rw [own_oadd (i := (lo + hi) / 2) (c := (1 : Int32)) (m := 1) rfl]
          refine oGo.istoreN (q := 39) (L' := #[.val (.ref l), .val (.long q), .second, .val (.int (Int32.ofNat ((lo + hi) / 2 + 1))), .val (.int (Int32.ofNat hi)), .val (.int (Int32.ofNat ((lo + hi) / 2)))]) d6_38 rfl rfl ?_
          refine oGo.goto (q := 46) d6_39 (by decide) ?_
          refine oGo.goto (q := 8) d6_46 (by decide) ?_
          exact ih ((lo + hi) / 2 + 1) hi _ (by omega) (by omega) (by omega) (fun i hi' => Int.le_trans (hm i _ (by omega) (by omega)) hc2) H2 (Or.inr ⟨_, rfl⟩)
  exact loop k 0 k _ (by omega) (by omega) (by omega) (fun i hi' => absurd hi' (by omega)) (fun i hi' hik => absurd hik (by omega)) (Or.inl rfl)
def own_f (s0 s1 s2 s3 : Int64) : Nat → Int64
  | 0 => s0
  | 1 => s1
  | 2 => s2
  | _ => s3
theorem own_f_mono {s0 s1 s2 s3 : Int64} (h1 : s0.toInt ≤ s1.toInt) (h2 : s1.toInt ≤ s2.toInt) (h3 : s2.toInt ≤ s3.toInt) : ∀ i j, i ≤ j → j < 4 → (own_f s0 s1 s2 s3 i).toInt ≤ (own_f s0 s1 s2 s3 j).toInt := by
  intro i j hij hj
  match i, j, hij, hj with
  | 0, 0, _, _ => exact Int.le_refl _
  | 0, 1, _, _ => exact h1
  | 0, 2, _, _ => exact Int.le_trans h1 h2
  | 0, 3, _, _ => exact Int.le_trans h1 (Int.le_trans h2 h3)
  | 1, 1, _, _ => exact Int.le_refl _
  | 1, 2, _, _ => exact h2
  | 1, 3, _, _ => exact Int.le_trans h2 h3
  | 2, 2, _, _ => exact Int.le_refl _
  | 2, 3, _, _ => exact h3
  | 3, 3, _, _ => exact Int.le_refl _
  | i + 4, j, hij, hj => exact absurd hj (by omega)
theorem own_sort {q0 q1 q2 q3 u0 u1 u2 u3 s0 t2 t1 s3 s1 s2 : Int} (h1 : u0 = min q0 q1) (h2 : u1 = max q0 q1) (h3 : u2 = min q2 q3) (h4 : u3 = max q2 q3) (h5 : s0 = min u0 u2) (h6 : t2 = max u0 u2) (h7 : t1 = min u1 u3) (h8 : s3 = max u1 u3) (h9 : s1 = min t1 t2) (h10 : s2 = max t1 t2) : s0 ≤ s1 ∧ s1 ≤ s2 ∧ s2 ≤ s3 := by
  have a1 : u0 ≤ u1 := by subst h1 h2; exact Int.le_trans (Int.min_le_left _ _) (Int.le_max_left _ _)
  have a2 : u2 ≤ u3 := by subst h3 h4; exact Int.le_trans (Int.min_le_left _ _) (Int.le_max_left _ _)
  clear h1 h2 h3 h4
  have b1 : s0 ≤ u0 := by subst h5; exact Int.min_le_left _ _
  have b2 : s0 ≤ u2 := by subst h5; exact Int.min_le_right _ _
  have b3 : u0 ≤ t2 := by subst h6; exact Int.le_max_left _ _
  have b4 : s0 ≤ t1 := by subst h7; exact Int.le_min.mpr ⟨Int.le_trans b1 a1, Int.le_trans b2 a2⟩
  have b5 : t2 ≤ s3 := by subst h6 h8; exact Int.max_le.mpr ⟨Int.le_trans a1 (Int.le_max_left _ _), Int.le_trans a2 (Int.le_max_right _ _)⟩
  have b6 : t1 ≤ s3 := by subst h7 h8; exact Int.le_trans (Int.min_le_left _ _) (Int.le_max_left _ _)
  clear h5 h6 h7 h8
  subst h9 h10
  exact ⟨Int.le_min.mpr ⟨b4, Int.le_trans b1 b3⟩, Int.le_trans (Int.min_le_left _ _) (Int.le_max_left _ _), Int.max_le.mpr ⟨b6, b5⟩⟩
theorem own_fa_eq {q : Int64} {k r e : Nat} {f : Nat → Int64} (hr : own_fa q k r f) (he : e ≤ k) (h1 : ∀ i, i < e → (f i).toInt ≤ q.toInt) (h2 : e < k → q.toInt < (f e).toInt) : r = e := by
  obtain ⟨a, b, c⟩ := hr
  rcases Nat.lt_trichotomy r e with u | u | u
  · have x := c r (Nat.le_refl _) (by omega); have y := h1 r u; omega
  · exact u
  · have x := b e u; have y := h2 (by omega); omega
theorem own_ef0 (m : MethodId) (x0 : Int64) (x1 : Int64) (x2 : Int64) (x3 : Int64) (x4 : Int64) (x5 : Int32) : entryFrame m #[(.long x0), (.long x1), (.long x2), (.long x3), (.long x4), (.int x5)] maxLocals = mkF m 0 #[.val (.long x0), .second, .val (.long x1), .second, .val (.long x2), .second, .val (.long x3), .second, .val (.long x4), .second, .val (.int x5), .unset, .unset, .unset, .unset, .unset, .unset, .unset, .unset, .unset, .unset, .unset, .unset, .unset, .unset, .unset, .unset, .unset, .unset, .unset, .unset, .unset, .unset, .unset, .unset, .unset, .unset, .unset] [] := by first | (simp [entryFrame, mkF, argsToLocals, Value.category, maxLocals]; done) | rfl
theorem own_pn0 : plainFor x = true := plainFor_of_name (by first | (simp [plainName, overriddenIn, x]; done) | decide +kernel)
set_option maxRecDepth 65536 in
set_option maxHeartbeats 40000000 in
theorem law {Z : State} {a0 : Array Value} (hw : ∀ d ∈ tables_1, d.before a0 Z = true) (q0 q1 q2 q3 qq : Int64) (m : Int32) (h : Heap) (n0 : Nat) (Z0 : n0 ≤ h.size) :
    oCon Z x code maxLocals ret room_1 #[(.long q0), (.long q1), (.long q2), (.long q3), (.long qq), (.int m)] h n0 (fun v _ => v = some (.int 1)) := by
  refine oCon.of own_pn0 (fun mid => own_ef0 mid q0 q1 q2 q3 qq m) ?_
  show oGo Z _ _ _ _ _ _ n0 _ 0 0 h 0 #[.val (.long q0), .second, .val (.long q1), .second, .val (.long q2), .second, .val (.long q3), .second, .val (.long qq), .second, .val (.int m), .unset, .unset, .unset, .unset, .unset, .unset, .unset, .unset, .unset, .unset, .unset, .unset, .unset, .unset, .unset, .unset, .unset, .unset, .unset, .unset, .unset, .unset, .unset, .unset, .unset, .unset, .unset] []
  refine oGo.iload (q := 2) at_0 rfl rfl ?_
  refine oGo.ldcI (q := 4) (v := (2147483647 : Int32)) at_2 rfl (hw _ (List.mem_of_getElem? (i := 0) rfl)) ?_
  refine oGo.iand (q := 5) at_4 rfl ?_
  refine oGo.iconst (q := 6) (v := (5 : Int32)) at_5 rfl rfl ?_
  refine oGo.irem (q := 7) at_6 rfl (by decide) ?_
  obtain ⟨k, ek, hk⟩ : ∃ k : Nat, ((m &&& (2147483647 : Int32)) % (5 : Int32)) = Int32.ofNat k ∧ k ≤ 4 := by
    have a1 := c_mask m (2147483647 : Int32) 31 (by decide) (by decide)
    have p : ((2 ^ 31 : Nat) : Int) = 2147483648 := by decide
    rw [p] at a1
    have a2 := own_irem (m &&& (2147483647 : Int32)) 5 (by omega)
    have z : (5 : Int32).toInt = 5 := by decide
    rw [z] at a2
    exact ⟨(((m &&& (2147483647 : Int32)) % (5 : Int32)).toInt).toNat, own_nat (by omega) (by omega), by omega⟩
  rw [ek]
  refine oGo.istore (q := 9) (L' := #[.val (.long q0), .second, .val (.long q1), .second, .val (.long q2), .second, .val (.long q3), .second, .val (.long qq), .second, .val (.int m), .val (.int (Int32.ofNat k)), .unset, .unset, .unset, .unset, .unset, .unset, .unset, .unset, .unset, .unset, .unset, .unset, .unset, .unset, .unset, .unset, .unset, .unset, .unset, .unset, .unset, .unset, .unset, .unset, .unset, .unset]) at_7 rfl rfl ?_
  refine oGo.lloadN (q := 10) at_9 rfl rfl ?_
  refine oGo.lloadN (q := 11) at_10 rfl rfl ?_
  refine oGo.callS (W := 0) (rm := ({ frames := 0, cells := 0, slots := 0, locals := 0 } : Room)) (q := 14) [(.long q0), (.long q1)] [] at_11 rfl (hw _ (List.mem_of_getElem? (i := 1) rfl)) (hw _ (List.mem_of_getElem? (i := 2) rfl)) (hw _ (List.mem_of_getElem? (i := 3) rfl)) (hw _ (List.mem_of_getElem? (i := 4) rfl)) (by decide) (cmin hw q0 q1 h n0) rfl rfl own_pd0 rfl rfl (Nat.le_of_eq rfl) (by decide) (by decide) (by decide) (by decide) ?_
  rintro _ h8 ⟨⟨u0, rfl, du0⟩, eh⟩
  all_goals subst h8
  show oGo Z _ _ _ _ _ _ n0 _ 0 0 h 14 #[.val (.long q0), .second, .val (.long q1), .second, .val (.long q2), .second, .val (.long q3), .second, .val (.long qq), .second, .val (.int m), .val (.int (Int32.ofNat k)), .unset, .unset, .unset, .unset, .unset, .unset, .unset, .unset, .unset, .unset, .unset, .unset, .unset, .unset, .unset, .unset, .unset, .unset, .unset, .unset, .unset, .unset, .unset, .unset, .unset, .unset] [(.long u0)]
  refine oGo.lstore (q := 16) (L' := #[.val (.long q0), .second, .val (.long q1), .second, .val (.long q2), .second, .val (.long q3), .second, .val (.long qq), .second, .val (.int m), .val (.int (Int32.ofNat k)), .val (.long u0), .second, .unset, .unset, .unset, .unset, .unset, .unset, .unset, .unset, .unset, .unset, .unset, .unset, .unset, .unset, .unset, .unset, .unset, .unset, .unset, .unset, .unset, .unset, .unset, .unset]) at_14 rfl rfl ?_
  refine oGo.lloadN (q := 17) at_16 rfl rfl ?_
  refine oGo.lloadN (q := 18) at_17 rfl rfl ?_
  refine oGo.callS (W := 0) (rm := ({ frames := 0, cells := 0, slots := 0, locals := 0 } : Room)) (q := 21) [(.long q0), (.long q1)] [] at_18 rfl (hw _ (List.mem_of_getElem? (i := 5) rfl)) (hw _ (List.mem_of_getElem? (i := 6) rfl)) (hw _ (List.mem_of_getElem? (i := 3) rfl)) (hw _ (List.mem_of_getElem? (i := 7) rfl)) (by decide) (cmax hw q0 q1 h n0) rfl rfl own_pd0 rfl rfl (Nat.le_of_eq rfl) (by decide) (by decide) (by decide) (by decide) ?_
  rintro _ h9 ⟨⟨u1, rfl, du1⟩, eh⟩
  all_goals subst h9
  show oGo Z _ _ _ _ _ _ n0 _ 0 0 h 21 #[.val (.long q0), .second, .val (.long q1), .second, .val (.long q2), .second, .val (.long q3), .second, .val (.long qq), .second, .val (.int m), .val (.int (Int32.ofNat k)), .val (.long u0), .second, .unset, .unset, .unset, .unset, .unset, .unset, .unset, .unset, .unset, .unset, .unset, .unset, .unset, .unset, .unset, .unset, .unset, .unset, .unset, .unset, .unset, .unset, .unset, .unset] [(.long u1)]
  refine oGo.lstore (q := 23) (L' := #[.val (.long q0), .second, .val (.long q1), .second, .val (.long q2), .second, .val (.long q3), .second, .val (.long qq), .second, .val (.int m), .val (.int (Int32.ofNat k)), .val (.long u0), .second, .val (.long u1), .second, .unset, .unset, .unset, .unset, .unset, .unset, .unset, .unset, .unset, .unset, .unset, .unset, .unset, .unset, .unset, .unset, .unset, .unset, .unset, .unset, .unset, .unset]) at_21 rfl rfl ?_
  refine oGo.lload (q := 25) at_23 rfl rfl ?_
  refine oGo.lload (q := 27) at_25 rfl rfl ?_
  refine oGo.callS (W := 0) (rm := ({ frames := 0, cells := 0, slots := 0, locals := 0 } : Room)) (q := 30) [(.long q2), (.long q3)] [] at_27 rfl (hw _ (List.mem_of_getElem? (i := 1) rfl)) (hw _ (List.mem_of_getElem? (i := 2) rfl)) (hw _ (List.mem_of_getElem? (i := 3) rfl)) (hw _ (List.mem_of_getElem? (i := 4) rfl)) (by decide) (cmin hw q2 q3 h n0) rfl rfl own_pd0 rfl rfl (Nat.le_of_eq rfl) (by decide) (by decide) (by decide) (by decide) ?_
  rintro _ h10 ⟨⟨u2, rfl, du2⟩, eh⟩
  all_goals subst h10
  show oGo Z _ _ _ _ _ _ n0 _ 0 0 h 30 #[.val (.long q0), .second, .val (.long q1), .second, .val (.long q2), .second, .val (.long q3), .second, .val (.long qq), .second, .val (.int m), .val (.int (Int32.ofNat k)), .val (.long u0), .second, .val (.long u1), .second, .unset, .unset, .unset, .unset, .unset, .unset, .unset, .unset, .unset, .unset, .unset, .unset, .unset, .unset, .unset, .unset, .unset, .unset, .unset, .unset, .unset, .unset] [(.long u2)]
  refine oGo.lstore (q := 32) (L' := #[.val (.long q0), .second, .val (.long q1), .second, .val (.long q2), .second, .val (.long q3), .second, .val (.long qq), .second, .val (.int m), .val (.int (Int32.ofNat k)), .val (.long u0), .second, .val (.long u1), .second, .val (.long u2), .second, .unset, .unset, .unset, .unset, .unset, .unset, .unset, .unset, .unset, .unset, .unset, .unset, .unset, .unset, .unset, .unset, .unset, .unset, .unset, .unset]) at_30 rfl rfl ?_
  refine oGo.lload (q := 34) at_32 rfl rfl ?_
  refine oGo.lload (q := 36) at_34 rfl rfl ?_
  refine oGo.callS (W := 0) (rm := ({ frames := 0, cells := 0, slots := 0, locals := 0 } : Room)) (q := 39) [(.long q2), (.long q3)] [] at_36 rfl (hw _ (List.mem_of_getElem? (i := 5) rfl)) (hw _ (List.mem_of_getElem? (i := 6) rfl)) (hw _ (List.mem_of_getElem? (i := 3) rfl)) (hw _ (List.mem_of_getElem? (i := 7) rfl)) (by decide) (cmax hw q2 q3 h n0) rfl rfl own_pd0 rfl rfl (Nat.le_of_eq rfl) (by decide) (by decide) (by decide) (by decide) ?_
  rintro _ h11 ⟨⟨u3, rfl, du3⟩, eh⟩
  all_goals subst h11
  show oGo Z _ _ _ _ _ _ n0 _ 0 0 h 39 #[.val (.long q0), .second, .val (.long q1), .second, .val (.long q2), .second, .val (.long q3), .second, .val (.long qq), .second, .val (.int m), .val (.int (Int32.ofNat k)), .val (.long u0), .second, .val (.long u1), .second, .val (.long u2), .second, .unset, .unset, .unset, .unset, .unset, .unset, .unset, .unset, .unset, .unset, .unset, .unset, .unset, .unset, .unset, .unset, .unset, .unset, .unset, .unset] [(.long u3)]
  refine oGo.lstore (q := 41) (L' := #[.val (.long q0), .second, .val (.long q1), .second, .val (.long q2), .second, .val (.long q3), .second, .val (.long qq), .second, .val (.int m), .val (.int (Int32.ofNat k)), .val (.long u0), .second, .val (.long u1), .second, .val (.long u2), .second, .val (.long u3), .second, .unset, .unset, .unset, .unset, .unset, .unset, .unset, .unset, .unset, .unset, .unset, .unset, .unset, .unset, .unset, .unset, .unset, .unset]) at_39 rfl rfl ?_
  refine oGo.lload (q := 43) at_41 rfl rfl ?_
  refine oGo.lload (q := 45) at_43 rfl rfl ?_
  refine oGo.callS (W := 0) (rm := ({ frames := 0, cells := 0, slots := 0, locals := 0 } : Room)) (q := 48) [(.long u0), (.long u2)] [] at_45 rfl (hw _ (List.mem_of_getElem? (i := 1) rfl)) (hw _ (List.mem_of_getElem? (i := 2) rfl)) (hw _ (List.mem_of_getElem? (i := 3) rfl)) (hw _ (List.mem_of_getElem? (i := 4) rfl)) (by decide) (cmin hw u0 u2 h n0) rfl rfl own_pd0 rfl rfl (Nat.le_of_eq rfl) (by decide) (by decide) (by decide) (by decide) ?_
  rintro _ h12 ⟨⟨s0, rfl, ds0⟩, eh⟩
  all_goals subst h12
  show oGo Z _ _ _ _ _ _ n0 _ 0 0 h 48 #[.val (.long q0), .second, .val (.long q1), .second, .val (.long q2), .second, .val (.long q3), .second, .val (.long qq), .second, .val (.int m), .val (.int (Int32.ofNat k)), .val (.long u0), .second, .val (.long u1), .second, .val (.long u2), .second, .val (.long u3), .second, .unset, .unset, .unset, .unset, .unset, .unset, .unset, .unset, .unset, .unset, .unset, .unset, .unset, .unset, .unset, .unset, .unset, .unset] [(.long s0)]
  refine oGo.lstore (q := 50) (L' := #[.val (.long q0), .second, .val (.long q1), .second, .val (.long q2), .second, .val (.long q3), .second, .val (.long qq), .second, .val (.int m), .val (.int (Int32.ofNat k)), .val (.long u0), .second, .val (.long u1), .second, .val (.long u2), .second, .val (.long u3), .second, .val (.long s0), .second, .unset, .unset, .unset, .unset, .unset, .unset, .unset, .unset, .unset, .unset, .unset, .unset, .unset, .unset, .unset, .unset]) at_48 rfl rfl ?_
  refine oGo.lload (q := 52) at_50 rfl rfl ?_
  refine oGo.lload (q := 54) at_52 rfl rfl ?_
  refine oGo.callS (W := 0) (rm := ({ frames := 0, cells := 0, slots := 0, locals := 0 } : Room)) (q := 57) [(.long u0), (.long u2)] [] at_54 rfl (hw _ (List.mem_of_getElem? (i := 5) rfl)) (hw _ (List.mem_of_getElem? (i := 6) rfl)) (hw _ (List.mem_of_getElem? (i := 3) rfl)) (hw _ (List.mem_of_getElem? (i := 7) rfl)) (by decide) (cmax hw u0 u2 h n0) rfl rfl own_pd0 rfl rfl (Nat.le_of_eq rfl) (by decide) (by decide) (by decide) (by decide) ?_
  rintro _ h13 ⟨⟨t2, rfl, dt2⟩, eh⟩
  all_goals subst h13
  show oGo Z _ _ _ _ _ _ n0 _ 0 0 h 57 #[.val (.long q0), .second, .val (.long q1), .second, .val (.long q2), .second, .val (.long q3), .second, .val (.long qq), .second, .val (.int m), .val (.int (Int32.ofNat k)), .val (.long u0), .second, .val (.long u1), .second, .val (.long u2), .second, .val (.long u3), .second, .val (.long s0), .second, .unset, .unset, .unset, .unset, .unset, .unset, .unset, .unset, .unset, .unset, .unset, .unset, .unset, .unset, .unset, .unset] [(.long t2)]
  refine oGo.lstore (q := 59) (L' := #[.val (.long q0), .second, .val (.long q1), .second, .val (.long q2), .second, .val (.long q3), .second, .val (.long qq), .second, .val (.int m), .val (.int (Int32.ofNat k)), .val (.long u0), .second, .val (.long u1), .second, .val (.long u2), .second, .val (.long u3), .second, .val (.long s0), .second, .val (.long t2), .second, .unset, .unset, .unset, .unset, .unset, .unset, .unset, .unset, .unset, .unset, .unset, .unset, .unset, .unset]) at_57 rfl rfl ?_
  refine oGo.lload (q := 61) at_59 rfl rfl ?_
  refine oGo.lload (q := 63) at_61 rfl rfl ?_
  refine oGo.callS (W := 0) (rm := ({ frames := 0, cells := 0, slots := 0, locals := 0 } : Room)) (q := 66) [(.long u1), (.long u3)] [] at_63 rfl (hw _ (List.mem_of_getElem? (i := 1) rfl)) (hw _ (List.mem_of_getElem? (i := 2) rfl)) (hw _ (List.mem_of_getElem? (i := 3) rfl)) (hw _ (List.mem_of_getElem? (i := 4) rfl)) (by decide) (cmin hw u1 u3 h n0) rfl rfl own_pd0 rfl rfl (Nat.le_of_eq rfl) (by decide) (by decide) (by decide) (by decide) ?_
  rintro _ h14 ⟨⟨t1, rfl, dt1⟩, eh⟩
  all_goals subst h14
  show oGo Z _ _ _ _ _ _ n0 _ 0 0 h 66 #[.val (.long q0), .second, .val (.long q1), .second, .val (.long q2), .second, .val (.long q3), .second, .val (.long qq), .second, .val (.int m), .val (.int (Int32.ofNat k)), .val (.long u0), .second, .val (.long u1), .second, .val (.long u2), .second, .val (.long u3), .second, .val (.long s0), .second, .val (.long t2), .second, .unset, .unset, .unset, .unset, .unset, .unset, .unset, .unset, .unset, .unset, .unset, .unset, .unset, .unset] [(.long t1)]
  refine oGo.lstore (q := 68) (L' := #[.val (.long q0), .second, .val (.long q1), .second, .val (.long q2), .second, .val (.long q3), .second, .val (.long qq), .second, .val (.int m), .val (.int (Int32.ofNat k)), .val (.long u0), .second, .val (.long u1), .second, .val (.long u2), .second, .val (.long u3), .second, .val (.long s0), .second, .val (.long t2), .second, .val (.long t1), .second, .unset, .unset, .unset, .unset, .unset, .unset, .unset, .unset, .unset, .unset, .unset, .unset]) at_66 rfl rfl ?_
  refine oGo.lload (q := 70) at_68 rfl rfl ?_
  refine oGo.lload (q := 72) at_70 rfl rfl ?_
  refine oGo.callS (W := 0) (rm := ({ frames := 0, cells := 0, slots := 0, locals := 0 } : Room)) (q := 75) [(.long u1), (.long u3)] [] at_72 rfl (hw _ (List.mem_of_getElem? (i := 5) rfl)) (hw _ (List.mem_of_getElem? (i := 6) rfl)) (hw _ (List.mem_of_getElem? (i := 3) rfl)) (hw _ (List.mem_of_getElem? (i := 7) rfl)) (by decide) (cmax hw u1 u3 h n0) rfl rfl own_pd0 rfl rfl (Nat.le_of_eq rfl) (by decide) (by decide) (by decide) (by decide) ?_
  rintro _ h15 ⟨⟨s3, rfl, ds3⟩, eh⟩
  all_goals subst h15
  show oGo Z _ _ _ _ _ _ n0 _ 0 0 h 75 #[.val (.long q0), .second, .val (.long q1), .second, .val (.long q2), .second, .val (.long q3), .second, .val (.long qq), .second, .val (.int m), .val (.int (Int32.ofNat k)), .val (.long u0), .second, .val (.long u1), .second, .val (.long u2), .second, .val (.long u3), .second, .val (.long s0), .second, .val (.long t2), .second, .val (.long t1), .second, .unset, .unset, .unset, .unset, .unset, .unset, .unset, .unset, .unset, .unset, .unset, .unset] [(.long s3)]
  refine oGo.lstore (q := 77) (L' := #[.val (.long q0), .second, .val (.long q1), .second, .val (.long q2), .second, .val (.long q3), .second, .val (.long qq), .second, .val (.int m), .val (.int (Int32.ofNat k)), .val (.long u0), .second, .val (.long u1), .second, .val (.long u2), .second, .val (.long u3), .second, .val (.long s0), .second, .val (.long t2), .second, .val (.long t1), .second, .val (.long s3), .second, .unset, .unset, .unset, .unset, .unset, .unset, .unset, .unset, .unset, .unset]) at_75 rfl rfl ?_
  refine oGo.lload (q := 79) at_77 rfl rfl ?_
  refine oGo.lload (q := 81) at_79 rfl rfl ?_
  refine oGo.callS (W := 0) (rm := ({ frames := 0, cells := 0, slots := 0, locals := 0 } : Room)) (q := 84) [(.long t1), (.long t2)] [] at_81 rfl (hw _ (List.mem_of_getElem? (i := 1) rfl)) (hw _ (List.mem_of_getElem? (i := 2) rfl)) (hw _ (List.mem_of_getElem? (i := 3) rfl)) (hw _ (List.mem_of_getElem? (i := 4) rfl)) (by decide) (cmin hw t1 t2 h n0) rfl rfl own_pd0 rfl rfl (Nat.le_of_eq rfl) (by decide) (by decide) (by decide) (by decide) ?_
  rintro _ h16 ⟨⟨s1, rfl, ds1⟩, eh⟩
  all_goals subst h16
  show oGo Z _ _ _ _ _ _ n0 _ 0 0 h 84 #[.val (.long q0), .second, .val (.long q1), .second, .val (.long q2), .second, .val (.long q3), .second, .val (.long qq), .second, .val (.int m), .val (.int (Int32.ofNat k)), .val (.long u0), .second, .val (.long u1), .second, .val (.long u2), .second, .val (.long u3), .second, .val (.long s0), .second, .val (.long t2), .second, .val (.long t1), .second, .val (.long s3), .second, .unset, .unset, .unset, .unset, .unset, .unset, .unset, .unset, .unset, .unset] [(.long s1)]
  refine oGo.lstore (q := 86) (L' := #[.val (.long q0), .second, .val (.long q1), .second, .val (.long q2), .second, .val (.long q3), .second, .val (.long qq), .second, .val (.int m), .val (.int (Int32.ofNat k)), .val (.long u0), .second, .val (.long u1), .second, .val (.long u2), .second, .val (.long u3), .second, .val (.long s0), .second, .val (.long t2), .second, .val (.long t1), .second, .val (.long s3), .second, .val (.long s1), .second, .unset, .unset, .unset, .unset, .unset, .unset, .unset, .unset]) at_84 rfl rfl ?_
  refine oGo.lload (q := 88) at_86 rfl rfl ?_
  refine oGo.lload (q := 90) at_88 rfl rfl ?_
  refine oGo.callS (W := 0) (rm := ({ frames := 0, cells := 0, slots := 0, locals := 0 } : Room)) (q := 93) [(.long t1), (.long t2)] [] at_90 rfl (hw _ (List.mem_of_getElem? (i := 5) rfl)) (hw _ (List.mem_of_getElem? (i := 6) rfl)) (hw _ (List.mem_of_getElem? (i := 3) rfl)) (hw _ (List.mem_of_getElem? (i := 7) rfl)) (by decide) (cmax hw t1 t2 h n0) rfl rfl own_pd0 rfl rfl (Nat.le_of_eq rfl) (by decide) (by decide) (by decide) (by decide) ?_
  rintro _ h17 ⟨⟨s2, rfl, ds2⟩, eh⟩
  all_goals subst h17
  show oGo Z _ _ _ _ _ _ n0 _ 0 0 h 93 #[.val (.long q0), .second, .val (.long q1), .second, .val (.long q2), .second, .val (.long q3), .second, .val (.long qq), .second, .val (.int m), .val (.int (Int32.ofNat k)), .val (.long u0), .second, .val (.long u1), .second, .val (.long u2), .second, .val (.long u3), .second, .val (.long s0), .second, .val (.long t2), .second, .val (.long t1), .second, .val (.long s3), .second, .val (.long s1), .second, .unset, .unset, .unset, .unset, .unset, .unset, .unset, .unset] [(.long s2)]
  obtain ⟨o1, o2, o3⟩ := own_sort du0 du1 du2 du3 ds0 dt2 dt1 ds3 ds1 ds2
  clear du0 du1 du2 du3 ds0 dt2 dt1 ds3 ds1 ds2
  refine oGo.lstore (q := 95) (L' := #[.val (.long q0), .second, .val (.long q1), .second, .val (.long q2), .second, .val (.long q3), .second, .val (.long qq), .second, .val (.int m), .val (.int (Int32.ofNat k)), .val (.long u0), .second, .val (.long u1), .second, .val (.long u2), .second, .val (.long u3), .second, .val (.long s0), .second, .val (.long t2), .second, .val (.long t1), .second, .val (.long s3), .second, .val (.long s1), .second, .val (.long s2), .second, .unset, .unset, .unset, .unset, .unset, .unset]) at_93 rfl rfl ?_
  refine oGo.iload (q := 97) at_95 rfl rfl ?_
  refine oGo.iconst (q := 98) (v := (4 : Int32)) at_97 rfl rfl ?_
  refine oGo.iushr (q := 99) at_98 rfl ?_
  refine oGo.iconst (q := 100) (v := (3 : Int32)) at_99 rfl rfl ?_
  refine oGo.iand (q := 101) at_100 rfl ?_
  refine oGo.istore (q := 103) (L' := #[.val (.long q0), .second, .val (.long q1), .second, .val (.long q2), .second, .val (.long q3), .second, .val (.long qq), .second, .val (.int m), .val (.int (Int32.ofNat k)), .val (.long u0), .second, .val (.long u1), .second, .val (.long u2), .second, .val (.long u3), .second, .val (.long s0), .second, .val (.long t2), .second, .val (.long t1), .second, .val (.long s3), .second, .val (.long s1), .second, .val (.long s2), .second, .val (.int (((m.toUInt32 >>> ((4 : Int32) &&& 31).toUInt32).toInt32) &&& (3 : Int32))), .unset, .unset, .unset, .unset, .unset]) at_101 rfl rfl ?_
  refine oGo.iload (q := 105) at_103 rfl rfl ?_
  have J154 : ∀ (qx : Int64) (s35 s36 : Slot), ((s35 = .unset ∧ s36 = .unset) ∨ ∃ u : Int64, s35 = .val (.long u) ∧ s36 = .second) → oGo Z x.cls x.name code maxLocals ret room_1 n0 (fun v _ => v = some (.int 1)) 0 0 h 154 #[.val (.long q0), .second, .val (.long q1), .second, .val (.long q2), .second, .val (.long q3), .second, .val (.long qq), .second, .val (.int m), .val (.int (Int32.ofNat k)), .val (.long u0), .second, .val (.long u1), .second, .val (.long u2), .second, .val (.long u3), .second, .val (.long s0), .second, .val (.long t2), .second, .val (.long t1), .second, .val (.long s3), .second, .val (.long s1), .second, .val (.long s2), .second, .val (.int (((m.toUInt32 >>> ((4 : Int32) &&& 31).toUInt32).toInt32) &&& (3 : Int32))), .val (.long qx), .second, s35, s36, .unset] [] := by
    intro qx s35 s36 hs
    refine oGo.newO (q := 157) at_154 rfl (hw _ (List.mem_of_getElem? (i := 8) rfl)) (hw _ (List.mem_of_getElem? (i := 9) rfl)) (hw _ (List.mem_of_getElem? (i := 10) rfl)) (by decide) (by decide) ?_
    intro h18 l g18 K18 E18 D18
    have ge_l : n0 ≤ l := Nat.le_trans Z0 (Nat.le_of_eq g18.symm)
    have Z0_ := Nat.le_trans Z0 K18.1
    have F18_spans := D18 (Or.inl (hw _ (List.mem_of_getElem? (i := 19) rfl))) (ty := (.array .long)) (by decide)
    have F18_size := D18 (Or.inl (hw _ (List.mem_of_getElem? (i := 26) rfl))) (ty := .int) (by decide)
    show oGo Z _ _ _ _ _ _ n0 _ 1 2 h18 157 #[.val (.long q0), .second, .val (.long q1), .second, .val (.long q2), .second, .val (.long q3), .second, .val (.long qq), .second, .val (.int m), .val (.int (Int32.ofNat k)), .val (.long u0), .second, .val (.long u1), .second, .val (.long u2), .second, .val (.long u3), .second, .val (.long s0), .second, .val (.long t2), .second, .val (.long t1), .second, .val (.long s3), .second, .val (.long s1), .second, .val (.long s2), .second, .val (.int (((m.toUInt32 >>> ((4 : Int32) &&& 31).toUInt32).toInt32) &&& (3 : Int32))), .val (.long qx), .second, s35, s36, .unset] [(.ref l)]
    refine oGo.dup (q := 158) at_157 rfl rfl ?_
    refine oGo.callI (W := 1) (rm := ({ frames := 1, cells := 1, slots := 8, locals := 14 } : Room)) (q := 161) (a := l) [] [(.ref l)] at_158 rfl rfl (hw _ (List.mem_of_getElem? (i := 11) rfl)) (hw _ (List.mem_of_getElem? (i := 12) rfl)) (hw _ (List.mem_of_getElem? (i := 10) rfl)) (hw _ (List.mem_of_getElem? (i := 13) rfl)) (by decide) (ci hw l h18 n0 Z0_ ge_l ⟨E18, F18_spans, F18_size⟩) rfl rfl own_pd1 rfl rfl (Nat.le_of_eq rfl) (by decide) (by decide) (by decide) (by decide) ?_
    rintro _ h19 ⟨rfl, a, ga', K, O, A⟩
    show oGo Z _ _ _ _ _ _ n0 _ 2 10 h19 161 #[.val (.long q0), .second, .val (.long q1), .second, .val (.long q2), .second, .val (.long q3), .second, .val (.long qq), .second, .val (.int m), .val (.int (Int32.ofNat k)), .val (.long u0), .second, .val (.long u1), .second, .val (.long u2), .second, .val (.long u3), .second, .val (.long s0), .second, .val (.long t2), .second, .val (.long t1), .second, .val (.long s3), .second, .val (.long s1), .second, .val (.long s2), .second, .val (.int (((m.toUInt32 >>> ((4 : Int32) &&& 31).toUInt32).toInt32) &&& (3 : Int32))), .val (.long qx), .second, s35, s36, .unset] [(.ref l)]
    have nal : a ≠ l := (Nat.ne_of_lt (Nat.lt_of_lt_of_le (E18.lt) ga')).symm
    have ga : n0 ≤ a := Nat.le_trans Z0_ ga'
    have gl : n0 ≤ l := ge_l
    refine oGo.astore (q := 163) (L' := #[.val (.long q0), .second, .val (.long q1), .second, .val (.long q2), .second, .val (.long q3), .second, .val (.long qq), .second, .val (.int m), .val (.int (Int32.ofNat k)), .val (.long u0), .second, .val (.long u1), .second, .val (.long u2), .second, .val (.long u3), .second, .val (.long s0), .second, .val (.long t2), .second, .val (.long t1), .second, .val (.long s3), .second, .val (.long s1), .second, .val (.long s2), .second, .val (.int (((m.toUInt32 >>> ((4 : Int32) &&& 31).toUInt32).toInt32) &&& (3 : Int32))), .val (.long qx), .second, .val (.ref l), .unset, .unset]) at_161 rfl rfl (by rcases hs with ⟨rfl, rfl⟩ | ⟨u, rfl, rfl⟩ <;> rfl) ?_
    refine oGo.iload (q := 165) at_163 rfl rfl ?_
    obtain rfl | rfl | rfl | rfl | rfl : k = 0 ∨ k = 1 ∨ k = 2 ∨ k = 3 ∨ k = 4 := by omega
    · skip -- k = 0
      refine oGo.if_le (q := 175) (r := 168) at_165 (by decide) rfl (fun hc => ?_) (fun hc => absurd hc (by decide))
      refine oGo.iload (q := 177) at_175 rfl rfl ?_
      refine oGo.iconst (q := 178) (v := (1 : Int32)) at_177 rfl rfl ?_
      refine oGo.icmp_le (q := 188) (r := 181) at_178 (by decide) rfl (fun hc => ?_) (fun hc => absurd hc (by decide))
      refine oGo.iload (q := 190) at_188 rfl rfl ?_
      refine oGo.iconst (q := 191) (v := (2 : Int32)) at_190 rfl rfl ?_
      refine oGo.icmp_le (q := 201) (r := 194) at_191 (by decide) rfl (fun hc => ?_) (fun hc => absurd hc (by decide))
      refine oGo.iload (q := 203) at_201 rfl rfl ?_
      refine oGo.iconst (q := 204) (v := (3 : Int32)) at_203 rfl rfl ?_
      refine oGo.icmp_le (q := 214) (r := 207) at_204 (by decide) rfl (fun hc => ?_) (fun hc => absurd hc (by decide))
      refine oGo.iconst (q := 215) (v := (0 : Int32)) at_214 rfl rfl ?_
      refine oGo.istore (q := 217) (L' := #[.val (.long q0), .second, .val (.long q1), .second, .val (.long q2), .second, .val (.long q3), .second, .val (.long qq), .second, .val (.int m), .val (.int (Int32.ofNat 0)), .val (.long u0), .second, .val (.long u1), .second, .val (.long u2), .second, .val (.long u3), .second, .val (.long s0), .second, .val (.long t2), .second, .val (.long t1), .second, .val (.long s3), .second, .val (.long s1), .second, .val (.long s2), .second, .val (.int (((m.toUInt32 >>> ((4 : Int32) &&& 31).toUInt32).toInt32) &&& (3 : Int32))), .val (.long qx), .second, .val (.ref l), .val (.int (0 : Int32)), .unset]) at_215 rfl rfl ?_
      refine oGo.iload (q := 219) at_217 rfl rfl ?_
      have J284 : ∀ (e : Nat), e ≤ 0 → (∀ i, i < e → (own_f s0 s1 s2 s3 i).toInt ≤ qx.toInt) → (e < 0 → qx.toInt < (own_f s0 s1 s2 s3 e).toInt) → oGo Z x.cls x.name code maxLocals ret room_1 n0 (fun v _ => v = some (.int 1)) 2 10 h19 284 #[.val (.long q0), .second, .val (.long q1), .second, .val (.long q2), .second, .val (.long q3), .second, .val (.long qq), .second, .val (.int m), .val (.int (Int32.ofNat 0)), .val (.long u0), .second, .val (.long u1), .second, .val (.long u2), .second, .val (.long u3), .second, .val (.long s0), .second, .val (.long t2), .second, .val (.long t1), .second, .val (.long s3), .second, .val (.long s1), .second, .val (.long s2), .second, .val (.int (((m.toUInt32 >>> ((4 : Int32) &&& 31).toUInt32).toInt32) &&& (3 : Int32))), .val (.long qx), .second, .val (.ref l), .val (.int (Int32.ofNat e)), .unset] [] := by
        intro e he h1 h2
        refine oGo.aload (q := 286) at_284 rfl rfl rfl ?_
        refine oGo.lload (q := 288) at_286 rfl rfl ?_
        have hv : ∀ i, i < 0 → ([(.long (0 : Int64)), (.long (0 : Int64)), (.long (0 : Int64)), (.long (0 : Int64)), (.long (0 : Int64)), (.long (0 : Int64)), (.long (0 : Int64)), (.long (0 : Int64))] : List Value)[i]? = some (Value.long (own_f s0 s1 s2 s3 i)) := (fun i hi => absurd hi (by omega))
        refine oGo.callV (W := 0) (rm := ({ frames := 0, cells := 0, slots := 0, locals := 0 } : Room)) (q := 291) (a := l) [(.long qx)] [] at_288 rfl (hw _ (List.mem_of_getElem? (i := 27) rfl)) (hw _ (List.mem_of_getElem? (i := 28) rfl)) (hw _ (List.mem_of_getElem? (i := 30) rfl)) (hw _ (List.mem_of_getElem? (i := 29) rfl)) (hw _ (List.mem_of_getElem? (i := 10) rfl)) (hw _ (List.mem_of_getElem? (i := 31) rfl)) rfl (by decide) (O.1) (cf hw l qx a 0 (own_f s0 s1 s2 s3) [(.long (0 : Int64)), (.long (0 : Int64)), (.long (0 : Int64)), (.long (0 : Int64)), (.long (0 : Int64)), (.long (0 : Int64)), (.long (0 : Int64)), (.long (0 : Int64))] h19 n0 O A (by decide) hv (fun i j hij hj => own_f_mono o1 o2 o3 i j hij (by omega))) rfl rfl own_pd3 rfl rfl (Nat.le_of_eq rfl) (by decide) (by decide) (by decide) (by decide) ?_
        rintro _ h20 ⟨⟨r, rfl, hr⟩, eh⟩
        all_goals subst h20
        show oGo Z _ _ _ _ _ _ n0 _ 2 10 h19 291 #[.val (.long q0), .second, .val (.long q1), .second, .val (.long q2), .second, .val (.long q3), .second, .val (.long qq), .second, .val (.int m), .val (.int (Int32.ofNat 0)), .val (.long u0), .second, .val (.long u1), .second, .val (.long u2), .second, .val (.long u3), .second, .val (.long s0), .second, .val (.long t2), .second, .val (.long t1), .second, .val (.long s3), .second, .val (.long s1), .second, .val (.long s2), .second, .val (.int (((m.toUInt32 >>> ((4 : Int32) &&& 31).toUInt32).toInt32) &&& (3 : Int32))), .val (.long qx), .second, .val (.ref l), .val (.int (Int32.ofNat e)), .unset] [(.int (Int32.ofNat r))]
        obtain rfl := own_fa_eq hr he h1 h2
        refine oGo.istore (q := 293) (L' := #[.val (.long q0), .second, .val (.long q1), .second, .val (.long q2), .second, .val (.long q3), .second, .val (.long qq), .second, .val (.int m), .val (.int (Int32.ofNat 0)), .val (.long u0), .second, .val (.long u1), .second, .val (.long u2), .second, .val (.long u3), .second, .val (.long s0), .second, .val (.long t2), .second, .val (.long t1), .second, .val (.long s3), .second, .val (.long s1), .second, .val (.long s2), .second, .val (.int (((m.toUInt32 >>> ((4 : Int32) &&& 31).toUInt32).toInt32) &&& (3 : Int32))), .val (.long qx), .second, .val (.ref l), .val (.int (Int32.ofNat r)), .val (.int (Int32.ofNat r))]) at_291 rfl rfl ?_
        refine oGo.iload (q := 295) at_293 rfl rfl ?_
        refine oGo.iload (q := 297) at_295 rfl rfl ?_
        refine oGo.icmp_ne (q := 304) (r := 300) at_297 (by decide) rfl (fun hc => absurd rfl hc) (fun hc => ?_)
        refine oGo.iconst (q := 301) (v := (1 : Int32)) at_300 rfl rfl ?_
        refine oGo.goto (q := 305) at_301 (by decide) ?_
        exact oGo.retN (t := .boolean) at_305 rfl (by simp) (by decide) (by decide) (rfl)
      refine oGo.if_le (q := 233) (r := 222) at_219 (by decide) rfl (fun hc => ?_) (fun hc => absurd hc (by decide))
      refine oGo.iload (q := 235) at_233 rfl rfl ?_
      refine oGo.iconst (q := 236) (v := (1 : Int32)) at_235 rfl rfl ?_
      refine oGo.icmp_le (q := 250) (r := 239) at_236 (by decide) rfl (fun hc => ?_) (fun hc => absurd hc (by decide))
      refine oGo.iload (q := 252) at_250 rfl rfl ?_
      refine oGo.iconst (q := 253) (v := (2 : Int32)) at_252 rfl rfl ?_
      refine oGo.icmp_le (q := 267) (r := 256) at_253 (by decide) rfl (fun hc => ?_) (fun hc => absurd hc (by decide))
      refine oGo.iload (q := 269) at_267 rfl rfl ?_
      refine oGo.iconst (q := 270) (v := (3 : Int32)) at_269 rfl rfl ?_
      refine oGo.icmp_le (q := 284) (r := 273) at_270 (by decide) rfl (fun hc => ?_) (fun hc => absurd hc (by decide))
      exact J284 0 (by omega) (fun i hi => absurd hi (by omega)) (fun u => absurd u (by omega))
    · skip -- k = 1
      refine oGo.if_le (q := 175) (r := 168) at_165 (by decide) rfl (fun hc => absurd hc (by decide)) (fun hc => ?_)
      refine oGo.aload (q := 170) at_168 rfl rfl rfl ?_
      refine oGo.lload (q := 172) at_170 rfl rfl ?_
      refine oGo.callV (W := 0) (rm := ({ frames := 0, cells := 0, slots := 0, locals := 0 } : Room)) (q := 175) (a := l) [(.long s0)] [] at_172 rfl (hw _ (List.mem_of_getElem? (i := 20) rfl)) (hw _ (List.mem_of_getElem? (i := 21) rfl)) (hw _ (List.mem_of_getElem? (i := 23) rfl)) (hw _ (List.mem_of_getElem? (i := 22) rfl)) (hw _ (List.mem_of_getElem? (i := 10) rfl)) (hw _ (List.mem_of_getElem? (i := 24) rfl)) rfl (by decide) (O.1) (ca hw l s0 a 0 1 0 [(.long (0 : Int64)), (.long (0 : Int64)), (.long (0 : Int64)), (.long (0 : Int64)), (.long (0 : Int64)), (.long (0 : Int64)), (.long (0 : Int64)), (.long (0 : Int64))] [(.long s0), (.long (0 : Int64)), (.long (0 : Int64)), (.long (0 : Int64)), (.long (0 : Int64)), (.long (0 : Int64)), (.long (0 : Int64)), (.long (0 : Int64))] h19 n0 gl ga nal O A rfl (Nat.le_of_ble_eq_true rfl) (Nat.le_of_ble_eq_true rfl) (by decide) rfl) rfl rfl own_pd2 rfl rfl (Nat.le_of_eq rfl) (by decide) (by decide) (by decide) (by decide) ?_
      rintro _ h21 ⟨rfl, K0, O0, A0⟩
      show oGo Z _ _ _ _ _ _ n0 _ 2 10 h21 175 #[.val (.long q0), .second, .val (.long q1), .second, .val (.long q2), .second, .val (.long q3), .second, .val (.long qq), .second, .val (.int m), .val (.int (Int32.ofNat 1)), .val (.long u0), .second, .val (.long u1), .second, .val (.long u2), .second, .val (.long u3), .second, .val (.long s0), .second, .val (.long t2), .second, .val (.long t1), .second, .val (.long s3), .second, .val (.long s1), .second, .val (.long s2), .second, .val (.int (((m.toUInt32 >>> ((4 : Int32) &&& 31).toUInt32).toInt32) &&& (3 : Int32))), .val (.long qx), .second, .val (.ref l), .unset, .unset] []
      refine oGo.iload (q := 177) at_175 rfl rfl ?_
      refine oGo.iconst (q := 178) (v := (1 : Int32)) at_177 rfl rfl ?_
      refine oGo.icmp_le (q := 188) (r := 181) at_178 (by decide) rfl (fun hc => ?_) (fun hc => absurd hc (by decide))
      refine oGo.iload (q := 190) at_188 rfl rfl ?_
      refine oGo.iconst (q := 191) (v := (2 : Int32)) at_190 rfl rfl ?_
      refine oGo.icmp_le (q := 201) (r := 194) at_191 (by decide) rfl (fun hc => ?_) (fun hc => absurd hc (by decide))
      refine oGo.iload (q := 203) at_201 rfl rfl ?_
      refine oGo.iconst (q := 204) (v := (3 : Int32)) at_203 rfl rfl ?_
      refine oGo.icmp_le (q := 214) (r := 207) at_204 (by decide) rfl (fun hc => ?_) (fun hc => absurd hc (by decide))
      refine oGo.iconst (q := 215) (v := (0 : Int32)) at_214 rfl rfl ?_
      refine oGo.istore (q := 217) (L' := #[.val (.long q0), .second, .val (.long q1), .second, .val (.long q2), .second, .val (.long q3), .second, .val (.long qq), .second, .val (.int m), .val (.int (Int32.ofNat 1)), .val (.long u0), .second, .val (.long u1), .second, .val (.long u2), .second, .val (.long u3), .second, .val (.long s0), .second, .val (.long t2), .second, .val (.long t1), .second, .val (.long s3), .second, .val (.long s1), .second, .val (.long s2), .second, .val (.int (((m.toUInt32 >>> ((4 : Int32) &&& 31).toUInt32).toInt32) &&& (3 : Int32))), .val (.long qx), .second, .val (.ref l), .val (.int (0 : Int32)), .unset]) at_215 rfl rfl ?_
      refine oGo.iload (q := 219) at_217 rfl rfl ?_
      have J284 : ∀ (e : Nat), e ≤ 1 → (∀ i, i < e → (own_f s0 s1 s2 s3 i).toInt ≤ qx.toInt) → (e < 1 → qx.toInt < (own_f s0 s1 s2 s3 e).toInt) → oGo Z x.cls x.name code maxLocals ret room_1 n0 (fun v _ => v = some (.int 1)) 2 10 h21 284 #[.val (.long q0), .second, .val (.long q1), .second, .val (.long q2), .second, .val (.long q3), .second, .val (.long qq), .second, .val (.int m), .val (.int (Int32.ofNat 1)), .val (.long u0), .second, .val (.long u1), .second, .val (.long u2), .second, .val (.long u3), .second, .val (.long s0), .second, .val (.long t2), .second, .val (.long t1), .second, .val (.long s3), .second, .val (.long s1), .second, .val (.long s2), .second, .val (.int (((m.toUInt32 >>> ((4 : Int32) &&& 31).toUInt32).toInt32) &&& (3 : Int32))), .val (.long qx), .second, .val (.ref l), .val (.int (Int32.ofNat e)), .unset] [] := by
        intro e he h1 h2
        refine oGo.aload (q := 286) at_284 rfl rfl rfl ?_
        refine oGo.lload (q := 288) at_286 rfl rfl ?_
        have hv : ∀ i, i < 1 → ([(.long s0), (.long (0 : Int64)), (.long (0 : Int64)), (.long (0 : Int64)), (.long (0 : Int64)), (.long (0 : Int64)), (.long (0 : Int64)), (.long (0 : Int64))] : List Value)[i]? = some (Value.long (own_f s0 s1 s2 s3 i)) := (fun i hi => by
          match i, hi with
          | 0, _ => rfl)
        refine oGo.callV (W := 0) (rm := ({ frames := 0, cells := 0, slots := 0, locals := 0 } : Room)) (q := 291) (a := l) [(.long qx)] [] at_288 rfl (hw _ (List.mem_of_getElem? (i := 27) rfl)) (hw _ (List.mem_of_getElem? (i := 28) rfl)) (hw _ (List.mem_of_getElem? (i := 30) rfl)) (hw _ (List.mem_of_getElem? (i := 29) rfl)) (hw _ (List.mem_of_getElem? (i := 10) rfl)) (hw _ (List.mem_of_getElem? (i := 31) rfl)) rfl (by decide) (O0.1) (cf hw l qx a 1 (own_f s0 s1 s2 s3) [(.long s0), (.long (0 : Int64)), (.long (0 : Int64)), (.long (0 : Int64)), (.long (0 : Int64)), (.long (0 : Int64)), (.long (0 : Int64)), (.long (0 : Int64))] h21 n0 O0 A0 (by decide) hv (fun i j hij hj => own_f_mono o1 o2 o3 i j hij (by omega))) rfl rfl own_pd3 rfl rfl (Nat.le_of_eq rfl) (by decide) (by decide) (by decide) (by decide) ?_
        rintro _ h22 ⟨⟨r, rfl, hr⟩, eh⟩
        all_goals subst h22
        show oGo Z _ _ _ _ _ _ n0 _ 2 10 h21 291 #[.val (.long q0), .second, .val (.long q1), .second, .val (.long q2), .second, .val (.long q3), .second, .val (.long qq), .second, .val (.int m), .val (.int (Int32.ofNat 1)), .val (.long u0), .second, .val (.long u1), .second, .val (.long u2), .second, .val (.long u3), .second, .val (.long s0), .second, .val (.long t2), .second, .val (.long t1), .second, .val (.long s3), .second, .val (.long s1), .second, .val (.long s2), .second, .val (.int (((m.toUInt32 >>> ((4 : Int32) &&& 31).toUInt32).toInt32) &&& (3 : Int32))), .val (.long qx), .second, .val (.ref l), .val (.int (Int32.ofNat e)), .unset] [(.int (Int32.ofNat r))]
        obtain rfl := own_fa_eq hr he h1 h2
        refine oGo.istore (q := 293) (L' := #[.val (.long q0), .second, .val (.long q1), .second, .val (.long q2), .second, .val (.long q3), .second, .val (.long qq), .second, .val (.int m), .val (.int (Int32.ofNat 1)), .val (.long u0), .second, .val (.long u1), .second, .val (.long u2), .second, .val (.long u3), .second, .val (.long s0), .second, .val (.long t2), .second, .val (.long t1), .second, .val (.long s3), .second, .val (.long s1), .second, .val (.long s2), .second, .val (.int (((m.toUInt32 >>> ((4 : Int32) &&& 31).toUInt32).toInt32) &&& (3 : Int32))), .val (.long qx), .second, .val (.ref l), .val (.int (Int32.ofNat r)), .val (.int (Int32.ofNat r))]) at_291 rfl rfl ?_
        refine oGo.iload (q := 295) at_293 rfl rfl ?_
        refine oGo.iload (q := 297) at_295 rfl rfl ?_
        refine oGo.icmp_ne (q := 304) (r := 300) at_297 (by decide) rfl (fun hc => absurd rfl hc) (fun hc => ?_)
        refine oGo.iconst (q := 301) (v := (1 : Int32)) at_300 rfl rfl ?_
        refine oGo.goto (q := 305) at_301 (by decide) ?_
        exact oGo.retN (t := .boolean) at_305 rfl (by simp) (by decide) (by decide) (rfl)
      refine oGo.if_le (q := 233) (r := 222) at_219 (by decide) rfl (fun hc => absurd hc (by decide)) (fun hc => ?_)
      refine oGo.lload (q := 224) at_222 rfl rfl ?_
      refine oGo.lload (q := 226) at_224 rfl rfl ?_
      refine oGo.lif_gt (pc2 := 227) (q := 233) (r := 230) at_226 rfl at_227 (by decide) rfl (fun c0 => ?_) (fun c0 => ?_)
      · skip
        refine oGo.iload (q := 235) at_233 rfl rfl ?_
        refine oGo.iconst (q := 236) (v := (1 : Int32)) at_235 rfl rfl ?_
        refine oGo.icmp_le (q := 250) (r := 239) at_236 (by decide) rfl (fun hc => ?_) (fun hc => absurd hc (by decide))
        refine oGo.iload (q := 252) at_250 rfl rfl ?_
        refine oGo.iconst (q := 253) (v := (2 : Int32)) at_252 rfl rfl ?_
        refine oGo.icmp_le (q := 267) (r := 256) at_253 (by decide) rfl (fun hc => ?_) (fun hc => absurd hc (by decide))
        refine oGo.iload (q := 269) at_267 rfl rfl ?_
        refine oGo.iconst (q := 270) (v := (3 : Int32)) at_269 rfl rfl ?_
        refine oGo.icmp_le (q := 284) (r := 273) at_270 (by decide) rfl (fun hc => ?_) (fun hc => absurd hc (by decide))
        exact J284 0 (by omega) (fun i hi => absurd hi (by omega)) (fun _ => c0)
      · skip
        refine oGo.iinc (q := 233) (v := (1 : Int32)) (L' := #[.val (.long q0), .second, .val (.long q1), .second, .val (.long q2), .second, .val (.long q3), .second, .val (.long qq), .second, .val (.int m), .val (.int (Int32.ofNat 1)), .val (.long u0), .second, .val (.long u1), .second, .val (.long u2), .second, .val (.long u3), .second, .val (.long s0), .second, .val (.long t2), .second, .val (.long t1), .second, .val (.long s3), .second, .val (.long s1), .second, .val (.long s2), .second, .val (.int (((m.toUInt32 >>> ((4 : Int32) &&& 31).toUInt32).toInt32) &&& (3 : Int32))), .val (.long qx), .second, .val (.ref l), .val (.int (1 : Int32)), .unset]) at_230 rfl rfl (by decide) rfl ?_
        refine oGo.iload (q := 235) at_233 rfl rfl ?_
        refine oGo.iconst (q := 236) (v := (1 : Int32)) at_235 rfl rfl ?_
        refine oGo.icmp_le (q := 250) (r := 239) at_236 (by decide) rfl (fun hc => ?_) (fun hc => absurd hc (by decide))
        refine oGo.iload (q := 252) at_250 rfl rfl ?_
        refine oGo.iconst (q := 253) (v := (2 : Int32)) at_252 rfl rfl ?_
        refine oGo.icmp_le (q := 267) (r := 256) at_253 (by decide) rfl (fun hc => ?_) (fun hc => absurd hc (by decide))
        refine oGo.iload (q := 269) at_267 rfl rfl ?_
        refine oGo.iconst (q := 270) (v := (3 : Int32)) at_269 rfl rfl ?_
        refine oGo.icmp_le (q := 284) (r := 273) at_270 (by decide) rfl (fun hc => ?_) (fun hc => absurd hc (by decide))
        exact J284 1 (by omega) (fun i hi => by
          match i, hi with
          | 0, _ => exact c0) (fun u => absurd u (by omega))
    · skip -- k = 2
      refine oGo.if_le (q := 175) (r := 168) at_165 (by decide) rfl (fun hc => absurd hc (by decide)) (fun hc => ?_)
      refine oGo.aload (q := 170) at_168 rfl rfl rfl ?_
      refine oGo.lload (q := 172) at_170 rfl rfl ?_
      refine oGo.callV (W := 0) (rm := ({ frames := 0, cells := 0, slots := 0, locals := 0 } : Room)) (q := 175) (a := l) [(.long s0)] [] at_172 rfl (hw _ (List.mem_of_getElem? (i := 20) rfl)) (hw _ (List.mem_of_getElem? (i := 21) rfl)) (hw _ (List.mem_of_getElem? (i := 23) rfl)) (hw _ (List.mem_of_getElem? (i := 22) rfl)) (hw _ (List.mem_of_getElem? (i := 10) rfl)) (hw _ (List.mem_of_getElem? (i := 24) rfl)) rfl (by decide) (O.1) (ca hw l s0 a 0 1 0 [(.long (0 : Int64)), (.long (0 : Int64)), (.long (0 : Int64)), (.long (0 : Int64)), (.long (0 : Int64)), (.long (0 : Int64)), (.long (0 : Int64)), (.long (0 : Int64))] [(.long s0), (.long (0 : Int64)), (.long (0 : Int64)), (.long (0 : Int64)), (.long (0 : Int64)), (.long (0 : Int64)), (.long (0 : Int64)), (.long (0 : Int64))] h19 n0 gl ga nal O A rfl (Nat.le_of_ble_eq_true rfl) (Nat.le_of_ble_eq_true rfl) (by decide) rfl) rfl rfl own_pd2 rfl rfl (Nat.le_of_eq rfl) (by decide) (by decide) (by decide) (by decide) ?_
      rintro _ h23 ⟨rfl, K0, O0, A0⟩
      show oGo Z _ _ _ _ _ _ n0 _ 2 10 h23 175 #[.val (.long q0), .second, .val (.long q1), .second, .val (.long q2), .second, .val (.long q3), .second, .val (.long qq), .second, .val (.int m), .val (.int (Int32.ofNat 2)), .val (.long u0), .second, .val (.long u1), .second, .val (.long u2), .second, .val (.long u3), .second, .val (.long s0), .second, .val (.long t2), .second, .val (.long t1), .second, .val (.long s3), .second, .val (.long s1), .second, .val (.long s2), .second, .val (.int (((m.toUInt32 >>> ((4 : Int32) &&& 31).toUInt32).toInt32) &&& (3 : Int32))), .val (.long qx), .second, .val (.ref l), .unset, .unset] []
      refine oGo.iload (q := 177) at_175 rfl rfl ?_
      refine oGo.iconst (q := 178) (v := (1 : Int32)) at_177 rfl rfl ?_
      refine oGo.icmp_le (q := 188) (r := 181) at_178 (by decide) rfl (fun hc => absurd hc (by decide)) (fun hc => ?_)
      refine oGo.aload (q := 183) at_181 rfl rfl rfl ?_
      refine oGo.lload (q := 185) at_183 rfl rfl ?_
      refine oGo.callV (W := 0) (rm := ({ frames := 0, cells := 0, slots := 0, locals := 0 } : Room)) (q := 188) (a := l) [(.long s1)] [] at_185 rfl (hw _ (List.mem_of_getElem? (i := 20) rfl)) (hw _ (List.mem_of_getElem? (i := 21) rfl)) (hw _ (List.mem_of_getElem? (i := 23) rfl)) (hw _ (List.mem_of_getElem? (i := 22) rfl)) (hw _ (List.mem_of_getElem? (i := 10) rfl)) (hw _ (List.mem_of_getElem? (i := 24) rfl)) rfl (by decide) (O0.1) (ca hw l s1 a 1 2 1 [(.long s0), (.long (0 : Int64)), (.long (0 : Int64)), (.long (0 : Int64)), (.long (0 : Int64)), (.long (0 : Int64)), (.long (0 : Int64)), (.long (0 : Int64))] [(.long s0), (.long s1), (.long (0 : Int64)), (.long (0 : Int64)), (.long (0 : Int64)), (.long (0 : Int64)), (.long (0 : Int64)), (.long (0 : Int64))] h23 n0 gl ga nal O0 A0 rfl (Nat.le_of_ble_eq_true rfl) (Nat.le_of_ble_eq_true rfl) (by decide) rfl) rfl rfl own_pd2 rfl rfl (Nat.le_of_eq rfl) (by decide) (by decide) (by decide) (by decide) ?_
      rintro _ h24 ⟨rfl, K1, O1, A1⟩
      show oGo Z _ _ _ _ _ _ n0 _ 2 10 h24 188 #[.val (.long q0), .second, .val (.long q1), .second, .val (.long q2), .second, .val (.long q3), .second, .val (.long qq), .second, .val (.int m), .val (.int (Int32.ofNat 2)), .val (.long u0), .second, .val (.long u1), .second, .val (.long u2), .second, .val (.long u3), .second, .val (.long s0), .second, .val (.long t2), .second, .val (.long t1), .second, .val (.long s3), .second, .val (.long s1), .second, .val (.long s2), .second, .val (.int (((m.toUInt32 >>> ((4 : Int32) &&& 31).toUInt32).toInt32) &&& (3 : Int32))), .val (.long qx), .second, .val (.ref l), .unset, .unset] []
      refine oGo.iload (q := 190) at_188 rfl rfl ?_
      refine oGo.iconst (q := 191) (v := (2 : Int32)) at_190 rfl rfl ?_
      refine oGo.icmp_le (q := 201) (r := 194) at_191 (by decide) rfl (fun hc => ?_) (fun hc => absurd hc (by decide))
      refine oGo.iload (q := 203) at_201 rfl rfl ?_
      refine oGo.iconst (q := 204) (v := (3 : Int32)) at_203 rfl rfl ?_
      refine oGo.icmp_le (q := 214) (r := 207) at_204 (by decide) rfl (fun hc => ?_) (fun hc => absurd hc (by decide))
      refine oGo.iconst (q := 215) (v := (0 : Int32)) at_214 rfl rfl ?_
      refine oGo.istore (q := 217) (L' := #[.val (.long q0), .second, .val (.long q1), .second, .val (.long q2), .second, .val (.long q3), .second, .val (.long qq), .second, .val (.int m), .val (.int (Int32.ofNat 2)), .val (.long u0), .second, .val (.long u1), .second, .val (.long u2), .second, .val (.long u3), .second, .val (.long s0), .second, .val (.long t2), .second, .val (.long t1), .second, .val (.long s3), .second, .val (.long s1), .second, .val (.long s2), .second, .val (.int (((m.toUInt32 >>> ((4 : Int32) &&& 31).toUInt32).toInt32) &&& (3 : Int32))), .val (.long qx), .second, .val (.ref l), .val (.int (0 : Int32)), .unset]) at_215 rfl rfl ?_
      refine oGo.iload (q := 219) at_217 rfl rfl ?_
      have J284 : ∀ (e : Nat), e ≤ 2 → (∀ i, i < e → (own_f s0 s1 s2 s3 i).toInt ≤ qx.toInt) → (e < 2 → qx.toInt < (own_f s0 s1 s2 s3 e).toInt) → oGo Z x.cls x.name code maxLocals ret room_1 n0 (fun v _ => v = some (.int 1)) 2 10 h24 284 #[.val (.long q0), .second, .val (.long q1), .second, .val (.long q2), .second, .val (.long q3), .second, .val (.long qq), .second, .val (.int m), .val (.int (Int32.ofNat 2)), .val (.long u0), .second, .val (.long u1), .second, .val (.long u2), .second, .val (.long u3), .second, .val (.long s0), .second, .val (.long t2), .second, .val (.long t1), .second, .val (.long s3), .second, .val (.long s1), .second, .val (.long s2), .second, .val (.int (((m.toUInt32 >>> ((4 : Int32) &&& 31).toUInt32).toInt32) &&& (3 : Int32))), .val (.long qx), .second, .val (.ref l), .val (.int (Int32.ofNat e)), .unset] [] := by
        intro e he h1 h2
        refine oGo.aload (q := 286) at_284 rfl rfl rfl ?_
        refine oGo.lload (q := 288) at_286 rfl rfl ?_
        have hv : ∀ i, i < 2 → ([(.long s0), (.long s1), (.long (0 : Int64)), (.long (0 : Int64)), (.long (0 : Int64)), (.long (0 : Int64)), (.long (0 : Int64)), (.long (0 : Int64))] : List Value)[i]? = some (Value.long (own_f s0 s1 s2 s3 i)) := (fun i hi => by
          match i, hi with
          | 0, _ => rfl
          | 1, _ => rfl)
        refine oGo.callV (W := 0) (rm := ({ frames := 0, cells := 0, slots := 0, locals := 0 } : Room)) (q := 291) (a := l) [(.long qx)] [] at_288 rfl (hw _ (List.mem_of_getElem? (i := 27) rfl)) (hw _ (List.mem_of_getElem? (i := 28) rfl)) (hw _ (List.mem_of_getElem? (i := 30) rfl)) (hw _ (List.mem_of_getElem? (i := 29) rfl)) (hw _ (List.mem_of_getElem? (i := 10) rfl)) (hw _ (List.mem_of_getElem? (i := 31) rfl)) rfl (by decide) (O1.1) (cf hw l qx a 2 (own_f s0 s1 s2 s3) [(.long s0), (.long s1), (.long (0 : Int64)), (.long (0 : Int64)), (.long (0 : Int64)), (.long (0 : Int64)), (.long (0 : Int64)), (.long (0 : Int64))] h24 n0 O1 A1 (by decide) hv (fun i j hij hj => own_f_mono o1 o2 o3 i j hij (by omega))) rfl rfl own_pd3 rfl rfl (Nat.le_of_eq rfl) (by decide) (by decide) (by decide) (by decide) ?_
        rintro _ h25 ⟨⟨r, rfl, hr⟩, eh⟩
        all_goals subst h25
        show oGo Z _ _ _ _ _ _ n0 _ 2 10 h24 291 #[.val (.long q0), .second, .val (.long q1), .second, .val (.long q2), .second, .val (.long q3), .second, .val (.long qq), .second, .val (.int m), .val (.int (Int32.ofNat 2)), .val (.long u0), .second, .val (.long u1), .second, .val (.long u2), .second, .val (.long u3), .second, .val (.long s0), .second, .val (.long t2), .second, .val (.long t1), .second, .val (.long s3), .second, .val (.long s1), .second, .val (.long s2), .second, .val (.int (((m.toUInt32 >>> ((4 : Int32) &&& 31).toUInt32).toInt32) &&& (3 : Int32))), .val (.long qx), .second, .val (.ref l), .val (.int (Int32.ofNat e)), .unset] [(.int (Int32.ofNat r))]
        obtain rfl := own_fa_eq hr he h1 h2
        refine oGo.istore (q := 293) (L' := #[.val (.long q0), .second, .val (.long q1), .second, .val (.long q2), .second, .val (.long q3), .second, .val (.long qq), .second, .val (.int m), .val (.int (Int32.ofNat 2)), .val (.long u0), .second, .val (.long u1), .second, .val (.long u2), .second, .val (.long u3), .second, .val (.long s0), .second, .val (.long t2), .second, .val (.long t1), .second, .val (.long s3), .second, .val (.long s1), .second, .val (.long s2), .second, .val (.int (((m.toUInt32 >>> ((4 : Int32) &&& 31).toUInt32).toInt32) &&& (3 : Int32))), .val (.long qx), .second, .val (.ref l), .val (.int (Int32.ofNat r)), .val (.int (Int32.ofNat r))]) at_291 rfl rfl ?_
        refine oGo.iload (q := 295) at_293 rfl rfl ?_
        refine oGo.iload (q := 297) at_295 rfl rfl ?_
        refine oGo.icmp_ne (q := 304) (r := 300) at_297 (by decide) rfl (fun hc => absurd rfl hc) (fun hc => ?_)
        refine oGo.iconst (q := 301) (v := (1 : Int32)) at_300 rfl rfl ?_
        refine oGo.goto (q := 305) at_301 (by decide) ?_
        exact oGo.retN (t := .boolean) at_305 rfl (by simp) (by decide) (by decide) (rfl)
      refine oGo.if_le (q := 233) (r := 222) at_219 (by decide) rfl (fun hc => absurd hc (by decide)) (fun hc => ?_)
      refine oGo.lload (q := 224) at_222 rfl rfl ?_
      refine oGo.lload (q := 226) at_224 rfl rfl ?_
      refine oGo.lif_gt (pc2 := 227) (q := 233) (r := 230) at_226 rfl at_227 (by decide) rfl (fun c0 => ?_) (fun c0 => ?_)
      · skip
        refine oGo.iload (q := 235) at_233 rfl rfl ?_
        refine oGo.iconst (q := 236) (v := (1 : Int32)) at_235 rfl rfl ?_
        refine oGo.icmp_le (q := 250) (r := 239) at_236 (by decide) rfl (fun hc => absurd hc (by decide)) (fun hc => ?_)
        refine oGo.lload (q := 241) at_239 rfl rfl ?_
        refine oGo.lload (q := 243) at_241 rfl rfl ?_
        refine oGo.lif_gt (pc2 := 244) (q := 250) (r := 247) at_243 rfl at_244 (by decide) rfl (fun hc => ?_) (fun hc => absurd hc (by omega))
        refine oGo.iload (q := 252) at_250 rfl rfl ?_
        refine oGo.iconst (q := 253) (v := (2 : Int32)) at_252 rfl rfl ?_
        refine oGo.icmp_le (q := 267) (r := 256) at_253 (by decide) rfl (fun hc => ?_) (fun hc => absurd hc (by decide))
        refine oGo.iload (q := 269) at_267 rfl rfl ?_
        refine oGo.iconst (q := 270) (v := (3 : Int32)) at_269 rfl rfl ?_
        refine oGo.icmp_le (q := 284) (r := 273) at_270 (by decide) rfl (fun hc => ?_) (fun hc => absurd hc (by decide))
        exact J284 0 (by omega) (fun i hi => absurd hi (by omega)) (fun _ => c0)
      · skip
        refine oGo.iinc (q := 233) (v := (1 : Int32)) (L' := #[.val (.long q0), .second, .val (.long q1), .second, .val (.long q2), .second, .val (.long q3), .second, .val (.long qq), .second, .val (.int m), .val (.int (Int32.ofNat 2)), .val (.long u0), .second, .val (.long u1), .second, .val (.long u2), .second, .val (.long u3), .second, .val (.long s0), .second, .val (.long t2), .second, .val (.long t1), .second, .val (.long s3), .second, .val (.long s1), .second, .val (.long s2), .second, .val (.int (((m.toUInt32 >>> ((4 : Int32) &&& 31).toUInt32).toInt32) &&& (3 : Int32))), .val (.long qx), .second, .val (.ref l), .val (.int (1 : Int32)), .unset]) at_230 rfl rfl (by decide) rfl ?_
        refine oGo.iload (q := 235) at_233 rfl rfl ?_
        refine oGo.iconst (q := 236) (v := (1 : Int32)) at_235 rfl rfl ?_
        refine oGo.icmp_le (q := 250) (r := 239) at_236 (by decide) rfl (fun hc => absurd hc (by decide)) (fun hc => ?_)
        refine oGo.lload (q := 241) at_239 rfl rfl ?_
        refine oGo.lload (q := 243) at_241 rfl rfl ?_
        refine oGo.lif_gt (pc2 := 244) (q := 250) (r := 247) at_243 rfl at_244 (by decide) rfl (fun c1 => ?_) (fun c1 => ?_)
        · skip
          refine oGo.iload (q := 252) at_250 rfl rfl ?_
          refine oGo.iconst (q := 253) (v := (2 : Int32)) at_252 rfl rfl ?_
          refine oGo.icmp_le (q := 267) (r := 256) at_253 (by decide) rfl (fun hc => ?_) (fun hc => absurd hc (by decide))
          refine oGo.iload (q := 269) at_267 rfl rfl ?_
          refine oGo.iconst (q := 270) (v := (3 : Int32)) at_269 rfl rfl ?_
          refine oGo.icmp_le (q := 284) (r := 273) at_270 (by decide) rfl (fun hc => ?_) (fun hc => absurd hc (by decide))
          exact J284 1 (by omega) (fun i hi => by
            match i, hi with
            | 0, _ => exact c0) (fun _ => c1)
        · skip
          refine oGo.iinc (q := 250) (v := (2 : Int32)) (L' := #[.val (.long q0), .second, .val (.long q1), .second, .val (.long q2), .second, .val (.long q3), .second, .val (.long qq), .second, .val (.int m), .val (.int (Int32.ofNat 2)), .val (.long u0), .second, .val (.long u1), .second, .val (.long u2), .second, .val (.long u3), .second, .val (.long s0), .second, .val (.long t2), .second, .val (.long t1), .second, .val (.long s3), .second, .val (.long s1), .second, .val (.long s2), .second, .val (.int (((m.toUInt32 >>> ((4 : Int32) &&& 31).toUInt32).toInt32) &&& (3 : Int32))), .val (.long qx), .second, .val (.ref l), .val (.int (2 : Int32)), .unset]) at_247 rfl rfl (by decide) rfl ?_
          refine oGo.iload (q := 252) at_250 rfl rfl ?_
          refine oGo.iconst (q := 253) (v := (2 : Int32)) at_252 rfl rfl ?_
          refine oGo.icmp_le (q := 267) (r := 256) at_253 (by decide) rfl (fun hc => ?_) (fun hc => absurd hc (by decide))
          refine oGo.iload (q := 269) at_267 rfl rfl ?_
          refine oGo.iconst (q := 270) (v := (3 : Int32)) at_269 rfl rfl ?_
          refine oGo.icmp_le (q := 284) (r := 273) at_270 (by decide) rfl (fun hc => ?_) (fun hc => absurd hc (by decide))
          exact J284 2 (by omega) (fun i hi => by
            match i, hi with
            | 0, _ => exact c0
            | 1, _ => exact c1) (fun u => absurd u (by omega))
    · skip -- k = 3
      refine oGo.if_le (q := 175) (r := 168) at_165 (by decide) rfl (fun hc => absurd hc (by decide)) (fun hc => ?_)
      refine oGo.aload (q := 170) at_168 rfl rfl rfl ?_
      refine oGo.lload (q := 172) at_170 rfl rfl ?_
      refine oGo.callV (W := 0) (rm := ({ frames := 0, cells := 0, slots := 0, locals := 0 } : Room)) (q := 175) (a := l) [(.long s0)] [] at_172 rfl (hw _ (List.mem_of_getElem? (i := 20) rfl)) (hw _ (List.mem_of_getElem? (i := 21) rfl)) (hw _ (List.mem_of_getElem? (i := 23) rfl)) (hw _ (List.mem_of_getElem? (i := 22) rfl)) (hw _ (List.mem_of_getElem? (i := 10) rfl)) (hw _ (List.mem_of_getElem? (i := 24) rfl)) rfl (by decide) (O.1) (ca hw l s0 a 0 1 0 [(.long (0 : Int64)), (.long (0 : Int64)), (.long (0 : Int64)), (.long (0 : Int64)), (.long (0 : Int64)), (.long (0 : Int64)), (.long (0 : Int64)), (.long (0 : Int64))] [(.long s0), (.long (0 : Int64)), (.long (0 : Int64)), (.long (0 : Int64)), (.long (0 : Int64)), (.long (0 : Int64)), (.long (0 : Int64)), (.long (0 : Int64))] h19 n0 gl ga nal O A rfl (Nat.le_of_ble_eq_true rfl) (Nat.le_of_ble_eq_true rfl) (by decide) rfl) rfl rfl own_pd2 rfl rfl (Nat.le_of_eq rfl) (by decide) (by decide) (by decide) (by decide) ?_
      rintro _ h26 ⟨rfl, K0, O0, A0⟩
      show oGo Z _ _ _ _ _ _ n0 _ 2 10 h26 175 #[.val (.long q0), .second, .val (.long q1), .second, .val (.long q2), .second, .val (.long q3), .second, .val (.long qq), .second, .val (.int m), .val (.int (Int32.ofNat 3)), .val (.long u0), .second, .val (.long u1), .second, .val (.long u2), .second, .val (.long u3), .second, .val (.long s0), .second, .val (.long t2), .second, .val (.long t1), .second, .val (.long s3), .second, .val (.long s1), .second, .val (.long s2), .second, .val (.int (((m.toUInt32 >>> ((4 : Int32) &&& 31).toUInt32).toInt32) &&& (3 : Int32))), .val (.long qx), .second, .val (.ref l), .unset, .unset] []
      refine oGo.iload (q := 177) at_175 rfl rfl ?_
      refine oGo.iconst (q := 178) (v := (1 : Int32)) at_177 rfl rfl ?_
      refine oGo.icmp_le (q := 188) (r := 181) at_178 (by decide) rfl (fun hc => absurd hc (by decide)) (fun hc => ?_)
      refine oGo.aload (q := 183) at_181 rfl rfl rfl ?_
      refine oGo.lload (q := 185) at_183 rfl rfl ?_
      refine oGo.callV (W := 0) (rm := ({ frames := 0, cells := 0, slots := 0, locals := 0 } : Room)) (q := 188) (a := l) [(.long s1)] [] at_185 rfl (hw _ (List.mem_of_getElem? (i := 20) rfl)) (hw _ (List.mem_of_getElem? (i := 21) rfl)) (hw _ (List.mem_of_getElem? (i := 23) rfl)) (hw _ (List.mem_of_getElem? (i := 22) rfl)) (hw _ (List.mem_of_getElem? (i := 10) rfl)) (hw _ (List.mem_of_getElem? (i := 24) rfl)) rfl (by decide) (O0.1) (ca hw l s1 a 1 2 1 [(.long s0), (.long (0 : Int64)), (.long (0 : Int64)), (.long (0 : Int64)), (.long (0 : Int64)), (.long (0 : Int64)), (.long (0 : Int64)), (.long (0 : Int64))] [(.long s0), (.long s1), (.long (0 : Int64)), (.long (0 : Int64)), (.long (0 : Int64)), (.long (0 : Int64)), (.long (0 : Int64)), (.long (0 : Int64))] h26 n0 gl ga nal O0 A0 rfl (Nat.le_of_ble_eq_true rfl) (Nat.le_of_ble_eq_true rfl) (by decide) rfl) rfl rfl own_pd2 rfl rfl (Nat.le_of_eq rfl) (by decide) (by decide) (by decide) (by decide) ?_
      rintro _ h27 ⟨rfl, K1, O1, A1⟩
      show oGo Z _ _ _ _ _ _ n0 _ 2 10 h27 188 #[.val (.long q0), .second, .val (.long q1), .second, .val (.long q2), .second, .val (.long q3), .second, .val (.long qq), .second, .val (.int m), .val (.int (Int32.ofNat 3)), .val (.long u0), .second, .val (.long u1), .second, .val (.long u2), .second, .val (.long u3), .second, .val (.long s0), .second, .val (.long t2), .second, .val (.long t1), .second, .val (.long s3), .second, .val (.long s1), .second, .val (.long s2), .second, .val (.int (((m.toUInt32 >>> ((4 : Int32) &&& 31).toUInt32).toInt32) &&& (3 : Int32))), .val (.long qx), .second, .val (.ref l), .unset, .unset] []
      refine oGo.iload (q := 190) at_188 rfl rfl ?_
      refine oGo.iconst (q := 191) (v := (2 : Int32)) at_190 rfl rfl ?_
      refine oGo.icmp_le (q := 201) (r := 194) at_191 (by decide) rfl (fun hc => absurd hc (by decide)) (fun hc => ?_)
      refine oGo.aload (q := 196) at_194 rfl rfl rfl ?_
      refine oGo.lload (q := 198) at_196 rfl rfl ?_
      refine oGo.callV (W := 0) (rm := ({ frames := 0, cells := 0, slots := 0, locals := 0 } : Room)) (q := 201) (a := l) [(.long s2)] [] at_198 rfl (hw _ (List.mem_of_getElem? (i := 20) rfl)) (hw _ (List.mem_of_getElem? (i := 21) rfl)) (hw _ (List.mem_of_getElem? (i := 23) rfl)) (hw _ (List.mem_of_getElem? (i := 22) rfl)) (hw _ (List.mem_of_getElem? (i := 10) rfl)) (hw _ (List.mem_of_getElem? (i := 24) rfl)) rfl (by decide) (O1.1) (ca hw l s2 a 2 3 2 [(.long s0), (.long s1), (.long (0 : Int64)), (.long (0 : Int64)), (.long (0 : Int64)), (.long (0 : Int64)), (.long (0 : Int64)), (.long (0 : Int64))] [(.long s0), (.long s1), (.long s2), (.long (0 : Int64)), (.long (0 : Int64)), (.long (0 : Int64)), (.long (0 : Int64)), (.long (0 : Int64))] h27 n0 gl ga nal O1 A1 rfl (Nat.le_of_ble_eq_true rfl) (Nat.le_of_ble_eq_true rfl) (by decide) rfl) rfl rfl own_pd2 rfl rfl (Nat.le_of_eq rfl) (by decide) (by decide) (by decide) (by decide) ?_
      rintro _ h28 ⟨rfl, K2, O2, A2⟩
      show oGo Z _ _ _ _ _ _ n0 _ 2 10 h28 201 #[.val (.long q0), .second, .val (.long q1), .second, .val (.long q2), .second, .val (.long q3), .second, .val (.long qq), .second, .val (.int m), .val (.int (Int32.ofNat 3)), .val (.long u0), .second, .val (.long u1), .second, .val (.long u2), .second, .val (.long u3), .second, .val (.long s0), .second, .val (.long t2), .second, .val (.long t1), .second, .val (.long s3), .second, .val (.long s1), .second, .val (.long s2), .second, .val (.int (((m.toUInt32 >>> ((4 : Int32) &&& 31).toUInt32).toInt32) &&& (3 : Int32))), .val (.long qx), .second, .val (.ref l), .unset, .unset] []
      refine oGo.iload (q := 203) at_201 rfl rfl ?_
      refine oGo.iconst (q := 204) (v := (3 : Int32)) at_203 rfl rfl ?_
      refine oGo.icmp_le (q := 214) (r := 207) at_204 (by decide) rfl (fun hc => ?_) (fun hc => absurd hc (by decide))
      refine oGo.iconst (q := 215) (v := (0 : Int32)) at_214 rfl rfl ?_
      refine oGo.istore (q := 217) (L' := #[.val (.long q0), .second, .val (.long q1), .second, .val (.long q2), .second, .val (.long q3), .second, .val (.long qq), .second, .val (.int m), .val (.int (Int32.ofNat 3)), .val (.long u0), .second, .val (.long u1), .second, .val (.long u2), .second, .val (.long u3), .second, .val (.long s0), .second, .val (.long t2), .second, .val (.long t1), .second, .val (.long s3), .second, .val (.long s1), .second, .val (.long s2), .second, .val (.int (((m.toUInt32 >>> ((4 : Int32) &&& 31).toUInt32).toInt32) &&& (3 : Int32))), .val (.long qx), .second, .val (.ref l), .val (.int (0 : Int32)), .unset]) at_215 rfl rfl ?_
      refine oGo.iload (q := 219) at_217 rfl rfl ?_
      have J284 : ∀ (e : Nat), e ≤ 3 → (∀ i, i < e → (own_f s0 s1 s2 s3 i).toInt ≤ qx.toInt) → (e < 3 → qx.toInt < (own_f s0 s1 s2 s3 e).toInt) → oGo Z x.cls x.name code maxLocals ret room_1 n0 (fun v _ => v = some (.int 1)) 2 10 h28 284 #[.val (.long q0), .second, .val (.long q1), .second, .val (.long q2), .second, .val (.long q3), .second, .val (.long qq), .second, .val (.int m), .val (.int (Int32.ofNat 3)), .val (.long u0), .second, .val (.long u1), .second, .val (.long u2), .second, .val (.long u3), .second, .val (.long s0), .second, .val (.long t2), .second, .val (.long t1), .second, .val (.long s3), .second, .val (.long s1), .second, .val (.long s2), .second, .val (.int (((m.toUInt32 >>> ((4 : Int32) &&& 31).toUInt32).toInt32) &&& (3 : Int32))), .val (.long qx), .second, .val (.ref l), .val (.int (Int32.ofNat e)), .unset] [] := by
        intro e he h1 h2
        refine oGo.aload (q := 286) at_284 rfl rfl rfl ?_
        refine oGo.lload (q := 288) at_286 rfl rfl ?_
        have hv : ∀ i, i < 3 → ([(.long s0), (.long s1), (.long s2), (.long (0 : Int64)), (.long (0 : Int64)), (.long (0 : Int64)), (.long (0 : Int64)), (.long (0 : Int64))] : List Value)[i]? = some (Value.long (own_f s0 s1 s2 s3 i)) := (fun i hi => by
          match i, hi with
          | 0, _ => rfl
          | 1, _ => rfl
          | 2, _ => rfl)
        refine oGo.callV (W := 0) (rm := ({ frames := 0, cells := 0, slots := 0, locals := 0 } : Room)) (q := 291) (a := l) [(.long qx)] [] at_288 rfl (hw _ (List.mem_of_getElem? (i := 27) rfl)) (hw _ (List.mem_of_getElem? (i := 28) rfl)) (hw _ (List.mem_of_getElem? (i := 30) rfl)) (hw _ (List.mem_of_getElem? (i := 29) rfl)) (hw _ (List.mem_of_getElem? (i := 10) rfl)) (hw _ (List.mem_of_getElem? (i := 31) rfl)) rfl (by decide) (O2.1) (cf hw l qx a 3 (own_f s0 s1 s2 s3) [(.long s0), (.long s1), (.long s2), (.long (0 : Int64)), (.long (0 : Int64)), (.long (0 : Int64)), (.long (0 : Int64)), (.long (0 : Int64))] h28 n0 O2 A2 (by decide) hv (fun i j hij hj => own_f_mono o1 o2 o3 i j hij (by omega))) rfl rfl own_pd3 rfl rfl (Nat.le_of_eq rfl) (by decide) (by decide) (by decide) (by decide) ?_
        rintro _ h29 ⟨⟨r, rfl, hr⟩, eh⟩
        all_goals subst h29
        show oGo Z _ _ _ _ _ _ n0 _ 2 10 h28 291 #[.val (.long q0), .second, .val (.long q1), .second, .val (.long q2), .second, .val (.long q3), .second, .val (.long qq), .second, .val (.int m), .val (.int (Int32.ofNat 3)), .val (.long u0), .second, .val (.long u1), .second, .val (.long u2), .second, .val (.long u3), .second, .val (.long s0), .second, .val (.long t2), .second, .val (.long t1), .second, .val (.long s3), .second, .val (.long s1), .second, .val (.long s2), .second, .val (.int (((m.toUInt32 >>> ((4 : Int32) &&& 31).toUInt32).toInt32) &&& (3 : Int32))), .val (.long qx), .second, .val (.ref l), .val (.int (Int32.ofNat e)), .unset] [(.int (Int32.ofNat r))]
        obtain rfl := own_fa_eq hr he h1 h2
        refine oGo.istore (q := 293) (L' := #[.val (.long q0), .second, .val (.long q1), .second, .val (.long q2), .second, .val (.long q3), .second, .val (.long qq), .second, .val (.int m), .val (.int (Int32.ofNat 3)), .val (.long u0), .second, .val (.long u1), .second, .val (.long u2), .second, .val (.long u3), .second, .val (.long s0), .second, .val (.long t2), .second, .val (.long t1), .second, .val (.long s3), .second, .val (.long s1), .second, .val (.long s2), .second, .val (.int (((m.toUInt32 >>> ((4 : Int32) &&& 31).toUInt32).toInt32) &&& (3 : Int32))), .val (.long qx), .second, .val (.ref l), .val (.int (Int32.ofNat r)), .val (.int (Int32.ofNat r))]) at_291 rfl rfl ?_
        refine oGo.iload (q := 295) at_293 rfl rfl ?_
        refine oGo.iload (q := 297) at_295 rfl rfl ?_
        refine oGo.icmp_ne (q := 304) (r := 300) at_297 (by decide) rfl (fun hc => absurd rfl hc) (fun hc => ?_)
        refine oGo.iconst (q := 301) (v := (1 : Int32)) at_300 rfl rfl ?_
        refine oGo.goto (q := 305) at_301 (by decide) ?_
        exact oGo.retN (t := .boolean) at_305 rfl (by simp) (by decide) (by decide) (rfl)
      refine oGo.if_le (q := 233) (r := 222) at_219 (by decide) rfl (fun hc => absurd hc (by decide)) (fun hc => ?_)
      refine oGo.lload (q := 224) at_222 rfl rfl ?_
      refine oGo.lload (q := 226) at_224 rfl rfl ?_
      refine oGo.lif_gt (pc2 := 227) (q := 233) (r := 230) at_226 rfl at_227 (by decide) rfl (fun c0 => ?_) (fun c0 => ?_)
      · skip
        refine oGo.iload (q := 235) at_233 rfl rfl ?_
        refine oGo.iconst (q := 236) (v := (1 : Int32)) at_235 rfl rfl ?_
        refine oGo.icmp_le (q := 250) (r := 239) at_236 (by decide) rfl (fun hc => absurd hc (by decide)) (fun hc => ?_)
        refine oGo.lload (q := 241) at_239 rfl rfl ?_
        refine oGo.lload (q := 243) at_241 rfl rfl ?_
        refine oGo.lif_gt (pc2 := 244) (q := 250) (r := 247) at_243 rfl at_244 (by decide) rfl (fun hc => ?_) (fun hc => absurd hc (by omega))
        refine oGo.iload (q := 252) at_250 rfl rfl ?_
        refine oGo.iconst (q := 253) (v := (2 : Int32)) at_252 rfl rfl ?_
        refine oGo.icmp_le (q := 267) (r := 256) at_253 (by decide) rfl (fun hc => absurd hc (by decide)) (fun hc => ?_)
        refine oGo.lload (q := 258) at_256 rfl rfl ?_
        refine oGo.lload (q := 260) at_258 rfl rfl ?_
        refine oGo.lif_gt (pc2 := 261) (q := 267) (r := 264) at_260 rfl at_261 (by decide) rfl (fun hc => ?_) (fun hc => absurd hc (by omega))
        refine oGo.iload (q := 269) at_267 rfl rfl ?_
        refine oGo.iconst (q := 270) (v := (3 : Int32)) at_269 rfl rfl ?_
        refine oGo.icmp_le (q := 284) (r := 273) at_270 (by decide) rfl (fun hc => ?_) (fun hc => absurd hc (by decide))
        exact J284 0 (by omega) (fun i hi => absurd hi (by omega)) (fun _ => c0)
      · skip
        refine oGo.iinc (q := 233) (v := (1 : Int32)) (L' := #[.val (.long q0), .second, .val (.long q1), .second, .val (.long q2), .second, .val (.long q3), .second, .val (.long qq), .second, .val (.int m), .val (.int (Int32.ofNat 3)), .val (.long u0), .second, .val (.long u1), .second, .val (.long u2), .second, .val (.long u3), .second, .val (.long s0), .second, .val (.long t2), .second, .val (.long t1), .second, .val (.long s3), .second, .val (.long s1), .second, .val (.long s2), .second, .val (.int (((m.toUInt32 >>> ((4 : Int32) &&& 31).toUInt32).toInt32) &&& (3 : Int32))), .val (.long qx), .second, .val (.ref l), .val (.int (1 : Int32)), .unset]) at_230 rfl rfl (by decide) rfl ?_
        refine oGo.iload (q := 235) at_233 rfl rfl ?_
        refine oGo.iconst (q := 236) (v := (1 : Int32)) at_235 rfl rfl ?_
        refine oGo.icmp_le (q := 250) (r := 239) at_236 (by decide) rfl (fun hc => absurd hc (by decide)) (fun hc => ?_)
        refine oGo.lload (q := 241) at_239 rfl rfl ?_
        refine oGo.lload (q := 243) at_241 rfl rfl ?_
        refine oGo.lif_gt (pc2 := 244) (q := 250) (r := 247) at_243 rfl at_244 (by decide) rfl (fun c1 => ?_) (fun c1 => ?_)
        · skip
          refine oGo.iload (q := 252) at_250 rfl rfl ?_
          refine oGo.iconst (q := 253) (v := (2 : Int32)) at_252 rfl rfl ?_
          refine oGo.icmp_le (q := 267) (r := 256) at_253 (by decide) rfl (fun hc => absurd hc (by decide)) (fun hc => ?_)
          refine oGo.lload (q := 258) at_256 rfl rfl ?_
          refine oGo.lload (q := 260) at_258 rfl rfl ?_
          refine oGo.lif_gt (pc2 := 261) (q := 267) (r := 264) at_260 rfl at_261 (by decide) rfl (fun hc => ?_) (fun hc => absurd hc (by omega))
          refine oGo.iload (q := 269) at_267 rfl rfl ?_
          refine oGo.iconst (q := 270) (v := (3 : Int32)) at_269 rfl rfl ?_
          refine oGo.icmp_le (q := 284) (r := 273) at_270 (by decide) rfl (fun hc => ?_) (fun hc => absurd hc (by decide))
          exact J284 1 (by omega) (fun i hi => by
            match i, hi with
            | 0, _ => exact c0) (fun _ => c1)
        · skip
          refine oGo.iinc (q := 250) (v := (2 : Int32)) (L' := #[.val (.long q0), .second, .val (.long q1), .second, .val (.long q2), .second, .val (.long q3), .second, .val (.long qq), .second, .val (.int m), .val (.int (Int32.ofNat 3)), .val (.long u0), .second, .val (.long u1), .second, .val (.long u2), .second, .val (.long u3), .second, .val (.long s0), .second, .val (.long t2), .second, .val (.long t1), .second, .val (.long s3), .second, .val (.long s1), .second, .val (.long s2), .second, .val (.int (((m.toUInt32 >>> ((4 : Int32) &&& 31).toUInt32).toInt32) &&& (3 : Int32))), .val (.long qx), .second, .val (.ref l), .val (.int (2 : Int32)), .unset]) at_247 rfl rfl (by decide) rfl ?_
          refine oGo.iload (q := 252) at_250 rfl rfl ?_
          refine oGo.iconst (q := 253) (v := (2 : Int32)) at_252 rfl rfl ?_
          refine oGo.icmp_le (q := 267) (r := 256) at_253 (by decide) rfl (fun hc => absurd hc (by decide)) (fun hc => ?_)
          refine oGo.lload (q := 258) at_256 rfl rfl ?_
          refine oGo.lload (q := 260) at_258 rfl rfl ?_
          refine oGo.lif_gt (pc2 := 261) (q := 267) (r := 264) at_260 rfl at_261 (by decide) rfl (fun c2 => ?_) (fun c2 => ?_)
          · skip
            refine oGo.iload (q := 269) at_267 rfl rfl ?_
            refine oGo.iconst (q := 270) (v := (3 : Int32)) at_269 rfl rfl ?_
            refine oGo.icmp_le (q := 284) (r := 273) at_270 (by decide) rfl (fun hc => ?_) (fun hc => absurd hc (by decide))
            exact J284 2 (by omega) (fun i hi => by
              match i, hi with
              | 0, _ => exact c0
              | 1, _ => exact c1) (fun _ => c2)
          · skip
            refine oGo.iinc (q := 267) (v := (3 : Int32)) (L' := #[.val (.long q0), .second, .val (.long q1), .second, .val (.long q2), .second, .val (.long q3), .second, .val (.long qq), .second, .val (.int m), .val (.int (Int32.ofNat 3)), .val (.long u0), .second, .val (.long u1), .second, .val (.long u2), .second, .val (.long u3), .second, .val (.long s0), .second, .val (.long t2), .second, .val (.long t1), .second, .val (.long s3), .second, .val (.long s1), .second, .val (.long s2), .second, .val (.int (((m.toUInt32 >>> ((4 : Int32) &&& 31).toUInt32).toInt32) &&& (3 : Int32))), .val (.long qx), .second, .val (.ref l), .val (.int (3 : Int32)), .unset]) at_264 rfl rfl (by decide) rfl ?_
            refine oGo.iload (q := 269) at_267 rfl rfl ?_
            refine oGo.iconst (q := 270) (v := (3 : Int32)) at_269 rfl rfl ?_
            refine oGo.icmp_le (q := 284) (r := 273) at_270 (by decide) rfl (fun hc => ?_) (fun hc => absurd hc (by decide))
            exact J284 3 (by omega) (fun i hi => by
              match i, hi with
              | 0, _ => exact c0
              | 1, _ => exact c1
              | 2, _ => exact c2) (fun u => absurd u (by omega))
    · skip -- k = 4
      refine oGo.if_le (q := 175) (r := 168) at_165 (by decide) rfl (fun hc => absurd hc (by decide)) (fun hc => ?_)
      refine oGo.aload (q := 170) at_168 rfl rfl rfl ?_
      refine oGo.lload (q := 172) at_170 rfl rfl ?_
      refine oGo.callV (W := 0) (rm := ({ frames := 0, cells := 0, slots := 0, locals := 0 } : Room)) (q := 175) (a := l) [(.long s0)] [] at_172 rfl (hw _ (List.mem_of_getElem? (i := 20) rfl)) (hw _ (List.mem_of_getElem? (i := 21) rfl)) (hw _ (List.mem_of_getElem? (i := 23) rfl)) (hw _ (List.mem_of_getElem? (i := 22) rfl)) (hw _ (List.mem_of_getElem? (i := 10) rfl)) (hw _ (List.mem_of_getElem? (i := 24) rfl)) rfl (by decide) (O.1) (ca hw l s0 a 0 1 0 [(.long (0 : Int64)), (.long (0 : Int64)), (.long (0 : Int64)), (.long (0 : Int64)), (.long (0 : Int64)), (.long (0 : Int64)), (.long (0 : Int64)), (.long (0 : Int64))] [(.long s0), (.long (0 : Int64)), (.long (0 : Int64)), (.long (0 : Int64)), (.long (0 : Int64)), (.long (0 : Int64)), (.long (0 : Int64)), (.long (0 : Int64))] h19 n0 gl ga nal O A rfl (Nat.le_of_ble_eq_true rfl) (Nat.le_of_ble_eq_true rfl) (by decide) rfl) rfl rfl own_pd2 rfl rfl (Nat.le_of_eq rfl) (by decide) (by decide) (by decide) (by decide) ?_
      rintro _ h30 ⟨rfl, K0, O0, A0⟩
      show oGo Z _ _ _ _ _ _ n0 _ 2 10 h30 175 #[.val (.long q0), .second, .val (.long q1), .second, .val (.long q2), .second, .val (.long q3), .second, .val (.long qq), .second, .val (.int m), .val (.int (Int32.ofNat 4)), .val (.long u0), .second, .val (.long u1), .second, .val (.long u2), .second, .val (.long u3), .second, .val (.long s0), .second, .val (.long t2), .second, .val (.long t1), .second, .val (.long s3), .second, .val (.long s1), .second, .val (.long s2), .second, .val (.int (((m.toUInt32 >>> ((4 : Int32) &&& 31).toUInt32).toInt32) &&& (3 : Int32))), .val (.long qx), .second, .val (.ref l), .unset, .unset] []
      refine oGo.iload (q := 177) at_175 rfl rfl ?_
      refine oGo.iconst (q := 178) (v := (1 : Int32)) at_177 rfl rfl ?_
      refine oGo.icmp_le (q := 188) (r := 181) at_178 (by decide) rfl (fun hc => absurd hc (by decide)) (fun hc => ?_)
      refine oGo.aload (q := 183) at_181 rfl rfl rfl ?_
      refine oGo.lload (q := 185) at_183 rfl rfl ?_
      refine oGo.callV (W := 0) (rm := ({ frames := 0, cells := 0, slots := 0, locals := 0 } : Room)) (q := 188) (a := l) [(.long s1)] [] at_185 rfl (hw _ (List.mem_of_getElem? (i := 20) rfl)) (hw _ (List.mem_of_getElem? (i := 21) rfl)) (hw _ (List.mem_of_getElem? (i := 23) rfl)) (hw _ (List.mem_of_getElem? (i := 22) rfl)) (hw _ (List.mem_of_getElem? (i := 10) rfl)) (hw _ (List.mem_of_getElem? (i := 24) rfl)) rfl (by decide) (O0.1) (ca hw l s1 a 1 2 1 [(.long s0), (.long (0 : Int64)), (.long (0 : Int64)), (.long (0 : Int64)), (.long (0 : Int64)), (.long (0 : Int64)), (.long (0 : Int64)), (.long (0 : Int64))] [(.long s0), (.long s1), (.long (0 : Int64)), (.long (0 : Int64)), (.long (0 : Int64)), (.long (0 : Int64)), (.long (0 : Int64)), (.long (0 : Int64))] h30 n0 gl ga nal O0 A0 rfl (Nat.le_of_ble_eq_true rfl) (Nat.le_of_ble_eq_true rfl) (by decide) rfl) rfl rfl own_pd2 rfl rfl (Nat.le_of_eq rfl) (by decide) (by decide) (by decide) (by decide) ?_
      rintro _ h31 ⟨rfl, K1, O1, A1⟩
      show oGo Z _ _ _ _ _ _ n0 _ 2 10 h31 188 #[.val (.long q0), .second, .val (.long q1), .second, .val (.long q2), .second, .val (.long q3), .second, .val (.long qq), .second, .val (.int m), .val (.int (Int32.ofNat 4)), .val (.long u0), .second, .val (.long u1), .second, .val (.long u2), .second, .val (.long u3), .second, .val (.long s0), .second, .val (.long t2), .second, .val (.long t1), .second, .val (.long s3), .second, .val (.long s1), .second, .val (.long s2), .second, .val (.int (((m.toUInt32 >>> ((4 : Int32) &&& 31).toUInt32).toInt32) &&& (3 : Int32))), .val (.long qx), .second, .val (.ref l), .unset, .unset] []
      refine oGo.iload (q := 190) at_188 rfl rfl ?_
      refine oGo.iconst (q := 191) (v := (2 : Int32)) at_190 rfl rfl ?_
      refine oGo.icmp_le (q := 201) (r := 194) at_191 (by decide) rfl (fun hc => absurd hc (by decide)) (fun hc => ?_)
      refine oGo.aload (q := 196) at_194 rfl rfl rfl ?_
      refine oGo.lload (q := 198) at_196 rfl rfl ?_
      refine oGo.callV (W := 0) (rm := ({ frames := 0, cells := 0, slots := 0, locals := 0 } : Room)) (q := 201) (a := l) [(.long s2)] [] at_198 rfl (hw _ (List.mem_of_getElem? (i := 20) rfl)) (hw _ (List.mem_of_getElem? (i := 21) rfl)) (hw _ (List.mem_of_getElem? (i := 23) rfl)) (hw _ (List.mem_of_getElem? (i := 22) rfl)) (hw _ (List.mem_of_getElem? (i := 10) rfl)) (hw _ (List.mem_of_getElem? (i := 24) rfl)) rfl (by decide) (O1.1) (ca hw l s2 a 2 3 2 [(.long s0), (.long s1), (.long (0 : Int64)), (.long (0 : Int64)), (.long (0 : Int64)), (.long (0 : Int64)), (.long (0 : Int64)), (.long (0 : Int64))] [(.long s0), (.long s1), (.long s2), (.long (0 : Int64)), (.long (0 : Int64)), (.long (0 : Int64)), (.long (0 : Int64)), (.long (0 : Int64))] h31 n0 gl ga nal O1 A1 rfl (Nat.le_of_ble_eq_true rfl) (Nat.le_of_ble_eq_true rfl) (by decide) rfl) rfl rfl own_pd2 rfl rfl (Nat.le_of_eq rfl) (by decide) (by decide) (by decide) (by decide) ?_
      rintro _ h32 ⟨rfl, K2, O2, A2⟩
      show oGo Z _ _ _ _ _ _ n0 _ 2 10 h32 201 #[.val (.long q0), .second, .val (.long q1), .second, .val (.long q2), .second, .val (.long q3), .second, .val (.long qq), .second, .val (.int m), .val (.int (Int32.ofNat 4)), .val (.long u0), .second, .val (.long u1), .second, .val (.long u2), .second, .val (.long u3), .second, .val (.long s0), .second, .val (.long t2), .second, .val (.long t1), .second, .val (.long s3), .second, .val (.long s1), .second, .val (.long s2), .second, .val (.int (((m.toUInt32 >>> ((4 : Int32) &&& 31).toUInt32).toInt32) &&& (3 : Int32))), .val (.long qx), .second, .val (.ref l), .unset, .unset] []
      refine oGo.iload (q := 203) at_201 rfl rfl ?_
      refine oGo.iconst (q := 204) (v := (3 : Int32)) at_203 rfl rfl ?_
      refine oGo.icmp_le (q := 214) (r := 207) at_204 (by decide) rfl (fun hc => absurd hc (by decide)) (fun hc => ?_)
      refine oGo.aload (q := 209) at_207 rfl rfl rfl ?_
      refine oGo.lload (q := 211) at_209 rfl rfl ?_
      refine oGo.callV (W := 0) (rm := ({ frames := 0, cells := 0, slots := 0, locals := 0 } : Room)) (q := 214) (a := l) [(.long s3)] [] at_211 rfl (hw _ (List.mem_of_getElem? (i := 20) rfl)) (hw _ (List.mem_of_getElem? (i := 21) rfl)) (hw _ (List.mem_of_getElem? (i := 23) rfl)) (hw _ (List.mem_of_getElem? (i := 22) rfl)) (hw _ (List.mem_of_getElem? (i := 10) rfl)) (hw _ (List.mem_of_getElem? (i := 24) rfl)) rfl (by decide) (O2.1) (ca hw l s3 a 3 4 3 [(.long s0), (.long s1), (.long s2), (.long (0 : Int64)), (.long (0 : Int64)), (.long (0 : Int64)), (.long (0 : Int64)), (.long (0 : Int64))] [(.long s0), (.long s1), (.long s2), (.long s3), (.long (0 : Int64)), (.long (0 : Int64)), (.long (0 : Int64)), (.long (0 : Int64))] h32 n0 gl ga nal O2 A2 rfl (Nat.le_of_ble_eq_true rfl) (Nat.le_of_ble_eq_true rfl) (by decide) rfl) rfl rfl own_pd2 rfl rfl (Nat.le_of_eq rfl) (by decide) (by decide) (by decide) (by decide) ?_
      rintro _ h33 ⟨rfl, K3, O3, A3⟩
      show oGo Z _ _ _ _ _ _ n0 _ 2 10 h33 214 #[.val (.long q0), .second, .val (.long q1), .second, .val (.long q2), .second, .val (.long q3), .second, .val (.long qq), .second, .val (.int m), .val (.int (Int32.ofNat 4)), .val (.long u0), .second, .val (.long u1), .second, .val (.long u2), .second, .val (.long u3), .second, .val (.long s0), .second, .val (.long t2), .second, .val (.long t1), .second, .val (.long s3), .second, .val (.long s1), .second, .val (.long s2), .second, .val (.int (((m.toUInt32 >>> ((4 : Int32) &&& 31).toUInt32).toInt32) &&& (3 : Int32))), .val (.long qx), .second, .val (.ref l), .unset, .unset] []
      refine oGo.iconst (q := 215) (v := (0 : Int32)) at_214 rfl rfl ?_
      refine oGo.istore (q := 217) (L' := #[.val (.long q0), .second, .val (.long q1), .second, .val (.long q2), .second, .val (.long q3), .second, .val (.long qq), .second, .val (.int m), .val (.int (Int32.ofNat 4)), .val (.long u0), .second, .val (.long u1), .second, .val (.long u2), .second, .val (.long u3), .second, .val (.long s0), .second, .val (.long t2), .second, .val (.long t1), .second, .val (.long s3), .second, .val (.long s1), .second, .val (.long s2), .second, .val (.int (((m.toUInt32 >>> ((4 : Int32) &&& 31).toUInt32).toInt32) &&& (3 : Int32))), .val (.long qx), .second, .val (.ref l), .val (.int (0 : Int32)), .unset]) at_215 rfl rfl ?_
      refine oGo.iload (q := 219) at_217 rfl rfl ?_
      have J284 : ∀ (e : Nat), e ≤ 4 → (∀ i, i < e → (own_f s0 s1 s2 s3 i).toInt ≤ qx.toInt) → (e < 4 → qx.toInt < (own_f s0 s1 s2 s3 e).toInt) → oGo Z x.cls x.name code maxLocals ret room_1 n0 (fun v _ => v = some (.int 1)) 2 10 h33 284 #[.val (.long q0), .second, .val (.long q1), .second, .val (.long q2), .second, .val (.long q3), .second, .val (.long qq), .second, .val (.int m), .val (.int (Int32.ofNat 4)), .val (.long u0), .second, .val (.long u1), .second, .val (.long u2), .second, .val (.long u3), .second, .val (.long s0), .second, .val (.long t2), .second, .val (.long t1), .second, .val (.long s3), .second, .val (.long s1), .second, .val (.long s2), .second, .val (.int (((m.toUInt32 >>> ((4 : Int32) &&& 31).toUInt32).toInt32) &&& (3 : Int32))), .val (.long qx), .second, .val (.ref l), .val (.int (Int32.ofNat e)), .unset] [] := by
        intro e he h1 h2
        refine oGo.aload (q := 286) at_284 rfl rfl rfl ?_
        refine oGo.lload (q := 288) at_286 rfl rfl ?_
        have hv : ∀ i, i < 4 → ([(.long s0), (.long s1), (.long s2), (.long s3), (.long (0 : Int64)), (.long (0 : Int64)), (.long (0 : Int64)), (.long (0 : Int64))] : List Value)[i]? = some (Value.long (own_f s0 s1 s2 s3 i)) := (fun i hi => by
          match i, hi with
          | 0, _ => rfl
          | 1, _ => rfl
          | 2, _ => rfl
          | 3, _ => rfl)
        refine oGo.callV (W := 0) (rm := ({ frames := 0, cells := 0, slots := 0, locals := 0 } : Room)) (q := 291) (a := l) [(.long qx)] [] at_288 rfl (hw _ (List.mem_of_getElem? (i := 27) rfl)) (hw _ (List.mem_of_getElem? (i := 28) rfl)) (hw _ (List.mem_of_getElem? (i := 30) rfl)) (hw _ (List.mem_of_getElem? (i := 29) rfl)) (hw _ (List.mem_of_getElem? (i := 10) rfl)) (hw _ (List.mem_of_getElem? (i := 31) rfl)) rfl (by decide) (O3.1) (cf hw l qx a 4 (own_f s0 s1 s2 s3) [(.long s0), (.long s1), (.long s2), (.long s3), (.long (0 : Int64)), (.long (0 : Int64)), (.long (0 : Int64)), (.long (0 : Int64))] h33 n0 O3 A3 (by decide) hv (fun i j hij hj => own_f_mono o1 o2 o3 i j hij (by omega))) rfl rfl own_pd3 rfl rfl (Nat.le_of_eq rfl) (by decide) (by decide) (by decide) (by decide) ?_
        rintro _ h34 ⟨⟨r, rfl, hr⟩, eh⟩
        all_goals subst h34
        show oGo Z _ _ _ _ _ _ n0 _ 2 10 h33 291 #[.val (.long q0), .second, .val (.long q1), .second, .val (.long q2), .second, .val (.long q3), .second, .val (.long qq), .second, .val (.int m), .val (.int (Int32.ofNat 4)), .val (.long u0), .second, .val (.long u1), .second, .val (.long u2), .second, .val (.long u3), .second, .val (.long s0), .second, .val (.long t2), .second, .val (.long t1), .second, .val (.long s3), .second, .val (.long s1), .second, .val (.long s2), .second, .val (.int (((m.toUInt32 >>> ((4 : Int32) &&& 31).toUInt32).toInt32) &&& (3 : Int32))), .val (.long qx), .second, .val (.ref l), .val (.int (Int32.ofNat e)), .unset] [(.int (Int32.ofNat r))]
        obtain rfl := own_fa_eq hr he h1 h2
        refine oGo.istore (q := 293) (L' := #[.val (.long q0), .second, .val (.long q1), .second, .val (.long q2), .second, .val (.long q3), .second, .val (.long qq), .second, .val (.int m), .val (.int (Int32.ofNat 4)), .val (.long u0), .second, .val (.long u1), .second, .val (.long u2), .second, .val (.long u3), .second, .val (.long s0), .second, .val (.long t2), .second, .val (.long t1), .second, .val (.long s3), .second, .val (.long s1), .second, .val (.long s2), .second, .val (.int (((m.toUInt32 >>> ((4 : Int32) &&& 31).toUInt32).toInt32) &&& (3 : Int32))), .val (.long qx), .second, .val (.ref l), .val (.int (Int32.ofNat r)), .val (.int (Int32.ofNat r))]) at_291 rfl rfl ?_
        refine oGo.iload (q := 295) at_293 rfl rfl ?_
        refine oGo.iload (q := 297) at_295 rfl rfl ?_
        refine oGo.icmp_ne (q := 304) (r := 300) at_297 (by decide) rfl (fun hc => absurd rfl hc) (fun hc => ?_)
        refine oGo.iconst (q := 301) (v := (1 : Int32)) at_300 rfl rfl ?_
        refine oGo.goto (q := 305) at_301 (by decide) ?_
        exact oGo.retN (t := .boolean) at_305 rfl (by simp) (by decide) (by decide) (rfl)
      refine oGo.if_le (q := 233) (r := 222) at_219 (by decide) rfl (fun hc => absurd hc (by decide)) (fun hc => ?_)
      refine oGo.lload (q := 224) at_222 rfl rfl ?_
      refine oGo.lload (q := 226) at_224 rfl rfl ?_
      refine oGo.lif_gt (pc2 := 227) (q := 233) (r := 230) at_226 rfl at_227 (by decide) rfl (fun c0 => ?_) (fun c0 => ?_)
      · skip
        refine oGo.iload (q := 235) at_233 rfl rfl ?_
        refine oGo.iconst (q := 236) (v := (1 : Int32)) at_235 rfl rfl ?_
        refine oGo.icmp_le (q := 250) (r := 239) at_236 (by decide) rfl (fun hc => absurd hc (by decide)) (fun hc => ?_)
        refine oGo.lload (q := 241) at_239 rfl rfl ?_
        refine oGo.lload (q := 243) at_241 rfl rfl ?_
        refine oGo.lif_gt (pc2 := 244) (q := 250) (r := 247) at_243 rfl at_244 (by decide) rfl (fun hc => ?_) (fun hc => absurd hc (by omega))
        refine oGo.iload (q := 252) at_250 rfl rfl ?_
        refine oGo.iconst (q := 253) (v := (2 : Int32)) at_252 rfl rfl ?_
        refine oGo.icmp_le (q := 267) (r := 256) at_253 (by decide) rfl (fun hc => absurd hc (by decide)) (fun hc => ?_)
        refine oGo.lload (q := 258) at_256 rfl rfl ?_
        refine oGo.lload (q := 260) at_258 rfl rfl ?_
        refine oGo.lif_gt (pc2 := 261) (q := 267) (r := 264) at_260 rfl at_261 (by decide) rfl (fun hc => ?_) (fun hc => absurd hc (by omega))
        refine oGo.iload (q := 269) at_267 rfl rfl ?_
        refine oGo.iconst (q := 270) (v := (3 : Int32)) at_269 rfl rfl ?_
        refine oGo.icmp_le (q := 284) (r := 273) at_270 (by decide) rfl (fun hc => absurd hc (by decide)) (fun hc => ?_)
        refine oGo.lload (q := 275) at_273 rfl rfl ?_
        refine oGo.lload (q := 277) at_275 rfl rfl ?_
        refine oGo.lif_gt (pc2 := 278) (q := 284) (r := 281) at_277 rfl at_278 (by decide) rfl (fun hc => ?_) (fun hc => absurd hc (by omega))
        exact J284 0 (by omega) (fun i hi => absurd hi (by omega)) (fun _ => c0)
      · skip
        refine oGo.iinc (q := 233) (v := (1 : Int32)) (L' := #[.val (.long q0), .second, .val (.long q1), .second, .val (.long q2), .second, .val (.long q3), .second, .val (.long qq), .second, .val (.int m), .val (.int (Int32.ofNat 4)), .val (.long u0), .second, .val (.long u1), .second, .val (.long u2), .second, .val (.long u3), .second, .val (.long s0), .second, .val (.long t2), .second, .val (.long t1), .second, .val (.long s3), .second, .val (.long s1), .second, .val (.long s2), .second, .val (.int (((m.toUInt32 >>> ((4 : Int32) &&& 31).toUInt32).toInt32) &&& (3 : Int32))), .val (.long qx), .second, .val (.ref l), .val (.int (1 : Int32)), .unset]) at_230 rfl rfl (by decide) rfl ?_
        refine oGo.iload (q := 235) at_233 rfl rfl ?_
        refine oGo.iconst (q := 236) (v := (1 : Int32)) at_235 rfl rfl ?_
        refine oGo.icmp_le (q := 250) (r := 239) at_236 (by decide) rfl (fun hc => absurd hc (by decide)) (fun hc => ?_)
        refine oGo.lload (q := 241) at_239 rfl rfl ?_
        refine oGo.lload (q := 243) at_241 rfl rfl ?_
        refine oGo.lif_gt (pc2 := 244) (q := 250) (r := 247) at_243 rfl at_244 (by decide) rfl (fun c1 => ?_) (fun c1 => ?_)
        · skip
          refine oGo.iload (q := 252) at_250 rfl rfl ?_
          refine oGo.iconst (q := 253) (v := (2 : Int32)) at_252 rfl rfl ?_
          refine oGo.icmp_le (q := 267) (r := 256) at_253 (by decide) rfl (fun hc => absurd hc (by decide)) (fun hc => ?_)
          refine oGo.lload (q := 258) at_256 rfl rfl ?_
          refine oGo.lload (q := 260) at_258 rfl rfl ?_
          refine oGo.lif_gt (pc2 := 261) (q := 267) (r := 264) at_260 rfl at_261 (by decide) rfl (fun hc => ?_) (fun hc => absurd hc (by omega))
          refine oGo.iload (q := 269) at_267 rfl rfl ?_
          refine oGo.iconst (q := 270) (v := (3 : Int32)) at_269 rfl rfl ?_
          refine oGo.icmp_le (q := 284) (r := 273) at_270 (by decide) rfl (fun hc => absurd hc (by decide)) (fun hc => ?_)
          refine oGo.lload (q := 275) at_273 rfl rfl ?_
          refine oGo.lload (q := 277) at_275 rfl rfl ?_
          refine oGo.lif_gt (pc2 := 278) (q := 284) (r := 281) at_277 rfl at_278 (by decide) rfl (fun hc => ?_) (fun hc => absurd hc (by omega))
          exact J284 1 (by omega) (fun i hi => by
            match i, hi with
            | 0, _ => exact c0) (fun _ => c1)
        · skip
          refine oGo.iinc (q := 250) (v := (2 : Int32)) (L' := #[.val (.long q0), .second, .val (.long q1), .second, .val (.long q2), .second, .val (.long q3), .second, .val (.long qq), .second, .val (.int m), .val (.int (Int32.ofNat 4)), .val (.long u0), .second, .val (.long u1), .second, .val (.long u2), .second, .val (.long u3), .second, .val (.long s0), .second, .val (.long t2), .second, .val (.long t1), .second, .val (.long s3), .second, .val (.long s1), .second, .val (.long s2), .second, .val (.int (((m.toUInt32 >>> ((4 : Int32) &&& 31).toUInt32).toInt32) &&& (3 : Int32))), .val (.long qx), .second, .val (.ref l), .val (.int (2 : Int32)), .unset]) at_247 rfl rfl (by decide) rfl ?_
          refine oGo.iload (q := 252) at_250 rfl rfl ?_
          refine oGo.iconst (q := 253) (v := (2 : Int32)) at_252 rfl rfl ?_
          refine oGo.icmp_le (q := 267) (r := 256) at_253 (by decide) rfl (fun hc => absurd hc (by decide)) (fun hc => ?_)
          refine oGo.lload (q := 258) at_256 rfl rfl ?_
          refine oGo.lload (q := 260) at_258 rfl rfl ?_
          refine oGo.lif_gt (pc2 := 261) (q := 267) (r := 264) at_260 rfl at_261 (by decide) rfl (fun c2 => ?_) (fun c2 => ?_)
          · skip
            refine oGo.iload (q := 269) at_267 rfl rfl ?_
            refine oGo.iconst (q := 270) (v := (3 : Int32)) at_269 rfl rfl ?_
            refine oGo.icmp_le (q := 284) (r := 273) at_270 (by decide) rfl (fun hc => absurd hc (by decide)) (fun hc => ?_)
            refine oGo.lload (q := 275) at_273 rfl rfl ?_
            refine oGo.lload (q := 277) at_275 rfl rfl ?_
            refine oGo.lif_gt (pc2 := 278) (q := 284) (r := 281) at_277 rfl at_278 (by decide) rfl (fun hc => ?_) (fun hc => absurd hc (by omega))
            exact J284 2 (by omega) (fun i hi => by
              match i, hi with
              | 0, _ => exact c0
              | 1, _ => exact c1) (fun _ => c2)
          · skip
            refine oGo.iinc (q := 267) (v := (3 : Int32)) (L' := #[.val (.long q0), .second, .val (.long q1), .second, .val (.long q2), .second, .val (.long q3), .second, .val (.long qq), .second, .val (.int m), .val (.int (Int32.ofNat 4)), .val (.long u0), .second, .val (.long u1), .second, .val (.long u2), .second, .val (.long u3), .second, .val (.long s0), .second, .val (.long t2), .second, .val (.long t1), .second, .val (.long s3), .second, .val (.long s1), .second, .val (.long s2), .second, .val (.int (((m.toUInt32 >>> ((4 : Int32) &&& 31).toUInt32).toInt32) &&& (3 : Int32))), .val (.long qx), .second, .val (.ref l), .val (.int (3 : Int32)), .unset]) at_264 rfl rfl (by decide) rfl ?_
            refine oGo.iload (q := 269) at_267 rfl rfl ?_
            refine oGo.iconst (q := 270) (v := (3 : Int32)) at_269 rfl rfl ?_
            refine oGo.icmp_le (q := 284) (r := 273) at_270 (by decide) rfl (fun hc => absurd hc (by decide)) (fun hc => ?_)
            refine oGo.lload (q := 275) at_273 rfl rfl ?_
            refine oGo.lload (q := 277) at_275 rfl rfl ?_
            refine oGo.lif_gt (pc2 := 278) (q := 284) (r := 281) at_277 rfl at_278 (by decide) rfl (fun c3 => ?_) (fun c3 => ?_)
            · skip
              exact J284 3 (by omega) (fun i hi => by
                match i, hi with
                | 0, _ => exact c0
                | 1, _ => exact c1
                | 2, _ => exact c2) (fun _ => c3)
            · skip
              refine oGo.iinc (q := 284) (v := (4 : Int32)) (L' := #[.val (.long q0), .second, .val (.long q1), .second, .val (.long q2), .second, .val (.long q3), .second, .val (.long qq), .second, .val (.int m), .val (.int (Int32.ofNat 4)), .val (.long u0), .second, .val (.long u1), .second, .val (.long u2), .second, .val (.long u3), .second, .val (.long s0), .second, .val (.long t2), .second, .val (.long t1), .second, .val (.long s3), .second, .val (.long s1), .second, .val (.long s2), .second, .val (.int (((m.toUInt32 >>> ((4 : Int32) &&& 31).toUInt32).toInt32) &&& (3 : Int32))), .val (.long qx), .second, .val (.ref l), .val (.int (4 : Int32)), .unset]) at_281 rfl rfl (by decide) rfl ?_
              exact J284 4 (by omega) (fun i hi => by
                match i, hi with
                | 0, _ => exact c0
                | 1, _ => exact c1
                | 2, _ => exact c2
                | 3, _ => exact c3) (fun u => absurd u (by omega))
  refine oGo.if_ne (q := 115) (r := 108) at_105 (by decide) rfl (fun hc => ?_) (fun hc => ?_)
  · skip
    have J139 : ∀ (b : Int64), oGo Z x.cls x.name code maxLocals ret room_1 n0 (fun v _ => v = some (.int 1)) 0 0 h 139 #[.val (.long q0), .second, .val (.long q1), .second, .val (.long q2), .second, .val (.long q3), .second, .val (.long qq), .second, .val (.int m), .val (.int (Int32.ofNat k)), .val (.long u0), .second, .val (.long u1), .second, .val (.long u2), .second, .val (.long u3), .second, .val (.long s0), .second, .val (.long t2), .second, .val (.long t1), .second, .val (.long s3), .second, .val (.long s1), .second, .val (.long s2), .second, .val (.int (((m.toUInt32 >>> ((4 : Int32) &&& 31).toUInt32).toInt32) &&& (3 : Int32))), .unset, .unset, .unset, .unset, .unset] [(.long b)] := by
      intro b
      refine oGo.lstore (q := 141) (L' := #[.val (.long q0), .second, .val (.long q1), .second, .val (.long q2), .second, .val (.long q3), .second, .val (.long qq), .second, .val (.int m), .val (.int (Int32.ofNat k)), .val (.long u0), .second, .val (.long u1), .second, .val (.long u2), .second, .val (.long u3), .second, .val (.long s0), .second, .val (.long t2), .second, .val (.long t1), .second, .val (.long s3), .second, .val (.long s1), .second, .val (.long s2), .second, .val (.int (((m.toUInt32 >>> ((4 : Int32) &&& 31).toUInt32).toInt32) &&& (3 : Int32))), .unset, .unset, .val (.long b), .second, .unset]) at_139 rfl rfl ?_
      refine oGo.lload (q := 143) at_141 rfl rfl ?_
      refine oGo.lload (q := 145) at_143 rfl rfl ?_
      refine oGo.ldc2 (q := 148) (v := (3 : Int64)) at_145 rfl (hw _ (List.mem_of_getElem? (i := 32) rfl)) ?_
      refine oGo.land (q := 149) at_148 rfl ?_
      refine oGo.lconst (q := 150) (v := (1 : Int64)) at_149 rfl rfl ?_
      refine oGo.lsub (q := 151) at_150 rfl ?_
      refine oGo.ladd (q := 152) at_151 rfl ?_
      refine oGo.lstore (q := 154) (L' := #[.val (.long q0), .second, .val (.long q1), .second, .val (.long q2), .second, .val (.long q3), .second, .val (.long qq), .second, .val (.int m), .val (.int (Int32.ofNat k)), .val (.long u0), .second, .val (.long u1), .second, .val (.long u2), .second, .val (.long u3), .second, .val (.long s0), .second, .val (.long t2), .second, .val (.long t1), .second, .val (.long s3), .second, .val (.long s1), .second, .val (.long s2), .second, .val (.int (((m.toUInt32 >>> ((4 : Int32) &&& 31).toUInt32).toInt32) &&& (3 : Int32))), .val (.long (b + ((qq &&& (3 : Int64)) - (1 : Int64)))), .second, .val (.long b), .second, .unset]) at_152 rfl rfl ?_
      exact J154 _ _ _ (Or.inr ⟨_, rfl, rfl⟩)
    refine oGo.iload (q := 117) at_115 rfl rfl ?_
    refine oGo.iconst (q := 118) (v := (1 : Int32)) at_117 rfl rfl ?_
    refine oGo.icmp_ne (q := 126) (r := 121) at_118 (by decide) rfl (fun hc2 => ?_) (fun hc2 => ?_)
    · skip
      refine oGo.iload (q := 128) at_126 rfl rfl ?_
      refine oGo.iconst (q := 129) (v := (2 : Int32)) at_128 rfl rfl ?_
      refine oGo.icmp_ne (q := 137) (r := 132) at_129 (by decide) rfl (fun hc3 => ?_) (fun hc3 => ?_)
      · skip
        refine oGo.lload (q := 139) at_137 rfl rfl ?_
        exact J139 _
      · skip
        refine oGo.lload (q := 134) at_132 rfl rfl ?_
        refine oGo.goto (q := 139) at_134 (by decide) ?_
        exact J139 _
    · skip
      refine oGo.lload (q := 123) at_121 rfl rfl ?_
      refine oGo.goto (q := 139) at_123 (by decide) ?_
      exact J139 _
  · skip
    refine oGo.lload (q := 110) at_108 rfl rfl ?_
    refine oGo.lstore (q := 112) (L' := #[.val (.long q0), .second, .val (.long q1), .second, .val (.long q2), .second, .val (.long q3), .second, .val (.long qq), .second, .val (.int m), .val (.int (Int32.ofNat k)), .val (.long u0), .second, .val (.long u1), .second, .val (.long u2), .second, .val (.long u3), .second, .val (.long s0), .second, .val (.long t2), .second, .val (.long t1), .second, .val (.long s3), .second, .val (.long s1), .second, .val (.long s2), .second, .val (.int (((m.toUInt32 >>> ((4 : Int32) &&& 31).toUInt32).toInt32) &&& (3 : Int32))), .val (.long qq), .second, .unset, .unset, .unset]) at_110 rfl rfl ?_
    refine oGo.goto (q := 154) at_112 (by decide) ?_
    exact J154 _ _ _ (Or.inl ⟨rfl, rfl⟩)
set_option maxRecDepth 65536 in
set_option maxHeartbeats 40000000 in
theorem comes_1 {Post : Tables → Env → Array Value → State → Outcome → State → Prop} (hpost : ∀ tb e args s v u, (limb_1_1.after args s (.returned v) u = true ∧ limb_1_2.after args s (.returned v) u = true ∧ True) → FrameEnd s (.returned v) u (Jvm.fieldLocs frame_1_writes args s ++ Jvm.arrayLocs frame_1_arrays args s ++ Jvm.staticLocs frame_1_statics s) 16 128 → Post tb e args s (.returned v) u) :
    ArmFor flags0 classFile x code maxLocals ret World_1 tables_1 room_1 Calls_1 rest_1 Pre_1 Post := by
  intro l hfl _ _ p e ha hc hk s m args below hf hA hF happ hP
  obtain ⟨hcalls, hrest, hpre⟩ := hP
  obtain ⟨-, -, -, hnamed, -, -, -, hat⟩ := (Spec.applies_iff hf).mp happ
  obtain ⟨hg, hn⟩ := and_e (Cond.before_iff.mp (show (Jvm.Cond.and given_1 narrow_1).before args s = true from hpre))
  obtain ⟨h1, g0⟩ := and_e hg
  obtain ⟨b0, g1⟩ := and_e g0
  obtain ⟨b1, g2⟩ := and_e g1
  obtain ⟨b2, g3⟩ := and_e g2
  obtain ⟨b3, g4⟩ := and_e g3
  obtain ⟨b4, g5⟩ := and_e g4
  have b5 := g5
  obtain ⟨w0, w1, w2, w3, w4, w5, rfl⟩ : ∃ w0 w1 w2 w3 w4 w5 : Value, args = #[w0, w1, w2, w3, w4, w5] := by
    have hs : args.size = 6 := by simpa [Cond.value, given_1] using h1
    obtain ⟨L⟩ := args
    match L, hs with
    | [w0, w1, w2, w3, w4, w5], _ => exact ⟨w0, w1, w2, w3, w4, w5, rfl⟩
  have hw := fun d (hd : d ∈ tables_1) => atoms_spec (ws := Jvm.Cond.code x code maxLocals ret :: tables_1) hat d (List.mem_cons_of_mem _ hd)
  have hfit : Fit s := fun {y c} hc i hi => by
    obtain ⟨ha, rfl⟩ := Array.getElem?_eq_some_iff.mp hc
    have q := List.all_eq_true.mp ((Array.all_eq_true_iff_forall_mem.mp hF) _ (Array.getElem_mem ha)) i (List.mem_range.mpr hi)
    simpa [Array.getElem?_eq_getElem hi] using q
  obtain ⟨i0, e0⟩ := isL_v b0
  obtain rfl : w0 = (.long i0) := Option.some.inj e0
  obtain ⟨i1, e1⟩ := isL_v b1
  obtain rfl : w1 = (.long i1) := Option.some.inj e1
  obtain ⟨i2, e2⟩ := isL_v b2
  obtain rfl : w2 = (.long i2) := Option.some.inj e2
  obtain ⟨i3, e3⟩ := isL_v b3
  obtain rfl : w3 = (.long i3) := Option.some.inj e3
  obtain ⟨i4, e4⟩ := isL_v b4
  obtain rfl : w4 = (.long i4) := Option.some.inj e4
  obtain ⟨i5, e5⟩ := is_v b5
  obtain rfl : w5 = (.int i5) := Option.some.inj e5
  obtain ⟨n, o, q1, q2, q3, _, L, rfl, ⟨rfl, N⟩, hq⟩ := (law hw i0 i1 i2 i3 i4 i5 s.heap s.heap.size (Nat.le_refl _)) l tables_1 p e ha hc hk s m _ below hf ((Spec.applies_iff_loose hf).mp happ).1 ⟨rfl, State.Warmed39.refl s, rfl⟩ trivial
  refine ⟨n, _, q1, q2, q3, hpost _ _ _ _ _ _ ⟨Cond.after_iff.mpr rfl, Cond.after_iff.mpr (eq_i res_at (Term.int_eval (1)) rfl), trivial⟩ ⟨hq.1, hq.2.1, (hq.2.2.sift fun y hy => Or.inr (N y hy)).mono (by decide) (by decide)⟩⟩
theorem main_1_1 : Claimed_1_1 := comes_1 fun _ _ _ _ _ _ h hF => ⟨h.1, hF⟩
theorem main_1_2 : Claimed_1_2 := comes_1 fun _ _ _ _ _ _ h hF => ⟨h.2.1, hF⟩
end Jvm.Pilot.@@N@@
namespace Jvm.Pilot.@@N@@
open Jvm Jvm.ClassFile Sem Op Lib Jvm.Free Jvm.Stand Jvm.Pilot.@@N@@.Jvm.D
/-! MADE BY PROGRAM (witnessworld.py) out of the Statement's table words and the real class files: 12 classes; the members and pool entries that the words name. The judged class is class 1, her method 1. -/
namespace start1
open Jvm.ClassFile
def u (s : String) : CpInfo := .utf8 (stringToUtf16 s)
/-- a pool by its gaps: so many unusable entries, then the entry; so many at the end -/
def gap : Nat → List CpInfo → List CpInfo
  | 0, r => r
  | n + 1, r => .unusable :: gap n r
def poolList (es : List (Nat × CpInfo)) (last : Nat) : List CpInfo := es.foldr (fun e r => gap e.1 (e.2 :: r)) (gap last [])
def pool (es : List (Nat × CpInfo)) (last : Nat) : Array CpInfo := ⟨poolList es last⟩
def fileOf (pool : Array CpInfo) (this : Nat) (attrs : Array Attribute := #[]) (ms : Array MethodInfo := #[]) (fl : Nat := 33) (sup : Nat := 0) (ifs : Array Nat := #[]) (fds : Array FieldInfo := #[]) : ClassFile where
  minorVersion := 0
  majorVersion := 65
  constantPool := pool
  accessFlags := fl
  thisClass := this
  superClass := sup
  interfaces := ifs
  fields := fds
  methods := ms
  attributes := attrs
def plain (name : String) (sup : Option ClassId) : Class where
  name := name
  kind := .ordinary
  loader := none
  accessFlags := 33
  super := sup
  interfaces := #[]
  cf := none
  fields := #[]
  methods := #[]
  instanceTypes := #[]
  staticTypes := #[]
  resolved := #[]
  callSites := []
  init := .initialized
  statics := none
  mirror := none

def pool0 : Array CpInfo := pool [(5, u "<init>"), (0, u "()V"), (1, .class_ 10), (1, u "java/lang/Object")] 113

def k0c0 : Code := { maxStack := 0, maxLocals := 1, code := object_method_1_code, exceptionTable := #[], attributes := #[] }
def k0m0 : Method := { name := "<init>", desc := "()V", sig := { parameters := [], returnType := none }, accessFlags := 1, code := some k0c0 }
/-- java/lang/Object -/
def k0 : Class := { plain "java/lang/Object" none with
  accessFlags := 33
  interfaces := #[]
  cf := some (fileOf pool0 8 #[] #[{ accessFlags := 1, nameIndex := 5, descriptorIndex := 6, attributes := #[] }] 33 0 #[] #[])
  fields := #[]
  methods := #[k0m0]
  instanceTypes := #[]
  staticTypes := #[]
  resolved := Array.replicate 124 none
  statics := none }

def pool1 : Array CpInfo := pool [(2, .class_ 4), (0, .nameAndType 5 6), (0, u "java/lang/Object"), (0, u "<init>"), (0, u "()V"), (0, .integer 2147483647), (0, .methodref 9 10), (0, .class_ 11), (0, .nameAndType 12 13), (0, u "java/lang/Math"), (0, u "min"), (0, u "(JJ)J"), (0, .methodref 9 15), (0, .nameAndType 16 13), (0, u "max"), (0, .long 3), (1, .class_ 20), (0, u "com/example/interlace/interlace/search/SpanList"), (0, .methodref 19 3), (0, .methodref 19 23), (0, .nameAndType 24 25), (0, u "add"), (0, u "(J)V"), (0, .methodref 19 27), (0, .nameAndType 28 29), (0, u "firstAfter"), (0, u "(J)I"), (0, .class_ 31), (0, u "com/example/interlace/interlace/search/SpanListFirstAfterPinLaw"), (2, u "law"), (0, u "(JJJJJI)Z")] 3

def k1m0 : Method := { name := "<init>", desc := "()V", sig := { parameters := [], returnType := none }, accessFlags := 1, code := none }
def k1c1 : Code := { maxStack := 6, maxLocals := 38, code := code, exceptionTable := #[], attributes := #[] }
def k1m1 : Method := { name := "law", desc := "(JJJJJI)Z", sig := { parameters := [.long, .long, .long, .long, .long, .int], returnType := some .boolean }, accessFlags := 9, code := some k1c1 }
/-- com/example/interlace/interlace/search/SpanListFirstAfterPinLaw -/
def k1 : Class := { plain "com/example/interlace/interlace/search/SpanListFirstAfterPinLaw" (some 0) with
  accessFlags := 49
  interfaces := #[]
  cf := some (fileOf pool1 30 #[] #[{ accessFlags := 1, nameIndex := 5, descriptorIndex := 6, attributes := #[] }, { accessFlags := 9, nameIndex := 34, descriptorIndex := 35, attributes := #[] }] 49 2 #[] #[])
  fields := #[]
  methods := #[k1m0, k1m1]
  instanceTypes := #[]
  staticTypes := #[]
  resolved := Array.replicate 39 none
  statics := none }

def pool2 : Array CpInfo := pool [(1, .class_ 2), (0, u "java/lang/Math"), (1, .class_ 6), (1, u "java/lang/Object"), (0, u "<init>"), (0, u "()V"), (89, .class_ 100), (1, u "java/lang/Math$RandomNumberGeneratorHolder"), (20, u "(JJ)J"), (50, u "negativeZeroFloatBits"), (0, u "J"), (2, u "negativeZeroDoubleBits"), (21, u "max"), (2, u "min"), (43, u "$assertionsDisabled"), (0, u "Z"), (91, u "twoToTheDoubleScaleDown"), (0, u "D"), (4, u "twoToTheDoubleScaleUp"), (9, u "E"), (3, u "PI"), (2, u "TAU"), (2, u "DEGREES_TO_RADIANS"), (0, u "RADIANS_TO_DEGREES")] 94

def k2m0 : Method := { name := "<init>", desc := "()V", sig := { parameters := [], returnType := none }, accessFlags := 2, code := none }
def k2c1 : Code := { maxStack := 4, maxLocals := 4, code := jdk_29_method_66_code, exceptionTable := #[], attributes := #[] }
def k2m1 : Method := { name := "max", desc := "(JJ)J", sig := { parameters := [.long, .long], returnType := some .long }, accessFlags := 9, code := some k2c1 }
def k2c2 : Code := { maxStack := 4, maxLocals := 4, code := jdk_29_method_70_code, exceptionTable := #[], attributes := #[] }
def k2m2 : Method := { name := "min", desc := "(JJ)J", sig := { parameters := [.long, .long], returnType := some .long }, accessFlags := 9, code := some k2c2 }
/-- java/lang/Math -/
def k2 : Class := { plain "java/lang/Math" (some 0) with
  accessFlags := 49
  interfaces := #[]
  cf := some (fileOf pool2 1 #[.nestMembers #[98]] #[{ accessFlags := 2, nameIndex := 7, descriptorIndex := 8, attributes := #[] }, { accessFlags := 9, nameIndex := 198, descriptorIndex := 121, attributes := #[] }, { accessFlags := 9, nameIndex := 201, descriptorIndex := 121, attributes := #[] }] 49 4 #[] #[{ accessFlags := 25, nameIndex := 354, descriptorIndex := 339, attributes := #[] }, { accessFlags := 25, nameIndex := 358, descriptorIndex := 339, attributes := #[] }, { accessFlags := 25, nameIndex := 361, descriptorIndex := 339, attributes := #[] }, { accessFlags := 26, nameIndex := 364, descriptorIndex := 339, attributes := #[] }, { accessFlags := 26, nameIndex := 365, descriptorIndex := 339, attributes := #[] }, { accessFlags := 26, nameIndex := 172, descriptorIndex := 173, attributes := #[] }, { accessFlags := 26, nameIndex := 176, descriptorIndex := 173, attributes := #[] }, { accessFlags := 8, nameIndex := 344, descriptorIndex := 339, attributes := #[] }, { accessFlags := 8, nameIndex := 338, descriptorIndex := 339, attributes := #[] }, { accessFlags := 4120, nameIndex := 245, descriptorIndex := 246, attributes := #[] }])
  fields := #[{ name := "E", type := .double, accessFlags := 25, slot := 0, constantValue := 0 }, { name := "PI", type := .double, accessFlags := 25, slot := 1, constantValue := 0 }, { name := "TAU", type := .double, accessFlags := 25, slot := 2, constantValue := 0 }, { name := "DEGREES_TO_RADIANS", type := .double, accessFlags := 26, slot := 3, constantValue := 0 }, { name := "RADIANS_TO_DEGREES", type := .double, accessFlags := 26, slot := 4, constantValue := 0 }, { name := "negativeZeroFloatBits", type := .long, accessFlags := 26, slot := 5, constantValue := 0 }, { name := "negativeZeroDoubleBits", type := .long, accessFlags := 26, slot := 6, constantValue := 0 }, { name := "twoToTheDoubleScaleUp", type := .double, accessFlags := 8, slot := 7, constantValue := 0 }, { name := "twoToTheDoubleScaleDown", type := .double, accessFlags := 8, slot := 8, constantValue := 0 }, { name := "$assertionsDisabled", type := .boolean, accessFlags := 4120, slot := 9, constantValue := 0 }]
  methods := #[k2m0, k2m1, k2m2]
  instanceTypes := #[]
  staticTypes := #[.double, .double, .double, .double, .double, .long, .long, .double, .double, .boolean]
  resolved := Array.replicate 460 none
  statics := none }

def pool3 : Array CpInfo := pool [(1, .methodref 2 3), (0, .class_ 4), (0, .nameAndType 5 6), (0, u "java/lang/Object"), (0, u "<init>"), (0, u "()V"), (0, .fieldref 8 9), (0, .class_ 10), (0, .nameAndType 11 12), (0, u "com/example/interlace/interlace/search/SpanList"), (0, u "spans"), (0, u "[J"), (2, .fieldref 8 16), (0, .nameAndType 17 18), (0, u "size"), (0, u "I"), (3, u "(J)I"), (9, u "add"), (0, u "(J)V"), (12, u "firstAfter")] 16

def k3c0 : Code := { maxStack := 2, maxLocals := 1, code := prog_54_method_1_code, exceptionTable := #[], attributes := #[] }
def k3m0 : Method := { name := "<init>", desc := "()V", sig := { parameters := [], returnType := none }, accessFlags := 0, code := some k3c0 }
def k3c1 : Code := { maxStack := 5, maxLocals := 3, code := prog_54_method_10_code, exceptionTable := #[], attributes := #[] }
def k3m1 : Method := { name := "add", desc := "(J)V", sig := { parameters := [.long], returnType := none }, accessFlags := 0, code := some k3c1 }
def k3c2 : Code := { maxStack := 4, maxLocals := 6, code := prog_54_method_16_code, exceptionTable := #[], attributes := #[] }
def k3m2 : Method := { name := "firstAfter", desc := "(J)I", sig := { parameters := [.long], returnType := some .int }, accessFlags := 0, code := some k3c2 }
/-- com/example/interlace/interlace/search/SpanList -/
def k3 : Class := { plain "com/example/interlace/interlace/search/SpanList" (some 0) with
  accessFlags := 48
  interfaces := #[]
  cf := some (fileOf pool3 8 #[] #[{ accessFlags := 0, nameIndex := 5, descriptorIndex := 6, attributes := #[] }, { accessFlags := 0, nameIndex := 32, descriptorIndex := 33, attributes := #[] }, { accessFlags := 0, nameIndex := 46, descriptorIndex := 22, attributes := #[] }] 48 2 #[] #[{ accessFlags := 2, nameIndex := 11, descriptorIndex := 12, attributes := #[] }, { accessFlags := 2, nameIndex := 17, descriptorIndex := 18, attributes := #[] }])
  fields := #[{ name := "spans", type := (.array .long), accessFlags := 2, slot := 0, constantValue := 0 }, { name := "size", type := .int, accessFlags := 2, slot := 1, constantValue := 0 }]
  methods := #[k3m0, k3m1, k3m2]
  instanceTypes := #[(.array .long), .int]
  staticTypes := #[]
  resolved := Array.replicate 63 none
  statics := none }

def pool4 : Array CpInfo := pool [(1, u "java/lang/Cloneable"), (0, .class_ 1), (0, u "java/lang/Object"), (0, .class_ 3)] 3

/-- java/lang/Cloneable -/
def k4 : Class := { plain "java/lang/Cloneable" (some 0) with
  accessFlags := 1537
  interfaces := #[]
  cf := some (fileOf pool4 2 #[] #[] 1537 4 #[] #[])
  fields := #[]
  methods := #[]
  instanceTypes := #[]
  staticTypes := #[]
  resolved := Array.replicate 8 none
  statics := none }

def pool5 : Array CpInfo := pool [(1, u "java/io/Serializable"), (0, .class_ 1), (0, u "java/lang/Object"), (0, .class_ 3)] 3

/-- java/io/Serializable -/
def k5 : Class := { plain "java/io/Serializable" (some 0) with
  accessFlags := 1537
  interfaces := #[]
  cf := some (fileOf pool5 2 #[] #[] 1537 4 #[] #[])
  fields := #[]
  methods := #[]
  instanceTypes := #[]
  staticTypes := #[]
  resolved := Array.replicate 8 none
  statics := none }

/-- the primitive byte -/
def k6 : Class := { plain "byte" none with kind := .primitive 'B', accessFlags := 0x411 }
/-- [B -/
def k7 : Class := { plain "[B" (some 0) with kind := .array 6 .byte, interfaces := #[4, 5], accessFlags := 1041 }

/-- the primitive int -/
def k8 : Class := { plain "int" none with kind := .primitive 'I', accessFlags := 0x411 }
/-- [I -/
def k9 : Class := { plain "[I" (some 0) with kind := .array 8 .int, interfaces := #[4, 5], accessFlags := 1041 }

/-- the primitive long -/
def k10 : Class := { plain "long" none with kind := .primitive 'J', accessFlags := 0x411 }
/-- [J -/
def k11 : Class := { plain "[J" (some 0) with kind := .array 10 .long, interfaces := #[4, 5], accessFlags := 1041 }

def heap : Heap := #[]
def classes : Array Class := #[k0, k1, k2, k3, k4, k5, k6, k7, k8, k9, k10, k11]
def interned : List (Array UInt16 × Addr) := []
def slotsUsed : Nat := 0
def theMethod : MethodId := ⟨1, 1⟩
def args0 : Array Value := #[.long 5, .long 2, .long 5, .long 2, .long 2, .int 2]
def aboutOver (below : List Frame) : State where
  vm := { classes := classes, interned := interned.toArray }
  heap := heap
  slotsUsed := slotsUsed
  threads := #[{ frames := .invoking theMethod args0 :: below }]
def below0 : List Frame := [.native { method := ⟨0, 0⟩, args := #[] }]
def about1 : State := aboutOver below0
def p0 : Program := .bare "" "" ""
def e0 : Env := launch0.env 0 0 0
theorem w_frames : about1.frames = Frame.invoking theMethod args0 :: below0 := rfl
set_option maxRecDepth 65536 in
theorem w_args : argsFit about1.vm theMethod args0 = true := by decide +kernel
set_option maxRecDepth 65536 in
theorem w_heap : heapFits about1 = true := by decide +kernel
set_option maxRecDepth 65536 in
theorem w_runnable : about1.curStatus? = some .runnable := by decide +kernel
set_option maxRecDepth 65536 in
theorem w_alone : about1.alone = true := by decide +kernel
set_option maxRecDepth 65536 in
theorem w_named : about1.methodNamed? x = some theMethod := by decide +kernel
set_option maxRecDepth 65536 in
theorem w_hears : about1.hears theMethod below0 = true := by decide +kernel
set_option maxRecDepth 65536 in
theorem w_ripe : about1.ripe theMethod args0 below0 = true := by decide +kernel
theorem w_running : about1.status = .running := rfl
set_option maxRecDepth 65536 in
theorem w_room : about1.hasRoom e0.platform room_1 = true :=
  launch0.hasRoom_least _ room_1 (by decide +kernel) (by decide +kernel) (by decide +kernel) (by decide +kernel) (by decide +kernel) (by decide +kernel)
theorem allAtoms_all (ts : List Jvm.Cond) (a : Array Jvm.Value) (st : Jvm.State) : (allAtoms ts).before a st = ts.all (fun c => c.before a st) := by
  induction ts with
  | nil => rfl
  | cons c t ih =>
    show (Jvm.Cond.and c (allAtoms t)).before a st = _
    rw [Jvm.Cond.before_and, ih, List.all_cons]
def words1 : List Jvm.Cond := Jvm.Cond.code x code maxLocals ret :: tables_1
/-- a 'code' word, met by the world's own term for the bytes: nothing is compared byte by byte -/
theorem code_word {y : MethodName} {bytes : ByteArray} {mx : Nat} {rt : Option FieldType} {a : Array Value} {s : State} {m : MethodId} {meth : Method} {c : Code} (h1 : s.methodNamed? y = some m) (h2 : s.vm.method? m = some meth) (h3 : meth.code = some c) (h4 : c.code = bytes)
    (h5 : (c.maxLocals == mx && c.exceptionTable.isEmpty && decide (c.maxStack ≤ mostOperands) && decide (meth.sig.returnType = rt) && !meth.locks && decide (parseMethodDescriptor y.desc = some meth.sig)) = true) : (Jvm.Cond.code y bytes mx rt).before a s = true := by
  simp only [Bool.and_eq_true, beq_iff_eq, Bool.not_eq_true', decide_eq_true_eq] at h5
  obtain ⟨⟨⟨⟨⟨g1, g2⟩, g3⟩, g4⟩, g5⟩, g6⟩ := h5
  simp [Cond.before, Cond.holds, Cond.value, h1, h2, h3, h4, g1, g2, g3, g4, g5, g6]
def isCode : Jvm.Cond → Bool
  | .code _ _ _ _ => true
  | _ => false
theorem all_split {L : List Jvm.Cond} {P : Jvm.Cond → Bool} (h1 : L.all (fun c => isCode c || P c) = true) (h2 : ∀ c ∈ L.filter isCode, P c = true) : L.all P = true := by
  refine List.all_eq_true.mpr fun c hc => ?_
  have h := List.all_eq_true.mp h1 c hc
  rcases Bool.eq_false_or_eq_true (isCode c) with hi | hi
  · exact h2 c (List.mem_filter.mpr ⟨hc, hi⟩)
  · simpa [hi] using h
set_option maxRecDepth 65536 in
theorem w_c0 : (Jvm.Cond.code x code maxLocals ret).before args0 about1 = true := code_word (m := ⟨1, 1⟩) (meth := k1m1) (c := k1c1) (by decide +kernel) rfl rfl rfl (by decide +kernel)
set_option maxRecDepth 65536 in
theorem w_c1 : (Jvm.Cond.code ({ cls := "java/lang/Math", name := "min", desc := "(JJ)J" } : Jvm.MethodName) jdk_29_method_70_code (4 : Nat) (Option.some Jvm.ClassFile.FieldType.long)).before args0 about1 = true := code_word (m := ⟨2, 2⟩) (meth := k2m2) (c := k2c2) (by decide +kernel) rfl rfl rfl (by decide +kernel)
set_option maxRecDepth 65536 in
theorem w_c2 : (Jvm.Cond.code ({ cls := "java/lang/Math", name := "max", desc := "(JJ)J" } : Jvm.MethodName) jdk_29_method_66_code (4 : Nat) (Option.some Jvm.ClassFile.FieldType.long)).before args0 about1 = true := code_word (m := ⟨2, 1⟩) (meth := k2m1) (c := k2c1) (by decide +kernel) rfl rfl rfl (by decide +kernel)
set_option maxRecDepth 65536 in
theorem w_c3 : (Jvm.Cond.code ({ cls := "com/example/interlace/interlace/search/SpanList", name := "<init>", desc := "()V" } : Jvm.MethodName) prog_54_method_1_code (1 : Nat) (Option.none : Option Jvm.ClassFile.FieldType)).before args0 about1 = true := code_word (m := ⟨3, 0⟩) (meth := k3m0) (c := k3c0) (by decide +kernel) rfl rfl rfl (by decide +kernel)
set_option maxRecDepth 65536 in
theorem w_c4 : (Jvm.Cond.code ({ cls := "java/lang/Object", name := "<init>", desc := "()V" } : Jvm.MethodName) object_method_1_code (1 : Nat) (Option.none : Option Jvm.ClassFile.FieldType)).before args0 about1 = true := code_word (m := ⟨0, 0⟩) (meth := k0m0) (c := k0c0) (by decide +kernel) rfl rfl rfl (by decide +kernel)
set_option maxRecDepth 65536 in
theorem w_c5 : (Jvm.Cond.code ({ cls := "com/example/interlace/interlace/search/SpanList", name := "add", desc := "(J)V" } : Jvm.MethodName) prog_54_method_10_code (3 : Nat) (Option.none : Option Jvm.ClassFile.FieldType)).before args0 about1 = true := code_word (m := ⟨3, 1⟩) (meth := k3m1) (c := k3c1) (by decide +kernel) rfl rfl rfl (by decide +kernel)
set_option maxRecDepth 65536 in
theorem w_c6 : (Jvm.Cond.code ({ cls := "com/example/interlace/interlace/search/SpanList", name := "firstAfter", desc := "(J)I" } : Jvm.MethodName) prog_54_method_16_code (6 : Nat) (Option.some Jvm.ClassFile.FieldType.int)).before args0 about1 = true := code_word (m := ⟨3, 2⟩) (meth := k3m2) (c := k3c2) (by decide +kernel) rfl rfl rfl (by decide +kernel)
def codes1 : List Jvm.Cond := [Jvm.Cond.code x code maxLocals ret, Jvm.Cond.code ({ cls := "java/lang/Math", name := "min", desc := "(JJ)J" } : Jvm.MethodName) jdk_29_method_70_code (4 : Nat) (Option.some Jvm.ClassFile.FieldType.long), Jvm.Cond.code ({ cls := "java/lang/Math", name := "max", desc := "(JJ)J" } : Jvm.MethodName) jdk_29_method_66_code (4 : Nat) (Option.some Jvm.ClassFile.FieldType.long), Jvm.Cond.code ({ cls := "com/example/interlace/interlace/search/SpanList", name := "<init>", desc := "()V" } : Jvm.MethodName) prog_54_method_1_code (1 : Nat) (Option.none : Option Jvm.ClassFile.FieldType), Jvm.Cond.code ({ cls := "java/lang/Object", name := "<init>", desc := "()V" } : Jvm.MethodName) object_method_1_code (1 : Nat) (Option.none : Option Jvm.ClassFile.FieldType), Jvm.Cond.code ({ cls := "com/example/interlace/interlace/search/SpanList", name := "add", desc := "(J)V" } : Jvm.MethodName) prog_54_method_10_code (3 : Nat) (Option.none : Option Jvm.ClassFile.FieldType), Jvm.Cond.code ({ cls := "com/example/interlace/interlace/search/SpanList", name := "firstAfter", desc := "(J)I" } : Jvm.MethodName) prog_54_method_16_code (6 : Nat) (Option.some Jvm.ClassFile.FieldType.int)]
set_option maxRecDepth 65536 in
theorem codes_eq : words1.filter isCode = codes1 := rfl
theorem w_codes : ∀ c ∈ words1.filter isCode, c.before args0 about1 = true := by
  rw [codes_eq]
  intro c hc
  simp only [codes1, List.mem_cons, List.not_mem_nil, or_false] at hc
  rcases hc with rfl | rfl | rfl | rfl | rfl | rfl | rfl
  · exact w_c0
  · exact w_c1
  · exact w_c2
  · exact w_c3
  · exact w_c4
  · exact w_c5
  · exact w_c6
set_option maxRecDepth 65536 in
theorem w_t1 : (words1.take 24).all (fun c => isCode c || c.before args0 about1) = true := by decide +kernel
set_option maxRecDepth 65536 in
theorem w_t2 : (words1.drop 24).all (fun c => isCode c || c.before args0 about1) = true := by decide +kernel
theorem w_tables : (allAtoms (Jvm.Cond.code x code maxLocals ret :: tables_1)).before args0 about1 = true := by
  rw [allAtoms_all]
  show words1.all (fun c => c.before args0 about1) = true
  refine all_split ?_ w_codes
  rw [← List.take_append_drop 24 words1, List.all_append, w_t1, w_t2]
  rfl
set_option maxRecDepth 65536 in
theorem w_case : (Jvm.Cond.and given_1 narrow_1).before args0 about1 = true := by decide +kernel
theorem w_applies : (headSpec (Jvm.Cond.code x code maxLocals ret :: tables_1) room_1).applies x e0.platform about1 = true :=
  (Spec.applies_iff w_frames).mpr ⟨w_running, w_runnable, w_alone, w_named, w_hears, w_ripe, w_room, w_tables⟩
theorem atStart : AtStart classFile x code maxLocals ret World_1 tables_1 room_1 Calls_1 rest_1 Pre_1 launch0 p0 e0 about1 theMethod args0 below0 :=
  ⟨lists_1, trivial, launch0.admits_env _ _ _, launch0.least_env, fairChoices_fair.cas, fairChoices_fair.clock, w_frames, w_args, w_heap, w_applies, trivial, trivial, w_case⟩
end start1
theorem witness_1 : WitnessClaimed_1 := ⟨start1.p0, start1.e0, start1.about1, start1.theMethod, start1.args0, start1.below0, start1.atStart⟩
end Jvm.Pilot.@@N@@
