import JvmDerived
import JvmDerived.Pilot.@@N@@Statement
import JvmDerived.Pilot.@@N@@Code
set_option linter.unusedVariables false
set_option linter.unusedSimpArgs false
namespace Jvm.Pilot.@@N@@
open Jvm Jvm.ClassFile Sem Op Lib Jvm.Free Jvm.Stand Jvm.LawKit Jvm.RoadKit Bundle Jvm.Pilot.@@N@@.Jvm.D
section Own
variable {Z : State} {own nm : String} {bytes : ByteArray} {ml : Nat} {ret : Option FieldType} {R : Room} {n0 : Nat} {Q : Option Value → Heap → Prop} {k n : Nat} {h : Heap} {pc q r : Nat} {L L' : Array Slot} {S S' : List Value} {a0 : Array Value}
/-- what a body's own record says of it -/
def oCtx (p : Program) (s : State) (m : MethodId) (meth : Method) (c : Code) (Z : State) (own nm : String) (bytes : ByteArray) (ml : Nat) (ret : Option FieldType) : Prop :=
  p.tables.exec = Jvm.exec ∧ Z.Warmed39 s.vm ∧ c.code = bytes ∧ c.maxLocals = ml ∧ s.vm.findClass own = some m.cls ∧ meth.sig.returnType = ret ∧ meth.locks = false ∧ meth.name = nm
/-- from here on the body comes to its end, and there Q holds; nothing old is written -/
def oGo (Z : State) (own nm : String) (bytes : ByteArray) (ml : Nat) (ret : Option FieldType) (R : Room) (n0 : Nat) (Q : Option Value → Heap → Prop) (k n : Nat) (h : Heap) (pc : Nat) (L : Array Slot) (S : List Value) : Prop :=
  ∀ (p : Program) (l : Launch) (e : Env) (s : State) (m : MethodId) (args : Array Value) (below : List Frame) (meth : Method) (c : Code) (T : State) (locs : List Loc),
    oCtx p s m meth c Z own nm bytes ml ret → Stand p l e R s m args below meth c T locs k n → T.heap = h → Fr n0 locs →
    ∃ s₂ o, Steps p.tables e below (T.setTop (mkF m pc L S)) s₂ ∧ s₂.status = .running ∧ Ended s₂ below o ∧ ∃ v L', o = .returned v ∧ (Q v s₂.heap ∧ Fr n0 L') ∧ FrameEnd s o s₂ L' R.cells R.slots
/-- a body's contract -/
def oCon (Z : State) (y : MethodName) (bytes : ByteArray) (ml : Nat) (ret : Option FieldType) (rm : Room) (as : Array Value) (h : Heap) (n0 : Nat) (Q : Option Value → Heap → Prop) : Prop :=
  ∀ (l : Launch) (ws : List Jvm.Cond), MetFree l y (head1 (Jvm.Cond.code y bytes ml ret :: ws) rm) (fun a U => a = as ∧ Z.Warmed39 U.vm ∧ U.heap = h) (fun _ _ _ _ _ => True) (fun _ U o U' => ∃ v L, o = .returned v ∧ (Q v U'.heap ∧ Fr n0 L) ∧ FrameEnd U o U' L rm.cells rm.slots)
theorem oCon.of {y : MethodName} {rm : Room} {as : Array Value} {L0 : Array Slot} (hp : plainFor y = true) (he : ∀ m, entryFrame m as ml = mkF m 0 L0 []) (K : oGo Z y.cls y.name bytes ml ret rm n0 Q 0 0 h 0 L0 []) : oCon Z y bytes ml ret rm as h n0 Q := by
  intro l ws
  refine MetFree.of_bodySF hp hisR ?_
  intro p e s m args below meth c s₁ Bd hml0 hP hK
  obtain ⟨rfl, hZ, hh⟩ := hP
  have e0 : s₁.heap = h := by rw [← hh, Bd.state]; rfl
  obtain ⟨s₂, o, h1, h2, h3, h4⟩ := K p l e s m args below meth c s₁ [] ⟨Bd.exec, hZ, Bd.bytes, hml0, findClass_of_methodNamed Bd.named, Bd.returns, Bd.notSynchronized, (name_of_methodNamed Bd.named Bd.method).1⟩ (Stand.of_body Bd) e0 (Fr.nil n0)
  exact ⟨s₂, o, castTop (he m) h1, h2, h3, h4⟩
theorem oGo.more {k' n' : Nat} (hk : k ≤ k') (hn : n ≤ n') (K : oGo Z own nm bytes ml ret R n0 Q k' n' h pc L S) : oGo Z own nm bytes ml ret R n0 Q k n h pc L S :=
  fun p l e s m args below meth c T locs C X eT N => K p l e s m args below meth c T locs C (X.more hk hn) eT N
theorem oGo.st (H : ∀ (p : Program) (e : Env) (m : MethodId) (below : List Frame) (c : Code) (T : State), p.tables.exec = Jvm.exec → c.code = bytes → At T m c below → ∀ t, Steps p.tables e below (T.setTop (mkF m q L' S')) t → Steps p.tables e below (T.setTop (mkF m pc L S)) t) (K : oGo Z own nm bytes ml ret R n0 Q k n h q L' S') : oGo Z own nm bytes ml ret R n0 Q k n h pc L S :=
  fun p l e s m args below meth c T locs C X eT N => by
    obtain ⟨s₂, o, h1, r⟩ := K p l e s m args below meth c T locs C X eT N
    exact ⟨s₂, o, H p e m below c T C.1 C.2.2.1 X.here s₂ h1, r⟩
theorem oGo.iadd {x y : Int32} (hd : decode bytes pc = .ok (.iadd, 1)) (hq : pc + 1 = q) (K : oGo Z own nm bytes ml ret R n0 Q k n h q L (.int (x + y) :: S)) : oGo Z own nm bytes ml ret R n0 Q k n h pc L (.int y :: .int x :: S) := by
  subst hq; exact oGo.st (fun p e m below c T hx hby hA t k => XS.iadd hA hx rfl (hb hby hd) rfl k) K
theorem oGo.isub {x y : Int32} (hd : decode bytes pc = .ok (.isub, 1)) (hq : pc + 1 = q) (K : oGo Z own nm bytes ml ret R n0 Q k n h q L (.int (x - y) :: S)) : oGo Z own nm bytes ml ret R n0 Q k n h pc L (.int y :: .int x :: S) := by
  subst hq; exact oGo.st (fun p e m below c T hx hby hA t k => XS.isub hA hx rfl (hb hby hd) rfl k) K
theorem oGo.imul {x y : Int32} (hd : decode bytes pc = .ok (.imul, 1)) (hq : pc + 1 = q) (K : oGo Z own nm bytes ml ret R n0 Q k n h q L (.int (x * y) :: S)) : oGo Z own nm bytes ml ret R n0 Q k n h pc L (.int y :: .int x :: S) := by
  subst hq; exact oGo.st (fun p e m below c T hx hby hA t k => XS.imul hA hx rfl (hb hby hd) rfl k) K
theorem oGo.iand {x y : Int32} (hd : decode bytes pc = .ok (.iand, 1)) (hq : pc + 1 = q) (K : oGo Z own nm bytes ml ret R n0 Q k n h q L (.int (x &&& y) :: S)) : oGo Z own nm bytes ml ret R n0 Q k n h pc L (.int y :: .int x :: S) := by
  subst hq; exact oGo.st (fun p e m below c T hx hby hA t k => XS.iand hA hx rfl (hb hby hd) rfl k) K
theorem oGo.ior {x y : Int32} (hd : decode bytes pc = .ok (.ior, 1)) (hq : pc + 1 = q) (K : oGo Z own nm bytes ml ret R n0 Q k n h q L (.int (x ||| y) :: S)) : oGo Z own nm bytes ml ret R n0 Q k n h pc L (.int y :: .int x :: S) := by
  subst hq; exact oGo.st (fun p e m below c T hx hby hA t k => XS.ior hA hx rfl (hb hby hd) rfl k) K
theorem oGo.ixor {x y : Int32} (hd : decode bytes pc = .ok (.ixor, 1)) (hq : pc + 1 = q) (K : oGo Z own nm bytes ml ret R n0 Q k n h q L (.int (x ^^^ y) :: S)) : oGo Z own nm bytes ml ret R n0 Q k n h pc L (.int y :: .int x :: S) := by
  subst hq; exact oGo.st (fun p e m below c T hx hby hA t k => XS.ixor hA hx rfl (hb hby hd) rfl k) K
theorem oGo.ishl {x y : Int32} (hd : decode bytes pc = .ok (.ishl, 1)) (hq : pc + 1 = q) (K : oGo Z own nm bytes ml ret R n0 Q k n h q L (.int (x <<< (y &&& 31)) :: S)) : oGo Z own nm bytes ml ret R n0 Q k n h pc L (.int y :: .int x :: S) := by
  subst hq; exact oGo.st (fun p e m below c T hx hby hA t k => XS.ishl hA hx rfl (hb hby hd) rfl k) K
theorem oGo.ishr {x y : Int32} (hd : decode bytes pc = .ok (.ishr, 1)) (hq : pc + 1 = q) (K : oGo Z own nm bytes ml ret R n0 Q k n h q L (.int (x >>> (y &&& 31)) :: S)) : oGo Z own nm bytes ml ret R n0 Q k n h pc L (.int y :: .int x :: S) := by
  subst hq; exact oGo.st (fun p e m below c T hx hby hA t k => XS.ishr hA hx rfl (hb hby hd) rfl k) K
theorem oGo.iushr {x y : Int32} (hd : decode bytes pc = .ok (.iushr, 1)) (hq : pc + 1 = q) (K : oGo Z own nm bytes ml ret R n0 Q k n h q L (.int ((x.toUInt32 >>> (y &&& 31).toUInt32).toInt32) :: S)) : oGo Z own nm bytes ml ret R n0 Q k n h pc L (.int y :: .int x :: S) := by
  subst hq; exact oGo.st (fun p e m below c T hx hby hA t k => XS.iushr hA hx rfl (hb hby hd) rfl k) K
theorem oGo.ladd {x y : Int64} (hd : decode bytes pc = .ok (.ladd, 1)) (hq : pc + 1 = q) (K : oGo Z own nm bytes ml ret R n0 Q k n h q L (.long (x + y) :: S)) : oGo Z own nm bytes ml ret R n0 Q k n h pc L (.long y :: .long x :: S) := by
  subst hq; exact oGo.st (fun p e m below c T hx hby hA t k => XS.ladd hA hx rfl (hb hby hd) rfl k) K
theorem oGo.lsub {x y : Int64} (hd : decode bytes pc = .ok (.lsub, 1)) (hq : pc + 1 = q) (K : oGo Z own nm bytes ml ret R n0 Q k n h q L (.long (x - y) :: S)) : oGo Z own nm bytes ml ret R n0 Q k n h pc L (.long y :: .long x :: S) := by
  subst hq; exact oGo.st (fun p e m below c T hx hby hA t k => XS.lsub hA hx rfl (hb hby hd) rfl k) K
theorem oGo.lmul {x y : Int64} (hd : decode bytes pc = .ok (.lmul, 1)) (hq : pc + 1 = q) (K : oGo Z own nm bytes ml ret R n0 Q k n h q L (.long (x * y) :: S)) : oGo Z own nm bytes ml ret R n0 Q k n h pc L (.long y :: .long x :: S) := by
  subst hq; exact oGo.st (fun p e m below c T hx hby hA t k => XS.lmul hA hx rfl (hb hby hd) rfl k) K
theorem oGo.land {x y : Int64} (hd : decode bytes pc = .ok (.land, 1)) (hq : pc + 1 = q) (K : oGo Z own nm bytes ml ret R n0 Q k n h q L (.long (x &&& y) :: S)) : oGo Z own nm bytes ml ret R n0 Q k n h pc L (.long y :: .long x :: S) := by
  subst hq; exact oGo.st (fun p e m below c T hx hby hA t k => XS.land hA hx rfl (hb hby hd) rfl k) K
theorem oGo.lor {x y : Int64} (hd : decode bytes pc = .ok (.lor, 1)) (hq : pc + 1 = q) (K : oGo Z own nm bytes ml ret R n0 Q k n h q L (.long (x ||| y) :: S)) : oGo Z own nm bytes ml ret R n0 Q k n h pc L (.long y :: .long x :: S) := by
  subst hq; exact oGo.st (fun p e m below c T hx hby hA t k => XS.lor hA hx rfl (hb hby hd) rfl k) K
theorem oGo.lxor {x y : Int64} (hd : decode bytes pc = .ok (.lxor, 1)) (hq : pc + 1 = q) (K : oGo Z own nm bytes ml ret R n0 Q k n h q L (.long (x ^^^ y) :: S)) : oGo Z own nm bytes ml ret R n0 Q k n h pc L (.long y :: .long x :: S) := by
  subst hq; exact oGo.st (fun p e m below c T hx hby hA t k => XS.lxor hA hx rfl (hb hby hd) rfl k) K
theorem oGo.lshl {x : Int64} {y : Int32} (hd : decode bytes pc = .ok (.lshl, 1)) (hq : pc + 1 = q) (K : oGo Z own nm bytes ml ret R n0 Q k n h q L (.long (x <<< (y &&& 0x3f).toInt64) :: S)) : oGo Z own nm bytes ml ret R n0 Q k n h pc L (.int y :: .long x :: S) := by
  subst hq; exact oGo.st (fun p e m below c T hx hby hA t k => XS.lshl hA hx rfl (hb hby hd) rfl k) K
theorem oGo.lshr {x : Int64} {y : Int32} (hd : decode bytes pc = .ok (.lshr, 1)) (hq : pc + 1 = q) (K : oGo Z own nm bytes ml ret R n0 Q k n h q L (.long (x >>> (y &&& 0x3f).toInt64) :: S)) : oGo Z own nm bytes ml ret R n0 Q k n h pc L (.int y :: .long x :: S) := by
  subst hq; exact oGo.st (fun p e m below c T hx hby hA t k => XS.lshr hA hx rfl (hb hby hd) rfl k) K
theorem oGo.lushr {x : Int64} {y : Int32} (hd : decode bytes pc = .ok (.lushr, 1)) (hq : pc + 1 = q) (K : oGo Z own nm bytes ml ret R n0 Q k n h q L (.long ((x.toUInt64 >>> (y &&& 0x3f).toInt64.toUInt64).toInt64) :: S)) : oGo Z own nm bytes ml ret R n0 Q k n h pc L (.int y :: .long x :: S) := by
  subst hq; exact oGo.st (fun p e m below c T hx hby hA t k => XS.lushr hA hx rfl (hb hby hd) rfl k) K
theorem oGo.idiv {x y : Int32} (hd : decode bytes pc = .ok (.idiv, 1)) (hq : pc + 1 = q) (hy : y ≠ 0) (K : oGo Z own nm bytes ml ret R n0 Q k n h q L (.int (x / y) :: S)) : oGo Z own nm bytes ml ret R n0 Q k n h pc L (.int y :: .int x :: S) := by
  subst hq; exact oGo.st (fun p e m below c T hx hby hA t k => XS.idiv hA hx rfl (hb hby hd) rfl hy k) K
theorem oGo.ldiv {x y : Int64} (hd : decode bytes pc = .ok (.ldiv, 1)) (hq : pc + 1 = q) (hy : y ≠ 0) (K : oGo Z own nm bytes ml ret R n0 Q k n h q L (.long (x / y) :: S)) : oGo Z own nm bytes ml ret R n0 Q k n h pc L (.long y :: .long x :: S) := by
  subst hq; exact oGo.st (fun p e m below c T hx hby hA t k => XS.ldiv hA hx rfl (hb hby hd) rfl hy k) K
theorem oGo.irem {x y : Int32} (hd : decode bytes pc = .ok (.irem, 1)) (hq : pc + 1 = q) (hy : y ≠ 0) (K : oGo Z own nm bytes ml ret R n0 Q k n h q L (.int (x % y) :: S)) : oGo Z own nm bytes ml ret R n0 Q k n h pc L (.int y :: .int x :: S) := by
  subst hq; exact oGo.st (fun p e m below c T hx hby hA t k => XS.irem hA hx rfl (hb hby hd) rfl hy (by rw [irem_eq_mod]; exact k)) K
theorem oGo.lrem {x y : Int64} (hd : decode bytes pc = .ok (.lrem, 1)) (hq : pc + 1 = q) (hy : y ≠ 0) (K : oGo Z own nm bytes ml ret R n0 Q k n h q L (.long (x % y) :: S)) : oGo Z own nm bytes ml ret R n0 Q k n h pc L (.long y :: .long x :: S) := by
  subst hq; exact oGo.st (fun p e m below c T hx hby hA t k => XS.lrem hA hx rfl (hb hby hd) rfl hy (by rw [lrem_mod]; exact k)) K
theorem oGo.ineg {x : Int32} (hd : decode bytes pc = .ok (.ineg, 1)) (hq : pc + 1 = q) (K : oGo Z own nm bytes ml ret R n0 Q k n h q L (.int (-x) :: S)) : oGo Z own nm bytes ml ret R n0 Q k n h pc L (.int x :: S) := by
  subst hq; exact oGo.st (fun p e m below c T hx hby hA t k => XS.ineg hA hx rfl (hb hby hd) rfl k) K
theorem oGo.lneg {x : Int64} (hd : decode bytes pc = .ok (.lneg, 1)) (hq : pc + 1 = q) (K : oGo Z own nm bytes ml ret R n0 Q k n h q L (.long (-x) :: S)) : oGo Z own nm bytes ml ret R n0 Q k n h pc L (.long x :: S) := by
  subst hq; exact oGo.st (fun p e m below c T hx hby hA t k => XS.lneg hA hx rfl (hb hby hd) rfl k) K
theorem oGo.i2b {x : Int32} (hd : decode bytes pc = .ok (.i2b, 1)) (hq : pc + 1 = q) (K : oGo Z own nm bytes ml ret R n0 Q k n h q L (.int (x.toInt8.toInt32) :: S)) : oGo Z own nm bytes ml ret R n0 Q k n h pc L (.int x :: S) := by
  subst hq; exact oGo.st (fun p e m below c T hx hby hA t k => XS.i2b hA hx rfl (hb hby hd) rfl k) K
theorem oGo.i2c {x : Int32} (hd : decode bytes pc = .ok (.i2c, 1)) (hq : pc + 1 = q) (K : oGo Z own nm bytes ml ret R n0 Q k n h q L (.int (x.toUInt32.toUInt16.toUInt32.toInt32) :: S)) : oGo Z own nm bytes ml ret R n0 Q k n h pc L (.int x :: S) := by
  subst hq; exact oGo.st (fun p e m below c T hx hby hA t k => XS.i2c hA hx rfl (hb hby hd) rfl k) K
theorem oGo.i2s {x : Int32} (hd : decode bytes pc = .ok (.i2s, 1)) (hq : pc + 1 = q) (K : oGo Z own nm bytes ml ret R n0 Q k n h q L (.int (x.toInt16.toInt32) :: S)) : oGo Z own nm bytes ml ret R n0 Q k n h pc L (.int x :: S) := by
  subst hq; exact oGo.st (fun p e m below c T hx hby hA t k => XS.i2s hA hx rfl (hb hby hd) rfl k) K
theorem oGo.i2l {x : Int32} (hd : decode bytes pc = .ok (.i2l, 1)) (hq : pc + 1 = q) (K : oGo Z own nm bytes ml ret R n0 Q k n h q L (.long (x.toInt64) :: S)) : oGo Z own nm bytes ml ret R n0 Q k n h pc L (.int x :: S) := by
  subst hq; exact oGo.st (fun p e m below c T hx hby hA t k => XS.i2l hA hx rfl (hb hby hd) rfl k) K
theorem oGo.l2i {x : Int64} (hd : decode bytes pc = .ok (.l2i, 1)) (hq : pc + 1 = q) (K : oGo Z own nm bytes ml ret R n0 Q k n h q L (.int (x.toInt32) :: S)) : oGo Z own nm bytes ml ret R n0 Q k n h pc L (.long x :: S) := by
  subst hq; exact oGo.st (fun p e m below c T hx hby hA t k => XS.l2i hA hx rfl (hb hby hd) rfl k) K
theorem oGo.iconst {i : Int} {v : Int32} (hd : decode bytes pc = .ok (.iconst i, 1)) (hq : pc + 1 = q) (hv : Int32.ofInt i = v) (K : oGo Z own nm bytes ml ret R n0 Q k n h q L (.int v :: S)) : oGo Z own nm bytes ml ret R n0 Q k n h pc L S := by
  subst hq hv; exact oGo.st (fun p e m below c T hx hby hA t k => XS.iconst hA hx rfl (hb hby hd) k) K
theorem oGo.bipush {i : Int} {v : Int32} (hd : decode bytes pc = .ok (.bipush i, 2)) (hq : pc + 2 = q) (hv : (Int8.ofInt i).toInt32 = v) (K : oGo Z own nm bytes ml ret R n0 Q k n h q L (.int v :: S)) : oGo Z own nm bytes ml ret R n0 Q k n h pc L S := by
  subst hq hv; exact oGo.st (fun p e m below c T hx hby hA t k => XS.bipush hA hx rfl (hb hby hd) k) K
theorem oGo.sipush {i : Int} {v : Int32} (hd : decode bytes pc = .ok (.sipush i, 3)) (hq : pc + 3 = q) (hv : (Int16.ofInt i).toInt32 = v) (K : oGo Z own nm bytes ml ret R n0 Q k n h q L (.int v :: S)) : oGo Z own nm bytes ml ret R n0 Q k n h pc L S := by
  subst hq hv; exact oGo.st (fun p e m below c T hx hby hA t k => XS.sipush hA hx rfl (hb hby hd) k) K
theorem oGo.lconst {i : Fin 2} {v : Int64} (hd : decode bytes pc = .ok (.lconst i, 1)) (hq : pc + 1 = q) (hv : Int64.ofNat i = v) (K : oGo Z own nm bytes ml ret R n0 Q k n h q L (.long v :: S)) : oGo Z own nm bytes ml ret R n0 Q k n h pc L S := by
  subst hq hv; exact oGo.st (fun p e m below c T hx hby hA t k => XS.lconst hA hx rfl (hb hby hd) k) K
theorem oGo.aconstNull (hd : decode bytes pc = .ok (.aconst_null, 1)) (hq : pc + 1 = q) (K : oGo Z own nm bytes ml ret R n0 Q k n h q L (.null :: S)) : oGo Z own nm bytes ml ret R n0 Q k n h pc L (S) := by
  subst hq; exact oGo.st (fun p e m below c T hx hby hA t k => XS.aconstNull hA hx rfl (hb hby hd) k) K
theorem oGo.iload {i : Nat} {v : Int32} (hd : decode bytes pc = .ok (.iload i, 2)) (hq : pc + 2 = q) (hl : L[i]? = some (.val (.int v))) (K : oGo Z own nm bytes ml ret R n0 Q k n h q L (.int v :: S)) : oGo Z own nm bytes ml ret R n0 Q k n h pc L S := by
  subst hq; exact oGo.st (fun p e m below c T hx hby hA t k => XS.iload hA hx rfl (hb hby hd) hl k) K
theorem oGo.iloadN {i : Fin 4} {v : Int32} (hd : decode bytes pc = .ok (.iload_n i, 1)) (hq : pc + 1 = q) (hl : L[i.val]? = some (.val (.int v))) (K : oGo Z own nm bytes ml ret R n0 Q k n h q L (.int v :: S)) : oGo Z own nm bytes ml ret R n0 Q k n h pc L S := by
  subst hq; exact oGo.st (fun p e m below c T hx hby hA t k => XS.iloadN hA hx rfl (hb hby hd) hl k) K
theorem oGo.istore {i : Nat} {v : Int32} (hd : decode bytes pc = .ok (.istore i, 2)) (hq : pc + 2 = q) (hl : storeLocals L i (.int v) = some L') (K : oGo Z own nm bytes ml ret R n0 Q k n h q L' S) : oGo Z own nm bytes ml ret R n0 Q k n h pc L (.int v :: S) := by
  subst hq; exact oGo.st (fun p e m below c T hx hby hA t k => XS.istore hA hx rfl (hb hby hd) rfl hl k) K
theorem oGo.istoreN {i : Fin 4} {v : Int32} (hd : decode bytes pc = .ok (.istore_n i, 1)) (hq : pc + 1 = q) (hl : storeLocals L i.val (.int v) = some L') (K : oGo Z own nm bytes ml ret R n0 Q k n h q L' S) : oGo Z own nm bytes ml ret R n0 Q k n h pc L (.int v :: S) := by
  subst hq; exact oGo.st (fun p e m below c T hx hby hA t k => XS.istoreN hA hx rfl (hb hby hd) rfl hl k) K
theorem oGo.lload {i : Nat} {v : Int64} (hd : decode bytes pc = .ok (.lload i, 2)) (hq : pc + 2 = q) (hl : L[i]? = some (.val (.long v))) (K : oGo Z own nm bytes ml ret R n0 Q k n h q L (.long v :: S)) : oGo Z own nm bytes ml ret R n0 Q k n h pc L S := by
  subst hq; exact oGo.st (fun p e m below c T hx hby hA t k => XS.lload hA hx rfl (hb hby hd) hl k) K
theorem oGo.lloadN {i : Fin 4} {v : Int64} (hd : decode bytes pc = .ok (.lload_n i, 1)) (hq : pc + 1 = q) (hl : L[i.val]? = some (.val (.long v))) (K : oGo Z own nm bytes ml ret R n0 Q k n h q L (.long v :: S)) : oGo Z own nm bytes ml ret R n0 Q k n h pc L S := by
  subst hq; exact oGo.st (fun p e m below c T hx hby hA t k => XS.lloadN hA hx rfl (hb hby hd) hl k) K
theorem oGo.lstore {i : Nat} {v : Int64} (hd : decode bytes pc = .ok (.lstore i, 2)) (hq : pc + 2 = q) (hl : storeLocals L i (.long v) = some L') (K : oGo Z own nm bytes ml ret R n0 Q k n h q L' S) : oGo Z own nm bytes ml ret R n0 Q k n h pc L (.long v :: S) := by
  subst hq; exact oGo.st (fun p e m below c T hx hby hA t k => XS.lstore hA hx rfl (hb hby hd) rfl hl k) K
theorem oGo.lstoreN {i : Fin 4} {v : Int64} (hd : decode bytes pc = .ok (.lstore_n i, 1)) (hq : pc + 1 = q) (hl : storeLocals L i.val (.long v) = some L') (K : oGo Z own nm bytes ml ret R n0 Q k n h q L' S) : oGo Z own nm bytes ml ret R n0 Q k n h pc L (.long v :: S) := by
  subst hq; exact oGo.st (fun p e m below c T hx hby hA t k => XS.lstoreN hA hx rfl (hb hby hd) rfl hl k) K
theorem oGo.aload {i : Nat} {v : Value} (hd : decode bytes pc = .ok (.aload i, 2)) (hq : pc + 2 = q) (hl : L[i]? = some (.val v)) (hv : v.isRef = true) (K : oGo Z own nm bytes ml ret R n0 Q k n h q L (v :: S)) : oGo Z own nm bytes ml ret R n0 Q k n h pc L S := by
  subst hq; exact oGo.st (fun p e m below c T hx hby hA t k => XS.aload hA hx rfl (hb hby hd) hl hv k) K
theorem oGo.aloadN {i : Fin 4} {v : Value} (hd : decode bytes pc = .ok (.aload_n i, 1)) (hq : pc + 1 = q) (hl : L[i.val]? = some (.val v)) (hv : v.isRef = true) (K : oGo Z own nm bytes ml ret R n0 Q k n h q L (v :: S)) : oGo Z own nm bytes ml ret R n0 Q k n h pc L S := by
  subst hq; exact oGo.st (fun p e m below c T hx hby hA t k => XS.aloadN hA hx rfl (hb hby hd) hl hv k) K
theorem oGo.astore {i : Nat} {v : Value} (hd : decode bytes pc = .ok (.astore i, 2)) (hq : pc + 2 = q) (hv : v.isRef = true) (hl : storeLocals L i v = some L') (K : oGo Z own nm bytes ml ret R n0 Q k n h q L' S) : oGo Z own nm bytes ml ret R n0 Q k n h pc L (v :: S) := by
  subst hq; exact oGo.st (fun p e m below c T hx hby hA t k => XS.astore hA hx rfl (hb hby hd) rfl hv hl k) K
theorem oGo.astoreN {i : Fin 4} {v : Value} (hd : decode bytes pc = .ok (.astore_n i, 1)) (hq : pc + 1 = q) (hv : v.isRef = true) (hl : storeLocals L i.val v = some L') (K : oGo Z own nm bytes ml ret R n0 Q k n h q L' S) : oGo Z own nm bytes ml ret R n0 Q k n h pc L (v :: S) := by
  subst hq; exact oGo.st (fun p e m below c T hx hby hA t k => XS.astoreN hA hx rfl (hb hby hd) rfl hv hl k) K
theorem oGo.iinc {i : Nat} {cst : Int} {x v : Int32} (hd : decode bytes pc = .ok (.iinc i cst, 3)) (hq : pc + 3 = q) (hl : L[i]? = some (.val (.int x))) (hv : x + Int32.ofInt cst = v) (hs : storeLocals L i (.int v) = some L') (K : oGo Z own nm bytes ml ret R n0 Q k n h q L' S) : oGo Z own nm bytes ml ret R n0 Q k n h pc L S := by
  subst hq hv; exact oGo.st (fun p e m below c T hx hby hA t k => XS.iinc hA hx rfl (hb hby hd) hl hs k) K
theorem oGo.dup {v : Value} (hd : decode bytes pc = .ok (.dup, 1)) (hq : pc + 1 = q) (hc : v.category = 1) (K : oGo Z own nm bytes ml ret R n0 Q k n h q L (v :: v :: S)) : oGo Z own nm bytes ml ret R n0 Q k n h pc L (v :: S) := by
  subst hq; exact oGo.st (fun p e m below c T hx hby hA t k => XS.dup hA hx rfl (hb hby hd) rfl hc k) K
theorem oGo.dupX1 {v w : Value} (hd : decode bytes pc = .ok (.dup_x1, 1)) (hq : pc + 1 = q) (hc : v.category = 1) (hc' : w.category = 1) (K : oGo Z own nm bytes ml ret R n0 Q k n h q L (v :: w :: v :: S)) : oGo Z own nm bytes ml ret R n0 Q k n h pc L (v :: w :: S) := by
  subst hq; exact oGo.st (fun p e m below c T hx hby hA t k => XS.dupX1 hA hx rfl (hb hby hd) rfl hc hc' k) K
theorem oGo.dup2 {v w : Value} (hd : decode bytes pc = .ok (.dup2, 1)) (hq : pc + 1 = q) (hc : v.category = 1) (hc' : w.category = 1) (K : oGo Z own nm bytes ml ret R n0 Q k n h q L (v :: w :: v :: w :: S)) : oGo Z own nm bytes ml ret R n0 Q k n h pc L (v :: w :: S) := by
  subst hq; exact oGo.st (fun p e m below c T hx hby hA t k => XT.dup2 hA hx rfl (hb hby hd) rfl hc hc' k) K
theorem oGo.pop {v : Value} (hd : decode bytes pc = .ok (.pop, 1)) (hq : pc + 1 = q) (hc : v.category = 1) (K : oGo Z own nm bytes ml ret R n0 Q k n h q L S) : oGo Z own nm bytes ml ret R n0 Q k n h pc L (v :: S) := by
  subst hq; exact oGo.st (fun p e m below c T hx hby hA t k => XS.pop hA hx rfl (hb hby hd) rfl hc k) K
theorem oGo.goto {o : Int} (hd : decode bytes pc = .ok (.goto o, 3)) (hq : (pc : Int) + o = (q : Int)) (K : oGo Z own nm bytes ml ret R n0 Q k n h q L S) : oGo Z own nm bytes ml ret R n0 Q k n h pc L S :=
  oGo.st (fun p e m below c T hx hby hA t k => XS.goto hA hx rfl (pc0 := pc) (pc' := q) rfl (hb hby hd) (by omega) (by omega) k) K
theorem oGo.ifnonnullYes {o : Int} {b : Addr} (hd : decode bytes pc = .ok (.ifnonnull o, 3)) (hq : (pc : Int) + o = (q : Int)) (K : oGo Z own nm bytes ml ret R n0 Q k n h q L S) : oGo Z own nm bytes ml ret R n0 Q k n h pc L (.ref b :: S) :=
  oGo.st (fun p e m below c T hx hby hA t k => XS.ifnonnullYes hA hx rfl (pc0 := pc) (pc' := q) rfl (hb hby hd) rfl (by omega) (by omega) k) K
theorem oGo.lcmp {x y : Int64} (hd : decode bytes pc = .ok (.lcmp, 1)) (hq : pc + 1 = q) (K : oGo Z own nm bytes ml ret R n0 Q k n h q L (.int (lcmpW x y) :: S)) : oGo Z own nm bytes ml ret R n0 Q k n h pc L (.long y :: .long x :: S) := by
  subst hq; exact oGo.st (fun p e m below c T hx hby hA t k => XS.lcmp hA hx rfl (hb hby hd) rfl k) K
theorem own_hlt {x y : Int32} : (x.toInt < y.toInt → if_icmp.holds .lt x y = true) ∧ (y.toInt ≤ x.toInt → if_icmp.holds .lt x y = false) :=
  ⟨fun hc => (tlt (Int32.lt_iff_toInt_lt.mpr hc)).1, fun hc => (flt (fun z => by have := Int32.lt_iff_toInt_lt.mp z; omega)).1⟩
theorem own_dlt (x y : Int32) : (x.toInt < y.toInt) ∨ (y.toInt ≤ x.toInt) := by omega
theorem own_elt (x y : Int64) : (x.toInt < y.toInt) ∨ (y.toInt ≤ x.toInt) := by omega
theorem oGo.icmp_lt {o : Int} {x y : Int32} (hd : decode bytes pc = .ok (.if_icmp .lt o, 3)) (hq : (pc : Int) + o = (q : Int)) (hr : pc + 3 = r) (K1 : x.toInt < y.toInt → oGo Z own nm bytes ml ret R n0 Q k n h q L S) (K2 : y.toInt ≤ x.toInt → oGo Z own nm bytes ml ret R n0 Q k n h r L S) : oGo Z own nm bytes ml ret R n0 Q k n h pc L (.int y :: .int x :: S) := by
  rcases own_dlt x y with hc | hc
  · exact oGo.st (fun p e m below c T hx hby hA t k => XS.icmpYes hA hx rfl (pc0 := pc) (pc' := q) rfl (hb hby hd) rfl (own_hlt.1 hc) (by omega) (by omega) k) (K1 hc)
  · subst hr; exact oGo.st (fun p e m below c T hx hby hA t k => XS.icmpNo hA hx rfl (hb hby hd) rfl (own_hlt.2 hc) k) (K2 hc)
theorem oGo.if_lt {o : Int} {x : Int32} (hd : decode bytes pc = .ok (.ifCond .lt o, 3)) (hq : (pc : Int) + o = (q : Int)) (hr : pc + 3 = r) (K1 : x.toInt < 0 → oGo Z own nm bytes ml ret R n0 Q k n h q L S) (K2 : 0 ≤ x.toInt → oGo Z own nm bytes ml ret R n0 Q k n h r L S) : oGo Z own nm bytes ml ret R n0 Q k n h pc L (.int x :: S) := by
  rcases own_dlt x 0 with hc | hc
  · exact oGo.st (fun p e m below c T hx hby hA t k => XS.ifYes hA hx rfl (pc0 := pc) (pc' := q) rfl (hb hby hd) rfl ((if0 _ _).trans (own_hlt.1 hc)) (by omega) (by omega) k) (K1 hc)
  · subst hr; exact oGo.st (fun p e m below c T hx hby hA t k => XS.ifNo hA hx rfl (hb hby hd) rfl ((if0 _ _).trans (own_hlt.2 hc)) k) (K2 hc)
theorem own_llt {x y : Int64} : (x.toInt < y.toInt → (lcmpW x y).toInt < 0) ∧ (y.toInt ≤ x.toInt → 0 ≤ (lcmpW x y).toInt) := by
  obtain ⟨h1, h2, h3⟩ := c_lcmp x y
  refine ⟨fun hc => ?_, fun hc => ?_⟩ <;> (rcases Int.lt_trichotomy x.toInt y.toInt with u | u | u <;> simp_all <;> omega)
theorem oGo.lif_lt {o : Int} {x y : Int64} {pc2 : Nat} (hd : decode bytes pc = .ok (.lcmp, 1)) (h1 : pc + 1 = pc2) (hd2 : decode bytes pc2 = .ok (.ifCond .lt o, 3)) (hq : (pc2 : Int) + o = (q : Int)) (hr : pc2 + 3 = r) (K1 : x.toInt < y.toInt → oGo Z own nm bytes ml ret R n0 Q k n h q L S) (K2 : y.toInt ≤ x.toInt → oGo Z own nm bytes ml ret R n0 Q k n h r L S) : oGo Z own nm bytes ml ret R n0 Q k n h pc L (.long y :: .long x :: S) := by
  refine oGo.lcmp hd h1 (oGo.if_lt hd2 hq hr (fun hc => ?_) (fun hc => ?_))
  · rcases own_elt x y with u | u
    · exact K1 u
    · have := own_llt.2 u; first | exact absurd hc this | exact absurd this hc | omega
  · rcases own_elt x y with u | u
    · have := own_llt.1 u; first | exact absurd hc this | exact absurd this hc | omega
    · exact K2 u
theorem own_hge {x y : Int32} : (y.toInt ≤ x.toInt → if_icmp.holds .ge x y = true) ∧ (x.toInt < y.toInt → if_icmp.holds .ge x y = false) :=
  ⟨fun hc => (flt (fun z => by have := Int32.lt_iff_toInt_lt.mp z; omega)).2.1, fun hc => (tlt (Int32.lt_iff_toInt_lt.mpr hc)).2.1⟩
theorem own_dge (x y : Int32) : (y.toInt ≤ x.toInt) ∨ (x.toInt < y.toInt) := by omega
theorem own_ege (x y : Int64) : (y.toInt ≤ x.toInt) ∨ (x.toInt < y.toInt) := by omega
theorem oGo.icmp_ge {o : Int} {x y : Int32} (hd : decode bytes pc = .ok (.if_icmp .ge o, 3)) (hq : (pc : Int) + o = (q : Int)) (hr : pc + 3 = r) (K1 : y.toInt ≤ x.toInt → oGo Z own nm bytes ml ret R n0 Q k n h q L S) (K2 : x.toInt < y.toInt → oGo Z own nm bytes ml ret R n0 Q k n h r L S) : oGo Z own nm bytes ml ret R n0 Q k n h pc L (.int y :: .int x :: S) := by
  rcases own_dge x y with hc | hc
  · exact oGo.st (fun p e m below c T hx hby hA t k => XS.icmpYes hA hx rfl (pc0 := pc) (pc' := q) rfl (hb hby hd) rfl (own_hge.1 hc) (by omega) (by omega) k) (K1 hc)
  · subst hr; exact oGo.st (fun p e m below c T hx hby hA t k => XS.icmpNo hA hx rfl (hb hby hd) rfl (own_hge.2 hc) k) (K2 hc)
theorem oGo.if_ge {o : Int} {x : Int32} (hd : decode bytes pc = .ok (.ifCond .ge o, 3)) (hq : (pc : Int) + o = (q : Int)) (hr : pc + 3 = r) (K1 : 0 ≤ x.toInt → oGo Z own nm bytes ml ret R n0 Q k n h q L S) (K2 : x.toInt < 0 → oGo Z own nm bytes ml ret R n0 Q k n h r L S) : oGo Z own nm bytes ml ret R n0 Q k n h pc L (.int x :: S) := by
  rcases own_dge x 0 with hc | hc
  · exact oGo.st (fun p e m below c T hx hby hA t k => XS.ifYes hA hx rfl (pc0 := pc) (pc' := q) rfl (hb hby hd) rfl ((if0 _ _).trans (own_hge.1 hc)) (by omega) (by omega) k) (K1 hc)
  · subst hr; exact oGo.st (fun p e m below c T hx hby hA t k => XS.ifNo hA hx rfl (hb hby hd) rfl ((if0 _ _).trans (own_hge.2 hc)) k) (K2 hc)
theorem own_lge {x y : Int64} : (y.toInt ≤ x.toInt → 0 ≤ (lcmpW x y).toInt) ∧ (x.toInt < y.toInt → (lcmpW x y).toInt < 0) := by
  obtain ⟨h1, h2, h3⟩ := c_lcmp x y
  refine ⟨fun hc => ?_, fun hc => ?_⟩ <;> (rcases Int.lt_trichotomy x.toInt y.toInt with u | u | u <;> simp_all <;> omega)
theorem oGo.lif_ge {o : Int} {x y : Int64} {pc2 : Nat} (hd : decode bytes pc = .ok (.lcmp, 1)) (h1 : pc + 1 = pc2) (hd2 : decode bytes pc2 = .ok (.ifCond .ge o, 3)) (hq : (pc2 : Int) + o = (q : Int)) (hr : pc2 + 3 = r) (K1 : y.toInt ≤ x.toInt → oGo Z own nm bytes ml ret R n0 Q k n h q L S) (K2 : x.toInt < y.toInt → oGo Z own nm bytes ml ret R n0 Q k n h r L S) : oGo Z own nm bytes ml ret R n0 Q k n h pc L (.long y :: .long x :: S) := by
  refine oGo.lcmp hd h1 (oGo.if_ge hd2 hq hr (fun hc => ?_) (fun hc => ?_))
  · rcases own_ege x y with u | u
    · exact K1 u
    · have := own_lge.2 u; first | exact absurd hc this | exact absurd this hc | omega
  · rcases own_ege x y with u | u
    · have := own_lge.1 u; first | exact absurd hc this | exact absurd this hc | omega
    · exact K2 u
theorem own_hgt {x y : Int32} : (y.toInt < x.toInt → if_icmp.holds .gt x y = true) ∧ (x.toInt ≤ y.toInt → if_icmp.holds .gt x y = false) :=
  ⟨fun hc => (tlt (Int32.lt_iff_toInt_lt.mpr hc)).2.2.1, fun hc => (flt (fun z => by have := Int32.lt_iff_toInt_lt.mp z; omega)).2.2.1⟩
theorem own_dgt (x y : Int32) : (y.toInt < x.toInt) ∨ (x.toInt ≤ y.toInt) := by omega
theorem own_egt (x y : Int64) : (y.toInt < x.toInt) ∨ (x.toInt ≤ y.toInt) := by omega
theorem oGo.icmp_gt {o : Int} {x y : Int32} (hd : decode bytes pc = .ok (.if_icmp .gt o, 3)) (hq : (pc : Int) + o = (q : Int)) (hr : pc + 3 = r) (K1 : y.toInt < x.toInt → oGo Z own nm bytes ml ret R n0 Q k n h q L S) (K2 : x.toInt ≤ y.toInt → oGo Z own nm bytes ml ret R n0 Q k n h r L S) : oGo Z own nm bytes ml ret R n0 Q k n h pc L (.int y :: .int x :: S) := by
  rcases own_dgt x y with hc | hc
  · exact oGo.st (fun p e m below c T hx hby hA t k => XS.icmpYes hA hx rfl (pc0 := pc) (pc' := q) rfl (hb hby hd) rfl (own_hgt.1 hc) (by omega) (by omega) k) (K1 hc)
  · subst hr; exact oGo.st (fun p e m below c T hx hby hA t k => XS.icmpNo hA hx rfl (hb hby hd) rfl (own_hgt.2 hc) k) (K2 hc)
theorem oGo.if_gt {o : Int} {x : Int32} (hd : decode bytes pc = .ok (.ifCond .gt o, 3)) (hq : (pc : Int) + o = (q : Int)) (hr : pc + 3 = r) (K1 : 0 < x.toInt → oGo Z own nm bytes ml ret R n0 Q k n h q L S) (K2 : x.toInt ≤ 0 → oGo Z own nm bytes ml ret R n0 Q k n h r L S) : oGo Z own nm bytes ml ret R n0 Q k n h pc L (.int x :: S) := by
  rcases own_dgt x 0 with hc | hc
  · exact oGo.st (fun p e m below c T hx hby hA t k => XS.ifYes hA hx rfl (pc0 := pc) (pc' := q) rfl (hb hby hd) rfl ((if0 _ _).trans (own_hgt.1 hc)) (by omega) (by omega) k) (K1 hc)
  · subst hr; exact oGo.st (fun p e m below c T hx hby hA t k => XS.ifNo hA hx rfl (hb hby hd) rfl ((if0 _ _).trans (own_hgt.2 hc)) k) (K2 hc)
theorem own_lgt {x y : Int64} : (y.toInt < x.toInt → 0 < (lcmpW x y).toInt) ∧ (x.toInt ≤ y.toInt → (lcmpW x y).toInt ≤ 0) := by
  obtain ⟨h1, h2, h3⟩ := c_lcmp x y
  refine ⟨fun hc => ?_, fun hc => ?_⟩ <;> (rcases Int.lt_trichotomy x.toInt y.toInt with u | u | u <;> simp_all <;> omega)
theorem oGo.lif_gt {o : Int} {x y : Int64} {pc2 : Nat} (hd : decode bytes pc = .ok (.lcmp, 1)) (h1 : pc + 1 = pc2) (hd2 : decode bytes pc2 = .ok (.ifCond .gt o, 3)) (hq : (pc2 : Int) + o = (q : Int)) (hr : pc2 + 3 = r) (K1 : y.toInt < x.toInt → oGo Z own nm bytes ml ret R n0 Q k n h q L S) (K2 : x.toInt ≤ y.toInt → oGo Z own nm bytes ml ret R n0 Q k n h r L S) : oGo Z own nm bytes ml ret R n0 Q k n h pc L (.long y :: .long x :: S) := by
  refine oGo.lcmp hd h1 (oGo.if_gt hd2 hq hr (fun hc => ?_) (fun hc => ?_))
  · rcases own_egt x y with u | u
    · exact K1 u
    · have := own_lgt.2 u; first | exact absurd hc this | exact absurd this hc | omega
  · rcases own_egt x y with u | u
    · have := own_lgt.1 u; first | exact absurd hc this | exact absurd this hc | omega
    · exact K2 u
theorem own_hle {x y : Int32} : (x.toInt ≤ y.toInt → if_icmp.holds .le x y = true) ∧ (y.toInt < x.toInt → if_icmp.holds .le x y = false) :=
  ⟨fun hc => (flt (fun z => by have := Int32.lt_iff_toInt_lt.mp z; omega)).2.2.2, fun hc => (tlt (Int32.lt_iff_toInt_lt.mpr hc)).2.2.2⟩
theorem own_dle (x y : Int32) : (x.toInt ≤ y.toInt) ∨ (y.toInt < x.toInt) := by omega
theorem own_ele (x y : Int64) : (x.toInt ≤ y.toInt) ∨ (y.toInt < x.toInt) := by omega
theorem oGo.icmp_le {o : Int} {x y : Int32} (hd : decode bytes pc = .ok (.if_icmp .le o, 3)) (hq : (pc : Int) + o = (q : Int)) (hr : pc + 3 = r) (K1 : x.toInt ≤ y.toInt → oGo Z own nm bytes ml ret R n0 Q k n h q L S) (K2 : y.toInt < x.toInt → oGo Z own nm bytes ml ret R n0 Q k n h r L S) : oGo Z own nm bytes ml ret R n0 Q k n h pc L (.int y :: .int x :: S) := by
  rcases own_dle x y with hc | hc
  · exact oGo.st (fun p e m below c T hx hby hA t k => XS.icmpYes hA hx rfl (pc0 := pc) (pc' := q) rfl (hb hby hd) rfl (own_hle.1 hc) (by omega) (by omega) k) (K1 hc)
  · subst hr; exact oGo.st (fun p e m below c T hx hby hA t k => XS.icmpNo hA hx rfl (hb hby hd) rfl (own_hle.2 hc) k) (K2 hc)
theorem oGo.if_le {o : Int} {x : Int32} (hd : decode bytes pc = .ok (.ifCond .le o, 3)) (hq : (pc : Int) + o = (q : Int)) (hr : pc + 3 = r) (K1 : x.toInt ≤ 0 → oGo Z own nm bytes ml ret R n0 Q k n h q L S) (K2 : 0 < x.toInt → oGo Z own nm bytes ml ret R n0 Q k n h r L S) : oGo Z own nm bytes ml ret R n0 Q k n h pc L (.int x :: S) := by
  rcases own_dle x 0 with hc | hc
  · exact oGo.st (fun p e m below c T hx hby hA t k => XS.ifYes hA hx rfl (pc0 := pc) (pc' := q) rfl (hb hby hd) rfl ((if0 _ _).trans (own_hle.1 hc)) (by omega) (by omega) k) (K1 hc)
  · subst hr; exact oGo.st (fun p e m below c T hx hby hA t k => XS.ifNo hA hx rfl (hb hby hd) rfl ((if0 _ _).trans (own_hle.2 hc)) k) (K2 hc)
theorem own_lle {x y : Int64} : (x.toInt ≤ y.toInt → (lcmpW x y).toInt ≤ 0) ∧ (y.toInt < x.toInt → 0 < (lcmpW x y).toInt) := by
  obtain ⟨h1, h2, h3⟩ := c_lcmp x y
  refine ⟨fun hc => ?_, fun hc => ?_⟩ <;> (rcases Int.lt_trichotomy x.toInt y.toInt with u | u | u <;> simp_all <;> omega)
theorem oGo.lif_le {o : Int} {x y : Int64} {pc2 : Nat} (hd : decode bytes pc = .ok (.lcmp, 1)) (h1 : pc + 1 = pc2) (hd2 : decode bytes pc2 = .ok (.ifCond .le o, 3)) (hq : (pc2 : Int) + o = (q : Int)) (hr : pc2 + 3 = r) (K1 : x.toInt ≤ y.toInt → oGo Z own nm bytes ml ret R n0 Q k n h q L S) (K2 : y.toInt < x.toInt → oGo Z own nm bytes ml ret R n0 Q k n h r L S) : oGo Z own nm bytes ml ret R n0 Q k n h pc L (.long y :: .long x :: S) := by
  refine oGo.lcmp hd h1 (oGo.if_le hd2 hq hr (fun hc => ?_) (fun hc => ?_))
  · rcases own_ele x y with u | u
    · exact K1 u
    · have := own_lle.2 u; first | exact absurd hc this | exact absurd this hc | omega
  · rcases own_ele x y with u | u
    · have := own_lle.1 u; first | exact absurd hc this | exact absurd this hc | omega
    · exact K2 u
theorem own_heq {x y : Int32} : (x = y → if_icmp.holds .eq x y = true) ∧ (x ≠ y → if_icmp.holds .eq x y = false) :=
  ⟨fun hc => (teq hc).1, fun hc => (feq hc).1⟩
theorem own_deq (x y : Int32) : (x = y) ∨ (x ≠ y) := by exact Decidable.em _
theorem own_eeq (x y : Int64) : (x = y) ∨ (x ≠ y) := by exact Decidable.em _
theorem oGo.icmp_eq {o : Int} {x y : Int32} (hd : decode bytes pc = .ok (.if_icmp .eq o, 3)) (hq : (pc : Int) + o = (q : Int)) (hr : pc + 3 = r) (K1 : x = y → oGo Z own nm bytes ml ret R n0 Q k n h q L S) (K2 : x ≠ y → oGo Z own nm bytes ml ret R n0 Q k n h r L S) : oGo Z own nm bytes ml ret R n0 Q k n h pc L (.int y :: .int x :: S) := by
  rcases own_deq x y with hc | hc
  · exact oGo.st (fun p e m below c T hx hby hA t k => XS.icmpYes hA hx rfl (pc0 := pc) (pc' := q) rfl (hb hby hd) rfl (own_heq.1 hc) (by omega) (by omega) k) (K1 hc)
  · subst hr; exact oGo.st (fun p e m below c T hx hby hA t k => XS.icmpNo hA hx rfl (hb hby hd) rfl (own_heq.2 hc) k) (K2 hc)
theorem oGo.if_eq {o : Int} {x : Int32} (hd : decode bytes pc = .ok (.ifCond .eq o, 3)) (hq : (pc : Int) + o = (q : Int)) (hr : pc + 3 = r) (K1 : x = 0 → oGo Z own nm bytes ml ret R n0 Q k n h q L S) (K2 : x ≠ 0 → oGo Z own nm bytes ml ret R n0 Q k n h r L S) : oGo Z own nm bytes ml ret R n0 Q k n h pc L (.int x :: S) := by
  rcases own_deq x 0 with hc | hc
  · exact oGo.st (fun p e m below c T hx hby hA t k => XS.ifYes hA hx rfl (pc0 := pc) (pc' := q) rfl (hb hby hd) rfl ((if0 _ _).trans (own_heq.1 hc)) (by omega) (by omega) k) (K1 hc)
  · subst hr; exact oGo.st (fun p e m below c T hx hby hA t k => XS.ifNo hA hx rfl (hb hby hd) rfl ((if0 _ _).trans (own_heq.2 hc)) k) (K2 hc)
theorem own_leq {x y : Int64} : (x = y → lcmpW x y = 0) ∧ (x ≠ y → lcmpW x y ≠ 0) := by
  obtain ⟨h1, h2, h3⟩ := c_lcmp x y
  refine ⟨fun hc => ?_, fun hc => ?_⟩ <;> (first | exact (lw_eq x y).mpr hc | exact fun z => hc ((lw_eq x y).mp z))
theorem oGo.lif_eq {o : Int} {x y : Int64} {pc2 : Nat} (hd : decode bytes pc = .ok (.lcmp, 1)) (h1 : pc + 1 = pc2) (hd2 : decode bytes pc2 = .ok (.ifCond .eq o, 3)) (hq : (pc2 : Int) + o = (q : Int)) (hr : pc2 + 3 = r) (K1 : x = y → oGo Z own nm bytes ml ret R n0 Q k n h q L S) (K2 : x ≠ y → oGo Z own nm bytes ml ret R n0 Q k n h r L S) : oGo Z own nm bytes ml ret R n0 Q k n h pc L (.long y :: .long x :: S) := by
  refine oGo.lcmp hd h1 (oGo.if_eq hd2 hq hr (fun hc => ?_) (fun hc => ?_))
  · rcases own_eeq x y with u | u
    · exact K1 u
    · have := own_leq.2 u; first | exact absurd hc this | exact absurd this hc | omega
  · rcases own_eeq x y with u | u
    · have := own_leq.1 u; first | exact absurd hc this | exact absurd this hc | omega
    · exact K2 u
theorem own_hne {x y : Int32} : (x ≠ y → if_icmp.holds .ne x y = true) ∧ (x = y → if_icmp.holds .ne x y = false) :=
  ⟨fun hc => (feq hc).2, fun hc => (teq hc).2⟩
theorem own_dne (x y : Int32) : (x ≠ y) ∨ (x = y) := by exact (Decidable.em _).symm
theorem own_ene (x y : Int64) : (x ≠ y) ∨ (x = y) := by exact (Decidable.em _).symm
theorem oGo.icmp_ne {o : Int} {x y : Int32} (hd : decode bytes pc = .ok (.if_icmp .ne o, 3)) (hq : (pc : Int) + o = (q : Int)) (hr : pc + 3 = r) (K1 : x ≠ y → oGo Z own nm bytes ml ret R n0 Q k n h q L S) (K2 : x = y → oGo Z own nm bytes ml ret R n0 Q k n h r L S) : oGo Z own nm bytes ml ret R n0 Q k n h pc L (.int y :: .int x :: S) := by
  rcases own_dne x y with hc | hc
  · exact oGo.st (fun p e m below c T hx hby hA t k => XS.icmpYes hA hx rfl (pc0 := pc) (pc' := q) rfl (hb hby hd) rfl (own_hne.1 hc) (by omega) (by omega) k) (K1 hc)
  · subst hr; exact oGo.st (fun p e m below c T hx hby hA t k => XS.icmpNo hA hx rfl (hb hby hd) rfl (own_hne.2 hc) k) (K2 hc)
theorem oGo.if_ne {o : Int} {x : Int32} (hd : decode bytes pc = .ok (.ifCond .ne o, 3)) (hq : (pc : Int) + o = (q : Int)) (hr : pc + 3 = r) (K1 : x ≠ 0 → oGo Z own nm bytes ml ret R n0 Q k n h q L S) (K2 : x = 0 → oGo Z own nm bytes ml ret R n0 Q k n h r L S) : oGo Z own nm bytes ml ret R n0 Q k n h pc L (.int x :: S) := by
  rcases own_dne x 0 with hc | hc
  · exact oGo.st (fun p e m below c T hx hby hA t k => XS.ifYes hA hx rfl (pc0 := pc) (pc' := q) rfl (hb hby hd) rfl ((if0 _ _).trans (own_hne.1 hc)) (by omega) (by omega) k) (K1 hc)
  · subst hr; exact oGo.st (fun p e m below c T hx hby hA t k => XS.ifNo hA hx rfl (hb hby hd) rfl ((if0 _ _).trans (own_hne.2 hc)) k) (K2 hc)
theorem own_lne {x y : Int64} : (x ≠ y → lcmpW x y ≠ 0) ∧ (x = y → lcmpW x y = 0) := by
  obtain ⟨h1, h2, h3⟩ := c_lcmp x y
  refine ⟨fun hc => ?_, fun hc => ?_⟩ <;> (first | exact (lw_eq x y).mpr hc | exact fun z => hc ((lw_eq x y).mp z))
theorem oGo.lif_ne {o : Int} {x y : Int64} {pc2 : Nat} (hd : decode bytes pc = .ok (.lcmp, 1)) (h1 : pc + 1 = pc2) (hd2 : decode bytes pc2 = .ok (.ifCond .ne o, 3)) (hq : (pc2 : Int) + o = (q : Int)) (hr : pc2 + 3 = r) (K1 : x ≠ y → oGo Z own nm bytes ml ret R n0 Q k n h q L S) (K2 : x = y → oGo Z own nm bytes ml ret R n0 Q k n h r L S) : oGo Z own nm bytes ml ret R n0 Q k n h pc L (.long y :: .long x :: S) := by
  refine oGo.lcmp hd h1 (oGo.if_ne hd2 hq hr (fun hc => ?_) (fun hc => ?_))
  · rcases own_ene x y with u | u
    · exact K1 u
    · have := own_lne.2 u; first | exact absurd hc this | exact absurd this hc | omega
  · rcases own_ene x y with u | u
    · have := own_lne.1 u; first | exact absurd hc this | exact absurd this hc | omega
    · exact K2 u
theorem oGo.ldc2 {i : Nat} {v : Int64} (hd : decode bytes pc = .ok (.ldc2_w i, 3)) (hq : pc + 3 = q) (w : (Cond.constantLong own i v).before a0 Z = true) (K : oGo Z own nm bytes ml ret R n0 Q k n h q L (.long v :: S)) : oGo Z own nm bytes ml ret R n0 Q k n h pc L S :=
  fun p l e s m args below meth c T locs C X eT N => by
    obtain ⟨hx, hZ, hby, hml, hown, hret, hlk, hnm⟩ := C
    subst hq
    obtain ⟨s₂, o, h1, r⟩ := K p l e s m args below meth c T locs ⟨hx, hZ, hby, hml, hown, hret, hlk, hnm⟩ X eT N
    exact ⟨s₂, o, X.ldc2Long hx hown (mvT hZ w) (g := mkF m pc L S) rfl (hb hby hd) _ h1, r⟩
theorem oGo.ldcI {i : Nat} {v : Int32} (hd : decode bytes pc = .ok (.ldc i, 2)) (hq : pc + 2 = q) (w : (Cond.constant own i v).before a0 Z = true) (K : oGo Z own nm bytes ml ret R n0 Q k n h q L (.int v :: S)) : oGo Z own nm bytes ml ret R n0 Q k n h pc L S :=
  fun p l e s m args below meth c T locs C X eT N => by
    obtain ⟨hx, hZ, hby, hml, hown, hret, hlk, hnm⟩ := C
    subst hq
    obtain ⟨s₂, o, h1, r⟩ := K p l e s m args below meth c T locs ⟨hx, hZ, hby, hml, hown, hret, hlk, hnm⟩ X eT N
    exact ⟨s₂, o, X.ldcInt hx hown (mvT hZ w) (g := mkF m pc L S) rfl (hb hby hd) _ h1, r⟩
/-! the returns -/
theorem own_end {p : Program} {l : Launch} {e : Env} {s : State} {m : MethodId} {args : Array Value} {below : List Frame} {meth : Method} {c : Code} {T : State} {locs : List Loc} (X : Stand p l e R s m args below meth c T locs k n) (hlk : meth.locks = false) {v : Option Value} (hv : meth.sig.returnType = none → v = none) (hk : k ≤ R.cells) (hn : n ≤ R.slots) (N : Fr n0 locs) (hQ : Q v T.heap) {g : JFrame}
    (H : ∀ fs, (∀ (f : JFrame) (acts : List Action), f.method = m → f.locked = none → f.entered = [] → (doReturn e (T.setTop f) acts v).1 = T.setFrames fs) → Steps p.tables e below (T.setTop g) (T.setFrames fs)) :
    ∃ s₂ o, Steps p.tables e below (T.setTop g) s₂ ∧ s₂.status = .running ∧ Ended s₂ below o ∧ ∃ v L', o = .returned v ∧ (Q v s₂.heap ∧ Fr n0 L') ∧ FrameEnd s o s₂ L' R.cells R.slots := by
  obtain ⟨fs, hr, hrun, hended, hW, hsame⟩ := X.leave hv hlk
  exact ⟨_, _, H fs hr, hrun, hended, _, _, rfl, ⟨hQ, N⟩, ⟨_, rfl⟩, hW, hsame.mono hk hn⟩
theorem oGo.retI {z : Int32} (hd : decode bytes pc = .ok (.ireturn, 1)) (hret : ret = some .int) (hk : k ≤ R.cells) (hn : n ≤ R.slots) (hQ : Q (some (.int z)) h) : oGo Z own nm bytes ml ret R n0 Q k n h pc L (.int z :: S) :=
  fun p l e s m args below meth c T locs C X eT N => by
    obtain ⟨hx, hZ, hby, hml, hown, hrt, hlk, hnm⟩ := C
    subst eT
    exact own_end X hlk (fun u => by rw [hrt, hret] at u; cases u) hk hn N hQ fun fs hr => retOut X hx (hrt.trans hret) rfl (Or.inl ⟨rfl, Or.inl rfl, z, rfl⟩) (hb hby hd) hr
theorem oGo.retN {z : Int32} {t : FieldType} (hd : decode bytes pc = .ok (.ireturn, 1)) (hret : ret = some t) (ht : t = .boolean ∨ t = .byte ∨ t = .char ∨ t = .short) (hk : k ≤ R.cells) (hn : n ≤ R.slots) (hQ : Q (some (.int (nar t z))) h) : oGo Z own nm bytes ml ret R n0 Q k n h pc L (.int z :: S) :=
  fun p l e s m args below meth c T locs C X eT N => by
    obtain ⟨hx, hZ, hby, hml, hown, hrt, hlk, hnm⟩ := C
    subst eT
    exact own_end X hlk (fun u => by rw [hrt, hret] at u; cases u) hk hn N hQ fun fs hr => Jvm.RoadKit.retN X hx (hrt.trans hret) ht (hb hby hd) hr
theorem oGo.retJ {z : Int64} (hd : decode bytes pc = .ok (.lreturn, 1)) (hret : ret = some .long) (hk : k ≤ R.cells) (hn : n ≤ R.slots) (hQ : Q (some (.long z)) h) : oGo Z own nm bytes ml ret R n0 Q k n h pc L (.long z :: S) :=
  fun p l e s m args below meth c T locs C X eT N => by
    obtain ⟨hx, hZ, hby, hml, hown, hrt, hlk, hnm⟩ := C
    subst eT
    exact own_end X hlk (fun u => by rw [hrt, hret] at u; cases u) hk hn N hQ fun fs hr => retOut X hx (hrt.trans hret) rfl (Or.inr (Or.inl ⟨rfl, rfl, z, rfl⟩)) (hb hby hd) hr
theorem oGo.retA {v : Value} {t : FieldType} (hd : decode bytes pc = .ok (.areturn, 1)) (hret : ret = some t) (ht : t.isReference = true) (hv : v.isRef = true) (hk : k ≤ R.cells) (hn : n ≤ R.slots) (hQ : Q (some v) h) : oGo Z own nm bytes ml ret R n0 Q k n h pc L (v :: S) :=
  fun p l e s m args below meth c T locs C X eT N => by
    obtain ⟨hx, hZ, hby, hml, hown, hrt, hlk, hnm⟩ := C
    subst eT
    exact own_end X hlk (fun u => by rw [hrt, hret] at u; cases u) hk hn N hQ fun fs hr => retOut X hx (hrt.trans hret) (by cases t <;> first | (cases ht; done) | rfl) (Or.inr (Or.inr (Or.inr (Or.inr ⟨rfl, ht, hv⟩)))) (hb hby hd) hr
theorem oGo.retV (hd : decode bytes pc = .ok (.return_, 1)) (hret : ret = none) (hk : k ≤ R.cells) (hn : n ≤ R.slots) (hQ : Q none h) : oGo Z own nm bytes ml ret R n0 Q k n h pc L [] :=
  fun p l e s m args below meth c T locs C X eT N => by
    obtain ⟨hx, hZ, hby, hml, hown, hrt, hlk, hnm⟩ := C
    subst eT
    exact own_end X hlk (fun _ => rfl) hk hn N hQ fun fs hr => X.returnOut hx (hrt.trans hret) (hb hby hd) hr
/-! calls by contract -/
theorem oGo.callS {y : MethodName} {i W : Nat} {bytes' : ByteArray} {ml' : Nat} {ret' : Option FieldType} {rm : Room} {as : Array Value} {Q' : Option Value → Heap → Prop} {ps : List FieldType} {rt : Option FieldType} (argsL rest : List Value) (hd : decode bytes pc = .ok (.invokestatic i, 3)) (hq : pc + 3 = q)
    (w1 : (Cond.methodLink own i y).before a0 Z = true) (w2 : (Cond.static y).before a0 Z = true) (w3 : (Cond.initialized y.cls).before a0 Z = true) (w4 : (Cond.code y bytes' ml' ret').before a0 Z = true) (hy : y.cls ≠ "java/lang/invoke/MethodHandle" ∧ y.cls ≠ "java/lang/invoke/VarHandle")
    (hC : oCon Z y bytes' ml' ret' rm as h n0 Q') (hS : S = argsL.reverse ++ rest) (has : argsL.toArray = as) (hpd : parseMethodDescriptor y.desc = some ⟨ps, rt⟩) (hlen : argsL.length = ps.length) (hL : L.size = ml) (hW : 2 * 0 + (rest.map fun v => v.category).sum ≤ W) (hf : rm.frames + 1 ≤ R.frames) (hl : W + (ml' + 11) + rm.locals ≤ R.locals) (hc : k + rm.cells ≤ R.cells) (hs : n + rm.slots ≤ R.slots)
    (K : ∀ v h', Q' v h' → oGo Z own nm bytes ml ret R n0 Q (k + rm.cells) (n + rm.slots) h' q L (v.toList ++ rest)) : oGo Z own nm bytes ml ret R n0 Q k n h pc L S :=
  fun p l e s m args below meth c T locs C X eT N => by
    obtain ⟨hx, hZ, hby, hml, hown, hrt, hlk, hnm⟩ := C
    subst hq
    obtain ⟨v, _, ⟨T', L2, k2, n2⟩, -, X', ⟨Lc, hQ', l', y', z'⟩, st⟩ := Jvm.LawKit.callS X hx (y := y) hown (mvT hZ w1) (mvT hZ w2) (mvT hZ w3) (mvT hZ w4) hy (backOf (W := W) (Q := fun v h' L => Q' v h' ∧ Fr n0 L) (hC l []) hZ w4 w3 hf hl) (g := mkF m pc L S) rfl (by rw [hml]; exact hL) (argsL := argsL) (rest := rest) (lenOf hpd hlen) hS hW (hb hby hd) (fun _ _ => ⟨has, eT, hc, hs⟩)
    dsimp only [Pt.U, Pt.locs, Pt.cells, Pt.slots] at X' l' y' z' st hQ'
    subst l' y' z'
    obtain ⟨s₂, o, h1, r⟩ := K v T'.heap hQ'.1 p l e s m args below meth c T' _ ⟨hx, hZ, hby, hml, hown, hrt, hlk, hnm⟩ X' rfl (Fr.app N hQ'.2)
    exact ⟨s₂, o, st _ h1, r⟩
theorem oGo.callI {y : MethodName} {i W : Nat} {bytes' : ByteArray} {ml' : Nat} {rm : Room} {as : Array Value} {Q' : Option Value → Heap → Prop} {ps : List FieldType} {rt : Option FieldType} {a : Addr} (argsL rest : List Value) (hd : decode bytes pc = .ok (.invokespecial i, 3)) (hq : pc + 3 = q) (hy1 : y.name = "<init>")
    (w1 : (Cond.methodLink own i y).before a0 Z = true) (w2 : (Cond.instanceMethod y).before a0 Z = true) (w3 : (Cond.initialized y.cls).before a0 Z = true) (w4 : (Cond.code y bytes' ml' none).before a0 Z = true) (hy : y.cls ≠ "java/lang/invoke/MethodHandle" ∧ y.cls ≠ "java/lang/invoke/VarHandle")
    (hC : oCon Z y bytes' ml' none rm as h n0 Q') (hS : S = argsL.reverse ++ .ref a :: rest) (has : (.ref a :: argsL).toArray = as) (hpd : parseMethodDescriptor y.desc = some ⟨ps, rt⟩) (hlen : argsL.length = ps.length) (hL : L.size = ml) (hW : 2 * 0 + (rest.map fun v => v.category).sum ≤ W) (hf : rm.frames + 1 ≤ R.frames) (hl : W + (ml' + 11) + rm.locals ≤ R.locals) (hc : k + rm.cells ≤ R.cells) (hs : n + rm.slots ≤ R.slots)
    (K : ∀ v h', Q' v h' → oGo Z own nm bytes ml ret R n0 Q (k + rm.cells) (n + rm.slots) h' q L (v.toList ++ rest)) : oGo Z own nm bytes ml ret R n0 Q k n h pc L S :=
  fun p l e s m args below meth c T locs C X eT N => by
    obtain ⟨hx, hZ, hby, hml, hown, hrt, hlk, hnm⟩ := C
    subst hq
    obtain ⟨v, _, ⟨T', L2, k2, n2⟩, -, X', ⟨Lc, hQ', l', y', z'⟩, st⟩ := X.specialBack hx (y := y) hy1 hown (mvT hZ w1) (mvT hZ w2) (mvT hZ w4) hy (backOf (W := W) (Q := fun v h' L => Q' v h' ∧ Fr n0 L) (hC l []) hZ w4 w3 hf hl) (g := mkF m pc L S) rfl (by rw [hml]; exact hL) (Steps.refl _) (a := a) (argsL := argsL) (rest := rest) (lenOf hpd hlen) hS hW (hb hby hd) (fun _ _ => ⟨has, eT, hc, hs⟩)
    dsimp only [Pt.U, Pt.locs, Pt.cells, Pt.slots] at X' l' y' z' st hQ'
    subst l' y' z'
    obtain ⟨s₂, o, h1, r⟩ := K v T'.heap hQ'.1 p l e s m args below meth c T' _ ⟨hx, hZ, hby, hml, hown, hrt, hlk, hnm⟩ X' rfl (Fr.app N hQ'.2)
    exact ⟨s₂, o, st.trans h1, r⟩
theorem oGo.callV {y z : MethodName} {C : String} {i W : Nat} {bytes' : ByteArray} {ml' : Nat} {ret' : Option FieldType} {rm : Room} {as : Array Value} {Q' : Option Value → Heap → Prop} {ps : List FieldType} {rt : Option FieldType} {a : Addr} (argsL rest : List Value) (hd : decode bytes pc = .ok (.invokevirtual i, 3)) (hq : pc + 3 = q)
    (w1 : (Cond.methodLink own i y).before a0 Z = true) (w2 : (Cond.declares y).before a0 Z = true) (w5 : (Cond.selects C y z).before a0 Z = true) (w6 : (Cond.instanceMethod z).before a0 Z = true) (w3 : (Cond.initialized z.cls).before a0 Z = true) (w4 : (Cond.code z bytes' ml' ret').before a0 Z = true) (hyz : y = z) (hy : y.cls ≠ "java/lang/invoke/MethodHandle" ∧ y.cls ≠ "java/lang/invoke/VarHandle") (E : Exa Z h a C)
    (hC : oCon Z z bytes' ml' ret' rm as h n0 Q') (hS : S = argsL.reverse ++ .ref a :: rest) (has : (.ref a :: argsL).toArray = as) (hpd : parseMethodDescriptor y.desc = some ⟨ps, rt⟩) (hlen : argsL.length = ps.length) (hL : L.size = ml) (hW : 2 * 0 + (rest.map fun v => v.category).sum ≤ W) (hf : rm.frames + 1 ≤ R.frames) (hl : W + (ml' + 11) + rm.locals ≤ R.locals) (hc : k + rm.cells ≤ R.cells) (hs : n + rm.slots ≤ R.slots)
    (K : ∀ v h', Q' v h' → oGo Z own nm bytes ml ret R n0 Q (k + rm.cells) (n + rm.slots) h' q L (v.toList ++ rest)) : oGo Z own nm bytes ml ret R n0 Q k n h pc L S :=
  fun p l e s m args below meth c T locs Cx X eT N => by
    obtain ⟨hx, hZ, hby, hml, hown, hrt, hlk, hnm⟩ := Cx
    subst hq hyz
    obtain ⟨cq, kq, qa, qb, qc⟩ := isOf (T := T) hZ eT E
    obtain ⟨v, _, ⟨T', L2, k2, n2⟩, -, X', ⟨Lc, hQ', l', y', z'⟩, st⟩ := X.virtualBack hx (y := y) (z := y) hown (mvT hZ w1) (mvT hZ w2) (notFace_of_selects (args := #[]) (mvT hZ w5)) (mvT hZ w5) (mvT hZ w6) hy (backOf (W := W) (Q := fun v h' L => Q' v h' ∧ Fr n0 L) (hC l []) hZ w4 w3 hf hl) qa qc (g := mkF m pc L S) rfl (by rw [hml]; exact hL) (Steps.refl _) (argsL := argsL) (rest := rest) (lenOf hpd hlen) hS hW (hb hby hd) (fun _ _ => ⟨has, eT, hc, hs⟩)
    dsimp only [Pt.U, Pt.locs, Pt.cells, Pt.slots] at X' l' y' z' st hQ'
    subst l' y' z'
    obtain ⟨s₂, o, h1, r⟩ := K v T'.heap hQ'.1 p l e s m args below meth c T' _ ⟨hx, hZ, hby, hml, hown, hrt, hlk, hnm⟩ X' rfl (Fr.app N hQ'.2)
    exact ⟨s₂, o, st.trans h1, r⟩
theorem oGo.initO {i W : Nat} {a : Addr} (hd : decode bytes pc = .ok (.invokespecial i, 3)) (hq : pc + 3 = q) (w1 : (Cond.methodLink own i Lib.objectInit).before a0 Z = true) (w2 : (Cond.instanceMethod Lib.objectInit).before a0 Z = true) (w3 : (Cond.code Lib.objectInit ⟨#[0xb1]⟩ 1 none).before a0 Z = true) (hL : L.size = ml) (hf : 1 ≤ R.frames) (hW : 2 * 0 + (S.map fun v => v.category).sum ≤ W) (hl : W + 12 ≤ R.locals) (K : oGo Z own nm bytes ml ret R n0 Q k n h q L S) : oGo Z own nm bytes ml ret R n0 Q k n h pc L (.ref a :: S) :=
  fun p l e s m args below meth c T locs C X eT N => by
    obtain ⟨hx, hZ, hby, hml, hown, hrt, hlk, hnm⟩ := C
    subst hq
    obtain ⟨T', X', e', st⟩ := Jvm.RoadKit.initO X hx hZ hown w1 w2 w3 eT (g := mkF m pc L (.ref a :: S)) rfl (by rw [hml]; exact hL) rfl (hb hby hd) hf hW hl
    obtain ⟨s₂, o, h1, r⟩ := K p l e s m args below meth c T' locs ⟨hx, hZ, hby, hml, hown, hrt, hlk, hnm⟩ X' e' N
    exact ⟨s₂, o, st _ h1, r⟩
/-! objects -/
theorem own_keep {h h' : Heap} (E : Ext h h') : Keep h h' [] := (Keep.refl h []).ext E
theorem oGo.newO {C : String} {i nn : Nat} (hd : decode bytes pc = .ok (.new i, 3)) (hq : pc + 3 = q) (w : (Cond.classLink own i C).before a0 Z = true) (wi : (Cond.instantiable C nn).before a0 Z = true) (wz : (Cond.initialized C).before a0 Z = true) (hc : k + 1 ≤ R.cells) (hs : n + nn ≤ R.slots)
    (K : ∀ h' a, a = h.size → Keep h h' [] → Exa Z h' a C → (∀ {O f d : String} {ty : FieldType}, Laid Z a0 C O f d → parseFieldDescriptor d = some ty → Fld Z h' a O f d (defaultValue ty)) → oGo Z own nm bytes ml ret R n0 Q (k + 1) (n + nn) h' q L (.ref a :: S)) : oGo Z own nm bytes ml ret R n0 Q k n h pc L S :=
  fun p l e s m args below meth c T locs Cx X eT N => by
    obtain ⟨hx, hZ, hby, hml, hown, hrt, hlk, hnm⟩ := Cx
    subst hq
    obtain ⟨T', h', X', e', E, A, D, -, st⟩ := Jvm.RoadKit.newO X hx hZ hown w wi wz eT (g := mkF m pc L S) rfl (hb hby hd) hc hs
    obtain ⟨s₂, o, h1, r⟩ := K h' h.size rfl (own_keep E) A D p l e s m args below meth c T' locs ⟨hx, hZ, hby, hml, hown, hrt, hlk, hnm⟩ X' e' N
    exact ⟨s₂, o, st _ h1, r⟩
theorem oGo.getF {R0 O f d host : String} {i : Nat} {a : Addr} {v : Value} (hd : decode bytes pc = .ok (.getfield i, 3)) (hq : pc + 3 = q) (w : (Cond.fieldLink own i R0 f d).before a0 Z = true ∨ (Cond.fieldLinkNest own i R0 f d host).before a0 Z = true) (via : Via Z R0 O f d) (F : Fld Z h a O f d v) (K : oGo Z own nm bytes ml ret R n0 Q k n h q L (v :: S)) : oGo Z own nm bytes ml ret R n0 Q k n h pc L (.ref a :: S) :=
  fun p l e s m args below meth c T locs C X eT N => by
    obtain ⟨hx, hZ, hby, hml, hown, hrt, hlk, hnm⟩ := C
    subst hq
    obtain ⟨T', X', e', st⟩ := Jvm.RoadKit.getF X hx hZ hown w via eT F (g := mkF m pc L (.ref a :: S)) rfl rfl (hb hby hd)
    obtain ⟨s₂, o, h1, r⟩ := K p l e s m args below meth c T' locs ⟨hx, hZ, hby, hml, hown, hrt, hlk, hnm⟩ X' e' N
    exact ⟨s₂, o, st _ h1, r⟩
theorem oGo.getS {R0 O f d : String} {i : Nat} {v : Value} (hd : decode bytes pc = .ok (.getstatic i, 3)) (hq : pc + 3 = q) (w : (Cond.fieldLink own i R0 f d).before a0 Z = true) (via : Via Z R0 O f d) (F : Sta Z h O f d v) (K : oGo Z own nm bytes ml ret R n0 Q k n h q L (v :: S)) : oGo Z own nm bytes ml ret R n0 Q k n h pc L S :=
  fun p l e s m args below meth c T locs C X eT N => by
    obtain ⟨hx, hZ, hby, hml, hown, hrt, hlk, hnm⟩ := C
    subst hq
    obtain ⟨T', X', e', st⟩ := Jvm.RoadKit.getS (host := "") X hx hZ hown w via eT F (g := mkF m pc L S) rfl (hb hby hd)
    obtain ⟨s₂, o, h1, r⟩ := K p l e s m args below meth c T' locs ⟨hx, hZ, hby, hml, hown, hrt, hlk, hnm⟩ X' e' N
    exact ⟨s₂, o, st _ h1, r⟩
theorem oGo.putF {R0 O f d host C : String} {i kk : Nat} {ty : FieldType} {a : Addr} {v w0 : Value} (hd : decode bytes pc = .ok (.putfield i, 3)) (hq : pc + 3 = q) (w : (Cond.fieldLink own i R0 f d).before a0 Z = true ∨ (Cond.fieldLinkNest own i R0 f d host).before a0 Z = true) (via : Via Z R0 O f d) (F : Fld Z h a O f d w0) (E : Exa Z h a C)
    (Lw : (Cond.lays C O f d).before a0 Z = true ∨ ((Cond.laysFinal C O f d).before a0 Z = true ∧ own = O ∧ nm = "<init>")) (wi : (Cond.instantiable C kk).before a0 Z = true) (hty : parseFieldDescriptor d = some ty) (hn : narrow ty v = v) (hf : fits ty v = true) (ha : n0 ≤ a)
    (K : ∀ h', Keep h h' [a] → Exa Z h' a C → Fld Z h' a O f d v → (∀ {O' f' d' : String} {u : Value}, Jvm.RoadKit.slotOf Z O' f' d' ≠ Jvm.RoadKit.slotOf Z O f d → Fld Z h a O' f' d' u → Fld Z h' a O' f' d' u) → oGo Z own nm bytes ml ret R n0 Q k n h' q L S) : oGo Z own nm bytes ml ret R n0 Q k n h pc L (v :: .ref a :: S) :=
  fun p l e s m args below meth c T locs Cx X eT N => by
    obtain ⟨hx, hZ, hby, hml, hown, hrt, hlk, hnm⟩ := Cx
    subst hq
    obtain ⟨T', h', X', e', W, st⟩ := Jvm.RoadKit.putF X hx hZ hown w via eT F E (Lw.imp id fun u => ⟨u.1, u.2.1, hnm.trans u.2.2⟩) wi hty hn hf (g := mkF m pc L (v :: .ref a :: S)) rfl rfl (hb hby hd)
    obtain ⟨s₂, o, h1, r⟩ := K h' (Keep.of_wr W) (E.wr W) (F.same W) (fun hne G => G.other W (Or.inr hne)) p l e s m args below meth c T' _ ⟨hx, hZ, hby, hml, hown, hrt, hlk, hnm⟩ X' e' (Fr.snoc X' N ha)
    exact ⟨s₂, o, st _ h1, r⟩
/-! arrays -/
def Ars (Z : State) (h : Heap) (a : Addr) (ty : FieldType) (vs : List Value) : Prop := ∃ c : Cell, Arr Z h a c ty ∧ c.slots.toList = vs ∧ ∀ v ∈ vs, fits ty v = true
theorem Ars.lt {a : Addr} {ty : FieldType} {vs : List Value} (A : Ars Z h a ty vs) : a < h.size := by obtain ⟨c, A, -⟩ := A; exact A.lt
theorem Ars.keep {h' : Heap} {ws : List Addr} {a : Addr} {ty : FieldType} {vs : List Value} (A : Ars Z h a ty vs) (K : Keep h h' ws) (q : a ∉ ws) : Ars Z h' a ty vs := by obtain ⟨c, A, r⟩ := A; exact ⟨c, ⟨K.2.1 a c A.1 q, A.2⟩, r⟩
theorem own_cn {j : Int32} {i : Nat} (hi : j.toInt = (i : Int)) : j.toNatClampNeg = i := by simp [Int32.toNatClampNeg, hi]
theorem own_in {j : Int32} {i : Nat} {c : Cell} {vs : List Value} (hi : j.toInt = (i : Int)) (hc : c.slots.toList = vs) (hl : i < vs.length) : ¬ (j < 0 ∨ c.slots.size ≤ j.toNatClampNeg) := by
  have e1 : c.slots.size = vs.length := by rw [← hc]; simp
  rw [own_cn hi, e1]
  rintro (u | u)
  · have := Int32.lt_iff_toInt_lt.mp u; have e0 : (0 : Int32).toInt = 0 := rfl; omega
  · omega
theorem own_at {j : Int32} {i : Nat} {c : Cell} {vs : List Value} {v : Value} (hi : j.toInt = (i : Int)) (hc : c.slots.toList = vs) (hv : vs[i]? = some v) : c.slots[j.toNatClampNeg]? = some v := by
  rw [own_cn hi, ← hv, ← hc]; simp
theorem Ars.wr {h' : Heap} {a : Addr} {ty : FieldType} {vs : List Value} {c : Cell} {i : Nat} {v : Value} {j : Int32} (hi : j.toInt = (i : Int)) (A : Arr Z h a c ty) (hc : c.slots.toList = vs) (hf : ∀ v ∈ vs, fits ty v = true) (hv : fits ty v = true) (W : Wr h h' a j.toNatClampNeg v) : Ars Z h' a ty (vs.set i v) := by
  refine ⟨_, A.same W, ?_, fun u hu => ?_⟩
  · rw [← hc, own_cn hi]; simp [Cell.setSlot]
  · rcases List.mem_or_eq_of_mem_set hu with u1 | u1
    · exact hf u u1
    · exact u1 ▸ hv
theorem oGo.newP {aty : ArrayType} {nn : Int32} {len : Nat} {ad : String} (cap : Nat) (hd : decode bytes pc = .ok (.newarray aty, 2)) (hq : pc + 2 = q) (w : (Cond.arrayClass (newarray.typeOf aty)).before a0 Z = true) (hn : nn.toInt = (len : Int)) (hcap : len ≤ cap) (hb8 : cap * 8 ≤ 536870912) (hc : k + 1 ≤ R.cells) (hs : n + cap ≤ R.slots) (had : "[" ++ (newarray.typeOf aty).toString = ad)
    (K : ∀ h' a, a = h.size → Keep h h' [] → Ars Z h' a (newarray.typeOf aty) (List.replicate len (defaultValue (newarray.typeOf aty))) → Exa Z h' a ad → oGo Z own nm bytes ml ret R n0 Q (k + 1) (n + cap) h' q L (.ref a :: S)) : oGo Z own nm bytes ml ret R n0 Q k n h pc L (.int nn :: S) :=
  fun p l e s m args below meth c T locs Cx X eT N => by
    obtain ⟨hx, hZ, hby, hml, hown, hrt, hlk, hnm⟩ := Cx
    subst hq
    have h0 : ¬ nn < 0 := fun u => by have := Int32.lt_iff_toInt_lt.mp u; have e0 : (0 : Int32).toInt = 0 := rfl; omega
    obtain ⟨T', h', cA, X', e', E, A, EA, st⟩ := Jvm.RoadKit.newPE X hx hZ w eT (g := mkF m pc L (.int nn :: S)) rfl (hb hby hd) rfl h0 (cap := cap) (by rw [own_cn hn]; exact hcap) hb8 hc hs had
    obtain ⟨s₂, o, h1, r⟩ := K h' h.size rfl (own_keep E) ⟨_, A, by simp [newA, own_cn hn], fun v hv => by rw [(List.mem_replicate.mp hv).2]; cases aty <;> rfl⟩ EA p l e s m args below meth c T' locs ⟨hx, hZ, hby, hml, hown, hrt, hlk, hnm⟩ X' e' N
    exact ⟨s₂, o, st _ h1, r⟩
theorem oGo.cast {i : Nat} {C : String} {a : Addr} (hd : decode bytes pc = .ok (.checkcast i, 3)) (hq : pc + 3 = q) (w : (Cond.classLink own i C).before a0 Z = true) (F : Ins Z h a C true) (K : oGo Z own nm bytes ml ret R n0 Q k n h q L (.ref a :: S)) : oGo Z own nm bytes ml ret R n0 Q k n h pc L (.ref a :: S) :=
  fun p l e s m args below meth c T locs Cx X eT N => by
    obtain ⟨hx, hZ, hby, hml, hown, hrt, hlk, hnm⟩ := Cx
    subst hq
    obtain ⟨T', X', e', st⟩ := Jvm.RoadKit.castY X hx hZ hown w eT F (g := mkF m pc L (.ref a :: S)) rfl rfl (hb hby hd)
    obtain ⟨s₂, o, h1, r⟩ := K p l e s m args below meth c T' locs ⟨hx, hZ, hby, hml, hown, hrt, hlk, hnm⟩ X' e' N
    exact ⟨s₂, o, st _ h1, r⟩
theorem oGo.arraylength {a : Addr} {ty : FieldType} {vs : List Value} {v : Int32} (hd : decode bytes pc = .ok (.arraylength, 1)) (hq : pc + 1 = q) (A : Ars Z h a ty vs) (hv : Int32.ofNat vs.length = v) (K : oGo Z own nm bytes ml ret R n0 Q k n h q L (.int v :: S)) : oGo Z own nm bytes ml ret R n0 Q k n h pc L (.ref a :: S) :=
  fun p l e s m args below meth c T locs Cx X eT N => by
    obtain ⟨hx, hZ, hby, hml, hown, hrt, hlk, hnm⟩ := Cx
    subst hq
    obtain ⟨cl, A, hc, -⟩ := A
    have e1 : cl.slots.size.toInt32 = v := by rw [← hv, ← hc, Array.length_toList]
    obtain ⟨s₂, o, h1, r⟩ := K p l e s m args below meth c T locs ⟨hx, hZ, hby, hml, hown, hrt, hlk, hnm⟩ X eT N
    exact ⟨s₂, o, X.arraylength hx (by rw [eT]; exact A.1) (State.isArrayOf_alike hZ.alike A.2.1) (g := mkF m pc L (.ref a :: S)) rfl rfl (hb hby hd) _ (by rw [e1]; exact h1), r⟩
theorem oGo.iaload {a : Addr} {j : Int32} {i : Nat} {vs : List Value} {v : Value} (hd : decode bytes pc = .ok (.iaload, 1)) (hq : pc + 1 = q) (A : Ars Z h a .int vs) (hi : j.toInt = (i : Int)) (hv : vs[i]? = some v) (K : oGo Z own nm bytes ml ret R n0 Q k n h q L (v :: S)) : oGo Z own nm bytes ml ret R n0 Q k n h pc L (.int j :: .ref a :: S) :=
  fun p l e s m args below meth c T locs Cx X eT N => by
    obtain ⟨hx, hZ, hby, hml, hown, hrt, hlk, hnm⟩ := Cx
    subst hq
    obtain ⟨cl, A, hc, -⟩ := A
    obtain ⟨s₂, o, h1, r⟩ := K p l e s m args below meth c T locs ⟨hx, hZ, hby, hml, hown, hrt, hlk, hnm⟩ X eT N
    exact ⟨s₂, o, X.iaload hx (by rw [eT]; exact A.1) (State.isArrayOf_alike hZ.alike A.2.1) A.2.2 (own_in hi hc (List.getElem?_eq_some_iff.mp hv).1) (own_at hi hc hv) (g := mkF m pc L (.int j :: .ref a :: S)) rfl rfl (hb hby hd) _ h1, r⟩
theorem oGo.laload {a : Addr} {j : Int32} {i : Nat} {vs : List Value} {v : Value} (hd : decode bytes pc = .ok (.laload, 1)) (hq : pc + 1 = q) (A : Ars Z h a .long vs) (hi : j.toInt = (i : Int)) (hv : vs[i]? = some v) (K : oGo Z own nm bytes ml ret R n0 Q k n h q L (v :: S)) : oGo Z own nm bytes ml ret R n0 Q k n h pc L (.int j :: .ref a :: S) :=
  fun p l e s m args below meth c T locs Cx X eT N => by
    obtain ⟨hx, hZ, hby, hml, hown, hrt, hlk, hnm⟩ := Cx
    subst hq
    obtain ⟨cl, A, hc, -⟩ := A
    obtain ⟨s₂, o, h1, r⟩ := K p l e s m args below meth c T locs ⟨hx, hZ, hby, hml, hown, hrt, hlk, hnm⟩ X eT N
    exact ⟨s₂, o, X.laload hx (by rw [eT]; exact A.1) (State.isArrayOf_alike hZ.alike A.2.1) A.2.2 (own_in hi hc (List.getElem?_eq_some_iff.mp hv).1) (own_at hi hc hv) (g := mkF m pc L (.int j :: .ref a :: S)) rfl rfl (hb hby hd) _ h1, r⟩
theorem oGo.baload {a : Addr} {j : Int32} {i : Nat} {vs : List Value} {v : Value} (hd : decode bytes pc = .ok (.baload, 1)) (hq : pc + 1 = q) (A : Ars Z h a .byte vs) (hi : j.toInt = (i : Int)) (hv : vs[i]? = some v) (K : oGo Z own nm bytes ml ret R n0 Q k n h q L (v :: S)) : oGo Z own nm bytes ml ret R n0 Q k n h pc L (.int j :: .ref a :: S) :=
  fun p l e s m args below meth c T locs Cx X eT N => by
    obtain ⟨hx, hZ, hby, hml, hown, hrt, hlk, hnm⟩ := Cx
    subst hq
    obtain ⟨cl, A, hc, -⟩ := A
    obtain ⟨s₂, o, h1, r⟩ := K p l e s m args below meth c T locs ⟨hx, hZ, hby, hml, hown, hrt, hlk, hnm⟩ X eT N
    exact ⟨s₂, o, X.baloadBytes hx (by rw [eT]; exact A.1) (State.isArrayOf_alike hZ.alike A.2.1) A.2.2 (own_in hi hc (List.getElem?_eq_some_iff.mp hv).1) (own_at hi hc hv) (g := mkF m pc L (.int j :: .ref a :: S)) rfl rfl (hb hby hd) _ h1, r⟩
theorem oGo.iastore {a : Addr} {j : Int32} {x : Int32} {i : Nat} {vs : List Value} (hd : decode bytes pc = .ok (.iastore, 1)) (hq : pc + 1 = q) (A : Ars Z h a .int vs) (hi : j.toInt = (i : Int)) (hl : i < vs.length) (ha : n0 ≤ a) (K : ∀ h', Keep h h' [a] → Ars Z h' a .int (vs.set i (.int x)) → oGo Z own nm bytes ml ret R n0 Q k n h' q L S) : oGo Z own nm bytes ml ret R n0 Q k n h pc L (.int x :: .int j :: .ref a :: S) :=
  fun p l e s m args below meth c T locs Cx X eT N => by
    obtain ⟨hx, hZ, hby, hml, hown, hrt, hlk, hnm⟩ := Cx
    subst hq
    obtain ⟨cl, A, hc, hf⟩ := A
    obtain ⟨T', h', X', e', W, st⟩ := Jvm.RoadKit.stI X hx hZ eT A (own_in hi hc hl) (g := mkF m pc L (.int x :: .int j :: .ref a :: S)) rfl rfl (hb hby hd)
    obtain ⟨s₂, o, h1, r⟩ := K h' (Keep.of_wr W) (Ars.wr hi A hc hf rfl W) p l e s m args below meth c T' _ ⟨hx, hZ, hby, hml, hown, hrt, hlk, hnm⟩ X' e' (Fr.snoc X' N ha)
    exact ⟨s₂, o, st _ h1, r⟩
theorem oGo.lastore {a : Addr} {j : Int32} {x : Int64} {i : Nat} {vs : List Value} (hd : decode bytes pc = .ok (.lastore, 1)) (hq : pc + 1 = q) (A : Ars Z h a .long vs) (hi : j.toInt = (i : Int)) (hl : i < vs.length) (ha : n0 ≤ a) (K : ∀ h', Keep h h' [a] → Ars Z h' a .long (vs.set i (.long x)) → oGo Z own nm bytes ml ret R n0 Q k n h' q L S) : oGo Z own nm bytes ml ret R n0 Q k n h pc L (.long x :: .int j :: .ref a :: S) :=
  fun p l e s m args below meth c T locs Cx X eT N => by
    obtain ⟨hx, hZ, hby, hml, hown, hrt, hlk, hnm⟩ := Cx
    subst hq
    obtain ⟨cl, A, hc, hf⟩ := A
    obtain ⟨T', h', X', e', W, st⟩ := Jvm.RoadKit.stJ X hx hZ eT A (own_in hi hc hl) (g := mkF m pc L (.long x :: .int j :: .ref a :: S)) rfl rfl (hb hby hd)
    obtain ⟨s₂, o, h1, r⟩ := K h' (Keep.of_wr W) (Ars.wr hi A hc hf rfl W) p l e s m args below meth c T' _ ⟨hx, hZ, hby, hml, hown, hrt, hlk, hnm⟩ X' e' (Fr.snoc X' N ha)
    exact ⟨s₂, o, st _ h1, r⟩
theorem oGo.bastore {a : Addr} {j x y : Int32} {i : Nat} {vs : List Value} (hd : decode bytes pc = .ok (.bastore, 1)) (hq : pc + 1 = q) (A : Ars Z h a .byte vs) (hi : j.toInt = (i : Int)) (hl : i < vs.length) (ha : n0 ≤ a) (hy : x.toInt8.toInt32 = y) (K : ∀ h', Keep h h' [a] → Ars Z h' a .byte (vs.set i (.int y)) → oGo Z own nm bytes ml ret R n0 Q k n h' q L S) : oGo Z own nm bytes ml ret R n0 Q k n h pc L (.int x :: .int j :: .ref a :: S) :=
  fun p l e s m args below meth c T locs Cx X eT N => by
    obtain ⟨hx, hZ, hby, hml, hown, hrt, hlk, hnm⟩ := Cx
    subst hq hy
    obtain ⟨cl, A, hc, hf⟩ := A
    obtain ⟨T', h', X', e', W, st⟩ := Jvm.RoadKit.stB X hx hZ eT A (own_in hi hc hl) (g := mkF m pc L (.int x :: .int j :: .ref a :: S)) rfl rfl (hb hby hd)
    obtain ⟨s₂, o, h1, r⟩ := K h' (Keep.of_wr W) (Ars.wr hi A hc hf (fits_nar_byte x) W) p l e s m args below meth c T' _ ⟨hx, hZ, hby, hml, hown, hrt, hlk, hnm⟩ X' e' (Fr.snoc X' N ha)
    exact ⟨s₂, o, st _ h1, r⟩
/-! small numbers -/
theorem own_oi {i : Nat} (hi : i < 2147483648) : (Int32.ofNat i).toInt = (i : Int) := Int32.toInt_ofNat_of_lt (by omega)
theorem own_oinc (i : Nat) : Int32.ofNat i + Int32.ofInt 1 = Int32.ofNat (i + 1) := (Int32.ofNat_add i 1).symm
theorem own_oadd {i m : Nat} {c : Int32} (hc : c = Int32.ofNat m) : Int32.ofNat i + c = Int32.ofNat (i + m) := by rw [hc]; exact (Int32.ofNat_add i m).symm
theorem own_oiadd {i m : Nat} {c : Int32} (hc : c = Int32.ofNat m) (h : i + m < 2147483648) : (Int32.ofNat i + c).toInt = ((i + m : Nat) : Int) := by rw [own_oadd hc]; exact own_oi h
theorem own_pred {i : Nat} (hi : i < 2147483647) : (Int32.ofNat (i + 1) - (1 : Int32)).toInt = (i : Int) := by
  have a := c_isub (Int32.ofNat (i + 1)) 1
  have e := own_oi (i := i + 1) (by omega)
  have z : (1 : Int32).toInt = 1 := by decide
  have r := rng32 (Int32.ofNat (i + 1) - 1)
  omega
theorem own_bb (x : Int32) : x.toInt8.toInt32.toInt8.toInt32 = x.toInt8.toInt32 := by
  apply Int32.toInt_inj.mp
  have h1 := c_i2b x
  have h2 := c_i2b x.toInt8.toInt32
  omega
def own_ints (vs : List Value) (n : Nat) : Prop := vs.length = n ∧ ∀ k, k < n → ∃ x : Int32, vs[k]? = some (.int x)
theorem own_ints.set {vs : List Value} {n i : Nat} {x : Int32} (u : own_ints vs n) : own_ints (vs.set i (.int x)) n := by
  refine ⟨by rw [List.length_set]; exact u.1, fun k hk => ?_⟩
  by_cases e : i = k
  · subst e; exact ⟨x, List.getElem?_set_self (by rw [u.1]; exact hk)⟩
  · rw [List.getElem?_set_ne e]; exact u.2 k hk
theorem own_irem (x y : Int32) (hx : 0 ≤ x.toInt) : (x % y).toInt = x.toInt % y.toInt := by rw [Int32.toInt_mod]; exact (tr _ _).1 hx
theorem own_lrem (x y : Int64) (hx : 0 ≤ x.toInt) : (x % y).toInt = x.toInt % y.toInt := by rw [Int64.toInt_mod]; exact (tr _ _).1 hx
theorem own_int32 {x y : Int32} (e : x.toInt = y.toInt) : x = y := Int32.toInt_inj.mp e
theorem own_int64 {x y : Int64} (e : x.toInt = y.toInt) : x = y := Int64.toInt_inj.mp e
theorem own_nat {x : Int32} {i : Nat} (e : x.toInt = (i : Int)) (hi : i < 2147483648) : x = Int32.ofNat i := own_int32 (e.trans (own_oi hi).symm)
/-! System.arraycopy -/
theorem Ars.arv {a : Addr} {ty : FieldType} {vs : List Value} (dv : Value) (A : Ars Z h a ty vs) (hl : vs.length < 2147483648) : ∃ k, Arv Z h a k ty (Int32.ofNat vs.length) vs dv := by
  obtain ⟨c, A, hc, hf⟩ := A
  have e1 : c.slots.size = vs.length := by rw [← hc, Array.length_toList]
  have e2 : (Int32.ofNat vs.length).toNatClampNeg = vs.length := own_cn (own_oi hl)
  refine ⟨c.cls, c, A, rfl, by rw [e1, e2], fun u => ?_, fun k hk => ?_, fun i hi => ?_⟩
  · have := Int32.lt_iff_toInt_lt.mp u
    have e0 : (0 : Int32).toInt = 0 := rfl
    rw [own_oi hl] at this
    omega
  · rw [e1] at hk
    rw [← Array.getElem?_toList, hc, List.getD_eq_getElem?_getD, List.getElem?_eq_getElem hk]
    rfl
  · rw [e1] at hi
    rw [List.getD_eq_getElem?_getD, List.getElem?_eq_getElem hi]
    exact hf _ (List.getElem_mem hi)
theorem Ars.of_arv {a : Addr} {ty : FieldType} {vs : List Value} {dv : Value} {z : Int32} {k : ClassId} (A : Arv Z h a k ty z vs dv) (hz : z.toNatClampNeg = vs.length) : Ars Z h a ty vs := by
  obtain ⟨c, A, -, e1, -, H, F⟩ := A
  rw [hz] at e1
  refine ⟨c, A, List.ext_getElem? fun i => ?_, fun v hv => ?_⟩
  · rw [Array.getElem?_toList]
    by_cases u : i < vs.length
    · rw [H i (by rw [e1]; exact u), List.getD_eq_getElem?_getD, List.getElem?_eq_getElem u]; rfl
    · rw [List.getElem?_eq_none (by omega), Array.getElem?_eq_none (by omega)]
  · obtain ⟨i, hi, rfl⟩ := List.mem_iff_getElem.mp hv
    have := F i (by rw [e1]; exact hi)
    rwa [List.getD_eq_getElem?_getD, List.getElem?_eq_getElem hi] at this
theorem own_us {vs : List Value} {si len : Nat} {dv : Value} (hl : si + len ≤ vs.length) : (vs.drop si).take len = (List.range len).map fun i => vs.getD (si + i) dv := by
  apply List.ext_getElem
  · simp; omega
  · intro i h1 h2
    simp only [List.length_map, List.length_range] at h2
    simp [List.getD_eq_getElem?_getD, List.getElem?_eq_getElem (show si + i < vs.length by omega)]
theorem own_nn {j : Int32} {i : Nat} (hi : j.toInt = (i : Int)) : ¬ j < 0 := fun u => by
  have := Int32.lt_iff_toInt_lt.mp u
  have e0 : (0 : Int32).toInt = 0 := rfl
  omega
theorem oGo.acopy {i W : Nat} {a b : Addr} {ty : FieldType} {vs vd : List Value} {sp dp nn : Int32} {si di len : Nat} (hd : decode bytes pc = .ok (.invokestatic i, 3)) (hq : pc + 3 = q)
    (w1 : (Cond.methodLink own i Jvm.Stand.acN).before a0 Z = true) (w2 : (Cond.native Jvm.Stand.acN).before a0 Z = true) (w3 : (Cond.static Jvm.Stand.acN).before a0 Z = true) (w4 : (Cond.initialized "java/lang/System").before a0 Z = true)
    (A : Ars Z h a ty vs) (B : Ars Z h b ty vd) (hty : refKind ty = false) (h1 : sp.toInt = (si : Int)) (h2 : dp.toInt = (di : Int)) (h3 : nn.toInt = (len : Int)) (h4 : si + len ≤ vs.length) (h5 : di + len ≤ vd.length) (l1 : vs.length < 2147483648) (l2 : vd.length < 2147483648) (ge : n0 ≤ b) (hL : L.size = ml) (hf : 1 ≤ R.frames) (hW : 2 * 0 + (S.map fun v => v.category).sum ≤ W) (hlo : W + (nativeFrameWords "java/lang/System" "arraycopy" 5 + 11) ≤ R.locals)
    (K : ∀ h', Keep h h' [b] → Ars Z h' b ty (vd.take di ++ (vs.drop si).take len ++ vd.drop (di + len)) → oGo Z own nm bytes ml ret R n0 Q k n h' q L S) : oGo Z own nm bytes ml ret R n0 Q k n h pc L (.int nn :: .int dp :: .ref b :: .int sp :: .ref a :: S) :=
  fun p l e s m args below meth c T locs Cx X eT N => by
    obtain ⟨hx, hZ, hby, hml, hown, hrt, hlk, hnm⟩ := Cx
    subst hq
    obtain ⟨k1, A'⟩ := A.arv .null l1
    obtain ⟨k2, B'⟩ := B.arv .null l2
    have c1 := own_cn h1
    have c2 := own_cn h2
    have c3 := own_cn h3
    have e1 := own_cn (own_oi l1)
    have e2 := own_cn (own_oi l2)
    obtain ⟨T', h', L', X', e', N', K', B'', st⟩ := cpA X hx hZ hown w1 w2 w3 w4 eT A' B' (Or.inl ⟨rfl, hty⟩) (own_nn h1) (own_nn h2) (own_nn h3) (by rw [c1, c3, e1]; exact h4) (by rw [c2, c3, e2]; exact h5) rfl (by rw [c2, c3]; exact h5) N ge (g := mkF m pc L (.int nn :: .int dp :: .ref b :: .int sp :: .ref a :: S)) rfl (by rw [hml]; exact hL) rfl (hb hby hd) hf hW hlo
    rw [c1, c2, c3, ← own_us h4] at B''
    obtain ⟨s₂, o, g1, r⟩ := K h' K' (Ars.of_arv B'' (by rw [e2]; simp only [List.length_append, List.length_take, List.length_drop]; omega)) p l e s m args below meth c T' L' ⟨hx, hZ, hby, hml, hown, hrt, hlk, hnm⟩ X' e' N'
    exact ⟨s₂, o, st _ g1, r⟩
theorem oGo.clone {i W : Nat} {ad : String} {a : Addr} {ty : FieldType} {vs : List Value} (cap : Nat) (hd : decode bytes pc = .ok (.invokevirtual i, 3)) (hq : pc + 3 = q)
    (w1 : (Cond.methodLink own i ⟨ad, "clone", "()Ljava/lang/Object;"⟩).before a0 Z = true) (w2 : (Cond.sameMethod ad "java/lang/Object" "clone" "()Ljava/lang/Object;").before a0 Z = true) (w3 : (Cond.native ⟨"java/lang/Object", "clone", "()Ljava/lang/Object;"⟩).before a0 Z = true)
    (w4 : (Cond.instanceMethod ⟨"java/lang/Object", "clone", "()Ljava/lang/Object;"⟩).before a0 Z = true) (w5 : (Cond.selects ad ⟨ad, "clone", "()Ljava/lang/Object;"⟩ ⟨"java/lang/Object", "clone", "()Ljava/lang/Object;"⟩).before a0 Z = true) (w6 : (Cond.castable ad "java/lang/Cloneable").before a0 Z = true)
    (A : Ars Z h a ty vs) (E : Exa Z h a ad) (hl : vs.length < 2147483648) (hcap : vs.length ≤ cap) (hL : L.size = ml) (hf : 1 ≤ R.frames) (hW : 2 * 0 + (S.map fun v => v.category).sum ≤ W) (hlo : W + 14 ≤ R.locals) (hc : k + 1 ≤ R.cells) (hs : n + cap ≤ R.slots)
    (K : ∀ h' b, b = h.size → Keep h h' [] → Ars Z h' b ty vs → Exa Z h' b ad → oGo Z own nm bytes ml ret R n0 Q (k + 1) (n + cap) h' q L (.ref b :: S)) : oGo Z own nm bytes ml ret R n0 Q k n h pc L (.ref a :: S) :=
  fun p l e s m args below meth c T locs Cx X eT N => by
    obtain ⟨hx, hZ, hby, hml, hown, hrt, hlk, hnm⟩ := Cx
    subst hq
    obtain ⟨k1, A'⟩ := A.arv .null hl
    have e1 := own_cn (own_oi hl)
    obtain ⟨T', h', X', e', Ex, B', EB, st⟩ := cloneH X hx hZ hown w1 w2 w3 w4 w5 w6 eT A'.arh E (g := mkF m pc L (.ref a :: S)) rfl (by rw [hml]; exact hL) rfl (hb hby hd) hf hW hlo (cap := cap) (by rw [e1]; exact hcap) hc hs
    obtain ⟨s₂, o, g1, r⟩ := K h' h.size rfl (own_keep Ex) (Ars.of_arv (show Arv Z h' h.size k1 ty (Int32.ofNat vs.length) vs .null from B') e1) EB p l e s m args below meth c T' locs ⟨hx, hZ, hby, hml, hown, hrt, hlk, hnm⟩ X' e' N
    exact ⟨s₂, o, st _ g1, r⟩
theorem oGo.callP {y : MethodName} {i W kk : Nat} {bytes' : ByteArray} {ml' : Nat} {ret' : Option FieldType} {rm : Room} {as : Array Value} {Q' : Option Value → Heap → Prop} {ps : List FieldType} {rt : Option FieldType} {a : Addr} {C : String} (argsL rest : List Value) (hd : decode bytes pc = .ok (.invokevirtual i, 3)) (hq : pc + 3 = q)
    (w1 : (Cond.methodLink own i y).before a0 Z = true) (w2 : (Cond.instanceMethod y).before a0 Z = true) (wp : (Cond.privateMethod y).before a0 Z = true) (wi : (Cond.instantiable y.cls kk).before a0 Z = true) (w3 : (Cond.initialized y.cls).before a0 Z = true) (w4 : (Cond.code y bytes' ml' ret').before a0 Z = true) (hy : y.cls ≠ "java/lang/invoke/MethodHandle" ∧ y.cls ≠ "java/lang/invoke/VarHandle") (E : Exa Z h a C)
    (hC : oCon Z y bytes' ml' ret' rm as h n0 Q') (hS : S = argsL.reverse ++ .ref a :: rest) (has : (.ref a :: argsL).toArray = as) (hpd : parseMethodDescriptor y.desc = some ⟨ps, rt⟩) (hlen : argsL.length = ps.length) (hL : L.size = ml) (hW : 2 * 0 + (rest.map fun v => v.category).sum ≤ W) (hf : rm.frames + 1 ≤ R.frames) (hl : W + (ml' + 11) + rm.locals ≤ R.locals) (hc : k + rm.cells ≤ R.cells) (hs : n + rm.slots ≤ R.slots)
    (K : ∀ v h', Q' v h' → oGo Z own nm bytes ml ret R n0 Q (k + rm.cells) (n + rm.slots) h' q L (v.toList ++ rest)) : oGo Z own nm bytes ml ret R n0 Q k n h pc L S :=
  fun p l e s m args below meth c T locs Cx X eT N => by
    obtain ⟨hx, hZ, hby, hml, hown, hrt, hlk, hnm⟩ := Cx
    subst hq
    obtain ⟨cq, q1, q2⟩ := E.cell
    have hpr := Cond.privateMethod_at (mvP hZ wp (args := #[]))
    have hin : (Cond.instanceMethod y).before args s = true := mvT hZ w2
    obtain ⟨ci, ki, i1, i2, -, i4, -, -⟩ := Cond.instantiable_spec (show (Cond.instantiable y.cls kk).before args s = true from mvT hZ wi)
    have hsel := selects_self_of_private (args := args) i1 i2 (by simp only [Bool.or_eq_false_iff] at i4; exact i4.1) hpr hin hy
    obtain ⟨v, _, ⟨T', L2, k2, n2⟩, -, X', ⟨Lc, hQ', l', y', z'⟩, st⟩ := X.privateBack hx (y := y) hown (mvT hZ w1) hin hsel hpr (mvT hZ w4) hy (backOf (W := W) (Q := fun v h' L => Q' v h' ∧ Fr n0 L) (hC l []) hZ w4 w3 hf hl) (g := mkF m pc L S) rfl (by rw [hml]; exact hL) (Steps.refl _) (a := a) (by rw [eT]; exact q1) q2 (argsL := argsL) (rest := rest) (lenOf hpd hlen) hS hW (hb hby hd) (fun _ _ => ⟨has, eT, hc, hs⟩)
    dsimp only [Pt.U, Pt.locs, Pt.cells, Pt.slots] at X' l' y' z' st hQ'
    subst l' y' z'
    obtain ⟨s₂, o, h1, r⟩ := K v T'.heap hQ'.1 p l e s m args below meth c T' _ ⟨hx, hZ, hby, hml, hown, hrt, hlk, hnm⟩ X' rfl (Fr.app N hQ'.2)
    exact ⟨s₂, o, st.trans h1, r⟩
/-! booleans -/
def own_b (b : Int32) (P : Prop) : Prop := (b = 1 ∧ P) ∨ (b = 0 ∧ ¬ P)
theorem own_b.t {P : Prop} (hp : P) : own_b 1 P := Or.inl ⟨rfl, hp⟩
theorem own_b.f {P : Prop} (hp : ¬ P) : own_b 0 P := Or.inr ⟨rfl, hp⟩
theorem own_b.z {b : Int32} {P : Prop} (u : own_b b P) (hb : b = 0) : ¬ P := by
  rcases u with ⟨rfl, _⟩ | ⟨_, u⟩
  · exact absurd hb (by decide)
  · exact u
theorem own_b.nz {b : Int32} {P : Prop} (u : own_b b P) (hb : b ≠ 0) : P := by
  rcases u with ⟨_, u⟩ | ⟨rfl, _⟩
  · exact u
  · exact absurd rfl hb
theorem own_b.nar {b : Int32} {P : Prop} (u : own_b b P) : nar .boolean b = b := by
  rcases u with ⟨rfl, _⟩ | ⟨rfl, _⟩ <;> rfl
theorem own_b.eq {b c : Int32} {P P' : Prop} (u : own_b b P) (v : own_b c P') (hp : P ↔ P') : b = c := by
  rcases u with ⟨rfl, u⟩ | ⟨rfl, u⟩ <;> rcases v with ⟨rfl, v⟩ | ⟨rfl, v⟩
  · rfl
  · exact absurd (hp.mp u) v
  · exact absurd (hp.mpr v) u
  · rfl
theorem own_b.is0 {b : Int32} {P : Prop} (u : own_b b P) (hp : ¬ P) : b = 0 := u.elim (fun z => absurd z.2 hp) (fun z => z.1)
theorem own_b.is1 {b : Int32} {P : Prop} (u : own_b b P) (hp : P) : b = 1 := u.elim (fun z => z.1) (fun z => absurd hp z.2)
theorem own_b.iff {b : Int32} {P P' : Prop} (u : own_b b P) (hp : P ↔ P') : own_b b P' := u.imp (fun z => ⟨z.1, hp.mp z.2⟩) (fun z => ⟨z.1, fun y => z.2 (hp.mpr y)⟩)
end Own
theorem d1_0 : decode prog_18_method_1_code 0 = .ok (.aload_n 0, 1) := by decide +kernel
theorem d1_1 : decode prog_18_method_1_code 1 = .ok (.invokespecial 1, 3) := by decide +kernel
theorem d1_4 : decode prog_18_method_1_code 4 = .ok (.aload_n 0, 1) := by decide +kernel
theorem d1_5 : decode prog_18_method_1_code 5 = .ok (.iconst 2, 1) := by decide +kernel
theorem d1_6 : decode prog_18_method_1_code 6 = .ok (.newarray .int, 2) := by decide +kernel
theorem d1_8 : decode prog_18_method_1_code 8 = .ok (.putfield 7, 3) := by decide +kernel
theorem d1_11 : decode prog_18_method_1_code 11 = .ok (.return_, 1) := by decide +kernel
theorem own_pd0 : parseMethodDescriptor "()V" = some ⟨[], none⟩ := by decide +kernel
theorem d3_0 : decode prog_18_method_4_code 0 = .ok (.aload_n 0, 1) := by decide +kernel
theorem d3_1 : decode prog_18_method_4_code 1 = .ok (.getfield 13, 3) := by decide +kernel
theorem d3_4 : decode prog_18_method_4_code 4 = .ok (.aload_n 0, 1) := by decide +kernel
theorem d3_5 : decode prog_18_method_4_code 5 = .ok (.getfield 7, 3) := by decide +kernel
theorem d3_8 : decode prog_18_method_4_code 8 = .ok (.arraylength, 1) := by decide +kernel
theorem d3_9 : decode prog_18_method_4_code 9 = .ok (.if_icmp .ne 27, 3) := by decide +kernel
theorem d3_12 : decode prog_18_method_4_code 12 = .ok (.aload_n 0, 1) := by decide +kernel
theorem d3_13 : decode prog_18_method_4_code 13 = .ok (.aload_n 0, 1) := by decide +kernel
theorem d3_14 : decode prog_18_method_4_code 14 = .ok (.getfield 7, 3) := by decide +kernel
theorem d3_17 : decode prog_18_method_4_code 17 = .ok (.aload_n 0, 1) := by decide +kernel
theorem d3_18 : decode prog_18_method_4_code 18 = .ok (.getfield 13, 3) := by decide +kernel
theorem d3_21 : decode prog_18_method_4_code 21 = .ok (.aload_n 0, 1) := by decide +kernel
theorem d3_22 : decode prog_18_method_4_code 22 = .ok (.getfield 13, 3) := by decide +kernel
theorem d3_25 : decode prog_18_method_4_code 25 = .ok (.iconst 1, 1) := by decide +kernel
theorem d3_26 : decode prog_18_method_4_code 26 = .ok (.ishr, 1) := by decide +kernel
theorem d3_27 : decode prog_18_method_4_code 27 = .ok (.iadd, 1) := by decide +kernel
theorem d3_28 : decode prog_18_method_4_code 28 = .ok (.iconst 2, 1) := by decide +kernel
theorem d3_29 : decode prog_18_method_4_code 29 = .ok (.iadd, 1) := by decide +kernel
theorem d3_30 : decode prog_18_method_4_code 30 = .ok (.invokestatic 17, 3) := by decide +kernel
theorem d3_33 : decode prog_18_method_4_code 33 = .ok (.putfield 7, 3) := by decide +kernel
theorem d3_36 : decode prog_18_method_4_code 36 = .ok (.aload_n 0, 1) := by decide +kernel
theorem d3_37 : decode prog_18_method_4_code 37 = .ok (.getfield 7, 3) := by decide +kernel
theorem d3_40 : decode prog_18_method_4_code 40 = .ok (.aload_n 0, 1) := by decide +kernel
theorem d3_41 : decode prog_18_method_4_code 41 = .ok (.dup, 1) := by decide +kernel
theorem d3_42 : decode prog_18_method_4_code 42 = .ok (.getfield 13, 3) := by decide +kernel
theorem d3_45 : decode prog_18_method_4_code 45 = .ok (.dup_x1, 1) := by decide +kernel
theorem d3_46 : decode prog_18_method_4_code 46 = .ok (.iconst 1, 1) := by decide +kernel
theorem d3_47 : decode prog_18_method_4_code 47 = .ok (.iadd, 1) := by decide +kernel
theorem d3_48 : decode prog_18_method_4_code 48 = .ok (.putfield 13, 3) := by decide +kernel
theorem d3_51 : decode prog_18_method_4_code 51 = .ok (.iload_n 1, 1) := by decide +kernel
theorem d3_52 : decode prog_18_method_4_code 52 = .ok (.iastore, 1) := by decide +kernel
theorem d3_53 : decode prog_18_method_4_code 53 = .ok (.return_, 1) := by decide +kernel
theorem own_pd1 : parseMethodDescriptor "(I)V" = some ⟨[.int], none⟩ := by decide +kernel
theorem d4_0 : decode prog_18_method_5_code 0 = .ok (.aload_n 0, 1) := by decide +kernel
theorem d4_1 : decode prog_18_method_5_code 1 = .ok (.getfield 7, 3) := by decide +kernel
theorem d4_4 : decode prog_18_method_5_code 4 = .ok (.aload_n 0, 1) := by decide +kernel
theorem d4_5 : decode prog_18_method_5_code 5 = .ok (.getfield 13, 3) := by decide +kernel
theorem d4_8 : decode prog_18_method_5_code 8 = .ok (.iconst 1, 1) := by decide +kernel
theorem d4_9 : decode prog_18_method_5_code 9 = .ok (.isub, 1) := by decide +kernel
theorem d4_10 : decode prog_18_method_5_code 10 = .ok (.dup2, 1) := by decide +kernel
theorem d4_11 : decode prog_18_method_5_code 11 = .ok (.iaload, 1) := by decide +kernel
theorem d4_12 : decode prog_18_method_5_code 12 = .ok (.iconst 1, 1) := by decide +kernel
theorem d4_13 : decode prog_18_method_5_code 13 = .ok (.iadd, 1) := by decide +kernel
theorem d4_14 : decode prog_18_method_5_code 14 = .ok (.iastore, 1) := by decide +kernel
theorem d4_15 : decode prog_18_method_5_code 15 = .ok (.return_, 1) := by decide +kernel
theorem d5_0 : decode prog_18_method_2_code 0 = .ok (.aload_n 0, 1) := by decide +kernel
theorem d5_1 : decode prog_18_method_2_code 1 = .ok (.getfield 13, 3) := by decide +kernel
theorem d5_4 : decode prog_18_method_2_code 4 = .ok (.ireturn, 1) := by decide +kernel
theorem own_pd2 : parseMethodDescriptor "()I" = some ⟨[], some .int⟩ := by decide +kernel
theorem d6_0 : decode prog_18_method_3_code 0 = .ok (.aload_n 0, 1) := by decide +kernel
theorem d6_1 : decode prog_18_method_3_code 1 = .ok (.getfield 7, 3) := by decide +kernel
theorem d6_4 : decode prog_18_method_3_code 4 = .ok (.iload_n 1, 1) := by decide +kernel
theorem d6_5 : decode prog_18_method_3_code 5 = .ok (.iaload, 1) := by decide +kernel
theorem d6_6 : decode prog_18_method_3_code 6 = .ok (.ireturn, 1) := by decide +kernel
theorem own_pd3 : parseMethodDescriptor "(I)I" = some ⟨[.int], some .int⟩ := by decide +kernel
def own_il (Z : State) (h : Heap) (a : Addr) (v0 v1 : Value) : Prop := Exa Z h a "com/example/interlace/interlace/index/IntList" ∧ Fld Z h a "com/example/interlace/interlace/index/IntList" "values" "[I" v0 ∧ Fld Z h a "com/example/interlace/interlace/index/IntList" "size" "I" v1
theorem own_il.lt {Z : State} {h : Heap} {a : Addr} {v0 v1 : Value} (O : own_il Z h a v0 v1) : a < h.size := O.1.lt
theorem own_il.keep {Z : State} {h h' : Heap} {ws : List Addr} {a : Addr} {v0 v1 : Value} (O : own_il Z h a v0 v1) (K : Keep h h' ws) (q : a ∉ ws) : own_il Z h' a v0 v1 := by
  obtain ⟨E, F0, F1⟩ := O; exact ⟨E.keep K, F0.keep K q, F1.keep K q⟩
theorem d8_0 : decode jdk_29_method_69_code 0 = .ok (.iload_n 0, 1) := by decide +kernel
theorem d8_1 : decode jdk_29_method_69_code 1 = .ok (.iload_n 1, 1) := by decide +kernel
theorem d8_2 : decode jdk_29_method_69_code 2 = .ok (.if_icmp .gt 7, 3) := by decide +kernel
theorem d8_5 : decode jdk_29_method_69_code 5 = .ok (.iload_n 0, 1) := by decide +kernel
theorem d8_6 : decode jdk_29_method_69_code 6 = .ok (.goto 4, 3) := by decide +kernel
theorem d8_9 : decode jdk_29_method_69_code 9 = .ok (.iload_n 1, 1) := by decide +kernel
theorem d8_10 : decode jdk_29_method_69_code 10 = .ok (.ireturn, 1) := by decide +kernel
theorem own_pd4 : parseMethodDescriptor "(II)I" = some ⟨[.int, .int], some .int⟩ := by decide +kernel
theorem own_ef8 (m : MethodId) (x0 : Int32) (x1 : Int32) : entryFrame m #[(.int x0), (.int x1)] 2 = mkF m 0 #[.val (.int x0), .val (.int x1)] [] := by first | (simp [entryFrame, mkF, argsToLocals, Value.category]; done) | rfl
theorem own_pn8 : plainFor (⟨"java/lang/Math", "min", "(II)I"⟩ : MethodName) = true := Jvm.Free.JP.mathPlain rfl (by decide +kernel)
set_option maxRecDepth 65536 in
set_option maxHeartbeats 40000000 in
theorem cmin {Z : State} {a0 : Array Value} (hw : ∀ d ∈ tables_1, d.before a0 Z = true) (x1 x2 : Int32) (h : Heap) (n0 : Nat) :
    oCon Z (⟨"java/lang/Math", "min", "(II)I"⟩ : MethodName) jdk_29_method_69_code 2 (some .int) ({ frames := 0, cells := 0, slots := 0, locals := 0 } : Room) #[(.int x1), (.int x2)] h n0 (fun v h' => (∃ z : Int32, v = some (.int z) ∧ z.toInt = min x1.toInt x2.toInt) ∧ h' = h) := by
  refine oCon.of own_pn8 (fun m => own_ef8 m x1 x2) ?_
  show oGo Z _ _ _ _ _ _ n0 _ 0 0 h 0 #[.val (.int x1), .val (.int x2)] []
  refine oGo.iloadN (q := 1) d8_0 rfl rfl ?_
  refine oGo.iloadN (q := 2) d8_1 rfl rfl ?_
  refine oGo.icmp_gt (q := 9) (r := 5) d8_2 (by decide) rfl (fun hc => ?_) (fun hc => ?_)
  · skip
    refine oGo.iloadN (q := 10) d8_9 rfl rfl ?_
    exact oGo.retI d8_10 rfl (by decide) (by decide) (⟨⟨_, rfl, by omega⟩, rfl⟩)
  · skip
    refine oGo.iloadN (q := 6) d8_5 rfl rfl ?_
    refine oGo.goto (q := 10) d8_6 (by decide) ?_
    exact oGo.retI d8_10 rfl (by decide) (by decide) (⟨⟨_, rfl, by omega⟩, rfl⟩)
theorem d7_0 : decode jdk_65_method_123_code 0 = .ok (.iload_n 1, 1) := by decide +kernel
theorem d7_1 : decode jdk_65_method_123_code 1 = .ok (.aload_n 0, 1) := by decide +kernel
theorem d7_2 : decode jdk_65_method_123_code 2 = .ok (.arraylength, 1) := by decide +kernel
theorem d7_3 : decode jdk_65_method_123_code 3 = .ok (.if_icmp .ne 11, 3) := by decide +kernel
theorem d7_6 : decode jdk_65_method_123_code 6 = .ok (.aload_n 0, 1) := by decide +kernel
theorem d7_7 : decode jdk_65_method_123_code 7 = .ok (.invokevirtual 316, 3) := by decide +kernel
theorem d7_10 : decode jdk_65_method_123_code 10 = .ok (.checkcast 317, 3) := by decide +kernel
theorem d7_13 : decode jdk_65_method_123_code 13 = .ok (.areturn, 1) := by decide +kernel
theorem d7_14 : decode jdk_65_method_123_code 14 = .ok (.iload_n 1, 1) := by decide +kernel
theorem d7_15 : decode jdk_65_method_123_code 15 = .ok (.newarray .int, 2) := by decide +kernel
theorem d7_17 : decode jdk_65_method_123_code 17 = .ok (.astore_n 2, 1) := by decide +kernel
theorem d7_18 : decode jdk_65_method_123_code 18 = .ok (.aload_n 0, 1) := by decide +kernel
theorem d7_19 : decode jdk_65_method_123_code 19 = .ok (.iconst 0, 1) := by decide +kernel
theorem d7_20 : decode jdk_65_method_123_code 20 = .ok (.aload_n 2, 1) := by decide +kernel
theorem d7_21 : decode jdk_65_method_123_code 21 = .ok (.iconst 0, 1) := by decide +kernel
theorem d7_22 : decode jdk_65_method_123_code 22 = .ok (.aload_n 0, 1) := by decide +kernel
theorem d7_23 : decode jdk_65_method_123_code 23 = .ok (.arraylength, 1) := by decide +kernel
theorem d7_24 : decode jdk_65_method_123_code 24 = .ok (.iload_n 1, 1) := by decide +kernel
theorem d7_25 : decode jdk_65_method_123_code 25 = .ok (.invokestatic 304, 3) := by decide +kernel
theorem d7_28 : decode jdk_65_method_123_code 28 = .ok (.invokestatic 150, 3) := by decide +kernel
theorem d7_31 : decode jdk_65_method_123_code 31 = .ok (.aload_n 2, 1) := by decide +kernel
theorem d7_32 : decode jdk_65_method_123_code 32 = .ok (.areturn, 1) := by decide +kernel
theorem own_pd5 : parseMethodDescriptor "([II)[I" = some ⟨[(.array .int), .int], some (.array .int)⟩ := by decide +kernel
theorem own_ef7 (m : MethodId) (x0 : Addr) (x1 : Int32) : entryFrame m #[(.ref x0), (.int x1)] 3 = mkF m 0 #[.val (.ref x0), .val (.int x1), .unset] [] := by first | (simp [entryFrame, mkF, argsToLocals, Value.category]; done) | rfl
theorem own_pn7 : plainFor (⟨"java/util/Arrays", "copyOf", "([II)[I"⟩ : MethodName) = true := plainFor_of_name (by first | (simp [plainName, overriddenIn]; done) | decide +kernel)
set_option maxRecDepth 65536 in
set_option maxHeartbeats 40000000 in
theorem ccp {Z : State} {a0 : Array Value} (hw : ∀ d ∈ tables_1, d.before a0 Z = true) (a : Addr) (n : Int32) (m : Nat) (vs : List Value) (h : Heap) (n0 : Nat) (Z0 : n0 ≤ h.size) (A : Ars Z h a .int vs) (hn : n.toInt = (m : Int)) (hm : m ≤ 16) (hl : vs.length < 2147483648) (hne : m ≠ vs.length) :
    oCon Z (⟨"java/util/Arrays", "copyOf", "([II)[I"⟩ : MethodName) jdk_65_method_123_code 3 (some (.array .int)) ({ frames := 1, cells := 1, slots := 16, locals := 27 } : Room) #[(.ref a), (.int n)] h n0 (fun v h' => ∃ b, v = some (.ref b) ∧ h.size ≤ b ∧ Keep h h' [] ∧ Ars Z h' b .int (vs.take m ++ List.replicate (m - vs.length) (.int (0 : Int32))) ∧ Exa Z h' b "[I") := by
  refine oCon.of own_pn7 (fun m => own_ef7 m a n) ?_
  show oGo Z _ _ _ _ _ _ n0 _ 0 0 h 0 #[.val (.ref a), .val (.int n), .unset] []
  have el := own_oi (i := vs.length) hl
  refine oGo.iloadN (q := 1) d7_0 rfl rfl ?_
  refine oGo.aloadN (q := 2) d7_1 rfl rfl rfl ?_
  refine oGo.arraylength (q := 3) (v := (Int32.ofNat vs.length)) d7_2 rfl A rfl ?_
  refine oGo.icmp_ne (q := 14) (r := 6) d7_3 (by decide) rfl (fun hc => ?_) (fun hc => absurd hc fun z => hne (by have := congrArg Int32.toInt z; omega))
  refine oGo.iloadN (q := 15) d7_14 rfl rfl ?_
  refine oGo.newP (q := 17) (len := m) 16 d7_15 rfl (hw _ (List.mem_of_getElem? (i := 9) rfl)) hn (by first | decide | omega) (by decide) (by decide) (by decide) (ad := "[I") rfl ?_
  intro h1 b g1 K1 A1 E1
  have ne_a_b : a ≠ b := Nat.ne_of_lt (Nat.lt_of_lt_of_eq (A.lt) g1.symm)
  have ge_b : n0 ≤ b := Nat.le_trans Z0 (Nat.le_of_eq g1.symm)
  have A_ := Ars.keep A K1 nin0
  have Z0_ := Nat.le_trans Z0 K1.1
  show oGo Z _ _ _ _ _ _ n0 _ 1 16 h1 17 #[.val (.ref a), .val (.int n), .unset] [(.ref b)]
  refine oGo.astoreN (q := 18) (L' := #[.val (.ref a), .val (.int n), .val (.ref b)]) d7_17 rfl rfl rfl ?_
  refine oGo.aloadN (q := 19) d7_18 rfl rfl rfl ?_
  refine oGo.iconst (q := 20) (v := (0 : Int32)) d7_19 rfl rfl ?_
  refine oGo.aloadN (q := 21) d7_20 rfl rfl rfl ?_
  refine oGo.iconst (q := 22) (v := (0 : Int32)) d7_21 rfl rfl ?_
  refine oGo.aloadN (q := 23) d7_22 rfl rfl rfl ?_
  refine oGo.arraylength (q := 24) (v := (Int32.ofNat vs.length)) d7_23 rfl A_ rfl ?_
  refine oGo.iloadN (q := 25) d7_24 rfl rfl ?_
  refine oGo.callS (W := 4) (rm := ({ frames := 0, cells := 0, slots := 0, locals := 0 } : Room)) (q := 28) [(.int (Int32.ofNat vs.length)), (.int n)] [(.int (0 : Int32)), (.ref b), (.int (0 : Int32)), (.ref a)] d7_25 rfl (hw _ (List.mem_of_getElem? (i := 38) rfl)) (hw _ (List.mem_of_getElem? (i := 39) rfl)) (hw _ (List.mem_of_getElem? (i := 40) rfl)) (hw _ (List.mem_of_getElem? (i := 41) rfl)) (by decide) (cmin hw (Int32.ofNat vs.length) n h1 n0) rfl rfl own_pd4 rfl rfl (Nat.le_of_eq rfl) (by decide) (by decide) (by decide) (by decide) ?_
  rintro _ h2 ⟨⟨z, rfl, hz⟩, eh⟩
  all_goals subst h2
  show oGo Z _ _ _ _ _ _ n0 _ 1 16 h1 28 #[.val (.ref a), .val (.int n), .val (.ref b)] [(.int z), (.int (0 : Int32)), (.ref b), (.int (0 : Int32)), (.ref a)]
  refine oGo.acopy (q := 31) (W := 0) (si := 0) (di := 0) (len := (min vs.length m)) d7_28 rfl (hw _ (List.mem_of_getElem? (i := 42) rfl)) (hw _ (List.mem_of_getElem? (i := 45) rfl)) (hw _ (List.mem_of_getElem? (i := 43) rfl)) (hw _ (List.mem_of_getElem? (i := 44) rfl)) A_ A1 rfl rfl rfl (by omega) (by omega) (by rw [List.length_replicate]; omega) hl (by rw [List.length_replicate]; omega) ge_b rfl (by decide) (Nat.le_of_eq rfl) (by decide) ?_
  intro h3 K3 A3
  have A__ := Ars.keep A_ K3 (ninS ne_a_b nin0)
  have E1_ := Exa.keep E1 K3
  have Z0__ := Nat.le_trans Z0_ K3.1
  refine oGo.aloadN (q := 32) d7_31 rfl rfl rfl ?_
  have e : (List.replicate m (defaultValue (newarray.typeOf .int))).take 0 ++ (vs.drop 0).take (min vs.length m) ++ (List.replicate m (defaultValue (newarray.typeOf .int))).drop (0 + min vs.length m) = vs.take m ++ List.replicate (m - vs.length) (.int (0 : Int32)) := by
    rw [List.take_zero, List.nil_append, List.drop_zero, Nat.zero_add, List.drop_replicate]
    congr 1
    · rw [Nat.min_comm, ← List.take_take]; rw [List.take_of_length_le (Nat.le_refl vs.length)]
    · congr 1; omega
  rw [e] at A3
  exact oGo.retA d7_32 rfl rfl rfl (by decide) (by decide) (⟨b, rfl, Nat.le_of_eq g1.symm, Keep.trans K1 K3 (fun x hx => Or.inr (by rw [List.mem_singleton.mp hx, g1]; exact Nat.le_refl _)), A3, E1_⟩)
theorem own_ef1 (m : MethodId) (x0 : Addr) : entryFrame m #[(.ref x0)] 1 = mkF m 0 #[.val (.ref x0)] [] := by first | (simp [entryFrame, mkF, argsToLocals, Value.category]; done) | rfl
theorem own_pn1 : plainFor (⟨"com/example/interlace/interlace/index/IntList", "<init>", "()V"⟩ : MethodName) = true := plainFor_of_name (by first | (simp [plainName, overriddenIn]; done) | decide +kernel)
set_option maxRecDepth 65536 in
set_option maxHeartbeats 40000000 in
theorem ci {Z : State} {a0 : Array Value} (hw : ∀ d ∈ tables_1, d.before a0 Z = true) (l : Addr) (h : Heap) (n0 : Nat) (Z0 : n0 ≤ h.size) (gl : n0 ≤ l) (O : own_il Z h l .null (.int 0)) :
    oCon Z (⟨"com/example/interlace/interlace/index/IntList", "<init>", "()V"⟩ : MethodName) prog_18_method_1_code 1 none ({ frames := 1, cells := 1, slots := 2, locals := 14 } : Room) #[(.ref l)] h n0 (fun v h' => v = none ∧ ∃ a, h.size ≤ a ∧ Keep h h' [l] ∧ own_il Z h' l (.ref a) (.int 0) ∧ Ars Z h' a .int [.int (0 : Int32), .int (0 : Int32)]) := by
  refine oCon.of own_pn1 (fun m => own_ef1 m l) ?_
  show oGo Z _ _ _ _ _ _ n0 _ 0 0 h 0 #[.val (.ref l)] []
  obtain ⟨E4, F4_values, F4_size⟩ := O
  refine oGo.aloadN (q := 1) d1_0 rfl rfl rfl ?_
  refine oGo.initO (W := 0) (q := 4) d1_1 rfl (hw _ (List.mem_of_getElem? (i := 6) rfl)) (hw _ (List.mem_of_getElem? (i := 7) rfl)) (hw _ (List.mem_of_getElem? (i := 8) rfl)) rfl (by decide) (Nat.le_of_eq rfl) (by decide) ?_
  refine oGo.aloadN (q := 5) d1_4 rfl rfl rfl ?_
  refine oGo.iconst (q := 6) (v := (2 : Int32)) d1_5 rfl rfl ?_
  refine oGo.newP (q := 8) (len := 2) 2 d1_6 rfl (hw _ (List.mem_of_getElem? (i := 9) rfl)) rfl (by first | decide | omega) (by decide) (by decide) (by decide) (ad := "[I") rfl ?_
  intro h5 a g5 K5 A5 E5
  have ne_l_a : l ≠ a := Nat.ne_of_lt (Nat.lt_of_lt_of_eq (E4.lt) g5.symm)
  have ge_a : n0 ≤ a := Nat.le_trans Z0 (Nat.le_of_eq g5.symm)
  have E4_ := Exa.keep E4 K5
  have F4_values_ := Fld.keep F4_values K5 nin0
  have F4_size_ := Fld.keep F4_size K5 nin0
  have Z0_ := Nat.le_trans Z0 K5.1
  replace A5 : Ars Z h5 a .int [(.int (0 : Int32)), (.int (0 : Int32))] := A5
  show oGo Z _ _ _ _ _ _ n0 _ 1 2 h5 8 #[.val (.ref l)] [(.ref a), (.ref l)]
  refine oGo.putF (host := "") (ty := (.array .int)) (q := 11) d1_8 rfl (Or.inl (hw _ (List.mem_of_getElem? (i := 10) rfl))) Via.refl F4_values_ E4_ (Or.inl (hw _ (List.mem_of_getElem? (i := 11) rfl))) (hw _ (List.mem_of_getElem? (i := 1) rfl)) (by decide) rfl rfl gl ?_
  intro h6 K6 E6 F6 G6
  have F6_size := G6 (slot_ne (Or.inl (hw _ (List.mem_of_getElem? (i := 18) rfl))) (Or.inl (hw _ (List.mem_of_getElem? (i := 11) rfl))) (by decide) (t := .int) (t' := (.array .int)) (by decide) (by decide)) F4_size_
  have A5_ := Ars.keep A5 K6 (ninS (Ne.symm ne_l_a) nin0)
  have E5_ := Exa.keep E5 K6
  have Z0__ := Nat.le_trans Z0_ K6.1
  show oGo Z _ _ _ _ _ _ n0 _ 1 2 h6 11 #[.val (.ref l)] []
  exact oGo.retV d1_11 rfl (by decide) (by decide) (⟨rfl, a, Nat.le_of_eq g5.symm, Keep.trans ((Keep.refl h [l]).trans K5 (fun x hx => nomatch hx)) K6 (fun x hx => Or.inl hx), ⟨E6, F6, F6_size⟩, A5_⟩)
theorem own_ef3 (m : MethodId) (x0 : Addr) (x1 : Int32) : entryFrame m #[(.ref x0), (.int x1)] 2 = mkF m 0 #[.val (.ref x0), .val (.int x1)] [] := by first | (simp [entryFrame, mkF, argsToLocals, Value.category]; done) | rfl
theorem own_pn3 : plainFor (⟨"com/example/interlace/interlace/index/IntList", "add", "(I)V"⟩ : MethodName) = true := plainFor_of_name (by first | (simp [plainName, overriddenIn]; done) | decide +kernel)
set_option maxRecDepth 65536 in
set_option maxHeartbeats 40000000 in
theorem ca {Z : State} {a0 : Array Value} (hw : ∀ d ∈ tables_1, d.before a0 Z = true) (l : Addr) (z : Int32) (a : Addr) (s s' : Int32) (i : Nat) (vs vs' : List Value) (h : Heap) (n0 : Nat) (gl : n0 ≤ l) (ga : n0 ≤ a) (hne : a ≠ l) (O : own_il Z h l (.ref a) (.int s)) (A : Ars Z h a .int vs) (hs : s.toInt = (i : Int)) (hl : i < vs.length) (hlv : vs.length < 2147483648) (hs' : s + (1 : Int32) = s') (hv : vs.set i (.int z) = vs') :
    oCon Z (⟨"com/example/interlace/interlace/index/IntList", "add", "(I)V"⟩ : MethodName) prog_18_method_4_code 2 none ({ frames := 2, cells := 1, slots := 16, locals := 43 } : Room) #[(.ref l), (.int z)] h n0 (fun v h' => v = none ∧ Keep h h' [l, a] ∧ own_il Z h' l (.ref a) (.int s') ∧ Ars Z h' a .int vs') := by
  refine oCon.of own_pn3 (fun m => own_ef3 m l z) ?_
  show oGo Z _ _ _ _ _ _ n0 _ 0 0 h 0 #[.val (.ref l), .val (.int z)] []
  subst hs' hv
  have el := own_oi (i := vs.length) hlv
  obtain ⟨E7, F7_values, F7_size⟩ := O
  refine oGo.aloadN (q := 1) d3_0 rfl rfl rfl ?_
  refine oGo.getF (host := "") (q := 4) (v := (.int s)) d3_1 rfl (Or.inl (hw _ (List.mem_of_getElem? (i := 17) rfl))) Via.refl F7_size ?_
  refine oGo.aloadN (q := 5) d3_4 rfl rfl rfl ?_
  refine oGo.getF (host := "") (q := 8) (v := (.ref a)) d3_5 rfl (Or.inl (hw _ (List.mem_of_getElem? (i := 10) rfl))) Via.refl F7_values ?_
  refine oGo.arraylength (q := 9) (v := (Int32.ofNat vs.length)) d3_8 rfl A rfl ?_
  refine oGo.icmp_ne (q := 36) (r := 12) d3_9 (by decide) rfl (fun hc => ?_) (fun hc => absurd hc fun e => by have := congrArg Int32.toInt e; omega)
  refine oGo.aloadN (q := 37) d3_36 rfl rfl rfl ?_
  refine oGo.getF (host := "") (q := 40) (v := (.ref a)) d3_37 rfl (Or.inl (hw _ (List.mem_of_getElem? (i := 10) rfl))) Via.refl F7_values ?_
  refine oGo.aloadN (q := 41) d3_40 rfl rfl rfl ?_
  refine oGo.dup (q := 42) d3_41 rfl rfl ?_
  refine oGo.getF (host := "") (q := 45) (v := (.int s)) d3_42 rfl (Or.inl (hw _ (List.mem_of_getElem? (i := 17) rfl))) Via.refl F7_size ?_
  refine oGo.dupX1 (q := 46) d3_45 rfl rfl rfl ?_
  refine oGo.iconst (q := 47) (v := (1 : Int32)) d3_46 rfl rfl ?_
  refine oGo.iadd (q := 48) d3_47 rfl ?_
  refine oGo.putF (host := "") (ty := .int) (q := 51) d3_48 rfl (Or.inl (hw _ (List.mem_of_getElem? (i := 17) rfl))) Via.refl F7_size E7 (Or.inl (hw _ (List.mem_of_getElem? (i := 18) rfl))) (hw _ (List.mem_of_getElem? (i := 1) rfl)) (by decide) rfl rfl gl ?_
  intro h8 K8 E8 F8 G8
  have F8_values := G8 (slot_ne (Or.inl (hw _ (List.mem_of_getElem? (i := 11) rfl))) (Or.inl (hw _ (List.mem_of_getElem? (i := 18) rfl))) (by decide) (t := (.array .int)) (t' := .int) (by decide) (by decide)) F7_values
  have A_ := Ars.keep A K8 (ninS hne nin0)
  show oGo Z _ _ _ _ _ _ n0 _ 0 0 h8 51 #[.val (.ref l), .val (.int z)] [(.int s), (.ref a)]
  refine oGo.iloadN (q := 52) d3_51 rfl rfl ?_
  refine oGo.iastore (q := 53) (i := i) d3_52 rfl A_ hs hl ga ?_
  intro h9 K9 A9
  have E8_ := Exa.keep E8 K9
  have F8_ := Fld.keep F8 K9 (ninS (Ne.symm hne) nin0)
  have F8_values_ := Fld.keep F8_values K9 (ninS (Ne.symm hne) nin0)
  show oGo Z _ _ _ _ _ _ n0 _ 0 0 h9 53 #[.val (.ref l), .val (.int z)] []
  exact oGo.retV d3_53 rfl (by decide) (by decide) (⟨rfl, Keep.trans (Keep.trans (Keep.refl h [l, a]) K8 (fun x hx => Or.inl (by simp at hx; simp [hx]))) K9 (fun x hx => Or.inl (by simp at hx; simp [hx])), ⟨E8_, F8_values_, F8_⟩, A9⟩)
set_option maxRecDepth 65536 in
set_option maxHeartbeats 40000000 in
theorem cg {Z : State} {a0 : Array Value} (hw : ∀ d ∈ tables_1, d.before a0 Z = true) (l : Addr) (z : Int32) (a : Addr) (u0 u1 : Int32) (h : Heap) (n0 : Nat) (Z0 : n0 ≤ h.size) (gl : n0 ≤ l) (hne : a ≠ l) (O : own_il Z h l (.ref a) (.int 2)) (A : Ars Z h a .int [.int u0, .int u1]) :
    oCon Z (⟨"com/example/interlace/interlace/index/IntList", "add", "(I)V"⟩ : MethodName) prog_18_method_4_code 2 none ({ frames := 2, cells := 1, slots := 16, locals := 43 } : Room) #[(.ref l), (.int z)] h n0 (fun v h' => v = none ∧ ∃ b, h.size ≤ b ∧ Keep h h' [l] ∧ own_il Z h' l (.ref b) (.int 3) ∧ Ars Z h' b .int [.int u0, .int u1, .int z, .int 0, .int 0]) := by
  refine oCon.of own_pn3 (fun m => own_ef3 m l z) ?_
  show oGo Z _ _ _ _ _ _ n0 _ 0 0 h 0 #[.val (.ref l), .val (.int z)] []
  obtain ⟨E10, F10_values, F10_size⟩ := O
  refine oGo.aloadN (q := 1) d3_0 rfl rfl rfl ?_
  refine oGo.getF (host := "") (q := 4) (v := (.int (2 : Int32))) d3_1 rfl (Or.inl (hw _ (List.mem_of_getElem? (i := 17) rfl))) Via.refl F10_size ?_
  refine oGo.aloadN (q := 5) d3_4 rfl rfl rfl ?_
  refine oGo.getF (host := "") (q := 8) (v := (.ref a)) d3_5 rfl (Or.inl (hw _ (List.mem_of_getElem? (i := 10) rfl))) Via.refl F10_values ?_
  refine oGo.arraylength (q := 9) (v := (2 : Int32)) d3_8 rfl A rfl ?_
  refine oGo.icmp_ne (q := 36) (r := 12) d3_9 (by decide) rfl (fun hc => absurd rfl hc) (fun hc => ?_)
  refine oGo.aloadN (q := 13) d3_12 rfl rfl rfl ?_
  refine oGo.aloadN (q := 14) d3_13 rfl rfl rfl ?_
  refine oGo.getF (host := "") (q := 17) (v := (.ref a)) d3_14 rfl (Or.inl (hw _ (List.mem_of_getElem? (i := 10) rfl))) Via.refl F10_values ?_
  refine oGo.aloadN (q := 18) d3_17 rfl rfl rfl ?_
  refine oGo.getF (host := "") (q := 21) (v := (.int (2 : Int32))) d3_18 rfl (Or.inl (hw _ (List.mem_of_getElem? (i := 17) rfl))) Via.refl F10_size ?_
  refine oGo.aloadN (q := 22) d3_21 rfl rfl rfl ?_
  refine oGo.getF (host := "") (q := 25) (v := (.int (2 : Int32))) d3_22 rfl (Or.inl (hw _ (List.mem_of_getElem? (i := 17) rfl))) Via.refl F10_size ?_
  refine oGo.iconst (q := 26) (v := (1 : Int32)) d3_25 rfl rfl ?_
  refine oGo.ishr (q := 27) d3_26 rfl ?_
  refine oGo.iadd (q := 28) d3_27 rfl ?_
  refine oGo.iconst (q := 29) (v := (2 : Int32)) d3_28 rfl rfl ?_
  refine oGo.iadd (q := 30) d3_29 rfl ?_
  refine oGo.callS (W := 1) (rm := ({ frames := 1, cells := 1, slots := 16, locals := 27 } : Room)) (q := 33) [(.ref a), (.int (((2 : Int32) + ((2 : Int32) >>> ((1 : Int32) &&& 31))) + (2 : Int32)))] [(.ref l)] d3_30 rfl (hw _ (List.mem_of_getElem? (i := 34) rfl)) (hw _ (List.mem_of_getElem? (i := 35) rfl)) (hw _ (List.mem_of_getElem? (i := 36) rfl)) (hw _ (List.mem_of_getElem? (i := 37) rfl)) (by decide) (ccp hw a (((2 : Int32) + ((2 : Int32) >>> ((1 : Int32) &&& 31))) + (2 : Int32)) 5 [.int u0, .int u1] h n0 Z0 A (by decide) (by decide) (Nat.le_of_ble_eq_true rfl) (show (5 : Nat) ≠ 2 by decide)) rfl rfl own_pd5 rfl rfl (Nat.le_of_eq rfl) (by decide) (by decide) (by decide) (by decide) ?_
  rintro _ h11 ⟨b, rfl, gb, K, B, EB⟩
  show oGo Z _ _ _ _ _ _ n0 _ 1 16 h11 33 #[.val (.ref l), .val (.int z)] [(.ref b), (.ref l)]
  have nlb : l ≠ b := Nat.ne_of_lt (Nat.lt_of_lt_of_le (E10.lt) gb)
  have geb : n0 ≤ b := Nat.le_trans Z0 gb
  have E10_ := Exa.keep E10 K
  have F10_values_ := Fld.keep F10_values K nin0
  have F10_size_ := Fld.keep F10_size K nin0
  have A_ := Ars.keep A K nin0
  have Z0_ := Nat.le_trans Z0 K.1
  replace B : Ars Z h11 b .int [.int u0, .int u1, .int (0 : Int32), .int (0 : Int32), .int (0 : Int32)] := B
  refine oGo.putF (host := "") (ty := (.array .int)) (q := 36) d3_33 rfl (Or.inl (hw _ (List.mem_of_getElem? (i := 10) rfl))) Via.refl F10_values_ E10_ (Or.inl (hw _ (List.mem_of_getElem? (i := 11) rfl))) (hw _ (List.mem_of_getElem? (i := 1) rfl)) (by decide) rfl rfl gl ?_
  intro h12 K12 E12 F12 G12
  have F12_size := G12 (slot_ne (Or.inl (hw _ (List.mem_of_getElem? (i := 18) rfl))) (Or.inl (hw _ (List.mem_of_getElem? (i := 11) rfl))) (by decide) (t := .int) (t' := (.array .int)) (by decide) (by decide)) F10_size_
  have B_ := Ars.keep B K12 (ninS (Ne.symm nlb) nin0)
  have Z0__ := Nat.le_trans Z0_ K12.1
  show oGo Z _ _ _ _ _ _ n0 _ 1 16 h12 36 #[.val (.ref l), .val (.int z)] []
  refine oGo.aloadN (q := 37) d3_36 rfl rfl rfl ?_
  refine oGo.getF (host := "") (q := 40) (v := (.ref b)) d3_37 rfl (Or.inl (hw _ (List.mem_of_getElem? (i := 10) rfl))) Via.refl F12 ?_
  refine oGo.aloadN (q := 41) d3_40 rfl rfl rfl ?_
  refine oGo.dup (q := 42) d3_41 rfl rfl ?_
  refine oGo.getF (host := "") (q := 45) (v := (.int (2 : Int32))) d3_42 rfl (Or.inl (hw _ (List.mem_of_getElem? (i := 17) rfl))) Via.refl F12_size ?_
  refine oGo.dupX1 (q := 46) d3_45 rfl rfl rfl ?_
  refine oGo.iconst (q := 47) (v := (1 : Int32)) d3_46 rfl rfl ?_
  refine oGo.iadd (q := 48) d3_47 rfl ?_
  refine oGo.putF (host := "") (ty := .int) (q := 51) d3_48 rfl (Or.inl (hw _ (List.mem_of_getElem? (i := 17) rfl))) Via.refl F12_size E12 (Or.inl (hw _ (List.mem_of_getElem? (i := 18) rfl))) (hw _ (List.mem_of_getElem? (i := 1) rfl)) (by decide) rfl rfl gl ?_
  intro h13 K13 E13 F13 G13
  have F13_values := G13 (slot_ne (Or.inl (hw _ (List.mem_of_getElem? (i := 11) rfl))) (Or.inl (hw _ (List.mem_of_getElem? (i := 18) rfl))) (by decide) (t := (.array .int)) (t' := .int) (by decide) (by decide)) F12
  have B__ := Ars.keep B_ K13 (ninS (Ne.symm nlb) nin0)
  have Z0___ := Nat.le_trans Z0__ K13.1
  show oGo Z _ _ _ _ _ _ n0 _ 1 16 h13 51 #[.val (.ref l), .val (.int z)] [(.int (2 : Int32)), (.ref b)]
  refine oGo.iloadN (q := 52) d3_51 rfl rfl ?_
  refine oGo.iastore (q := 53) (i := 2) d3_52 rfl B__ rfl (Nat.le_of_ble_eq_true rfl) geb ?_
  intro h14 K14 A14
  replace A14 : Ars Z h14 b .int [.int u0, .int u1, .int z, .int (0 : Int32), .int (0 : Int32)] := A14
  have E13_ := Exa.keep E13 K14
  have F13_ := Fld.keep F13 K14 (ninS nlb nin0)
  have F13_values_ := Fld.keep F13_values K14 (ninS nlb nin0)
  have Z0____ := Nat.le_trans Z0___ K14.1
  show oGo Z _ _ _ _ _ _ n0 _ 1 16 h14 53 #[.val (.ref l), .val (.int z)] []
  exact oGo.retV d3_53 rfl (by decide) (by decide) (⟨rfl, b, gb, Keep.trans (Keep.trans (Keep.trans (Keep.trans (Keep.refl h [l]) K (fun x hx => nomatch hx)) K12 (fun x hx => Or.inl (by simp at hx; simp [hx]))) K13 (fun x hx => Or.inl (by simp at hx; simp [hx]))) K14 (fun x hx => Or.inr (by rw [List.mem_singleton.mp hx]; exact gb)), ⟨E13_, F13_values_, F13_⟩, A14⟩)
theorem own_ef4 (m : MethodId) (x0 : Addr) : entryFrame m #[(.ref x0)] 1 = mkF m 0 #[.val (.ref x0)] [] := by first | (simp [entryFrame, mkF, argsToLocals, Value.category]; done) | rfl
theorem own_pn4 : plainFor (⟨"com/example/interlace/interlace/index/IntList", "incrementLast", "()V"⟩ : MethodName) = true := plainFor_of_name (by first | (simp [plainName, overriddenIn]; done) | decide +kernel)
set_option maxRecDepth 65536 in
set_option maxHeartbeats 40000000 in
theorem cn {Z : State} {a0 : Array Value} (hw : ∀ d ∈ tables_1, d.before a0 Z = true) (l a : Addr) (s v0 : Int32) (i : Nat) (vs vs' : List Value) (h : Heap) (n0 : Nat) (ga : n0 ≤ a) (hne : a ≠ l) (O : own_il Z h l (.ref a) (.int s)) (A : Ars Z h a .int vs) (hs : (s - (1 : Int32)).toInt = (i : Int)) (hv : vs[i]? = some (.int v0)) (hv' : vs.set i (.int (v0 + (1 : Int32))) = vs') :
    oCon Z (⟨"com/example/interlace/interlace/index/IntList", "incrementLast", "()V"⟩ : MethodName) prog_18_method_5_code 1 none ({ frames := 0, cells := 0, slots := 0, locals := 0 } : Room) #[(.ref l)] h n0 (fun v h' => v = none ∧ Keep h h' [a] ∧ Ars Z h' a .int vs') := by
  refine oCon.of own_pn4 (fun m => own_ef4 m l) ?_
  show oGo Z _ _ _ _ _ _ n0 _ 0 0 h 0 #[.val (.ref l)] []
  subst hv'
  obtain ⟨E15, F15_values, F15_size⟩ := O
  refine oGo.aloadN (q := 1) d4_0 rfl rfl rfl ?_
  refine oGo.getF (host := "") (q := 4) (v := (.ref a)) d4_1 rfl (Or.inl (hw _ (List.mem_of_getElem? (i := 10) rfl))) Via.refl F15_values ?_
  refine oGo.aloadN (q := 5) d4_4 rfl rfl rfl ?_
  refine oGo.getF (host := "") (q := 8) (v := (.int s)) d4_5 rfl (Or.inl (hw _ (List.mem_of_getElem? (i := 17) rfl))) Via.refl F15_size ?_
  refine oGo.iconst (q := 9) (v := (1 : Int32)) d4_8 rfl rfl ?_
  refine oGo.isub (q := 10) d4_9 rfl ?_
  refine oGo.dup2 (q := 11) d4_10 rfl rfl rfl ?_
  refine oGo.iaload (q := 12) (i := i) (v := (.int v0)) d4_11 rfl A hs hv ?_
  refine oGo.iconst (q := 13) (v := (1 : Int32)) d4_12 rfl rfl ?_
  refine oGo.iadd (q := 14) d4_13 rfl ?_
  refine oGo.iastore (q := 15) (i := i) d4_14 rfl A hs (List.getElem?_eq_some_iff.mp hv).1 ga ?_
  intro h16 K16 A16
  have E15_ := Exa.keep E15 K16
  have F15_values_ := Fld.keep F15_values K16 (ninS (Ne.symm hne) nin0)
  have F15_size_ := Fld.keep F15_size K16 (ninS (Ne.symm hne) nin0)
  show oGo Z _ _ _ _ _ _ n0 _ 0 0 h16 15 #[.val (.ref l)] []
  exact oGo.retV d4_15 rfl (by decide) (by decide) (⟨rfl, K16, A16⟩)
theorem own_ef5 (m : MethodId) (x0 : Addr) : entryFrame m #[(.ref x0)] 1 = mkF m 0 #[.val (.ref x0)] [] := by first | (simp [entryFrame, mkF, argsToLocals, Value.category]; done) | rfl
theorem own_pn5 : plainFor (⟨"com/example/interlace/interlace/index/IntList", "size", "()I"⟩ : MethodName) = true := plainFor_of_name (by first | (simp [plainName, overriddenIn]; done) | decide +kernel)
set_option maxRecDepth 65536 in
set_option maxHeartbeats 40000000 in
theorem cs {Z : State} {a0 : Array Value} (hw : ∀ d ∈ tables_1, d.before a0 Z = true) (l : Addr) (A : Value) (s : Int32) (h : Heap) (n0 : Nat) (O : own_il Z h l A (.int s)) :
    oCon Z (⟨"com/example/interlace/interlace/index/IntList", "size", "()I"⟩ : MethodName) prog_18_method_2_code 1 (some .int) ({ frames := 0, cells := 0, slots := 0, locals := 0 } : Room) #[(.ref l)] h n0 (fun v h' => v = some (.int s) ∧ h' = h) := by
  refine oCon.of own_pn5 (fun m => own_ef5 m l) ?_
  show oGo Z _ _ _ _ _ _ n0 _ 0 0 h 0 #[.val (.ref l)] []
  obtain ⟨E17, F17_values, F17_size⟩ := O
  refine oGo.aloadN (q := 1) d5_0 rfl rfl rfl ?_
  refine oGo.getF (host := "") (q := 4) (v := (.int s)) d5_1 rfl (Or.inl (hw _ (List.mem_of_getElem? (i := 17) rfl))) Via.refl F17_size ?_
  exact oGo.retI d5_4 rfl (by decide) (by decide) (⟨rfl, rfl⟩)
theorem own_ef6 (m : MethodId) (x0 : Addr) (x1 : Int32) : entryFrame m #[(.ref x0), (.int x1)] 2 = mkF m 0 #[.val (.ref x0), .val (.int x1)] [] := by first | (simp [entryFrame, mkF, argsToLocals, Value.category]; done) | rfl
theorem own_pn6 : plainFor (⟨"com/example/interlace/interlace/index/IntList", "get", "(I)I"⟩ : MethodName) = true := plainFor_of_name (by first | (simp [plainName, overriddenIn]; done) | decide +kernel)
set_option maxRecDepth 65536 in
set_option maxHeartbeats 40000000 in
theorem ct {Z : State} {a0 : Array Value} (hw : ∀ d ∈ tables_1, d.before a0 Z = true) (l : Addr) (j : Int32) (a : Addr) (S : Value) (v0 : Int32) (i : Nat) (vs : List Value) (h : Heap) (n0 : Nat) (O : own_il Z h l (.ref a) S) (A : Ars Z h a .int vs) (hj : j.toInt = (i : Int)) (hv : vs[i]? = some (.int v0)) :
    oCon Z (⟨"com/example/interlace/interlace/index/IntList", "get", "(I)I"⟩ : MethodName) prog_18_method_3_code 2 (some .int) ({ frames := 0, cells := 0, slots := 0, locals := 0 } : Room) #[(.ref l), (.int j)] h n0 (fun v h' => v = some (.int v0) ∧ h' = h) := by
  refine oCon.of own_pn6 (fun m => own_ef6 m l j) ?_
  show oGo Z _ _ _ _ _ _ n0 _ 0 0 h 0 #[.val (.ref l), .val (.int j)] []
  obtain ⟨E18, F18_values, F18_size⟩ := O
  refine oGo.aloadN (q := 1) d6_0 rfl rfl rfl ?_
  refine oGo.getF (host := "") (q := 4) (v := (.ref a)) d6_1 rfl (Or.inl (hw _ (List.mem_of_getElem? (i := 10) rfl))) Via.refl F18_values ?_
  refine oGo.iloadN (q := 5) d6_4 rfl rfl ?_
  refine oGo.iaload (q := 6) (i := i) (v := (.int v0)) d6_5 rfl A hj hv ?_
  exact oGo.retI d6_6 rfl (by decide) (by decide) (⟨rfl, rfl⟩)
theorem own_ef0 (m : MethodId) (x0 : Int32) (x1 : Int32) (x2 : Int32) (x3 : Int32) (x4 : Int32) : entryFrame m #[(.int x0), (.int x1), (.int x2), (.int x3), (.int x4)] maxLocals = mkF m 0 #[.val (.int x0), .val (.int x1), .val (.int x2), .val (.int x3), .val (.int x4), .unset, .unset, .unset, .unset] [] := by first | (simp [entryFrame, mkF, argsToLocals, Value.category, maxLocals]; done) | rfl
theorem own_pn0 : plainFor x = true := plainFor_of_name (by first | (simp [plainName, overriddenIn, x]; done) | decide +kernel)
set_option maxRecDepth 65536 in
set_option maxHeartbeats 40000000 in
theorem law {Z : State} {a0 : Array Value} (hw : ∀ d ∈ tables_1, d.before a0 Z = true) (n p1 p2 p3 p4 : Int32) (h : Heap) (n0 : Nat) (Z0 : n0 ≤ h.size) :
    oCon Z x code maxLocals ret room_1 #[(.int n), (.int p1), (.int p2), (.int p3), (.int p4)] h n0 (fun v _ => v = some (.int 1)) := by
  refine oCon.of own_pn0 (fun m => own_ef0 m n p1 p2 p3 p4) ?_
  show oGo Z _ _ _ _ _ _ n0 _ 0 0 h 0 #[.val (.int n), .val (.int p1), .val (.int p2), .val (.int p3), .val (.int p4), .unset, .unset, .unset, .unset] []
  refine oGo.iconst (q := 1) (v := (1 : Int32)) at_0 rfl rfl ?_
  refine oGo.iloadN (q := 2) at_1 rfl rfl ?_
  refine oGo.iconst (q := 3) (v := (3 : Int32)) at_2 rfl rfl ?_
  refine oGo.iand (q := 4) at_3 rfl ?_
  refine oGo.iadd (q := 5) at_4 rfl ?_
  obtain ⟨kk, hkk, hk⟩ : ∃ kk : Int32, (1 : Int32) + (n &&& (3 : Int32)) = kk ∧ (kk = 1 ∨ kk = 2 ∨ kk = 3 ∨ kk = 4) := by
    have a1 := c_mask n (3 : Int32) 2 (by decide) (by decide)
    have p : ((2 ^ 2 : Nat) : Int) = 4 := by decide
    rw [p] at a1
    have a2 := c_iadd 1 (n &&& (3 : Int32))
    have z1 : (1 : Int32).toInt = 1 := by decide
    have z2 : (2 : Int32).toInt = 2 := by decide
    have z3 : (3 : Int32).toInt = 3 := by decide
    have z4 : (4 : Int32).toInt = 4 := by decide
    have r := rng32 ((1 : Int32) + (n &&& (3 : Int32)))
    refine ⟨_, rfl, ?_⟩
    rcases (show n.toInt % 4 = 0 ∨ n.toInt % 4 = 1 ∨ n.toInt % 4 = 2 ∨ n.toInt % 4 = 3 by omega) with u | u | u | u
    · exact Or.inl (own_int32 (by omega))
    · exact Or.inr (Or.inl (own_int32 (by omega)))
    · exact Or.inr (Or.inr (Or.inl (own_int32 (by omega))))
    · exact Or.inr (Or.inr (Or.inr (own_int32 (by omega))))
  rw [hkk]
  refine oGo.istore (q := 7) (L' := #[.val (.int n), .val (.int p1), .val (.int p2), .val (.int p3), .val (.int p4), .val (.int kk), .unset, .unset, .unset]) at_5 rfl rfl ?_
  refine oGo.newO (q := 10) at_7 rfl (hw _ (List.mem_of_getElem? (i := 0) rfl)) (hw _ (List.mem_of_getElem? (i := 1) rfl)) (hw _ (List.mem_of_getElem? (i := 2) rfl)) (by decide) (by decide) ?_
  intro h19 l g19 K19 E19 D19
  have ge_l : n0 ≤ l := Nat.le_trans Z0 (Nat.le_of_eq g19.symm)
  have Z0_ := Nat.le_trans Z0 K19.1
  have F19_values := D19 (Or.inl (hw _ (List.mem_of_getElem? (i := 11) rfl))) (ty := (.array .int)) (by decide)
  have F19_size := D19 (Or.inl (hw _ (List.mem_of_getElem? (i := 18) rfl))) (ty := .int) (by decide)
  show oGo Z _ _ _ _ _ _ n0 _ 1 2 h19 10 #[.val (.int n), .val (.int p1), .val (.int p2), .val (.int p3), .val (.int p4), .val (.int kk), .unset, .unset, .unset] [(.ref l)]
  refine oGo.dup (q := 11) at_10 rfl rfl ?_
  refine oGo.callI (W := 1) (rm := ({ frames := 1, cells := 1, slots := 2, locals := 14 } : Room)) (q := 14) (a := l) [] [(.ref l)] at_11 rfl rfl (hw _ (List.mem_of_getElem? (i := 3) rfl)) (hw _ (List.mem_of_getElem? (i := 4) rfl)) (hw _ (List.mem_of_getElem? (i := 2) rfl)) (hw _ (List.mem_of_getElem? (i := 5) rfl)) (by decide) (ci hw l h19 n0 Z0_ ge_l ⟨E19, F19_values, F19_size⟩) rfl rfl own_pd0 rfl rfl (Nat.le_of_eq rfl) (by decide) (by decide) (by decide) (by decide) ?_
  rintro _ h20 ⟨rfl, a, ga', K, O, A⟩
  show oGo Z _ _ _ _ _ _ n0 _ 2 4 h20 14 #[.val (.int n), .val (.int p1), .val (.int p2), .val (.int p3), .val (.int p4), .val (.int kk), .unset, .unset, .unset] [(.ref l)]
  have nal : a ≠ l := (Nat.ne_of_lt (Nat.lt_of_lt_of_le (E19.lt) ga')).symm
  have ga : n0 ≤ a := Nat.le_trans Z0_ ga'
  have gl : n0 ≤ l := ge_l
  have Zs := Nat.le_trans Z0_ K.1
  refine oGo.astore (q := 16) (L' := #[.val (.int n), .val (.int p1), .val (.int p2), .val (.int p3), .val (.int p4), .val (.int kk), .val (.ref l), .unset, .unset]) at_14 rfl rfl rfl ?_
  refine oGo.aload (q := 18) at_16 rfl rfl rfl ?_
  refine oGo.iloadN (q := 19) at_18 rfl rfl ?_
  refine oGo.callV (W := 0) (rm := ({ frames := 2, cells := 1, slots := 16, locals := 43 } : Room)) (q := 22) (a := l) [(.int p1)] [] at_19 rfl (hw _ (List.mem_of_getElem? (i := 12) rfl)) (hw _ (List.mem_of_getElem? (i := 13) rfl)) (hw _ (List.mem_of_getElem? (i := 15) rfl)) (hw _ (List.mem_of_getElem? (i := 14) rfl)) (hw _ (List.mem_of_getElem? (i := 2) rfl)) (hw _ (List.mem_of_getElem? (i := 16) rfl)) rfl (by decide) (O.1) (ca hw l p1 a 0 1 0 [.int (0 : Int32), .int (0 : Int32)] [.int p1, .int (0 : Int32)] h20 n0 gl ga nal O A rfl (Nat.le_of_ble_eq_true rfl) (Nat.le_of_ble_eq_true rfl) (by decide) rfl) rfl rfl own_pd1 rfl rfl (Nat.le_of_eq rfl) (by decide) (by decide) (by decide) (by decide) ?_
  rintro _ h21 ⟨rfl, K1, O1, A1⟩
  show oGo Z _ _ _ _ _ _ n0 _ 3 20 h21 22 #[.val (.int n), .val (.int p1), .val (.int p2), .val (.int p3), .val (.int p4), .val (.int kk), .val (.ref l), .unset, .unset] []
  have Zs1 := Nat.le_trans Zs K1.1
  refine oGo.iload (q := 24) at_22 rfl rfl ?_
  refine oGo.iconst (q := 25) (v := (2 : Int32)) at_24 rfl rfl ?_
  rcases hk with rfl | rfl | rfl | rfl
  · skip -- 1
    refine oGo.icmp_lt (q := 34) (r := 28) at_25 (by decide) rfl (fun hc => ?_) (fun hc => absurd hc (by decide))
    refine oGo.iload (q := 36) at_34 rfl rfl ?_
    refine oGo.iconst (q := 37) (v := (3 : Int32)) at_36 rfl rfl ?_
    refine oGo.icmp_lt (q := 46) (r := 40) at_37 (by decide) rfl (fun hc => ?_) (fun hc => absurd hc (by decide))
    refine oGo.iload (q := 48) at_46 rfl rfl ?_
    refine oGo.iconst (q := 49) (v := (4 : Int32)) at_48 rfl rfl ?_
    refine oGo.icmp_lt (q := 59) (r := 52) at_49 (by decide) rfl (fun hc => ?_) (fun hc => absurd hc (by decide))
    refine oGo.aload (q := 61) at_59 rfl rfl rfl ?_
    refine oGo.callV (W := 0) (rm := ({ frames := 0, cells := 0, slots := 0, locals := 0 } : Room)) (q := 64) (a := l) [] [] at_61 rfl (hw _ (List.mem_of_getElem? (i := 19) rfl)) (hw _ (List.mem_of_getElem? (i := 20) rfl)) (hw _ (List.mem_of_getElem? (i := 22) rfl)) (hw _ (List.mem_of_getElem? (i := 21) rfl)) (hw _ (List.mem_of_getElem? (i := 2) rfl)) (hw _ (List.mem_of_getElem? (i := 23) rfl)) rfl (by decide) (O1.1) (cn hw l a 1 p1 0 [.int p1, .int (0 : Int32)] [.int (p1 + (1 : Int32)), .int (0 : Int32)] h21 n0 ga nal O1 A1 (by decide) rfl rfl) rfl rfl own_pd0 rfl rfl (Nat.le_of_eq rfl) (by decide) (by decide) (by decide) (by decide) ?_
    rintro _ h22 ⟨rfl, K9, A9⟩
    show oGo Z _ _ _ _ _ _ n0 _ 3 20 h22 64 #[.val (.int n), .val (.int p1), .val (.int p2), .val (.int p3), .val (.int p4), .val (.int (1 : Int32)), .val (.ref l), .unset, .unset] []
    have O9 := own_il.keep O1 K9 (ninS nal.symm nin0)
    refine oGo.aload (q := 66) at_64 rfl rfl rfl ?_
    refine oGo.callV (W := 0) (rm := ({ frames := 0, cells := 0, slots := 0, locals := 0 } : Room)) (q := 69) (a := l) [] [] at_66 rfl (hw _ (List.mem_of_getElem? (i := 24) rfl)) (hw _ (List.mem_of_getElem? (i := 25) rfl)) (hw _ (List.mem_of_getElem? (i := 27) rfl)) (hw _ (List.mem_of_getElem? (i := 26) rfl)) (hw _ (List.mem_of_getElem? (i := 2) rfl)) (hw _ (List.mem_of_getElem? (i := 28) rfl)) rfl (by decide) (O9.1) (cs hw l (.ref a) 1 h22 n0 O9) rfl rfl own_pd2 rfl rfl (Nat.le_of_eq rfl) (by decide) (by decide) (by decide) (by decide) ?_
    rintro _ h23 ⟨rfl, eh⟩
    all_goals subst h23
    show oGo Z _ _ _ _ _ _ n0 _ 3 20 h22 69 #[.val (.int n), .val (.int p1), .val (.int p2), .val (.int p3), .val (.int p4), .val (.int (1 : Int32)), .val (.ref l), .unset, .unset] [(.int (1 : Int32))]
    refine oGo.iload (q := 71) at_69 rfl rfl ?_
    refine oGo.icmp_eq (q := 76) (r := 74) at_71 (by decide) rfl (fun hc => ?_) (fun hc => absurd rfl hc)
    refine oGo.iload (q := 78) at_76 rfl rfl ?_
    refine oGo.iconst (q := 79) (v := (1 : Int32)) at_78 rfl rfl ?_
    refine oGo.icmp_ne (q := 88) (r := 82) at_79 (by decide) rfl (fun hc => absurd rfl hc) (fun hc => ?_)
    refine oGo.iloadN (q := 83) at_82 rfl rfl ?_
    refine oGo.iconst (q := 84) (v := (1 : Int32)) at_83 rfl rfl ?_
    refine oGo.iadd (q := 85) at_84 rfl ?_
    refine oGo.goto (q := 89) at_85 (by decide) ?_
    refine oGo.istore (q := 91) (L' := #[.val (.int n), .val (.int p1), .val (.int p2), .val (.int p3), .val (.int p4), .val (.int (1 : Int32)), .val (.ref l), .val (.int (p1 + (1 : Int32))), .unset]) at_89 rfl rfl ?_
    refine oGo.aload (q := 93) at_91 rfl rfl rfl ?_
    refine oGo.iconst (q := 94) (v := (0 : Int32)) at_93 rfl rfl ?_
    refine oGo.callV (W := 0) (rm := ({ frames := 0, cells := 0, slots := 0, locals := 0 } : Room)) (q := 97) (a := l) [(.int (0 : Int32))] [] at_94 rfl (hw _ (List.mem_of_getElem? (i := 29) rfl)) (hw _ (List.mem_of_getElem? (i := 30) rfl)) (hw _ (List.mem_of_getElem? (i := 32) rfl)) (hw _ (List.mem_of_getElem? (i := 31) rfl)) (hw _ (List.mem_of_getElem? (i := 2) rfl)) (hw _ (List.mem_of_getElem? (i := 33) rfl)) rfl (by decide) (O9.1) (ct hw l (0 : Int32) a (.int 1) (p1 + (1 : Int32)) 0 [.int (p1 + (1 : Int32)), .int (0 : Int32)] h22 n0 O9 A9 rfl rfl) rfl rfl own_pd3 rfl rfl (Nat.le_of_eq rfl) (by decide) (by decide) (by decide) (by decide) ?_
    rintro _ h24 ⟨rfl, eh⟩
    all_goals subst h24
    show oGo Z _ _ _ _ _ _ n0 _ 3 20 h22 97 #[.val (.int n), .val (.int p1), .val (.int p2), .val (.int p3), .val (.int p4), .val (.int (1 : Int32)), .val (.ref l), .val (.int (p1 + (1 : Int32))), .unset] [(.int (p1 + (1 : Int32)))]
    refine oGo.iload (q := 99) at_97 rfl rfl ?_
    refine oGo.icmp_eq (q := 104) (r := 102) at_99 (by decide) rfl (fun hc => ?_) (fun hc => absurd rfl hc)
    refine oGo.iload (q := 106) at_104 rfl rfl ?_
    refine oGo.iconst (q := 107) (v := (2 : Int32)) at_106 rfl rfl ?_
    refine oGo.icmp_lt (q := 138) (r := 110) at_107 (by decide) rfl (fun hc => ?_) (fun hc => absurd hc (by decide))
    refine oGo.iload (q := 140) at_138 rfl rfl ?_
    refine oGo.iconst (q := 141) (v := (3 : Int32)) at_140 rfl rfl ?_
    refine oGo.icmp_lt (q := 172) (r := 144) at_141 (by decide) rfl (fun hc => ?_) (fun hc => absurd hc (by decide))
    refine oGo.iload (q := 174) at_172 rfl rfl ?_
    refine oGo.iconst (q := 175) (v := (4 : Int32)) at_174 rfl rfl ?_
    refine oGo.icmp_lt (q := 193) (r := 178) at_175 (by decide) rfl (fun hc => ?_) (fun hc => absurd hc (by decide))
    refine oGo.iconst (q := 194) (v := (1 : Int32)) at_193 rfl rfl ?_
    exact oGo.retN (t := .boolean) at_194 rfl (by simp) (by decide) (by decide) (rfl)
  · skip -- 2
    refine oGo.icmp_lt (q := 34) (r := 28) at_25 (by decide) rfl (fun hc => absurd hc (by decide)) (fun hc => ?_)
    refine oGo.aload (q := 30) at_28 rfl rfl rfl ?_
    refine oGo.iloadN (q := 31) at_30 rfl rfl ?_
    refine oGo.callV (W := 0) (rm := ({ frames := 2, cells := 1, slots := 16, locals := 43 } : Room)) (q := 34) (a := l) [(.int p2)] [] at_31 rfl (hw _ (List.mem_of_getElem? (i := 12) rfl)) (hw _ (List.mem_of_getElem? (i := 13) rfl)) (hw _ (List.mem_of_getElem? (i := 15) rfl)) (hw _ (List.mem_of_getElem? (i := 14) rfl)) (hw _ (List.mem_of_getElem? (i := 2) rfl)) (hw _ (List.mem_of_getElem? (i := 16) rfl)) rfl (by decide) (O1.1) (ca hw l p2 a 1 2 1 [.int p1, .int (0 : Int32)] [.int p1, .int p2] h21 n0 gl ga nal O1 A1 rfl (Nat.le_of_ble_eq_true rfl) (Nat.le_of_ble_eq_true rfl) (by decide) rfl) rfl rfl own_pd1 rfl rfl (Nat.le_of_eq rfl) (by decide) (by decide) (by decide) (by decide) ?_
    rintro _ h25 ⟨rfl, K2, O2, A2⟩
    show oGo Z _ _ _ _ _ _ n0 _ 4 36 h25 34 #[.val (.int n), .val (.int p1), .val (.int p2), .val (.int p3), .val (.int p4), .val (.int (2 : Int32)), .val (.ref l), .unset, .unset] []
    have Zs2 := Nat.le_trans Zs1 K2.1
    refine oGo.iload (q := 36) at_34 rfl rfl ?_
    refine oGo.iconst (q := 37) (v := (3 : Int32)) at_36 rfl rfl ?_
    refine oGo.icmp_lt (q := 46) (r := 40) at_37 (by decide) rfl (fun hc => ?_) (fun hc => absurd hc (by decide))
    refine oGo.iload (q := 48) at_46 rfl rfl ?_
    refine oGo.iconst (q := 49) (v := (4 : Int32)) at_48 rfl rfl ?_
    refine oGo.icmp_lt (q := 59) (r := 52) at_49 (by decide) rfl (fun hc => ?_) (fun hc => absurd hc (by decide))
    refine oGo.aload (q := 61) at_59 rfl rfl rfl ?_
    refine oGo.callV (W := 0) (rm := ({ frames := 0, cells := 0, slots := 0, locals := 0 } : Room)) (q := 64) (a := l) [] [] at_61 rfl (hw _ (List.mem_of_getElem? (i := 19) rfl)) (hw _ (List.mem_of_getElem? (i := 20) rfl)) (hw _ (List.mem_of_getElem? (i := 22) rfl)) (hw _ (List.mem_of_getElem? (i := 21) rfl)) (hw _ (List.mem_of_getElem? (i := 2) rfl)) (hw _ (List.mem_of_getElem? (i := 23) rfl)) rfl (by decide) (O2.1) (cn hw l a 2 p2 1 [.int p1, .int p2] [.int p1, .int (p2 + (1 : Int32))] h25 n0 ga nal O2 A2 (by decide) rfl rfl) rfl rfl own_pd0 rfl rfl (Nat.le_of_eq rfl) (by decide) (by decide) (by decide) (by decide) ?_
    rintro _ h26 ⟨rfl, K9, A9⟩
    show oGo Z _ _ _ _ _ _ n0 _ 4 36 h26 64 #[.val (.int n), .val (.int p1), .val (.int p2), .val (.int p3), .val (.int p4), .val (.int (2 : Int32)), .val (.ref l), .unset, .unset] []
    have O9 := own_il.keep O2 K9 (ninS nal.symm nin0)
    refine oGo.aload (q := 66) at_64 rfl rfl rfl ?_
    refine oGo.callV (W := 0) (rm := ({ frames := 0, cells := 0, slots := 0, locals := 0 } : Room)) (q := 69) (a := l) [] [] at_66 rfl (hw _ (List.mem_of_getElem? (i := 24) rfl)) (hw _ (List.mem_of_getElem? (i := 25) rfl)) (hw _ (List.mem_of_getElem? (i := 27) rfl)) (hw _ (List.mem_of_getElem? (i := 26) rfl)) (hw _ (List.mem_of_getElem? (i := 2) rfl)) (hw _ (List.mem_of_getElem? (i := 28) rfl)) rfl (by decide) (O9.1) (cs hw l (.ref a) 2 h26 n0 O9) rfl rfl own_pd2 rfl rfl (Nat.le_of_eq rfl) (by decide) (by decide) (by decide) (by decide) ?_
    rintro _ h27 ⟨rfl, eh⟩
    all_goals subst h27
    show oGo Z _ _ _ _ _ _ n0 _ 4 36 h26 69 #[.val (.int n), .val (.int p1), .val (.int p2), .val (.int p3), .val (.int p4), .val (.int (2 : Int32)), .val (.ref l), .unset, .unset] [(.int (2 : Int32))]
    refine oGo.iload (q := 71) at_69 rfl rfl ?_
    refine oGo.icmp_eq (q := 76) (r := 74) at_71 (by decide) rfl (fun hc => ?_) (fun hc => absurd rfl hc)
    refine oGo.iload (q := 78) at_76 rfl rfl ?_
    refine oGo.iconst (q := 79) (v := (1 : Int32)) at_78 rfl rfl ?_
    refine oGo.icmp_ne (q := 88) (r := 82) at_79 (by decide) rfl (fun hc => ?_) (fun hc => absurd hc (by decide))
    refine oGo.iloadN (q := 89) at_88 rfl rfl ?_
    refine oGo.istore (q := 91) (L' := #[.val (.int n), .val (.int p1), .val (.int p2), .val (.int p3), .val (.int p4), .val (.int (2 : Int32)), .val (.ref l), .val (.int p1), .unset]) at_89 rfl rfl ?_
    refine oGo.aload (q := 93) at_91 rfl rfl rfl ?_
    refine oGo.iconst (q := 94) (v := (0 : Int32)) at_93 rfl rfl ?_
    refine oGo.callV (W := 0) (rm := ({ frames := 0, cells := 0, slots := 0, locals := 0 } : Room)) (q := 97) (a := l) [(.int (0 : Int32))] [] at_94 rfl (hw _ (List.mem_of_getElem? (i := 29) rfl)) (hw _ (List.mem_of_getElem? (i := 30) rfl)) (hw _ (List.mem_of_getElem? (i := 32) rfl)) (hw _ (List.mem_of_getElem? (i := 31) rfl)) (hw _ (List.mem_of_getElem? (i := 2) rfl)) (hw _ (List.mem_of_getElem? (i := 33) rfl)) rfl (by decide) (O9.1) (ct hw l (0 : Int32) a (.int 2) p1 0 [.int p1, .int (p2 + (1 : Int32))] h26 n0 O9 A9 rfl rfl) rfl rfl own_pd3 rfl rfl (Nat.le_of_eq rfl) (by decide) (by decide) (by decide) (by decide) ?_
    rintro _ h28 ⟨rfl, eh⟩
    all_goals subst h28
    show oGo Z _ _ _ _ _ _ n0 _ 4 36 h26 97 #[.val (.int n), .val (.int p1), .val (.int p2), .val (.int p3), .val (.int p4), .val (.int (2 : Int32)), .val (.ref l), .val (.int p1), .unset] [(.int p1)]
    refine oGo.iload (q := 99) at_97 rfl rfl ?_
    refine oGo.icmp_eq (q := 104) (r := 102) at_99 (by decide) rfl (fun hc => ?_) (fun hc => absurd rfl hc)
    refine oGo.iload (q := 106) at_104 rfl rfl ?_
    refine oGo.iconst (q := 107) (v := (2 : Int32)) at_106 rfl rfl ?_
    refine oGo.icmp_lt (q := 138) (r := 110) at_107 (by decide) rfl (fun hc => absurd hc (by decide)) (fun hc => ?_)
    refine oGo.iload (q := 112) at_110 rfl rfl ?_
    refine oGo.iconst (q := 113) (v := (2 : Int32)) at_112 rfl rfl ?_
    refine oGo.icmp_ne (q := 122) (r := 116) at_113 (by decide) rfl (fun hc => absurd rfl hc) (fun hc => ?_)
    refine oGo.iloadN (q := 117) at_116 rfl rfl ?_
    refine oGo.iconst (q := 118) (v := (1 : Int32)) at_117 rfl rfl ?_
    refine oGo.iadd (q := 119) at_118 rfl ?_
    refine oGo.goto (q := 123) at_119 (by decide) ?_
    refine oGo.istore (q := 125) (L' := #[.val (.int n), .val (.int p1), .val (.int p2), .val (.int p3), .val (.int p4), .val (.int (2 : Int32)), .val (.ref l), .val (.int p1), .val (.int (p2 + (1 : Int32)))]) at_123 rfl rfl ?_
    refine oGo.aload (q := 127) at_125 rfl rfl rfl ?_
    refine oGo.iconst (q := 128) (v := (1 : Int32)) at_127 rfl rfl ?_
    refine oGo.callV (W := 0) (rm := ({ frames := 0, cells := 0, slots := 0, locals := 0 } : Room)) (q := 131) (a := l) [(.int (1 : Int32))] [] at_128 rfl (hw _ (List.mem_of_getElem? (i := 29) rfl)) (hw _ (List.mem_of_getElem? (i := 30) rfl)) (hw _ (List.mem_of_getElem? (i := 32) rfl)) (hw _ (List.mem_of_getElem? (i := 31) rfl)) (hw _ (List.mem_of_getElem? (i := 2) rfl)) (hw _ (List.mem_of_getElem? (i := 33) rfl)) rfl (by decide) (O9.1) (ct hw l (1 : Int32) a (.int 2) (p2 + (1 : Int32)) 1 [.int p1, .int (p2 + (1 : Int32))] h26 n0 O9 A9 rfl rfl) rfl rfl own_pd3 rfl rfl (Nat.le_of_eq rfl) (by decide) (by decide) (by decide) (by decide) ?_
    rintro _ h29 ⟨rfl, eh⟩
    all_goals subst h29
    show oGo Z _ _ _ _ _ _ n0 _ 4 36 h26 131 #[.val (.int n), .val (.int p1), .val (.int p2), .val (.int p3), .val (.int p4), .val (.int (2 : Int32)), .val (.ref l), .val (.int p1), .val (.int (p2 + (1 : Int32)))] [(.int (p2 + (1 : Int32)))]
    refine oGo.iload (q := 133) at_131 rfl rfl ?_
    refine oGo.icmp_eq (q := 138) (r := 136) at_133 (by decide) rfl (fun hc => ?_) (fun hc => absurd rfl hc)
    refine oGo.iload (q := 140) at_138 rfl rfl ?_
    refine oGo.iconst (q := 141) (v := (3 : Int32)) at_140 rfl rfl ?_
    refine oGo.icmp_lt (q := 172) (r := 144) at_141 (by decide) rfl (fun hc => ?_) (fun hc => absurd hc (by decide))
    refine oGo.iload (q := 174) at_172 rfl rfl ?_
    refine oGo.iconst (q := 175) (v := (4 : Int32)) at_174 rfl rfl ?_
    refine oGo.icmp_lt (q := 193) (r := 178) at_175 (by decide) rfl (fun hc => ?_) (fun hc => absurd hc (by decide))
    refine oGo.iconst (q := 194) (v := (1 : Int32)) at_193 rfl rfl ?_
    exact oGo.retN (t := .boolean) at_194 rfl (by simp) (by decide) (by decide) (rfl)
  · skip -- 3
    refine oGo.icmp_lt (q := 34) (r := 28) at_25 (by decide) rfl (fun hc => absurd hc (by decide)) (fun hc => ?_)
    refine oGo.aload (q := 30) at_28 rfl rfl rfl ?_
    refine oGo.iloadN (q := 31) at_30 rfl rfl ?_
    refine oGo.callV (W := 0) (rm := ({ frames := 2, cells := 1, slots := 16, locals := 43 } : Room)) (q := 34) (a := l) [(.int p2)] [] at_31 rfl (hw _ (List.mem_of_getElem? (i := 12) rfl)) (hw _ (List.mem_of_getElem? (i := 13) rfl)) (hw _ (List.mem_of_getElem? (i := 15) rfl)) (hw _ (List.mem_of_getElem? (i := 14) rfl)) (hw _ (List.mem_of_getElem? (i := 2) rfl)) (hw _ (List.mem_of_getElem? (i := 16) rfl)) rfl (by decide) (O1.1) (ca hw l p2 a 1 2 1 [.int p1, .int (0 : Int32)] [.int p1, .int p2] h21 n0 gl ga nal O1 A1 rfl (Nat.le_of_ble_eq_true rfl) (Nat.le_of_ble_eq_true rfl) (by decide) rfl) rfl rfl own_pd1 rfl rfl (Nat.le_of_eq rfl) (by decide) (by decide) (by decide) (by decide) ?_
    rintro _ h30 ⟨rfl, K2, O2, A2⟩
    show oGo Z _ _ _ _ _ _ n0 _ 4 36 h30 34 #[.val (.int n), .val (.int p1), .val (.int p2), .val (.int p3), .val (.int p4), .val (.int (3 : Int32)), .val (.ref l), .unset, .unset] []
    have Zs2 := Nat.le_trans Zs1 K2.1
    refine oGo.iload (q := 36) at_34 rfl rfl ?_
    refine oGo.iconst (q := 37) (v := (3 : Int32)) at_36 rfl rfl ?_
    refine oGo.icmp_lt (q := 46) (r := 40) at_37 (by decide) rfl (fun hc => absurd hc (by decide)) (fun hc => ?_)
    refine oGo.aload (q := 42) at_40 rfl rfl rfl ?_
    refine oGo.iloadN (q := 43) at_42 rfl rfl ?_
    refine oGo.callV (W := 0) (rm := ({ frames := 2, cells := 1, slots := 16, locals := 43 } : Room)) (q := 46) (a := l) [(.int p3)] [] at_43 rfl (hw _ (List.mem_of_getElem? (i := 12) rfl)) (hw _ (List.mem_of_getElem? (i := 13) rfl)) (hw _ (List.mem_of_getElem? (i := 15) rfl)) (hw _ (List.mem_of_getElem? (i := 14) rfl)) (hw _ (List.mem_of_getElem? (i := 2) rfl)) (hw _ (List.mem_of_getElem? (i := 16) rfl)) rfl (by decide) (O2.1) (cg hw l p3 a p1 p2 h30 n0 Zs2 gl nal O2 A2) rfl rfl own_pd1 rfl rfl (Nat.le_of_eq rfl) (by decide) (by decide) (by decide) (by decide) ?_
    rintro _ h31 ⟨rfl, b, gb, K3, O3, A3⟩
    show oGo Z _ _ _ _ _ _ n0 _ 5 52 h31 46 #[.val (.int n), .val (.int p1), .val (.int p2), .val (.int p3), .val (.int p4), .val (.int (3 : Int32)), .val (.ref l), .unset, .unset] []
    have nbl : b ≠ l := (Nat.ne_of_lt (Nat.lt_of_lt_of_le O2.1.lt gb)).symm
    have geb : n0 ≤ b := Nat.le_trans Zs2 gb
    have Zs3 := Nat.le_trans Zs2 K3.1
    refine oGo.iload (q := 48) at_46 rfl rfl ?_
    refine oGo.iconst (q := 49) (v := (4 : Int32)) at_48 rfl rfl ?_
    refine oGo.icmp_lt (q := 59) (r := 52) at_49 (by decide) rfl (fun hc => ?_) (fun hc => absurd hc (by decide))
    refine oGo.aload (q := 61) at_59 rfl rfl rfl ?_
    refine oGo.callV (W := 0) (rm := ({ frames := 0, cells := 0, slots := 0, locals := 0 } : Room)) (q := 64) (a := l) [] [] at_61 rfl (hw _ (List.mem_of_getElem? (i := 19) rfl)) (hw _ (List.mem_of_getElem? (i := 20) rfl)) (hw _ (List.mem_of_getElem? (i := 22) rfl)) (hw _ (List.mem_of_getElem? (i := 21) rfl)) (hw _ (List.mem_of_getElem? (i := 2) rfl)) (hw _ (List.mem_of_getElem? (i := 23) rfl)) rfl (by decide) (O3.1) (cn hw l b 3 p3 2 [.int p1, .int p2, .int p3, .int 0, .int 0] [.int p1, .int p2, .int (p3 + (1 : Int32)), .int 0, .int 0] h31 n0 geb nbl O3 A3 (by decide) rfl rfl) rfl rfl own_pd0 rfl rfl (Nat.le_of_eq rfl) (by decide) (by decide) (by decide) (by decide) ?_
    rintro _ h32 ⟨rfl, K9, A9⟩
    show oGo Z _ _ _ _ _ _ n0 _ 5 52 h32 64 #[.val (.int n), .val (.int p1), .val (.int p2), .val (.int p3), .val (.int p4), .val (.int (3 : Int32)), .val (.ref l), .unset, .unset] []
    have O9 := own_il.keep O3 K9 (ninS nbl.symm nin0)
    refine oGo.aload (q := 66) at_64 rfl rfl rfl ?_
    refine oGo.callV (W := 0) (rm := ({ frames := 0, cells := 0, slots := 0, locals := 0 } : Room)) (q := 69) (a := l) [] [] at_66 rfl (hw _ (List.mem_of_getElem? (i := 24) rfl)) (hw _ (List.mem_of_getElem? (i := 25) rfl)) (hw _ (List.mem_of_getElem? (i := 27) rfl)) (hw _ (List.mem_of_getElem? (i := 26) rfl)) (hw _ (List.mem_of_getElem? (i := 2) rfl)) (hw _ (List.mem_of_getElem? (i := 28) rfl)) rfl (by decide) (O9.1) (cs hw l (.ref b) 3 h32 n0 O9) rfl rfl own_pd2 rfl rfl (Nat.le_of_eq rfl) (by decide) (by decide) (by decide) (by decide) ?_
    rintro _ h33 ⟨rfl, eh⟩
    all_goals subst h33
    show oGo Z _ _ _ _ _ _ n0 _ 5 52 h32 69 #[.val (.int n), .val (.int p1), .val (.int p2), .val (.int p3), .val (.int p4), .val (.int (3 : Int32)), .val (.ref l), .unset, .unset] [(.int (3 : Int32))]
    refine oGo.iload (q := 71) at_69 rfl rfl ?_
    refine oGo.icmp_eq (q := 76) (r := 74) at_71 (by decide) rfl (fun hc => ?_) (fun hc => absurd rfl hc)
    refine oGo.iload (q := 78) at_76 rfl rfl ?_
    refine oGo.iconst (q := 79) (v := (1 : Int32)) at_78 rfl rfl ?_
    refine oGo.icmp_ne (q := 88) (r := 82) at_79 (by decide) rfl (fun hc => ?_) (fun hc => absurd hc (by decide))
    refine oGo.iloadN (q := 89) at_88 rfl rfl ?_
    refine oGo.istore (q := 91) (L' := #[.val (.int n), .val (.int p1), .val (.int p2), .val (.int p3), .val (.int p4), .val (.int (3 : Int32)), .val (.ref l), .val (.int p1), .unset]) at_89 rfl rfl ?_
    refine oGo.aload (q := 93) at_91 rfl rfl rfl ?_
    refine oGo.iconst (q := 94) (v := (0 : Int32)) at_93 rfl rfl ?_
    refine oGo.callV (W := 0) (rm := ({ frames := 0, cells := 0, slots := 0, locals := 0 } : Room)) (q := 97) (a := l) [(.int (0 : Int32))] [] at_94 rfl (hw _ (List.mem_of_getElem? (i := 29) rfl)) (hw _ (List.mem_of_getElem? (i := 30) rfl)) (hw _ (List.mem_of_getElem? (i := 32) rfl)) (hw _ (List.mem_of_getElem? (i := 31) rfl)) (hw _ (List.mem_of_getElem? (i := 2) rfl)) (hw _ (List.mem_of_getElem? (i := 33) rfl)) rfl (by decide) (O9.1) (ct hw l (0 : Int32) b (.int 3) p1 0 [.int p1, .int p2, .int (p3 + (1 : Int32)), .int 0, .int 0] h32 n0 O9 A9 rfl rfl) rfl rfl own_pd3 rfl rfl (Nat.le_of_eq rfl) (by decide) (by decide) (by decide) (by decide) ?_
    rintro _ h34 ⟨rfl, eh⟩
    all_goals subst h34
    show oGo Z _ _ _ _ _ _ n0 _ 5 52 h32 97 #[.val (.int n), .val (.int p1), .val (.int p2), .val (.int p3), .val (.int p4), .val (.int (3 : Int32)), .val (.ref l), .val (.int p1), .unset] [(.int p1)]
    refine oGo.iload (q := 99) at_97 rfl rfl ?_
    refine oGo.icmp_eq (q := 104) (r := 102) at_99 (by decide) rfl (fun hc => ?_) (fun hc => absurd rfl hc)
    refine oGo.iload (q := 106) at_104 rfl rfl ?_
    refine oGo.iconst (q := 107) (v := (2 : Int32)) at_106 rfl rfl ?_
    refine oGo.icmp_lt (q := 138) (r := 110) at_107 (by decide) rfl (fun hc => absurd hc (by decide)) (fun hc => ?_)
    refine oGo.iload (q := 112) at_110 rfl rfl ?_
    refine oGo.iconst (q := 113) (v := (2 : Int32)) at_112 rfl rfl ?_
    refine oGo.icmp_ne (q := 122) (r := 116) at_113 (by decide) rfl (fun hc => ?_) (fun hc => absurd hc (by decide))
    refine oGo.iloadN (q := 123) at_122 rfl rfl ?_
    refine oGo.istore (q := 125) (L' := #[.val (.int n), .val (.int p1), .val (.int p2), .val (.int p3), .val (.int p4), .val (.int (3 : Int32)), .val (.ref l), .val (.int p1), .val (.int p2)]) at_123 rfl rfl ?_
    refine oGo.aload (q := 127) at_125 rfl rfl rfl ?_
    refine oGo.iconst (q := 128) (v := (1 : Int32)) at_127 rfl rfl ?_
    refine oGo.callV (W := 0) (rm := ({ frames := 0, cells := 0, slots := 0, locals := 0 } : Room)) (q := 131) (a := l) [(.int (1 : Int32))] [] at_128 rfl (hw _ (List.mem_of_getElem? (i := 29) rfl)) (hw _ (List.mem_of_getElem? (i := 30) rfl)) (hw _ (List.mem_of_getElem? (i := 32) rfl)) (hw _ (List.mem_of_getElem? (i := 31) rfl)) (hw _ (List.mem_of_getElem? (i := 2) rfl)) (hw _ (List.mem_of_getElem? (i := 33) rfl)) rfl (by decide) (O9.1) (ct hw l (1 : Int32) b (.int 3) p2 1 [.int p1, .int p2, .int (p3 + (1 : Int32)), .int 0, .int 0] h32 n0 O9 A9 rfl rfl) rfl rfl own_pd3 rfl rfl (Nat.le_of_eq rfl) (by decide) (by decide) (by decide) (by decide) ?_
    rintro _ h35 ⟨rfl, eh⟩
    all_goals subst h35
    show oGo Z _ _ _ _ _ _ n0 _ 5 52 h32 131 #[.val (.int n), .val (.int p1), .val (.int p2), .val (.int p3), .val (.int p4), .val (.int (3 : Int32)), .val (.ref l), .val (.int p1), .val (.int p2)] [(.int p2)]
    refine oGo.iload (q := 133) at_131 rfl rfl ?_
    refine oGo.icmp_eq (q := 138) (r := 136) at_133 (by decide) rfl (fun hc => ?_) (fun hc => absurd rfl hc)
    refine oGo.iload (q := 140) at_138 rfl rfl ?_
    refine oGo.iconst (q := 141) (v := (3 : Int32)) at_140 rfl rfl ?_
    refine oGo.icmp_lt (q := 172) (r := 144) at_141 (by decide) rfl (fun hc => absurd hc (by decide)) (fun hc => ?_)
    refine oGo.iload (q := 146) at_144 rfl rfl ?_
    refine oGo.iconst (q := 147) (v := (3 : Int32)) at_146 rfl rfl ?_
    refine oGo.icmp_ne (q := 156) (r := 150) at_147 (by decide) rfl (fun hc => absurd rfl hc) (fun hc => ?_)
    refine oGo.iloadN (q := 151) at_150 rfl rfl ?_
    refine oGo.iconst (q := 152) (v := (1 : Int32)) at_151 rfl rfl ?_
    refine oGo.iadd (q := 153) at_152 rfl ?_
    refine oGo.goto (q := 157) at_153 (by decide) ?_
    refine oGo.istore (q := 159) (L' := #[.val (.int n), .val (.int p1), .val (.int p2), .val (.int p3), .val (.int p4), .val (.int (3 : Int32)), .val (.ref l), .val (.int p1), .val (.int (p3 + (1 : Int32)))]) at_157 rfl rfl ?_
    refine oGo.aload (q := 161) at_159 rfl rfl rfl ?_
    refine oGo.iconst (q := 162) (v := (2 : Int32)) at_161 rfl rfl ?_
    refine oGo.callV (W := 0) (rm := ({ frames := 0, cells := 0, slots := 0, locals := 0 } : Room)) (q := 165) (a := l) [(.int (2 : Int32))] [] at_162 rfl (hw _ (List.mem_of_getElem? (i := 29) rfl)) (hw _ (List.mem_of_getElem? (i := 30) rfl)) (hw _ (List.mem_of_getElem? (i := 32) rfl)) (hw _ (List.mem_of_getElem? (i := 31) rfl)) (hw _ (List.mem_of_getElem? (i := 2) rfl)) (hw _ (List.mem_of_getElem? (i := 33) rfl)) rfl (by decide) (O9.1) (ct hw l (2 : Int32) b (.int 3) (p3 + (1 : Int32)) 2 [.int p1, .int p2, .int (p3 + (1 : Int32)), .int 0, .int 0] h32 n0 O9 A9 rfl rfl) rfl rfl own_pd3 rfl rfl (Nat.le_of_eq rfl) (by decide) (by decide) (by decide) (by decide) ?_
    rintro _ h36 ⟨rfl, eh⟩
    all_goals subst h36
    show oGo Z _ _ _ _ _ _ n0 _ 5 52 h32 165 #[.val (.int n), .val (.int p1), .val (.int p2), .val (.int p3), .val (.int p4), .val (.int (3 : Int32)), .val (.ref l), .val (.int p1), .val (.int (p3 + (1 : Int32)))] [(.int (p3 + (1 : Int32)))]
    refine oGo.iload (q := 167) at_165 rfl rfl ?_
    refine oGo.icmp_eq (q := 172) (r := 170) at_167 (by decide) rfl (fun hc => ?_) (fun hc => absurd rfl hc)
    refine oGo.iload (q := 174) at_172 rfl rfl ?_
    refine oGo.iconst (q := 175) (v := (4 : Int32)) at_174 rfl rfl ?_
    refine oGo.icmp_lt (q := 193) (r := 178) at_175 (by decide) rfl (fun hc => ?_) (fun hc => absurd hc (by decide))
    refine oGo.iconst (q := 194) (v := (1 : Int32)) at_193 rfl rfl ?_
    exact oGo.retN (t := .boolean) at_194 rfl (by simp) (by decide) (by decide) (rfl)
  · skip -- 4
    refine oGo.icmp_lt (q := 34) (r := 28) at_25 (by decide) rfl (fun hc => absurd hc (by decide)) (fun hc => ?_)
    refine oGo.aload (q := 30) at_28 rfl rfl rfl ?_
    refine oGo.iloadN (q := 31) at_30 rfl rfl ?_
    refine oGo.callV (W := 0) (rm := ({ frames := 2, cells := 1, slots := 16, locals := 43 } : Room)) (q := 34) (a := l) [(.int p2)] [] at_31 rfl (hw _ (List.mem_of_getElem? (i := 12) rfl)) (hw _ (List.mem_of_getElem? (i := 13) rfl)) (hw _ (List.mem_of_getElem? (i := 15) rfl)) (hw _ (List.mem_of_getElem? (i := 14) rfl)) (hw _ (List.mem_of_getElem? (i := 2) rfl)) (hw _ (List.mem_of_getElem? (i := 16) rfl)) rfl (by decide) (O1.1) (ca hw l p2 a 1 2 1 [.int p1, .int (0 : Int32)] [.int p1, .int p2] h21 n0 gl ga nal O1 A1 rfl (Nat.le_of_ble_eq_true rfl) (Nat.le_of_ble_eq_true rfl) (by decide) rfl) rfl rfl own_pd1 rfl rfl (Nat.le_of_eq rfl) (by decide) (by decide) (by decide) (by decide) ?_
    rintro _ h37 ⟨rfl, K2, O2, A2⟩
    show oGo Z _ _ _ _ _ _ n0 _ 4 36 h37 34 #[.val (.int n), .val (.int p1), .val (.int p2), .val (.int p3), .val (.int p4), .val (.int (4 : Int32)), .val (.ref l), .unset, .unset] []
    have Zs2 := Nat.le_trans Zs1 K2.1
    refine oGo.iload (q := 36) at_34 rfl rfl ?_
    refine oGo.iconst (q := 37) (v := (3 : Int32)) at_36 rfl rfl ?_
    refine oGo.icmp_lt (q := 46) (r := 40) at_37 (by decide) rfl (fun hc => absurd hc (by decide)) (fun hc => ?_)
    refine oGo.aload (q := 42) at_40 rfl rfl rfl ?_
    refine oGo.iloadN (q := 43) at_42 rfl rfl ?_
    refine oGo.callV (W := 0) (rm := ({ frames := 2, cells := 1, slots := 16, locals := 43 } : Room)) (q := 46) (a := l) [(.int p3)] [] at_43 rfl (hw _ (List.mem_of_getElem? (i := 12) rfl)) (hw _ (List.mem_of_getElem? (i := 13) rfl)) (hw _ (List.mem_of_getElem? (i := 15) rfl)) (hw _ (List.mem_of_getElem? (i := 14) rfl)) (hw _ (List.mem_of_getElem? (i := 2) rfl)) (hw _ (List.mem_of_getElem? (i := 16) rfl)) rfl (by decide) (O2.1) (cg hw l p3 a p1 p2 h37 n0 Zs2 gl nal O2 A2) rfl rfl own_pd1 rfl rfl (Nat.le_of_eq rfl) (by decide) (by decide) (by decide) (by decide) ?_
    rintro _ h38 ⟨rfl, b, gb, K3, O3, A3⟩
    show oGo Z _ _ _ _ _ _ n0 _ 5 52 h38 46 #[.val (.int n), .val (.int p1), .val (.int p2), .val (.int p3), .val (.int p4), .val (.int (4 : Int32)), .val (.ref l), .unset, .unset] []
    have nbl : b ≠ l := (Nat.ne_of_lt (Nat.lt_of_lt_of_le O2.1.lt gb)).symm
    have geb : n0 ≤ b := Nat.le_trans Zs2 gb
    have Zs3 := Nat.le_trans Zs2 K3.1
    refine oGo.iload (q := 48) at_46 rfl rfl ?_
    refine oGo.iconst (q := 49) (v := (4 : Int32)) at_48 rfl rfl ?_
    refine oGo.icmp_lt (q := 59) (r := 52) at_49 (by decide) rfl (fun hc => absurd hc (by decide)) (fun hc => ?_)
    refine oGo.aload (q := 54) at_52 rfl rfl rfl ?_
    refine oGo.iload (q := 56) at_54 rfl rfl ?_
    refine oGo.callV (W := 0) (rm := ({ frames := 2, cells := 1, slots := 16, locals := 43 } : Room)) (q := 59) (a := l) [(.int p4)] [] at_56 rfl (hw _ (List.mem_of_getElem? (i := 12) rfl)) (hw _ (List.mem_of_getElem? (i := 13) rfl)) (hw _ (List.mem_of_getElem? (i := 15) rfl)) (hw _ (List.mem_of_getElem? (i := 14) rfl)) (hw _ (List.mem_of_getElem? (i := 2) rfl)) (hw _ (List.mem_of_getElem? (i := 16) rfl)) rfl (by decide) (O3.1) (ca hw l p4 b 3 4 3 [.int p1, .int p2, .int p3, .int 0, .int 0] [.int p1, .int p2, .int p3, .int p4, .int 0] h38 n0 gl geb nbl O3 A3 rfl (Nat.le_of_ble_eq_true rfl) (Nat.le_of_ble_eq_true rfl) (by decide) rfl) rfl rfl own_pd1 rfl rfl (Nat.le_of_eq rfl) (by decide) (by decide) (by decide) (by decide) ?_
    rintro _ h39 ⟨rfl, K4, O4, A4⟩
    show oGo Z _ _ _ _ _ _ n0 _ 6 68 h39 59 #[.val (.int n), .val (.int p1), .val (.int p2), .val (.int p3), .val (.int p4), .val (.int (4 : Int32)), .val (.ref l), .unset, .unset] []
    have Zs4 := Nat.le_trans Zs3 K4.1
    refine oGo.aload (q := 61) at_59 rfl rfl rfl ?_
    refine oGo.callV (W := 0) (rm := ({ frames := 0, cells := 0, slots := 0, locals := 0 } : Room)) (q := 64) (a := l) [] [] at_61 rfl (hw _ (List.mem_of_getElem? (i := 19) rfl)) (hw _ (List.mem_of_getElem? (i := 20) rfl)) (hw _ (List.mem_of_getElem? (i := 22) rfl)) (hw _ (List.mem_of_getElem? (i := 21) rfl)) (hw _ (List.mem_of_getElem? (i := 2) rfl)) (hw _ (List.mem_of_getElem? (i := 23) rfl)) rfl (by decide) (O4.1) (cn hw l b 4 p4 3 [.int p1, .int p2, .int p3, .int p4, .int 0] [.int p1, .int p2, .int p3, .int (p4 + (1 : Int32)), .int 0] h39 n0 geb nbl O4 A4 (by decide) rfl rfl) rfl rfl own_pd0 rfl rfl (Nat.le_of_eq rfl) (by decide) (by decide) (by decide) (by decide) ?_
    rintro _ h40 ⟨rfl, K9, A9⟩
    show oGo Z _ _ _ _ _ _ n0 _ 6 68 h40 64 #[.val (.int n), .val (.int p1), .val (.int p2), .val (.int p3), .val (.int p4), .val (.int (4 : Int32)), .val (.ref l), .unset, .unset] []
    have O9 := own_il.keep O4 K9 (ninS nbl.symm nin0)
    refine oGo.aload (q := 66) at_64 rfl rfl rfl ?_
    refine oGo.callV (W := 0) (rm := ({ frames := 0, cells := 0, slots := 0, locals := 0 } : Room)) (q := 69) (a := l) [] [] at_66 rfl (hw _ (List.mem_of_getElem? (i := 24) rfl)) (hw _ (List.mem_of_getElem? (i := 25) rfl)) (hw _ (List.mem_of_getElem? (i := 27) rfl)) (hw _ (List.mem_of_getElem? (i := 26) rfl)) (hw _ (List.mem_of_getElem? (i := 2) rfl)) (hw _ (List.mem_of_getElem? (i := 28) rfl)) rfl (by decide) (O9.1) (cs hw l (.ref b) 4 h40 n0 O9) rfl rfl own_pd2 rfl rfl (Nat.le_of_eq rfl) (by decide) (by decide) (by decide) (by decide) ?_
    rintro _ h41 ⟨rfl, eh⟩
    all_goals subst h41
    show oGo Z _ _ _ _ _ _ n0 _ 6 68 h40 69 #[.val (.int n), .val (.int p1), .val (.int p2), .val (.int p3), .val (.int p4), .val (.int (4 : Int32)), .val (.ref l), .unset, .unset] [(.int (4 : Int32))]
    refine oGo.iload (q := 71) at_69 rfl rfl ?_
    refine oGo.icmp_eq (q := 76) (r := 74) at_71 (by decide) rfl (fun hc => ?_) (fun hc => absurd rfl hc)
    refine oGo.iload (q := 78) at_76 rfl rfl ?_
    refine oGo.iconst (q := 79) (v := (1 : Int32)) at_78 rfl rfl ?_
    refine oGo.icmp_ne (q := 88) (r := 82) at_79 (by decide) rfl (fun hc => ?_) (fun hc => absurd hc (by decide))
    refine oGo.iloadN (q := 89) at_88 rfl rfl ?_
    refine oGo.istore (q := 91) (L' := #[.val (.int n), .val (.int p1), .val (.int p2), .val (.int p3), .val (.int p4), .val (.int (4 : Int32)), .val (.ref l), .val (.int p1), .unset]) at_89 rfl rfl ?_
    refine oGo.aload (q := 93) at_91 rfl rfl rfl ?_
    refine oGo.iconst (q := 94) (v := (0 : Int32)) at_93 rfl rfl ?_
    refine oGo.callV (W := 0) (rm := ({ frames := 0, cells := 0, slots := 0, locals := 0 } : Room)) (q := 97) (a := l) [(.int (0 : Int32))] [] at_94 rfl (hw _ (List.mem_of_getElem? (i := 29) rfl)) (hw _ (List.mem_of_getElem? (i := 30) rfl)) (hw _ (List.mem_of_getElem? (i := 32) rfl)) (hw _ (List.mem_of_getElem? (i := 31) rfl)) (hw _ (List.mem_of_getElem? (i := 2) rfl)) (hw _ (List.mem_of_getElem? (i := 33) rfl)) rfl (by decide) (O9.1) (ct hw l (0 : Int32) b (.int 4) p1 0 [.int p1, .int p2, .int p3, .int (p4 + (1 : Int32)), .int 0] h40 n0 O9 A9 rfl rfl) rfl rfl own_pd3 rfl rfl (Nat.le_of_eq rfl) (by decide) (by decide) (by decide) (by decide) ?_
    rintro _ h42 ⟨rfl, eh⟩
    all_goals subst h42
    show oGo Z _ _ _ _ _ _ n0 _ 6 68 h40 97 #[.val (.int n), .val (.int p1), .val (.int p2), .val (.int p3), .val (.int p4), .val (.int (4 : Int32)), .val (.ref l), .val (.int p1), .unset] [(.int p1)]
    refine oGo.iload (q := 99) at_97 rfl rfl ?_
    refine oGo.icmp_eq (q := 104) (r := 102) at_99 (by decide) rfl (fun hc => ?_) (fun hc => absurd rfl hc)
    refine oGo.iload (q := 106) at_104 rfl rfl ?_
    refine oGo.iconst (q := 107) (v := (2 : Int32)) at_106 rfl rfl ?_
    refine oGo.icmp_lt (q := 138) (r := 110) at_107 (by decide) rfl (fun hc => absurd hc (by decide)) (fun hc => ?_)
    refine oGo.iload (q := 112) at_110 rfl rfl ?_
    refine oGo.iconst (q := 113) (v := (2 : Int32)) at_112 rfl rfl ?_
    refine oGo.icmp_ne (q := 122) (r := 116) at_113 (by decide) rfl (fun hc => ?_) (fun hc => absurd hc (by decide))
    refine oGo.iloadN (q := 123) at_122 rfl rfl ?_
    refine oGo.istore (q := 125) (L' := #[.val (.int n), .val (.int p1), .val (.int p2), .val (.int p3), .val (.int p4), .val (.int (4 : Int32)), .val (.ref l), .val (.int p1), .val (.int p2)]) at_123 rfl rfl ?_
    refine oGo.aload (q := 127) at_125 rfl rfl rfl ?_
    refine oGo.iconst (q := 128) (v := (1 : Int32)) at_127 rfl rfl ?_
    refine oGo.callV (W := 0) (rm := ({ frames := 0, cells := 0, slots := 0, locals := 0 } : Room)) (q := 131) (a := l) [(.int (1 : Int32))] [] at_128 rfl (hw _ (List.mem_of_getElem? (i := 29) rfl)) (hw _ (List.mem_of_getElem? (i := 30) rfl)) (hw _ (List.mem_of_getElem? (i := 32) rfl)) (hw _ (List.mem_of_getElem? (i := 31) rfl)) (hw _ (List.mem_of_getElem? (i := 2) rfl)) (hw _ (List.mem_of_getElem? (i := 33) rfl)) rfl (by decide) (O9.1) (ct hw l (1 : Int32) b (.int 4) p2 1 [.int p1, .int p2, .int p3, .int (p4 + (1 : Int32)), .int 0] h40 n0 O9 A9 rfl rfl) rfl rfl own_pd3 rfl rfl (Nat.le_of_eq rfl) (by decide) (by decide) (by decide) (by decide) ?_
    rintro _ h43 ⟨rfl, eh⟩
    all_goals subst h43
    show oGo Z _ _ _ _ _ _ n0 _ 6 68 h40 131 #[.val (.int n), .val (.int p1), .val (.int p2), .val (.int p3), .val (.int p4), .val (.int (4 : Int32)), .val (.ref l), .val (.int p1), .val (.int p2)] [(.int p2)]
    refine oGo.iload (q := 133) at_131 rfl rfl ?_
    refine oGo.icmp_eq (q := 138) (r := 136) at_133 (by decide) rfl (fun hc => ?_) (fun hc => absurd rfl hc)
    refine oGo.iload (q := 140) at_138 rfl rfl ?_
    refine oGo.iconst (q := 141) (v := (3 : Int32)) at_140 rfl rfl ?_
    refine oGo.icmp_lt (q := 172) (r := 144) at_141 (by decide) rfl (fun hc => absurd hc (by decide)) (fun hc => ?_)
    refine oGo.iload (q := 146) at_144 rfl rfl ?_
    refine oGo.iconst (q := 147) (v := (3 : Int32)) at_146 rfl rfl ?_
    refine oGo.icmp_ne (q := 156) (r := 150) at_147 (by decide) rfl (fun hc => ?_) (fun hc => absurd hc (by decide))
    refine oGo.iloadN (q := 157) at_156 rfl rfl ?_
    refine oGo.istore (q := 159) (L' := #[.val (.int n), .val (.int p1), .val (.int p2), .val (.int p3), .val (.int p4), .val (.int (4 : Int32)), .val (.ref l), .val (.int p1), .val (.int p3)]) at_157 rfl rfl ?_
    refine oGo.aload (q := 161) at_159 rfl rfl rfl ?_
    refine oGo.iconst (q := 162) (v := (2 : Int32)) at_161 rfl rfl ?_
    refine oGo.callV (W := 0) (rm := ({ frames := 0, cells := 0, slots := 0, locals := 0 } : Room)) (q := 165) (a := l) [(.int (2 : Int32))] [] at_162 rfl (hw _ (List.mem_of_getElem? (i := 29) rfl)) (hw _ (List.mem_of_getElem? (i := 30) rfl)) (hw _ (List.mem_of_getElem? (i := 32) rfl)) (hw _ (List.mem_of_getElem? (i := 31) rfl)) (hw _ (List.mem_of_getElem? (i := 2) rfl)) (hw _ (List.mem_of_getElem? (i := 33) rfl)) rfl (by decide) (O9.1) (ct hw l (2 : Int32) b (.int 4) p3 2 [.int p1, .int p2, .int p3, .int (p4 + (1 : Int32)), .int 0] h40 n0 O9 A9 rfl rfl) rfl rfl own_pd3 rfl rfl (Nat.le_of_eq rfl) (by decide) (by decide) (by decide) (by decide) ?_
    rintro _ h44 ⟨rfl, eh⟩
    all_goals subst h44
    show oGo Z _ _ _ _ _ _ n0 _ 6 68 h40 165 #[.val (.int n), .val (.int p1), .val (.int p2), .val (.int p3), .val (.int p4), .val (.int (4 : Int32)), .val (.ref l), .val (.int p1), .val (.int p3)] [(.int p3)]
    refine oGo.iload (q := 167) at_165 rfl rfl ?_
    refine oGo.icmp_eq (q := 172) (r := 170) at_167 (by decide) rfl (fun hc => ?_) (fun hc => absurd rfl hc)
    refine oGo.iload (q := 174) at_172 rfl rfl ?_
    refine oGo.iconst (q := 175) (v := (4 : Int32)) at_174 rfl rfl ?_
    refine oGo.icmp_lt (q := 193) (r := 178) at_175 (by decide) rfl (fun hc => absurd hc (by decide)) (fun hc => ?_)
    refine oGo.aload (q := 180) at_178 rfl rfl rfl ?_
    refine oGo.iconst (q := 181) (v := (3 : Int32)) at_180 rfl rfl ?_
    refine oGo.callV (W := 0) (rm := ({ frames := 0, cells := 0, slots := 0, locals := 0 } : Room)) (q := 184) (a := l) [(.int (3 : Int32))] [] at_181 rfl (hw _ (List.mem_of_getElem? (i := 29) rfl)) (hw _ (List.mem_of_getElem? (i := 30) rfl)) (hw _ (List.mem_of_getElem? (i := 32) rfl)) (hw _ (List.mem_of_getElem? (i := 31) rfl)) (hw _ (List.mem_of_getElem? (i := 2) rfl)) (hw _ (List.mem_of_getElem? (i := 33) rfl)) rfl (by decide) (O9.1) (ct hw l (3 : Int32) b (.int 4) (p4 + (1 : Int32)) 3 [.int p1, .int p2, .int p3, .int (p4 + (1 : Int32)), .int 0] h40 n0 O9 A9 rfl rfl) rfl rfl own_pd3 rfl rfl (Nat.le_of_eq rfl) (by decide) (by decide) (by decide) (by decide) ?_
    rintro _ h45 ⟨rfl, eh⟩
    all_goals subst h45
    show oGo Z _ _ _ _ _ _ n0 _ 6 68 h40 184 #[.val (.int n), .val (.int p1), .val (.int p2), .val (.int p3), .val (.int p4), .val (.int (4 : Int32)), .val (.ref l), .val (.int p1), .val (.int p3)] [(.int (p4 + (1 : Int32)))]
    refine oGo.iload (q := 186) at_184 rfl rfl ?_
    refine oGo.iconst (q := 187) (v := (1 : Int32)) at_186 rfl rfl ?_
    refine oGo.iadd (q := 188) at_187 rfl ?_
    refine oGo.icmp_eq (q := 193) (r := 191) at_188 (by decide) rfl (fun hc => ?_) (fun hc => absurd rfl hc)
    refine oGo.iconst (q := 194) (v := (1 : Int32)) at_193 rfl rfl ?_
    exact oGo.retN (t := .boolean) at_194 rfl (by simp) (by decide) (by decide) (rfl)
set_option maxRecDepth 65536 in
set_option maxHeartbeats 40000000 in
theorem comes_1 {Post : Tables → Env → Array Value → State → Outcome → State → Prop} (hpost : ∀ tb e args s v u, (limb_1_1.after args s (.returned v) u = true ∧ limb_1_2.after args s (.returned v) u = true ∧ True) → FrameEnd s (.returned v) u (Jvm.fieldLocs frame_1_writes args s ++ Jvm.arrayLocs frame_1_arrays args s ++ Jvm.staticLocs frame_1_statics s) 16 128 → Post tb e args s (.returned v) u) :
    ArmFor flags0 classFile x code maxLocals ret World_1 tables_1 room_1 Calls_1 rest_1 Pre_1 Post := by
  intro l hfl _ _ p e ha hc hk s m args below hf hA hF happ hP
  obtain ⟨hcalls, hrest, hpre⟩ := hP
  obtain ⟨-, -, -, hnamed, -, -, -, hat⟩ := (Spec.applies_iff hf).mp happ
  obtain ⟨hg, hn⟩ := and_e (Cond.before_iff.mp (show (Jvm.Cond.and given_1 narrow_1).before args s = true from hpre))
  obtain ⟨h1, g0⟩ := and_e hg
  obtain ⟨b0, g1⟩ := and_e g0
  obtain ⟨b1, g2⟩ := and_e g1
  obtain ⟨b2, g3⟩ := and_e g2
  obtain ⟨b3, g4⟩ := and_e g3
  have b4 := g4
  obtain ⟨w0, w1, w2, w3, w4, rfl⟩ : ∃ w0 w1 w2 w3 w4 : Value, args = #[w0, w1, w2, w3, w4] := by
    have hs : args.size = 5 := by simpa [Cond.value, given_1] using h1
    obtain ⟨L⟩ := args
    match L, hs with
    | [w0, w1, w2, w3, w4], _ => exact ⟨w0, w1, w2, w3, w4, rfl⟩
  have hw := fun d (hd : d ∈ tables_1) => atoms_spec (ws := Jvm.Cond.code x code maxLocals ret :: tables_1) hat d (List.mem_cons_of_mem _ hd)
  have hfit : Fit s := fun {y c} hc i hi => by
    obtain ⟨ha, rfl⟩ := Array.getElem?_eq_some_iff.mp hc
    have q := List.all_eq_true.mp ((Array.all_eq_true_iff_forall_mem.mp hF) _ (Array.getElem_mem ha)) i (List.mem_range.mpr hi)
    simpa [Array.getElem?_eq_getElem hi] using q
  obtain ⟨i0, e0⟩ := is_v b0
  obtain rfl : w0 = (.int i0) := Option.some.inj e0
  obtain ⟨i1, e1⟩ := is_v b1
  obtain rfl : w1 = (.int i1) := Option.some.inj e1
  obtain ⟨i2, e2⟩ := is_v b2
  obtain rfl : w2 = (.int i2) := Option.some.inj e2
  obtain ⟨i3, e3⟩ := is_v b3
  obtain rfl : w3 = (.int i3) := Option.some.inj e3
  obtain ⟨i4, e4⟩ := is_v b4
  obtain rfl : w4 = (.int i4) := Option.some.inj e4
  obtain ⟨n, o, q1, q2, q3, _, L, rfl, ⟨rfl, N⟩, hq⟩ := (law hw i0 i1 i2 i3 i4 s.heap s.heap.size (Nat.le_refl _)) l tables_1 p e ha hc hk s m _ below hf ((Spec.applies_iff_loose hf).mp happ).1 ⟨rfl, State.Warmed39.refl s, rfl⟩ trivial
  refine ⟨n, _, q1, q2, q3, hpost _ _ _ _ _ _ ⟨Cond.after_iff.mpr rfl, Cond.after_iff.mpr (eq_i res_at (Term.int_eval (1)) rfl), trivial⟩ ⟨hq.1, hq.2.1, (hq.2.2.sift fun y hy => Or.inr (N y hy)).mono (by decide) (by decide)⟩⟩
theorem main_1_1 : Claimed_1_1 := comes_1 fun _ _ _ _ _ _ h hF => ⟨h.1, hF⟩
theorem main_1_2 : Claimed_1_2 := comes_1 fun _ _ _ _ _ _ h hF => ⟨h.2.1, hF⟩
end Jvm.Pilot.@@N@@
namespace Jvm.Pilot.@@N@@
open Jvm Jvm.ClassFile Sem Op Lib Jvm.Free Jvm.Stand Jvm.Pilot.@@N@@.Jvm.D
/-! MADE BY PROGRAM (witnessworld.py) out of the Statement's table words and the real class files: 12 classes; the members and pool entries that the words name. The judged class is class 1, her method 1. -/
namespace start1
open Jvm.ClassFile
def u (s : String) : CpInfo := .utf8 (stringToUtf16 s)
/-- a pool by its gaps: so many unusable entries, then the entry; so many at the end -/
def gap : Nat → List CpInfo → List CpInfo
  | 0, r => r
  | n + 1, r => .unusable :: gap n r
def poolList (es : List (Nat × CpInfo)) (last : Nat) : List CpInfo := es.foldr (fun e r => gap e.1 (e.2 :: r)) (gap last [])
def pool (es : List (Nat × CpInfo)) (last : Nat) : Array CpInfo := ⟨poolList es last⟩
def fileOf (pool : Array CpInfo) (this : Nat) (attrs : Array Attribute := #[]) (ms : Array MethodInfo := #[]) (fl : Nat := 33) (sup : Nat := 0) (ifs : Array Nat := #[]) (fds : Array FieldInfo := #[]) : ClassFile where
  minorVersion := 0
  majorVersion := 65
  constantPool := pool
  accessFlags := fl
  thisClass := this
  superClass := sup
  interfaces := ifs
  fields := fds
  methods := ms
  attributes := attrs
def plain (name : String) (sup : Option ClassId) : Class where
  name := name
  kind := .ordinary
  loader := none
  accessFlags := 33
  super := sup
  interfaces := #[]
  cf := none
  fields := #[]
  methods := #[]
  instanceTypes := #[]
  staticTypes := #[]
  resolved := #[]
  callSites := []
  init := .initialized
  statics := none
  mirror := none

def pool0 : Array CpInfo := pool [(5, u "<init>"), (0, u "()V"), (1, .class_ 10), (1, u "java/lang/Object")] 113

def k0c0 : Code := { maxStack := 0, maxLocals := 1, code := object_method_1_code, exceptionTable := #[], attributes := #[] }
def k0m0 : Method := { name := "<init>", desc := "()V", sig := { parameters := [], returnType := none }, accessFlags := 1, code := some k0c0 }
/-- java/lang/Object -/
def k0 : Class := { plain "java/lang/Object" none with
  accessFlags := 33
  interfaces := #[]
  cf := some (fileOf pool0 8 #[] #[{ accessFlags := 1, nameIndex := 5, descriptorIndex := 6, attributes := #[] }] 33 0 #[] #[])
  fields := #[]
  methods := #[k0m0]
  instanceTypes := #[]
  staticTypes := #[]
  resolved := Array.replicate 124 none
  statics := none }

def pool1 : Array CpInfo := pool [(2, .class_ 4), (0, .nameAndType 5 6), (0, u "java/lang/Object"), (0, u "<init>"), (0, u "()V"), (0, .class_ 8), (0, u "com/example/interlace/interlace/index/IntList"), (0, .methodref 7 3), (0, .methodref 7 11), (0, .nameAndType 12 13), (0, u "add"), (0, u "(I)V"), (0, .methodref 7 15), (0, .nameAndType 16 6), (0, u "incrementLast"), (0, .methodref 7 18), (0, .nameAndType 19 20), (0, u "size"), (0, u "()I"), (0, .methodref 7 22), (0, .nameAndType 23 24), (0, u "get"), (0, u "(I)I"), (0, .class_ 26), (0, u "com/example/interlace/interlace/index/IntListIncrementLastPinLaw"), (2, u "law"), (0, u "(IIIII)Z")] 3

def k1m0 : Method := { name := "<init>", desc := "()V", sig := { parameters := [], returnType := none }, accessFlags := 1, code := none }
def k1c1 : Code := { maxStack := 3, maxLocals := 9, code := code, exceptionTable := #[], attributes := #[] }
def k1m1 : Method := { name := "law", desc := "(IIIII)Z", sig := { parameters := [.int, .int, .int, .int, .int], returnType := some .boolean }, accessFlags := 9, code := some k1c1 }
/-- com/example/interlace/interlace/index/IntListIncrementLastPinLaw -/
def k1 : Class := { plain "com/example/interlace/interlace/index/IntListIncrementLastPinLaw" (some 0) with
  accessFlags := 49
  interfaces := #[]
  cf := some (fileOf pool1 25 #[] #[{ accessFlags := 1, nameIndex := 5, descriptorIndex := 6, attributes := #[] }, { accessFlags := 9, nameIndex := 29, descriptorIndex := 30, attributes := #[] }] 49 2 #[] #[])
  fields := #[]
  methods := #[k1m0, k1m1]
  instanceTypes := #[]
  staticTypes := #[]
  resolved := Array.replicate 34 none
  statics := none }

def pool2 : Array CpInfo := pool [(1, .methodref 2 3), (0, .class_ 4), (0, .nameAndType 5 6), (0, u "java/lang/Object"), (0, u "<init>"), (0, u "()V"), (0, .fieldref 8 9), (0, .class_ 10), (0, .nameAndType 11 12), (0, u "com/example/interlace/interlace/index/IntList"), (0, u "values"), (0, u "[I"), (0, .fieldref 8 14), (0, .nameAndType 15 16), (0, u "size"), (0, u "I"), (0, .methodref 18 19), (0, .class_ 20), (0, .nameAndType 21 22), (0, u "java/util/Arrays"), (0, u "copyOf"), (0, u "([II)[I"), (2, u "()I"), (0, u "get"), (0, u "(I)I"), (0, u "add"), (0, u "(I)V"), (1, u "incrementLast")] 2

def k2c0 : Code := { maxStack := 2, maxLocals := 1, code := prog_18_method_1_code, exceptionTable := #[], attributes := #[] }
def k2m0 : Method := { name := "<init>", desc := "()V", sig := { parameters := [], returnType := none }, accessFlags := 0, code := some k2c0 }
def k2c1 : Code := { maxStack := 1, maxLocals := 1, code := prog_18_method_2_code, exceptionTable := #[], attributes := #[] }
def k2m1 : Method := { name := "size", desc := "()I", sig := { parameters := [], returnType := some .int }, accessFlags := 0, code := some k2c1 }
def k2c2 : Code := { maxStack := 2, maxLocals := 2, code := prog_18_method_3_code, exceptionTable := #[], attributes := #[] }
def k2m2 : Method := { name := "get", desc := "(I)I", sig := { parameters := [.int], returnType := some .int }, accessFlags := 0, code := some k2c2 }
def k2c3 : Code := { maxStack := 5, maxLocals := 2, code := prog_18_method_4_code, exceptionTable := #[], attributes := #[] }
def k2m3 : Method := { name := "add", desc := "(I)V", sig := { parameters := [.int], returnType := none }, accessFlags := 0, code := some k2c3 }
def k2c4 : Code := { maxStack := 4, maxLocals := 1, code := prog_18_method_5_code, exceptionTable := #[], attributes := #[] }
def k2m4 : Method := { name := "incrementLast", desc := "()V", sig := { parameters := [], returnType := none }, accessFlags := 0, code := some k2c4 }
/-- com/example/interlace/interlace/index/IntList -/
def k2 : Class := { plain "com/example/interlace/interlace/index/IntList" (some 0) with
  accessFlags := 48
  interfaces := #[]
  cf := some (fileOf pool2 8 #[] #[{ accessFlags := 0, nameIndex := 5, descriptorIndex := 6, attributes := #[] }, { accessFlags := 0, nameIndex := 15, descriptorIndex := 25, attributes := #[] }, { accessFlags := 0, nameIndex := 26, descriptorIndex := 27, attributes := #[] }, { accessFlags := 0, nameIndex := 28, descriptorIndex := 29, attributes := #[] }, { accessFlags := 0, nameIndex := 31, descriptorIndex := 6, attributes := #[] }] 48 2 #[] #[{ accessFlags := 2, nameIndex := 11, descriptorIndex := 12, attributes := #[] }, { accessFlags := 2, nameIndex := 15, descriptorIndex := 16, attributes := #[] }])
  fields := #[{ name := "values", type := (.array .int), accessFlags := 2, slot := 0, constantValue := 0 }, { name := "size", type := .int, accessFlags := 2, slot := 1, constantValue := 0 }]
  methods := #[k2m0, k2m1, k2m2, k2m3, k2m4]
  instanceTypes := #[(.array .int), .int]
  staticTypes := #[]
  resolved := Array.replicate 34 none
  statics := none }

def pool3 : Array CpInfo := pool [(2, .class_ 4), (1, u "java/lang/Object"), (0, u "<init>"), (0, u "()V"), (7, .class_ 16), (1, u "java/util/Arrays"), (57, .class_ 76), (1, u "java/util/Arrays$NaturalOrder"), (36, .class_ 115), (1, u "java/util/Arrays$LegacyMergeSort"), (1, u "Z"), (32, .methodref 151 152), (0, .class_ 153), (0, .nameAndType 154 155), (0, u "java/lang/System"), (0, u "arraycopy"), (0, u "(Ljava/lang/Object;ILjava/lang/Object;II)V"), (146, u "copyOf"), (1, .methodref 305 306), (0, .class_ 307), (0, .nameAndType 308 309), (0, u "java/lang/Math"), (0, u "min"), (0, u "(II)I"), (65, .class_ 376), (0, u "java/util/Arrays$ArrayList"), (68, u "$assertionsDisabled"), (269, u "MIN_ARRAY_SORT_GRAN"), (0, u "I"), (2, u "INSERTIONSORT_THRESHOLD"), (151, u "([II)[I"), (103, .class_ 976), (0, u "java/util/Arrays$ArrayItr")] 52

def k3m0 : Method := { name := "<init>", desc := "()V", sig := { parameters := [], returnType := none }, accessFlags := 2, code := none }
def k3c1 : Code := { maxStack := 6, maxLocals := 3, code := jdk_65_method_123_code, exceptionTable := #[], attributes := #[] }
def k3m1 : Method := { name := "copyOf", desc := "([II)[I", sig := { parameters := [(.array .int), .int], returnType := some (.array .int) }, accessFlags := 9, code := some k3c1 }
/-- java/util/Arrays -/
def k3 : Class := { plain "java/util/Arrays" (some 0) with
  accessFlags := 49
  interfaces := #[]
  cf := some (fileOf pool3 14 #[.nestMembers #[975, 375, 113, 74]] #[{ accessFlags := 2, nameIndex := 5, descriptorIndex := 6, attributes := #[] }, { accessFlags := 9, nameIndex := 302, descriptorIndex := 871, attributes := #[] }] 49 2 #[] #[{ accessFlags := 26, nameIndex := 715, descriptorIndex := 716, attributes := #[] }, { accessFlags := 26, nameIndex := 719, descriptorIndex := 716, attributes := #[] }, { accessFlags := 4120, nameIndex := 445, descriptorIndex := 117, attributes := #[] }])
  fields := #[{ name := "MIN_ARRAY_SORT_GRAN", type := .int, accessFlags := 26, slot := 0, constantValue := 0 }, { name := "INSERTIONSORT_THRESHOLD", type := .int, accessFlags := 26, slot := 1, constantValue := 0 }, { name := "$assertionsDisabled", type := .boolean, accessFlags := 4120, slot := 2, constantValue := 0 }]
  methods := #[k3m0, k3m1]
  instanceTypes := #[]
  staticTypes := #[.int, .int, .boolean]
  resolved := Array.replicate 1029 none
  statics := none }

def pool4 : Array CpInfo := pool [(1, .class_ 2), (0, u "java/lang/Math"), (1, .class_ 6), (1, u "java/lang/Object"), (0, u "<init>"), (0, u "()V"), (89, .class_ 100), (1, u "java/lang/Math$RandomNumberGeneratorHolder"), (71, u "negativeZeroFloatBits"), (0, u "J"), (2, u "negativeZeroDoubleBits"), (24, u "min"), (43, u "$assertionsDisabled"), (0, u "Z"), (88, u "(II)I"), (2, u "twoToTheDoubleScaleDown"), (0, u "D"), (4, u "twoToTheDoubleScaleUp"), (9, u "E"), (3, u "PI"), (2, u "TAU"), (2, u "DEGREES_TO_RADIANS"), (0, u "RADIANS_TO_DEGREES")] 94

def k4m0 : Method := { name := "<init>", desc := "()V", sig := { parameters := [], returnType := none }, accessFlags := 2, code := none }
def k4c1 : Code := { maxStack := 2, maxLocals := 2, code := jdk_29_method_69_code, exceptionTable := #[], attributes := #[] }
def k4m1 : Method := { name := "min", desc := "(II)I", sig := { parameters := [.int, .int], returnType := some .int }, accessFlags := 9, code := some k4c1 }
/-- java/lang/Math -/
def k4 : Class := { plain "java/lang/Math" (some 0) with
  accessFlags := 49
  interfaces := #[]
  cf := some (fileOf pool4 1 #[.nestMembers #[98]] #[{ accessFlags := 2, nameIndex := 7, descriptorIndex := 8, attributes := #[] }, { accessFlags := 9, nameIndex := 201, descriptorIndex := 335, attributes := #[] }] 49 4 #[] #[{ accessFlags := 25, nameIndex := 354, descriptorIndex := 339, attributes := #[] }, { accessFlags := 25, nameIndex := 358, descriptorIndex := 339, attributes := #[] }, { accessFlags := 25, nameIndex := 361, descriptorIndex := 339, attributes := #[] }, { accessFlags := 26, nameIndex := 364, descriptorIndex := 339, attributes := #[] }, { accessFlags := 26, nameIndex := 365, descriptorIndex := 339, attributes := #[] }, { accessFlags := 26, nameIndex := 172, descriptorIndex := 173, attributes := #[] }, { accessFlags := 26, nameIndex := 176, descriptorIndex := 173, attributes := #[] }, { accessFlags := 8, nameIndex := 344, descriptorIndex := 339, attributes := #[] }, { accessFlags := 8, nameIndex := 338, descriptorIndex := 339, attributes := #[] }, { accessFlags := 4120, nameIndex := 245, descriptorIndex := 246, attributes := #[] }])
  fields := #[{ name := "E", type := .double, accessFlags := 25, slot := 0, constantValue := 0 }, { name := "PI", type := .double, accessFlags := 25, slot := 1, constantValue := 0 }, { name := "TAU", type := .double, accessFlags := 25, slot := 2, constantValue := 0 }, { name := "DEGREES_TO_RADIANS", type := .double, accessFlags := 26, slot := 3, constantValue := 0 }, { name := "RADIANS_TO_DEGREES", type := .double, accessFlags := 26, slot := 4, constantValue := 0 }, { name := "negativeZeroFloatBits", type := .long, accessFlags := 26, slot := 5, constantValue := 0 }, { name := "negativeZeroDoubleBits", type := .long, accessFlags := 26, slot := 6, constantValue := 0 }, { name := "twoToTheDoubleScaleUp", type := .double, accessFlags := 8, slot := 7, constantValue := 0 }, { name := "twoToTheDoubleScaleDown", type := .double, accessFlags := 8, slot := 8, constantValue := 0 }, { name := "$assertionsDisabled", type := .boolean, accessFlags := 4120, slot := 9, constantValue := 0 }]
  methods := #[k4m0, k4m1]
  instanceTypes := #[]
  staticTypes := #[.double, .double, .double, .double, .double, .long, .long, .double, .double, .boolean]
  resolved := Array.replicate 460 none
  statics := none }

def pool5 : Array CpInfo := pool [(2, .class_ 4), (1, u "java/lang/Object"), (0, u "<init>"), (0, u "()V"), (1, .class_ 10), (1, u "java/lang/System"), (0, u "allowSecurityManager"), (0, u "I"), (16, u "cons"), (0, u "Ljava/io/Console;"), (77, .class_ 110), (1, u "java/lang/System$CallersHolder"), (43, u "initialErrStream"), (0, u "Ljava/io/PrintStream;"), (19, u "security"), (0, u "Ljava/lang/SecurityManager;"), (31, .class_ 209), (0, u "java/lang/System$1"), (7, u "props"), (0, u "Ljava/util/Properties;"), (2, u "lineSeparator"), (0, u "Ljava/lang/String;"), (96, .class_ 321), (1, u "java/lang/System$LoggerFinder"), (5, .class_ 328), (0, u "java/lang/System$Logger"), (67, u "err"), (2, u "out"), (91, u "notSupportedJnuEncoding"), (15, u "in"), (17, u "initialIn"), (0, u "Ljava/io/InputStream;"), (35, u "bootLayer"), (0, u "Ljava/lang/ModuleLayer;"), (99, .class_ 664), (0, u "java/lang/System$2"), (9, u "NEVER"), (2, u "MAYBE"), (49, u "arraycopy"), (0, u "(Ljava/lang/Object;ILjava/lang/Object;II)V"), (72, .class_ 802), (0, u "java/lang/System$Logger$Level")] 31

def k5m0 : Method := { name := "<init>", desc := "()V", sig := { parameters := [], returnType := none }, accessFlags := 2, code := none }
def k5m1 : Method := { name := "arraycopy", desc := "(Ljava/lang/Object;ILjava/lang/Object;II)V", sig := { parameters := [(.object "java/lang/Object"), .int, (.object "java/lang/Object"), .int, .int], returnType := none }, accessFlags := 265, code := none }
/-- java/lang/System -/
def k5 : Class := { plain "java/lang/System" (some 0) with
  accessFlags := 49
  interfaces := #[]
  cf := some (fileOf pool5 8 #[.nestMembers #[319, 327, 801, 108, 663, 208]] #[{ accessFlags := 2, nameIndex := 5, descriptorIndex := 6, attributes := #[] }, { accessFlags := 265, nameIndex := 727, descriptorIndex := 728, attributes := #[] }] 49 2 #[] #[{ accessFlags := 25, nameIndex := 507, descriptorIndex := 526, attributes := #[] }, { accessFlags := 25, nameIndex := 399, descriptorIndex := 155, attributes := #[] }, { accessFlags := 25, nameIndex := 396, descriptorIndex := 155, attributes := #[] }, { accessFlags := 10, nameIndex := 525, descriptorIndex := 526, attributes := #[] }, { accessFlags := 26, nameIndex := 674, descriptorIndex := 12, attributes := #[] }, { accessFlags := 26, nameIndex := 677, descriptorIndex := 12, attributes := #[] }, { accessFlags := 10, nameIndex := 11, descriptorIndex := 12, attributes := #[] }, { accessFlags := 74, nameIndex := 175, descriptorIndex := 176, attributes := #[] }, { accessFlags := 10, nameIndex := 491, descriptorIndex := 222, attributes := #[] }, { accessFlags := 74, nameIndex := 29, descriptorIndex := 30, attributes := #[] }, { accessFlags := 74, nameIndex := 154, descriptorIndex := 155, attributes := #[] }, { accessFlags := 10, nameIndex := 217, descriptorIndex := 218, attributes := #[] }, { accessFlags := 10, nameIndex := 221, descriptorIndex := 222, attributes := #[] }, { accessFlags := 8, nameIndex := 562, descriptorIndex := 563, attributes := #[] }])
  fields := #[{ name := "in", type := (.object "java/io/InputStream"), accessFlags := 25, slot := 0, constantValue := 0 }, { name := "out", type := (.object "java/io/PrintStream"), accessFlags := 25, slot := 1, constantValue := 0 }, { name := "err", type := (.object "java/io/PrintStream"), accessFlags := 25, slot := 2, constantValue := 0 }, { name := "initialIn", type := (.object "java/io/InputStream"), accessFlags := 10, slot := 3, constantValue := 0 }, { name := "NEVER", type := .int, accessFlags := 26, slot := 4, constantValue := 0 }, { name := "MAYBE", type := .int, accessFlags := 26, slot := 5, constantValue := 0 }, { name := "allowSecurityManager", type := .int, accessFlags := 10, slot := 6, constantValue := 0 }, { name := "security", type := (.object "java/lang/SecurityManager"), accessFlags := 74, slot := 7, constantValue := 0 }, { name := "notSupportedJnuEncoding", type := (.object "java/lang/String"), accessFlags := 10, slot := 8, constantValue := 0 }, { name := "cons", type := (.object "java/io/Console"), accessFlags := 74, slot := 9, constantValue := 0 }, { name := "initialErrStream", type := (.object "java/io/PrintStream"), accessFlags := 74, slot := 10, constantValue := 0 }, { name := "props", type := (.object "java/util/Properties"), accessFlags := 10, slot := 11, constantValue := 0 }, { name := "lineSeparator", type := (.object "java/lang/String"), accessFlags := 10, slot := 12, constantValue := 0 }, { name := "bootLayer", type := (.object "java/lang/ModuleLayer"), accessFlags := 8, slot := 13, constantValue := 0 }]
  methods := #[k5m0, k5m1]
  instanceTypes := #[]
  staticTypes := #[(.object "java/io/InputStream"), (.object "java/io/PrintStream"), (.object "java/io/PrintStream"), (.object "java/io/InputStream"), .int, .int, .int, (.object "java/lang/SecurityManager"), (.object "java/lang/String"), (.object "java/io/Console"), (.object "java/io/PrintStream"), (.object "java/util/Properties"), (.object "java/lang/String"), (.object "java/lang/ModuleLayer")]
  resolved := Array.replicate 834 none
  statics := none }

def pool6 : Array CpInfo := pool [(1, u "java/lang/Cloneable"), (0, .class_ 1), (0, u "java/lang/Object"), (0, .class_ 3)] 3

/-- java/lang/Cloneable -/
def k6 : Class := { plain "java/lang/Cloneable" (some 0) with
  accessFlags := 1537
  interfaces := #[]
  cf := some (fileOf pool6 2 #[] #[] 1537 4 #[] #[])
  fields := #[]
  methods := #[]
  instanceTypes := #[]
  staticTypes := #[]
  resolved := Array.replicate 8 none
  statics := none }

def pool7 : Array CpInfo := pool [(1, u "java/io/Serializable"), (0, .class_ 1), (0, u "java/lang/Object"), (0, .class_ 3)] 3

/-- java/io/Serializable -/
def k7 : Class := { plain "java/io/Serializable" (some 0) with
  accessFlags := 1537
  interfaces := #[]
  cf := some (fileOf pool7 2 #[] #[] 1537 4 #[] #[])
  fields := #[]
  methods := #[]
  instanceTypes := #[]
  staticTypes := #[]
  resolved := Array.replicate 8 none
  statics := none }

/-- the primitive byte -/
def k8 : Class := { plain "byte" none with kind := .primitive 'B', accessFlags := 0x411 }
/-- [B -/
def k9 : Class := { plain "[B" (some 0) with kind := .array 8 .byte, interfaces := #[6, 7], accessFlags := 1041 }

/-- the primitive int -/
def k10 : Class := { plain "int" none with kind := .primitive 'I', accessFlags := 0x411 }
/-- [I -/
def k11 : Class := { plain "[I" (some 0) with kind := .array 10 .int, interfaces := #[6, 7], accessFlags := 1041 }

def heap : Heap := #[]
def classes : Array Class := #[k0, k1, k2, k3, k4, k5, k6, k7, k8, k9, k10, k11]
def interned : List (Array UInt16 × Addr) := []
def slotsUsed : Nat := 0
def theMethod : MethodId := ⟨1, 1⟩
def args0 : Array Value := #[.int 5, .int 2, .int 5, .int 2, .int 2]
def aboutOver (below : List Frame) : State where
  vm := { classes := classes, interned := interned.toArray }
  heap := heap
  slotsUsed := slotsUsed
  threads := #[{ frames := .invoking theMethod args0 :: below }]
def below0 : List Frame := [.native { method := ⟨0, 0⟩, args := #[] }]
def about1 : State := aboutOver below0
def p0 : Program := .bare "" "" ""
def e0 : Env := launch0.env 0 0 0
theorem w_frames : about1.frames = Frame.invoking theMethod args0 :: below0 := rfl
set_option maxRecDepth 65536 in
theorem w_args : argsFit about1.vm theMethod args0 = true := by decide +kernel
set_option maxRecDepth 65536 in
theorem w_heap : heapFits about1 = true := by decide +kernel
set_option maxRecDepth 65536 in
theorem w_runnable : about1.curStatus? = some .runnable := by decide +kernel
set_option maxRecDepth 65536 in
theorem w_alone : about1.alone = true := by decide +kernel
set_option maxRecDepth 65536 in
theorem w_named : about1.methodNamed? x = some theMethod := by decide +kernel
set_option maxRecDepth 65536 in
theorem w_hears : about1.hears theMethod below0 = true := by decide +kernel
set_option maxRecDepth 65536 in
theorem w_ripe : about1.ripe theMethod args0 below0 = true := by decide +kernel
theorem w_running : about1.status = .running := rfl
set_option maxRecDepth 65536 in
theorem w_room : about1.hasRoom e0.platform room_1 = true :=
  launch0.hasRoom_least _ room_1 (by decide +kernel) (by decide +kernel) (by decide +kernel) (by decide +kernel) (by decide +kernel) (by decide +kernel)
theorem allAtoms_all (ts : List Jvm.Cond) (a : Array Jvm.Value) (st : Jvm.State) : (allAtoms ts).before a st = ts.all (fun c => c.before a st) := by
  induction ts with
  | nil => rfl
  | cons c t ih =>
    show (Jvm.Cond.and c (allAtoms t)).before a st = _
    rw [Jvm.Cond.before_and, ih, List.all_cons]
def words1 : List Jvm.Cond := Jvm.Cond.code x code maxLocals ret :: tables_1
/-- a 'code' word, met by the world's own term for the bytes: nothing is compared byte by byte -/
theorem code_word {y : MethodName} {bytes : ByteArray} {mx : Nat} {rt : Option FieldType} {a : Array Value} {s : State} {m : MethodId} {meth : Method} {c : Code} (h1 : s.methodNamed? y = some m) (h2 : s.vm.method? m = some meth) (h3 : meth.code = some c) (h4 : c.code = bytes)
    (h5 : (c.maxLocals == mx && c.exceptionTable.isEmpty && decide (c.maxStack ≤ mostOperands) && decide (meth.sig.returnType = rt) && !meth.locks && decide (parseMethodDescriptor y.desc = some meth.sig)) = true) : (Jvm.Cond.code y bytes mx rt).before a s = true := by
  simp only [Bool.and_eq_true, beq_iff_eq, Bool.not_eq_true', decide_eq_true_eq] at h5
  obtain ⟨⟨⟨⟨⟨g1, g2⟩, g3⟩, g4⟩, g5⟩, g6⟩ := h5
  simp [Cond.before, Cond.holds, Cond.value, h1, h2, h3, h4, g1, g2, g3, g4, g5, g6]
def isCode : Jvm.Cond → Bool
  | .code _ _ _ _ => true
  | _ => false
theorem all_split {L : List Jvm.Cond} {P : Jvm.Cond → Bool} (h1 : L.all (fun c => isCode c || P c) = true) (h2 : ∀ c ∈ L.filter isCode, P c = true) : L.all P = true := by
  refine List.all_eq_true.mpr fun c hc => ?_
  have h := List.all_eq_true.mp h1 c hc
  rcases Bool.eq_false_or_eq_true (isCode c) with hi | hi
  · exact h2 c (List.mem_filter.mpr ⟨hc, hi⟩)
  · simpa [hi] using h
set_option maxRecDepth 65536 in
theorem w_c0 : (Jvm.Cond.code x code maxLocals ret).before args0 about1 = true := code_word (m := ⟨1, 1⟩) (meth := k1m1) (c := k1c1) (by decide +kernel) rfl rfl rfl (by decide +kernel)
set_option maxRecDepth 65536 in
theorem w_c1 : (Jvm.Cond.code ({ cls := "com/example/interlace/interlace/index/IntList", name := "<init>", desc := "()V" } : Jvm.MethodName) prog_18_method_1_code (1 : Nat) (Option.none : Option Jvm.ClassFile.FieldType)).before args0 about1 = true := code_word (m := ⟨2, 0⟩) (meth := k2m0) (c := k2c0) (by decide +kernel) rfl rfl rfl (by decide +kernel)
set_option maxRecDepth 65536 in
theorem w_c2 : (Jvm.Cond.code ({ cls := "java/lang/Object", name := "<init>", desc := "()V" } : Jvm.MethodName) object_method_1_code (1 : Nat) (Option.none : Option Jvm.ClassFile.FieldType)).before args0 about1 = true := code_word (m := ⟨0, 0⟩) (meth := k0m0) (c := k0c0) (by decide +kernel) rfl rfl rfl (by decide +kernel)
set_option maxRecDepth 65536 in
theorem w_c3 : (Jvm.Cond.code ({ cls := "com/example/interlace/interlace/index/IntList", name := "add", desc := "(I)V" } : Jvm.MethodName) prog_18_method_4_code (2 : Nat) (Option.none : Option Jvm.ClassFile.FieldType)).before args0 about1 = true := code_word (m := ⟨2, 3⟩) (meth := k2m3) (c := k2c3) (by decide +kernel) rfl rfl rfl (by decide +kernel)
set_option maxRecDepth 65536 in
theorem w_c4 : (Jvm.Cond.code ({ cls := "com/example/interlace/interlace/index/IntList", name := "incrementLast", desc := "()V" } : Jvm.MethodName) prog_18_method_5_code (1 : Nat) (Option.none : Option Jvm.ClassFile.FieldType)).before args0 about1 = true := code_word (m := ⟨2, 4⟩) (meth := k2m4) (c := k2c4) (by decide +kernel) rfl rfl rfl (by decide +kernel)
set_option maxRecDepth 65536 in
theorem w_c5 : (Jvm.Cond.code ({ cls := "com/example/interlace/interlace/index/IntList", name := "size", desc := "()I" } : Jvm.MethodName) prog_18_method_2_code (1 : Nat) (Option.some Jvm.ClassFile.FieldType.int)).before args0 about1 = true := code_word (m := ⟨2, 1⟩) (meth := k2m1) (c := k2c1) (by decide +kernel) rfl rfl rfl (by decide +kernel)
set_option maxRecDepth 65536 in
theorem w_c6 : (Jvm.Cond.code ({ cls := "com/example/interlace/interlace/index/IntList", name := "get", desc := "(I)I" } : Jvm.MethodName) prog_18_method_3_code (2 : Nat) (Option.some Jvm.ClassFile.FieldType.int)).before args0 about1 = true := code_word (m := ⟨2, 2⟩) (meth := k2m2) (c := k2c2) (by decide +kernel) rfl rfl rfl (by decide +kernel)
set_option maxRecDepth 65536 in
theorem w_c7 : (Jvm.Cond.code ({ cls := "java/util/Arrays", name := "copyOf", desc := "([II)[I" } : Jvm.MethodName) jdk_65_method_123_code (3 : Nat) (Option.some (Jvm.ClassFile.FieldType.array Jvm.ClassFile.FieldType.int))).before args0 about1 = true := code_word (m := ⟨3, 1⟩) (meth := k3m1) (c := k3c1) (by decide +kernel) rfl rfl rfl (by decide +kernel)
set_option maxRecDepth 65536 in
theorem w_c8 : (Jvm.Cond.code ({ cls := "java/lang/Math", name := "min", desc := "(II)I" } : Jvm.MethodName) jdk_29_method_69_code (2 : Nat) (Option.some Jvm.ClassFile.FieldType.int)).before args0 about1 = true := code_word (m := ⟨4, 1⟩) (meth := k4m1) (c := k4c1) (by decide +kernel) rfl rfl rfl (by decide +kernel)
def codes1 : List Jvm.Cond := [Jvm.Cond.code x code maxLocals ret, Jvm.Cond.code ({ cls := "com/example/interlace/interlace/index/IntList", name := "<init>", desc := "()V" } : Jvm.MethodName) prog_18_method_1_code (1 : Nat) (Option.none : Option Jvm.ClassFile.FieldType), Jvm.Cond.code ({ cls := "java/lang/Object", name := "<init>", desc := "()V" } : Jvm.MethodName) object_method_1_code (1 : Nat) (Option.none : Option Jvm.ClassFile.FieldType), Jvm.Cond.code ({ cls := "com/example/interlace/interlace/index/IntList", name := "add", desc := "(I)V" } : Jvm.MethodName) prog_18_method_4_code (2 : Nat) (Option.none : Option Jvm.ClassFile.FieldType), Jvm.Cond.code ({ cls := "com/example/interlace/interlace/index/IntList", name := "incrementLast", desc := "()V" } : Jvm.MethodName) prog_18_method_5_code (1 : Nat) (Option.none : Option Jvm.ClassFile.FieldType), Jvm.Cond.code ({ cls := "com/example/interlace/interlace/index/IntList", name := "size", desc := "()I" } : Jvm.MethodName) prog_18_method_2_code (1 : Nat) (Option.some Jvm.ClassFile.FieldType.int), Jvm.Cond.code ({ cls := "com/example/interlace/interlace/index/IntList", name := "get", desc := "(I)I" } : Jvm.MethodName) prog_18_method_3_code (2 : Nat) (Option.some Jvm.ClassFile.FieldType.int), Jvm.Cond.code ({ cls := "java/util/Arrays", name := "copyOf", desc := "([II)[I" } : Jvm.MethodName) jdk_65_method_123_code (3 : Nat) (Option.some (Jvm.ClassFile.FieldType.array Jvm.ClassFile.FieldType.int)), Jvm.Cond.code ({ cls := "java/lang/Math", name := "min", desc := "(II)I" } : Jvm.MethodName) jdk_29_method_69_code (2 : Nat) (Option.some Jvm.ClassFile.FieldType.int)]
set_option maxRecDepth 65536 in
theorem codes_eq : words1.filter isCode = codes1 := rfl
theorem w_codes : ∀ c ∈ words1.filter isCode, c.before args0 about1 = true := by
  rw [codes_eq]
  intro c hc
  simp only [codes1, List.mem_cons, List.not_mem_nil, or_false] at hc
  rcases hc with rfl | rfl | rfl | rfl | rfl | rfl | rfl | rfl | rfl
  · exact w_c0
  · exact w_c1
  · exact w_c2
  · exact w_c3
  · exact w_c4
  · exact w_c5
  · exact w_c6
  · exact w_c7
  · exact w_c8
set_option maxRecDepth 65536 in
theorem w_t1 : (words1.take 24).all (fun c => isCode c || c.before args0 about1) = true := by decide +kernel
set_option maxRecDepth 65536 in
theorem w_t2 : (words1.drop 24).all (fun c => isCode c || c.before args0 about1) = true := by decide +kernel
theorem w_tables : (allAtoms (Jvm.Cond.code x code maxLocals ret :: tables_1)).before args0 about1 = true := by
  rw [allAtoms_all]
  show words1.all (fun c => c.before args0 about1) = true
  refine all_split ?_ w_codes
  rw [← List.take_append_drop 24 words1, List.all_append, w_t1, w_t2]
  rfl
set_option maxRecDepth 65536 in
theorem w_case : (Jvm.Cond.and given_1 narrow_1).before args0 about1 = true := by decide +kernel
theorem w_applies : (headSpec (Jvm.Cond.code x code maxLocals ret :: tables_1) room_1).applies x e0.platform about1 = true :=
  (Spec.applies_iff w_frames).mpr ⟨w_running, w_runnable, w_alone, w_named, w_hears, w_ripe, w_room, w_tables⟩
theorem atStart : AtStart classFile x code maxLocals ret World_1 tables_1 room_1 Calls_1 rest_1 Pre_1 launch0 p0 e0 about1 theMethod args0 below0 :=
  ⟨lists_1, trivial, launch0.admits_env _ _ _, launch0.least_env, fairChoices_fair.cas, fairChoices_fair.clock, w_frames, w_args, w_heap, w_applies, trivial, trivial, w_case⟩
end start1
theorem witness_1 : WitnessClaimed_1 := ⟨start1.p0, start1.e0, start1.about1, start1.theMethod, start1.args0, start1.below0, start1.atStart⟩
end Jvm.Pilot.@@N@@
