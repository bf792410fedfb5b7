import JvmDerived
import JvmDerived.Pilot.@@N@@Statement
import JvmDerived.Pilot.@@N@@Code
set_option linter.unusedVariables false
set_option linter.unusedSimpArgs false
namespace Jvm.Pilot.@@N@@
open Jvm Jvm.ClassFile Sem Op Lib Jvm.Free Jvm.Stand Jvm.LawKit Jvm.RoadKit Bundle Jvm.Pilot.@@N@@.Jvm.D
section Own
variable {Z : State} {own nm : String} {bytes : ByteArray} {ml : Nat} {ret : Option FieldType} {R : Room} {n0 : Nat} {Q : Option Value → Heap → Prop} {k n : Nat} {h : Heap} {pc q r : Nat} {L L' : Array Slot} {S S' : List Value} {a0 : Array Value}
/-- what a body's own record says of it -/
def oCtx (p : Program) (s : State) (m : MethodId) (meth : Method) (c : Code) (Z : State) (own nm : String) (bytes : ByteArray) (ml : Nat) (ret : Option FieldType) : Prop :=
  p.tables.exec = Jvm.exec ∧ Z.Warmed39 s.vm ∧ c.code = bytes ∧ c.maxLocals = ml ∧ s.vm.findClass own = some m.cls ∧ meth.sig.returnType = ret ∧ meth.locks = false ∧ meth.name = nm
/-- from here on the body comes to its end, and there Q holds; nothing old is written -/
def oGo (Z : State) (own nm : String) (bytes : ByteArray) (ml : Nat) (ret : Option FieldType) (R : Room) (n0 : Nat) (Q : Option Value → Heap → Prop) (k n : Nat) (h : Heap) (pc : Nat) (L : Array Slot) (S : List Value) : Prop :=
  ∀ (p : Program) (l : Launch) (e : Env) (s : State) (m : MethodId) (args : Array Value) (below : List Frame) (meth : Method) (c : Code) (T : State) (locs : List Loc),
    oCtx p s m meth c Z own nm bytes ml ret → Stand p l e R s m args below meth c T locs k n → T.heap = h → Fr n0 locs →
    ∃ s₂ o, Steps p.tables e below (T.setTop (mkF m pc L S)) s₂ ∧ s₂.status = .running ∧ Ended s₂ below o ∧ ∃ v L', o = .returned v ∧ (Q v s₂.heap ∧ Fr n0 L') ∧ FrameEnd s o s₂ L' R.cells R.slots
/-- a body's contract -/
def oCon (Z : State) (y : MethodName) (bytes : ByteArray) (ml : Nat) (ret : Option FieldType) (rm : Room) (as : Array Value) (h : Heap) (n0 : Nat) (Q : Option Value → Heap → Prop) : Prop :=
  ∀ (l : Launch) (ws : List Jvm.Cond), MetFree l y (head1 (Jvm.Cond.code y bytes ml ret :: ws) rm) (fun a U => a = as ∧ Z.Warmed39 U.vm ∧ U.heap = h) (fun _ _ _ _ _ => True) (fun _ U o U' => ∃ v L, o = .returned v ∧ (Q v U'.heap ∧ Fr n0 L) ∧ FrameEnd U o U' L rm.cells rm.slots)
theorem oCon.of {y : MethodName} {rm : Room} {as : Array Value} {L0 : Array Slot} (hp : plainFor y = true) (he : ∀ m, entryFrame m as ml = mkF m 0 L0 []) (K : oGo Z y.cls y.name bytes ml ret rm n0 Q 0 0 h 0 L0 []) : oCon Z y bytes ml ret rm as h n0 Q := by
  intro l ws
  refine MetFree.of_bodySF hp hisR ?_
  intro p e s m args below meth c s₁ Bd hml0 hP hK
  obtain ⟨rfl, hZ, hh⟩ := hP
  have e0 : s₁.heap = h := by rw [← hh, Bd.state]; rfl
  obtain ⟨s₂, o, h1, h2, h3, h4⟩ := K p l e s m args below meth c s₁ [] ⟨Bd.exec, hZ, Bd.bytes, hml0, findClass_of_methodNamed Bd.named, Bd.returns, Bd.notSynchronized, (name_of_methodNamed Bd.named Bd.method).1⟩ (Stand.of_body Bd) e0 (Fr.nil n0)
  exact ⟨s₂, o, castTop (he m) h1, h2, h3, h4⟩
theorem oGo.more {k' n' : Nat} (hk : k ≤ k') (hn : n ≤ n') (K : oGo Z own nm bytes ml ret R n0 Q k' n' h pc L S) : oGo Z own nm bytes ml ret R n0 Q k n h pc L S :=
  fun p l e s m args below meth c T locs C X eT N => K p l e s m args below meth c T locs C (X.more hk hn) eT N
theorem oGo.st (H : ∀ (p : Program) (e : Env) (m : MethodId) (below : List Frame) (c : Code) (T : State), p.tables.exec = Jvm.exec → c.code = bytes → At T m c below → ∀ t, Steps p.tables e below (T.setTop (mkF m q L' S')) t → Steps p.tables e below (T.setTop (mkF m pc L S)) t) (K : oGo Z own nm bytes ml ret R n0 Q k n h q L' S') : oGo Z own nm bytes ml ret R n0 Q k n h pc L S :=
  fun p l e s m args below meth c T locs C X eT N => by
    obtain ⟨s₂, o, h1, r⟩ := K p l e s m args below meth c T locs C X eT N
    exact ⟨s₂, o, H p e m below c T C.1 C.2.2.1 X.here s₂ h1, r⟩
theorem oGo.iadd {x y : Int32} (hd : decode bytes pc = .ok (.iadd, 1)) (hq : pc + 1 = q) (K : oGo Z own nm bytes ml ret R n0 Q k n h q L (.int (x + y) :: S)) : oGo Z own nm bytes ml ret R n0 Q k n h pc L (.int y :: .int x :: S) := by
  subst hq; exact oGo.st (fun p e m below c T hx hby hA t k => XS.iadd hA hx rfl (hb hby hd) rfl k) K
theorem oGo.isub {x y : Int32} (hd : decode bytes pc = .ok (.isub, 1)) (hq : pc + 1 = q) (K : oGo Z own nm bytes ml ret R n0 Q k n h q L (.int (x - y) :: S)) : oGo Z own nm bytes ml ret R n0 Q k n h pc L (.int y :: .int x :: S) := by
  subst hq; exact oGo.st (fun p e m below c T hx hby hA t k => XS.isub hA hx rfl (hb hby hd) rfl k) K
theorem oGo.imul {x y : Int32} (hd : decode bytes pc = .ok (.imul, 1)) (hq : pc + 1 = q) (K : oGo Z own nm bytes ml ret R n0 Q k n h q L (.int (x * y) :: S)) : oGo Z own nm bytes ml ret R n0 Q k n h pc L (.int y :: .int x :: S) := by
  subst hq; exact oGo.st (fun p e m below c T hx hby hA t k => XS.imul hA hx rfl (hb hby hd) rfl k) K
theorem oGo.iand {x y : Int32} (hd : decode bytes pc = .ok (.iand, 1)) (hq : pc + 1 = q) (K : oGo Z own nm bytes ml ret R n0 Q k n h q L (.int (x &&& y) :: S)) : oGo Z own nm bytes ml ret R n0 Q k n h pc L (.int y :: .int x :: S) := by
  subst hq; exact oGo.st (fun p e m below c T hx hby hA t k => XS.iand hA hx rfl (hb hby hd) rfl k) K
theorem oGo.ior {x y : Int32} (hd : decode bytes pc = .ok (.ior, 1)) (hq : pc + 1 = q) (K : oGo Z own nm bytes ml ret R n0 Q k n h q L (.int (x ||| y) :: S)) : oGo Z own nm bytes ml ret R n0 Q k n h pc L (.int y :: .int x :: S) := by
  subst hq; exact oGo.st (fun p e m below c T hx hby hA t k => XS.ior hA hx rfl (hb hby hd) rfl k) K
theorem oGo.ixor {x y : Int32} (hd : decode bytes pc = .ok (.ixor, 1)) (hq : pc + 1 = q) (K : oGo Z own nm bytes ml ret R n0 Q k n h q L (.int (x ^^^ y) :: S)) : oGo Z own nm bytes ml ret R n0 Q k n h pc L (.int y :: .int x :: S) := by
  subst hq; exact oGo.st (fun p e m below c T hx hby hA t k => XS.ixor hA hx rfl (hb hby hd) rfl k) K
theorem oGo.ishl {x y : Int32} (hd : decode bytes pc = .ok (.ishl, 1)) (hq : pc + 1 = q) (K : oGo Z own nm bytes ml ret R n0 Q k n h q L (.int (x <<< (y &&& 31)) :: S)) : oGo Z own nm bytes ml ret R n0 Q k n h pc L (.int y :: .int x :: S) := by
  subst hq; exact oGo.st (fun p e m below c T hx hby hA t k => XS.ishl hA hx rfl (hb hby hd) rfl k) K
theorem oGo.ishr {x y : Int32} (hd : decode bytes pc = .ok (.ishr, 1)) (hq : pc + 1 = q) (K : oGo Z own nm bytes ml ret R n0 Q k n h q L (.int (x >>> (y &&& 31)) :: S)) : oGo Z own nm bytes ml ret R n0 Q k n h pc L (.int y :: .int x :: S) := by
  subst hq; exact oGo.st (fun p e m below c T hx hby hA t k => XS.ishr hA hx rfl (hb hby hd) rfl k) K
theorem oGo.iushr {x y : Int32} (hd : decode bytes pc = .ok (.iushr, 1)) (hq : pc + 1 = q) (K : oGo Z own nm bytes ml ret R n0 Q k n h q L (.int ((x.toUInt32 >>> (y &&& 31).toUInt32).toInt32) :: S)) : oGo Z own nm bytes ml ret R n0 Q k n h pc L (.int y :: .int x :: S) := by
  subst hq; exact oGo.st (fun p e m below c T hx hby hA t k => XS.iushr hA hx rfl (hb hby hd) rfl k) K
theorem oGo.ladd {x y : Int64} (hd : decode bytes pc = .ok (.ladd, 1)) (hq : pc + 1 = q) (K : oGo Z own nm bytes ml ret R n0 Q k n h q L (.long (x + y) :: S)) : oGo Z own nm bytes ml ret R n0 Q k n h pc L (.long y :: .long x :: S) := by
  subst hq; exact oGo.st (fun p e m below c T hx hby hA t k => XS.ladd hA hx rfl (hb hby hd) rfl k) K
theorem oGo.lsub {x y : Int64} (hd : decode bytes pc = .ok (.lsub, 1)) (hq : pc + 1 = q) (K : oGo Z own nm bytes ml ret R n0 Q k n h q L (.long (x - y) :: S)) : oGo Z own nm bytes ml ret R n0 Q k n h pc L (.long y :: .long x :: S) := by
  subst hq; exact oGo.st (fun p e m below c T hx hby hA t k => XS.lsub hA hx rfl (hb hby hd) rfl k) K
theorem oGo.lmul {x y : Int64} (hd : decode bytes pc = .ok (.lmul, 1)) (hq : pc + 1 = q) (K : oGo Z own nm bytes ml ret R n0 Q k n h q L (.long (x * y) :: S)) : oGo Z own nm bytes ml ret R n0 Q k n h pc L (.long y :: .long x :: S) := by
  subst hq; exact oGo.st (fun p e m below c T hx hby hA t k => XS.lmul hA hx rfl (hb hby hd) rfl k) K
theorem oGo.land {x y : Int64} (hd : decode bytes pc = .ok (.land, 1)) (hq : pc + 1 = q) (K : oGo Z own nm bytes ml ret R n0 Q k n h q L (.long (x &&& y) :: S)) : oGo Z own nm bytes ml ret R n0 Q k n h pc L (.long y :: .long x :: S) := by
  subst hq; exact oGo.st (fun p e m below c T hx hby hA t k => XS.land hA hx rfl (hb hby hd) rfl k) K
theorem oGo.lor {x y : Int64} (hd : decode bytes pc = .ok (.lor, 1)) (hq : pc + 1 = q) (K : oGo Z own nm bytes ml ret R n0 Q k n h q L (.long (x ||| y) :: S)) : oGo Z own nm bytes ml ret R n0 Q k n h pc L (.long y :: .long x :: S) := by
  subst hq; exact oGo.st (fun p e m below c T hx hby hA t k => XS.lor hA hx rfl (hb hby hd) rfl k) K
theorem oGo.lxor {x y : Int64} (hd : decode bytes pc = .ok (.lxor, 1)) (hq : pc + 1 = q) (K : oGo Z own nm bytes ml ret R n0 Q k n h q L (.long (x ^^^ y) :: S)) : oGo Z own nm bytes ml ret R n0 Q k n h pc L (.long y :: .long x :: S) := by
  subst hq; exact oGo.st (fun p e m below c T hx hby hA t k => XS.lxor hA hx rfl (hb hby hd) rfl k) K
theorem oGo.lshl {x : Int64} {y : Int32} (hd : decode bytes pc = .ok (.lshl, 1)) (hq : pc + 1 = q) (K : oGo Z own nm bytes ml ret R n0 Q k n h q L (.long (x <<< (y &&& 0x3f).toInt64) :: S)) : oGo Z own nm bytes ml ret R n0 Q k n h pc L (.int y :: .long x :: S) := by
  subst hq; exact oGo.st (fun p e m below c T hx hby hA t k => XS.lshl hA hx rfl (hb hby hd) rfl k) K
theorem oGo.lshr {x : Int64} {y : Int32} (hd : decode bytes pc = .ok (.lshr, 1)) (hq : pc + 1 = q) (K : oGo Z own nm bytes ml ret R n0 Q k n h q L (.long (x >>> (y &&& 0x3f).toInt64) :: S)) : oGo Z own nm bytes ml ret R n0 Q k n h pc L (.int y :: .long x :: S) := by
  subst hq; exact oGo.st (fun p e m below c T hx hby hA t k => XS.lshr hA hx rfl (hb hby hd) rfl k) K
theorem oGo.lushr {x : Int64} {y : Int32} (hd : decode bytes pc = .ok (.lushr, 1)) (hq : pc + 1 = q) (K : oGo Z own nm bytes ml ret R n0 Q k n h q L (.long ((x.toUInt64 >>> (y &&& 0x3f).toInt64.toUInt64).toInt64) :: S)) : oGo Z own nm bytes ml ret R n0 Q k n h pc L (.int y :: .long x :: S) := by
  subst hq; exact oGo.st (fun p e m below c T hx hby hA t k => XS.lushr hA hx rfl (hb hby hd) rfl k) K
theorem oGo.idiv {x y : Int32} (hd : decode bytes pc = .ok (.idiv, 1)) (hq : pc + 1 = q) (hy : y ≠ 0) (K : oGo Z own nm bytes ml ret R n0 Q k n h q L (.int (x / y) :: S)) : oGo Z own nm bytes ml ret R n0 Q k n h pc L (.int y :: .int x :: S) := by
  subst hq; exact oGo.st (fun p e m below c T hx hby hA t k => XS.idiv hA hx rfl (hb hby hd) rfl hy k) K
theorem oGo.ldiv {x y : Int64} (hd : decode bytes pc = .ok (.ldiv, 1)) (hq : pc + 1 = q) (hy : y ≠ 0) (K : oGo Z own nm bytes ml ret R n0 Q k n h q L (.long (x / y) :: S)) : oGo Z own nm bytes ml ret R n0 Q k n h pc L (.long y :: .long x :: S) := by
  subst hq; exact oGo.st (fun p e m below c T hx hby hA t k => XS.ldiv hA hx rfl (hb hby hd) rfl hy k) K
theorem oGo.irem {x y : Int32} (hd : decode bytes pc = .ok (.irem, 1)) (hq : pc + 1 = q) (hy : y ≠ 0) (K : oGo Z own nm bytes ml ret R n0 Q k n h q L (.int (x % y) :: S)) : oGo Z own nm bytes ml ret R n0 Q k n h pc L (.int y :: .int x :: S) := by
  subst hq; exact oGo.st (fun p e m below c T hx hby hA t k => XS.irem hA hx rfl (hb hby hd) rfl hy (by rw [irem_eq_mod]; exact k)) K
theorem oGo.lrem {x y : Int64} (hd : decode bytes pc = .ok (.lrem, 1)) (hq : pc + 1 = q) (hy : y ≠ 0) (K : oGo Z own nm bytes ml ret R n0 Q k n h q L (.long (x % y) :: S)) : oGo Z own nm bytes ml ret R n0 Q k n h pc L (.long y :: .long x :: S) := by
  subst hq; exact oGo.st (fun p e m below c T hx hby hA t k => XS.lrem hA hx rfl (hb hby hd) rfl hy (by rw [lrem_mod]; exact k)) K
theorem oGo.ineg {x : Int32} (hd : decode bytes pc = .ok (.ineg, 1)) (hq : pc + 1 = q) (K : oGo Z own nm bytes ml ret R n0 Q k n h q L (.int (-x) :: S)) : oGo Z own nm bytes ml ret R n0 Q k n h pc L (.int x :: S) := by
  subst hq; exact oGo.st (fun p e m below c T hx hby hA t k => XS.ineg hA hx rfl (hb hby hd) rfl k) K
theorem oGo.lneg {x : Int64} (hd : decode bytes pc = .ok (.lneg, 1)) (hq : pc + 1 = q) (K : oGo Z own nm bytes ml ret R n0 Q k n h q L (.long (-x) :: S)) : oGo Z own nm bytes ml ret R n0 Q k n h pc L (.long x :: S) := by
  subst hq; exact oGo.st (fun p e m below c T hx hby hA t k => XS.lneg hA hx rfl (hb hby hd) rfl k) K
theorem oGo.i2b {x : Int32} (hd : decode bytes pc = .ok (.i2b, 1)) (hq : pc + 1 = q) (K : oGo Z own nm bytes ml ret R n0 Q k n h q L (.int (x.toInt8.toInt32) :: S)) : oGo Z own nm bytes ml ret R n0 Q k n h pc L (.int x :: S) := by
  subst hq; exact oGo.st (fun p e m below c T hx hby hA t k => XS.i2b hA hx rfl (hb hby hd) rfl k) K
theorem oGo.i2c {x : Int32} (hd : decode bytes pc = .ok (.i2c, 1)) (hq : pc + 1 = q) (K : oGo Z own nm bytes ml ret R n0 Q k n h q L (.int (x.toUInt32.toUInt16.toUInt32.toInt32) :: S)) : oGo Z own nm bytes ml ret R n0 Q k n h pc L (.int x :: S) := by
  subst hq; exact oGo.st (fun p e m below c T hx hby hA t k => XS.i2c hA hx rfl (hb hby hd) rfl k) K
theorem oGo.i2s {x : Int32} (hd : decode bytes pc = .ok (.i2s, 1)) (hq : pc + 1 = q) (K : oGo Z own nm bytes ml ret R n0 Q k n h q L (.int (x.toInt16.toInt32) :: S)) : oGo Z own nm bytes ml ret R n0 Q k n h pc L (.int x :: S) := by
  subst hq; exact oGo.st (fun p e m below c T hx hby hA t k => XS.i2s hA hx rfl (hb hby hd) rfl k) K
theorem oGo.i2l {x : Int32} (hd : decode bytes pc = .ok (.i2l, 1)) (hq : pc + 1 = q) (K : oGo Z own nm bytes ml ret R n0 Q k n h q L (.long (x.toInt64) :: S)) : oGo Z own nm bytes ml ret R n0 Q k n h pc L (.int x :: S) := by
  subst hq; exact oGo.st (fun p e m below c T hx hby hA t k => XS.i2l hA hx rfl (hb hby hd) rfl k) K
theorem oGo.l2i {x : Int64} (hd : decode bytes pc = .ok (.l2i, 1)) (hq : pc + 1 = q) (K : oGo Z own nm bytes ml ret R n0 Q k n h q L (.int (x.toInt32) :: S)) : oGo Z own nm bytes ml ret R n0 Q k n h pc L (.long x :: S) := by
  subst hq; exact oGo.st (fun p e m below c T hx hby hA t k => XS.l2i hA hx rfl (hb hby hd) rfl k) K
theorem oGo.iconst {i : Int} {v : Int32} (hd : decode bytes pc = .ok (.iconst i, 1)) (hq : pc + 1 = q) (hv : Int32.ofInt i = v) (K : oGo Z own nm bytes ml ret R n0 Q k n h q L (.int v :: S)) : oGo Z own nm bytes ml ret R n0 Q k n h pc L S := by
  subst hq hv; exact oGo.st (fun p e m below c T hx hby hA t k => XS.iconst hA hx rfl (hb hby hd) k) K
theorem oGo.bipush {i : Int} {v : Int32} (hd : decode bytes pc = .ok (.bipush i, 2)) (hq : pc + 2 = q) (hv : (Int8.ofInt i).toInt32 = v) (K : oGo Z own nm bytes ml ret R n0 Q k n h q L (.int v :: S)) : oGo Z own nm bytes ml ret R n0 Q k n h pc L S := by
  subst hq hv; exact oGo.st (fun p e m below c T hx hby hA t k => XS.bipush hA hx rfl (hb hby hd) k) K
theorem oGo.sipush {i : Int} {v : Int32} (hd : decode bytes pc = .ok (.sipush i, 3)) (hq : pc + 3 = q) (hv : (Int16.ofInt i).toInt32 = v) (K : oGo Z own nm bytes ml ret R n0 Q k n h q L (.int v :: S)) : oGo Z own nm bytes ml ret R n0 Q k n h pc L S := by
  subst hq hv; exact oGo.st (fun p e m below c T hx hby hA t k => XS.sipush hA hx rfl (hb hby hd) k) K
theorem oGo.lconst {i : Fin 2} {v : Int64} (hd : decode bytes pc = .ok (.lconst i, 1)) (hq : pc + 1 = q) (hv : Int64.ofNat i = v) (K : oGo Z own nm bytes ml ret R n0 Q k n h q L (.long v :: S)) : oGo Z own nm bytes ml ret R n0 Q k n h pc L S := by
  subst hq hv; exact oGo.st (fun p e m below c T hx hby hA t k => XS.lconst hA hx rfl (hb hby hd) k) K
theorem oGo.aconstNull (hd : decode bytes pc = .ok (.aconst_null, 1)) (hq : pc + 1 = q) (K : oGo Z own nm bytes ml ret R n0 Q k n h q L (.null :: S)) : oGo Z own nm bytes ml ret R n0 Q k n h pc L (S) := by
  subst hq; exact oGo.st (fun p e m below c T hx hby hA t k => XS.aconstNull hA hx rfl (hb hby hd) k) K
theorem oGo.iload {i : Nat} {v : Int32} (hd : decode bytes pc = .ok (.iload i, 2)) (hq : pc + 2 = q) (hl : L[i]? = some (.val (.int v))) (K : oGo Z own nm bytes ml ret R n0 Q k n h q L (.int v :: S)) : oGo Z own nm bytes ml ret R n0 Q k n h pc L S := by
  subst hq; exact oGo.st (fun p e m below c T hx hby hA t k => XS.iload hA hx rfl (hb hby hd) hl k) K
theorem oGo.iloadN {i : Fin 4} {v : Int32} (hd : decode bytes pc = .ok (.iload_n i, 1)) (hq : pc + 1 = q) (hl : L[i.val]? = some (.val (.int v))) (K : oGo Z own nm bytes ml ret R n0 Q k n h q L (.int v :: S)) : oGo Z own nm bytes ml ret R n0 Q k n h pc L S := by
  subst hq; exact oGo.st (fun p e m below c T hx hby hA t k => XS.iloadN hA hx rfl (hb hby hd) hl k) K
theorem oGo.istore {i : Nat} {v : Int32} (hd : decode bytes pc = .ok (.istore i, 2)) (hq : pc + 2 = q) (hl : storeLocals L i (.int v) = some L') (K : oGo Z own nm bytes ml ret R n0 Q k n h q L' S) : oGo Z own nm bytes ml ret R n0 Q k n h pc L (.int v :: S) := by
  subst hq; exact oGo.st (fun p e m below c T hx hby hA t k => XS.istore hA hx rfl (hb hby hd) rfl hl k) K
theorem oGo.istoreN {i : Fin 4} {v : Int32} (hd : decode bytes pc = .ok (.istore_n i, 1)) (hq : pc + 1 = q) (hl : storeLocals L i.val (.int v) = some L') (K : oGo Z own nm bytes ml ret R n0 Q k n h q L' S) : oGo Z own nm bytes ml ret R n0 Q k n h pc L (.int v :: S) := by
  subst hq; exact oGo.st (fun p e m below c T hx hby hA t k => XS.istoreN hA hx rfl (hb hby hd) rfl hl k) K
theorem oGo.lload {i : Nat} {v : Int64} (hd : decode bytes pc = .ok (.lload i, 2)) (hq : pc + 2 = q) (hl : L[i]? = some (.val (.long v))) (K : oGo Z own nm bytes ml ret R n0 Q k n h q L (.long v :: S)) : oGo Z own nm bytes ml ret R n0 Q k n h pc L S := by
  subst hq; exact oGo.st (fun p e m below c T hx hby hA t k => XS.lload hA hx rfl (hb hby hd) hl k) K
theorem oGo.lloadN {i : Fin 4} {v : Int64} (hd : decode bytes pc = .ok (.lload_n i, 1)) (hq : pc + 1 = q) (hl : L[i.val]? = some (.val (.long v))) (K : oGo Z own nm bytes ml ret R n0 Q k n h q L (.long v :: S)) : oGo Z own nm bytes ml ret R n0 Q k n h pc L S := by
  subst hq; exact oGo.st (fun p e m below c T hx hby hA t k => XS.lloadN hA hx rfl (hb hby hd) hl k) K
theorem oGo.lstore {i : Nat} {v : Int64} (hd : decode bytes pc = .ok (.lstore i, 2)) (hq : pc + 2 = q) (hl : storeLocals L i (.long v) = some L') (K : oGo Z own nm bytes ml ret R n0 Q k n h q L' S) : oGo Z own nm bytes ml ret R n0 Q k n h pc L (.long v :: S) := by
  subst hq; exact oGo.st (fun p e m below c T hx hby hA t k => XS.lstore hA hx rfl (hb hby hd) rfl hl k) K
theorem oGo.lstoreN {i : Fin 4} {v : Int64} (hd : decode bytes pc = .ok (.lstore_n i, 1)) (hq : pc + 1 = q) (hl : storeLocals L i.val (.long v) = some L') (K : oGo Z own nm bytes ml ret R n0 Q k n h q L' S) : oGo Z own nm bytes ml ret R n0 Q k n h pc L (.long v :: S) := by
  subst hq; exact oGo.st (fun p e m below c T hx hby hA t k => XS.lstoreN hA hx rfl (hb hby hd) rfl hl k) K
theorem oGo.aload {i : Nat} {v : Value} (hd : decode bytes pc = .ok (.aload i, 2)) (hq : pc + 2 = q) (hl : L[i]? = some (.val v)) (hv : v.isRef = true) (K : oGo Z own nm bytes ml ret R n0 Q k n h q L (v :: S)) : oGo Z own nm bytes ml ret R n0 Q k n h pc L S := by
  subst hq; exact oGo.st (fun p e m below c T hx hby hA t k => XS.aload hA hx rfl (hb hby hd) hl hv k) K
theorem oGo.aloadN {i : Fin 4} {v : Value} (hd : decode bytes pc = .ok (.aload_n i, 1)) (hq : pc + 1 = q) (hl : L[i.val]? = some (.val v)) (hv : v.isRef = true) (K : oGo Z own nm bytes ml ret R n0 Q k n h q L (v :: S)) : oGo Z own nm bytes ml ret R n0 Q k n h pc L S := by
  subst hq; exact oGo.st (fun p e m below c T hx hby hA t k => XS.aloadN hA hx rfl (hb hby hd) hl hv k) K
theorem oGo.astore {i : Nat} {v : Value} (hd : decode bytes pc = .ok (.astore i, 2)) (hq : pc + 2 = q) (hv : v.isRef = true) (hl : storeLocals L i v = some L') (K : oGo Z own nm bytes ml ret R n0 Q k n h q L' S) : oGo Z own nm bytes ml ret R n0 Q k n h pc L (v :: S) := by
  subst hq; exact oGo.st (fun p e m below c T hx hby hA t k => XS.astore hA hx rfl (hb hby hd) rfl hv hl k) K
theorem oGo.astoreN {i : Fin 4} {v : Value} (hd : decode bytes pc = .ok (.astore_n i, 1)) (hq : pc + 1 = q) (hv : v.isRef = true) (hl : storeLocals L i.val v = some L') (K : oGo Z own nm bytes ml ret R n0 Q k n h q L' S) : oGo Z own nm bytes ml ret R n0 Q k n h pc L (v :: S) := by
  subst hq; exact oGo.st (fun p e m below c T hx hby hA t k => XS.astoreN hA hx rfl (hb hby hd) rfl hv hl k) K
theorem oGo.iinc {i : Nat} {cst : Int} {x v : Int32} (hd : decode bytes pc = .ok (.iinc i cst, 3)) (hq : pc + 3 = q) (hl : L[i]? = some (.val (.int x))) (hv : x + Int32.ofInt cst = v) (hs : storeLocals L i (.int v) = some L') (K : oGo Z own nm bytes ml ret R n0 Q k n h q L' S) : oGo Z own nm bytes ml ret R n0 Q k n h pc L S := by
  subst hq hv; exact oGo.st (fun p e m below c T hx hby hA t k => XS.iinc hA hx rfl (hb hby hd) hl hs k) K
theorem oGo.dup {v : Value} (hd : decode bytes pc = .ok (.dup, 1)) (hq : pc + 1 = q) (hc : v.category = 1) (K : oGo Z own nm bytes ml ret R n0 Q k n h q L (v :: v :: S)) : oGo Z own nm bytes ml ret R n0 Q k n h pc L (v :: S) := by
  subst hq; exact oGo.st (fun p e m below c T hx hby hA t k => XS.dup hA hx rfl (hb hby hd) rfl hc k) K
theorem oGo.dupX1 {v w : Value} (hd : decode bytes pc = .ok (.dup_x1, 1)) (hq : pc + 1 = q) (hc : v.category = 1) (hc' : w.category = 1) (K : oGo Z own nm bytes ml ret R n0 Q k n h q L (v :: w :: v :: S)) : oGo Z own nm bytes ml ret R n0 Q k n h pc L (v :: w :: S) := by
  subst hq; exact oGo.st (fun p e m below c T hx hby hA t k => XS.dupX1 hA hx rfl (hb hby hd) rfl hc hc' k) K
theorem oGo.dup2 {v w : Value} (hd : decode bytes pc = .ok (.dup2, 1)) (hq : pc + 1 = q) (hc : v.category = 1) (hc' : w.category = 1) (K : oGo Z own nm bytes ml ret R n0 Q k n h q L (v :: w :: v :: w :: S)) : oGo Z own nm bytes ml ret R n0 Q k n h pc L (v :: w :: S) := by
  subst hq; exact oGo.st (fun p e m below c T hx hby hA t k => XT.dup2 hA hx rfl (hb hby hd) rfl hc hc' k) K
theorem oGo.pop {v : Value} (hd : decode bytes pc = .ok (.pop, 1)) (hq : pc + 1 = q) (hc : v.category = 1) (K : oGo Z own nm bytes ml ret R n0 Q k n h q L S) : oGo Z own nm bytes ml ret R n0 Q k n h pc L (v :: S) := by
  subst hq; exact oGo.st (fun p e m below c T hx hby hA t k => XS.pop hA hx rfl (hb hby hd) rfl hc k) K
theorem oGo.goto {o : Int} (hd : decode bytes pc = .ok (.goto o, 3)) (hq : (pc : Int) + o = (q : Int)) (K : oGo Z own nm bytes ml ret R n0 Q k n h q L S) : oGo Z own nm bytes ml ret R n0 Q k n h pc L S :=
  oGo.st (fun p e m below c T hx hby hA t k => XS.goto hA hx rfl (pc0 := pc) (pc' := q) rfl (hb hby hd) (by omega) (by omega) k) K
theorem oGo.ifnonnullYes {o : Int} {b : Addr} (hd : decode bytes pc = .ok (.ifnonnull o, 3)) (hq : (pc : Int) + o = (q : Int)) (K : oGo Z own nm bytes ml ret R n0 Q k n h q L S) : oGo Z own nm bytes ml ret R n0 Q k n h pc L (.ref b :: S) :=
  oGo.st (fun p e m below c T hx hby hA t k => XS.ifnonnullYes hA hx rfl (pc0 := pc) (pc' := q) rfl (hb hby hd) rfl (by omega) (by omega) k) K
theorem oGo.lcmp {x y : Int64} (hd : decode bytes pc = .ok (.lcmp, 1)) (hq : pc + 1 = q) (K : oGo Z own nm bytes ml ret R n0 Q k n h q L (.int (lcmpW x y) :: S)) : oGo Z own nm bytes ml ret R n0 Q k n h pc L (.long y :: .long x :: S) := by
  subst hq; exact oGo.st (fun p e m below c T hx hby hA t k => XS.lcmp hA hx rfl (hb hby hd) rfl k) K
theorem own_hlt {x y : Int32} : (x.toInt < y.toInt → if_icmp.holds .lt x y = true) ∧ (y.toInt ≤ x.toInt → if_icmp.holds .lt x y = false) :=
  ⟨fun hc => (tlt (Int32.lt_iff_toInt_lt.mpr hc)).1, fun hc => (flt (fun z => by have := Int32.lt_iff_toInt_lt.mp z; omega)).1⟩
theorem own_dlt (x y : Int32) : (x.toInt < y.toInt) ∨ (y.toInt ≤ x.toInt) := by omega
theorem own_elt (x y : Int64) : (x.toInt < y.toInt) ∨ (y.toInt ≤ x.toInt) := by omega
theorem oGo.icmp_lt {o : Int} {x y : Int32} (hd : decode bytes pc = .ok (.if_icmp .lt o, 3)) (hq : (pc : Int) + o = (q : Int)) (hr : pc + 3 = r) (K1 : x.toInt < y.toInt → oGo Z own nm bytes ml ret R n0 Q k n h q L S) (K2 : y.toInt ≤ x.toInt → oGo Z own nm bytes ml ret R n0 Q k n h r L S) : oGo Z own nm bytes ml ret R n0 Q k n h pc L (.int y :: .int x :: S) := by
  rcases own_dlt x y with hc | hc
  · exact oGo.st (fun p e m below c T hx hby hA t k => XS.icmpYes hA hx rfl (pc0 := pc) (pc' := q) rfl (hb hby hd) rfl (own_hlt.1 hc) (by omega) (by omega) k) (K1 hc)
  · subst hr; exact oGo.st (fun p e m below c T hx hby hA t k => XS.icmpNo hA hx rfl (hb hby hd) rfl (own_hlt.2 hc) k) (K2 hc)
theorem oGo.if_lt {o : Int} {x : Int32} (hd : decode bytes pc = .ok (.ifCond .lt o, 3)) (hq : (pc : Int) + o = (q : Int)) (hr : pc + 3 = r) (K1 : x.toInt < 0 → oGo Z own nm bytes ml ret R n0 Q k n h q L S) (K2 : 0 ≤ x.toInt → oGo Z own nm bytes ml ret R n0 Q k n h r L S) : oGo Z own nm bytes ml ret R n0 Q k n h pc L (.int x :: S) := by
  rcases own_dlt x 0 with hc | hc
  · exact oGo.st (fun p e m below c T hx hby hA t k => XS.ifYes hA hx rfl (pc0 := pc) (pc' := q) rfl (hb hby hd) rfl ((if0 _ _).trans (own_hlt.1 hc)) (by omega) (by omega) k) (K1 hc)
  · subst hr; exact oGo.st (fun p e m below c T hx hby hA t k => XS.ifNo hA hx rfl (hb hby hd) rfl ((if0 _ _).trans (own_hlt.2 hc)) k) (K2 hc)
theorem own_llt {x y : Int64} : (x.toInt < y.toInt → (lcmpW x y).toInt < 0) ∧ (y.toInt ≤ x.toInt → 0 ≤ (lcmpW x y).toInt) := by
  obtain ⟨h1, h2, h3⟩ := c_lcmp x y
  refine ⟨fun hc => ?_, fun hc => ?_⟩ <;> (rcases Int.lt_trichotomy x.toInt y.toInt with u | u | u <;> simp_all <;> omega)
theorem oGo.lif_lt {o : Int} {x y : Int64} {pc2 : Nat} (hd : decode bytes pc = .ok (.lcmp, 1)) (h1 : pc + 1 = pc2) (hd2 : decode bytes pc2 = .ok (.ifCond .lt o, 3)) (hq : (pc2 : Int) + o = (q : Int)) (hr : pc2 + 3 = r) (K1 : x.toInt < y.toInt → oGo Z own nm bytes ml ret R n0 Q k n h q L S) (K2 : y.toInt ≤ x.toInt → oGo Z own nm bytes ml ret R n0 Q k n h r L S) : oGo Z own nm bytes ml ret R n0 Q k n h pc L (.long y :: .long x :: S) := by
  refine oGo.lcmp hd h1 (oGo.if_lt hd2 hq hr (fun hc => ?_) (fun hc => ?_))
  · rcases own_elt x y with u | u
    · exact K1 u
    · have := own_llt.2 u; first | exact absurd hc this | exact absurd this hc | omega
  · rcases own_elt x y with u | u
    · have := own_llt.1 u; first | exact absurd hc this | exact absurd this hc | omega
    · exact K2 u
theorem own_hge {x y : Int32} : (y.toInt ≤ x.toInt → if_icmp.holds .ge x y = true) ∧ (x.toInt < y.toInt → if_icmp.holds .ge x y = false) :=
  ⟨fun hc => (flt (fun z => by have := Int32.lt_iff_toInt_lt.mp z; omega)).2.1, fun hc => (tlt (Int32.lt_iff_toInt_lt.mpr hc)).2.1⟩
theorem own_dge (x y : Int32) : (y.toInt ≤ x.toInt) ∨ (x.toInt < y.toInt) := by omega
theorem own_ege (x y : Int64) : (y.toInt ≤ x.toInt) ∨ (x.toInt < y.toInt) := by omega
theorem oGo.icmp_ge {o : Int} {x y : Int32} (hd : decode bytes pc = .ok (.if_icmp .ge o, 3)) (hq : (pc : Int) + o = (q : Int)) (hr : pc + 3 = r) (K1 : y.toInt ≤ x.toInt → oGo Z own nm bytes ml ret R n0 Q k n h q L S) (K2 : x.toInt < y.toInt → oGo Z own nm bytes ml ret R n0 Q k n h r L S) : oGo Z own nm bytes ml ret R n0 Q k n h pc L (.int y :: .int x :: S) := by
  rcases own_dge x y with hc | hc
  · exact oGo.st (fun p e m below c T hx hby hA t k => XS.icmpYes hA hx rfl (pc0 := pc) (pc' := q) rfl (hb hby hd) rfl (own_hge.1 hc) (by omega) (by omega) k) (K1 hc)
  · subst hr; exact oGo.st (fun p e m below c T hx hby hA t k => XS.icmpNo hA hx rfl (hb hby hd) rfl (own_hge.2 hc) k) (K2 hc)
theorem oGo.if_ge {o : Int} {x : Int32} (hd : decode bytes pc = .ok (.ifCond .ge o, 3)) (hq : (pc : Int) + o = (q : Int)) (hr : pc + 3 = r) (K1 : 0 ≤ x.toInt → oGo Z own nm bytes ml ret R n0 Q k n h q L S) (K2 : x.toInt < 0 → oGo Z own nm bytes ml ret R n0 Q k n h r L S) : oGo Z own nm bytes ml ret R n0 Q k n h pc L (.int x :: S) := by
  rcases own_dge x 0 with hc | hc
  · exact oGo.st (fun p e m below c T hx hby hA t k => XS.ifYes hA hx rfl (pc0 := pc) (pc' := q) rfl (hb hby hd) rfl ((if0 _ _).trans (own_hge.1 hc)) (by omega) (by omega) k) (K1 hc)
  · subst hr; exact oGo.st (fun p e m below c T hx hby hA t k => XS.ifNo hA hx rfl (hb hby hd) rfl ((if0 _ _).trans (own_hge.2 hc)) k) (K2 hc)
theorem own_lge {x y : Int64} : (y.toInt ≤ x.toInt → 0 ≤ (lcmpW x y).toInt) ∧ (x.toInt < y.toInt → (lcmpW x y).toInt < 0) := by
  obtain ⟨h1, h2, h3⟩ := c_lcmp x y
  refine ⟨fun hc => ?_, fun hc => ?_⟩ <;> (rcases Int.lt_trichotomy x.toInt y.toInt with u | u | u <;> simp_all <;> omega)
theorem oGo.lif_ge {o : Int} {x y : Int64} {pc2 : Nat} (hd : decode bytes pc = .ok (.lcmp, 1)) (h1 : pc + 1 = pc2) (hd2 : decode bytes pc2 = .ok (.ifCond .ge o, 3)) (hq : (pc2 : Int) + o = (q : Int)) (hr : pc2 + 3 = r) (K1 : y.toInt ≤ x.toInt → oGo Z own nm bytes ml ret R n0 Q k n h q L S) (K2 : x.toInt < y.toInt → oGo Z own nm bytes ml ret R n0 Q k n h r L S) : oGo Z own nm bytes ml ret R n0 Q k n h pc L (.long y :: .long x :: S) := by
  refine oGo.lcmp hd h1 (oGo.if_ge hd2 hq hr (fun hc => ?_) (fun hc => ?_))
  · rcases own_ege x y with u | u
    · exact K1 u
    · have := own_lge.2 u; first | exact absurd hc this | exact absurd this hc | omega
  · rcases own_ege x y with u | u
    · have := own_lge.1 u; first | exact absurd hc this | exact absurd this hc | omega
    · exact K2 u
theorem own_hgt {x y : Int32} : (y.toInt < x.toInt → if_icmp.holds .gt x y = true) ∧ (x.toInt ≤ y.toInt → if_icmp.holds .gt x y = false) :=
  ⟨fun hc => (tlt (Int32.lt_iff_toInt_lt.mpr hc)).2.2.1, fun hc => (flt (fun z => by have := Int32.lt_iff_toInt_lt.mp z; omega)).2.2.1⟩
theorem own_dgt (x y : Int32) : (y.toInt < x.toInt) ∨ (x.toInt ≤ y.toInt) := by omega
theorem own_egt (x y : Int64) : (y.toInt < x.toInt) ∨ (x.toInt ≤ y.toInt) := by omega
theorem oGo.icmp_gt {o : Int} {x y : Int32} (hd : decode bytes pc = .ok (.if_icmp .gt o, 3)) (hq : (pc : Int) + o = (q : Int)) (hr : pc + 3 = r) (K1 : y.toInt < x.toInt → oGo Z own nm bytes ml ret R n0 Q k n h q L S) (K2 : x.toInt ≤ y.toInt → oGo Z own nm bytes ml ret R n0 Q k n h r L S) : oGo Z own nm bytes ml ret R n0 Q k n h pc L (.int y :: .int x :: S) := by
  rcases own_dgt x y with hc | hc
  · exact oGo.st (fun p e m below c T hx hby hA t k => XS.icmpYes hA hx rfl (pc0 := pc) (pc' := q) rfl (hb hby hd) rfl (own_hgt.1 hc) (by omega) (by omega) k) (K1 hc)
  · subst hr; exact oGo.st (fun p e m below c T hx hby hA t k => XS.icmpNo hA hx rfl (hb hby hd) rfl (own_hgt.2 hc) k) (K2 hc)
theorem oGo.if_gt {o : Int} {x : Int32} (hd : decode bytes pc = .ok (.ifCond .gt o, 3)) (hq : (pc : Int) + o = (q : Int)) (hr : pc + 3 = r) (K1 : 0 < x.toInt → oGo Z own nm bytes ml ret R n0 Q k n h q L S) (K2 : x.toInt ≤ 0 → oGo Z own nm bytes ml ret R n0 Q k n h r L S) : oGo Z own nm bytes ml ret R n0 Q k n h pc L (.int x :: S) := by
  rcases own_dgt x 0 with hc | hc
  · exact oGo.st (fun p e m below c T hx hby hA t k => XS.ifYes hA hx rfl (pc0 := pc) (pc' := q) rfl (hb hby hd) rfl ((if0 _ _).trans (own_hgt.1 hc)) (by omega) (by omega) k) (K1 hc)
  · subst hr; exact oGo.st (fun p e m below c T hx hby hA t k => XS.ifNo hA hx rfl (hb hby hd) rfl ((if0 _ _).trans (own_hgt.2 hc)) k) (K2 hc)
theorem own_lgt {x y : Int64} : (y.toInt < x.toInt → 0 < (lcmpW x y).toInt) ∧ (x.toInt ≤ y.toInt → (lcmpW x y).toInt ≤ 0) := by
  obtain ⟨h1, h2, h3⟩ := c_lcmp x y
  refine ⟨fun hc => ?_, fun hc => ?_⟩ <;> (rcases Int.lt_trichotomy x.toInt y.toInt with u | u | u <;> simp_all <;> omega)
theorem oGo.lif_gt {o : Int} {x y : Int64} {pc2 : Nat} (hd : decode bytes pc = .ok (.lcmp, 1)) (h1 : pc + 1 = pc2) (hd2 : decode bytes pc2 = .ok (.ifCond .gt o, 3)) (hq : (pc2 : Int) + o = (q : Int)) (hr : pc2 + 3 = r) (K1 : y.toInt < x.toInt → oGo Z own nm bytes ml ret R n0 Q k n h q L S) (K2 : x.toInt ≤ y.toInt → oGo Z own nm bytes ml ret R n0 Q k n h r L S) : oGo Z own nm bytes ml ret R n0 Q k n h pc L (.long y :: .long x :: S) := by
  refine oGo.lcmp hd h1 (oGo.if_gt hd2 hq hr (fun hc => ?_) (fun hc => ?_))
  · rcases own_egt x y with u | u
    · exact K1 u
    · have := own_lgt.2 u; first | exact absurd hc this | exact absurd this hc | omega
  · rcases own_egt x y with u | u
    · have := own_lgt.1 u; first | exact absurd hc this | exact absurd this hc | omega
    · exact K2 u
theorem own_hle {x y : Int32} : (x.toInt ≤ y.toInt → if_icmp.holds .le x y = true) ∧ (y.toInt < x.toInt → if_icmp.holds .le x y = false) :=
  ⟨fun hc => (flt (fun z => by have := Int32.lt_iff_toInt_lt.mp z; omega)).2.2.2, fun hc => (tlt (Int32.lt_iff_toInt_lt.mpr hc)).2.2.2⟩
theorem own_dle (x y : Int32) : (x.toInt ≤ y.toInt) ∨ (y.toInt < x.toInt) := by omega
theorem own_ele (x y : Int64) : (x.toInt ≤ y.toInt) ∨ (y.toInt < x.toInt) := by omega
theorem oGo.icmp_le {o : Int} {x y : Int32} (hd : decode bytes pc = .ok (.if_icmp .le o, 3)) (hq : (pc : Int) + o = (q : Int)) (hr : pc + 3 = r) (K1 : x.toInt ≤ y.toInt → oGo Z own nm bytes ml ret R n0 Q k n h q L S) (K2 : y.toInt < x.toInt → oGo Z own nm bytes ml ret R n0 Q k n h r L S) : oGo Z own nm bytes ml ret R n0 Q k n h pc L (.int y :: .int x :: S) := by
  rcases own_dle x y with hc | hc
  · exact oGo.st (fun p e m below c T hx hby hA t k => XS.icmpYes hA hx rfl (pc0 := pc) (pc' := q) rfl (hb hby hd) rfl (own_hle.1 hc) (by omega) (by omega) k) (K1 hc)
  · subst hr; exact oGo.st (fun p e m below c T hx hby hA t k => XS.icmpNo hA hx rfl (hb hby hd) rfl (own_hle.2 hc) k) (K2 hc)
theorem oGo.if_le {o : Int} {x : Int32} (hd : decode bytes pc = .ok (.ifCond .le o, 3)) (hq : (pc : Int) + o = (q : Int)) (hr : pc + 3 = r) (K1 : x.toInt ≤ 0 → oGo Z own nm bytes ml ret R n0 Q k n h q L S) (K2 : 0 < x.toInt → oGo Z own nm bytes ml ret R n0 Q k n h r L S) : oGo Z own nm bytes ml ret R n0 Q k n h pc L (.int x :: S) := by
  rcases own_dle x 0 with hc | hc
  · exact oGo.st (fun p e m below c T hx hby hA t k => XS.ifYes hA hx rfl (pc0 := pc) (pc' := q) rfl (hb hby hd) rfl ((if0 _ _).trans (own_hle.1 hc)) (by omega) (by omega) k) (K1 hc)
  · subst hr; exact oGo.st (fun p e m below c T hx hby hA t k => XS.ifNo hA hx rfl (hb hby hd) rfl ((if0 _ _).trans (own_hle.2 hc)) k) (K2 hc)
theorem own_lle {x y : Int64} : (x.toInt ≤ y.toInt → (lcmpW x y).toInt ≤ 0) ∧ (y.toInt < x.toInt → 0 < (lcmpW x y).toInt) := by
  obtain ⟨h1, h2, h3⟩ := c_lcmp x y
  refine ⟨fun hc => ?_, fun hc => ?_⟩ <;> (rcases Int.lt_trichotomy x.toInt y.toInt with u | u | u <;> simp_all <;> omega)
theorem oGo.lif_le {o : Int} {x y : Int64} {pc2 : Nat} (hd : decode bytes pc = .ok (.lcmp, 1)) (h1 : pc + 1 = pc2) (hd2 : decode bytes pc2 = .ok (.ifCond .le o, 3)) (hq : (pc2 : Int) + o = (q : Int)) (hr : pc2 + 3 = r) (K1 : x.toInt ≤ y.toInt → oGo Z own nm bytes ml ret R n0 Q k n h q L S) (K2 : y.toInt < x.toInt → oGo Z own nm bytes ml ret R n0 Q k n h r L S) : oGo Z own nm bytes ml ret R n0 Q k n h pc L (.long y :: .long x :: S) := by
  refine oGo.lcmp hd h1 (oGo.if_le hd2 hq hr (fun hc => ?_) (fun hc => ?_))
  · rcases own_ele x y with u | u
    · exact K1 u
    · have := own_lle.2 u; first | exact absurd hc this | exact absurd this hc | omega
  · rcases own_ele x y with u | u
    · have := own_lle.1 u; first | exact absurd hc this | exact absurd this hc | omega
    · exact K2 u
theorem own_heq {x y : Int32} : (x = y → if_icmp.holds .eq x y = true) ∧ (x ≠ y → if_icmp.holds .eq x y = false) :=
  ⟨fun hc => (teq hc).1, fun hc => (feq hc).1⟩
theorem own_deq (x y : Int32) : (x = y) ∨ (x ≠ y) := by exact Decidable.em _
theorem own_eeq (x y : Int64) : (x = y) ∨ (x ≠ y) := by exact Decidable.em _
theorem oGo.icmp_eq {o : Int} {x y : Int32} (hd : decode bytes pc = .ok (.if_icmp .eq o, 3)) (hq : (pc : Int) + o = (q : Int)) (hr : pc + 3 = r) (K1 : x = y → oGo Z own nm bytes ml ret R n0 Q k n h q L S) (K2 : x ≠ y → oGo Z own nm bytes ml ret R n0 Q k n h r L S) : oGo Z own nm bytes ml ret R n0 Q k n h pc L (.int y :: .int x :: S) := by
  rcases own_deq x y with hc | hc
  · exact oGo.st (fun p e m below c T hx hby hA t k => XS.icmpYes hA hx rfl (pc0 := pc) (pc' := q) rfl (hb hby hd) rfl (own_heq.1 hc) (by omega) (by omega) k) (K1 hc)
  · subst hr; exact oGo.st (fun p e m below c T hx hby hA t k => XS.icmpNo hA hx rfl (hb hby hd) rfl (own_heq.2 hc) k) (K2 hc)
theorem oGo.if_eq {o : Int} {x : Int32} (hd : decode bytes pc = .ok (.ifCond .eq o, 3)) (hq : (pc : Int) + o = (q : Int)) (hr : pc + 3 = r) (K1 : x = 0 → oGo Z own nm bytes ml ret R n0 Q k n h q L S) (K2 : x ≠ 0 → oGo Z own nm bytes ml ret R n0 Q k n h r L S) : oGo Z own nm bytes ml ret R n0 Q k n h pc L (.int x :: S) := by
  rcases own_deq x 0 with hc | hc
  · exact oGo.st (fun p e m below c T hx hby hA t k => XS.ifYes hA hx rfl (pc0 := pc) (pc' := q) rfl (hb hby hd) rfl ((if0 _ _).trans (own_heq.1 hc)) (by omega) (by omega) k) (K1 hc)
  · subst hr; exact oGo.st (fun p e m below c T hx hby hA t k => XS.ifNo hA hx rfl (hb hby hd) rfl ((if0 _ _).trans (own_heq.2 hc)) k) (K2 hc)
theorem own_leq {x y : Int64} : (x = y → lcmpW x y = 0) ∧ (x ≠ y → lcmpW x y ≠ 0) := by
  obtain ⟨h1, h2, h3⟩ := c_lcmp x y
  refine ⟨fun hc => ?_, fun hc => ?_⟩ <;> (first | exact (lw_eq x y).mpr hc | exact fun z => hc ((lw_eq x y).mp z))
theorem oGo.lif_eq {o : Int} {x y : Int64} {pc2 : Nat} (hd : decode bytes pc = .ok (.lcmp, 1)) (h1 : pc + 1 = pc2) (hd2 : decode bytes pc2 = .ok (.ifCond .eq o, 3)) (hq : (pc2 : Int) + o = (q : Int)) (hr : pc2 + 3 = r) (K1 : x = y → oGo Z own nm bytes ml ret R n0 Q k n h q L S) (K2 : x ≠ y → oGo Z own nm bytes ml ret R n0 Q k n h r L S) : oGo Z own nm bytes ml ret R n0 Q k n h pc L (.long y :: .long x :: S) := by
  refine oGo.lcmp hd h1 (oGo.if_eq hd2 hq hr (fun hc => ?_) (fun hc => ?_))
  · rcases own_eeq x y with u | u
    · exact K1 u
    · have := own_leq.2 u; first | exact absurd hc this | exact absurd this hc | omega
  · rcases own_eeq x y with u | u
    · have := own_leq.1 u; first | exact absurd hc this | exact absurd this hc | omega
    · exact K2 u
theorem own_hne {x y : Int32} : (x ≠ y → if_icmp.holds .ne x y = true) ∧ (x = y → if_icmp.holds .ne x y = false) :=
  ⟨fun hc => (feq hc).2, fun hc => (teq hc).2⟩
theorem own_dne (x y : Int32) : (x ≠ y) ∨ (x = y) := by exact (Decidable.em _).symm
theorem own_ene (x y : Int64) : (x ≠ y) ∨ (x = y) := by exact (Decidable.em _).symm
theorem oGo.icmp_ne {o : Int} {x y : Int32} (hd : decode bytes pc = .ok (.if_icmp .ne o, 3)) (hq : (pc : Int) + o = (q : Int)) (hr : pc + 3 = r) (K1 : x ≠ y → oGo Z own nm bytes ml ret R n0 Q k n h q L S) (K2 : x = y → oGo Z own nm bytes ml ret R n0 Q k n h r L S) : oGo Z own nm bytes ml ret R n0 Q k n h pc L (.int y :: .int x :: S) := by
  rcases own_dne x y with hc | hc
  · exact oGo.st (fun p e m below c T hx hby hA t k => XS.icmpYes hA hx rfl (pc0 := pc) (pc' := q) rfl (hb hby hd) rfl (own_hne.1 hc) (by omega) (by omega) k) (K1 hc)
  · subst hr; exact oGo.st (fun p e m below c T hx hby hA t k => XS.icmpNo hA hx rfl (hb hby hd) rfl (own_hne.2 hc) k) (K2 hc)
theorem oGo.if_ne {o : Int} {x : Int32} (hd : decode bytes pc = .ok (.ifCond .ne o, 3)) (hq : (pc : Int) + o = (q : Int)) (hr : pc + 3 = r) (K1 : x ≠ 0 → oGo Z own nm bytes ml ret R n0 Q k n h q L S) (K2 : x = 0 → oGo Z own nm bytes ml ret R n0 Q k n h r L S) : oGo Z own nm bytes ml ret R n0 Q k n h pc L (.int x :: S) := by
  rcases own_dne x 0 with hc | hc
  · exact oGo.st (fun p e m below c T hx hby hA t k => XS.ifYes hA hx rfl (pc0 := pc) (pc' := q) rfl (hb hby hd) rfl ((if0 _ _).trans (own_hne.1 hc)) (by omega) (by omega) k) (K1 hc)
  · subst hr; exact oGo.st (fun p e m below c T hx hby hA t k => XS.ifNo hA hx rfl (hb hby hd) rfl ((if0 _ _).trans (own_hne.2 hc)) k) (K2 hc)
theorem own_lne {x y : Int64} : (x ≠ y → lcmpW x y ≠ 0) ∧ (x = y → lcmpW x y = 0) := by
  obtain ⟨h1, h2, h3⟩ := c_lcmp x y
  refine ⟨fun hc => ?_, fun hc => ?_⟩ <;> (first | exact (lw_eq x y).mpr hc | exact fun z => hc ((lw_eq x y).mp z))
theorem oGo.lif_ne {o : Int} {x y : Int64} {pc2 : Nat} (hd : decode bytes pc = .ok (.lcmp, 1)) (h1 : pc + 1 = pc2) (hd2 : decode bytes pc2 = .ok (.ifCond .ne o, 3)) (hq : (pc2 : Int) + o = (q : Int)) (hr : pc2 + 3 = r) (K1 : x ≠ y → oGo Z own nm bytes ml ret R n0 Q k n h q L S) (K2 : x = y → oGo Z own nm bytes ml ret R n0 Q k n h r L S) : oGo Z own nm bytes ml ret R n0 Q k n h pc L (.long y :: .long x :: S) := by
  refine oGo.lcmp hd h1 (oGo.if_ne hd2 hq hr (fun hc => ?_) (fun hc => ?_))
  · rcases own_ene x y with u | u
    · exact K1 u
    · have := own_lne.2 u; first | exact absurd hc this | exact absurd this hc | omega
  · rcases own_ene x y with u | u
    · have := own_lne.1 u; first | exact absurd hc this | exact absurd this hc | omega
    · exact K2 u
theorem oGo.ldc2 {i : Nat} {v : Int64} (hd : decode bytes pc = .ok (.ldc2_w i, 3)) (hq : pc + 3 = q) (w : (Cond.constantLong own i v).before a0 Z = true) (K : oGo Z own nm bytes ml ret R n0 Q k n h q L (.long v :: S)) : oGo Z own nm bytes ml ret R n0 Q k n h pc L S :=
  fun p l e s m args below meth c T locs C X eT N => by
    obtain ⟨hx, hZ, hby, hml, hown, hret, hlk, hnm⟩ := C
    subst hq
    obtain ⟨s₂, o, h1, r⟩ := K p l e s m args below meth c T locs ⟨hx, hZ, hby, hml, hown, hret, hlk, hnm⟩ X eT N
    exact ⟨s₂, o, X.ldc2Long hx hown (mvT hZ w) (g := mkF m pc L S) rfl (hb hby hd) _ h1, r⟩
theorem oGo.ldcI {i : Nat} {v : Int32} (hd : decode bytes pc = .ok (.ldc i, 2)) (hq : pc + 2 = q) (w : (Cond.constant own i v).before a0 Z = true) (K : oGo Z own nm bytes ml ret R n0 Q k n h q L (.int v :: S)) : oGo Z own nm bytes ml ret R n0 Q k n h pc L S :=
  fun p l e s m args below meth c T locs C X eT N => by
    obtain ⟨hx, hZ, hby, hml, hown, hret, hlk, hnm⟩ := C
    subst hq
    obtain ⟨s₂, o, h1, r⟩ := K p l e s m args below meth c T locs ⟨hx, hZ, hby, hml, hown, hret, hlk, hnm⟩ X eT N
    exact ⟨s₂, o, X.ldcInt hx hown (mvT hZ w) (g := mkF m pc L S) rfl (hb hby hd) _ h1, r⟩
/-! the returns -/
theorem own_end {p : Program} {l : Launch} {e : Env} {s : State} {m : MethodId} {args : Array Value} {below : List Frame} {meth : Method} {c : Code} {T : State} {locs : List Loc} (X : Stand p l e R s m args below meth c T locs k n) (hlk : meth.locks = false) {v : Option Value} (hv : meth.sig.returnType = none → v = none) (hk : k ≤ R.cells) (hn : n ≤ R.slots) (N : Fr n0 locs) (hQ : Q v T.heap) {g : JFrame}
    (H : ∀ fs, (∀ (f : JFrame) (acts : List Action), f.method = m → f.locked = none → f.entered = [] → (doReturn e (T.setTop f) acts v).1 = T.setFrames fs) → Steps p.tables e below (T.setTop g) (T.setFrames fs)) :
    ∃ s₂ o, Steps p.tables e below (T.setTop g) s₂ ∧ s₂.status = .running ∧ Ended s₂ below o ∧ ∃ v L', o = .returned v ∧ (Q v s₂.heap ∧ Fr n0 L') ∧ FrameEnd s o s₂ L' R.cells R.slots := by
  obtain ⟨fs, hr, hrun, hended, hW, hsame⟩ := X.leave hv hlk
  exact ⟨_, _, H fs hr, hrun, hended, _, _, rfl, ⟨hQ, N⟩, ⟨_, rfl⟩, hW, hsame.mono hk hn⟩
theorem oGo.retI {z : Int32} (hd : decode bytes pc = .ok (.ireturn, 1)) (hret : ret = some .int) (hk : k ≤ R.cells) (hn : n ≤ R.slots) (hQ : Q (some (.int z)) h) : oGo Z own nm bytes ml ret R n0 Q k n h pc L (.int z :: S) :=
  fun p l e s m args below meth c T locs C X eT N => by
    obtain ⟨hx, hZ, hby, hml, hown, hrt, hlk, hnm⟩ := C
    subst eT
    exact own_end X hlk (fun u => by rw [hrt, hret] at u; cases u) hk hn N hQ fun fs hr => retOut X hx (hrt.trans hret) rfl (Or.inl ⟨rfl, Or.inl rfl, z, rfl⟩) (hb hby hd) hr
theorem oGo.retN {z : Int32} {t : FieldType} (hd : decode bytes pc = .ok (.ireturn, 1)) (hret : ret = some t) (ht : t = .boolean ∨ t = .byte ∨ t = .char ∨ t = .short) (hk : k ≤ R.cells) (hn : n ≤ R.slots) (hQ : Q (some (.int (nar t z))) h) : oGo Z own nm bytes ml ret R n0 Q k n h pc L (.int z :: S) :=
  fun p l e s m args below meth c T locs C X eT N => by
    obtain ⟨hx, hZ, hby, hml, hown, hrt, hlk, hnm⟩ := C
    subst eT
    exact own_end X hlk (fun u => by rw [hrt, hret] at u; cases u) hk hn N hQ fun fs hr => Jvm.RoadKit.retN X hx (hrt.trans hret) ht (hb hby hd) hr
theorem oGo.retJ {z : Int64} (hd : decode bytes pc = .ok (.lreturn, 1)) (hret : ret = some .long) (hk : k ≤ R.cells) (hn : n ≤ R.slots) (hQ : Q (some (.long z)) h) : oGo Z own nm bytes ml ret R n0 Q k n h pc L (.long z :: S) :=
  fun p l e s m args below meth c T locs C X eT N => by
    obtain ⟨hx, hZ, hby, hml, hown, hrt, hlk, hnm⟩ := C
    subst eT
    exact own_end X hlk (fun u => by rw [hrt, hret] at u; cases u) hk hn N hQ fun fs hr => retOut X hx (hrt.trans hret) rfl (Or.inr (Or.inl ⟨rfl, rfl, z, rfl⟩)) (hb hby hd) hr
theorem oGo.retA {v : Value} {t : FieldType} (hd : decode bytes pc = .ok (.areturn, 1)) (hret : ret = some t) (ht : t.isReference = true) (hv : v.isRef = true) (hk : k ≤ R.cells) (hn : n ≤ R.slots) (hQ : Q (some v) h) : oGo Z own nm bytes ml ret R n0 Q k n h pc L (v :: S) :=
  fun p l e s m args below meth c T locs C X eT N => by
    obtain ⟨hx, hZ, hby, hml, hown, hrt, hlk, hnm⟩ := C
    subst eT
    exact own_end X hlk (fun u => by rw [hrt, hret] at u; cases u) hk hn N hQ fun fs hr => retOut X hx (hrt.trans hret) (by cases t <;> first | (cases ht; done) | rfl) (Or.inr (Or.inr (Or.inr (Or.inr ⟨rfl, ht, hv⟩)))) (hb hby hd) hr
theorem oGo.retV (hd : decode bytes pc = .ok (.return_, 1)) (hret : ret = none) (hk : k ≤ R.cells) (hn : n ≤ R.slots) (hQ : Q none h) : oGo Z own nm bytes ml ret R n0 Q k n h pc L [] :=
  fun p l e s m args below meth c T locs C X eT N => by
    obtain ⟨hx, hZ, hby, hml, hown, hrt, hlk, hnm⟩ := C
    subst eT
    exact own_end X hlk (fun _ => rfl) hk hn N hQ fun fs hr => X.returnOut hx (hrt.trans hret) (hb hby hd) hr
/-! calls by contract -/
theorem oGo.callS {y : MethodName} {i W : Nat} {bytes' : ByteArray} {ml' : Nat} {ret' : Option FieldType} {rm : Room} {as : Array Value} {Q' : Option Value → Heap → Prop} {ps : List FieldType} {rt : Option FieldType} (argsL rest : List Value) (hd : decode bytes pc = .ok (.invokestatic i, 3)) (hq : pc + 3 = q)
    (w1 : (Cond.methodLink own i y).before a0 Z = true) (w2 : (Cond.static y).before a0 Z = true) (w3 : (Cond.initialized y.cls).before a0 Z = true) (w4 : (Cond.code y bytes' ml' ret').before a0 Z = true) (hy : y.cls ≠ "java/lang/invoke/MethodHandle" ∧ y.cls ≠ "java/lang/invoke/VarHandle")
    (hC : oCon Z y bytes' ml' ret' rm as h n0 Q') (hS : S = argsL.reverse ++ rest) (has : argsL.toArray = as) (hpd : parseMethodDescriptor y.desc = some ⟨ps, rt⟩) (hlen : argsL.length = ps.length) (hL : L.size = ml) (hW : 2 * 0 + (rest.map fun v => v.category).sum ≤ W) (hf : rm.frames + 1 ≤ R.frames) (hl : W + (ml' + 11) + rm.locals ≤ R.locals) (hc : k + rm.cells ≤ R.cells) (hs : n + rm.slots ≤ R.slots)
    (K : ∀ v h', Q' v h' → oGo Z own nm bytes ml ret R n0 Q (k + rm.cells) (n + rm.slots) h' q L (v.toList ++ rest)) : oGo Z own nm bytes ml ret R n0 Q k n h pc L S :=
  fun p l e s m args below meth c T locs C X eT N => by
    obtain ⟨hx, hZ, hby, hml, hown, hrt, hlk, hnm⟩ := C
    subst hq
    obtain ⟨v, _, ⟨T', L2, k2, n2⟩, -, X', ⟨Lc, hQ', l', y', z'⟩, st⟩ := Jvm.LawKit.callS X hx (y := y) hown (mvT hZ w1) (mvT hZ w2) (mvT hZ w3) (mvT hZ w4) hy (backOf (W := W) (Q := fun v h' L => Q' v h' ∧ Fr n0 L) (hC l []) hZ w4 w3 hf hl) (g := mkF m pc L S) rfl (by rw [hml]; exact hL) (argsL := argsL) (rest := rest) (lenOf hpd hlen) hS hW (hb hby hd) (fun _ _ => ⟨has, eT, hc, hs⟩)
    dsimp only [Pt.U, Pt.locs, Pt.cells, Pt.slots] at X' l' y' z' st hQ'
    subst l' y' z'
    obtain ⟨s₂, o, h1, r⟩ := K v T'.heap hQ'.1 p l e s m args below meth c T' _ ⟨hx, hZ, hby, hml, hown, hrt, hlk, hnm⟩ X' rfl (Fr.app N hQ'.2)
    exact ⟨s₂, o, st _ h1, r⟩
theorem oGo.callI {y : MethodName} {i W : Nat} {bytes' : ByteArray} {ml' : Nat} {rm : Room} {as : Array Value} {Q' : Option Value → Heap → Prop} {ps : List FieldType} {rt : Option FieldType} {a : Addr} (argsL rest : List Value) (hd : decode bytes pc = .ok (.invokespecial i, 3)) (hq : pc + 3 = q) (hy1 : y.name = "<init>")
    (w1 : (Cond.methodLink own i y).before a0 Z = true) (w2 : (Cond.instanceMethod y).before a0 Z = true) (w3 : (Cond.initialized y.cls).before a0 Z = true) (w4 : (Cond.code y bytes' ml' none).before a0 Z = true) (hy : y.cls ≠ "java/lang/invoke/MethodHandle" ∧ y.cls ≠ "java/lang/invoke/VarHandle")
    (hC : oCon Z y bytes' ml' none rm as h n0 Q') (hS : S = argsL.reverse ++ .ref a :: rest) (has : (.ref a :: argsL).toArray = as) (hpd : parseMethodDescriptor y.desc = some ⟨ps, rt⟩) (hlen : argsL.length = ps.length) (hL : L.size = ml) (hW : 2 * 0 + (rest.map fun v => v.category).sum ≤ W) (hf : rm.frames + 1 ≤ R.frames) (hl : W + (ml' + 11) + rm.locals ≤ R.locals) (hc : k + rm.cells ≤ R.cells) (hs : n + rm.slots ≤ R.slots)
    (K : ∀ v h', Q' v h' → oGo Z own nm bytes ml ret R n0 Q (k + rm.cells) (n + rm.slots) h' q L (v.toList ++ rest)) : oGo Z own nm bytes ml ret R n0 Q k n h pc L S :=
  fun p l e s m args below meth c T locs C X eT N => by
    obtain ⟨hx, hZ, hby, hml, hown, hrt, hlk, hnm⟩ := C
    subst hq
    obtain ⟨v, _, ⟨T', L2, k2, n2⟩, -, X', ⟨Lc, hQ', l', y', z'⟩, st⟩ := X.specialBack hx (y := y) hy1 hown (mvT hZ w1) (mvT hZ w2) (mvT hZ w4) hy (backOf (W := W) (Q := fun v h' L => Q' v h' ∧ Fr n0 L) (hC l []) hZ w4 w3 hf hl) (g := mkF m pc L S) rfl (by rw [hml]; exact hL) (Steps.refl _) (a := a) (argsL := argsL) (rest := rest) (lenOf hpd hlen) hS hW (hb hby hd) (fun _ _ => ⟨has, eT, hc, hs⟩)
    dsimp only [Pt.U, Pt.locs, Pt.cells, Pt.slots] at X' l' y' z' st hQ'
    subst l' y' z'
    obtain ⟨s₂, o, h1, r⟩ := K v T'.heap hQ'.1 p l e s m args below meth c T' _ ⟨hx, hZ, hby, hml, hown, hrt, hlk, hnm⟩ X' rfl (Fr.app N hQ'.2)
    exact ⟨s₂, o, st.trans h1, r⟩
theorem oGo.callV {y z : MethodName} {C : String} {i W : Nat} {bytes' : ByteArray} {ml' : Nat} {ret' : Option FieldType} {rm : Room} {as : Array Value} {Q' : Option Value → Heap → Prop} {ps : List FieldType} {rt : Option FieldType} {a : Addr} (argsL rest : List Value) (hd : decode bytes pc = .ok (.invokevirtual i, 3)) (hq : pc + 3 = q)
    (w1 : (Cond.methodLink own i y).before a0 Z = true) (w2 : (Cond.declares y).before a0 Z = true) (w5 : (Cond.selects C y z).before a0 Z = true) (w6 : (Cond.instanceMethod z).before a0 Z = true) (w3 : (Cond.initialized z.cls).before a0 Z = true) (w4 : (Cond.code z bytes' ml' ret').before a0 Z = true) (hyz : y = z) (hy : y.cls ≠ "java/lang/invoke/MethodHandle" ∧ y.cls ≠ "java/lang/invoke/VarHandle") (E : Exa Z h a C)
    (hC : oCon Z z bytes' ml' ret' rm as h n0 Q') (hS : S = argsL.reverse ++ .ref a :: rest) (has : (.ref a :: argsL).toArray = as) (hpd : parseMethodDescriptor y.desc = some ⟨ps, rt⟩) (hlen : argsL.length = ps.length) (hL : L.size = ml) (hW : 2 * 0 + (rest.map fun v => v.category).sum ≤ W) (hf : rm.frames + 1 ≤ R.frames) (hl : W + (ml' + 11) + rm.locals ≤ R.locals) (hc : k + rm.cells ≤ R.cells) (hs : n + rm.slots ≤ R.slots)
    (K : ∀ v h', Q' v h' → oGo Z own nm bytes ml ret R n0 Q (k + rm.cells) (n + rm.slots) h' q L (v.toList ++ rest)) : oGo Z own nm bytes ml ret R n0 Q k n h pc L S :=
  fun p l e s m args below meth c T locs Cx X eT N => by
    obtain ⟨hx, hZ, hby, hml, hown, hrt, hlk, hnm⟩ := Cx
    subst hq hyz
    obtain ⟨cq, kq, qa, qb, qc⟩ := isOf (T := T) hZ eT E
    obtain ⟨v, _, ⟨T', L2, k2, n2⟩, -, X', ⟨Lc, hQ', l', y', z'⟩, st⟩ := X.virtualBack hx (y := y) (z := y) hown (mvT hZ w1) (mvT hZ w2) (notFace_of_selects (args := #[]) (mvT hZ w5)) (mvT hZ w5) (mvT hZ w6) hy (backOf (W := W) (Q := fun v h' L => Q' v h' ∧ Fr n0 L) (hC l []) hZ w4 w3 hf hl) qa qc (g := mkF m pc L S) rfl (by rw [hml]; exact hL) (Steps.refl _) (argsL := argsL) (rest := rest) (lenOf hpd hlen) hS hW (hb hby hd) (fun _ _ => ⟨has, eT, hc, hs⟩)
    dsimp only [Pt.U, Pt.locs, Pt.cells, Pt.slots] at X' l' y' z' st hQ'
    subst l' y' z'
    obtain ⟨s₂, o, h1, r⟩ := K v T'.heap hQ'.1 p l e s m args below meth c T' _ ⟨hx, hZ, hby, hml, hown, hrt, hlk, hnm⟩ X' rfl (Fr.app N hQ'.2)
    exact ⟨s₂, o, st.trans h1, r⟩
theorem oGo.initO {i W : Nat} {a : Addr} (hd : decode bytes pc = .ok (.invokespecial i, 3)) (hq : pc + 3 = q) (w1 : (Cond.methodLink own i Lib.objectInit).before a0 Z = true) (w2 : (Cond.instanceMethod Lib.objectInit).before a0 Z = true) (w3 : (Cond.code Lib.objectInit ⟨#[0xb1]⟩ 1 none).before a0 Z = true) (hL : L.size = ml) (hf : 1 ≤ R.frames) (hW : 2 * 0 + (S.map fun v => v.category).sum ≤ W) (hl : W + 12 ≤ R.locals) (K : oGo Z own nm bytes ml ret R n0 Q k n h q L S) : oGo Z own nm bytes ml ret R n0 Q k n h pc L (.ref a :: S) :=
  fun p l e s m args below meth c T locs C X eT N => by
    obtain ⟨hx, hZ, hby, hml, hown, hrt, hlk, hnm⟩ := C
    subst hq
    obtain ⟨T', X', e', st⟩ := Jvm.RoadKit.initO X hx hZ hown w1 w2 w3 eT (g := mkF m pc L (.ref a :: S)) rfl (by rw [hml]; exact hL) rfl (hb hby hd) hf hW hl
    obtain ⟨s₂, o, h1, r⟩ := K p l e s m args below meth c T' locs ⟨hx, hZ, hby, hml, hown, hrt, hlk, hnm⟩ X' e' N
    exact ⟨s₂, o, st _ h1, r⟩
/-! objects -/
theorem own_keep {h h' : Heap} (E : Ext h h') : Keep h h' [] := (Keep.refl h []).ext E
theorem oGo.newO {C : String} {i nn : Nat} (hd : decode bytes pc = .ok (.new i, 3)) (hq : pc + 3 = q) (w : (Cond.classLink own i C).before a0 Z = true) (wi : (Cond.instantiable C nn).before a0 Z = true) (wz : (Cond.initialized C).before a0 Z = true) (hc : k + 1 ≤ R.cells) (hs : n + nn ≤ R.slots)
    (K : ∀ h' a, a = h.size → Keep h h' [] → Exa Z h' a C → (∀ {O f d : String} {ty : FieldType}, Laid Z a0 C O f d → parseFieldDescriptor d = some ty → Fld Z h' a O f d (defaultValue ty)) → oGo Z own nm bytes ml ret R n0 Q (k + 1) (n + nn) h' q L (.ref a :: S)) : oGo Z own nm bytes ml ret R n0 Q k n h pc L S :=
  fun p l e s m args below meth c T locs Cx X eT N => by
    obtain ⟨hx, hZ, hby, hml, hown, hrt, hlk, hnm⟩ := Cx
    subst hq
    obtain ⟨T', h', X', e', E, A, D, -, st⟩ := Jvm.RoadKit.newO X hx hZ hown w wi wz eT (g := mkF m pc L S) rfl (hb hby hd) hc hs
    obtain ⟨s₂, o, h1, r⟩ := K h' h.size rfl (own_keep E) A D p l e s m args below meth c T' locs ⟨hx, hZ, hby, hml, hown, hrt, hlk, hnm⟩ X' e' N
    exact ⟨s₂, o, st _ h1, r⟩
theorem oGo.getF {R0 O f d host : String} {i : Nat} {a : Addr} {v : Value} (hd : decode bytes pc = .ok (.getfield i, 3)) (hq : pc + 3 = q) (w : (Cond.fieldLink own i R0 f d).before a0 Z = true ∨ (Cond.fieldLinkNest own i R0 f d host).before a0 Z = true) (via : Via Z R0 O f d) (F : Fld Z h a O f d v) (K : oGo Z own nm bytes ml ret R n0 Q k n h q L (v :: S)) : oGo Z own nm bytes ml ret R n0 Q k n h pc L (.ref a :: S) :=
  fun p l e s m args below meth c T locs C X eT N => by
    obtain ⟨hx, hZ, hby, hml, hown, hrt, hlk, hnm⟩ := C
    subst hq
    obtain ⟨T', X', e', st⟩ := Jvm.RoadKit.getF X hx hZ hown w via eT F (g := mkF m pc L (.ref a :: S)) rfl rfl (hb hby hd)
    obtain ⟨s₂, o, h1, r⟩ := K p l e s m args below meth c T' locs ⟨hx, hZ, hby, hml, hown, hrt, hlk, hnm⟩ X' e' N
    exact ⟨s₂, o, st _ h1, r⟩
theorem oGo.getS {R0 O f d : String} {i : Nat} {v : Value} (hd : decode bytes pc = .ok (.getstatic i, 3)) (hq : pc + 3 = q) (w : (Cond.fieldLink own i R0 f d).before a0 Z = true) (via : Via Z R0 O f d) (F : Sta Z h O f d v) (K : oGo Z own nm bytes ml ret R n0 Q k n h q L (v :: S)) : oGo Z own nm bytes ml ret R n0 Q k n h pc L S :=
  fun p l e s m args below meth c T locs C X eT N => by
    obtain ⟨hx, hZ, hby, hml, hown, hrt, hlk, hnm⟩ := C
    subst hq
    obtain ⟨T', X', e', st⟩ := Jvm.RoadKit.getS (host := "") X hx hZ hown w via eT F (g := mkF m pc L S) rfl (hb hby hd)
    obtain ⟨s₂, o, h1, r⟩ := K p l e s m args below meth c T' locs ⟨hx, hZ, hby, hml, hown, hrt, hlk, hnm⟩ X' e' N
    exact ⟨s₂, o, st _ h1, r⟩
theorem oGo.putF {R0 O f d host C : String} {i kk : Nat} {ty : FieldType} {a : Addr} {v w0 : Value} (hd : decode bytes pc = .ok (.putfield i, 3)) (hq : pc + 3 = q) (w : (Cond.fieldLink own i R0 f d).before a0 Z = true ∨ (Cond.fieldLinkNest own i R0 f d host).before a0 Z = true) (via : Via Z R0 O f d) (F : Fld Z h a O f d w0) (E : Exa Z h a C)
    (Lw : (Cond.lays C O f d).before a0 Z = true ∨ ((Cond.laysFinal C O f d).before a0 Z = true ∧ own = O ∧ nm = "<init>")) (wi : (Cond.instantiable C kk).before a0 Z = true) (hty : parseFieldDescriptor d = some ty) (hn : narrow ty v = v) (hf : fits ty v = true) (ha : n0 ≤ a)
    (K : ∀ h', Keep h h' [a] → Exa Z h' a C → Fld Z h' a O f d v → (∀ {O' f' d' : String} {u : Value}, Jvm.RoadKit.slotOf Z O' f' d' ≠ Jvm.RoadKit.slotOf Z O f d → Fld Z h a O' f' d' u → Fld Z h' a O' f' d' u) → oGo Z own nm bytes ml ret R n0 Q k n h' q L S) : oGo Z own nm bytes ml ret R n0 Q k n h pc L (v :: .ref a :: S) :=
  fun p l e s m args below meth c T locs Cx X eT N => by
    obtain ⟨hx, hZ, hby, hml, hown, hrt, hlk, hnm⟩ := Cx
    subst hq
    obtain ⟨T', h', X', e', W, st⟩ := Jvm.RoadKit.putF X hx hZ hown w via eT F E (Lw.imp id fun u => ⟨u.1, u.2.1, hnm.trans u.2.2⟩) wi hty hn hf (g := mkF m pc L (v :: .ref a :: S)) rfl rfl (hb hby hd)
    obtain ⟨s₂, o, h1, r⟩ := K h' (Keep.of_wr W) (E.wr W) (F.same W) (fun hne G => G.other W (Or.inr hne)) p l e s m args below meth c T' _ ⟨hx, hZ, hby, hml, hown, hrt, hlk, hnm⟩ X' e' (Fr.snoc X' N ha)
    exact ⟨s₂, o, st _ h1, r⟩
/-! arrays -/
def Ars (Z : State) (h : Heap) (a : Addr) (ty : FieldType) (vs : List Value) : Prop := ∃ c : Cell, Arr Z h a c ty ∧ c.slots.toList = vs ∧ ∀ v ∈ vs, fits ty v = true
theorem Ars.lt {a : Addr} {ty : FieldType} {vs : List Value} (A : Ars Z h a ty vs) : a < h.size := by obtain ⟨c, A, -⟩ := A; exact A.lt
theorem Ars.keep {h' : Heap} {ws : List Addr} {a : Addr} {ty : FieldType} {vs : List Value} (A : Ars Z h a ty vs) (K : Keep h h' ws) (q : a ∉ ws) : Ars Z h' a ty vs := by obtain ⟨c, A, r⟩ := A; exact ⟨c, ⟨K.2.1 a c A.1 q, A.2⟩, r⟩
theorem own_cn {j : Int32} {i : Nat} (hi : j.toInt = (i : Int)) : j.toNatClampNeg = i := by simp [Int32.toNatClampNeg, hi]
theorem own_in {j : Int32} {i : Nat} {c : Cell} {vs : List Value} (hi : j.toInt = (i : Int)) (hc : c.slots.toList = vs) (hl : i < vs.length) : ¬ (j < 0 ∨ c.slots.size ≤ j.toNatClampNeg) := by
  have e1 : c.slots.size = vs.length := by rw [← hc]; simp
  rw [own_cn hi, e1]
  rintro (u | u)
  · have := Int32.lt_iff_toInt_lt.mp u; have e0 : (0 : Int32).toInt = 0 := rfl; omega
  · omega
theorem own_at {j : Int32} {i : Nat} {c : Cell} {vs : List Value} {v : Value} (hi : j.toInt = (i : Int)) (hc : c.slots.toList = vs) (hv : vs[i]? = some v) : c.slots[j.toNatClampNeg]? = some v := by
  rw [own_cn hi, ← hv, ← hc]; simp
theorem Ars.wr {h' : Heap} {a : Addr} {ty : FieldType} {vs : List Value} {c : Cell} {i : Nat} {v : Value} {j : Int32} (hi : j.toInt = (i : Int)) (A : Arr Z h a c ty) (hc : c.slots.toList = vs) (hf : ∀ v ∈ vs, fits ty v = true) (hv : fits ty v = true) (W : Wr h h' a j.toNatClampNeg v) : Ars Z h' a ty (vs.set i v) := by
  refine ⟨_, A.same W, ?_, fun u hu => ?_⟩
  · rw [← hc, own_cn hi]; simp [Cell.setSlot]
  · rcases List.mem_or_eq_of_mem_set hu with u1 | u1
    · exact hf u u1
    · exact u1 ▸ hv
theorem oGo.newP {aty : ArrayType} {nn : Int32} {len : Nat} {ad : String} (cap : Nat) (hd : decode bytes pc = .ok (.newarray aty, 2)) (hq : pc + 2 = q) (w : (Cond.arrayClass (newarray.typeOf aty)).before a0 Z = true) (hn : nn.toInt = (len : Int)) (hcap : len ≤ cap) (hb8 : cap * 8 ≤ 536870912) (hc : k + 1 ≤ R.cells) (hs : n + cap ≤ R.slots) (had : "[" ++ (newarray.typeOf aty).toString = ad)
    (K : ∀ h' a, a = h.size → Keep h h' [] → Ars Z h' a (newarray.typeOf aty) (List.replicate len (defaultValue (newarray.typeOf aty))) → Exa Z h' a ad → oGo Z own nm bytes ml ret R n0 Q (k + 1) (n + cap) h' q L (.ref a :: S)) : oGo Z own nm bytes ml ret R n0 Q k n h pc L (.int nn :: S) :=
  fun p l e s m args below meth c T locs Cx X eT N => by
    obtain ⟨hx, hZ, hby, hml, hown, hrt, hlk, hnm⟩ := Cx
    subst hq
    have h0 : ¬ nn < 0 := fun u => by have := Int32.lt_iff_toInt_lt.mp u; have e0 : (0 : Int32).toInt = 0 := rfl; omega
    obtain ⟨T', h', cA, X', e', E, A, EA, st⟩ := Jvm.RoadKit.newPE X hx hZ w eT (g := mkF m pc L (.int nn :: S)) rfl (hb hby hd) rfl h0 (cap := cap) (by rw [own_cn hn]; exact hcap) hb8 hc hs had
    obtain ⟨s₂, o, h1, r⟩ := K h' h.size rfl (own_keep E) ⟨_, A, by simp [newA, own_cn hn], fun v hv => by rw [(List.mem_replicate.mp hv).2]; cases aty <;> rfl⟩ EA p l e s m args below meth c T' locs ⟨hx, hZ, hby, hml, hown, hrt, hlk, hnm⟩ X' e' N
    exact ⟨s₂, o, st _ h1, r⟩
theorem oGo.cast {i : Nat} {C : String} {a : Addr} (hd : decode bytes pc = .ok (.checkcast i, 3)) (hq : pc + 3 = q) (w : (Cond.classLink own i C).before a0 Z = true) (F : Ins Z h a C true) (K : oGo Z own nm bytes ml ret R n0 Q k n h q L (.ref a :: S)) : oGo Z own nm bytes ml ret R n0 Q k n h pc L (.ref a :: S) :=
  fun p l e s m args below meth c T locs Cx X eT N => by
    obtain ⟨hx, hZ, hby, hml, hown, hrt, hlk, hnm⟩ := Cx
    subst hq
    obtain ⟨T', X', e', st⟩ := Jvm.RoadKit.castY X hx hZ hown w eT F (g := mkF m pc L (.ref a :: S)) rfl rfl (hb hby hd)
    obtain ⟨s₂, o, h1, r⟩ := K p l e s m args below meth c T' locs ⟨hx, hZ, hby, hml, hown, hrt, hlk, hnm⟩ X' e' N
    exact ⟨s₂, o, st _ h1, r⟩
theorem oGo.arraylength {a : Addr} {ty : FieldType} {vs : List Value} {v : Int32} (hd : decode bytes pc = .ok (.arraylength, 1)) (hq : pc + 1 = q) (A : Ars Z h a ty vs) (hv : Int32.ofNat vs.length = v) (K : oGo Z own nm bytes ml ret R n0 Q k n h q L (.int v :: S)) : oGo Z own nm bytes ml ret R n0 Q k n h pc L (.ref a :: S) :=
  fun p l e s m args below meth c T locs Cx X eT N => by
    obtain ⟨hx, hZ, hby, hml, hown, hrt, hlk, hnm⟩ := Cx
    subst hq
    obtain ⟨cl, A, hc, -⟩ := A
    have e1 : cl.slots.size.toInt32 = v := by rw [← hv, ← hc, Array.length_toList]
    obtain ⟨s₂, o, h1, r⟩ := K p l e s m args below meth c T locs ⟨hx, hZ, hby, hml, hown, hrt, hlk, hnm⟩ X eT N
    exact ⟨s₂, o, X.arraylength hx (by rw [eT]; exact A.1) (State.isArrayOf_alike hZ.alike A.2.1) (g := mkF m pc L (.ref a :: S)) rfl rfl (hb hby hd) _ (by rw [e1]; exact h1), r⟩
theorem oGo.iaload {a : Addr} {j : Int32} {i : Nat} {vs : List Value} {v : Value} (hd : decode bytes pc = .ok (.iaload, 1)) (hq : pc + 1 = q) (A : Ars Z h a .int vs) (hi : j.toInt = (i : Int)) (hv : vs[i]? = some v) (K : oGo Z own nm bytes ml ret R n0 Q k n h q L (v :: S)) : oGo Z own nm bytes ml ret R n0 Q k n h pc L (.int j :: .ref a :: S) :=
  fun p l e s m args below meth c T locs Cx X eT N => by
    obtain ⟨hx, hZ, hby, hml, hown, hrt, hlk, hnm⟩ := Cx
    subst hq
    obtain ⟨cl, A, hc, -⟩ := A
    obtain ⟨s₂, o, h1, r⟩ := K p l e s m args below meth c T locs ⟨hx, hZ, hby, hml, hown, hrt, hlk, hnm⟩ X eT N
    exact ⟨s₂, o, X.iaload hx (by rw [eT]; exact A.1) (State.isArrayOf_alike hZ.alike A.2.1) A.2.2 (own_in hi hc (List.getElem?_eq_some_iff.mp hv).1) (own_at hi hc hv) (g := mkF m pc L (.int j :: .ref a :: S)) rfl rfl (hb hby hd) _ h1, r⟩
theorem oGo.laload {a : Addr} {j : Int32} {i : Nat} {vs : List Value} {v : Value} (hd : decode bytes pc = .ok (.laload, 1)) (hq : pc + 1 = q) (A : Ars Z h a .long vs) (hi : j.toInt = (i : Int)) (hv : vs[i]? = some v) (K : oGo Z own nm bytes ml ret R n0 Q k n h q L (v :: S)) : oGo Z own nm bytes ml ret R n0 Q k n h pc L (.int j :: .ref a :: S) :=
  fun p l e s m args below meth c T locs Cx X eT N => by
    obtain ⟨hx, hZ, hby, hml, hown, hrt, hlk, hnm⟩ := Cx
    subst hq
    obtain ⟨cl, A, hc, -⟩ := A
    obtain ⟨s₂, o, h1, r⟩ := K p l e s m args below meth c T locs ⟨hx, hZ, hby, hml, hown, hrt, hlk, hnm⟩ X eT N
    exact ⟨s₂, o, X.laload hx (by rw [eT]; exact A.1) (State.isArrayOf_alike hZ.alike A.2.1) A.2.2 (own_in hi hc (List.getElem?_eq_some_iff.mp hv).1) (own_at hi hc hv) (g := mkF m pc L (.int j :: .ref a :: S)) rfl rfl (hb hby hd) _ h1, r⟩
theorem oGo.baload {a : Addr} {j : Int32} {i : Nat} {vs : List Value} {v : Value} (hd : decode bytes pc = .ok (.baload, 1)) (hq : pc + 1 = q) (A : Ars Z h a .byte vs) (hi : j.toInt = (i : Int)) (hv : vs[i]? = some v) (K : oGo Z own nm bytes ml ret R n0 Q k n h q L (v :: S)) : oGo Z own nm bytes ml ret R n0 Q k n h pc L (.int j :: .ref a :: S) :=
  fun p l e s m args below meth c T locs Cx X eT N => by
    obtain ⟨hx, hZ, hby, hml, hown, hrt, hlk, hnm⟩ := Cx
    subst hq
    obtain ⟨cl, A, hc, -⟩ := A
    obtain ⟨s₂, o, h1, r⟩ := K p l e s m args below meth c T locs ⟨hx, hZ, hby, hml, hown, hrt, hlk, hnm⟩ X eT N
    exact ⟨s₂, o, X.baloadBytes hx (by rw [eT]; exact A.1) (State.isArrayOf_alike hZ.alike A.2.1) A.2.2 (own_in hi hc (List.getElem?_eq_some_iff.mp hv).1) (own_at hi hc hv) (g := mkF m pc L (.int j :: .ref a :: S)) rfl rfl (hb hby hd) _ h1, r⟩
theorem oGo.iastore {a : Addr} {j : Int32} {x : Int32} {i : Nat} {vs : List Value} (hd : decode bytes pc = .ok (.iastore, 1)) (hq : pc + 1 = q) (A : Ars Z h a .int vs) (hi : j.toInt = (i : Int)) (hl : i < vs.length) (ha : n0 ≤ a) (K : ∀ h', Keep h h' [a] → Ars Z h' a .int (vs.set i (.int x)) → oGo Z own nm bytes ml ret R n0 Q k n h' q L S) : oGo Z own nm bytes ml ret R n0 Q k n h pc L (.int x :: .int j :: .ref a :: S) :=
  fun p l e s m args below meth c T locs Cx X eT N => by
    obtain ⟨hx, hZ, hby, hml, hown, hrt, hlk, hnm⟩ := Cx
    subst hq
    obtain ⟨cl, A, hc, hf⟩ := A
    obtain ⟨T', h', X', e', W, st⟩ := Jvm.RoadKit.stI X hx hZ eT A (own_in hi hc hl) (g := mkF m pc L (.int x :: .int j :: .ref a :: S)) rfl rfl (hb hby hd)
    obtain ⟨s₂, o, h1, r⟩ := K h' (Keep.of_wr W) (Ars.wr hi A hc hf rfl W) p l e s m args below meth c T' _ ⟨hx, hZ, hby, hml, hown, hrt, hlk, hnm⟩ X' e' (Fr.snoc X' N ha)
    exact ⟨s₂, o, st _ h1, r⟩
theorem oGo.lastore {a : Addr} {j : Int32} {x : Int64} {i : Nat} {vs : List Value} (hd : decode bytes pc = .ok (.lastore, 1)) (hq : pc + 1 = q) (A : Ars Z h a .long vs) (hi : j.toInt = (i : Int)) (hl : i < vs.length) (ha : n0 ≤ a) (K : ∀ h', Keep h h' [a] → Ars Z h' a .long (vs.set i (.long x)) → oGo Z own nm bytes ml ret R n0 Q k n h' q L S) : oGo Z own nm bytes ml ret R n0 Q k n h pc L (.long x :: .int j :: .ref a :: S) :=
  fun p l e s m args below meth c T locs Cx X eT N => by
    obtain ⟨hx, hZ, hby, hml, hown, hrt, hlk, hnm⟩ := Cx
    subst hq
    obtain ⟨cl, A, hc, hf⟩ := A
    obtain ⟨T', h', X', e', W, st⟩ := Jvm.RoadKit.stJ X hx hZ eT A (own_in hi hc hl) (g := mkF m pc L (.long x :: .int j :: .ref a :: S)) rfl rfl (hb hby hd)
    obtain ⟨s₂, o, h1, r⟩ := K h' (Keep.of_wr W) (Ars.wr hi A hc hf rfl W) p l e s m args below meth c T' _ ⟨hx, hZ, hby, hml, hown, hrt, hlk, hnm⟩ X' e' (Fr.snoc X' N ha)
    exact ⟨s₂, o, st _ h1, r⟩
theorem oGo.bastore {a : Addr} {j x y : Int32} {i : Nat} {vs : List Value} (hd : decode bytes pc = .ok (.bastore, 1)) (hq : pc + 1 = q) (A : Ars Z h a .byte vs) (hi : j.toInt = (i : Int)) (hl : i < vs.length) (ha : n0 ≤ a) (hy : x.toInt8.toInt32 = y) (K : ∀ h', Keep h h' [a] → Ars Z h' a .byte (vs.set i (.int y)) → oGo Z own nm bytes ml ret R n0 Q k n h' q L S) : oGo Z own nm bytes ml ret R n0 Q k n h pc L (.int x :: .int j :: .ref a :: S) :=
  fun p l e s m args below meth c T locs Cx X eT N => by
    obtain ⟨hx, hZ, hby, hml, hown, hrt, hlk, hnm⟩ := Cx
    subst hq hy
    obtain ⟨cl, A, hc, hf⟩ := A
    obtain ⟨T', h', X', e', W, st⟩ := Jvm.RoadKit.stB X hx hZ eT A (own_in hi hc hl) (g := mkF m pc L (.int x :: .int j :: .ref a :: S)) rfl rfl (hb hby hd)
    obtain ⟨s₂, o, h1, r⟩ := K h' (Keep.of_wr W) (Ars.wr hi A hc hf (fits_nar_byte x) W) p l e s m args below meth c T' _ ⟨hx, hZ, hby, hml, hown, hrt, hlk, hnm⟩ X' e' (Fr.snoc X' N ha)
    exact ⟨s₂, o, st _ h1, r⟩
/-! small numbers -/
theorem own_oi {i : Nat} (hi : i < 2147483648) : (Int32.ofNat i).toInt = (i : Int) := Int32.toInt_ofNat_of_lt (by omega)
theorem own_oinc (i : Nat) : Int32.ofNat i + Int32.ofInt 1 = Int32.ofNat (i + 1) := (Int32.ofNat_add i 1).symm
theorem own_oadd {i m : Nat} {c : Int32} (hc : c = Int32.ofNat m) : Int32.ofNat i + c = Int32.ofNat (i + m) := by rw [hc]; exact (Int32.ofNat_add i m).symm
theorem own_oiadd {i m : Nat} {c : Int32} (hc : c = Int32.ofNat m) (h : i + m < 2147483648) : (Int32.ofNat i + c).toInt = ((i + m : Nat) : Int) := by rw [own_oadd hc]; exact own_oi h
theorem own_pred {i : Nat} (hi : i < 2147483647) : (Int32.ofNat (i + 1) - (1 : Int32)).toInt = (i : Int) := by
  have a := c_isub (Int32.ofNat (i + 1)) 1
  have e := own_oi (i := i + 1) (by omega)
  have z : (1 : Int32).toInt = 1 := by decide
  have r := rng32 (Int32.ofNat (i + 1) - 1)
  omega
theorem own_bb (x : Int32) : x.toInt8.toInt32.toInt8.toInt32 = x.toInt8.toInt32 := by
  apply Int32.toInt_inj.mp
  have h1 := c_i2b x
  have h2 := c_i2b x.toInt8.toInt32
  omega
def own_ints (vs : List Value) (n : Nat) : Prop := vs.length = n ∧ ∀ k, k < n → ∃ x : Int32, vs[k]? = some (.int x)
theorem own_ints.set {vs : List Value} {n i : Nat} {x : Int32} (u : own_ints vs n) : own_ints (vs.set i (.int x)) n := by
  refine ⟨by rw [List.length_set]; exact u.1, fun k hk => ?_⟩
  by_cases e : i = k
  · subst e; exact ⟨x, List.getElem?_set_self (by rw [u.1]; exact hk)⟩
  · rw [List.getElem?_set_ne e]; exact u.2 k hk
theorem own_irem (x y : Int32) (hx : 0 ≤ x.toInt) : (x % y).toInt = x.toInt % y.toInt := by rw [Int32.toInt_mod]; exact (tr _ _).1 hx
theorem own_lrem (x y : Int64) (hx : 0 ≤ x.toInt) : (x % y).toInt = x.toInt % y.toInt := by rw [Int64.toInt_mod]; exact (tr _ _).1 hx
theorem own_int32 {x y : Int32} (e : x.toInt = y.toInt) : x = y := Int32.toInt_inj.mp e
theorem own_int64 {x y : Int64} (e : x.toInt = y.toInt) : x = y := Int64.toInt_inj.mp e
theorem own_nat {x : Int32} {i : Nat} (e : x.toInt = (i : Int)) (hi : i < 2147483648) : x = Int32.ofNat i := own_int32 (e.trans (own_oi hi).symm)
/-! System.arraycopy -/
theorem Ars.arv {a : Addr} {ty : FieldType} {vs : List Value} (dv : Value) (A : Ars Z h a ty vs) (hl : vs.length < 2147483648) : ∃ k, Arv Z h a k ty (Int32.ofNat vs.length) vs dv := by
  obtain ⟨c, A, hc, hf⟩ := A
  have e1 : c.slots.size = vs.length := by rw [← hc, Array.length_toList]
  have e2 : (Int32.ofNat vs.length).toNatClampNeg = vs.length := own_cn (own_oi hl)
  refine ⟨c.cls, c, A, rfl, by rw [e1, e2], fun u => ?_, fun k hk => ?_, fun i hi => ?_⟩
  · have := Int32.lt_iff_toInt_lt.mp u
    have e0 : (0 : Int32).toInt = 0 := rfl
    rw [own_oi hl] at this
    omega
  · rw [e1] at hk
    rw [← Array.getElem?_toList, hc, List.getD_eq_getElem?_getD, List.getElem?_eq_getElem hk]
    rfl
  · rw [e1] at hi
    rw [List.getD_eq_getElem?_getD, List.getElem?_eq_getElem hi]
    exact hf _ (List.getElem_mem hi)
theorem Ars.of_arv {a : Addr} {ty : FieldType} {vs : List Value} {dv : Value} {z : Int32} {k : ClassId} (A : Arv Z h a k ty z vs dv) (hz : z.toNatClampNeg = vs.length) : Ars Z h a ty vs := by
  obtain ⟨c, A, -, e1, -, H, F⟩ := A
  rw [hz] at e1
  refine ⟨c, A, List.ext_getElem? fun i => ?_, fun v hv => ?_⟩
  · rw [Array.getElem?_toList]
    by_cases u : i < vs.length
    · rw [H i (by rw [e1]; exact u), List.getD_eq_getElem?_getD, List.getElem?_eq_getElem u]; rfl
    · rw [List.getElem?_eq_none (by omega), Array.getElem?_eq_none (by omega)]
  · obtain ⟨i, hi, rfl⟩ := List.mem_iff_getElem.mp hv
    have := F i (by rw [e1]; exact hi)
    rwa [List.getD_eq_getElem?_getD, List.getElem?_eq_getElem hi] at this
theorem own_us {vs : List Value} {si len : Nat} {dv : Value} (hl : si + len ≤ vs.length) : (vs.drop si).take len = (List.range len).map fun i => vs.getD (si + i) dv := by
  apply List.ext_getElem
  · simp; omega
  · intro i h1 h2
    simp only [List.length_map, List.length_range] at h2
    simp [List.getD_eq_getElem?_getD, List.getElem?_eq_getElem (show si + i < vs.length by omega)]
theorem own_nn {j : Int32} {i : Nat} (hi : j.toInt = (i : Int)) : ¬ j < 0 := fun u => by
  have := Int32.lt_iff_toInt_lt.mp u
  have e0 : (0 : Int32).toInt = 0 := rfl
  omega
theorem oGo.acopy {i W : Nat} {a b : Addr} {ty : FieldType} {vs vd : List Value} {sp dp nn : Int32} {si di len : Nat} (hd : decode bytes pc = .ok (.invokestatic i, 3)) (hq : pc + 3 = q)
    (w1 : (Cond.methodLink own i Jvm.Stand.acN).before a0 Z = true) (w2 : (Cond.native Jvm.Stand.acN).before a0 Z = true) (w3 : (Cond.static Jvm.Stand.acN).before a0 Z = true) (w4 : (Cond.initialized "java/lang/System").before a0 Z = true)
    (A : Ars Z h a ty vs) (B : Ars Z h b ty vd) (hty : refKind ty = false) (h1 : sp.toInt = (si : Int)) (h2 : dp.toInt = (di : Int)) (h3 : nn.toInt = (len : Int)) (h4 : si + len ≤ vs.length) (h5 : di + len ≤ vd.length) (l1 : vs.length < 2147483648) (l2 : vd.length < 2147483648) (ge : n0 ≤ b) (hL : L.size = ml) (hf : 1 ≤ R.frames) (hW : 2 * 0 + (S.map fun v => v.category).sum ≤ W) (hlo : W + (nativeFrameWords "java/lang/System" "arraycopy" 5 + 11) ≤ R.locals)
    (K : ∀ h', Keep h h' [b] → Ars Z h' b ty (vd.take di ++ (vs.drop si).take len ++ vd.drop (di + len)) → oGo Z own nm bytes ml ret R n0 Q k n h' q L S) : oGo Z own nm bytes ml ret R n0 Q k n h pc L (.int nn :: .int dp :: .ref b :: .int sp :: .ref a :: S) :=
  fun p l e s m args below meth c T locs Cx X eT N => by
    obtain ⟨hx, hZ, hby, hml, hown, hrt, hlk, hnm⟩ := Cx
    subst hq
    obtain ⟨k1, A'⟩ := A.arv .null l1
    obtain ⟨k2, B'⟩ := B.arv .null l2
    have c1 := own_cn h1
    have c2 := own_cn h2
    have c3 := own_cn h3
    have e1 := own_cn (own_oi l1)
    have e2 := own_cn (own_oi l2)
    obtain ⟨T', h', L', X', e', N', K', B'', st⟩ := cpA X hx hZ hown w1 w2 w3 w4 eT A' B' (Or.inl ⟨rfl, hty⟩) (own_nn h1) (own_nn h2) (own_nn h3) (by rw [c1, c3, e1]; exact h4) (by rw [c2, c3, e2]; exact h5) rfl (by rw [c2, c3]; exact h5) N ge (g := mkF m pc L (.int nn :: .int dp :: .ref b :: .int sp :: .ref a :: S)) rfl (by rw [hml]; exact hL) rfl (hb hby hd) hf hW hlo
    rw [c1, c2, c3, ← own_us h4] at B''
    obtain ⟨s₂, o, g1, r⟩ := K h' K' (Ars.of_arv B'' (by rw [e2]; simp only [List.length_append, List.length_take, List.length_drop]; omega)) p l e s m args below meth c T' L' ⟨hx, hZ, hby, hml, hown, hrt, hlk, hnm⟩ X' e' N'
    exact ⟨s₂, o, st _ g1, r⟩
theorem oGo.clone {i W : Nat} {ad : String} {a : Addr} {ty : FieldType} {vs : List Value} (cap : Nat) (hd : decode bytes pc = .ok (.invokevirtual i, 3)) (hq : pc + 3 = q)
    (w1 : (Cond.methodLink own i ⟨ad, "clone", "()Ljava/lang/Object;"⟩).before a0 Z = true) (w2 : (Cond.sameMethod ad "java/lang/Object" "clone" "()Ljava/lang/Object;").before a0 Z = true) (w3 : (Cond.native ⟨"java/lang/Object", "clone", "()Ljava/lang/Object;"⟩).before a0 Z = true)
    (w4 : (Cond.instanceMethod ⟨"java/lang/Object", "clone", "()Ljava/lang/Object;"⟩).before a0 Z = true) (w5 : (Cond.selects ad ⟨ad, "clone", "()Ljava/lang/Object;"⟩ ⟨"java/lang/Object", "clone", "()Ljava/lang/Object;"⟩).before a0 Z = true) (w6 : (Cond.castable ad "java/lang/Cloneable").before a0 Z = true)
    (A : Ars Z h a ty vs) (E : Exa Z h a ad) (hl : vs.length < 2147483648) (hcap : vs.length ≤ cap) (hL : L.size = ml) (hf : 1 ≤ R.frames) (hW : 2 * 0 + (S.map fun v => v.category).sum ≤ W) (hlo : W + 14 ≤ R.locals) (hc : k + 1 ≤ R.cells) (hs : n + cap ≤ R.slots)
    (K : ∀ h' b, b = h.size → Keep h h' [] → Ars Z h' b ty vs → Exa Z h' b ad → oGo Z own nm bytes ml ret R n0 Q (k + 1) (n + cap) h' q L (.ref b :: S)) : oGo Z own nm bytes ml ret R n0 Q k n h pc L (.ref a :: S) :=
  fun p l e s m args below meth c T locs Cx X eT N => by
    obtain ⟨hx, hZ, hby, hml, hown, hrt, hlk, hnm⟩ := Cx
    subst hq
    obtain ⟨k1, A'⟩ := A.arv .null hl
    have e1 := own_cn (own_oi hl)
    obtain ⟨T', h', X', e', Ex, B', EB, st⟩ := cloneH X hx hZ hown w1 w2 w3 w4 w5 w6 eT A'.arh E (g := mkF m pc L (.ref a :: S)) rfl (by rw [hml]; exact hL) rfl (hb hby hd) hf hW hlo (cap := cap) (by rw [e1]; exact hcap) hc hs
    obtain ⟨s₂, o, g1, r⟩ := K h' h.size rfl (own_keep Ex) (Ars.of_arv (show Arv Z h' h.size k1 ty (Int32.ofNat vs.length) vs .null from B') e1) EB p l e s m args below meth c T' locs ⟨hx, hZ, hby, hml, hown, hrt, hlk, hnm⟩ X' e' N
    exact ⟨s₂, o, st _ g1, r⟩
theorem oGo.callP {y : MethodName} {i W kk : Nat} {bytes' : ByteArray} {ml' : Nat} {ret' : Option FieldType} {rm : Room} {as : Array Value} {Q' : Option Value → Heap → Prop} {ps : List FieldType} {rt : Option FieldType} {a : Addr} {C : String} (argsL rest : List Value) (hd : decode bytes pc = .ok (.invokevirtual i, 3)) (hq : pc + 3 = q)
    (w1 : (Cond.methodLink own i y).before a0 Z = true) (w2 : (Cond.instanceMethod y).before a0 Z = true) (wp : (Cond.privateMethod y).before a0 Z = true) (wi : (Cond.instantiable y.cls kk).before a0 Z = true) (w3 : (Cond.initialized y.cls).before a0 Z = true) (w4 : (Cond.code y bytes' ml' ret').before a0 Z = true) (hy : y.cls ≠ "java/lang/invoke/MethodHandle" ∧ y.cls ≠ "java/lang/invoke/VarHandle") (E : Exa Z h a C)
    (hC : oCon Z y bytes' ml' ret' rm as h n0 Q') (hS : S = argsL.reverse ++ .ref a :: rest) (has : (.ref a :: argsL).toArray = as) (hpd : parseMethodDescriptor y.desc = some ⟨ps, rt⟩) (hlen : argsL.length = ps.length) (hL : L.size = ml) (hW : 2 * 0 + (rest.map fun v => v.category).sum ≤ W) (hf : rm.frames + 1 ≤ R.frames) (hl : W + (ml' + 11) + rm.locals ≤ R.locals) (hc : k + rm.cells ≤ R.cells) (hs : n + rm.slots ≤ R.slots)
    (K : ∀ v h', Q' v h' → oGo Z own nm bytes ml ret R n0 Q (k + rm.cells) (n + rm.slots) h' q L (v.toList ++ rest)) : oGo Z own nm bytes ml ret R n0 Q k n h pc L S :=
  fun p l e s m args below meth c T locs Cx X eT N => by
    obtain ⟨hx, hZ, hby, hml, hown, hrt, hlk, hnm⟩ := Cx
    subst hq
    obtain ⟨cq, q1, q2⟩ := E.cell
    have hpr := Cond.privateMethod_at (mvP hZ wp (args := #[]))
    have hin : (Cond.instanceMethod y).before args s = true := mvT hZ w2
    obtain ⟨ci, ki, i1, i2, -, i4, -, -⟩ := Cond.instantiable_spec (show (Cond.instantiable y.cls kk).before args s = true from mvT hZ wi)
    have hsel := selects_self_of_private (args := args) i1 i2 (by simp only [Bool.or_eq_false_iff] at i4; exact i4.1) hpr hin hy
    obtain ⟨v, _, ⟨T', L2, k2, n2⟩, -, X', ⟨Lc, hQ', l', y', z'⟩, st⟩ := X.privateBack hx (y := y) hown (mvT hZ w1) hin hsel hpr (mvT hZ w4) hy (backOf (W := W) (Q := fun v h' L => Q' v h' ∧ Fr n0 L) (hC l []) hZ w4 w3 hf hl) (g := mkF m pc L S) rfl (by rw [hml]; exact hL) (Steps.refl _) (a := a) (by rw [eT]; exact q1) q2 (argsL := argsL) (rest := rest) (lenOf hpd hlen) hS hW (hb hby hd) (fun _ _ => ⟨has, eT, hc, hs⟩)
    dsimp only [Pt.U, Pt.locs, Pt.cells, Pt.slots] at X' l' y' z' st hQ'
    subst l' y' z'
    obtain ⟨s₂, o, h1, r⟩ := K v T'.heap hQ'.1 p l e s m args below meth c T' _ ⟨hx, hZ, hby, hml, hown, hrt, hlk, hnm⟩ X' rfl (Fr.app N hQ'.2)
    exact ⟨s₂, o, st.trans h1, r⟩
/-! booleans -/
def own_b (b : Int32) (P : Prop) : Prop := (b = 1 ∧ P) ∨ (b = 0 ∧ ¬ P)
theorem own_b.t {P : Prop} (hp : P) : own_b 1 P := Or.inl ⟨rfl, hp⟩
theorem own_b.f {P : Prop} (hp : ¬ P) : own_b 0 P := Or.inr ⟨rfl, hp⟩
theorem own_b.z {b : Int32} {P : Prop} (u : own_b b P) (hb : b = 0) : ¬ P := by
  rcases u with ⟨rfl, _⟩ | ⟨_, u⟩
  · exact absurd hb (by decide)
  · exact u
theorem own_b.nz {b : Int32} {P : Prop} (u : own_b b P) (hb : b ≠ 0) : P := by
  rcases u with ⟨_, u⟩ | ⟨rfl, _⟩
  · exact u
  · exact absurd rfl hb
theorem own_b.nar {b : Int32} {P : Prop} (u : own_b b P) : nar .boolean b = b := by
  rcases u with ⟨rfl, _⟩ | ⟨rfl, _⟩ <;> rfl
theorem own_b.eq {b c : Int32} {P P' : Prop} (u : own_b b P) (v : own_b c P') (hp : P ↔ P') : b = c := by
  rcases u with ⟨rfl, u⟩ | ⟨rfl, u⟩ <;> rcases v with ⟨rfl, v⟩ | ⟨rfl, v⟩
  · rfl
  · exact absurd (hp.mp u) v
  · exact absurd (hp.mpr v) u
  · rfl
theorem own_b.is0 {b : Int32} {P : Prop} (u : own_b b P) (hp : ¬ P) : b = 0 := u.elim (fun z => absurd z.2 hp) (fun z => z.1)
theorem own_b.is1 {b : Int32} {P : Prop} (u : own_b b P) (hp : P) : b = 1 := u.elim (fun z => z.1) (fun z => absurd hp z.2)
theorem own_b.iff {b : Int32} {P P' : Prop} (u : own_b b P) (hp : P ↔ P') : own_b b P' := u.imp (fun z => ⟨z.1, hp.mp z.2⟩) (fun z => ⟨z.1, fun y => z.2 (hp.mpr y)⟩)
end Own
theorem d2_0 : decode prog_2_method_1_code 0 = .ok (.aload_n 0, 1) := by decide +kernel
theorem d2_1 : decode prog_2_method_1_code 1 = .ok (.invokespecial 1, 3) := by decide +kernel
theorem d2_4 : decode prog_2_method_1_code 4 = .ok (.aload_n 0, 1) := by decide +kernel
theorem d2_5 : decode prog_2_method_1_code 5 = .ok (.aload_n 1, 1) := by decide +kernel
theorem d2_6 : decode prog_2_method_1_code 6 = .ok (.invokestatic 7, 3) := by decide +kernel
theorem d2_9 : decode prog_2_method_1_code 9 = .ok (.checkcast 13, 3) := by decide +kernel
theorem d2_12 : decode prog_2_method_1_code 12 = .ok (.putfield 15, 3) := by decide +kernel
theorem d2_15 : decode prog_2_method_1_code 15 = .ok (.return_, 1) := by decide +kernel
theorem own_pd0 : parseMethodDescriptor "([B)V" = some ⟨[(.array .byte)], none⟩ := by decide +kernel
theorem d4_0 : decode jdk_31_method_10_code 0 = .ok (.aload_n 0, 1) := by decide +kernel
theorem d4_1 : decode jdk_31_method_10_code 1 = .ok (.ifnonnull 11, 3) := by decide +kernel
theorem d4_4 : decode jdk_31_method_10_code 4 = .ok (.new 84, 3) := by decide +kernel
theorem d4_7 : decode jdk_31_method_10_code 7 = .ok (.dup, 1) := by decide +kernel
theorem d4_8 : decode jdk_31_method_10_code 8 = .ok (.invokespecial 86, 3) := by decide +kernel
theorem d4_12 : decode jdk_31_method_10_code 12 = .ok (.aload_n 0, 1) := by decide +kernel
theorem d4_13 : decode jdk_31_method_10_code 13 = .ok (.areturn, 1) := by decide +kernel
theorem own_pd1 : parseMethodDescriptor "(Ljava/lang/Object;)Ljava/lang/Object;" = some ⟨[(.object "java/lang/Object")], some (.object "java/lang/Object")⟩ := by decide +kernel
theorem d8_0 : decode prog_2_method_15_code 0 = .ok (.aload_n 0, 1) := by decide +kernel
theorem d8_1 : decode prog_2_method_15_code 1 = .ok (.aload_n 0, 1) := by decide +kernel
theorem d8_2 : decode prog_2_method_15_code 2 = .ok (.getfield 28, 3) := by decide +kernel
theorem d8_5 : decode prog_2_method_15_code 5 = .ok (.iconst (-1), 1) := by decide +kernel
theorem d8_6 : decode prog_2_method_15_code 6 = .ok (.ixor, 1) := by decide +kernel
theorem d8_7 : decode prog_2_method_15_code 7 = .ok (.i2b, 1) := by decide +kernel
theorem d8_8 : decode prog_2_method_15_code 8 = .ok (.putfield 28, 3) := by decide +kernel
theorem d8_11 : decode prog_2_method_15_code 11 = .ok (.return_, 1) := by decide +kernel
theorem own_pd2 : parseMethodDescriptor "()V" = some ⟨[], none⟩ := by decide +kernel
theorem d5_0 : decode prog_2_method_7_code 0 = .ok (.aload_n 0, 1) := by decide +kernel
theorem d5_1 : decode prog_2_method_7_code 1 = .ok (.getfield 15, 3) := by decide +kernel
theorem d5_4 : decode prog_2_method_7_code 4 = .ok (.aload_n 0, 1) := by decide +kernel
theorem d5_5 : decode prog_2_method_7_code 5 = .ok (.dup, 1) := by decide +kernel
theorem d5_6 : decode prog_2_method_7_code 6 = .ok (.getfield 20, 3) := by decide +kernel
theorem d5_9 : decode prog_2_method_7_code 9 = .ok (.dup_x1, 1) := by decide +kernel
theorem d5_10 : decode prog_2_method_7_code 10 = .ok (.iconst 1, 1) := by decide +kernel
theorem d5_11 : decode prog_2_method_7_code 11 = .ok (.iadd, 1) := by decide +kernel
theorem d5_12 : decode prog_2_method_7_code 12 = .ok (.putfield 20, 3) := by decide +kernel
theorem d5_15 : decode prog_2_method_7_code 15 = .ok (.baload, 1) := by decide +kernel
theorem d5_16 : decode prog_2_method_7_code 16 = .ok (.aload_n 0, 1) := by decide +kernel
theorem d5_17 : decode prog_2_method_7_code 17 = .ok (.getfield 28, 3) := by decide +kernel
theorem d5_20 : decode prog_2_method_7_code 20 = .ok (.ixor, 1) := by decide +kernel
theorem d5_21 : decode prog_2_method_7_code 21 = .ok (.i2b, 1) := by decide +kernel
theorem d5_22 : decode prog_2_method_7_code 22 = .ok (.ireturn, 1) := by decide +kernel
theorem own_pd3 : parseMethodDescriptor "()B" = some ⟨[], some .byte⟩ := by decide +kernel
theorem d7_0 : decode prog_2_method_2_code 0 = .ok (.aload_n 0, 1) := by decide +kernel
theorem d7_1 : decode prog_2_method_2_code 1 = .ok (.getfield 20, 3) := by decide +kernel
theorem d7_4 : decode prog_2_method_2_code 4 = .ok (.ireturn, 1) := by decide +kernel
theorem own_pd4 : parseMethodDescriptor "()I" = some ⟨[], some .int⟩ := by decide +kernel
def own_br (Z : State) (h : Heap) (a : Addr) (v0 v1 v2 : Value) : Prop := Exa Z h a "com/example/lexorder/lexorder/ByteReader" ∧ Fld Z h a "com/example/lexorder/lexorder/ByteReader" "bytes" "[B" v0 ∧ Fld Z h a "com/example/lexorder/lexorder/ByteReader" "position" "I" v1 ∧ Fld Z h a "com/example/lexorder/lexorder/ByteReader" "mask" "B" v2
theorem own_br.lt {Z : State} {h : Heap} {a : Addr} {v0 v1 v2 : Value} (O : own_br Z h a v0 v1 v2) : a < h.size := O.1.lt
theorem own_br.keep {Z : State} {h h' : Heap} {ws : List Addr} {a : Addr} {v0 v1 v2 : Value} (O : own_br Z h a v0 v1 v2) (K : Keep h h' ws) (q : a ∉ ws) : own_br Z h' a v0 v1 v2 := by
  obtain ⟨E, F0, F1, F2⟩ := O; exact ⟨E.keep K, F0.keep K q, F1.keep K q, F2.keep K q⟩
theorem own_ef4 (m : MethodId) (x0 : Addr) : entryFrame m #[(.ref x0)] 1 = mkF m 0 #[.val (.ref x0)] [] := by first | (simp [entryFrame, mkF, argsToLocals, Value.category]; done) | rfl
theorem own_pn4 : plainFor (⟨"java/util/Objects", "requireNonNull", "(Ljava/lang/Object;)Ljava/lang/Object;"⟩ : MethodName) = true := plainFor_of_name (by first | (simp [plainName, overriddenIn]; done) | decide +kernel)
set_option maxRecDepth 65536 in
set_option maxHeartbeats 40000000 in
theorem cn {Z : State} {a0 : Array Value} (hw : ∀ d ∈ tables_1, d.before a0 Z = true) (a : Addr) (h : Heap) (n0 : Nat) :
    oCon Z (⟨"java/util/Objects", "requireNonNull", "(Ljava/lang/Object;)Ljava/lang/Object;"⟩ : MethodName) jdk_31_method_10_code 1 (some (.object "java/lang/Object")) ({ frames := 0, cells := 0, slots := 0, locals := 0 } : Room) #[(.ref a)] h n0 (fun v h' => v = some (.ref a) ∧ h' = h) := by
  refine oCon.of own_pn4 (fun m => own_ef4 m a) ?_
  show oGo Z _ _ _ _ _ _ n0 _ 0 0 h 0 #[.val (.ref a)] []
  refine oGo.aloadN (q := 1) d4_0 rfl rfl rfl ?_
  refine oGo.ifnonnullYes (q := 12) d4_1 (by decide) ?_
  refine oGo.aloadN (q := 13) d4_12 rfl rfl rfl ?_
  exact oGo.retA d4_13 rfl rfl rfl (by decide) (by decide) (⟨rfl, rfl⟩)
theorem own_ef2 (m : MethodId) (x0 : Addr) (x1 : Addr) : entryFrame m #[(.ref x0), (.ref x1)] 2 = mkF m 0 #[.val (.ref x0), .val (.ref x1)] [] := by first | (simp [entryFrame, mkF, argsToLocals, Value.category]; done) | rfl
theorem own_pn2 : plainFor (⟨"com/example/lexorder/lexorder/ByteReader", "<init>", "([B)V"⟩ : MethodName) = true := plainFor_of_name (by first | (simp [plainName, overriddenIn]; done) | decide +kernel)
set_option maxRecDepth 65536 in
set_option maxHeartbeats 40000000 in
theorem ci {Z : State} {a0 : Array Value} (hw : ∀ d ∈ tables_1, d.before a0 Z = true) (r a : Addr) (h : Heap) (n0 : Nat) (gr : n0 ≤ r) (O : own_br Z h r .null (.int 0) (.int 0)) (EA : Exa Z h a "[B") :
    oCon Z (⟨"com/example/lexorder/lexorder/ByteReader", "<init>", "([B)V"⟩ : MethodName) prog_2_method_1_code 2 none ({ frames := 1, cells := 0, slots := 0, locals := 13 } : Room) #[(.ref r), (.ref a)] h n0 (fun v h' => v = none ∧ Keep h h' [r] ∧ own_br Z h' r (.ref a) (.int 0) (.int 0)) := by
  refine oCon.of own_pn2 (fun m => own_ef2 m r a) ?_
  show oGo Z _ _ _ _ _ _ n0 _ 0 0 h 0 #[.val (.ref r), .val (.ref a)] []
  obtain ⟨E1, F1_bytes, F1_position, F1_mask⟩ := O
  refine oGo.aloadN (q := 1) d2_0 rfl rfl rfl ?_
  refine oGo.initO (W := 0) (q := 4) d2_1 rfl (hw _ (List.mem_of_getElem? (i := 12) rfl)) (hw _ (List.mem_of_getElem? (i := 13) rfl)) (hw _ (List.mem_of_getElem? (i := 14) rfl)) rfl (by decide) (Nat.le_of_eq rfl) (by decide) ?_
  refine oGo.aloadN (q := 5) d2_4 rfl rfl rfl ?_
  refine oGo.aloadN (q := 6) d2_5 rfl rfl rfl ?_
  refine oGo.callS (W := 1) (rm := ({ frames := 0, cells := 0, slots := 0, locals := 0 } : Room)) (q := 9) [(.ref a)] [(.ref r)] d2_6 rfl (hw _ (List.mem_of_getElem? (i := 15) rfl)) (hw _ (List.mem_of_getElem? (i := 16) rfl)) (hw _ (List.mem_of_getElem? (i := 17) rfl)) (hw _ (List.mem_of_getElem? (i := 18) rfl)) (by decide) (cn hw a h n0) rfl rfl own_pd1 rfl rfl (Nat.le_of_eq rfl) (by decide) (by decide) (by decide) (by decide) ?_
  rintro _ h2 ⟨rfl, eh⟩
  all_goals subst h2
  show oGo Z _ _ _ _ _ _ n0 _ 0 0 h 9 #[.val (.ref r), .val (.ref a)] [(.ref a), (.ref r)]
  refine oGo.cast (q := 12) d2_9 rfl (hw _ (List.mem_of_getElem? (i := 19) rfl)) (Ins.self EA) ?_
  refine oGo.putF (host := "") (ty := (.array .byte)) (q := 15) d2_12 rfl (Or.inl (hw _ (List.mem_of_getElem? (i := 21) rfl))) Via.refl F1_bytes E1 (Or.inr ⟨(hw _ (List.mem_of_getElem? (i := 22) rfl)), rfl, rfl⟩) (hw _ (List.mem_of_getElem? (i := 7) rfl)) (by decide) rfl rfl gr ?_
  intro h3 K3 E3 F3 G3
  have F3_position := G3 (slot_ne (Or.inl (hw _ (List.mem_of_getElem? (i := 29) rfl))) (Or.inr (hw _ (List.mem_of_getElem? (i := 22) rfl))) (by decide) (t := .int) (t' := (.array .byte)) (by decide) (by decide)) F1_position
  have F3_mask := G3 (slot_ne (Or.inl (hw _ (List.mem_of_getElem? (i := 31) rfl))) (Or.inr (hw _ (List.mem_of_getElem? (i := 22) rfl))) (by decide) (t := .byte) (t' := (.array .byte)) (by decide) (by decide)) F1_mask
  show oGo Z _ _ _ _ _ _ n0 _ 0 0 h3 15 #[.val (.ref r), .val (.ref a)] []
  exact oGo.retV d2_15 rfl (by decide) (by decide) (⟨rfl, K3, ⟨E3, F3, F3_position, F3_mask⟩⟩)
theorem own_ef8 (m : MethodId) (x0 : Addr) : entryFrame m #[(.ref x0)] 1 = mkF m 0 #[.val (.ref x0)] [] := by first | (simp [entryFrame, mkF, argsToLocals, Value.category]; done) | rfl
theorem own_pn8 : plainFor (⟨"com/example/lexorder/lexorder/ByteReader", "invert", "()V"⟩ : MethodName) = true := plainFor_of_name (by first | (simp [plainName, overriddenIn]; done) | decide +kernel)
set_option maxRecDepth 65536 in
set_option maxHeartbeats 40000000 in
theorem cv {Z : State} {a0 : Array Value} (hw : ∀ d ∈ tables_1, d.before a0 Z = true) (r : Addr) (A P : Value) (m m' : Int32) (h : Heap) (n0 : Nat) (gr : n0 ≤ r) (O : own_br Z h r A P (.int m)) (hm : (m ^^^ (-1 : Int32)).toInt8.toInt32 = m') :
    oCon Z (⟨"com/example/lexorder/lexorder/ByteReader", "invert", "()V"⟩ : MethodName) prog_2_method_15_code 1 none ({ frames := 0, cells := 0, slots := 0, locals := 0 } : Room) #[(.ref r)] h n0 (fun v h' => v = none ∧ Keep h h' [r] ∧ own_br Z h' r A P (.int m')) := by
  refine oCon.of own_pn8 (fun m => own_ef8 m r) ?_
  show oGo Z _ _ _ _ _ _ n0 _ 0 0 h 0 #[.val (.ref r)] []
  subst hm
  obtain ⟨E4, F4_bytes, F4_position, F4_mask⟩ := O
  refine oGo.aloadN (q := 1) d8_0 rfl rfl rfl ?_
  refine oGo.aloadN (q := 2) d8_1 rfl rfl rfl ?_
  refine oGo.getF (host := "") (q := 5) (v := (.int m)) d8_2 rfl (Or.inl (hw _ (List.mem_of_getElem? (i := 30) rfl))) Via.refl F4_mask ?_
  refine oGo.iconst (q := 6) (v := (-1 : Int32)) d8_5 rfl (by decide) ?_
  refine oGo.ixor (q := 7) d8_6 rfl ?_
  refine oGo.i2b (q := 8) d8_7 rfl ?_
  refine oGo.putF (host := "") (ty := .byte) (q := 11) d8_8 rfl (Or.inl (hw _ (List.mem_of_getElem? (i := 30) rfl))) Via.refl F4_mask E4 (Or.inl (hw _ (List.mem_of_getElem? (i := 31) rfl))) (hw _ (List.mem_of_getElem? (i := 7) rfl)) (by decide) (congrArg Value.int (own_bb _)) (fits_nar_byte _) gr ?_
  intro h5 K5 E5 F5 G5
  have F5_bytes := G5 (slot_ne (Or.inr (hw _ (List.mem_of_getElem? (i := 22) rfl))) (Or.inl (hw _ (List.mem_of_getElem? (i := 31) rfl))) (by decide) (t := (.array .byte)) (t' := .byte) (by decide) (by decide)) F4_bytes
  have F5_position := G5 (slot_ne (Or.inl (hw _ (List.mem_of_getElem? (i := 29) rfl))) (Or.inl (hw _ (List.mem_of_getElem? (i := 31) rfl))) (by decide) (t := .int) (t' := .byte) (by decide) (by decide)) F4_position
  show oGo Z _ _ _ _ _ _ n0 _ 0 0 h5 11 #[.val (.ref r)] []
  exact oGo.retV d8_11 rfl (by decide) (by decide) (⟨rfl, K5, ⟨E5, F5_bytes, F5_position, F5⟩⟩)
theorem own_ef7 (m : MethodId) (x0 : Addr) : entryFrame m #[(.ref x0)] 1 = mkF m 0 #[.val (.ref x0)] [] := by first | (simp [entryFrame, mkF, argsToLocals, Value.category]; done) | rfl
theorem own_pn7 : plainFor (⟨"com/example/lexorder/lexorder/ByteReader", "position", "()I"⟩ : MethodName) = true := plainFor_of_name (by first | (simp [plainName, overriddenIn]; done) | decide +kernel)
set_option maxRecDepth 65536 in
set_option maxHeartbeats 40000000 in
theorem cp {Z : State} {a0 : Array Value} (hw : ∀ d ∈ tables_1, d.before a0 Z = true) (r : Addr) (A M : Value) (p : Int32) (h : Heap) (n0 : Nat) (O : own_br Z h r A (.int p) M) :
    oCon Z (⟨"com/example/lexorder/lexorder/ByteReader", "position", "()I"⟩ : MethodName) prog_2_method_2_code 1 (some .int) ({ frames := 0, cells := 0, slots := 0, locals := 0 } : Room) #[(.ref r)] h n0 (fun v h' => v = some (.int p) ∧ h' = h) := by
  refine oCon.of own_pn7 (fun m => own_ef7 m r) ?_
  show oGo Z _ _ _ _ _ _ n0 _ 0 0 h 0 #[.val (.ref r)] []
  obtain ⟨E6, F6_bytes, F6_position, F6_mask⟩ := O
  refine oGo.aloadN (q := 1) d7_0 rfl rfl rfl ?_
  refine oGo.getF (host := "") (q := 4) (v := (.int p)) d7_1 rfl (Or.inl (hw _ (List.mem_of_getElem? (i := 28) rfl))) Via.refl F6_position ?_
  exact oGo.retI d7_4 rfl (by decide) (by decide) (⟨rfl, rfl⟩)
theorem own_ef5 (m : MethodId) (x0 : Addr) : entryFrame m #[(.ref x0)] 1 = mkF m 0 #[.val (.ref x0)] [] := by first | (simp [entryFrame, mkF, argsToLocals, Value.category]; done) | rfl
theorem own_pn5 : plainFor (⟨"com/example/lexorder/lexorder/ByteReader", "next", "()B"⟩ : MethodName) = true := plainFor_of_name (by first | (simp [plainName, overriddenIn]; done) | decide +kernel)
set_option maxRecDepth 65536 in
set_option maxHeartbeats 40000000 in
theorem cx {Z : State} {a0 : Array Value} (hw : ∀ d ∈ tables_1, d.before a0 Z = true) (r a : Addr) (p p' m x y : Int32) (i : Nat) (vs : List Value) (h : Heap) (n0 : Nat) (gr : n0 ≤ r) (hne : a ≠ r) (O : own_br Z h r (.ref a) (.int p) (.int m)) (A : Ars Z h a .byte vs) (hi : p.toInt = (i : Int)) (hx : vs[i]? = some (.int x)) (hp : p + (1 : Int32) = p') (hy : (x ^^^ m).toInt8.toInt32 = y) :
    oCon Z (⟨"com/example/lexorder/lexorder/ByteReader", "next", "()B"⟩ : MethodName) prog_2_method_7_code 1 (some .byte) ({ frames := 0, cells := 0, slots := 0, locals := 0 } : Room) #[(.ref r)] h n0 (fun v h' => v = some (.int y) ∧ Keep h h' [r] ∧ own_br Z h' r (.ref a) (.int p') (.int m)) := by
  refine oCon.of own_pn5 (fun m => own_ef5 m r) ?_
  show oGo Z _ _ _ _ _ _ n0 _ 0 0 h 0 #[.val (.ref r)] []
  subst hp hy
  obtain ⟨E7, F7_bytes, F7_position, F7_mask⟩ := O
  refine oGo.aloadN (q := 1) d5_0 rfl rfl rfl ?_
  refine oGo.getF (host := "") (q := 4) (v := (.ref a)) d5_1 rfl (Or.inl (hw _ (List.mem_of_getElem? (i := 21) rfl))) Via.refl F7_bytes ?_
  refine oGo.aloadN (q := 5) d5_4 rfl rfl rfl ?_
  refine oGo.dup (q := 6) d5_5 rfl rfl ?_
  refine oGo.getF (host := "") (q := 9) (v := (.int p)) d5_6 rfl (Or.inl (hw _ (List.mem_of_getElem? (i := 28) rfl))) Via.refl F7_position ?_
  refine oGo.dupX1 (q := 10) d5_9 rfl rfl rfl ?_
  refine oGo.iconst (q := 11) (v := (1 : Int32)) d5_10 rfl rfl ?_
  refine oGo.iadd (q := 12) d5_11 rfl ?_
  refine oGo.putF (host := "") (ty := .int) (q := 15) d5_12 rfl (Or.inl (hw _ (List.mem_of_getElem? (i := 28) rfl))) Via.refl F7_position E7 (Or.inl (hw _ (List.mem_of_getElem? (i := 29) rfl))) (hw _ (List.mem_of_getElem? (i := 7) rfl)) (by decide) rfl rfl gr ?_
  intro h8 K8 E8 F8 G8
  have F8_bytes := G8 (slot_ne (Or.inr (hw _ (List.mem_of_getElem? (i := 22) rfl))) (Or.inl (hw _ (List.mem_of_getElem? (i := 29) rfl))) (by decide) (t := (.array .byte)) (t' := .int) (by decide) (by decide)) F7_bytes
  have F8_mask := G8 (slot_ne (Or.inl (hw _ (List.mem_of_getElem? (i := 31) rfl))) (Or.inl (hw _ (List.mem_of_getElem? (i := 29) rfl))) (by decide) (t := .byte) (t' := .int) (by decide) (by decide)) F7_mask
  have A_ := Ars.keep A K8 (ninS hne nin0)
  show oGo Z _ _ _ _ _ _ n0 _ 0 0 h8 15 #[.val (.ref r)] [(.int p), (.ref a)]
  refine oGo.baload (q := 16) (i := i) (v := (.int x)) d5_15 rfl A_ hi hx ?_
  refine oGo.aloadN (q := 17) d5_16 rfl rfl rfl ?_
  refine oGo.getF (host := "") (q := 20) (v := (.int m)) d5_17 rfl (Or.inl (hw _ (List.mem_of_getElem? (i := 30) rfl))) Via.refl F8_mask ?_
  refine oGo.ixor (q := 21) d5_20 rfl ?_
  refine oGo.i2b (q := 22) d5_21 rfl ?_
  exact oGo.retN (t := .byte) d5_22 rfl (by simp) (by decide) (by decide) (⟨congrArg (fun z => some (Value.int z)) (own_bb _), K8, ⟨E8, F8_bytes, F8, F8_mask⟩⟩)
theorem d1_0 : decode method_2_code 0 = .ok (.iload_n 0, 1) := by decide +kernel
theorem d1_1 : decode method_2_code 1 = .ok (.ifCond .ne 5, 3) := by decide +kernel
theorem d1_4 : decode method_2_code 4 = .ok (.iload_n 1, 1) := by decide +kernel
theorem d1_5 : decode method_2_code 5 = .ok (.ireturn, 1) := by decide +kernel
theorem d1_6 : decode method_2_code 6 = .ok (.iload_n 0, 1) := by decide +kernel
theorem d1_7 : decode method_2_code 7 = .ok (.iconst 1, 1) := by decide +kernel
theorem d1_8 : decode method_2_code 8 = .ok (.if_icmp .ne 5, 3) := by decide +kernel
theorem d1_11 : decode method_2_code 11 = .ok (.iload_n 2, 1) := by decide +kernel
theorem d1_12 : decode method_2_code 12 = .ok (.ireturn, 1) := by decide +kernel
theorem d1_13 : decode method_2_code 13 = .ok (.iload_n 0, 1) := by decide +kernel
theorem d1_14 : decode method_2_code 14 = .ok (.iconst 2, 1) := by decide +kernel
theorem d1_15 : decode method_2_code 15 = .ok (.if_icmp .ne 5, 3) := by decide +kernel
theorem d1_18 : decode method_2_code 18 = .ok (.iload_n 3, 1) := by decide +kernel
theorem d1_19 : decode method_2_code 19 = .ok (.ireturn, 1) := by decide +kernel
theorem d1_20 : decode method_2_code 20 = .ok (.iload_n 0, 1) := by decide +kernel
theorem d1_21 : decode method_2_code 21 = .ok (.iconst 3, 1) := by decide +kernel
theorem d1_22 : decode method_2_code 22 = .ok (.if_icmp .ne 6, 3) := by decide +kernel
theorem d1_25 : decode method_2_code 25 = .ok (.iload 4, 2) := by decide +kernel
theorem d1_27 : decode method_2_code 27 = .ok (.ireturn, 1) := by decide +kernel
theorem d1_28 : decode method_2_code 28 = .ok (.iload 5, 2) := by decide +kernel
theorem d1_30 : decode method_2_code 30 = .ok (.i2b, 1) := by decide +kernel
theorem d1_31 : decode method_2_code 31 = .ok (.ireturn, 1) := by decide +kernel
theorem own_pd5 : parseMethodDescriptor "(IBBBBI)B" = some ⟨[.int, .byte, .byte, .byte, .byte, .int], some .byte⟩ := by decide +kernel
theorem d6_0 : decode prog_2_method_9_code 0 = .ok (.iload_n 1, 1) := by decide +kernel
theorem d6_1 : decode prog_2_method_9_code 1 = .ok (.aload_n 0, 1) := by decide +kernel
theorem d6_2 : decode prog_2_method_9_code 2 = .ok (.getfield 28, 3) := by decide +kernel
theorem d6_5 : decode prog_2_method_9_code 5 = .ok (.ixor, 1) := by decide +kernel
theorem d6_6 : decode prog_2_method_9_code 6 = .ok (.i2b, 1) := by decide +kernel
theorem d6_7 : decode prog_2_method_9_code 7 = .ok (.istore_n 2, 1) := by decide +kernel
theorem d6_8 : decode prog_2_method_9_code 8 = .ok (.aload_n 0, 1) := by decide +kernel
theorem d6_9 : decode prog_2_method_9_code 9 = .ok (.getfield 20, 3) := by decide +kernel
theorem d6_12 : decode prog_2_method_9_code 12 = .ok (.istore_n 3, 1) := by decide +kernel
theorem d6_13 : decode prog_2_method_9_code 13 = .ok (.iload_n 3, 1) := by decide +kernel
theorem d6_14 : decode prog_2_method_9_code 14 = .ok (.aload_n 0, 1) := by decide +kernel
theorem d6_15 : decode prog_2_method_9_code 15 = .ok (.getfield 15, 3) := by decide +kernel
theorem d6_18 : decode prog_2_method_9_code 18 = .ok (.arraylength, 1) := by decide +kernel
theorem d6_19 : decode prog_2_method_9_code 19 = .ok (.if_icmp .ge 26, 3) := by decide +kernel
theorem d6_22 : decode prog_2_method_9_code 22 = .ok (.aload_n 0, 1) := by decide +kernel
theorem d6_23 : decode prog_2_method_9_code 23 = .ok (.getfield 15, 3) := by decide +kernel
theorem d6_26 : decode prog_2_method_9_code 26 = .ok (.iload_n 3, 1) := by decide +kernel
theorem d6_27 : decode prog_2_method_9_code 27 = .ok (.baload, 1) := by decide +kernel
theorem d6_28 : decode prog_2_method_9_code 28 = .ok (.iload_n 2, 1) := by decide +kernel
theorem d6_29 : decode prog_2_method_9_code 29 = .ok (.if_icmp .ne 10, 3) := by decide +kernel
theorem d6_32 : decode prog_2_method_9_code 32 = .ok (.iload_n 3, 1) := by decide +kernel
theorem d6_33 : decode prog_2_method_9_code 33 = .ok (.aload_n 0, 1) := by decide +kernel
theorem d6_34 : decode prog_2_method_9_code 34 = .ok (.getfield 20, 3) := by decide +kernel
theorem d6_37 : decode prog_2_method_9_code 37 = .ok (.isub, 1) := by decide +kernel
theorem d6_38 : decode prog_2_method_9_code 38 = .ok (.ireturn, 1) := by decide +kernel
theorem d6_39 : decode prog_2_method_9_code 39 = .ok (.iinc 3 1, 3) := by decide +kernel
theorem d6_42 : decode prog_2_method_9_code 42 = .ok (.goto (-29), 3) := by decide +kernel
theorem d6_45 : decode prog_2_method_9_code 45 = .ok (.iconst (-1), 1) := by decide +kernel
theorem d6_46 : decode prog_2_method_9_code 46 = .ok (.ireturn, 1) := by decide +kernel
theorem own_pd6 : parseMethodDescriptor "(B)I" = some ⟨[.byte], some .int⟩ := by decide +kernel
theorem own_not (x : Int32) : (x ^^^ (-1 : Int32)).toInt = -x.toInt - 1 := by
  have e : x ^^^ (-1 : Int32) = ~~~x := by
    apply Int32.toBitVec_inj.mp
    show x.toBitVec ^^^ BitVec.allOnes 32 = ~~~x.toBitVec
    exact BitVec.xor_allOnes
  rw [e, Int32.not_eq_neg_sub]
  have a := c_ineg x
  have b := c_isub (-x) 1
  have z : (1 : Int32).toInt = 1 := by decide
  have r := rng32 (-x - 1)
  have r2 := rng32 x
  omega
theorem own_sw {y b m : Int32} (hy : y.toInt8.toInt32 = y) (hb : b.toInt8.toInt32 = b) (hm : m = 0 ∨ m = -1) : (y ^^^ m).toInt8.toInt32 = b ↔ y = (b ^^^ m).toInt8.toInt32 := by
  rcases hm with rfl | rfl
  · rw [Int32.xor_zero, Int32.xor_zero, hy, hb]
  · have a1 := own_not y
    have a2 := own_not b
    have c1 := c_i2b (y ^^^ (-1 : Int32))
    have c2 := c_i2b (b ^^^ (-1 : Int32))
    have d1 := c_i2b y
    have d2 := c_i2b b
    rw [hy] at d1
    rw [hb] at d2
    constructor
    · intro e; apply own_int32; have := congrArg Int32.toInt e; omega
    · intro e; apply own_int32; have := congrArg Int32.toInt e; omega
def own_g (y0 y1 y2 y3 : Int32) : Nat → Int32
  | 0 => y0
  | 1 => y1
  | 2 => y2
  | _ => y3
def own_ix (p : Nat) (t : Int32) (f : Nat → Int32) (i : Nat) (e : Int32) : Prop :=
  (∃ j, i ≤ j ∧ p ≤ j ∧ j < 4 ∧ f j = t ∧ (∀ l, i ≤ l → p ≤ l → l < j → f l ≠ t) ∧ e = Int32.ofNat j - Int32.ofNat p) ∨ ((∀ l, i ≤ l → p ≤ l → l < 4 → f l ≠ t) ∧ e = -1)
theorem own_ix.hit {p : Nat} {t : Int32} {f : Nat → Int32} {i : Nat} (hp : p ≤ i) (hi : i < 4) (hf : f i = t) : own_ix p t f i (Int32.ofNat i - Int32.ofNat p) := Or.inl ⟨i, Nat.le_refl _, hp, hi, hf, fun l h1 _ h3 => absurd h3 (by omega), rfl⟩
theorem own_ix.skip {p : Nat} {t : Int32} {f : Nat → Int32} {i : Nat} {e : Int32} (H : own_ix p t f (i + 1) e) (hs : ¬ p ≤ i ∨ f i ≠ t) : own_ix p t f i e := by
  have key : ∀ l, i ≤ l → p ≤ l → l = i → f l ≠ t := fun l h1 h2 h3 => by
    subst h3
    rcases hs with u | u
    · exact absurd h2 u
    · exact u
  rcases H with ⟨j, h1, h2, h3, h4, h5, h6⟩ | ⟨h1, h2⟩
  · refine Or.inl ⟨j, by omega, h2, h3, h4, fun l g1 g2 g3 => ?_, h6⟩
    by_cases u : l = i
    · exact key l g1 g2 u
    · exact h5 l (by omega) g2 g3
  · refine Or.inr ⟨fun l g1 g2 g3 => ?_, h2⟩
    by_cases u : l = i
    · exact key l g1 g2 u
    · exact h1 l (by omega) g2 g3
theorem own_ix.uniq {p : Nat} {t : Int32} {f : Nat → Int32} {e e' : Int32} (H : own_ix p t f 0 e) (H' : own_ix p t f 0 e') : e = e' := by
  rcases H with ⟨j, h1, h2, h3, h4, h5, h6⟩ | ⟨h1, h2⟩ <;> rcases H' with ⟨j', g1, g2, g3, g4, g5, g6⟩ | ⟨g1, g2⟩
  · rcases Nat.lt_trichotomy j j' with u | u | u
    · exact absurd h4 (g5 j (by omega) h2 u)
    · rw [h6, g6, u]
    · exact absurd g4 (h5 j' (by omega) g2 u)
  · exact absurd h4 (g1 j (by omega) h2 h3)
  · exact absurd g4 (h1 j' (by omega) g2 g3)
  · rw [h2, g2]
theorem own_ef1 (m : MethodId) (x0 : Int32) (x1 : Int32) (x2 : Int32) (x3 : Int32) (x4 : Int32) (x5 : Int32) : entryFrame m #[(.int x0), (.int x1), (.int x2), (.int x3), (.int x4), (.int x5)] 6 = mkF m 0 #[.val (.int x0), .val (.int x1), .val (.int x2), .val (.int x3), .val (.int x4), .val (.int x5)] [] := by first | (simp [entryFrame, mkF, argsToLocals, Value.category]; done) | rfl
theorem own_pn1 : plainFor (⟨"com/example/lexorder/lexorder/ByteReaderIndexOfPinLaw", "pick", "(IBBBBI)B"⟩ : MethodName) = true := plainFor_of_name (by first | (simp [plainName, overriddenIn]; done) | decide +kernel)
set_option maxRecDepth 65536 in
set_option maxHeartbeats 40000000 in
theorem ck {Z : State} {a0 : Array Value} (hw : ∀ d ∈ tables_1, d.before a0 Z = true) (s v0 v1 v2 v3 t : Int32) (h : Heap) (n0 : Nat) :
    oCon Z (⟨"com/example/lexorder/lexorder/ByteReaderIndexOfPinLaw", "pick", "(IBBBBI)B"⟩ : MethodName) method_2_code 6 (some .byte) ({ frames := 0, cells := 0, slots := 0, locals := 0 } : Room) #[(.int s), (.int v0), (.int v1), (.int v2), (.int v3), (.int t)] h n0 (fun r h' => (∃ b : Int32, r = some (.int b) ∧ b.toInt8.toInt32 = b) ∧ h' = h) := by
  refine oCon.of own_pn1 (fun m => own_ef1 m s v0 v1 v2 v3 t) ?_
  show oGo Z _ _ _ _ _ _ n0 _ 0 0 h 0 #[.val (.int s), .val (.int v0), .val (.int v1), .val (.int v2), .val (.int v3), .val (.int t)] []
  refine oGo.iloadN (q := 1) d1_0 rfl rfl ?_
  refine oGo.if_ne (q := 6) (r := 4) d1_1 (by decide) rfl (fun hc0 => ?_) (fun hc0 => ?_)
  · skip
    refine oGo.iloadN (q := 7) d1_6 rfl rfl ?_
    refine oGo.iconst (q := 8) (v := (1 : Int32)) d1_7 rfl rfl ?_
    refine oGo.icmp_ne (q := 13) (r := 11) d1_8 (by decide) rfl (fun hc1 => ?_) (fun hc1 => ?_)
    · skip
      refine oGo.iloadN (q := 14) d1_13 rfl rfl ?_
      refine oGo.iconst (q := 15) (v := (2 : Int32)) d1_14 rfl rfl ?_
      refine oGo.icmp_ne (q := 20) (r := 18) d1_15 (by decide) rfl (fun hc2 => ?_) (fun hc2 => ?_)
      · skip
        refine oGo.iloadN (q := 21) d1_20 rfl rfl ?_
        refine oGo.iconst (q := 22) (v := (3 : Int32)) d1_21 rfl rfl ?_
        refine oGo.icmp_ne (q := 28) (r := 25) d1_22 (by decide) rfl (fun hc3 => ?_) (fun hc3 => ?_)
        · skip
          refine oGo.iload (q := 30) d1_28 rfl rfl ?_
          refine oGo.i2b (q := 31) d1_30 rfl ?_
          exact oGo.retN (t := .byte) d1_31 rfl (by simp) (by decide) (by decide) (⟨⟨_, rfl, own_bb _⟩, rfl⟩)
        · skip
          refine oGo.iload (q := 27) d1_25 rfl rfl ?_
          exact oGo.retN (t := .byte) d1_27 rfl (by simp) (by decide) (by decide) (⟨⟨_, rfl, own_bb _⟩, rfl⟩)
      · skip
        refine oGo.iloadN (q := 19) d1_18 rfl rfl ?_
        exact oGo.retN (t := .byte) d1_19 rfl (by simp) (by decide) (by decide) (⟨⟨_, rfl, own_bb _⟩, rfl⟩)
    · skip
      refine oGo.iloadN (q := 12) d1_11 rfl rfl ?_
      exact oGo.retN (t := .byte) d1_12 rfl (by simp) (by decide) (by decide) (⟨⟨_, rfl, own_bb _⟩, rfl⟩)
  · skip
    refine oGo.iloadN (q := 5) d1_4 rfl rfl ?_
    exact oGo.retN (t := .byte) d1_5 rfl (by simp) (by decide) (by decide) (⟨⟨_, rfl, own_bb _⟩, rfl⟩)
theorem own_ef6 (m : MethodId) (x0 : Addr) (x1 : Int32) : entryFrame m #[(.ref x0), (.int x1)] 4 = mkF m 0 #[.val (.ref x0), .val (.int x1), .unset, .unset] [] := by first | (simp [entryFrame, mkF, argsToLocals, Value.category]; done) | rfl
theorem own_pn6 : plainFor (⟨"com/example/lexorder/lexorder/ByteReader", "indexOf", "(B)I"⟩ : MethodName) = true := plainFor_of_name (by first | (simp [plainName, overriddenIn]; done) | decide +kernel)
set_option maxRecDepth 65536 in
set_option maxHeartbeats 40000000 in
theorem co {Z : State} {a0 : Array Value} (hw : ∀ d ∈ tables_1, d.before a0 Z = true) (r : Addr) (b : Int32) (a : Addr) (p : Nat) (m : Int32) (f : Nat → Int32) (vs : List Value) (h : Heap) (n0 : Nat) (O : own_br Z h r (.ref a) (.int (Int32.ofNat p)) (.int m)) (A : Ars Z h a .byte vs) (hp : p ≤ 4) (hl : vs.length = 4) (hv : ∀ i, i < 4 → vs[i]? = some (.int (f i))) :
    oCon Z (⟨"com/example/lexorder/lexorder/ByteReader", "indexOf", "(B)I"⟩ : MethodName) prog_2_method_9_code 4 (some .int) ({ frames := 0, cells := 0, slots := 0, locals := 0 } : Room) #[(.ref r), (.int b)] h n0 (fun v h' => (∃ e : Int32, v = some (.int e) ∧ own_ix p (b ^^^ m).toInt8.toInt32 f 0 e) ∧ h' = h) := by
  refine oCon.of own_pn6 (fun m => own_ef6 m r b) ?_
  show oGo Z _ _ _ _ _ _ n0 _ 0 0 h 0 #[.val (.ref r), .val (.int b), .unset, .unset] []
  obtain ⟨E9, F9_bytes, F9_position, F9_mask⟩ := O
  refine oGo.iloadN (q := 1) d6_0 rfl rfl ?_
  refine oGo.aloadN (q := 2) d6_1 rfl rfl rfl ?_
  refine oGo.getF (host := "") (q := 5) (v := (.int m)) d6_2 rfl (Or.inl (hw _ (List.mem_of_getElem? (i := 30) rfl))) Via.refl F9_mask ?_
  refine oGo.ixor (q := 6) d6_5 rfl ?_
  refine oGo.i2b (q := 7) d6_6 rfl ?_
  refine oGo.istoreN (q := 8) (L' := #[.val (.ref r), .val (.int b), .val (.int (b ^^^ m).toInt8.toInt32), .unset]) d6_7 rfl rfl ?_
  refine oGo.aloadN (q := 9) d6_8 rfl rfl rfl ?_
  refine oGo.getF (host := "") (q := 12) (v := (.int (Int32.ofNat p))) d6_9 rfl (Or.inl (hw _ (List.mem_of_getElem? (i := 28) rfl))) Via.refl F9_position ?_
  refine oGo.istoreN (q := 13) (L' := #[.val (.ref r), .val (.int b), .val (.int (b ^^^ m).toInt8.toInt32), .val (.int (Int32.ofNat p))]) d6_12 rfl rfl ?_
  have e4 := own_oi (i := 4) (by decide)
  have loop : ∀ (t i : Nat), i + t = 4 → p ≤ i → (∀ l, p ≤ l → l < i → f l ≠ (b ^^^ m).toInt8.toInt32) → oGo Z "com/example/lexorder/lexorder/ByteReader" "indexOf" prog_2_method_9_code 4 (some .int) ({ frames := 0, cells := 0, slots := 0, locals := 0 } : Room) n0 (fun v h' => (∃ e : Int32, v = some (.int e) ∧ own_ix p (b ^^^ m).toInt8.toInt32 f 0 e) ∧ h' = h) 0 0 h 13 #[.val (.ref r), .val (.int b), .val (.int (b ^^^ m).toInt8.toInt32), .val (.int (Int32.ofNat i))] [] := by
    intro t
    induction t with
    | zero =>
      intro i hi hpi H
      have ei := own_oi (i := i) (by omega)
      refine oGo.iloadN (q := 14) d6_13 rfl rfl ?_
      refine oGo.aloadN (q := 15) d6_14 rfl rfl rfl ?_
      refine oGo.getF (host := "") (q := 18) (v := (.ref a)) d6_15 rfl (Or.inl (hw _ (List.mem_of_getElem? (i := 21) rfl))) Via.refl F9_bytes ?_
      refine oGo.arraylength (q := 19) (v := (Int32.ofNat 4)) d6_18 rfl A (by rw [hl]) ?_
      refine oGo.icmp_ge (q := 45) (r := 22) d6_19 (by decide) rfl (fun hc => ?_) (fun hc => absurd hc (by omega))
      refine oGo.iconst (q := 46) (v := (-1 : Int32)) d6_45 rfl (by decide) ?_
      exact oGo.retI d6_46 rfl (by decide) (by decide) (⟨⟨_, rfl, Or.inr ⟨fun l _ h2 h3 => H l h2 (by omega), rfl⟩⟩, rfl⟩)
    | succ t ih =>
      intro i hi hpi H
      have ei := own_oi (i := i) (by omega)
      refine oGo.iloadN (q := 14) d6_13 rfl rfl ?_
      refine oGo.aloadN (q := 15) d6_14 rfl rfl rfl ?_
      refine oGo.getF (host := "") (q := 18) (v := (.ref a)) d6_15 rfl (Or.inl (hw _ (List.mem_of_getElem? (i := 21) rfl))) Via.refl F9_bytes ?_
      refine oGo.arraylength (q := 19) (v := (Int32.ofNat 4)) d6_18 rfl A (by rw [hl]) ?_
      refine oGo.icmp_ge (q := 45) (r := 22) d6_19 (by decide) rfl (fun hc => absurd hc (by omega)) (fun hc => ?_)
      refine oGo.aloadN (q := 23) d6_22 rfl rfl rfl ?_
      refine oGo.getF (host := "") (q := 26) (v := (.ref a)) d6_23 rfl (Or.inl (hw _ (List.mem_of_getElem? (i := 21) rfl))) Via.refl F9_bytes ?_
      refine oGo.iloadN (q := 27) d6_26 rfl rfl ?_
      refine oGo.baload (q := 28) (i := i) (v := (.int (f i))) d6_27 rfl A ei (hv i (by omega)) ?_
      refine oGo.iloadN (q := 29) d6_28 rfl rfl ?_
      refine oGo.icmp_ne (q := 39) (r := 32) d6_29 (by decide) rfl (fun hc2 => ?_) (fun hc2 => ?_)
      · skip
        refine oGo.iinc (q := 42) (v := (Int32.ofNat (i + 1))) (L' := #[.val (.ref r), .val (.int b), .val (.int (b ^^^ m).toInt8.toInt32), .val (.int (Int32.ofNat (i + 1)))]) d6_39 rfl rfl (own_oinc i) rfl ?_
        refine oGo.goto (q := 13) d6_42 (by decide) ?_
        refine ih (i + 1) (by omega) (by omega) (fun l h1 h2 => ?_)
        by_cases u : l = i
        · subst u; exact hc2
        · exact H l h1 (by omega)
      · skip
        refine oGo.iloadN (q := 33) d6_32 rfl rfl ?_
        refine oGo.aloadN (q := 34) d6_33 rfl rfl rfl ?_
        refine oGo.getF (host := "") (q := 37) (v := (.int (Int32.ofNat p))) d6_34 rfl (Or.inl (hw _ (List.mem_of_getElem? (i := 28) rfl))) Via.refl F9_position ?_
        refine oGo.isub (q := 38) d6_37 rfl ?_
        exact oGo.retI d6_38 rfl (by decide) (by decide) (⟨⟨_, rfl, Or.inl ⟨i, by omega, hpi, by omega, hc2, fun l _ h2 h3 => H l h2 h3, rfl⟩⟩, rfl⟩)
  exact loop (4 - p) p (by omega) (by omega) (fun l h1 h2 => absurd h2 (by omega))
theorem own_ef0 (m : MethodId) (x0 : Int32) (x1 : Int32) (x2 : Int32) (x3 : Int32) (x4 : Int32) : entryFrame m #[(.int x0), (.int x1), (.int x2), (.int x3), (.int x4)] maxLocals = mkF m 0 #[.val (.int x0), .val (.int x1), .val (.int x2), .val (.int x3), .val (.int x4), .unset, .unset, .unset, .unset, .unset, .unset, .unset, .unset, .unset, .unset, .unset, .unset, .unset, .unset, .unset, .unset, .unset] [] := by first | (simp [entryFrame, mkF, argsToLocals, Value.category, maxLocals]; done) | rfl
theorem own_pn0 : plainFor x = true := plainFor_of_name (by first | (simp [plainName, overriddenIn, x]; done) | decide +kernel)
set_option maxRecDepth 65536 in
set_option maxHeartbeats 40000000 in
theorem law {Z : State} {a0 : Array Value} (hw : ∀ d ∈ tables_1, d.before a0 Z = true) (p0 p1 p2 p3 p4 : Int32) (h : Heap) (n0 : Nat) (Z0 : n0 ≤ h.size) :
    oCon Z x code maxLocals ret room_1 #[(.int p0), (.int p1), (.int p2), (.int p3), (.int p4)] h n0 (fun v _ => v = some (.int 1)) := by
  refine oCon.of own_pn0 (fun m => own_ef0 m p0 p1 p2 p3 p4) ?_
  show oGo Z _ _ _ _ _ _ n0 _ 0 0 h 0 #[.val (.int p0), .val (.int p1), .val (.int p2), .val (.int p3), .val (.int p4), .unset, .unset, .unset, .unset, .unset, .unset, .unset, .unset, .unset, .unset, .unset, .unset, .unset, .unset, .unset, .unset, .unset] []
  refine oGo.iloadN (q := 1) at_0 rfl rfl ?_
  refine oGo.i2b (q := 2) at_1 rfl ?_
  obtain ⟨y0, ey0, hy0⟩ : ∃ y : Int32, p0.toInt8.toInt32 = y ∧ y.toInt8.toInt32 = y := ⟨_, rfl, own_bb _⟩
  rw [ey0]
  refine oGo.istore (q := 4) (L' := #[.val (.int p0), .val (.int p1), .val (.int p2), .val (.int p3), .val (.int p4), .val (.int y0), .unset, .unset, .unset, .unset, .unset, .unset, .unset, .unset, .unset, .unset, .unset, .unset, .unset, .unset, .unset, .unset]) at_2 rfl rfl ?_
  refine oGo.iloadN (q := 5) at_4 rfl rfl ?_
  refine oGo.bipush (q := 7) (v := (8 : Int32)) at_5 rfl rfl ?_
  refine oGo.iushr (q := 8) at_7 rfl ?_
  refine oGo.i2b (q := 9) at_8 rfl ?_
  obtain ⟨y1, ey1, hy1⟩ : ∃ y : Int32, ((p0.toUInt32 >>> ((8 : Int32) &&& 31).toUInt32).toInt32).toInt8.toInt32 = y ∧ y.toInt8.toInt32 = y := ⟨_, rfl, own_bb _⟩
  rw [ey1]
  refine oGo.istore (q := 11) (L' := #[.val (.int p0), .val (.int p1), .val (.int p2), .val (.int p3), .val (.int p4), .val (.int y0), .val (.int y1), .unset, .unset, .unset, .unset, .unset, .unset, .unset, .unset, .unset, .unset, .unset, .unset, .unset, .unset, .unset]) at_9 rfl rfl ?_
  refine oGo.iloadN (q := 12) at_11 rfl rfl ?_
  refine oGo.bipush (q := 14) (v := (16 : Int32)) at_12 rfl rfl ?_
  refine oGo.iushr (q := 15) at_14 rfl ?_
  refine oGo.i2b (q := 16) at_15 rfl ?_
  obtain ⟨y2, ey2, hy2⟩ : ∃ y : Int32, ((p0.toUInt32 >>> ((16 : Int32) &&& 31).toUInt32).toInt32).toInt8.toInt32 = y ∧ y.toInt8.toInt32 = y := ⟨_, rfl, own_bb _⟩
  rw [ey2]
  refine oGo.istore (q := 18) (L' := #[.val (.int p0), .val (.int p1), .val (.int p2), .val (.int p3), .val (.int p4), .val (.int y0), .val (.int y1), .val (.int y2), .unset, .unset, .unset, .unset, .unset, .unset, .unset, .unset, .unset, .unset, .unset, .unset, .unset, .unset]) at_16 rfl rfl ?_
  refine oGo.iloadN (q := 19) at_18 rfl rfl ?_
  refine oGo.bipush (q := 21) (v := (24 : Int32)) at_19 rfl rfl ?_
  refine oGo.iushr (q := 22) at_21 rfl ?_
  refine oGo.i2b (q := 23) at_22 rfl ?_
  obtain ⟨y3, ey3, hy3⟩ : ∃ y : Int32, ((p0.toUInt32 >>> ((24 : Int32) &&& 31).toUInt32).toInt32).toInt8.toInt32 = y ∧ y.toInt8.toInt32 = y := ⟨_, rfl, own_bb _⟩
  rw [ey3]
  refine oGo.istore (q := 25) (L' := #[.val (.int p0), .val (.int p1), .val (.int p2), .val (.int p3), .val (.int p4), .val (.int y0), .val (.int y1), .val (.int y2), .val (.int y3), .unset, .unset, .unset, .unset, .unset, .unset, .unset, .unset, .unset, .unset, .unset, .unset, .unset]) at_23 rfl rfl ?_
  refine oGo.iload (q := 27) at_25 rfl rfl ?_
  refine oGo.iconst (q := 28) (v := (1 : Int32)) at_27 rfl rfl ?_
  refine oGo.iand (q := 29) at_28 rfl ?_
  have J63 : ∀ (bi be m : Int32), (bi = 0 ∧ m = 0 ∨ bi = 1 ∧ m = -1) → (be = 0 ∨ be = 1) → oGo Z x.cls x.name code maxLocals ret room_1 n0 (fun v _ => v = some (.int 1)) 0 0 h 63 #[.val (.int p0), .val (.int p1), .val (.int p2), .val (.int p3), .val (.int p4), .val (.int y0), .val (.int y1), .val (.int y2), .val (.int y3), .val (.int bi), .val (.int be), .unset, .unset, .unset, .unset, .unset, .unset, .unset, .unset, .unset, .unset, .unset] [(.int m)] := by
    intro bi be m hb hbe
    have hm : m = 0 ∨ m = -1 := hb.imp (fun z => z.2) (fun z => z.2)
    refine oGo.istore (q := 65) (L' := #[.val (.int p0), .val (.int p1), .val (.int p2), .val (.int p3), .val (.int p4), .val (.int y0), .val (.int y1), .val (.int y2), .val (.int y3), .val (.int bi), .val (.int be), .val (.int m), .unset, .unset, .unset, .unset, .unset, .unset, .unset, .unset, .unset, .unset]) at_63 rfl rfl ?_
    refine oGo.iload (q := 67) at_65 rfl rfl ?_
    refine oGo.iload (q := 69) at_67 rfl rfl ?_
    refine oGo.ixor (q := 70) at_69 rfl ?_
    refine oGo.i2b (q := 71) at_70 rfl ?_
    refine oGo.istore (q := 73) (L' := #[.val (.int p0), .val (.int p1), .val (.int p2), .val (.int p3), .val (.int p4), .val (.int y0), .val (.int y1), .val (.int y2), .val (.int y3), .val (.int bi), .val (.int be), .val (.int m), .val (.int (y0 ^^^ m).toInt8.toInt32), .unset, .unset, .unset, .unset, .unset, .unset, .unset, .unset, .unset]) at_71 rfl rfl ?_
    refine oGo.iload (q := 75) at_73 rfl rfl ?_
    refine oGo.iload (q := 77) at_75 rfl rfl ?_
    refine oGo.ixor (q := 78) at_77 rfl ?_
    refine oGo.i2b (q := 79) at_78 rfl ?_
    refine oGo.istore (q := 81) (L' := #[.val (.int p0), .val (.int p1), .val (.int p2), .val (.int p3), .val (.int p4), .val (.int y0), .val (.int y1), .val (.int y2), .val (.int y3), .val (.int bi), .val (.int be), .val (.int m), .val (.int (y0 ^^^ m).toInt8.toInt32), .val (.int (y1 ^^^ m).toInt8.toInt32), .unset, .unset, .unset, .unset, .unset, .unset, .unset, .unset]) at_79 rfl rfl ?_
    refine oGo.iload (q := 83) at_81 rfl rfl ?_
    refine oGo.iload (q := 85) at_83 rfl rfl ?_
    refine oGo.ixor (q := 86) at_85 rfl ?_
    refine oGo.i2b (q := 87) at_86 rfl ?_
    refine oGo.istore (q := 89) (L' := #[.val (.int p0), .val (.int p1), .val (.int p2), .val (.int p3), .val (.int p4), .val (.int y0), .val (.int y1), .val (.int y2), .val (.int y3), .val (.int bi), .val (.int be), .val (.int m), .val (.int (y0 ^^^ m).toInt8.toInt32), .val (.int (y1 ^^^ m).toInt8.toInt32), .val (.int (y2 ^^^ m).toInt8.toInt32), .unset, .unset, .unset, .unset, .unset, .unset, .unset]) at_87 rfl rfl ?_
    refine oGo.iload (q := 91) at_89 rfl rfl ?_
    refine oGo.iload (q := 93) at_91 rfl rfl ?_
    refine oGo.ixor (q := 94) at_93 rfl ?_
    refine oGo.i2b (q := 95) at_94 rfl ?_
    refine oGo.istore (q := 97) (L' := #[.val (.int p0), .val (.int p1), .val (.int p2), .val (.int p3), .val (.int p4), .val (.int y0), .val (.int y1), .val (.int y2), .val (.int y3), .val (.int bi), .val (.int be), .val (.int m), .val (.int (y0 ^^^ m).toInt8.toInt32), .val (.int (y1 ^^^ m).toInt8.toInt32), .val (.int (y2 ^^^ m).toInt8.toInt32), .val (.int (y3 ^^^ m).toInt8.toInt32), .unset, .unset, .unset, .unset, .unset, .unset]) at_95 rfl rfl ?_
    refine oGo.iloadN (q := 98) at_97 rfl rfl ?_
    refine oGo.ldcI (q := 100) (v := (2147483647 : Int32)) at_98 rfl (hw _ (List.mem_of_getElem? (i := 0) rfl)) ?_
    refine oGo.iand (q := 101) at_100 rfl ?_
    refine oGo.iconst (q := 102) (v := (5 : Int32)) at_101 rfl rfl ?_
    refine oGo.irem (q := 103) at_102 rfl (by decide) ?_
    obtain ⟨p, ep, hp⟩ : ∃ p : Nat, ((p3 &&& (2147483647 : Int32)) % (5 : Int32)) = Int32.ofNat p ∧ p ≤ 4 := by
      have a1 := c_mask p3 (2147483647 : Int32) 31 (by decide) (by decide)
      have p : ((2 ^ 31 : Nat) : Int) = 2147483648 := by decide
      rw [p] at a1
      have a2 := own_irem (p3 &&& (2147483647 : Int32)) 5 (by omega)
      have z : (5 : Int32).toInt = 5 := by decide
      rw [z] at a2
      exact ⟨(((p3 &&& (2147483647 : Int32)) % (5 : Int32)).toInt).toNat, own_nat (by omega) (by omega), by omega⟩
    rw [ep]
    have epi := own_oi (i := p) (by omega)
    refine oGo.istore (q := 105) (L' := #[.val (.int p0), .val (.int p1), .val (.int p2), .val (.int p3), .val (.int p4), .val (.int y0), .val (.int y1), .val (.int y2), .val (.int y3), .val (.int bi), .val (.int be), .val (.int m), .val (.int (y0 ^^^ m).toInt8.toInt32), .val (.int (y1 ^^^ m).toInt8.toInt32), .val (.int (y2 ^^^ m).toInt8.toInt32), .val (.int (y3 ^^^ m).toInt8.toInt32), .val (.int (Int32.ofNat p)), .unset, .unset, .unset, .unset, .unset]) at_103 rfl rfl ?_
    refine oGo.iloadN (q := 106) at_105 rfl rfl ?_
    refine oGo.bipush (q := 108) (v := (7 : Int32)) at_106 rfl rfl ?_
    refine oGo.iand (q := 109) at_108 rfl ?_
    refine oGo.iload (q := 111) at_109 rfl rfl ?_
    refine oGo.iload (q := 113) at_111 rfl rfl ?_
    refine oGo.iload (q := 115) at_113 rfl rfl ?_
    refine oGo.iload (q := 117) at_115 rfl rfl ?_
    refine oGo.iloadN (q := 118) at_117 rfl rfl ?_
    refine oGo.callS (W := 0) (rm := ({ frames := 0, cells := 0, slots := 0, locals := 0 } : Room)) (q := 121) [(.int (p2 &&& (7 : Int32))), (.int (y0 ^^^ m).toInt8.toInt32), (.int (y1 ^^^ m).toInt8.toInt32), (.int (y2 ^^^ m).toInt8.toInt32), (.int (y3 ^^^ m).toInt8.toInt32), (.int p1)] [] at_118 rfl (hw _ (List.mem_of_getElem? (i := 1) rfl)) (hw _ (List.mem_of_getElem? (i := 2) rfl)) (hw _ (List.mem_of_getElem? (i := 3) rfl)) (hw _ (List.mem_of_getElem? (i := 4) rfl)) (by decide) (ck hw (p2 &&& (7 : Int32)) (y0 ^^^ m).toInt8.toInt32 (y1 ^^^ m).toInt8.toInt32 (y2 ^^^ m).toInt8.toInt32 (y3 ^^^ m).toInt8.toInt32 p1 h n0) rfl rfl own_pd5 rfl rfl (Nat.le_of_eq rfl) (by decide) (by decide) (by decide) (by decide) ?_
    rintro _ h10 ⟨⟨b, rfl, hbb⟩, eh⟩
    all_goals subst h10
    show oGo Z _ _ _ _ _ _ n0 _ 0 0 h 121 #[.val (.int p0), .val (.int p1), .val (.int p2), .val (.int p3), .val (.int p4), .val (.int y0), .val (.int y1), .val (.int y2), .val (.int y3), .val (.int bi), .val (.int be), .val (.int m), .val (.int (y0 ^^^ m).toInt8.toInt32), .val (.int (y1 ^^^ m).toInt8.toInt32), .val (.int (y2 ^^^ m).toInt8.toInt32), .val (.int (y3 ^^^ m).toInt8.toInt32), .val (.int (Int32.ofNat p)), .unset, .unset, .unset, .unset, .unset] [(.int b)]
    refine oGo.istore (q := 123) (L' := #[.val (.int p0), .val (.int p1), .val (.int p2), .val (.int p3), .val (.int p4), .val (.int y0), .val (.int y1), .val (.int y2), .val (.int y3), .val (.int bi), .val (.int be), .val (.int m), .val (.int (y0 ^^^ m).toInt8.toInt32), .val (.int (y1 ^^^ m).toInt8.toInt32), .val (.int (y2 ^^^ m).toInt8.toInt32), .val (.int (y3 ^^^ m).toInt8.toInt32), .val (.int (Int32.ofNat p)), .val (.int b), .unset, .unset, .unset, .unset]) at_121 rfl rfl ?_
    refine oGo.iconst (q := 124) (v := (4 : Int32)) at_123 rfl rfl ?_
    refine oGo.newP (q := 126) (len := 4) 4 at_124 rfl (hw _ (List.mem_of_getElem? (i := 5) rfl)) rfl (by first | decide | omega) (by decide) (by decide) (by decide) (ad := "[B") rfl ?_
    intro h11 a g11 K11 A11 E11
    have ge_a : n0 ≤ a := Nat.le_trans Z0 (Nat.le_of_eq g11.symm)
    have Z0_ := Nat.le_trans Z0 K11.1
    replace A11 : Ars Z h11 a .byte [(.int (0 : Int32)), (.int (0 : Int32)), (.int (0 : Int32)), (.int (0 : Int32))] := A11
    show oGo Z _ _ _ _ _ _ n0 _ 1 4 h11 126 #[.val (.int p0), .val (.int p1), .val (.int p2), .val (.int p3), .val (.int p4), .val (.int y0), .val (.int y1), .val (.int y2), .val (.int y3), .val (.int bi), .val (.int be), .val (.int m), .val (.int (y0 ^^^ m).toInt8.toInt32), .val (.int (y1 ^^^ m).toInt8.toInt32), .val (.int (y2 ^^^ m).toInt8.toInt32), .val (.int (y3 ^^^ m).toInt8.toInt32), .val (.int (Int32.ofNat p)), .val (.int b), .unset, .unset, .unset, .unset] [(.ref a)]
    refine oGo.dup (q := 127) at_126 rfl rfl ?_
    refine oGo.iconst (q := 128) (v := (0 : Int32)) at_127 rfl rfl ?_
    refine oGo.iload (q := 130) at_128 rfl rfl ?_
    refine oGo.bastore (q := 131) (i := 0) (y := y0) at_130 rfl A11 rfl (Nat.le_of_ble_eq_true rfl) ge_a hy0 ?_
    intro h12 K12 A12
    replace A12 : Ars Z h12 a .byte [(.int y0), (.int (0 : Int32)), (.int (0 : Int32)), (.int (0 : Int32))] := A12
    have E11_ := Exa.keep E11 K12
    have Z0__ := Nat.le_trans Z0_ K12.1
    show oGo Z _ _ _ _ _ _ n0 _ 1 4 h12 131 #[.val (.int p0), .val (.int p1), .val (.int p2), .val (.int p3), .val (.int p4), .val (.int y0), .val (.int y1), .val (.int y2), .val (.int y3), .val (.int bi), .val (.int be), .val (.int m), .val (.int (y0 ^^^ m).toInt8.toInt32), .val (.int (y1 ^^^ m).toInt8.toInt32), .val (.int (y2 ^^^ m).toInt8.toInt32), .val (.int (y3 ^^^ m).toInt8.toInt32), .val (.int (Int32.ofNat p)), .val (.int b), .unset, .unset, .unset, .unset] [(.ref a)]
    refine oGo.dup (q := 132) at_131 rfl rfl ?_
    refine oGo.iconst (q := 133) (v := (1 : Int32)) at_132 rfl rfl ?_
    refine oGo.iload (q := 135) at_133 rfl rfl ?_
    refine oGo.bastore (q := 136) (i := 1) (y := y1) at_135 rfl A12 rfl (Nat.le_of_ble_eq_true rfl) ge_a hy1 ?_
    intro h13 K13 A13
    replace A13 : Ars Z h13 a .byte [(.int y0), (.int y1), (.int (0 : Int32)), (.int (0 : Int32))] := A13
    have E11__ := Exa.keep E11_ K13
    have Z0___ := Nat.le_trans Z0__ K13.1
    show oGo Z _ _ _ _ _ _ n0 _ 1 4 h13 136 #[.val (.int p0), .val (.int p1), .val (.int p2), .val (.int p3), .val (.int p4), .val (.int y0), .val (.int y1), .val (.int y2), .val (.int y3), .val (.int bi), .val (.int be), .val (.int m), .val (.int (y0 ^^^ m).toInt8.toInt32), .val (.int (y1 ^^^ m).toInt8.toInt32), .val (.int (y2 ^^^ m).toInt8.toInt32), .val (.int (y3 ^^^ m).toInt8.toInt32), .val (.int (Int32.ofNat p)), .val (.int b), .unset, .unset, .unset, .unset] [(.ref a)]
    refine oGo.dup (q := 137) at_136 rfl rfl ?_
    refine oGo.iconst (q := 138) (v := (2 : Int32)) at_137 rfl rfl ?_
    refine oGo.iload (q := 140) at_138 rfl rfl ?_
    refine oGo.bastore (q := 141) (i := 2) (y := y2) at_140 rfl A13 rfl (Nat.le_of_ble_eq_true rfl) ge_a hy2 ?_
    intro h14 K14 A14
    replace A14 : Ars Z h14 a .byte [(.int y0), (.int y1), (.int y2), (.int (0 : Int32))] := A14
    have E11___ := Exa.keep E11__ K14
    have Z0____ := Nat.le_trans Z0___ K14.1
    show oGo Z _ _ _ _ _ _ n0 _ 1 4 h14 141 #[.val (.int p0), .val (.int p1), .val (.int p2), .val (.int p3), .val (.int p4), .val (.int y0), .val (.int y1), .val (.int y2), .val (.int y3), .val (.int bi), .val (.int be), .val (.int m), .val (.int (y0 ^^^ m).toInt8.toInt32), .val (.int (y1 ^^^ m).toInt8.toInt32), .val (.int (y2 ^^^ m).toInt8.toInt32), .val (.int (y3 ^^^ m).toInt8.toInt32), .val (.int (Int32.ofNat p)), .val (.int b), .unset, .unset, .unset, .unset] [(.ref a)]
    refine oGo.dup (q := 142) at_141 rfl rfl ?_
    refine oGo.iconst (q := 143) (v := (3 : Int32)) at_142 rfl rfl ?_
    refine oGo.iload (q := 145) at_143 rfl rfl ?_
    refine oGo.bastore (q := 146) (i := 3) (y := y3) at_145 rfl A14 rfl (Nat.le_of_ble_eq_true rfl) ge_a hy3 ?_
    intro h15 K15 A15
    replace A15 : Ars Z h15 a .byte [(.int y0), (.int y1), (.int y2), (.int y3)] := A15
    have E11____ := Exa.keep E11___ K15
    have Z0_____ := Nat.le_trans Z0____ K15.1
    show oGo Z _ _ _ _ _ _ n0 _ 1 4 h15 146 #[.val (.int p0), .val (.int p1), .val (.int p2), .val (.int p3), .val (.int p4), .val (.int y0), .val (.int y1), .val (.int y2), .val (.int y3), .val (.int bi), .val (.int be), .val (.int m), .val (.int (y0 ^^^ m).toInt8.toInt32), .val (.int (y1 ^^^ m).toInt8.toInt32), .val (.int (y2 ^^^ m).toInt8.toInt32), .val (.int (y3 ^^^ m).toInt8.toInt32), .val (.int (Int32.ofNat p)), .val (.int b), .unset, .unset, .unset, .unset] [(.ref a)]
    refine oGo.astore (q := 148) (L' := #[.val (.int p0), .val (.int p1), .val (.int p2), .val (.int p3), .val (.int p4), .val (.int y0), .val (.int y1), .val (.int y2), .val (.int y3), .val (.int bi), .val (.int be), .val (.int m), .val (.int (y0 ^^^ m).toInt8.toInt32), .val (.int (y1 ^^^ m).toInt8.toInt32), .val (.int (y2 ^^^ m).toInt8.toInt32), .val (.int (y3 ^^^ m).toInt8.toInt32), .val (.int (Int32.ofNat p)), .val (.int b), .val (.ref a), .unset, .unset, .unset]) at_146 rfl rfl rfl ?_
    refine oGo.newO (q := 151) at_148 rfl (hw _ (List.mem_of_getElem? (i := 6) rfl)) (hw _ (List.mem_of_getElem? (i := 7) rfl)) (hw _ (List.mem_of_getElem? (i := 8) rfl)) (by decide) (by decide) ?_
    intro h16 r g16 K16 E16 D16
    have ne_a_r : a ≠ r := Nat.ne_of_lt (Nat.lt_of_lt_of_eq (E11____.lt) g16.symm)
    have ge_r : n0 ≤ r := Nat.le_trans Z0_____ (Nat.le_of_eq g16.symm)
    have E11_____ := Exa.keep E11____ K16
    have A15_ := Ars.keep A15 K16 nin0
    have Z0______ := Nat.le_trans Z0_____ K16.1
    have F16_bytes := D16 (Or.inr (hw _ (List.mem_of_getElem? (i := 22) rfl))) (ty := (.array .byte)) (by decide)
    have F16_position := D16 (Or.inl (hw _ (List.mem_of_getElem? (i := 29) rfl))) (ty := .int) (by decide)
    have F16_mask := D16 (Or.inl (hw _ (List.mem_of_getElem? (i := 31) rfl))) (ty := .byte) (by decide)
    show oGo Z _ _ _ _ _ _ n0 _ 2 7 h16 151 #[.val (.int p0), .val (.int p1), .val (.int p2), .val (.int p3), .val (.int p4), .val (.int y0), .val (.int y1), .val (.int y2), .val (.int y3), .val (.int bi), .val (.int be), .val (.int m), .val (.int (y0 ^^^ m).toInt8.toInt32), .val (.int (y1 ^^^ m).toInt8.toInt32), .val (.int (y2 ^^^ m).toInt8.toInt32), .val (.int (y3 ^^^ m).toInt8.toInt32), .val (.int (Int32.ofNat p)), .val (.int b), .val (.ref a), .unset, .unset, .unset] [(.ref r)]
    refine oGo.dup (q := 152) at_151 rfl rfl ?_
    refine oGo.aload (q := 154) at_152 rfl rfl rfl ?_
    refine oGo.callI (W := 1) (rm := ({ frames := 1, cells := 0, slots := 0, locals := 13 } : Room)) (q := 157) (a := r) [(.ref a)] [(.ref r)] at_154 rfl rfl (hw _ (List.mem_of_getElem? (i := 9) rfl)) (hw _ (List.mem_of_getElem? (i := 10) rfl)) (hw _ (List.mem_of_getElem? (i := 8) rfl)) (hw _ (List.mem_of_getElem? (i := 11) rfl)) (by decide) (ci hw r a h16 n0 ge_r ⟨E16, F16_bytes, F16_position, F16_mask⟩ E11_____) rfl rfl own_pd0 rfl rfl (Nat.le_of_eq rfl) (by decide) (by decide) (by decide) (by decide) ?_
    rintro _ h17 ⟨rfl, K, O⟩
    show oGo Z _ _ _ _ _ _ n0 _ 2 7 h17 157 #[.val (.int p0), .val (.int p1), .val (.int p2), .val (.int p3), .val (.int p4), .val (.int y0), .val (.int y1), .val (.int y2), .val (.int y3), .val (.int bi), .val (.int be), .val (.int m), .val (.int (y0 ^^^ m).toInt8.toInt32), .val (.int (y1 ^^^ m).toInt8.toInt32), .val (.int (y2 ^^^ m).toInt8.toInt32), .val (.int (y3 ^^^ m).toInt8.toInt32), .val (.int (Int32.ofNat p)), .val (.int b), .val (.ref a), .unset, .unset, .unset] [(.ref r)]
    have E11______ := Exa.keep E11_____ K
    have A15__ := Ars.keep A15_ K (ninS ne_a_r nin0)
    have Z0_______ := Nat.le_trans Z0______ K.1
    have nar : a ≠ r := ne_a_r
    have gr : n0 ≤ r := ge_r
    refine oGo.astore (q := 159) (L' := #[.val (.int p0), .val (.int p1), .val (.int p2), .val (.int p3), .val (.int p4), .val (.int y0), .val (.int y1), .val (.int y2), .val (.int y3), .val (.int bi), .val (.int be), .val (.int m), .val (.int (y0 ^^^ m).toInt8.toInt32), .val (.int (y1 ^^^ m).toInt8.toInt32), .val (.int (y2 ^^^ m).toInt8.toInt32), .val (.int (y3 ^^^ m).toInt8.toInt32), .val (.int (Int32.ofNat p)), .val (.int b), .val (.ref a), .val (.ref r), .unset, .unset]) at_157 rfl rfl rfl ?_
    have J237 : ∀ (hh : Heap), own_br Z hh r (.ref a) (.int (Int32.ofNat p)) (.int m) → Ars Z hh a .byte [(.int y0), (.int y1), (.int y2), (.int y3)] → oGo Z x.cls x.name code maxLocals ret room_1 n0 (fun v _ => v = some (.int 1)) 2 7 hh 237 #[.val (.int p0), .val (.int p1), .val (.int p2), .val (.int p3), .val (.int p4), .val (.int y0), .val (.int y1), .val (.int y2), .val (.int y3), .val (.int bi), .val (.int be), .val (.int m), .val (.int (y0 ^^^ m).toInt8.toInt32), .val (.int (y1 ^^^ m).toInt8.toInt32), .val (.int (y2 ^^^ m).toInt8.toInt32), .val (.int (y3 ^^^ m).toInt8.toInt32), .val (.int (Int32.ofNat p)), .val (.int b), .val (.ref a), .val (.ref r), .unset, .unset] [] := by
      intro hh O A
      refine oGo.aload (q := 239) at_237 rfl rfl rfl ?_
      refine oGo.iload (q := 241) at_239 rfl rfl ?_
      have hv : ∀ i, i < 4 → ([(.int y0), (.int y1), (.int y2), (.int y3)] : List Value)[i]? = some (Value.int (own_g y0 y1 y2 y3 i)) := fun i hi => by
        match i, hi with
        | 0, _ => rfl
        | 1, _ => rfl
        | 2, _ => rfl
        | 3, _ => rfl
      refine oGo.callV (W := 0) (rm := ({ frames := 0, cells := 0, slots := 0, locals := 0 } : Room)) (q := 244) (a := r) [(.int b)] [] at_241 rfl (hw _ (List.mem_of_getElem? (i := 32) rfl)) (hw _ (List.mem_of_getElem? (i := 33) rfl)) (hw _ (List.mem_of_getElem? (i := 35) rfl)) (hw _ (List.mem_of_getElem? (i := 34) rfl)) (hw _ (List.mem_of_getElem? (i := 8) rfl)) (hw _ (List.mem_of_getElem? (i := 36) rfl)) rfl (by decide) (O.1) (co hw r b a p m (own_g y0 y1 y2 y3) [(.int y0), (.int y1), (.int y2), (.int y3)] hh n0 O A hp rfl hv) rfl rfl own_pd6 rfl rfl (Nat.le_of_eq rfl) (by decide) (by decide) (by decide) (by decide) ?_
      rintro _ h18 ⟨⟨e, rfl, he⟩, eh⟩
      all_goals subst h18
      show oGo Z _ _ _ _ _ _ n0 _ 2 7 hh 244 #[.val (.int p0), .val (.int p1), .val (.int p2), .val (.int p3), .val (.int p4), .val (.int y0), .val (.int y1), .val (.int y2), .val (.int y3), .val (.int bi), .val (.int be), .val (.int m), .val (.int (y0 ^^^ m).toInt8.toInt32), .val (.int (y1 ^^^ m).toInt8.toInt32), .val (.int (y2 ^^^ m).toInt8.toInt32), .val (.int (y3 ^^^ m).toInt8.toInt32), .val (.int (Int32.ofNat p)), .val (.int b), .val (.ref a), .val (.ref r), .unset, .unset] [(.int e)]
      have z3 : (3 : Int32).toInt = 3 := by decide
      have z2 : (2 : Int32).toInt = 2 := by decide
      have z1 : (1 : Int32).toInt = 1 := by decide
      refine oGo.istore (q := 246) (L' := #[.val (.int p0), .val (.int p1), .val (.int p2), .val (.int p3), .val (.int p4), .val (.int y0), .val (.int y1), .val (.int y2), .val (.int y3), .val (.int bi), .val (.int be), .val (.int m), .val (.int (y0 ^^^ m).toInt8.toInt32), .val (.int (y1 ^^^ m).toInt8.toInt32), .val (.int (y2 ^^^ m).toInt8.toInt32), .val (.int (y3 ^^^ m).toInt8.toInt32), .val (.int (Int32.ofNat p)), .val (.int b), .val (.ref a), .val (.ref r), .val (.int e), .unset]) at_244 rfl rfl ?_
      refine oGo.iconst (q := 247) (v := (-1 : Int32)) at_246 rfl (by decide) ?_
      refine oGo.istore (q := 249) (L' := #[.val (.int p0), .val (.int p1), .val (.int p2), .val (.int p3), .val (.int p4), .val (.int y0), .val (.int y1), .val (.int y2), .val (.int y3), .val (.int bi), .val (.int be), .val (.int m), .val (.int (y0 ^^^ m).toInt8.toInt32), .val (.int (y1 ^^^ m).toInt8.toInt32), .val (.int (y2 ^^^ m).toInt8.toInt32), .val (.int (y3 ^^^ m).toInt8.toInt32), .val (.int (Int32.ofNat p)), .val (.int b), .val (.ref a), .val (.ref r), .val (.int e), .val (.int (-1 : Int32))]) at_247 rfl rfl ?_
      have J324 : ∀ (e' : Int32), own_ix p (b ^^^ m).toInt8.toInt32 (own_g y0 y1 y2 y3) 0 e' → oGo Z x.cls x.name code maxLocals ret room_1 n0 (fun v _ => v = some (.int 1)) 2 7 hh 324 #[.val (.int p0), .val (.int p1), .val (.int p2), .val (.int p3), .val (.int p4), .val (.int y0), .val (.int y1), .val (.int y2), .val (.int y3), .val (.int bi), .val (.int be), .val (.int m), .val (.int (y0 ^^^ m).toInt8.toInt32), .val (.int (y1 ^^^ m).toInt8.toInt32), .val (.int (y2 ^^^ m).toInt8.toInt32), .val (.int (y3 ^^^ m).toInt8.toInt32), .val (.int (Int32.ofNat p)), .val (.int b), .val (.ref a), .val (.ref r), .val (.int e), .val (.int e')] [] := by
        intro e' he'
        refine oGo.iload (q := 326) at_324 rfl rfl ?_
        refine oGo.iload (q := 328) at_326 rfl rfl ?_
        refine oGo.icmp_ne (q := 345) (r := 331) at_328 (by decide) rfl (fun hc => absurd (own_ix.uniq he he') hc) (fun hc => ?_)
        refine oGo.aload (q := 333) at_331 rfl rfl rfl ?_
        refine oGo.callV (W := 0) (rm := ({ frames := 0, cells := 0, slots := 0, locals := 0 } : Room)) (q := 336) (a := r) [] [] at_333 rfl (hw _ (List.mem_of_getElem? (i := 37) rfl)) (hw _ (List.mem_of_getElem? (i := 38) rfl)) (hw _ (List.mem_of_getElem? (i := 40) rfl)) (hw _ (List.mem_of_getElem? (i := 39) rfl)) (hw _ (List.mem_of_getElem? (i := 8) rfl)) (hw _ (List.mem_of_getElem? (i := 41) rfl)) rfl (by decide) (O.1) (cp hw r (.ref a) (.int m) (Int32.ofNat p) hh n0 O) rfl rfl own_pd4 rfl rfl (Nat.le_of_eq rfl) (by decide) (by decide) (by decide) (by decide) ?_
        rintro _ h19 ⟨rfl, eh⟩
        all_goals subst h19
        show oGo Z _ _ _ _ _ _ n0 _ 2 7 hh 336 #[.val (.int p0), .val (.int p1), .val (.int p2), .val (.int p3), .val (.int p4), .val (.int y0), .val (.int y1), .val (.int y2), .val (.int y3), .val (.int bi), .val (.int be), .val (.int m), .val (.int (y0 ^^^ m).toInt8.toInt32), .val (.int (y1 ^^^ m).toInt8.toInt32), .val (.int (y2 ^^^ m).toInt8.toInt32), .val (.int (y3 ^^^ m).toInt8.toInt32), .val (.int (Int32.ofNat p)), .val (.int b), .val (.ref a), .val (.ref r), .val (.int e), .val (.int e')] [(.int (Int32.ofNat p))]
        refine oGo.iload (q := 338) at_336 rfl rfl ?_
        refine oGo.icmp_ne (q := 345) (r := 341) at_338 (by decide) rfl (fun hc => absurd rfl hc) (fun hc => ?_)
        refine oGo.iconst (q := 342) (v := (1 : Int32)) at_341 rfl rfl ?_
        refine oGo.goto (q := 346) at_342 (by decide) ?_
        exact oGo.retN (t := .boolean) at_346 rfl (by simp) (by decide) (by decide) (rfl)
      have J306 : ∀ (e' : Int32), own_ix p (b ^^^ m).toInt8.toInt32 (own_g y0 y1 y2 y3) 1 e' → oGo Z x.cls x.name code maxLocals ret room_1 n0 (fun v _ => v = some (.int 1)) 2 7 hh 306 #[.val (.int p0), .val (.int p1), .val (.int p2), .val (.int p3), .val (.int p4), .val (.int y0), .val (.int y1), .val (.int y2), .val (.int y3), .val (.int bi), .val (.int be), .val (.int m), .val (.int (y0 ^^^ m).toInt8.toInt32), .val (.int (y1 ^^^ m).toInt8.toInt32), .val (.int (y2 ^^^ m).toInt8.toInt32), .val (.int (y3 ^^^ m).toInt8.toInt32), .val (.int (Int32.ofNat p)), .val (.int b), .val (.ref a), .val (.ref r), .val (.int e), .val (.int e')] [] := by
        intro e' he'
        refine oGo.iload (q := 308) at_306 rfl rfl ?_
        refine oGo.if_gt (q := 324) (r := 311) at_308 (by decide) rfl (fun hc => ?_) (fun hc => ?_)
        · skip
          exact J324 _ (own_ix.skip he' (Or.inl (by omega)))
        · skip
          refine oGo.iload (q := 313) at_311 rfl rfl ?_
          refine oGo.iload (q := 315) at_313 rfl rfl ?_
          refine oGo.icmp_ne (q := 324) (r := 318) at_315 (by decide) rfl (fun hc2 => ?_) (fun hc2 => ?_)
          · skip
            exact J324 _ (own_ix.skip he' (Or.inr fun u => hc2 ((own_sw hy0 hbb hm).mpr u)))
          · skip
            refine oGo.iconst (q := 319) (v := (0 : Int32)) at_318 rfl rfl ?_
            refine oGo.iload (q := 321) at_319 rfl rfl ?_
            refine oGo.isub (q := 322) at_321 rfl ?_
            refine oGo.istore (q := 324) (L' := #[.val (.int p0), .val (.int p1), .val (.int p2), .val (.int p3), .val (.int p4), .val (.int y0), .val (.int y1), .val (.int y2), .val (.int y3), .val (.int bi), .val (.int be), .val (.int m), .val (.int (y0 ^^^ m).toInt8.toInt32), .val (.int (y1 ^^^ m).toInt8.toInt32), .val (.int (y2 ^^^ m).toInt8.toInt32), .val (.int (y3 ^^^ m).toInt8.toInt32), .val (.int (Int32.ofNat p)), .val (.int b), .val (.ref a), .val (.ref r), .val (.int e), .val (.int ((0 : Int32) - (Int32.ofNat p)))]) at_322 rfl rfl ?_
            exact J324 _ (own_ix.hit (i := 0) (by omega) (by decide) ((own_sw hy0 hbb hm).mp hc2))
      have J287 : ∀ (e' : Int32), own_ix p (b ^^^ m).toInt8.toInt32 (own_g y0 y1 y2 y3) 2 e' → oGo Z x.cls x.name code maxLocals ret room_1 n0 (fun v _ => v = some (.int 1)) 2 7 hh 287 #[.val (.int p0), .val (.int p1), .val (.int p2), .val (.int p3), .val (.int p4), .val (.int y0), .val (.int y1), .val (.int y2), .val (.int y3), .val (.int bi), .val (.int be), .val (.int m), .val (.int (y0 ^^^ m).toInt8.toInt32), .val (.int (y1 ^^^ m).toInt8.toInt32), .val (.int (y2 ^^^ m).toInt8.toInt32), .val (.int (y3 ^^^ m).toInt8.toInt32), .val (.int (Int32.ofNat p)), .val (.int b), .val (.ref a), .val (.ref r), .val (.int e), .val (.int e')] [] := by
        intro e' he'
        refine oGo.iload (q := 289) at_287 rfl rfl ?_
        refine oGo.iconst (q := 290) (v := (1 : Int32)) at_289 rfl rfl ?_
        refine oGo.icmp_gt (q := 306) (r := 293) at_290 (by decide) rfl (fun hc => ?_) (fun hc => ?_)
        · skip
          exact J306 _ (own_ix.skip he' (Or.inl (by omega)))
        · skip
          refine oGo.iload (q := 295) at_293 rfl rfl ?_
          refine oGo.iload (q := 297) at_295 rfl rfl ?_
          refine oGo.icmp_ne (q := 306) (r := 300) at_297 (by decide) rfl (fun hc2 => ?_) (fun hc2 => ?_)
          · skip
            exact J306 _ (own_ix.skip he' (Or.inr fun u => hc2 ((own_sw hy1 hbb hm).mpr u)))
          · skip
            refine oGo.iconst (q := 301) (v := (1 : Int32)) at_300 rfl rfl ?_
            refine oGo.iload (q := 303) at_301 rfl rfl ?_
            refine oGo.isub (q := 304) at_303 rfl ?_
            refine oGo.istore (q := 306) (L' := #[.val (.int p0), .val (.int p1), .val (.int p2), .val (.int p3), .val (.int p4), .val (.int y0), .val (.int y1), .val (.int y2), .val (.int y3), .val (.int bi), .val (.int be), .val (.int m), .val (.int (y0 ^^^ m).toInt8.toInt32), .val (.int (y1 ^^^ m).toInt8.toInt32), .val (.int (y2 ^^^ m).toInt8.toInt32), .val (.int (y3 ^^^ m).toInt8.toInt32), .val (.int (Int32.ofNat p)), .val (.int b), .val (.ref a), .val (.ref r), .val (.int e), .val (.int ((1 : Int32) - (Int32.ofNat p)))]) at_304 rfl rfl ?_
            exact J306 _ (own_ix.hit (i := 1) (by omega) (by decide) ((own_sw hy1 hbb hm).mp hc2))
      have J268 : ∀ (e' : Int32), own_ix p (b ^^^ m).toInt8.toInt32 (own_g y0 y1 y2 y3) 3 e' → oGo Z x.cls x.name code maxLocals ret room_1 n0 (fun v _ => v = some (.int 1)) 2 7 hh 268 #[.val (.int p0), .val (.int p1), .val (.int p2), .val (.int p3), .val (.int p4), .val (.int y0), .val (.int y1), .val (.int y2), .val (.int y3), .val (.int bi), .val (.int be), .val (.int m), .val (.int (y0 ^^^ m).toInt8.toInt32), .val (.int (y1 ^^^ m).toInt8.toInt32), .val (.int (y2 ^^^ m).toInt8.toInt32), .val (.int (y3 ^^^ m).toInt8.toInt32), .val (.int (Int32.ofNat p)), .val (.int b), .val (.ref a), .val (.ref r), .val (.int e), .val (.int e')] [] := by
        intro e' he'
        refine oGo.iload (q := 270) at_268 rfl rfl ?_
        refine oGo.iconst (q := 271) (v := (2 : Int32)) at_270 rfl rfl ?_
        refine oGo.icmp_gt (q := 287) (r := 274) at_271 (by decide) rfl (fun hc => ?_) (fun hc => ?_)
        · skip
          exact J287 _ (own_ix.skip he' (Or.inl (by omega)))
        · skip
          refine oGo.iload (q := 276) at_274 rfl rfl ?_
          refine oGo.iload (q := 278) at_276 rfl rfl ?_
          refine oGo.icmp_ne (q := 287) (r := 281) at_278 (by decide) rfl (fun hc2 => ?_) (fun hc2 => ?_)
          · skip
            exact J287 _ (own_ix.skip he' (Or.inr fun u => hc2 ((own_sw hy2 hbb hm).mpr u)))
          · skip
            refine oGo.iconst (q := 282) (v := (2 : Int32)) at_281 rfl rfl ?_
            refine oGo.iload (q := 284) at_282 rfl rfl ?_
            refine oGo.isub (q := 285) at_284 rfl ?_
            refine oGo.istore (q := 287) (L' := #[.val (.int p0), .val (.int p1), .val (.int p2), .val (.int p3), .val (.int p4), .val (.int y0), .val (.int y1), .val (.int y2), .val (.int y3), .val (.int bi), .val (.int be), .val (.int m), .val (.int (y0 ^^^ m).toInt8.toInt32), .val (.int (y1 ^^^ m).toInt8.toInt32), .val (.int (y2 ^^^ m).toInt8.toInt32), .val (.int (y3 ^^^ m).toInt8.toInt32), .val (.int (Int32.ofNat p)), .val (.int b), .val (.ref a), .val (.ref r), .val (.int e), .val (.int ((2 : Int32) - (Int32.ofNat p)))]) at_285 rfl rfl ?_
            exact J287 _ (own_ix.hit (i := 2) (by omega) (by decide) ((own_sw hy2 hbb hm).mp hc2))
      have he4 : own_ix p (b ^^^ m).toInt8.toInt32 (own_g y0 y1 y2 y3) 4 (-1 : Int32) := Or.inr ⟨fun l h1 _ h3 => absurd h3 (by omega), rfl⟩
      refine oGo.iload (q := 251) at_249 rfl rfl ?_
      refine oGo.iconst (q := 252) (v := (3 : Int32)) at_251 rfl rfl ?_
      refine oGo.icmp_gt (q := 268) (r := 255) at_252 (by decide) rfl (fun hc => ?_) (fun hc => ?_)
      · skip
        exact J268 _ (own_ix.skip he4 (Or.inl (by omega)))
      · skip
        refine oGo.iload (q := 257) at_255 rfl rfl ?_
        refine oGo.iload (q := 259) at_257 rfl rfl ?_
        refine oGo.icmp_ne (q := 268) (r := 262) at_259 (by decide) rfl (fun hc2 => ?_) (fun hc2 => ?_)
        · skip
          exact J268 _ (own_ix.skip he4 (Or.inr fun u => hc2 ((own_sw hy3 hbb hm).mpr u)))
        · skip
          refine oGo.iconst (q := 263) (v := (3 : Int32)) at_262 rfl rfl ?_
          refine oGo.iload (q := 265) at_263 rfl rfl ?_
          refine oGo.isub (q := 266) at_265 rfl ?_
          refine oGo.istore (q := 268) (L' := #[.val (.int p0), .val (.int p1), .val (.int p2), .val (.int p3), .val (.int p4), .val (.int y0), .val (.int y1), .val (.int y2), .val (.int y3), .val (.int bi), .val (.int be), .val (.int m), .val (.int (y0 ^^^ m).toInt8.toInt32), .val (.int (y1 ^^^ m).toInt8.toInt32), .val (.int (y2 ^^^ m).toInt8.toInt32), .val (.int (y3 ^^^ m).toInt8.toInt32), .val (.int (Int32.ofNat p)), .val (.int b), .val (.ref a), .val (.ref r), .val (.int e), .val (.int ((3 : Int32) - (Int32.ofNat p)))]) at_266 rfl rfl ?_
          exact J268 _ (own_ix.hit (i := 3) (by omega) (by decide) ((own_sw hy3 hbb hm).mp hc2))
    obtain rfl | rfl | rfl | rfl | rfl : p = 0 ∨ p = 1 ∨ p = 2 ∨ p = 3 ∨ p = 4 := by omega
    · skip -- p = 0
      rcases hb with ⟨rfl, rfl⟩ | ⟨rfl, rfl⟩
      · skip -- plain
        refine oGo.iload (q := 161) at_159 rfl rfl ?_
        refine oGo.if_eq (q := 174) (r := 164) at_161 (by decide) rfl (fun hc => ?_) (fun hc => absurd rfl hc)
        refine oGo.iload (q := 176) at_174 rfl rfl ?_
        refine oGo.iconst (q := 177) (v := (1 : Int32)) at_176 rfl rfl ?_
        refine oGo.icmp_lt (q := 186) (r := 180) at_177 (by decide) rfl (fun hc => ?_) (fun hc => absurd hc (by decide))
        refine oGo.iload (q := 188) at_186 rfl rfl ?_
        refine oGo.iconst (q := 189) (v := (2 : Int32)) at_188 rfl rfl ?_
        refine oGo.icmp_lt (q := 198) (r := 192) at_189 (by decide) rfl (fun hc => ?_) (fun hc => absurd hc (by decide))
        refine oGo.iload (q := 200) at_198 rfl rfl ?_
        refine oGo.iconst (q := 201) (v := (3 : Int32)) at_200 rfl rfl ?_
        refine oGo.icmp_lt (q := 210) (r := 204) at_201 (by decide) rfl (fun hc => ?_) (fun hc => absurd hc (by decide))
        refine oGo.iload (q := 212) at_210 rfl rfl ?_
        refine oGo.iconst (q := 213) (v := (4 : Int32)) at_212 rfl rfl ?_
        refine oGo.icmp_lt (q := 222) (r := 216) at_213 (by decide) rfl (fun hc => ?_) (fun hc => absurd hc (by decide))
        refine oGo.iload (q := 224) at_222 rfl rfl ?_
        refine oGo.if_eq (q := 237) (r := 227) at_224 (by decide) rfl (fun hc => ?_) (fun hc => absurd rfl hc)
        exact J237 _ O A15__
      · skip -- inverted
        rcases hbe with rfl | rfl
        · skip -- late
          refine oGo.iload (q := 161) at_159 rfl rfl ?_
          refine oGo.if_eq (q := 174) (r := 164) at_161 (by decide) rfl (fun hc => absurd hc (by decide)) (fun hc => ?_)
          refine oGo.iload (q := 166) at_164 rfl rfl ?_
          refine oGo.if_eq (q := 174) (r := 169) at_166 (by decide) rfl (fun hc => ?_) (fun hc => absurd rfl hc)
          refine oGo.iload (q := 176) at_174 rfl rfl ?_
          refine oGo.iconst (q := 177) (v := (1 : Int32)) at_176 rfl rfl ?_
          refine oGo.icmp_lt (q := 186) (r := 180) at_177 (by decide) rfl (fun hc => ?_) (fun hc => absurd hc (by decide))
          refine oGo.iload (q := 188) at_186 rfl rfl ?_
          refine oGo.iconst (q := 189) (v := (2 : Int32)) at_188 rfl rfl ?_
          refine oGo.icmp_lt (q := 198) (r := 192) at_189 (by decide) rfl (fun hc => ?_) (fun hc => absurd hc (by decide))
          refine oGo.iload (q := 200) at_198 rfl rfl ?_
          refine oGo.iconst (q := 201) (v := (3 : Int32)) at_200 rfl rfl ?_
          refine oGo.icmp_lt (q := 210) (r := 204) at_201 (by decide) rfl (fun hc => ?_) (fun hc => absurd hc (by decide))
          refine oGo.iload (q := 212) at_210 rfl rfl ?_
          refine oGo.iconst (q := 213) (v := (4 : Int32)) at_212 rfl rfl ?_
          refine oGo.icmp_lt (q := 222) (r := 216) at_213 (by decide) rfl (fun hc => ?_) (fun hc => absurd hc (by decide))
          refine oGo.iload (q := 224) at_222 rfl rfl ?_
          refine oGo.if_eq (q := 237) (r := 227) at_224 (by decide) rfl (fun hc => absurd hc (by decide)) (fun hc => ?_)
          refine oGo.iload (q := 229) at_227 rfl rfl ?_
          refine oGo.if_ne (q := 237) (r := 232) at_229 (by decide) rfl (fun hc => absurd rfl hc) (fun hc => ?_)
          refine oGo.aload (q := 234) at_232 rfl rfl rfl ?_
          refine oGo.callV (W := 0) (rm := ({ frames := 0, cells := 0, slots := 0, locals := 0 } : Room)) (q := 237) (a := r) [] [] at_234 rfl (hw _ (List.mem_of_getElem? (i := 42) rfl)) (hw _ (List.mem_of_getElem? (i := 43) rfl)) (hw _ (List.mem_of_getElem? (i := 45) rfl)) (hw _ (List.mem_of_getElem? (i := 44) rfl)) (hw _ (List.mem_of_getElem? (i := 8) rfl)) (hw _ (List.mem_of_getElem? (i := 46) rfl)) rfl (by decide) (O.1) (cv hw r (.ref a) (.int (0 : Int32)) (0 : Int32) (-1 : Int32) h17 n0 gr O (by decide)) rfl rfl own_pd2 rfl rfl (Nat.le_of_eq rfl) (by decide) (by decide) (by decide) (by decide) ?_
          rintro _ h20 ⟨rfl, Kv, Ov⟩
          show oGo Z _ _ _ _ _ _ n0 _ 2 7 h20 237 #[.val (.int p0), .val (.int p1), .val (.int p2), .val (.int p3), .val (.int p4), .val (.int y0), .val (.int y1), .val (.int y2), .val (.int y3), .val (.int (1 : Int32)), .val (.int (0 : Int32)), .val (.int (-1 : Int32)), .val (.int (y0 ^^^ (-1 : Int32)).toInt8.toInt32), .val (.int (y1 ^^^ (-1 : Int32)).toInt8.toInt32), .val (.int (y2 ^^^ (-1 : Int32)).toInt8.toInt32), .val (.int (y3 ^^^ (-1 : Int32)).toInt8.toInt32), .val (.int (Int32.ofNat 0)), .val (.int b), .val (.ref a), .val (.ref r), .unset, .unset] []
          have Av := Ars.keep A15__ Kv (ninS nar nin0)
          exact J237 _ Ov Av
        · skip -- early
          refine oGo.iload (q := 161) at_159 rfl rfl ?_
          refine oGo.if_eq (q := 174) (r := 164) at_161 (by decide) rfl (fun hc => absurd hc (by decide)) (fun hc => ?_)
          refine oGo.iload (q := 166) at_164 rfl rfl ?_
          refine oGo.if_eq (q := 174) (r := 169) at_166 (by decide) rfl (fun hc => absurd hc (by decide)) (fun hc => ?_)
          refine oGo.aload (q := 171) at_169 rfl rfl rfl ?_
          refine oGo.callV (W := 0) (rm := ({ frames := 0, cells := 0, slots := 0, locals := 0 } : Room)) (q := 174) (a := r) [] [] at_171 rfl (hw _ (List.mem_of_getElem? (i := 42) rfl)) (hw _ (List.mem_of_getElem? (i := 43) rfl)) (hw _ (List.mem_of_getElem? (i := 45) rfl)) (hw _ (List.mem_of_getElem? (i := 44) rfl)) (hw _ (List.mem_of_getElem? (i := 8) rfl)) (hw _ (List.mem_of_getElem? (i := 46) rfl)) rfl (by decide) (O.1) (cv hw r (.ref a) (.int (0 : Int32)) (0 : Int32) (-1 : Int32) h17 n0 gr O (by decide)) rfl rfl own_pd2 rfl rfl (Nat.le_of_eq rfl) (by decide) (by decide) (by decide) (by decide) ?_
          rintro _ h21 ⟨rfl, Kv, Ov⟩
          show oGo Z _ _ _ _ _ _ n0 _ 2 7 h21 174 #[.val (.int p0), .val (.int p1), .val (.int p2), .val (.int p3), .val (.int p4), .val (.int y0), .val (.int y1), .val (.int y2), .val (.int y3), .val (.int (1 : Int32)), .val (.int (1 : Int32)), .val (.int (-1 : Int32)), .val (.int (y0 ^^^ (-1 : Int32)).toInt8.toInt32), .val (.int (y1 ^^^ (-1 : Int32)).toInt8.toInt32), .val (.int (y2 ^^^ (-1 : Int32)).toInt8.toInt32), .val (.int (y3 ^^^ (-1 : Int32)).toInt8.toInt32), .val (.int (Int32.ofNat 0)), .val (.int b), .val (.ref a), .val (.ref r), .unset, .unset] []
          have Av := Ars.keep A15__ Kv (ninS nar nin0)
          refine oGo.iload (q := 176) at_174 rfl rfl ?_
          refine oGo.iconst (q := 177) (v := (1 : Int32)) at_176 rfl rfl ?_
          refine oGo.icmp_lt (q := 186) (r := 180) at_177 (by decide) rfl (fun hc => ?_) (fun hc => absurd hc (by decide))
          refine oGo.iload (q := 188) at_186 rfl rfl ?_
          refine oGo.iconst (q := 189) (v := (2 : Int32)) at_188 rfl rfl ?_
          refine oGo.icmp_lt (q := 198) (r := 192) at_189 (by decide) rfl (fun hc => ?_) (fun hc => absurd hc (by decide))
          refine oGo.iload (q := 200) at_198 rfl rfl ?_
          refine oGo.iconst (q := 201) (v := (3 : Int32)) at_200 rfl rfl ?_
          refine oGo.icmp_lt (q := 210) (r := 204) at_201 (by decide) rfl (fun hc => ?_) (fun hc => absurd hc (by decide))
          refine oGo.iload (q := 212) at_210 rfl rfl ?_
          refine oGo.iconst (q := 213) (v := (4 : Int32)) at_212 rfl rfl ?_
          refine oGo.icmp_lt (q := 222) (r := 216) at_213 (by decide) rfl (fun hc => ?_) (fun hc => absurd hc (by decide))
          refine oGo.iload (q := 224) at_222 rfl rfl ?_
          refine oGo.if_eq (q := 237) (r := 227) at_224 (by decide) rfl (fun hc => absurd hc (by decide)) (fun hc => ?_)
          refine oGo.iload (q := 229) at_227 rfl rfl ?_
          refine oGo.if_ne (q := 237) (r := 232) at_229 (by decide) rfl (fun hc => ?_) (fun hc => absurd hc (by decide))
          exact J237 _ Ov Av
    · skip -- p = 1
      rcases hb with ⟨rfl, rfl⟩ | ⟨rfl, rfl⟩
      · skip -- plain
        refine oGo.iload (q := 161) at_159 rfl rfl ?_
        refine oGo.if_eq (q := 174) (r := 164) at_161 (by decide) rfl (fun hc => ?_) (fun hc => absurd rfl hc)
        refine oGo.iload (q := 176) at_174 rfl rfl ?_
        refine oGo.iconst (q := 177) (v := (1 : Int32)) at_176 rfl rfl ?_
        refine oGo.icmp_lt (q := 186) (r := 180) at_177 (by decide) rfl (fun hc => absurd hc (by decide)) (fun hc => ?_)
        refine oGo.aload (q := 182) at_180 rfl rfl rfl ?_
        refine oGo.callV (W := 0) (rm := ({ frames := 0, cells := 0, slots := 0, locals := 0 } : Room)) (q := 185) (a := r) [] [] at_182 rfl (hw _ (List.mem_of_getElem? (i := 23) rfl)) (hw _ (List.mem_of_getElem? (i := 24) rfl)) (hw _ (List.mem_of_getElem? (i := 26) rfl)) (hw _ (List.mem_of_getElem? (i := 25) rfl)) (hw _ (List.mem_of_getElem? (i := 8) rfl)) (hw _ (List.mem_of_getElem? (i := 27) rfl)) rfl (by decide) (O.1) (cx hw r a (0 : Int32) (1 : Int32) (0 : Int32) y0 _ 0 [(.int y0), (.int y1), (.int y2), (.int y3)] h17 n0 gr nar O A15__ rfl rfl (by decide) rfl) rfl rfl own_pd3 rfl rfl (Nat.le_of_eq rfl) (by decide) (by decide) (by decide) (by decide) ?_
        rintro _ h22 ⟨rfl, Kn0, On0⟩
        show oGo Z _ _ _ _ _ _ n0 _ 2 7 h22 185 #[.val (.int p0), .val (.int p1), .val (.int p2), .val (.int p3), .val (.int p4), .val (.int y0), .val (.int y1), .val (.int y2), .val (.int y3), .val (.int (0 : Int32)), .val (.int be), .val (.int (0 : Int32)), .val (.int (y0 ^^^ (0 : Int32)).toInt8.toInt32), .val (.int (y1 ^^^ (0 : Int32)).toInt8.toInt32), .val (.int (y2 ^^^ (0 : Int32)).toInt8.toInt32), .val (.int (y3 ^^^ (0 : Int32)).toInt8.toInt32), .val (.int (Int32.ofNat 1)), .val (.int b), .val (.ref a), .val (.ref r), .unset, .unset] [(.int ((y0 ^^^ (0 : Int32)).toInt8.toInt32))]
        have An0 := Ars.keep A15__ Kn0 (ninS nar nin0)
        refine oGo.pop (q := 186) at_185 rfl rfl ?_
        refine oGo.iload (q := 188) at_186 rfl rfl ?_
        refine oGo.iconst (q := 189) (v := (2 : Int32)) at_188 rfl rfl ?_
        refine oGo.icmp_lt (q := 198) (r := 192) at_189 (by decide) rfl (fun hc => ?_) (fun hc => absurd hc (by decide))
        refine oGo.iload (q := 200) at_198 rfl rfl ?_
        refine oGo.iconst (q := 201) (v := (3 : Int32)) at_200 rfl rfl ?_
        refine oGo.icmp_lt (q := 210) (r := 204) at_201 (by decide) rfl (fun hc => ?_) (fun hc => absurd hc (by decide))
        refine oGo.iload (q := 212) at_210 rfl rfl ?_
        refine oGo.iconst (q := 213) (v := (4 : Int32)) at_212 rfl rfl ?_
        refine oGo.icmp_lt (q := 222) (r := 216) at_213 (by decide) rfl (fun hc => ?_) (fun hc => absurd hc (by decide))
        refine oGo.iload (q := 224) at_222 rfl rfl ?_
        refine oGo.if_eq (q := 237) (r := 227) at_224 (by decide) rfl (fun hc => ?_) (fun hc => absurd rfl hc)
        exact J237 _ On0 An0
      · skip -- inverted
        rcases hbe with rfl | rfl
        · skip -- late
          refine oGo.iload (q := 161) at_159 rfl rfl ?_
          refine oGo.if_eq (q := 174) (r := 164) at_161 (by decide) rfl (fun hc => absurd hc (by decide)) (fun hc => ?_)
          refine oGo.iload (q := 166) at_164 rfl rfl ?_
          refine oGo.if_eq (q := 174) (r := 169) at_166 (by decide) rfl (fun hc => ?_) (fun hc => absurd rfl hc)
          refine oGo.iload (q := 176) at_174 rfl rfl ?_
          refine oGo.iconst (q := 177) (v := (1 : Int32)) at_176 rfl rfl ?_
          refine oGo.icmp_lt (q := 186) (r := 180) at_177 (by decide) rfl (fun hc => absurd hc (by decide)) (fun hc => ?_)
          refine oGo.aload (q := 182) at_180 rfl rfl rfl ?_
          refine oGo.callV (W := 0) (rm := ({ frames := 0, cells := 0, slots := 0, locals := 0 } : Room)) (q := 185) (a := r) [] [] at_182 rfl (hw _ (List.mem_of_getElem? (i := 23) rfl)) (hw _ (List.mem_of_getElem? (i := 24) rfl)) (hw _ (List.mem_of_getElem? (i := 26) rfl)) (hw _ (List.mem_of_getElem? (i := 25) rfl)) (hw _ (List.mem_of_getElem? (i := 8) rfl)) (hw _ (List.mem_of_getElem? (i := 27) rfl)) rfl (by decide) (O.1) (cx hw r a (0 : Int32) (1 : Int32) (0 : Int32) y0 _ 0 [(.int y0), (.int y1), (.int y2), (.int y3)] h17 n0 gr nar O A15__ rfl rfl (by decide) rfl) rfl rfl own_pd3 rfl rfl (Nat.le_of_eq rfl) (by decide) (by decide) (by decide) (by decide) ?_
          rintro _ h23 ⟨rfl, Kn0, On0⟩
          show oGo Z _ _ _ _ _ _ n0 _ 2 7 h23 185 #[.val (.int p0), .val (.int p1), .val (.int p2), .val (.int p3), .val (.int p4), .val (.int y0), .val (.int y1), .val (.int y2), .val (.int y3), .val (.int (1 : Int32)), .val (.int (0 : Int32)), .val (.int (-1 : Int32)), .val (.int (y0 ^^^ (-1 : Int32)).toInt8.toInt32), .val (.int (y1 ^^^ (-1 : Int32)).toInt8.toInt32), .val (.int (y2 ^^^ (-1 : Int32)).toInt8.toInt32), .val (.int (y3 ^^^ (-1 : Int32)).toInt8.toInt32), .val (.int (Int32.ofNat 1)), .val (.int b), .val (.ref a), .val (.ref r), .unset, .unset] [(.int ((y0 ^^^ (0 : Int32)).toInt8.toInt32))]
          have An0 := Ars.keep A15__ Kn0 (ninS nar nin0)
          refine oGo.pop (q := 186) at_185 rfl rfl ?_
          refine oGo.iload (q := 188) at_186 rfl rfl ?_
          refine oGo.iconst (q := 189) (v := (2 : Int32)) at_188 rfl rfl ?_
          refine oGo.icmp_lt (q := 198) (r := 192) at_189 (by decide) rfl (fun hc => ?_) (fun hc => absurd hc (by decide))
          refine oGo.iload (q := 200) at_198 rfl rfl ?_
          refine oGo.iconst (q := 201) (v := (3 : Int32)) at_200 rfl rfl ?_
          refine oGo.icmp_lt (q := 210) (r := 204) at_201 (by decide) rfl (fun hc => ?_) (fun hc => absurd hc (by decide))
          refine oGo.iload (q := 212) at_210 rfl rfl ?_
          refine oGo.iconst (q := 213) (v := (4 : Int32)) at_212 rfl rfl ?_
          refine oGo.icmp_lt (q := 222) (r := 216) at_213 (by decide) rfl (fun hc => ?_) (fun hc => absurd hc (by decide))
          refine oGo.iload (q := 224) at_222 rfl rfl ?_
          refine oGo.if_eq (q := 237) (r := 227) at_224 (by decide) rfl (fun hc => absurd hc (by decide)) (fun hc => ?_)
          refine oGo.iload (q := 229) at_227 rfl rfl ?_
          refine oGo.if_ne (q := 237) (r := 232) at_229 (by decide) rfl (fun hc => absurd rfl hc) (fun hc => ?_)
          refine oGo.aload (q := 234) at_232 rfl rfl rfl ?_
          refine oGo.callV (W := 0) (rm := ({ frames := 0, cells := 0, slots := 0, locals := 0 } : Room)) (q := 237) (a := r) [] [] at_234 rfl (hw _ (List.mem_of_getElem? (i := 42) rfl)) (hw _ (List.mem_of_getElem? (i := 43) rfl)) (hw _ (List.mem_of_getElem? (i := 45) rfl)) (hw _ (List.mem_of_getElem? (i := 44) rfl)) (hw _ (List.mem_of_getElem? (i := 8) rfl)) (hw _ (List.mem_of_getElem? (i := 46) rfl)) rfl (by decide) (On0.1) (cv hw r (.ref a) (.int (1 : Int32)) (0 : Int32) (-1 : Int32) h23 n0 gr On0 (by decide)) rfl rfl own_pd2 rfl rfl (Nat.le_of_eq rfl) (by decide) (by decide) (by decide) (by decide) ?_
          rintro _ h24 ⟨rfl, Kv, Ov⟩
          show oGo Z _ _ _ _ _ _ n0 _ 2 7 h24 237 #[.val (.int p0), .val (.int p1), .val (.int p2), .val (.int p3), .val (.int p4), .val (.int y0), .val (.int y1), .val (.int y2), .val (.int y3), .val (.int (1 : Int32)), .val (.int (0 : Int32)), .val (.int (-1 : Int32)), .val (.int (y0 ^^^ (-1 : Int32)).toInt8.toInt32), .val (.int (y1 ^^^ (-1 : Int32)).toInt8.toInt32), .val (.int (y2 ^^^ (-1 : Int32)).toInt8.toInt32), .val (.int (y3 ^^^ (-1 : Int32)).toInt8.toInt32), .val (.int (Int32.ofNat 1)), .val (.int b), .val (.ref a), .val (.ref r), .unset, .unset] []
          have Av := Ars.keep An0 Kv (ninS nar nin0)
          exact J237 _ Ov Av
        · skip -- early
          refine oGo.iload (q := 161) at_159 rfl rfl ?_
          refine oGo.if_eq (q := 174) (r := 164) at_161 (by decide) rfl (fun hc => absurd hc (by decide)) (fun hc => ?_)
          refine oGo.iload (q := 166) at_164 rfl rfl ?_
          refine oGo.if_eq (q := 174) (r := 169) at_166 (by decide) rfl (fun hc => absurd hc (by decide)) (fun hc => ?_)
          refine oGo.aload (q := 171) at_169 rfl rfl rfl ?_
          refine oGo.callV (W := 0) (rm := ({ frames := 0, cells := 0, slots := 0, locals := 0 } : Room)) (q := 174) (a := r) [] [] at_171 rfl (hw _ (List.mem_of_getElem? (i := 42) rfl)) (hw _ (List.mem_of_getElem? (i := 43) rfl)) (hw _ (List.mem_of_getElem? (i := 45) rfl)) (hw _ (List.mem_of_getElem? (i := 44) rfl)) (hw _ (List.mem_of_getElem? (i := 8) rfl)) (hw _ (List.mem_of_getElem? (i := 46) rfl)) rfl (by decide) (O.1) (cv hw r (.ref a) (.int (0 : Int32)) (0 : Int32) (-1 : Int32) h17 n0 gr O (by decide)) rfl rfl own_pd2 rfl rfl (Nat.le_of_eq rfl) (by decide) (by decide) (by decide) (by decide) ?_
          rintro _ h25 ⟨rfl, Kv, Ov⟩
          show oGo Z _ _ _ _ _ _ n0 _ 2 7 h25 174 #[.val (.int p0), .val (.int p1), .val (.int p2), .val (.int p3), .val (.int p4), .val (.int y0), .val (.int y1), .val (.int y2), .val (.int y3), .val (.int (1 : Int32)), .val (.int (1 : Int32)), .val (.int (-1 : Int32)), .val (.int (y0 ^^^ (-1 : Int32)).toInt8.toInt32), .val (.int (y1 ^^^ (-1 : Int32)).toInt8.toInt32), .val (.int (y2 ^^^ (-1 : Int32)).toInt8.toInt32), .val (.int (y3 ^^^ (-1 : Int32)).toInt8.toInt32), .val (.int (Int32.ofNat 1)), .val (.int b), .val (.ref a), .val (.ref r), .unset, .unset] []
          have Av := Ars.keep A15__ Kv (ninS nar nin0)
          refine oGo.iload (q := 176) at_174 rfl rfl ?_
          refine oGo.iconst (q := 177) (v := (1 : Int32)) at_176 rfl rfl ?_
          refine oGo.icmp_lt (q := 186) (r := 180) at_177 (by decide) rfl (fun hc => absurd hc (by decide)) (fun hc => ?_)
          refine oGo.aload (q := 182) at_180 rfl rfl rfl ?_
          refine oGo.callV (W := 0) (rm := ({ frames := 0, cells := 0, slots := 0, locals := 0 } : Room)) (q := 185) (a := r) [] [] at_182 rfl (hw _ (List.mem_of_getElem? (i := 23) rfl)) (hw _ (List.mem_of_getElem? (i := 24) rfl)) (hw _ (List.mem_of_getElem? (i := 26) rfl)) (hw _ (List.mem_of_getElem? (i := 25) rfl)) (hw _ (List.mem_of_getElem? (i := 8) rfl)) (hw _ (List.mem_of_getElem? (i := 27) rfl)) rfl (by decide) (Ov.1) (cx hw r a (0 : Int32) (1 : Int32) (-1 : Int32) y0 _ 0 [(.int y0), (.int y1), (.int y2), (.int y3)] h25 n0 gr nar Ov Av rfl rfl (by decide) rfl) rfl rfl own_pd3 rfl rfl (Nat.le_of_eq rfl) (by decide) (by decide) (by decide) (by decide) ?_
          rintro _ h26 ⟨rfl, Kn0, On0⟩
          show oGo Z _ _ _ _ _ _ n0 _ 2 7 h26 185 #[.val (.int p0), .val (.int p1), .val (.int p2), .val (.int p3), .val (.int p4), .val (.int y0), .val (.int y1), .val (.int y2), .val (.int y3), .val (.int (1 : Int32)), .val (.int (1 : Int32)), .val (.int (-1 : Int32)), .val (.int (y0 ^^^ (-1 : Int32)).toInt8.toInt32), .val (.int (y1 ^^^ (-1 : Int32)).toInt8.toInt32), .val (.int (y2 ^^^ (-1 : Int32)).toInt8.toInt32), .val (.int (y3 ^^^ (-1 : Int32)).toInt8.toInt32), .val (.int (Int32.ofNat 1)), .val (.int b), .val (.ref a), .val (.ref r), .unset, .unset] [(.int ((y0 ^^^ (-1 : Int32)).toInt8.toInt32))]
          have An0 := Ars.keep Av Kn0 (ninS nar nin0)
          refine oGo.pop (q := 186) at_185 rfl rfl ?_
          refine oGo.iload (q := 188) at_186 rfl rfl ?_
          refine oGo.iconst (q := 189) (v := (2 : Int32)) at_188 rfl rfl ?_
          refine oGo.icmp_lt (q := 198) (r := 192) at_189 (by decide) rfl (fun hc => ?_) (fun hc => absurd hc (by decide))
          refine oGo.iload (q := 200) at_198 rfl rfl ?_
          refine oGo.iconst (q := 201) (v := (3 : Int32)) at_200 rfl rfl ?_
          refine oGo.icmp_lt (q := 210) (r := 204) at_201 (by decide) rfl (fun hc => ?_) (fun hc => absurd hc (by decide))
          refine oGo.iload (q := 212) at_210 rfl rfl ?_
          refine oGo.iconst (q := 213) (v := (4 : Int32)) at_212 rfl rfl ?_
          refine oGo.icmp_lt (q := 222) (r := 216) at_213 (by decide) rfl (fun hc => ?_) (fun hc => absurd hc (by decide))
          refine oGo.iload (q := 224) at_222 rfl rfl ?_
          refine oGo.if_eq (q := 237) (r := 227) at_224 (by decide) rfl (fun hc => absurd hc (by decide)) (fun hc => ?_)
          refine oGo.iload (q := 229) at_227 rfl rfl ?_
          refine oGo.if_ne (q := 237) (r := 232) at_229 (by decide) rfl (fun hc => ?_) (fun hc => absurd hc (by decide))
          exact J237 _ On0 An0
    · skip -- p = 2
      rcases hb with ⟨rfl, rfl⟩ | ⟨rfl, rfl⟩
      · skip -- plain
        refine oGo.iload (q := 161) at_159 rfl rfl ?_
        refine oGo.if_eq (q := 174) (r := 164) at_161 (by decide) rfl (fun hc => ?_) (fun hc => absurd rfl hc)
        refine oGo.iload (q := 176) at_174 rfl rfl ?_
        refine oGo.iconst (q := 177) (v := (1 : Int32)) at_176 rfl rfl ?_
        refine oGo.icmp_lt (q := 186) (r := 180) at_177 (by decide) rfl (fun hc => absurd hc (by decide)) (fun hc => ?_)
        refine oGo.aload (q := 182) at_180 rfl rfl rfl ?_
        refine oGo.callV (W := 0) (rm := ({ frames := 0, cells := 0, slots := 0, locals := 0 } : Room)) (q := 185) (a := r) [] [] at_182 rfl (hw _ (List.mem_of_getElem? (i := 23) rfl)) (hw _ (List.mem_of_getElem? (i := 24) rfl)) (hw _ (List.mem_of_getElem? (i := 26) rfl)) (hw _ (List.mem_of_getElem? (i := 25) rfl)) (hw _ (List.mem_of_getElem? (i := 8) rfl)) (hw _ (List.mem_of_getElem? (i := 27) rfl)) rfl (by decide) (O.1) (cx hw r a (0 : Int32) (1 : Int32) (0 : Int32) y0 _ 0 [(.int y0), (.int y1), (.int y2), (.int y3)] h17 n0 gr nar O A15__ rfl rfl (by decide) rfl) rfl rfl own_pd3 rfl rfl (Nat.le_of_eq rfl) (by decide) (by decide) (by decide) (by decide) ?_
        rintro _ h27 ⟨rfl, Kn0, On0⟩
        show oGo Z _ _ _ _ _ _ n0 _ 2 7 h27 185 #[.val (.int p0), .val (.int p1), .val (.int p2), .val (.int p3), .val (.int p4), .val (.int y0), .val (.int y1), .val (.int y2), .val (.int y3), .val (.int (0 : Int32)), .val (.int be), .val (.int (0 : Int32)), .val (.int (y0 ^^^ (0 : Int32)).toInt8.toInt32), .val (.int (y1 ^^^ (0 : Int32)).toInt8.toInt32), .val (.int (y2 ^^^ (0 : Int32)).toInt8.toInt32), .val (.int (y3 ^^^ (0 : Int32)).toInt8.toInt32), .val (.int (Int32.ofNat 2)), .val (.int b), .val (.ref a), .val (.ref r), .unset, .unset] [(.int ((y0 ^^^ (0 : Int32)).toInt8.toInt32))]
        have An0 := Ars.keep A15__ Kn0 (ninS nar nin0)
        refine oGo.pop (q := 186) at_185 rfl rfl ?_
        refine oGo.iload (q := 188) at_186 rfl rfl ?_
        refine oGo.iconst (q := 189) (v := (2 : Int32)) at_188 rfl rfl ?_
        refine oGo.icmp_lt (q := 198) (r := 192) at_189 (by decide) rfl (fun hc => absurd hc (by decide)) (fun hc => ?_)
        refine oGo.aload (q := 194) at_192 rfl rfl rfl ?_
        refine oGo.callV (W := 0) (rm := ({ frames := 0, cells := 0, slots := 0, locals := 0 } : Room)) (q := 197) (a := r) [] [] at_194 rfl (hw _ (List.mem_of_getElem? (i := 23) rfl)) (hw _ (List.mem_of_getElem? (i := 24) rfl)) (hw _ (List.mem_of_getElem? (i := 26) rfl)) (hw _ (List.mem_of_getElem? (i := 25) rfl)) (hw _ (List.mem_of_getElem? (i := 8) rfl)) (hw _ (List.mem_of_getElem? (i := 27) rfl)) rfl (by decide) (On0.1) (cx hw r a (1 : Int32) (2 : Int32) (0 : Int32) y1 _ 1 [(.int y0), (.int y1), (.int y2), (.int y3)] h27 n0 gr nar On0 An0 rfl rfl (by decide) rfl) rfl rfl own_pd3 rfl rfl (Nat.le_of_eq rfl) (by decide) (by decide) (by decide) (by decide) ?_
        rintro _ h28 ⟨rfl, Kn1, On1⟩
        show oGo Z _ _ _ _ _ _ n0 _ 2 7 h28 197 #[.val (.int p0), .val (.int p1), .val (.int p2), .val (.int p3), .val (.int p4), .val (.int y0), .val (.int y1), .val (.int y2), .val (.int y3), .val (.int (0 : Int32)), .val (.int be), .val (.int (0 : Int32)), .val (.int (y0 ^^^ (0 : Int32)).toInt8.toInt32), .val (.int (y1 ^^^ (0 : Int32)).toInt8.toInt32), .val (.int (y2 ^^^ (0 : Int32)).toInt8.toInt32), .val (.int (y3 ^^^ (0 : Int32)).toInt8.toInt32), .val (.int (Int32.ofNat 2)), .val (.int b), .val (.ref a), .val (.ref r), .unset, .unset] [(.int ((y1 ^^^ (0 : Int32)).toInt8.toInt32))]
        have An1 := Ars.keep An0 Kn1 (ninS nar nin0)
        refine oGo.pop (q := 198) at_197 rfl rfl ?_
        refine oGo.iload (q := 200) at_198 rfl rfl ?_
        refine oGo.iconst (q := 201) (v := (3 : Int32)) at_200 rfl rfl ?_
        refine oGo.icmp_lt (q := 210) (r := 204) at_201 (by decide) rfl (fun hc => ?_) (fun hc => absurd hc (by decide))
        refine oGo.iload (q := 212) at_210 rfl rfl ?_
        refine oGo.iconst (q := 213) (v := (4 : Int32)) at_212 rfl rfl ?_
        refine oGo.icmp_lt (q := 222) (r := 216) at_213 (by decide) rfl (fun hc => ?_) (fun hc => absurd hc (by decide))
        refine oGo.iload (q := 224) at_222 rfl rfl ?_
        refine oGo.if_eq (q := 237) (r := 227) at_224 (by decide) rfl (fun hc => ?_) (fun hc => absurd rfl hc)
        exact J237 _ On1 An1
      · skip -- inverted
        rcases hbe with rfl | rfl
        · skip -- late
          refine oGo.iload (q := 161) at_159 rfl rfl ?_
          refine oGo.if_eq (q := 174) (r := 164) at_161 (by decide) rfl (fun hc => absurd hc (by decide)) (fun hc => ?_)
          refine oGo.iload (q := 166) at_164 rfl rfl ?_
          refine oGo.if_eq (q := 174) (r := 169) at_166 (by decide) rfl (fun hc => ?_) (fun hc => absurd rfl hc)
          refine oGo.iload (q := 176) at_174 rfl rfl ?_
          refine oGo.iconst (q := 177) (v := (1 : Int32)) at_176 rfl rfl ?_
          refine oGo.icmp_lt (q := 186) (r := 180) at_177 (by decide) rfl (fun hc => absurd hc (by decide)) (fun hc => ?_)
          refine oGo.aload (q := 182) at_180 rfl rfl rfl ?_
          refine oGo.callV (W := 0) (rm := ({ frames := 0, cells := 0, slots := 0, locals := 0 } : Room)) (q := 185) (a := r) [] [] at_182 rfl (hw _ (List.mem_of_getElem? (i := 23) rfl)) (hw _ (List.mem_of_getElem? (i := 24) rfl)) (hw _ (List.mem_of_getElem? (i := 26) rfl)) (hw _ (List.mem_of_getElem? (i := 25) rfl)) (hw _ (List.mem_of_getElem? (i := 8) rfl)) (hw _ (List.mem_of_getElem? (i := 27) rfl)) rfl (by decide) (O.1) (cx hw r a (0 : Int32) (1 : Int32) (0 : Int32) y0 _ 0 [(.int y0), (.int y1), (.int y2), (.int y3)] h17 n0 gr nar O A15__ rfl rfl (by decide) rfl) rfl rfl own_pd3 rfl rfl (Nat.le_of_eq rfl) (by decide) (by decide) (by decide) (by decide) ?_
          rintro _ h29 ⟨rfl, Kn0, On0⟩
          show oGo Z _ _ _ _ _ _ n0 _ 2 7 h29 185 #[.val (.int p0), .val (.int p1), .val (.int p2), .val (.int p3), .val (.int p4), .val (.int y0), .val (.int y1), .val (.int y2), .val (.int y3), .val (.int (1 : Int32)), .val (.int (0 : Int32)), .val (.int (-1 : Int32)), .val (.int (y0 ^^^ (-1 : Int32)).toInt8.toInt32), .val (.int (y1 ^^^ (-1 : Int32)).toInt8.toInt32), .val (.int (y2 ^^^ (-1 : Int32)).toInt8.toInt32), .val (.int (y3 ^^^ (-1 : Int32)).toInt8.toInt32), .val (.int (Int32.ofNat 2)), .val (.int b), .val (.ref a), .val (.ref r), .unset, .unset] [(.int ((y0 ^^^ (0 : Int32)).toInt8.toInt32))]
          have An0 := Ars.keep A15__ Kn0 (ninS nar nin0)
          refine oGo.pop (q := 186) at_185 rfl rfl ?_
          refine oGo.iload (q := 188) at_186 rfl rfl ?_
          refine oGo.iconst (q := 189) (v := (2 : Int32)) at_188 rfl rfl ?_
          refine oGo.icmp_lt (q := 198) (r := 192) at_189 (by decide) rfl (fun hc => absurd hc (by decide)) (fun hc => ?_)
          refine oGo.aload (q := 194) at_192 rfl rfl rfl ?_
          refine oGo.callV (W := 0) (rm := ({ frames := 0, cells := 0, slots := 0, locals := 0 } : Room)) (q := 197) (a := r) [] [] at_194 rfl (hw _ (List.mem_of_getElem? (i := 23) rfl)) (hw _ (List.mem_of_getElem? (i := 24) rfl)) (hw _ (List.mem_of_getElem? (i := 26) rfl)) (hw _ (List.mem_of_getElem? (i := 25) rfl)) (hw _ (List.mem_of_getElem? (i := 8) rfl)) (hw _ (List.mem_of_getElem? (i := 27) rfl)) rfl (by decide) (On0.1) (cx hw r a (1 : Int32) (2 : Int32) (0 : Int32) y1 _ 1 [(.int y0), (.int y1), (.int y2), (.int y3)] h29 n0 gr nar On0 An0 rfl rfl (by decide) rfl) rfl rfl own_pd3 rfl rfl (Nat.le_of_eq rfl) (by decide) (by decide) (by decide) (by decide) ?_
          rintro _ h30 ⟨rfl, Kn1, On1⟩
          show oGo Z _ _ _ _ _ _ n0 _ 2 7 h30 197 #[.val (.int p0), .val (.int p1), .val (.int p2), .val (.int p3), .val (.int p4), .val (.int y0), .val (.int y1), .val (.int y2), .val (.int y3), .val (.int (1 : Int32)), .val (.int (0 : Int32)), .val (.int (-1 : Int32)), .val (.int (y0 ^^^ (-1 : Int32)).toInt8.toInt32), .val (.int (y1 ^^^ (-1 : Int32)).toInt8.toInt32), .val (.int (y2 ^^^ (-1 : Int32)).toInt8.toInt32), .val (.int (y3 ^^^ (-1 : Int32)).toInt8.toInt32), .val (.int (Int32.ofNat 2)), .val (.int b), .val (.ref a), .val (.ref r), .unset, .unset] [(.int ((y1 ^^^ (0 : Int32)).toInt8.toInt32))]
          have An1 := Ars.keep An0 Kn1 (ninS nar nin0)
          refine oGo.pop (q := 198) at_197 rfl rfl ?_
          refine oGo.iload (q := 200) at_198 rfl rfl ?_
          refine oGo.iconst (q := 201) (v := (3 : Int32)) at_200 rfl rfl ?_
          refine oGo.icmp_lt (q := 210) (r := 204) at_201 (by decide) rfl (fun hc => ?_) (fun hc => absurd hc (by decide))
          refine oGo.iload (q := 212) at_210 rfl rfl ?_
          refine oGo.iconst (q := 213) (v := (4 : Int32)) at_212 rfl rfl ?_
          refine oGo.icmp_lt (q := 222) (r := 216) at_213 (by decide) rfl (fun hc => ?_) (fun hc => absurd hc (by decide))
          refine oGo.iload (q := 224) at_222 rfl rfl ?_
          refine oGo.if_eq (q := 237) (r := 227) at_224 (by decide) rfl (fun hc => absurd hc (by decide)) (fun hc => ?_)
          refine oGo.iload (q := 229) at_227 rfl rfl ?_
          refine oGo.if_ne (q := 237) (r := 232) at_229 (by decide) rfl (fun hc => absurd rfl hc) (fun hc => ?_)
          refine oGo.aload (q := 234) at_232 rfl rfl rfl ?_
          refine oGo.callV (W := 0) (rm := ({ frames := 0, cells := 0, slots := 0, locals := 0 } : Room)) (q := 237) (a := r) [] [] at_234 rfl (hw _ (List.mem_of_getElem? (i := 42) rfl)) (hw _ (List.mem_of_getElem? (i := 43) rfl)) (hw _ (List.mem_of_getElem? (i := 45) rfl)) (hw _ (List.mem_of_getElem? (i := 44) rfl)) (hw _ (List.mem_of_getElem? (i := 8) rfl)) (hw _ (List.mem_of_getElem? (i := 46) rfl)) rfl (by decide) (On1.1) (cv hw r (.ref a) (.int (2 : Int32)) (0 : Int32) (-1 : Int32) h30 n0 gr On1 (by decide)) rfl rfl own_pd2 rfl rfl (Nat.le_of_eq rfl) (by decide) (by decide) (by decide) (by decide) ?_
          rintro _ h31 ⟨rfl, Kv, Ov⟩
          show oGo Z _ _ _ _ _ _ n0 _ 2 7 h31 237 #[.val (.int p0), .val (.int p1), .val (.int p2), .val (.int p3), .val (.int p4), .val (.int y0), .val (.int y1), .val (.int y2), .val (.int y3), .val (.int (1 : Int32)), .val (.int (0 : Int32)), .val (.int (-1 : Int32)), .val (.int (y0 ^^^ (-1 : Int32)).toInt8.toInt32), .val (.int (y1 ^^^ (-1 : Int32)).toInt8.toInt32), .val (.int (y2 ^^^ (-1 : Int32)).toInt8.toInt32), .val (.int (y3 ^^^ (-1 : Int32)).toInt8.toInt32), .val (.int (Int32.ofNat 2)), .val (.int b), .val (.ref a), .val (.ref r), .unset, .unset] []
          have Av := Ars.keep An1 Kv (ninS nar nin0)
          exact J237 _ Ov Av
        · skip -- early
          refine oGo.iload (q := 161) at_159 rfl rfl ?_
          refine oGo.if_eq (q := 174) (r := 164) at_161 (by decide) rfl (fun hc => absurd hc (by decide)) (fun hc => ?_)
          refine oGo.iload (q := 166) at_164 rfl rfl ?_
          refine oGo.if_eq (q := 174) (r := 169) at_166 (by decide) rfl (fun hc => absurd hc (by decide)) (fun hc => ?_)
          refine oGo.aload (q := 171) at_169 rfl rfl rfl ?_
          refine oGo.callV (W := 0) (rm := ({ frames := 0, cells := 0, slots := 0, locals := 0 } : Room)) (q := 174) (a := r) [] [] at_171 rfl (hw _ (List.mem_of_getElem? (i := 42) rfl)) (hw _ (List.mem_of_getElem? (i := 43) rfl)) (hw _ (List.mem_of_getElem? (i := 45) rfl)) (hw _ (List.mem_of_getElem? (i := 44) rfl)) (hw _ (List.mem_of_getElem? (i := 8) rfl)) (hw _ (List.mem_of_getElem? (i := 46) rfl)) rfl (by decide) (O.1) (cv hw r (.ref a) (.int (0 : Int32)) (0 : Int32) (-1 : Int32) h17 n0 gr O (by decide)) rfl rfl own_pd2 rfl rfl (Nat.le_of_eq rfl) (by decide) (by decide) (by decide) (by decide) ?_
          rintro _ h32 ⟨rfl, Kv, Ov⟩
          show oGo Z _ _ _ _ _ _ n0 _ 2 7 h32 174 #[.val (.int p0), .val (.int p1), .val (.int p2), .val (.int p3), .val (.int p4), .val (.int y0), .val (.int y1), .val (.int y2), .val (.int y3), .val (.int (1 : Int32)), .val (.int (1 : Int32)), .val (.int (-1 : Int32)), .val (.int (y0 ^^^ (-1 : Int32)).toInt8.toInt32), .val (.int (y1 ^^^ (-1 : Int32)).toInt8.toInt32), .val (.int (y2 ^^^ (-1 : Int32)).toInt8.toInt32), .val (.int (y3 ^^^ (-1 : Int32)).toInt8.toInt32), .val (.int (Int32.ofNat 2)), .val (.int b), .val (.ref a), .val (.ref r), .unset, .unset] []
          have Av := Ars.keep A15__ Kv (ninS nar nin0)
          refine oGo.iload (q := 176) at_174 rfl rfl ?_
          refine oGo.iconst (q := 177) (v := (1 : Int32)) at_176 rfl rfl ?_
          refine oGo.icmp_lt (q := 186) (r := 180) at_177 (by decide) rfl (fun hc => absurd hc (by decide)) (fun hc => ?_)
          refine oGo.aload (q := 182) at_180 rfl rfl rfl ?_
          refine oGo.callV (W := 0) (rm := ({ frames := 0, cells := 0, slots := 0, locals := 0 } : Room)) (q := 185) (a := r) [] [] at_182 rfl (hw _ (List.mem_of_getElem? (i := 23) rfl)) (hw _ (List.mem_of_getElem? (i := 24) rfl)) (hw _ (List.mem_of_getElem? (i := 26) rfl)) (hw _ (List.mem_of_getElem? (i := 25) rfl)) (hw _ (List.mem_of_getElem? (i := 8) rfl)) (hw _ (List.mem_of_getElem? (i := 27) rfl)) rfl (by decide) (Ov.1) (cx hw r a (0 : Int32) (1 : Int32) (-1 : Int32) y0 _ 0 [(.int y0), (.int y1), (.int y2), (.int y3)] h32 n0 gr nar Ov Av rfl rfl (by decide) rfl) rfl rfl own_pd3 rfl rfl (Nat.le_of_eq rfl) (by decide) (by decide) (by decide) (by decide) ?_
          rintro _ h33 ⟨rfl, Kn0, On0⟩
          show oGo Z _ _ _ _ _ _ n0 _ 2 7 h33 185 #[.val (.int p0), .val (.int p1), .val (.int p2), .val (.int p3), .val (.int p4), .val (.int y0), .val (.int y1), .val (.int y2), .val (.int y3), .val (.int (1 : Int32)), .val (.int (1 : Int32)), .val (.int (-1 : Int32)), .val (.int (y0 ^^^ (-1 : Int32)).toInt8.toInt32), .val (.int (y1 ^^^ (-1 : Int32)).toInt8.toInt32), .val (.int (y2 ^^^ (-1 : Int32)).toInt8.toInt32), .val (.int (y3 ^^^ (-1 : Int32)).toInt8.toInt32), .val (.int (Int32.ofNat 2)), .val (.int b), .val (.ref a), .val (.ref r), .unset, .unset] [(.int ((y0 ^^^ (-1 : Int32)).toInt8.toInt32))]
          have An0 := Ars.keep Av Kn0 (ninS nar nin0)
          refine oGo.pop (q := 186) at_185 rfl rfl ?_
          refine oGo.iload (q := 188) at_186 rfl rfl ?_
          refine oGo.iconst (q := 189) (v := (2 : Int32)) at_188 rfl rfl ?_
          refine oGo.icmp_lt (q := 198) (r := 192) at_189 (by decide) rfl (fun hc => absurd hc (by decide)) (fun hc => ?_)
          refine oGo.aload (q := 194) at_192 rfl rfl rfl ?_
          refine oGo.callV (W := 0) (rm := ({ frames := 0, cells := 0, slots := 0, locals := 0 } : Room)) (q := 197) (a := r) [] [] at_194 rfl (hw _ (List.mem_of_getElem? (i := 23) rfl)) (hw _ (List.mem_of_getElem? (i := 24) rfl)) (hw _ (List.mem_of_getElem? (i := 26) rfl)) (hw _ (List.mem_of_getElem? (i := 25) rfl)) (hw _ (List.mem_of_getElem? (i := 8) rfl)) (hw _ (List.mem_of_getElem? (i := 27) rfl)) rfl (by decide) (On0.1) (cx hw r a (1 : Int32) (2 : Int32) (-1 : Int32) y1 _ 1 [(.int y0), (.int y1), (.int y2), (.int y3)] h33 n0 gr nar On0 An0 rfl rfl (by decide) rfl) rfl rfl own_pd3 rfl rfl (Nat.le_of_eq rfl) (by decide) (by decide) (by decide) (by decide) ?_
          rintro _ h34 ⟨rfl, Kn1, On1⟩
          show oGo Z _ _ _ _ _ _ n0 _ 2 7 h34 197 #[.val (.int p0), .val (.int p1), .val (.int p2), .val (.int p3), .val (.int p4), .val (.int y0), .val (.int y1), .val (.int y2), .val (.int y3), .val (.int (1 : Int32)), .val (.int (1 : Int32)), .val (.int (-1 : Int32)), .val (.int (y0 ^^^ (-1 : Int32)).toInt8.toInt32), .val (.int (y1 ^^^ (-1 : Int32)).toInt8.toInt32), .val (.int (y2 ^^^ (-1 : Int32)).toInt8.toInt32), .val (.int (y3 ^^^ (-1 : Int32)).toInt8.toInt32), .val (.int (Int32.ofNat 2)), .val (.int b), .val (.ref a), .val (.ref r), .unset, .unset] [(.int ((y1 ^^^ (-1 : Int32)).toInt8.toInt32))]
          have An1 := Ars.keep An0 Kn1 (ninS nar nin0)
          refine oGo.pop (q := 198) at_197 rfl rfl ?_
          refine oGo.iload (q := 200) at_198 rfl rfl ?_
          refine oGo.iconst (q := 201) (v := (3 : Int32)) at_200 rfl rfl ?_
          refine oGo.icmp_lt (q := 210) (r := 204) at_201 (by decide) rfl (fun hc => ?_) (fun hc => absurd hc (by decide))
          refine oGo.iload (q := 212) at_210 rfl rfl ?_
          refine oGo.iconst (q := 213) (v := (4 : Int32)) at_212 rfl rfl ?_
          refine oGo.icmp_lt (q := 222) (r := 216) at_213 (by decide) rfl (fun hc => ?_) (fun hc => absurd hc (by decide))
          refine oGo.iload (q := 224) at_222 rfl rfl ?_
          refine oGo.if_eq (q := 237) (r := 227) at_224 (by decide) rfl (fun hc => absurd hc (by decide)) (fun hc => ?_)
          refine oGo.iload (q := 229) at_227 rfl rfl ?_
          refine oGo.if_ne (q := 237) (r := 232) at_229 (by decide) rfl (fun hc => ?_) (fun hc => absurd hc (by decide))
          exact J237 _ On1 An1
    · skip -- p = 3
      rcases hb with ⟨rfl, rfl⟩ | ⟨rfl, rfl⟩
      · skip -- plain
        refine oGo.iload (q := 161) at_159 rfl rfl ?_
        refine oGo.if_eq (q := 174) (r := 164) at_161 (by decide) rfl (fun hc => ?_) (fun hc => absurd rfl hc)
        refine oGo.iload (q := 176) at_174 rfl rfl ?_
        refine oGo.iconst (q := 177) (v := (1 : Int32)) at_176 rfl rfl ?_
        refine oGo.icmp_lt (q := 186) (r := 180) at_177 (by decide) rfl (fun hc => absurd hc (by decide)) (fun hc => ?_)
        refine oGo.aload (q := 182) at_180 rfl rfl rfl ?_
        refine oGo.callV (W := 0) (rm := ({ frames := 0, cells := 0, slots := 0, locals := 0 } : Room)) (q := 185) (a := r) [] [] at_182 rfl (hw _ (List.mem_of_getElem? (i := 23) rfl)) (hw _ (List.mem_of_getElem? (i := 24) rfl)) (hw _ (List.mem_of_getElem? (i := 26) rfl)) (hw _ (List.mem_of_getElem? (i := 25) rfl)) (hw _ (List.mem_of_getElem? (i := 8) rfl)) (hw _ (List.mem_of_getElem? (i := 27) rfl)) rfl (by decide) (O.1) (cx hw r a (0 : Int32) (1 : Int32) (0 : Int32) y0 _ 0 [(.int y0), (.int y1), (.int y2), (.int y3)] h17 n0 gr nar O A15__ rfl rfl (by decide) rfl) rfl rfl own_pd3 rfl rfl (Nat.le_of_eq rfl) (by decide) (by decide) (by decide) (by decide) ?_
        rintro _ h35 ⟨rfl, Kn0, On0⟩
        show oGo Z _ _ _ _ _ _ n0 _ 2 7 h35 185 #[.val (.int p0), .val (.int p1), .val (.int p2), .val (.int p3), .val (.int p4), .val (.int y0), .val (.int y1), .val (.int y2), .val (.int y3), .val (.int (0 : Int32)), .val (.int be), .val (.int (0 : Int32)), .val (.int (y0 ^^^ (0 : Int32)).toInt8.toInt32), .val (.int (y1 ^^^ (0 : Int32)).toInt8.toInt32), .val (.int (y2 ^^^ (0 : Int32)).toInt8.toInt32), .val (.int (y3 ^^^ (0 : Int32)).toInt8.toInt32), .val (.int (Int32.ofNat 3)), .val (.int b), .val (.ref a), .val (.ref r), .unset, .unset] [(.int ((y0 ^^^ (0 : Int32)).toInt8.toInt32))]
        have An0 := Ars.keep A15__ Kn0 (ninS nar nin0)
        refine oGo.pop (q := 186) at_185 rfl rfl ?_
        refine oGo.iload (q := 188) at_186 rfl rfl ?_
        refine oGo.iconst (q := 189) (v := (2 : Int32)) at_188 rfl rfl ?_
        refine oGo.icmp_lt (q := 198) (r := 192) at_189 (by decide) rfl (fun hc => absurd hc (by decide)) (fun hc => ?_)
        refine oGo.aload (q := 194) at_192 rfl rfl rfl ?_
        refine oGo.callV (W := 0) (rm := ({ frames := 0, cells := 0, slots := 0, locals := 0 } : Room)) (q := 197) (a := r) [] [] at_194 rfl (hw _ (List.mem_of_getElem? (i := 23) rfl)) (hw _ (List.mem_of_getElem? (i := 24) rfl)) (hw _ (List.mem_of_getElem? (i := 26) rfl)) (hw _ (List.mem_of_getElem? (i := 25) rfl)) (hw _ (List.mem_of_getElem? (i := 8) rfl)) (hw _ (List.mem_of_getElem? (i := 27) rfl)) rfl (by decide) (On0.1) (cx hw r a (1 : Int32) (2 : Int32) (0 : Int32) y1 _ 1 [(.int y0), (.int y1), (.int y2), (.int y3)] h35 n0 gr nar On0 An0 rfl rfl (by decide) rfl) rfl rfl own_pd3 rfl rfl (Nat.le_of_eq rfl) (by decide) (by decide) (by decide) (by decide) ?_
        rintro _ h36 ⟨rfl, Kn1, On1⟩
        show oGo Z _ _ _ _ _ _ n0 _ 2 7 h36 197 #[.val (.int p0), .val (.int p1), .val (.int p2), .val (.int p3), .val (.int p4), .val (.int y0), .val (.int y1), .val (.int y2), .val (.int y3), .val (.int (0 : Int32)), .val (.int be), .val (.int (0 : Int32)), .val (.int (y0 ^^^ (0 : Int32)).toInt8.toInt32), .val (.int (y1 ^^^ (0 : Int32)).toInt8.toInt32), .val (.int (y2 ^^^ (0 : Int32)).toInt8.toInt32), .val (.int (y3 ^^^ (0 : Int32)).toInt8.toInt32), .val (.int (Int32.ofNat 3)), .val (.int b), .val (.ref a), .val (.ref r), .unset, .unset] [(.int ((y1 ^^^ (0 : Int32)).toInt8.toInt32))]
        have An1 := Ars.keep An0 Kn1 (ninS nar nin0)
        refine oGo.pop (q := 198) at_197 rfl rfl ?_
        refine oGo.iload (q := 200) at_198 rfl rfl ?_
        refine oGo.iconst (q := 201) (v := (3 : Int32)) at_200 rfl rfl ?_
        refine oGo.icmp_lt (q := 210) (r := 204) at_201 (by decide) rfl (fun hc => absurd hc (by decide)) (fun hc => ?_)
        refine oGo.aload (q := 206) at_204 rfl rfl rfl ?_
        refine oGo.callV (W := 0) (rm := ({ frames := 0, cells := 0, slots := 0, locals := 0 } : Room)) (q := 209) (a := r) [] [] at_206 rfl (hw _ (List.mem_of_getElem? (i := 23) rfl)) (hw _ (List.mem_of_getElem? (i := 24) rfl)) (hw _ (List.mem_of_getElem? (i := 26) rfl)) (hw _ (List.mem_of_getElem? (i := 25) rfl)) (hw _ (List.mem_of_getElem? (i := 8) rfl)) (hw _ (List.mem_of_getElem? (i := 27) rfl)) rfl (by decide) (On1.1) (cx hw r a (2 : Int32) (3 : Int32) (0 : Int32) y2 _ 2 [(.int y0), (.int y1), (.int y2), (.int y3)] h36 n0 gr nar On1 An1 rfl rfl (by decide) rfl) rfl rfl own_pd3 rfl rfl (Nat.le_of_eq rfl) (by decide) (by decide) (by decide) (by decide) ?_
        rintro _ h37 ⟨rfl, Kn2, On2⟩
        show oGo Z _ _ _ _ _ _ n0 _ 2 7 h37 209 #[.val (.int p0), .val (.int p1), .val (.int p2), .val (.int p3), .val (.int p4), .val (.int y0), .val (.int y1), .val (.int y2), .val (.int y3), .val (.int (0 : Int32)), .val (.int be), .val (.int (0 : Int32)), .val (.int (y0 ^^^ (0 : Int32)).toInt8.toInt32), .val (.int (y1 ^^^ (0 : Int32)).toInt8.toInt32), .val (.int (y2 ^^^ (0 : Int32)).toInt8.toInt32), .val (.int (y3 ^^^ (0 : Int32)).toInt8.toInt32), .val (.int (Int32.ofNat 3)), .val (.int b), .val (.ref a), .val (.ref r), .unset, .unset] [(.int ((y2 ^^^ (0 : Int32)).toInt8.toInt32))]
        have An2 := Ars.keep An1 Kn2 (ninS nar nin0)
        refine oGo.pop (q := 210) at_209 rfl rfl ?_
        refine oGo.iload (q := 212) at_210 rfl rfl ?_
        refine oGo.iconst (q := 213) (v := (4 : Int32)) at_212 rfl rfl ?_
        refine oGo.icmp_lt (q := 222) (r := 216) at_213 (by decide) rfl (fun hc => ?_) (fun hc => absurd hc (by decide))
        refine oGo.iload (q := 224) at_222 rfl rfl ?_
        refine oGo.if_eq (q := 237) (r := 227) at_224 (by decide) rfl (fun hc => ?_) (fun hc => absurd rfl hc)
        exact J237 _ On2 An2
      · skip -- inverted
        rcases hbe with rfl | rfl
        · skip -- late
          refine oGo.iload (q := 161) at_159 rfl rfl ?_
          refine oGo.if_eq (q := 174) (r := 164) at_161 (by decide) rfl (fun hc => absurd hc (by decide)) (fun hc => ?_)
          refine oGo.iload (q := 166) at_164 rfl rfl ?_
          refine oGo.if_eq (q := 174) (r := 169) at_166 (by decide) rfl (fun hc => ?_) (fun hc => absurd rfl hc)
          refine oGo.iload (q := 176) at_174 rfl rfl ?_
          refine oGo.iconst (q := 177) (v := (1 : Int32)) at_176 rfl rfl ?_
          refine oGo.icmp_lt (q := 186) (r := 180) at_177 (by decide) rfl (fun hc => absurd hc (by decide)) (fun hc => ?_)
          refine oGo.aload (q := 182) at_180 rfl rfl rfl ?_
          refine oGo.callV (W := 0) (rm := ({ frames := 0, cells := 0, slots := 0, locals := 0 } : Room)) (q := 185) (a := r) [] [] at_182 rfl (hw _ (List.mem_of_getElem? (i := 23) rfl)) (hw _ (List.mem_of_getElem? (i := 24) rfl)) (hw _ (List.mem_of_getElem? (i := 26) rfl)) (hw _ (List.mem_of_getElem? (i := 25) rfl)) (hw _ (List.mem_of_getElem? (i := 8) rfl)) (hw _ (List.mem_of_getElem? (i := 27) rfl)) rfl (by decide) (O.1) (cx hw r a (0 : Int32) (1 : Int32) (0 : Int32) y0 _ 0 [(.int y0), (.int y1), (.int y2), (.int y3)] h17 n0 gr nar O A15__ rfl rfl (by decide) rfl) rfl rfl own_pd3 rfl rfl (Nat.le_of_eq rfl) (by decide) (by decide) (by decide) (by decide) ?_
          rintro _ h38 ⟨rfl, Kn0, On0⟩
          show oGo Z _ _ _ _ _ _ n0 _ 2 7 h38 185 #[.val (.int p0), .val (.int p1), .val (.int p2), .val (.int p3), .val (.int p4), .val (.int y0), .val (.int y1), .val (.int y2), .val (.int y3), .val (.int (1 : Int32)), .val (.int (0 : Int32)), .val (.int (-1 : Int32)), .val (.int (y0 ^^^ (-1 : Int32)).toInt8.toInt32), .val (.int (y1 ^^^ (-1 : Int32)).toInt8.toInt32), .val (.int (y2 ^^^ (-1 : Int32)).toInt8.toInt32), .val (.int (y3 ^^^ (-1 : Int32)).toInt8.toInt32), .val (.int (Int32.ofNat 3)), .val (.int b), .val (.ref a), .val (.ref r), .unset, .unset] [(.int ((y0 ^^^ (0 : Int32)).toInt8.toInt32))]
          have An0 := Ars.keep A15__ Kn0 (ninS nar nin0)
          refine oGo.pop (q := 186) at_185 rfl rfl ?_
          refine oGo.iload (q := 188) at_186 rfl rfl ?_
          refine oGo.iconst (q := 189) (v := (2 : Int32)) at_188 rfl rfl ?_
          refine oGo.icmp_lt (q := 198) (r := 192) at_189 (by decide) rfl (fun hc => absurd hc (by decide)) (fun hc => ?_)
          refine oGo.aload (q := 194) at_192 rfl rfl rfl ?_
          refine oGo.callV (W := 0) (rm := ({ frames := 0, cells := 0, slots := 0, locals := 0 } : Room)) (q := 197) (a := r) [] [] at_194 rfl (hw _ (List.mem_of_getElem? (i := 23) rfl)) (hw _ (List.mem_of_getElem? (i := 24) rfl)) (hw _ (List.mem_of_getElem? (i := 26) rfl)) (hw _ (List.mem_of_getElem? (i := 25) rfl)) (hw _ (List.mem_of_getElem? (i := 8) rfl)) (hw _ (List.mem_of_getElem? (i := 27) rfl)) rfl (by decide) (On0.1) (cx hw r a (1 : Int32) (2 : Int32) (0 : Int32) y1 _ 1 [(.int y0), (.int y1), (.int y2), (.int y3)] h38 n0 gr nar On0 An0 rfl rfl (by decide) rfl) rfl rfl own_pd3 rfl rfl (Nat.le_of_eq rfl) (by decide) (by decide) (by decide) (by decide) ?_
          rintro _ h39 ⟨rfl, Kn1, On1⟩
          show oGo Z _ _ _ _ _ _ n0 _ 2 7 h39 197 #[.val (.int p0), .val (.int p1), .val (.int p2), .val (.int p3), .val (.int p4), .val (.int y0), .val (.int y1), .val (.int y2), .val (.int y3), .val (.int (1 : Int32)), .val (.int (0 : Int32)), .val (.int (-1 : Int32)), .val (.int (y0 ^^^ (-1 : Int32)).toInt8.toInt32), .val (.int (y1 ^^^ (-1 : Int32)).toInt8.toInt32), .val (.int (y2 ^^^ (-1 : Int32)).toInt8.toInt32), .val (.int (y3 ^^^ (-1 : Int32)).toInt8.toInt32), .val (.int (Int32.ofNat 3)), .val (.int b), .val (.ref a), .val (.ref r), .unset, .unset] [(.int ((y1 ^^^ (0 : Int32)).toInt8.toInt32))]
          have An1 := Ars.keep An0 Kn1 (ninS nar nin0)
          refine oGo.pop (q := 198) at_197 rfl rfl ?_
          refine oGo.iload (q := 200) at_198 rfl rfl ?_
          refine oGo.iconst (q := 201) (v := (3 : Int32)) at_200 rfl rfl ?_
          refine oGo.icmp_lt (q := 210) (r := 204) at_201 (by decide) rfl (fun hc => absurd hc (by decide)) (fun hc => ?_)
          refine oGo.aload (q := 206) at_204 rfl rfl rfl ?_
          refine oGo.callV (W := 0) (rm := ({ frames := 0, cells := 0, slots := 0, locals := 0 } : Room)) (q := 209) (a := r) [] [] at_206 rfl (hw _ (List.mem_of_getElem? (i := 23) rfl)) (hw _ (List.mem_of_getElem? (i := 24) rfl)) (hw _ (List.mem_of_getElem? (i := 26) rfl)) (hw _ (List.mem_of_getElem? (i := 25) rfl)) (hw _ (List.mem_of_getElem? (i := 8) rfl)) (hw _ (List.mem_of_getElem? (i := 27) rfl)) rfl (by decide) (On1.1) (cx hw r a (2 : Int32) (3 : Int32) (0 : Int32) y2 _ 2 [(.int y0), (.int y1), (.int y2), (.int y3)] h39 n0 gr nar On1 An1 rfl rfl (by decide) rfl) rfl rfl own_pd3 rfl rfl (Nat.le_of_eq rfl) (by decide) (by decide) (by decide) (by decide) ?_
          rintro _ h40 ⟨rfl, Kn2, On2⟩
          show oGo Z _ _ _ _ _ _ n0 _ 2 7 h40 209 #[.val (.int p0), .val (.int p1), .val (.int p2), .val (.int p3), .val (.int p4), .val (.int y0), .val (.int y1), .val (.int y2), .val (.int y3), .val (.int (1 : Int32)), .val (.int (0 : Int32)), .val (.int (-1 : Int32)), .val (.int (y0 ^^^ (-1 : Int32)).toInt8.toInt32), .val (.int (y1 ^^^ (-1 : Int32)).toInt8.toInt32), .val (.int (y2 ^^^ (-1 : Int32)).toInt8.toInt32), .val (.int (y3 ^^^ (-1 : Int32)).toInt8.toInt32), .val (.int (Int32.ofNat 3)), .val (.int b), .val (.ref a), .val (.ref r), .unset, .unset] [(.int ((y2 ^^^ (0 : Int32)).toInt8.toInt32))]
          have An2 := Ars.keep An1 Kn2 (ninS nar nin0)
          refine oGo.pop (q := 210) at_209 rfl rfl ?_
          refine oGo.iload (q := 212) at_210 rfl rfl ?_
          refine oGo.iconst (q := 213) (v := (4 : Int32)) at_212 rfl rfl ?_
          refine oGo.icmp_lt (q := 222) (r := 216) at_213 (by decide) rfl (fun hc => ?_) (fun hc => absurd hc (by decide))
          refine oGo.iload (q := 224) at_222 rfl rfl ?_
          refine oGo.if_eq (q := 237) (r := 227) at_224 (by decide) rfl (fun hc => absurd hc (by decide)) (fun hc => ?_)
          refine oGo.iload (q := 229) at_227 rfl rfl ?_
          refine oGo.if_ne (q := 237) (r := 232) at_229 (by decide) rfl (fun hc => absurd rfl hc) (fun hc => ?_)
          refine oGo.aload (q := 234) at_232 rfl rfl rfl ?_
          refine oGo.callV (W := 0) (rm := ({ frames := 0, cells := 0, slots := 0, locals := 0 } : Room)) (q := 237) (a := r) [] [] at_234 rfl (hw _ (List.mem_of_getElem? (i := 42) rfl)) (hw _ (List.mem_of_getElem? (i := 43) rfl)) (hw _ (List.mem_of_getElem? (i := 45) rfl)) (hw _ (List.mem_of_getElem? (i := 44) rfl)) (hw _ (List.mem_of_getElem? (i := 8) rfl)) (hw _ (List.mem_of_getElem? (i := 46) rfl)) rfl (by decide) (On2.1) (cv hw r (.ref a) (.int (3 : Int32)) (0 : Int32) (-1 : Int32) h40 n0 gr On2 (by decide)) rfl rfl own_pd2 rfl rfl (Nat.le_of_eq rfl) (by decide) (by decide) (by decide) (by decide) ?_
          rintro _ h41 ⟨rfl, Kv, Ov⟩
          show oGo Z _ _ _ _ _ _ n0 _ 2 7 h41 237 #[.val (.int p0), .val (.int p1), .val (.int p2), .val (.int p3), .val (.int p4), .val (.int y0), .val (.int y1), .val (.int y2), .val (.int y3), .val (.int (1 : Int32)), .val (.int (0 : Int32)), .val (.int (-1 : Int32)), .val (.int (y0 ^^^ (-1 : Int32)).toInt8.toInt32), .val (.int (y1 ^^^ (-1 : Int32)).toInt8.toInt32), .val (.int (y2 ^^^ (-1 : Int32)).toInt8.toInt32), .val (.int (y3 ^^^ (-1 : Int32)).toInt8.toInt32), .val (.int (Int32.ofNat 3)), .val (.int b), .val (.ref a), .val (.ref r), .unset, .unset] []
          have Av := Ars.keep An2 Kv (ninS nar nin0)
          exact J237 _ Ov Av
        · skip -- early
          refine oGo.iload (q := 161) at_159 rfl rfl ?_
          refine oGo.if_eq (q := 174) (r := 164) at_161 (by decide) rfl (fun hc => absurd hc (by decide)) (fun hc => ?_)
          refine oGo.iload (q := 166) at_164 rfl rfl ?_
          refine oGo.if_eq (q := 174) (r := 169) at_166 (by decide) rfl (fun hc => absurd hc (by decide)) (fun hc => ?_)
          refine oGo.aload (q := 171) at_169 rfl rfl rfl ?_
          refine oGo.callV (W := 0) (rm := ({ frames := 0, cells := 0, slots := 0, locals := 0 } : Room)) (q := 174) (a := r) [] [] at_171 rfl (hw _ (List.mem_of_getElem? (i := 42) rfl)) (hw _ (List.mem_of_getElem? (i := 43) rfl)) (hw _ (List.mem_of_getElem? (i := 45) rfl)) (hw _ (List.mem_of_getElem? (i := 44) rfl)) (hw _ (List.mem_of_getElem? (i := 8) rfl)) (hw _ (List.mem_of_getElem? (i := 46) rfl)) rfl (by decide) (O.1) (cv hw r (.ref a) (.int (0 : Int32)) (0 : Int32) (-1 : Int32) h17 n0 gr O (by decide)) rfl rfl own_pd2 rfl rfl (Nat.le_of_eq rfl) (by decide) (by decide) (by decide) (by decide) ?_
          rintro _ h42 ⟨rfl, Kv, Ov⟩
          show oGo Z _ _ _ _ _ _ n0 _ 2 7 h42 174 #[.val (.int p0), .val (.int p1), .val (.int p2), .val (.int p3), .val (.int p4), .val (.int y0), .val (.int y1), .val (.int y2), .val (.int y3), .val (.int (1 : Int32)), .val (.int (1 : Int32)), .val (.int (-1 : Int32)), .val (.int (y0 ^^^ (-1 : Int32)).toInt8.toInt32), .val (.int (y1 ^^^ (-1 : Int32)).toInt8.toInt32), .val (.int (y2 ^^^ (-1 : Int32)).toInt8.toInt32), .val (.int (y3 ^^^ (-1 : Int32)).toInt8.toInt32), .val (.int (Int32.ofNat 3)), .val (.int b), .val (.ref a), .val (.ref r), .unset, .unset] []
          have Av := Ars.keep A15__ Kv (ninS nar nin0)
          refine oGo.iload (q := 176) at_174 rfl rfl ?_
          refine oGo.iconst (q := 177) (v := (1 : Int32)) at_176 rfl rfl ?_
          refine oGo.icmp_lt (q := 186) (r := 180) at_177 (by decide) rfl (fun hc => absurd hc (by decide)) (fun hc => ?_)
          refine oGo.aload (q := 182) at_180 rfl rfl rfl ?_
          refine oGo.callV (W := 0) (rm := ({ frames := 0, cells := 0, slots := 0, locals := 0 } : Room)) (q := 185) (a := r) [] [] at_182 rfl (hw _ (List.mem_of_getElem? (i := 23) rfl)) (hw _ (List.mem_of_getElem? (i := 24) rfl)) (hw _ (List.mem_of_getElem? (i := 26) rfl)) (hw _ (List.mem_of_getElem? (i := 25) rfl)) (hw _ (List.mem_of_getElem? (i := 8) rfl)) (hw _ (List.mem_of_getElem? (i := 27) rfl)) rfl (by decide) (Ov.1) (cx hw r a (0 : Int32) (1 : Int32) (-1 : Int32) y0 _ 0 [(.int y0), (.int y1), (.int y2), (.int y3)] h42 n0 gr nar Ov Av rfl rfl (by decide) rfl) rfl rfl own_pd3 rfl rfl (Nat.le_of_eq rfl) (by decide) (by decide) (by decide) (by decide) ?_
          rintro _ h43 ⟨rfl, Kn0, On0⟩
          show oGo Z _ _ _ _ _ _ n0 _ 2 7 h43 185 #[.val (.int p0), .val (.int p1), .val (.int p2), .val (.int p3), .val (.int p4), .val (.int y0), .val (.int y1), .val (.int y2), .val (.int y3), .val (.int (1 : Int32)), .val (.int (1 : Int32)), .val (.int (-1 : Int32)), .val (.int (y0 ^^^ (-1 : Int32)).toInt8.toInt32), .val (.int (y1 ^^^ (-1 : Int32)).toInt8.toInt32), .val (.int (y2 ^^^ (-1 : Int32)).toInt8.toInt32), .val (.int (y3 ^^^ (-1 : Int32)).toInt8.toInt32), .val (.int (Int32.ofNat 3)), .val (.int b), .val (.ref a), .val (.ref r), .unset, .unset] [(.int ((y0 ^^^ (-1 : Int32)).toInt8.toInt32))]
          have An0 := Ars.keep Av Kn0 (ninS nar nin0)
          refine oGo.pop (q := 186) at_185 rfl rfl ?_
          refine oGo.iload (q := 188) at_186 rfl rfl ?_
          refine oGo.iconst (q := 189) (v := (2 : Int32)) at_188 rfl rfl ?_
          refine oGo.icmp_lt (q := 198) (r := 192) at_189 (by decide) rfl (fun hc => absurd hc (by decide)) (fun hc => ?_)
          refine oGo.aload (q := 194) at_192 rfl rfl rfl ?_
          refine oGo.callV (W := 0) (rm := ({ frames := 0, cells := 0, slots := 0, locals := 0 } : Room)) (q := 197) (a := r) [] [] at_194 rfl (hw _ (List.mem_of_getElem? (i := 23) rfl)) (hw _ (List.mem_of_getElem? (i := 24) rfl)) (hw _ (List.mem_of_getElem? (i := 26) rfl)) (hw _ (List.mem_of_getElem? (i := 25) rfl)) (hw _ (List.mem_of_getElem? (i := 8) rfl)) (hw _ (List.mem_of_getElem? (i := 27) rfl)) rfl (by decide) (On0.1) (cx hw r a (1 : Int32) (2 : Int32) (-1 : Int32) y1 _ 1 [(.int y0), (.int y1), (.int y2), (.int y3)] h43 n0 gr nar On0 An0 rfl rfl (by decide) rfl) rfl rfl own_pd3 rfl rfl (Nat.le_of_eq rfl) (by decide) (by decide) (by decide) (by decide) ?_
          rintro _ h44 ⟨rfl, Kn1, On1⟩
          show oGo Z _ _ _ _ _ _ n0 _ 2 7 h44 197 #[.val (.int p0), .val (.int p1), .val (.int p2), .val (.int p3), .val (.int p4), .val (.int y0), .val (.int y1), .val (.int y2), .val (.int y3), .val (.int (1 : Int32)), .val (.int (1 : Int32)), .val (.int (-1 : Int32)), .val (.int (y0 ^^^ (-1 : Int32)).toInt8.toInt32), .val (.int (y1 ^^^ (-1 : Int32)).toInt8.toInt32), .val (.int (y2 ^^^ (-1 : Int32)).toInt8.toInt32), .val (.int (y3 ^^^ (-1 : Int32)).toInt8.toInt32), .val (.int (Int32.ofNat 3)), .val (.int b), .val (.ref a), .val (.ref r), .unset, .unset] [(.int ((y1 ^^^ (-1 : Int32)).toInt8.toInt32))]
          have An1 := Ars.keep An0 Kn1 (ninS nar nin0)
          refine oGo.pop (q := 198) at_197 rfl rfl ?_
          refine oGo.iload (q := 200) at_198 rfl rfl ?_
          refine oGo.iconst (q := 201) (v := (3 : Int32)) at_200 rfl rfl ?_
          refine oGo.icmp_lt (q := 210) (r := 204) at_201 (by decide) rfl (fun hc => absurd hc (by decide)) (fun hc => ?_)
          refine oGo.aload (q := 206) at_204 rfl rfl rfl ?_
          refine oGo.callV (W := 0) (rm := ({ frames := 0, cells := 0, slots := 0, locals := 0 } : Room)) (q := 209) (a := r) [] [] at_206 rfl (hw _ (List.mem_of_getElem? (i := 23) rfl)) (hw _ (List.mem_of_getElem? (i := 24) rfl)) (hw _ (List.mem_of_getElem? (i := 26) rfl)) (hw _ (List.mem_of_getElem? (i := 25) rfl)) (hw _ (List.mem_of_getElem? (i := 8) rfl)) (hw _ (List.mem_of_getElem? (i := 27) rfl)) rfl (by decide) (On1.1) (cx hw r a (2 : Int32) (3 : Int32) (-1 : Int32) y2 _ 2 [(.int y0), (.int y1), (.int y2), (.int y3)] h44 n0 gr nar On1 An1 rfl rfl (by decide) rfl) rfl rfl own_pd3 rfl rfl (Nat.le_of_eq rfl) (by decide) (by decide) (by decide) (by decide) ?_
          rintro _ h45 ⟨rfl, Kn2, On2⟩
          show oGo Z _ _ _ _ _ _ n0 _ 2 7 h45 209 #[.val (.int p0), .val (.int p1), .val (.int p2), .val (.int p3), .val (.int p4), .val (.int y0), .val (.int y1), .val (.int y2), .val (.int y3), .val (.int (1 : Int32)), .val (.int (1 : Int32)), .val (.int (-1 : Int32)), .val (.int (y0 ^^^ (-1 : Int32)).toInt8.toInt32), .val (.int (y1 ^^^ (-1 : Int32)).toInt8.toInt32), .val (.int (y2 ^^^ (-1 : Int32)).toInt8.toInt32), .val (.int (y3 ^^^ (-1 : Int32)).toInt8.toInt32), .val (.int (Int32.ofNat 3)), .val (.int b), .val (.ref a), .val (.ref r), .unset, .unset] [(.int ((y2 ^^^ (-1 : Int32)).toInt8.toInt32))]
          have An2 := Ars.keep An1 Kn2 (ninS nar nin0)
          refine oGo.pop (q := 210) at_209 rfl rfl ?_
          refine oGo.iload (q := 212) at_210 rfl rfl ?_
          refine oGo.iconst (q := 213) (v := (4 : Int32)) at_212 rfl rfl ?_
          refine oGo.icmp_lt (q := 222) (r := 216) at_213 (by decide) rfl (fun hc => ?_) (fun hc => absurd hc (by decide))
          refine oGo.iload (q := 224) at_222 rfl rfl ?_
          refine oGo.if_eq (q := 237) (r := 227) at_224 (by decide) rfl (fun hc => absurd hc (by decide)) (fun hc => ?_)
          refine oGo.iload (q := 229) at_227 rfl rfl ?_
          refine oGo.if_ne (q := 237) (r := 232) at_229 (by decide) rfl (fun hc => ?_) (fun hc => absurd hc (by decide))
          exact J237 _ On2 An2
    · skip -- p = 4
      rcases hb with ⟨rfl, rfl⟩ | ⟨rfl, rfl⟩
      · skip -- plain
        refine oGo.iload (q := 161) at_159 rfl rfl ?_
        refine oGo.if_eq (q := 174) (r := 164) at_161 (by decide) rfl (fun hc => ?_) (fun hc => absurd rfl hc)
        refine oGo.iload (q := 176) at_174 rfl rfl ?_
        refine oGo.iconst (q := 177) (v := (1 : Int32)) at_176 rfl rfl ?_
        refine oGo.icmp_lt (q := 186) (r := 180) at_177 (by decide) rfl (fun hc => absurd hc (by decide)) (fun hc => ?_)
        refine oGo.aload (q := 182) at_180 rfl rfl rfl ?_
        refine oGo.callV (W := 0) (rm := ({ frames := 0, cells := 0, slots := 0, locals := 0 } : Room)) (q := 185) (a := r) [] [] at_182 rfl (hw _ (List.mem_of_getElem? (i := 23) rfl)) (hw _ (List.mem_of_getElem? (i := 24) rfl)) (hw _ (List.mem_of_getElem? (i := 26) rfl)) (hw _ (List.mem_of_getElem? (i := 25) rfl)) (hw _ (List.mem_of_getElem? (i := 8) rfl)) (hw _ (List.mem_of_getElem? (i := 27) rfl)) rfl (by decide) (O.1) (cx hw r a (0 : Int32) (1 : Int32) (0 : Int32) y0 _ 0 [(.int y0), (.int y1), (.int y2), (.int y3)] h17 n0 gr nar O A15__ rfl rfl (by decide) rfl) rfl rfl own_pd3 rfl rfl (Nat.le_of_eq rfl) (by decide) (by decide) (by decide) (by decide) ?_
        rintro _ h46 ⟨rfl, Kn0, On0⟩
        show oGo Z _ _ _ _ _ _ n0 _ 2 7 h46 185 #[.val (.int p0), .val (.int p1), .val (.int p2), .val (.int p3), .val (.int p4), .val (.int y0), .val (.int y1), .val (.int y2), .val (.int y3), .val (.int (0 : Int32)), .val (.int be), .val (.int (0 : Int32)), .val (.int (y0 ^^^ (0 : Int32)).toInt8.toInt32), .val (.int (y1 ^^^ (0 : Int32)).toInt8.toInt32), .val (.int (y2 ^^^ (0 : Int32)).toInt8.toInt32), .val (.int (y3 ^^^ (0 : Int32)).toInt8.toInt32), .val (.int (Int32.ofNat 4)), .val (.int b), .val (.ref a), .val (.ref r), .unset, .unset] [(.int ((y0 ^^^ (0 : Int32)).toInt8.toInt32))]
        have An0 := Ars.keep A15__ Kn0 (ninS nar nin0)
        refine oGo.pop (q := 186) at_185 rfl rfl ?_
        refine oGo.iload (q := 188) at_186 rfl rfl ?_
        refine oGo.iconst (q := 189) (v := (2 : Int32)) at_188 rfl rfl ?_
        refine oGo.icmp_lt (q := 198) (r := 192) at_189 (by decide) rfl (fun hc => absurd hc (by decide)) (fun hc => ?_)
        refine oGo.aload (q := 194) at_192 rfl rfl rfl ?_
        refine oGo.callV (W := 0) (rm := ({ frames := 0, cells := 0, slots := 0, locals := 0 } : Room)) (q := 197) (a := r) [] [] at_194 rfl (hw _ (List.mem_of_getElem? (i := 23) rfl)) (hw _ (List.mem_of_getElem? (i := 24) rfl)) (hw _ (List.mem_of_getElem? (i := 26) rfl)) (hw _ (List.mem_of_getElem? (i := 25) rfl)) (hw _ (List.mem_of_getElem? (i := 8) rfl)) (hw _ (List.mem_of_getElem? (i := 27) rfl)) rfl (by decide) (On0.1) (cx hw r a (1 : Int32) (2 : Int32) (0 : Int32) y1 _ 1 [(.int y0), (.int y1), (.int y2), (.int y3)] h46 n0 gr nar On0 An0 rfl rfl (by decide) rfl) rfl rfl own_pd3 rfl rfl (Nat.le_of_eq rfl) (by decide) (by decide) (by decide) (by decide) ?_
        rintro _ h47 ⟨rfl, Kn1, On1⟩
        show oGo Z _ _ _ _ _ _ n0 _ 2 7 h47 197 #[.val (.int p0), .val (.int p1), .val (.int p2), .val (.int p3), .val (.int p4), .val (.int y0), .val (.int y1), .val (.int y2), .val (.int y3), .val (.int (0 : Int32)), .val (.int be), .val (.int (0 : Int32)), .val (.int (y0 ^^^ (0 : Int32)).toInt8.toInt32), .val (.int (y1 ^^^ (0 : Int32)).toInt8.toInt32), .val (.int (y2 ^^^ (0 : Int32)).toInt8.toInt32), .val (.int (y3 ^^^ (0 : Int32)).toInt8.toInt32), .val (.int (Int32.ofNat 4)), .val (.int b), .val (.ref a), .val (.ref r), .unset, .unset] [(.int ((y1 ^^^ (0 : Int32)).toInt8.toInt32))]
        have An1 := Ars.keep An0 Kn1 (ninS nar nin0)
        refine oGo.pop (q := 198) at_197 rfl rfl ?_
        refine oGo.iload (q := 200) at_198 rfl rfl ?_
        refine oGo.iconst (q := 201) (v := (3 : Int32)) at_200 rfl rfl ?_
        refine oGo.icmp_lt (q := 210) (r := 204) at_201 (by decide) rfl (fun hc => absurd hc (by decide)) (fun hc => ?_)
        refine oGo.aload (q := 206) at_204 rfl rfl rfl ?_
        refine oGo.callV (W := 0) (rm := ({ frames := 0, cells := 0, slots := 0, locals := 0 } : Room)) (q := 209) (a := r) [] [] at_206 rfl (hw _ (List.mem_of_getElem? (i := 23) rfl)) (hw _ (List.mem_of_getElem? (i := 24) rfl)) (hw _ (List.mem_of_getElem? (i := 26) rfl)) (hw _ (List.mem_of_getElem? (i := 25) rfl)) (hw _ (List.mem_of_getElem? (i := 8) rfl)) (hw _ (List.mem_of_getElem? (i := 27) rfl)) rfl (by decide) (On1.1) (cx hw r a (2 : Int32) (3 : Int32) (0 : Int32) y2 _ 2 [(.int y0), (.int y1), (.int y2), (.int y3)] h47 n0 gr nar On1 An1 rfl rfl (by decide) rfl) rfl rfl own_pd3 rfl rfl (Nat.le_of_eq rfl) (by decide) (by decide) (by decide) (by decide) ?_
        rintro _ h48 ⟨rfl, Kn2, On2⟩
        show oGo Z _ _ _ _ _ _ n0 _ 2 7 h48 209 #[.val (.int p0), .val (.int p1), .val (.int p2), .val (.int p3), .val (.int p4), .val (.int y0), .val (.int y1), .val (.int y2), .val (.int y3), .val (.int (0 : Int32)), .val (.int be), .val (.int (0 : Int32)), .val (.int (y0 ^^^ (0 : Int32)).toInt8.toInt32), .val (.int (y1 ^^^ (0 : Int32)).toInt8.toInt32), .val (.int (y2 ^^^ (0 : Int32)).toInt8.toInt32), .val (.int (y3 ^^^ (0 : Int32)).toInt8.toInt32), .val (.int (Int32.ofNat 4)), .val (.int b), .val (.ref a), .val (.ref r), .unset, .unset] [(.int ((y2 ^^^ (0 : Int32)).toInt8.toInt32))]
        have An2 := Ars.keep An1 Kn2 (ninS nar nin0)
        refine oGo.pop (q := 210) at_209 rfl rfl ?_
        refine oGo.iload (q := 212) at_210 rfl rfl ?_
        refine oGo.iconst (q := 213) (v := (4 : Int32)) at_212 rfl rfl ?_
        refine oGo.icmp_lt (q := 222) (r := 216) at_213 (by decide) rfl (fun hc => absurd hc (by decide)) (fun hc => ?_)
        refine oGo.aload (q := 218) at_216 rfl rfl rfl ?_
        refine oGo.callV (W := 0) (rm := ({ frames := 0, cells := 0, slots := 0, locals := 0 } : Room)) (q := 221) (a := r) [] [] at_218 rfl (hw _ (List.mem_of_getElem? (i := 23) rfl)) (hw _ (List.mem_of_getElem? (i := 24) rfl)) (hw _ (List.mem_of_getElem? (i := 26) rfl)) (hw _ (List.mem_of_getElem? (i := 25) rfl)) (hw _ (List.mem_of_getElem? (i := 8) rfl)) (hw _ (List.mem_of_getElem? (i := 27) rfl)) rfl (by decide) (On2.1) (cx hw r a (3 : Int32) (4 : Int32) (0 : Int32) y3 _ 3 [(.int y0), (.int y1), (.int y2), (.int y3)] h48 n0 gr nar On2 An2 rfl rfl (by decide) rfl) rfl rfl own_pd3 rfl rfl (Nat.le_of_eq rfl) (by decide) (by decide) (by decide) (by decide) ?_
        rintro _ h49 ⟨rfl, Kn3, On3⟩
        show oGo Z _ _ _ _ _ _ n0 _ 2 7 h49 221 #[.val (.int p0), .val (.int p1), .val (.int p2), .val (.int p3), .val (.int p4), .val (.int y0), .val (.int y1), .val (.int y2), .val (.int y3), .val (.int (0 : Int32)), .val (.int be), .val (.int (0 : Int32)), .val (.int (y0 ^^^ (0 : Int32)).toInt8.toInt32), .val (.int (y1 ^^^ (0 : Int32)).toInt8.toInt32), .val (.int (y2 ^^^ (0 : Int32)).toInt8.toInt32), .val (.int (y3 ^^^ (0 : Int32)).toInt8.toInt32), .val (.int (Int32.ofNat 4)), .val (.int b), .val (.ref a), .val (.ref r), .unset, .unset] [(.int ((y3 ^^^ (0 : Int32)).toInt8.toInt32))]
        have An3 := Ars.keep An2 Kn3 (ninS nar nin0)
        refine oGo.pop (q := 222) at_221 rfl rfl ?_
        refine oGo.iload (q := 224) at_222 rfl rfl ?_
        refine oGo.if_eq (q := 237) (r := 227) at_224 (by decide) rfl (fun hc => ?_) (fun hc => absurd rfl hc)
        exact J237 _ On3 An3
      · skip -- inverted
        rcases hbe with rfl | rfl
        · skip -- late
          refine oGo.iload (q := 161) at_159 rfl rfl ?_
          refine oGo.if_eq (q := 174) (r := 164) at_161 (by decide) rfl (fun hc => absurd hc (by decide)) (fun hc => ?_)
          refine oGo.iload (q := 166) at_164 rfl rfl ?_
          refine oGo.if_eq (q := 174) (r := 169) at_166 (by decide) rfl (fun hc => ?_) (fun hc => absurd rfl hc)
          refine oGo.iload (q := 176) at_174 rfl rfl ?_
          refine oGo.iconst (q := 177) (v := (1 : Int32)) at_176 rfl rfl ?_
          refine oGo.icmp_lt (q := 186) (r := 180) at_177 (by decide) rfl (fun hc => absurd hc (by decide)) (fun hc => ?_)
          refine oGo.aload (q := 182) at_180 rfl rfl rfl ?_
          refine oGo.callV (W := 0) (rm := ({ frames := 0, cells := 0, slots := 0, locals := 0 } : Room)) (q := 185) (a := r) [] [] at_182 rfl (hw _ (List.mem_of_getElem? (i := 23) rfl)) (hw _ (List.mem_of_getElem? (i := 24) rfl)) (hw _ (List.mem_of_getElem? (i := 26) rfl)) (hw _ (List.mem_of_getElem? (i := 25) rfl)) (hw _ (List.mem_of_getElem? (i := 8) rfl)) (hw _ (List.mem_of_getElem? (i := 27) rfl)) rfl (by decide) (O.1) (cx hw r a (0 : Int32) (1 : Int32) (0 : Int32) y0 _ 0 [(.int y0), (.int y1), (.int y2), (.int y3)] h17 n0 gr nar O A15__ rfl rfl (by decide) rfl) rfl rfl own_pd3 rfl rfl (Nat.le_of_eq rfl) (by decide) (by decide) (by decide) (by decide) ?_
          rintro _ h50 ⟨rfl, Kn0, On0⟩
          show oGo Z _ _ _ _ _ _ n0 _ 2 7 h50 185 #[.val (.int p0), .val (.int p1), .val (.int p2), .val (.int p3), .val (.int p4), .val (.int y0), .val (.int y1), .val (.int y2), .val (.int y3), .val (.int (1 : Int32)), .val (.int (0 : Int32)), .val (.int (-1 : Int32)), .val (.int (y0 ^^^ (-1 : Int32)).toInt8.toInt32), .val (.int (y1 ^^^ (-1 : Int32)).toInt8.toInt32), .val (.int (y2 ^^^ (-1 : Int32)).toInt8.toInt32), .val (.int (y3 ^^^ (-1 : Int32)).toInt8.toInt32), .val (.int (Int32.ofNat 4)), .val (.int b), .val (.ref a), .val (.ref r), .unset, .unset] [(.int ((y0 ^^^ (0 : Int32)).toInt8.toInt32))]
          have An0 := Ars.keep A15__ Kn0 (ninS nar nin0)
          refine oGo.pop (q := 186) at_185 rfl rfl ?_
          refine oGo.iload (q := 188) at_186 rfl rfl ?_
          refine oGo.iconst (q := 189) (v := (2 : Int32)) at_188 rfl rfl ?_
          refine oGo.icmp_lt (q := 198) (r := 192) at_189 (by decide) rfl (fun hc => absurd hc (by decide)) (fun hc => ?_)
          refine oGo.aload (q := 194) at_192 rfl rfl rfl ?_
          refine oGo.callV (W := 0) (rm := ({ frames := 0, cells := 0, slots := 0, locals := 0 } : Room)) (q := 197) (a := r) [] [] at_194 rfl (hw _ (List.mem_of_getElem? (i := 23) rfl)) (hw _ (List.mem_of_getElem? (i := 24) rfl)) (hw _ (List.mem_of_getElem? (i := 26) rfl)) (hw _ (List.mem_of_getElem? (i := 25) rfl)) (hw _ (List.mem_of_getElem? (i := 8) rfl)) (hw _ (List.mem_of_getElem? (i := 27) rfl)) rfl (by decide) (On0.1) (cx hw r a (1 : Int32) (2 : Int32) (0 : Int32) y1 _ 1 [(.int y0), (.int y1), (.int y2), (.int y3)] h50 n0 gr nar On0 An0 rfl rfl (by decide) rfl) rfl rfl own_pd3 rfl rfl (Nat.le_of_eq rfl) (by decide) (by decide) (by decide) (by decide) ?_
          rintro _ h51 ⟨rfl, Kn1, On1⟩
          show oGo Z _ _ _ _ _ _ n0 _ 2 7 h51 197 #[.val (.int p0), .val (.int p1), .val (.int p2), .val (.int p3), .val (.int p4), .val (.int y0), .val (.int y1), .val (.int y2), .val (.int y3), .val (.int (1 : Int32)), .val (.int (0 : Int32)), .val (.int (-1 : Int32)), .val (.int (y0 ^^^ (-1 : Int32)).toInt8.toInt32), .val (.int (y1 ^^^ (-1 : Int32)).toInt8.toInt32), .val (.int (y2 ^^^ (-1 : Int32)).toInt8.toInt32), .val (.int (y3 ^^^ (-1 : Int32)).toInt8.toInt32), .val (.int (Int32.ofNat 4)), .val (.int b), .val (.ref a), .val (.ref r), .unset, .unset] [(.int ((y1 ^^^ (0 : Int32)).toInt8.toInt32))]
          have An1 := Ars.keep An0 Kn1 (ninS nar nin0)
          refine oGo.pop (q := 198) at_197 rfl rfl ?_
          refine oGo.iload (q := 200) at_198 rfl rfl ?_
          refine oGo.iconst (q := 201) (v := (3 : Int32)) at_200 rfl rfl ?_
          refine oGo.icmp_lt (q := 210) (r := 204) at_201 (by decide) rfl (fun hc => absurd hc (by decide)) (fun hc => ?_)
          refine oGo.aload (q := 206) at_204 rfl rfl rfl ?_
          refine oGo.callV (W := 0) (rm := ({ frames := 0, cells := 0, slots := 0, locals := 0 } : Room)) (q := 209) (a := r) [] [] at_206 rfl (hw _ (List.mem_of_getElem? (i := 23) rfl)) (hw _ (List.mem_of_getElem? (i := 24) rfl)) (hw _ (List.mem_of_getElem? (i := 26) rfl)) (hw _ (List.mem_of_getElem? (i := 25) rfl)) (hw _ (List.mem_of_getElem? (i := 8) rfl)) (hw _ (List.mem_of_getElem? (i := 27) rfl)) rfl (by decide) (On1.1) (cx hw r a (2 : Int32) (3 : Int32) (0 : Int32) y2 _ 2 [(.int y0), (.int y1), (.int y2), (.int y3)] h51 n0 gr nar On1 An1 rfl rfl (by decide) rfl) rfl rfl own_pd3 rfl rfl (Nat.le_of_eq rfl) (by decide) (by decide) (by decide) (by decide) ?_
          rintro _ h52 ⟨rfl, Kn2, On2⟩
          show oGo Z _ _ _ _ _ _ n0 _ 2 7 h52 209 #[.val (.int p0), .val (.int p1), .val (.int p2), .val (.int p3), .val (.int p4), .val (.int y0), .val (.int y1), .val (.int y2), .val (.int y3), .val (.int (1 : Int32)), .val (.int (0 : Int32)), .val (.int (-1 : Int32)), .val (.int (y0 ^^^ (-1 : Int32)).toInt8.toInt32), .val (.int (y1 ^^^ (-1 : Int32)).toInt8.toInt32), .val (.int (y2 ^^^ (-1 : Int32)).toInt8.toInt32), .val (.int (y3 ^^^ (-1 : Int32)).toInt8.toInt32), .val (.int (Int32.ofNat 4)), .val (.int b), .val (.ref a), .val (.ref r), .unset, .unset] [(.int ((y2 ^^^ (0 : Int32)).toInt8.toInt32))]
          have An2 := Ars.keep An1 Kn2 (ninS nar nin0)
          refine oGo.pop (q := 210) at_209 rfl rfl ?_
          refine oGo.iload (q := 212) at_210 rfl rfl ?_
          refine oGo.iconst (q := 213) (v := (4 : Int32)) at_212 rfl rfl ?_
          refine oGo.icmp_lt (q := 222) (r := 216) at_213 (by decide) rfl (fun hc => absurd hc (by decide)) (fun hc => ?_)
          refine oGo.aload (q := 218) at_216 rfl rfl rfl ?_
          refine oGo.callV (W := 0) (rm := ({ frames := 0, cells := 0, slots := 0, locals := 0 } : Room)) (q := 221) (a := r) [] [] at_218 rfl (hw _ (List.mem_of_getElem? (i := 23) rfl)) (hw _ (List.mem_of_getElem? (i := 24) rfl)) (hw _ (List.mem_of_getElem? (i := 26) rfl)) (hw _ (List.mem_of_getElem? (i := 25) rfl)) (hw _ (List.mem_of_getElem? (i := 8) rfl)) (hw _ (List.mem_of_getElem? (i := 27) rfl)) rfl (by decide) (On2.1) (cx hw r a (3 : Int32) (4 : Int32) (0 : Int32) y3 _ 3 [(.int y0), (.int y1), (.int y2), (.int y3)] h52 n0 gr nar On2 An2 rfl rfl (by decide) rfl) rfl rfl own_pd3 rfl rfl (Nat.le_of_eq rfl) (by decide) (by decide) (by decide) (by decide) ?_
          rintro _ h53 ⟨rfl, Kn3, On3⟩
          show oGo Z _ _ _ _ _ _ n0 _ 2 7 h53 221 #[.val (.int p0), .val (.int p1), .val (.int p2), .val (.int p3), .val (.int p4), .val (.int y0), .val (.int y1), .val (.int y2), .val (.int y3), .val (.int (1 : Int32)), .val (.int (0 : Int32)), .val (.int (-1 : Int32)), .val (.int (y0 ^^^ (-1 : Int32)).toInt8.toInt32), .val (.int (y1 ^^^ (-1 : Int32)).toInt8.toInt32), .val (.int (y2 ^^^ (-1 : Int32)).toInt8.toInt32), .val (.int (y3 ^^^ (-1 : Int32)).toInt8.toInt32), .val (.int (Int32.ofNat 4)), .val (.int b), .val (.ref a), .val (.ref r), .unset, .unset] [(.int ((y3 ^^^ (0 : Int32)).toInt8.toInt32))]
          have An3 := Ars.keep An2 Kn3 (ninS nar nin0)
          refine oGo.pop (q := 222) at_221 rfl rfl ?_
          refine oGo.iload (q := 224) at_222 rfl rfl ?_
          refine oGo.if_eq (q := 237) (r := 227) at_224 (by decide) rfl (fun hc => absurd hc (by decide)) (fun hc => ?_)
          refine oGo.iload (q := 229) at_227 rfl rfl ?_
          refine oGo.if_ne (q := 237) (r := 232) at_229 (by decide) rfl (fun hc => absurd rfl hc) (fun hc => ?_)
          refine oGo.aload (q := 234) at_232 rfl rfl rfl ?_
          refine oGo.callV (W := 0) (rm := ({ frames := 0, cells := 0, slots := 0, locals := 0 } : Room)) (q := 237) (a := r) [] [] at_234 rfl (hw _ (List.mem_of_getElem? (i := 42) rfl)) (hw _ (List.mem_of_getElem? (i := 43) rfl)) (hw _ (List.mem_of_getElem? (i := 45) rfl)) (hw _ (List.mem_of_getElem? (i := 44) rfl)) (hw _ (List.mem_of_getElem? (i := 8) rfl)) (hw _ (List.mem_of_getElem? (i := 46) rfl)) rfl (by decide) (On3.1) (cv hw r (.ref a) (.int (4 : Int32)) (0 : Int32) (-1 : Int32) h53 n0 gr On3 (by decide)) rfl rfl own_pd2 rfl rfl (Nat.le_of_eq rfl) (by decide) (by decide) (by decide) (by decide) ?_
          rintro _ h54 ⟨rfl, Kv, Ov⟩
          show oGo Z _ _ _ _ _ _ n0 _ 2 7 h54 237 #[.val (.int p0), .val (.int p1), .val (.int p2), .val (.int p3), .val (.int p4), .val (.int y0), .val (.int y1), .val (.int y2), .val (.int y3), .val (.int (1 : Int32)), .val (.int (0 : Int32)), .val (.int (-1 : Int32)), .val (.int (y0 ^^^ (-1 : Int32)).toInt8.toInt32), .val (.int (y1 ^^^ (-1 : Int32)).toInt8.toInt32), .val (.int (y2 ^^^ (-1 : Int32)).toInt8.toInt32), .val (.int (y3 ^^^ (-1 : Int32)).toInt8.toInt32), .val (.int (Int32.ofNat 4)), .val (.int b), .val (.ref a), .val (.ref r), .unset, .unset] []
          have Av := Ars.keep An3 Kv (ninS nar nin0)
          exact J237 _ Ov Av
        · skip -- early
          refine oGo.iload (q := 161) at_159 rfl rfl ?_
          refine oGo.if_eq (q := 174) (r := 164) at_161 (by decide) rfl (fun hc => absurd hc (by decide)) (fun hc => ?_)
          refine oGo.iload (q := 166) at_164 rfl rfl ?_
          refine oGo.if_eq (q := 174) (r := 169) at_166 (by decide) rfl (fun hc => absurd hc (by decide)) (fun hc => ?_)
          refine oGo.aload (q := 171) at_169 rfl rfl rfl ?_
          refine oGo.callV (W := 0) (rm := ({ frames := 0, cells := 0, slots := 0, locals := 0 } : Room)) (q := 174) (a := r) [] [] at_171 rfl (hw _ (List.mem_of_getElem? (i := 42) rfl)) (hw _ (List.mem_of_getElem? (i := 43) rfl)) (hw _ (List.mem_of_getElem? (i := 45) rfl)) (hw _ (List.mem_of_getElem? (i := 44) rfl)) (hw _ (List.mem_of_getElem? (i := 8) rfl)) (hw _ (List.mem_of_getElem? (i := 46) rfl)) rfl (by decide) (O.1) (cv hw r (.ref a) (.int (0 : Int32)) (0 : Int32) (-1 : Int32) h17 n0 gr O (by decide)) rfl rfl own_pd2 rfl rfl (Nat.le_of_eq rfl) (by decide) (by decide) (by decide) (by decide) ?_
          rintro _ h55 ⟨rfl, Kv, Ov⟩
          show oGo Z _ _ _ _ _ _ n0 _ 2 7 h55 174 #[.val (.int p0), .val (.int p1), .val (.int p2), .val (.int p3), .val (.int p4), .val (.int y0), .val (.int y1), .val (.int y2), .val (.int y3), .val (.int (1 : Int32)), .val (.int (1 : Int32)), .val (.int (-1 : Int32)), .val (.int (y0 ^^^ (-1 : Int32)).toInt8.toInt32), .val (.int (y1 ^^^ (-1 : Int32)).toInt8.toInt32), .val (.int (y2 ^^^ (-1 : Int32)).toInt8.toInt32), .val (.int (y3 ^^^ (-1 : Int32)).toInt8.toInt32), .val (.int (Int32.ofNat 4)), .val (.int b), .val (.ref a), .val (.ref r), .unset, .unset] []
          have Av := Ars.keep A15__ Kv (ninS nar nin0)
          refine oGo.iload (q := 176) at_174 rfl rfl ?_
          refine oGo.iconst (q := 177) (v := (1 : Int32)) at_176 rfl rfl ?_
          refine oGo.icmp_lt (q := 186) (r := 180) at_177 (by decide) rfl (fun hc => absurd hc (by decide)) (fun hc => ?_)
          refine oGo.aload (q := 182) at_180 rfl rfl rfl ?_
          refine oGo.callV (W := 0) (rm := ({ frames := 0, cells := 0, slots := 0, locals := 0 } : Room)) (q := 185) (a := r) [] [] at_182 rfl (hw _ (List.mem_of_getElem? (i := 23) rfl)) (hw _ (List.mem_of_getElem? (i := 24) rfl)) (hw _ (List.mem_of_getElem? (i := 26) rfl)) (hw _ (List.mem_of_getElem? (i := 25) rfl)) (hw _ (List.mem_of_getElem? (i := 8) rfl)) (hw _ (List.mem_of_getElem? (i := 27) rfl)) rfl (by decide) (Ov.1) (cx hw r a (0 : Int32) (1 : Int32) (-1 : Int32) y0 _ 0 [(.int y0), (.int y1), (.int y2), (.int y3)] h55 n0 gr nar Ov Av rfl rfl (by decide) rfl) rfl rfl own_pd3 rfl rfl (Nat.le_of_eq rfl) (by decide) (by decide) (by decide) (by decide) ?_
          rintro _ h56 ⟨rfl, Kn0, On0⟩
          show oGo Z _ _ _ _ _ _ n0 _ 2 7 h56 185 #[.val (.int p0), .val (.int p1), .val (.int p2), .val (.int p3), .val (.int p4), .val (.int y0), .val (.int y1), .val (.int y2), .val (.int y3), .val (.int (1 : Int32)), .val (.int (1 : Int32)), .val (.int (-1 : Int32)), .val (.int (y0 ^^^ (-1 : Int32)).toInt8.toInt32), .val (.int (y1 ^^^ (-1 : Int32)).toInt8.toInt32), .val (.int (y2 ^^^ (-1 : Int32)).toInt8.toInt32), .val (.int (y3 ^^^ (-1 : Int32)).toInt8.toInt32), .val (.int (Int32.ofNat 4)), .val (.int b), .val (.ref a), .val (.ref r), .unset, .unset] [(.int ((y0 ^^^ (-1 : Int32)).toInt8.toInt32))]
          have An0 := Ars.keep Av Kn0 (ninS nar nin0)
          refine oGo.pop (q := 186) at_185 rfl rfl ?_
          refine oGo.iload (q := 188) at_186 rfl rfl ?_
          refine oGo.iconst (q := 189) (v := (2 : Int32)) at_188 rfl rfl ?_
          refine oGo.icmp_lt (q := 198) (r := 192) at_189 (by decide) rfl (fun hc => absurd hc (by decide)) (fun hc => ?_)
          refine oGo.aload (q := 194) at_192 rfl rfl rfl ?_
          refine oGo.callV (W := 0) (rm := ({ frames := 0, cells := 0, slots := 0, locals := 0 } : Room)) (q := 197) (a := r) [] [] at_194 rfl (hw _ (List.mem_of_getElem? (i := 23) rfl)) (hw _ (List.mem_of_getElem? (i := 24) rfl)) (hw _ (List.mem_of_getElem? (i := 26) rfl)) (hw _ (List.mem_of_getElem? (i := 25) rfl)) (hw _ (List.mem_of_getElem? (i := 8) rfl)) (hw _ (List.mem_of_getElem? (i := 27) rfl)) rfl (by decide) (On0.1) (cx hw r a (1 : Int32) (2 : Int32) (-1 : Int32) y1 _ 1 [(.int y0), (.int y1), (.int y2), (.int y3)] h56 n0 gr nar On0 An0 rfl rfl (by decide) rfl) rfl rfl own_pd3 rfl rfl (Nat.le_of_eq rfl) (by decide) (by decide) (by decide) (by decide) ?_
          rintro _ h57 ⟨rfl, Kn1, On1⟩
          show oGo Z _ _ _ _ _ _ n0 _ 2 7 h57 197 #[.val (.int p0), .val (.int p1), .val (.int p2), .val (.int p3), .val (.int p4), .val (.int y0), .val (.int y1), .val (.int y2), .val (.int y3), .val (.int (1 : Int32)), .val (.int (1 : Int32)), .val (.int (-1 : Int32)), .val (.int (y0 ^^^ (-1 : Int32)).toInt8.toInt32), .val (.int (y1 ^^^ (-1 : Int32)).toInt8.toInt32), .val (.int (y2 ^^^ (-1 : Int32)).toInt8.toInt32), .val (.int (y3 ^^^ (-1 : Int32)).toInt8.toInt32), .val (.int (Int32.ofNat 4)), .val (.int b), .val (.ref a), .val (.ref r), .unset, .unset] [(.int ((y1 ^^^ (-1 : Int32)).toInt8.toInt32))]
          have An1 := Ars.keep An0 Kn1 (ninS nar nin0)
          refine oGo.pop (q := 198) at_197 rfl rfl ?_
          refine oGo.iload (q := 200) at_198 rfl rfl ?_
          refine oGo.iconst (q := 201) (v := (3 : Int32)) at_200 rfl rfl ?_
          refine oGo.icmp_lt (q := 210) (r := 204) at_201 (by decide) rfl (fun hc => absurd hc (by decide)) (fun hc => ?_)
          refine oGo.aload (q := 206) at_204 rfl rfl rfl ?_
          refine oGo.callV (W := 0) (rm := ({ frames := 0, cells := 0, slots := 0, locals := 0 } : Room)) (q := 209) (a := r) [] [] at_206 rfl (hw _ (List.mem_of_getElem? (i := 23) rfl)) (hw _ (List.mem_of_getElem? (i := 24) rfl)) (hw _ (List.mem_of_getElem? (i := 26) rfl)) (hw _ (List.mem_of_getElem? (i := 25) rfl)) (hw _ (List.mem_of_getElem? (i := 8) rfl)) (hw _ (List.mem_of_getElem? (i := 27) rfl)) rfl (by decide) (On1.1) (cx hw r a (2 : Int32) (3 : Int32) (-1 : Int32) y2 _ 2 [(.int y0), (.int y1), (.int y2), (.int y3)] h57 n0 gr nar On1 An1 rfl rfl (by decide) rfl) rfl rfl own_pd3 rfl rfl (Nat.le_of_eq rfl) (by decide) (by decide) (by decide) (by decide) ?_
          rintro _ h58 ⟨rfl, Kn2, On2⟩
          show oGo Z _ _ _ _ _ _ n0 _ 2 7 h58 209 #[.val (.int p0), .val (.int p1), .val (.int p2), .val (.int p3), .val (.int p4), .val (.int y0), .val (.int y1), .val (.int y2), .val (.int y3), .val (.int (1 : Int32)), .val (.int (1 : Int32)), .val (.int (-1 : Int32)), .val (.int (y0 ^^^ (-1 : Int32)).toInt8.toInt32), .val (.int (y1 ^^^ (-1 : Int32)).toInt8.toInt32), .val (.int (y2 ^^^ (-1 : Int32)).toInt8.toInt32), .val (.int (y3 ^^^ (-1 : Int32)).toInt8.toInt32), .val (.int (Int32.ofNat 4)), .val (.int b), .val (.ref a), .val (.ref r), .unset, .unset] [(.int ((y2 ^^^ (-1 : Int32)).toInt8.toInt32))]
          have An2 := Ars.keep An1 Kn2 (ninS nar nin0)
          refine oGo.pop (q := 210) at_209 rfl rfl ?_
          refine oGo.iload (q := 212) at_210 rfl rfl ?_
          refine oGo.iconst (q := 213) (v := (4 : Int32)) at_212 rfl rfl ?_
          refine oGo.icmp_lt (q := 222) (r := 216) at_213 (by decide) rfl (fun hc => absurd hc (by decide)) (fun hc => ?_)
          refine oGo.aload (q := 218) at_216 rfl rfl rfl ?_
          refine oGo.callV (W := 0) (rm := ({ frames := 0, cells := 0, slots := 0, locals := 0 } : Room)) (q := 221) (a := r) [] [] at_218 rfl (hw _ (List.mem_of_getElem? (i := 23) rfl)) (hw _ (List.mem_of_getElem? (i := 24) rfl)) (hw _ (List.mem_of_getElem? (i := 26) rfl)) (hw _ (List.mem_of_getElem? (i := 25) rfl)) (hw _ (List.mem_of_getElem? (i := 8) rfl)) (hw _ (List.mem_of_getElem? (i := 27) rfl)) rfl (by decide) (On2.1) (cx hw r a (3 : Int32) (4 : Int32) (-1 : Int32) y3 _ 3 [(.int y0), (.int y1), (.int y2), (.int y3)] h58 n0 gr nar On2 An2 rfl rfl (by decide) rfl) rfl rfl own_pd3 rfl rfl (Nat.le_of_eq rfl) (by decide) (by decide) (by decide) (by decide) ?_
          rintro _ h59 ⟨rfl, Kn3, On3⟩
          show oGo Z _ _ _ _ _ _ n0 _ 2 7 h59 221 #[.val (.int p0), .val (.int p1), .val (.int p2), .val (.int p3), .val (.int p4), .val (.int y0), .val (.int y1), .val (.int y2), .val (.int y3), .val (.int (1 : Int32)), .val (.int (1 : Int32)), .val (.int (-1 : Int32)), .val (.int (y0 ^^^ (-1 : Int32)).toInt8.toInt32), .val (.int (y1 ^^^ (-1 : Int32)).toInt8.toInt32), .val (.int (y2 ^^^ (-1 : Int32)).toInt8.toInt32), .val (.int (y3 ^^^ (-1 : Int32)).toInt8.toInt32), .val (.int (Int32.ofNat 4)), .val (.int b), .val (.ref a), .val (.ref r), .unset, .unset] [(.int ((y3 ^^^ (-1 : Int32)).toInt8.toInt32))]
          have An3 := Ars.keep An2 Kn3 (ninS nar nin0)
          refine oGo.pop (q := 222) at_221 rfl rfl ?_
          refine oGo.iload (q := 224) at_222 rfl rfl ?_
          refine oGo.if_eq (q := 237) (r := 227) at_224 (by decide) rfl (fun hc => absurd hc (by decide)) (fun hc => ?_)
          refine oGo.iload (q := 229) at_227 rfl rfl ?_
          refine oGo.if_ne (q := 237) (r := 232) at_229 (by decide) rfl (fun hc => ?_) (fun hc => absurd hc (by decide))
          exact J237 _ On3 An3
  have J51 : ∀ bi be : Int32, (bi = 0 ∨ bi = 1) → (be = 0 ∨ be = 1) → oGo Z x.cls x.name code maxLocals ret room_1 n0 (fun v _ => v = some (.int 1)) 0 0 h 51 #[.val (.int p0), .val (.int p1), .val (.int p2), .val (.int p3), .val (.int p4), .val (.int y0), .val (.int y1), .val (.int y2), .val (.int y3), .val (.int bi), .unset, .unset, .unset, .unset, .unset, .unset, .unset, .unset, .unset, .unset, .unset, .unset] [(.int be)] := by
    intro bi be hbi hbe
    refine oGo.istore (q := 53) (L' := #[.val (.int p0), .val (.int p1), .val (.int p2), .val (.int p3), .val (.int p4), .val (.int y0), .val (.int y1), .val (.int y2), .val (.int y3), .val (.int bi), .val (.int be), .unset, .unset, .unset, .unset, .unset, .unset, .unset, .unset, .unset, .unset, .unset]) at_51 rfl rfl ?_
    refine oGo.iload (q := 55) at_53 rfl rfl ?_
    refine oGo.if_eq (q := 62) (r := 58) at_55 (by decide) rfl (fun hc => ?_) (fun hc => ?_)
    · skip
      refine oGo.iconst (q := 63) (v := (0 : Int32)) at_62 rfl rfl ?_
      exact J63 _ _ _ (Or.inl ⟨hc, rfl⟩) hbe
    · skip
      refine oGo.iconst (q := 59) (v := (-1 : Int32)) at_58 rfl (by decide) ?_
      refine oGo.goto (q := 63) at_59 (by decide) ?_
      exact J63 _ _ _ (Or.inr ⟨hbi.resolve_left hc, rfl⟩) hbe
  have J37 : ∀ bi : Int32, (bi = 0 ∨ bi = 1) → oGo Z x.cls x.name code maxLocals ret room_1 n0 (fun v _ => v = some (.int 1)) 0 0 h 37 #[.val (.int p0), .val (.int p1), .val (.int p2), .val (.int p3), .val (.int p4), .val (.int y0), .val (.int y1), .val (.int y2), .val (.int y3), .unset, .unset, .unset, .unset, .unset, .unset, .unset, .unset, .unset, .unset, .unset, .unset, .unset] [(.int bi)] := by
    intro bi hbi
    refine oGo.istore (q := 39) (L' := #[.val (.int p0), .val (.int p1), .val (.int p2), .val (.int p3), .val (.int p4), .val (.int y0), .val (.int y1), .val (.int y2), .val (.int y3), .val (.int bi), .unset, .unset, .unset, .unset, .unset, .unset, .unset, .unset, .unset, .unset, .unset, .unset]) at_37 rfl rfl ?_
    refine oGo.iload (q := 41) at_39 rfl rfl ?_
    refine oGo.iconst (q := 42) (v := (2 : Int32)) at_41 rfl rfl ?_
    refine oGo.iand (q := 43) at_42 rfl ?_
    refine oGo.if_eq (q := 50) (r := 46) at_43 (by decide) rfl (fun hc => ?_) (fun hc => ?_)
    · skip
      refine oGo.iconst (q := 51) (v := (0 : Int32)) at_50 rfl rfl ?_
      exact J51 _ _ hbi (Or.inl rfl)
    · skip
      refine oGo.iconst (q := 47) (v := (1 : Int32)) at_46 rfl rfl ?_
      refine oGo.goto (q := 51) at_47 (by decide) ?_
      exact J51 _ _ hbi (Or.inr rfl)
  refine oGo.if_eq (q := 36) (r := 32) at_29 (by decide) rfl (fun hc => ?_) (fun hc => ?_)
  · skip
    refine oGo.iconst (q := 37) (v := (0 : Int32)) at_36 rfl rfl ?_
    exact J37 _ (Or.inl rfl)
  · skip
    refine oGo.iconst (q := 33) (v := (1 : Int32)) at_32 rfl rfl ?_
    refine oGo.goto (q := 37) at_33 (by decide) ?_
    exact J37 _ (Or.inr rfl)
set_option maxRecDepth 65536 in
set_option maxHeartbeats 40000000 in
theorem comes_1 {Post : Tables → Env → Array Value → State → Outcome → State → Prop} (hpost : ∀ tb e args s v u, (limb_1_1.after args s (.returned v) u = true ∧ limb_1_2.after args s (.returned v) u = true ∧ True) → FrameEnd s (.returned v) u (Jvm.fieldLocs frame_1_writes args s ++ Jvm.arrayLocs frame_1_arrays args s ++ Jvm.staticLocs frame_1_statics s) 16 128 → Post tb e args s (.returned v) u) :
    ArmFor flags0 classFile x code maxLocals ret World_1 tables_1 room_1 Calls_1 rest_1 Pre_1 Post := by
  intro l hfl _ _ p e ha hc hk s m args below hf hA hF happ hP
  obtain ⟨hcalls, hrest, hpre⟩ := hP
  obtain ⟨-, -, -, hnamed, -, -, -, hat⟩ := (Spec.applies_iff hf).mp happ
  obtain ⟨hg, hn⟩ := and_e (Cond.before_iff.mp (show (Jvm.Cond.and given_1 narrow_1).before args s = true from hpre))
  obtain ⟨h1, g0⟩ := and_e hg
  obtain ⟨b0, g1⟩ := and_e g0
  obtain ⟨b1, g2⟩ := and_e g1
  obtain ⟨b2, g3⟩ := and_e g2
  obtain ⟨b3, g4⟩ := and_e g3
  have b4 := g4
  obtain ⟨w0, w1, w2, w3, w4, rfl⟩ : ∃ w0 w1 w2 w3 w4 : Value, args = #[w0, w1, w2, w3, w4] := by
    have hs : args.size = 5 := by simpa [Cond.value, given_1] using h1
    obtain ⟨L⟩ := args
    match L, hs with
    | [w0, w1, w2, w3, w4], _ => exact ⟨w0, w1, w2, w3, w4, rfl⟩
  have hw := fun d (hd : d ∈ tables_1) => atoms_spec (ws := Jvm.Cond.code x code maxLocals ret :: tables_1) hat d (List.mem_cons_of_mem _ hd)
  have hfit : Fit s := fun {y c} hc i hi => by
    obtain ⟨ha, rfl⟩ := Array.getElem?_eq_some_iff.mp hc
    have q := List.all_eq_true.mp ((Array.all_eq_true_iff_forall_mem.mp hF) _ (Array.getElem_mem ha)) i (List.mem_range.mpr hi)
    simpa [Array.getElem?_eq_getElem hi] using q
  obtain ⟨i0, e0⟩ := is_v b0
  obtain rfl : w0 = (.int i0) := Option.some.inj e0
  obtain ⟨i1, e1⟩ := is_v b1
  obtain rfl : w1 = (.int i1) := Option.some.inj e1
  obtain ⟨i2, e2⟩ := is_v b2
  obtain rfl : w2 = (.int i2) := Option.some.inj e2
  obtain ⟨i3, e3⟩ := is_v b3
  obtain rfl : w3 = (.int i3) := Option.some.inj e3
  obtain ⟨i4, e4⟩ := is_v b4
  obtain rfl : w4 = (.int i4) := Option.some.inj e4
  obtain ⟨n, o, q1, q2, q3, _, L, rfl, ⟨rfl, N⟩, hq⟩ := (law hw i0 i1 i2 i3 i4 s.heap s.heap.size (Nat.le_refl _)) l tables_1 p e ha hc hk s m _ below hf ((Spec.applies_iff_loose hf).mp happ).1 ⟨rfl, State.Warmed39.refl s, rfl⟩ trivial
  refine ⟨n, _, q1, q2, q3, hpost _ _ _ _ _ _ ⟨Cond.after_iff.mpr rfl, Cond.after_iff.mpr (eq_i res_at (Term.int_eval (1)) rfl), trivial⟩ ⟨hq.1, hq.2.1, (hq.2.2.sift fun y hy => Or.inr (N y hy)).mono (by decide) (by decide)⟩⟩
theorem main_1_1 : Claimed_1_1 := comes_1 fun _ _ _ _ _ _ h hF => ⟨h.1, hF⟩
theorem main_1_2 : Claimed_1_2 := comes_1 fun _ _ _ _ _ _ h hF => ⟨h.2.1, hF⟩
end Jvm.Pilot.@@N@@
namespace Jvm.Pilot.@@N@@
open Jvm Jvm.ClassFile Sem Op Lib Jvm.Free Jvm.Stand Jvm.Pilot.@@N@@.Jvm.D
/-! MADE BY PROGRAM (witnessworld.py) out of the Statement's table words and the real class files: 10 classes; the members and pool entries that the words name. The judged class is class 1, her method 2. -/
namespace start1
open Jvm.ClassFile
def u (s : String) : CpInfo := .utf8 (stringToUtf16 s)
/-- a pool by its gaps: so many unusable entries, then the entry; so many at the end -/
def gap : Nat → List CpInfo → List CpInfo
  | 0, r => r
  | n + 1, r => .unusable :: gap n r
def poolList (es : List (Nat × CpInfo)) (last : Nat) : List CpInfo := es.foldr (fun e r => gap e.1 (e.2 :: r)) (gap last [])
def pool (es : List (Nat × CpInfo)) (last : Nat) : Array CpInfo := ⟨poolList es last⟩
def fileOf (pool : Array CpInfo) (this : Nat) (attrs : Array Attribute := #[]) (ms : Array MethodInfo := #[]) (fl : Nat := 33) (sup : Nat := 0) (ifs : Array Nat := #[]) (fds : Array FieldInfo := #[]) : ClassFile where
  minorVersion := 0
  majorVersion := 65
  constantPool := pool
  accessFlags := fl
  thisClass := this
  superClass := sup
  interfaces := ifs
  fields := fds
  methods := ms
  attributes := attrs
def plain (name : String) (sup : Option ClassId) : Class where
  name := name
  kind := .ordinary
  loader := none
  accessFlags := 33
  super := sup
  interfaces := #[]
  cf := none
  fields := #[]
  methods := #[]
  instanceTypes := #[]
  staticTypes := #[]
  resolved := #[]
  callSites := []
  init := .initialized
  statics := none
  mirror := none

def pool0 : Array CpInfo := pool [(5, u "<init>"), (0, u "()V"), (1, .class_ 10), (1, u "java/lang/Object")] 113

def k0c0 : Code := { maxStack := 0, maxLocals := 1, code := object_method_1_code, exceptionTable := #[], attributes := #[] }
def k0m0 : Method := { name := "<init>", desc := "()V", sig := { parameters := [], returnType := none }, accessFlags := 1, code := some k0c0 }
/-- java/lang/Object -/
def k0 : Class := { plain "java/lang/Object" none with
  accessFlags := 33
  interfaces := #[]
  cf := some (fileOf pool0 8 #[] #[{ accessFlags := 1, nameIndex := 5, descriptorIndex := 6, attributes := #[] }] 33 0 #[] #[])
  fields := #[]
  methods := #[k0m0]
  instanceTypes := #[]
  staticTypes := #[]
  resolved := Array.replicate 124 none
  statics := none }

def pool1 : Array CpInfo := pool [(2, .class_ 4), (1, u "java/lang/Object"), (0, u "<init>"), (0, u "()V"), (0, .integer 2147483647), (0, .methodref 9 10), (0, .class_ 11), (0, .nameAndType 12 13), (0, u "com/example/lexorder/lexorder/ByteReaderIndexOfPinLaw"), (0, u "pick"), (0, u "(IBBBBI)B"), (0, .class_ 15), (0, u "com/example/lexorder/lexorder/ByteReader"), (0, .methodref 14 17), (0, .nameAndType 5 18), (0, u "([B)V"), (0, .methodref 14 20), (0, .nameAndType 21 6), (0, u "invert"), (0, .methodref 14 23), (0, .nameAndType 24 25), (0, u "next"), (0, u "()B"), (0, .methodref 14 27), (0, .nameAndType 28 29), (0, u "indexOf"), (0, u "(B)I"), (0, .methodref 14 31), (0, .nameAndType 32 33), (0, u "position"), (0, u "()I"), (3, u "law"), (0, u "(IIIII)Z")] 4

def k1m0 : Method := { name := "<init>", desc := "()V", sig := { parameters := [], returnType := none }, accessFlags := 1, code := none }
def k1c1 : Code := { maxStack := 2, maxLocals := 6, code := method_2_code, exceptionTable := #[], attributes := #[] }
def k1m1 : Method := { name := "pick", desc := "(IBBBBI)B", sig := { parameters := [.int, .byte, .byte, .byte, .byte, .int], returnType := some .byte }, accessFlags := 10, code := some k1c1 }
def k1c2 : Code := { maxStack := 6, maxLocals := 22, code := code, exceptionTable := #[], attributes := #[] }
def k1m2 : Method := { name := "law", desc := "(IIIII)Z", sig := { parameters := [.int, .int, .int, .int, .int], returnType := some .boolean }, accessFlags := 9, code := some k1c2 }
/-- com/example/lexorder/lexorder/ByteReaderIndexOfPinLaw -/
def k1 : Class := { plain "com/example/lexorder/lexorder/ByteReaderIndexOfPinLaw" (some 0) with
  accessFlags := 49
  interfaces := #[]
  cf := some (fileOf pool1 9 #[] #[{ accessFlags := 1, nameIndex := 5, descriptorIndex := 6, attributes := #[] }, { accessFlags := 10, nameIndex := 12, descriptorIndex := 13, attributes := #[] }, { accessFlags := 9, nameIndex := 37, descriptorIndex := 38, attributes := #[] }] 49 2 #[] #[])
  fields := #[]
  methods := #[k1m0, k1m1, k1m2]
  instanceTypes := #[]
  staticTypes := #[]
  resolved := Array.replicate 43 none
  statics := none }

def pool2 : Array CpInfo := pool [(1, .methodref 2 3), (0, .class_ 4), (0, .nameAndType 5 6), (0, u "java/lang/Object"), (0, u "<init>"), (0, u "()V"), (0, .methodref 8 9), (0, .class_ 10), (0, .nameAndType 11 12), (0, u "java/util/Objects"), (0, u "requireNonNull"), (0, u "(Ljava/lang/Object;)Ljava/lang/Object;"), (0, .class_ 14), (0, u "[B"), (0, .fieldref 16 17), (0, .class_ 18), (0, .nameAndType 19 14), (0, u "com/example/lexorder/lexorder/ByteReader"), (0, u "bytes"), (0, .fieldref 16 21), (0, .nameAndType 22 23), (0, u "position"), (0, u "I"), (4, .fieldref 16 29), (0, .nameAndType 30 31), (0, u "mask"), (0, u "B"), (16, u "next"), (0, u "()B"), (1, .class_ 53), (1, u "com/example/lexorder/lexorder/ByteReader$RangeDecoder"), (44, u "()I"), (12, u "([B)V"), (7, u "indexOf"), (0, u "(B)I"), (8, u "invert")] 27

def k2c0 : Code := { maxStack := 2, maxLocals := 2, code := prog_2_method_1_code, exceptionTable := #[], attributes := #[] }
def k2m0 : Method := { name := "<init>", desc := "([B)V", sig := { parameters := [(.array .byte)], returnType := none }, accessFlags := 0, code := some k2c0 }
def k2c1 : Code := { maxStack := 1, maxLocals := 1, code := prog_2_method_2_code, exceptionTable := #[], attributes := #[] }
def k2m1 : Method := { name := "position", desc := "()I", sig := { parameters := [], returnType := some .int }, accessFlags := 0, code := some k2c1 }
def k2c2 : Code := { maxStack := 5, maxLocals := 1, code := prog_2_method_7_code, exceptionTable := #[], attributes := #[] }
def k2m2 : Method := { name := "next", desc := "()B", sig := { parameters := [], returnType := some .byte }, accessFlags := 0, code := some k2c2 }
def k2c3 : Code := { maxStack := 2, maxLocals := 4, code := prog_2_method_9_code, exceptionTable := #[], attributes := #[] }
def k2m3 : Method := { name := "indexOf", desc := "(B)I", sig := { parameters := [.byte], returnType := some .int }, accessFlags := 0, code := some k2c3 }
def k2c4 : Code := { maxStack := 3, maxLocals := 1, code := prog_2_method_15_code, exceptionTable := #[], attributes := #[] }
def k2m4 : Method := { name := "invert", desc := "()V", sig := { parameters := [], returnType := none }, accessFlags := 0, code := some k2c4 }
/-- com/example/lexorder/lexorder/ByteReader -/
def k2 : Class := { plain "com/example/lexorder/lexorder/ByteReader" (some 0) with
  accessFlags := 48
  interfaces := #[]
  cf := some (fileOf pool2 16 #[.nestMembers #[51]] #[{ accessFlags := 0, nameIndex := 5, descriptorIndex := 111, attributes := #[] }, { accessFlags := 0, nameIndex := 22, descriptorIndex := 98, attributes := #[] }, { accessFlags := 0, nameIndex := 48, descriptorIndex := 49, attributes := #[] }, { accessFlags := 0, nameIndex := 119, descriptorIndex := 120, attributes := #[] }, { accessFlags := 0, nameIndex := 129, descriptorIndex := 6, attributes := #[] }] 48 2 #[] #[{ accessFlags := 18, nameIndex := 19, descriptorIndex := 14, attributes := #[] }, { accessFlags := 2, nameIndex := 22, descriptorIndex := 23, attributes := #[] }, { accessFlags := 2, nameIndex := 30, descriptorIndex := 31, attributes := #[] }])
  fields := #[{ name := "bytes", type := (.array .byte), accessFlags := 18, slot := 0, constantValue := 0 }, { name := "position", type := .int, accessFlags := 2, slot := 1, constantValue := 0 }, { name := "mask", type := .byte, accessFlags := 2, slot := 2, constantValue := 0 }]
  methods := #[k2m0, k2m1, k2m2, k2m3, k2m4]
  instanceTypes := #[(.array .byte), .int, .byte]
  staticTypes := #[]
  resolved := Array.replicate 157 none
  statics := none }

def pool3 : Array CpInfo := pool [(2, .class_ 4), (1, u "java/lang/Object"), (0, u "<init>"), (0, u "()V"), (35, .class_ 44), (1, u "java/util/Objects"), (0, u "requireNonNull"), (0, u "(Ljava/lang/Object;)Ljava/lang/Object;")] 137

def k3m0 : Method := { name := "<init>", desc := "()V", sig := { parameters := [], returnType := none }, accessFlags := 2, code := none }
def k3c1 : Code := { maxStack := 2, maxLocals := 1, code := jdk_31_method_10_code, exceptionTable := #[], attributes := #[] }
def k3m1 : Method := { name := "requireNonNull", desc := "(Ljava/lang/Object;)Ljava/lang/Object;", sig := { parameters := [(.object "java/lang/Object")], returnType := some (.object "java/lang/Object") }, accessFlags := 9, code := some k3c1 }
/-- java/util/Objects -/
def k3 : Class := { plain "java/util/Objects" (some 0) with
  accessFlags := 49
  interfaces := #[]
  cf := some (fileOf pool3 42 #[] #[{ accessFlags := 2, nameIndex := 5, descriptorIndex := 6, attributes := #[] }, { accessFlags := 9, nameIndex := 45, descriptorIndex := 46, attributes := #[] }] 49 2 #[] #[])
  fields := #[]
  methods := #[k3m0, k3m1]
  instanceTypes := #[]
  staticTypes := #[]
  resolved := Array.replicate 184 none
  statics := none }

def pool4 : Array CpInfo := pool [(1, u "java/lang/Cloneable"), (0, .class_ 1), (0, u "java/lang/Object"), (0, .class_ 3)] 3

/-- java/lang/Cloneable -/
def k4 : Class := { plain "java/lang/Cloneable" (some 0) with
  accessFlags := 1537
  interfaces := #[]
  cf := some (fileOf pool4 2 #[] #[] 1537 4 #[] #[])
  fields := #[]
  methods := #[]
  instanceTypes := #[]
  staticTypes := #[]
  resolved := Array.replicate 8 none
  statics := none }

def pool5 : Array CpInfo := pool [(1, u "java/io/Serializable"), (0, .class_ 1), (0, u "java/lang/Object"), (0, .class_ 3)] 3

/-- java/io/Serializable -/
def k5 : Class := { plain "java/io/Serializable" (some 0) with
  accessFlags := 1537
  interfaces := #[]
  cf := some (fileOf pool5 2 #[] #[] 1537 4 #[] #[])
  fields := #[]
  methods := #[]
  instanceTypes := #[]
  staticTypes := #[]
  resolved := Array.replicate 8 none
  statics := none }

/-- the primitive byte -/
def k6 : Class := { plain "byte" none with kind := .primitive 'B', accessFlags := 0x411 }
/-- [B -/
def k7 : Class := { plain "[B" (some 0) with kind := .array 6 .byte, interfaces := #[4, 5], accessFlags := 1041 }

/-- the primitive int -/
def k8 : Class := { plain "int" none with kind := .primitive 'I', accessFlags := 0x411 }
/-- [I -/
def k9 : Class := { plain "[I" (some 0) with kind := .array 8 .int, interfaces := #[4, 5], accessFlags := 1041 }

def heap : Heap := #[]
def classes : Array Class := #[k0, k1, k2, k3, k4, k5, k6, k7, k8, k9]
def interned : List (Array UInt16 × Addr) := []
def slotsUsed : Nat := 0
def theMethod : MethodId := ⟨1, 2⟩
def args0 : Array Value := #[.int 5, .int 2, .int 5, .int 2, .int 2]
def aboutOver (below : List Frame) : State where
  vm := { classes := classes, interned := interned.toArray }
  heap := heap
  slotsUsed := slotsUsed
  threads := #[{ frames := .invoking theMethod args0 :: below }]
def below0 : List Frame := [.native { method := ⟨0, 0⟩, args := #[] }]
def about1 : State := aboutOver below0
def p0 : Program := .bare "" "" ""
def e0 : Env := launch0.env 0 0 0
theorem w_frames : about1.frames = Frame.invoking theMethod args0 :: below0 := rfl
set_option maxRecDepth 65536 in
theorem w_args : argsFit about1.vm theMethod args0 = true := by decide +kernel
set_option maxRecDepth 65536 in
theorem w_heap : heapFits about1 = true := by decide +kernel
set_option maxRecDepth 65536 in
theorem w_runnable : about1.curStatus? = some .runnable := by decide +kernel
set_option maxRecDepth 65536 in
theorem w_alone : about1.alone = true := by decide +kernel
set_option maxRecDepth 65536 in
theorem w_named : about1.methodNamed? x = some theMethod := by decide +kernel
set_option maxRecDepth 65536 in
theorem w_hears : about1.hears theMethod below0 = true := by decide +kernel
set_option maxRecDepth 65536 in
theorem w_ripe : about1.ripe theMethod args0 below0 = true := by decide +kernel
theorem w_running : about1.status = .running := rfl
set_option maxRecDepth 65536 in
theorem w_room : about1.hasRoom e0.platform room_1 = true :=
  launch0.hasRoom_least _ room_1 (by decide +kernel) (by decide +kernel) (by decide +kernel) (by decide +kernel) (by decide +kernel) (by decide +kernel)
theorem allAtoms_all (ts : List Jvm.Cond) (a : Array Jvm.Value) (st : Jvm.State) : (allAtoms ts).before a st = ts.all (fun c => c.before a st) := by
  induction ts with
  | nil => rfl
  | cons c t ih =>
    show (Jvm.Cond.and c (allAtoms t)).before a st = _
    rw [Jvm.Cond.before_and, ih, List.all_cons]
def words1 : List Jvm.Cond := Jvm.Cond.code x code maxLocals ret :: tables_1
/-- a 'code' word, met by the world's own term for the bytes: nothing is compared byte by byte -/
theorem code_word {y : MethodName} {bytes : ByteArray} {mx : Nat} {rt : Option FieldType} {a : Array Value} {s : State} {m : MethodId} {meth : Method} {c : Code} (h1 : s.methodNamed? y = some m) (h2 : s.vm.method? m = some meth) (h3 : meth.code = some c) (h4 : c.code = bytes)
    (h5 : (c.maxLocals == mx && c.exceptionTable.isEmpty && decide (c.maxStack ≤ mostOperands) && decide (meth.sig.returnType = rt) && !meth.locks && decide (parseMethodDescriptor y.desc = some meth.sig)) = true) : (Jvm.Cond.code y bytes mx rt).before a s = true := by
  simp only [Bool.and_eq_true, beq_iff_eq, Bool.not_eq_true', decide_eq_true_eq] at h5
  obtain ⟨⟨⟨⟨⟨g1, g2⟩, g3⟩, g4⟩, g5⟩, g6⟩ := h5
  simp [Cond.before, Cond.holds, Cond.value, h1, h2, h3, h4, g1, g2, g3, g4, g5, g6]
def isCode : Jvm.Cond → Bool
  | .code _ _ _ _ => true
  | _ => false
theorem all_split {L : List Jvm.Cond} {P : Jvm.Cond → Bool} (h1 : L.all (fun c => isCode c || P c) = true) (h2 : ∀ c ∈ L.filter isCode, P c = true) : L.all P = true := by
  refine List.all_eq_true.mpr fun c hc => ?_
  have h := List.all_eq_true.mp h1 c hc
  rcases Bool.eq_false_or_eq_true (isCode c) with hi | hi
  · exact h2 c (List.mem_filter.mpr ⟨hc, hi⟩)
  · simpa [hi] using h
set_option maxRecDepth 65536 in
theorem w_c0 : (Jvm.Cond.code x code maxLocals ret).before args0 about1 = true := code_word (m := ⟨1, 2⟩) (meth := k1m2) (c := k1c2) (by decide +kernel) rfl rfl rfl (by decide +kernel)
set_option maxRecDepth 65536 in
theorem w_c1 : (Jvm.Cond.code ({ cls := "com/example/lexorder/lexorder/ByteReaderIndexOfPinLaw", name := "pick", desc := "(IBBBBI)B" } : Jvm.MethodName) method_2_code (6 : Nat) (Option.some Jvm.ClassFile.FieldType.byte)).before args0 about1 = true := code_word (m := ⟨1, 1⟩) (meth := k1m1) (c := k1c1) (by decide +kernel) rfl rfl rfl (by decide +kernel)
set_option maxRecDepth 65536 in
theorem w_c2 : (Jvm.Cond.code ({ cls := "com/example/lexorder/lexorder/ByteReader", name := "<init>", desc := "([B)V" } : Jvm.MethodName) prog_2_method_1_code (2 : Nat) (Option.none : Option Jvm.ClassFile.FieldType)).before args0 about1 = true := code_word (m := ⟨2, 0⟩) (meth := k2m0) (c := k2c0) (by decide +kernel) rfl rfl rfl (by decide +kernel)
set_option maxRecDepth 65536 in
theorem w_c3 : (Jvm.Cond.code ({ cls := "java/lang/Object", name := "<init>", desc := "()V" } : Jvm.MethodName) object_method_1_code (1 : Nat) (Option.none : Option Jvm.ClassFile.FieldType)).before args0 about1 = true := code_word (m := ⟨0, 0⟩) (meth := k0m0) (c := k0c0) (by decide +kernel) rfl rfl rfl (by decide +kernel)
set_option maxRecDepth 65536 in
theorem w_c4 : (Jvm.Cond.code ({ cls := "java/util/Objects", name := "requireNonNull", desc := "(Ljava/lang/Object;)Ljava/lang/Object;" } : Jvm.MethodName) jdk_31_method_10_code (1 : Nat) (Option.some (Jvm.ClassFile.FieldType.object "java/lang/Object"))).before args0 about1 = true := code_word (m := ⟨3, 1⟩) (meth := k3m1) (c := k3c1) (by decide +kernel) rfl rfl rfl (by decide +kernel)
set_option maxRecDepth 65536 in
theorem w_c5 : (Jvm.Cond.code ({ cls := "com/example/lexorder/lexorder/ByteReader", name := "next", desc := "()B" } : Jvm.MethodName) prog_2_method_7_code (1 : Nat) (Option.some Jvm.ClassFile.FieldType.byte)).before args0 about1 = true := code_word (m := ⟨2, 2⟩) (meth := k2m2) (c := k2c2) (by decide +kernel) rfl rfl rfl (by decide +kernel)
set_option maxRecDepth 65536 in
theorem w_c6 : (Jvm.Cond.code ({ cls := "com/example/lexorder/lexorder/ByteReader", name := "indexOf", desc := "(B)I" } : Jvm.MethodName) prog_2_method_9_code (4 : Nat) (Option.some Jvm.ClassFile.FieldType.int)).before args0 about1 = true := code_word (m := ⟨2, 3⟩) (meth := k2m3) (c := k2c3) (by decide +kernel) rfl rfl rfl (by decide +kernel)
set_option maxRecDepth 65536 in
theorem w_c7 : (Jvm.Cond.code ({ cls := "com/example/lexorder/lexorder/ByteReader", name := "position", desc := "()I" } : Jvm.MethodName) prog_2_method_2_code (1 : Nat) (Option.some Jvm.ClassFile.FieldType.int)).before args0 about1 = true := code_word (m := ⟨2, 1⟩) (meth := k2m1) (c := k2c1) (by decide +kernel) rfl rfl rfl (by decide +kernel)
set_option maxRecDepth 65536 in
theorem w_c8 : (Jvm.Cond.code ({ cls := "com/example/lexorder/lexorder/ByteReader", name := "invert", desc := "()V" } : Jvm.MethodName) prog_2_method_15_code (1 : Nat) (Option.none : Option Jvm.ClassFile.FieldType)).before args0 about1 = true := code_word (m := ⟨2, 4⟩) (meth := k2m4) (c := k2c4) (by decide +kernel) rfl rfl rfl (by decide +kernel)
def codes1 : List Jvm.Cond := [Jvm.Cond.code x code maxLocals ret, Jvm.Cond.code ({ cls := "com/example/lexorder/lexorder/ByteReaderIndexOfPinLaw", name := "pick", desc := "(IBBBBI)B" } : Jvm.MethodName) method_2_code (6 : Nat) (Option.some Jvm.ClassFile.FieldType.byte), Jvm.Cond.code ({ cls := "com/example/lexorder/lexorder/ByteReader", name := "<init>", desc := "([B)V" } : Jvm.MethodName) prog_2_method_1_code (2 : Nat) (Option.none : Option Jvm.ClassFile.FieldType), Jvm.Cond.code ({ cls := "java/lang/Object", name := "<init>", desc := "()V" } : Jvm.MethodName) object_method_1_code (1 : Nat) (Option.none : Option Jvm.ClassFile.FieldType), Jvm.Cond.code ({ cls := "java/util/Objects", name := "requireNonNull", desc := "(Ljava/lang/Object;)Ljava/lang/Object;" } : Jvm.MethodName) jdk_31_method_10_code (1 : Nat) (Option.some (Jvm.ClassFile.FieldType.object "java/lang/Object")), Jvm.Cond.code ({ cls := "com/example/lexorder/lexorder/ByteReader", name := "next", desc := "()B" } : Jvm.MethodName) prog_2_method_7_code (1 : Nat) (Option.some Jvm.ClassFile.FieldType.byte), Jvm.Cond.code ({ cls := "com/example/lexorder/lexorder/ByteReader", name := "indexOf", desc := "(B)I" } : Jvm.MethodName) prog_2_method_9_code (4 : Nat) (Option.some Jvm.ClassFile.FieldType.int), Jvm.Cond.code ({ cls := "com/example/lexorder/lexorder/ByteReader", name := "position", desc := "()I" } : Jvm.MethodName) prog_2_method_2_code (1 : Nat) (Option.some Jvm.ClassFile.FieldType.int), Jvm.Cond.code ({ cls := "com/example/lexorder/lexorder/ByteReader", name := "invert", desc := "()V" } : Jvm.MethodName) prog_2_method_15_code (1 : Nat) (Option.none : Option Jvm.ClassFile.FieldType)]
set_option maxRecDepth 65536 in
theorem codes_eq : words1.filter isCode = codes1 := rfl
theorem w_codes : ∀ c ∈ words1.filter isCode, c.before args0 about1 = true := by
  rw [codes_eq]
  intro c hc
  simp only [codes1, List.mem_cons, List.not_mem_nil, or_false] at hc
  rcases hc with rfl | rfl | rfl | rfl | rfl | rfl | rfl | rfl | rfl
  · exact w_c0
  · exact w_c1
  · exact w_c2
  · exact w_c3
  · exact w_c4
  · exact w_c5
  · exact w_c6
  · exact w_c7
  · exact w_c8
set_option maxRecDepth 65536 in
theorem w_t1 : (words1.take 24).all (fun c => isCode c || c.before args0 about1) = true := by decide +kernel
set_option maxRecDepth 65536 in
theorem w_t2 : (words1.drop 24).all (fun c => isCode c || c.before args0 about1) = true := by decide +kernel
theorem w_tables : (allAtoms (Jvm.Cond.code x code maxLocals ret :: tables_1)).before args0 about1 = true := by
  rw [allAtoms_all]
  show words1.all (fun c => c.before args0 about1) = true
  refine all_split ?_ w_codes
  rw [← List.take_append_drop 24 words1, List.all_append, w_t1, w_t2]
  rfl
set_option maxRecDepth 65536 in
theorem w_case : (Jvm.Cond.and given_1 narrow_1).before args0 about1 = true := by decide +kernel
theorem w_applies : (headSpec (Jvm.Cond.code x code maxLocals ret :: tables_1) room_1).applies x e0.platform about1 = true :=
  (Spec.applies_iff w_frames).mpr ⟨w_running, w_runnable, w_alone, w_named, w_hears, w_ripe, w_room, w_tables⟩
theorem atStart : AtStart classFile x code maxLocals ret World_1 tables_1 room_1 Calls_1 rest_1 Pre_1 launch0 p0 e0 about1 theMethod args0 below0 :=
  ⟨lists_1, trivial, launch0.admits_env _ _ _, launch0.least_env, fairChoices_fair.cas, fairChoices_fair.clock, w_frames, w_args, w_heap, w_applies, trivial, trivial, w_case⟩
end start1
theorem witness_1 : WitnessClaimed_1 := ⟨start1.p0, start1.e0, start1.about1, start1.theMethod, start1.args0, start1.below0, start1.atStart⟩
end Jvm.Pilot.@@N@@
