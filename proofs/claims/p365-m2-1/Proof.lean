import JvmDerived
import JvmDerived.Pilot.@@N@@Statement
import JvmDerived.Pilot.@@N@@Code
set_option linter.unusedVariables false
set_option linter.unusedSimpArgs false
namespace Jvm.Pilot.@@N@@
open Jvm Jvm.ClassFile Sem Op Lib Jvm.Free Jvm.Stand Jvm.LawKit Jvm.RoadKit Bundle Jvm.Pilot.@@N@@.Jvm.D
section Own
variable {Z : State} {own nm : String} {bytes : ByteArray} {ml : Nat} {ret : Option FieldType} {R : Room} {n0 : Nat} {Q : Option Value → Heap → Prop} {k n : Nat} {h : Heap} {pc q r : Nat} {L L' : Array Slot} {S S' : List Value} {a0 : Array Value}
/-- what a body's own record says of it -/
def oCtx (p : Program) (s : State) (m : MethodId) (meth : Method) (c : Code) (Z : State) (own nm : String) (bytes : ByteArray) (ml : Nat) (ret : Option FieldType) : Prop :=
  p.tables.exec = Jvm.exec ∧ Z.Warmed39 s.vm ∧ c.code = bytes ∧ c.maxLocals = ml ∧ s.vm.findClass own = some m.cls ∧ meth.sig.returnType = ret ∧ meth.locks = false ∧ meth.name = nm
/-- from here on the body comes to its end, and there Q holds; nothing old is written -/
def oGo (Z : State) (own nm : String) (bytes : ByteArray) (ml : Nat) (ret : Option FieldType) (R : Room) (n0 : Nat) (Q : Option Value → Heap → Prop) (k n : Nat) (h : Heap) (pc : Nat) (L : Array Slot) (S : List Value) : Prop :=
  ∀ (p : Program) (l : Launch) (e : Env) (s : State) (m : MethodId) (args : Array Value) (below : List Frame) (meth : Method) (c : Code) (T : State) (locs : List Loc),
    oCtx p s m meth c Z own nm bytes ml ret → Stand p l e R s m args below meth c T locs k n → T.heap = h → Fr n0 locs →
    ∃ s₂ o, Steps p.tables e below (T.setTop (mkF m pc L S)) s₂ ∧ s₂.status = .running ∧ Ended s₂ below o ∧ ∃ v L', o = .returned v ∧ (Q v s₂.heap ∧ Fr n0 L') ∧ FrameEnd s o s₂ L' R.cells R.slots
/-- a body's contract -/
def oCon (Z : State) (y : MethodName) (bytes : ByteArray) (ml : Nat) (ret : Option FieldType) (rm : Room) (as : Array Value) (h : Heap) (n0 : Nat) (Q : Option Value → Heap → Prop) : Prop :=
  ∀ (l : Launch) (ws : List Jvm.Cond), MetFree l y (head1 (Jvm.Cond.code y bytes ml ret :: ws) rm) (fun a U => a = as ∧ Z.Warmed39 U.vm ∧ U.heap = h) (fun _ _ _ _ _ => True) (fun _ U o U' => ∃ v L, o = .returned v ∧ (Q v U'.heap ∧ Fr n0 L) ∧ FrameEnd U o U' L rm.cells rm.slots)
theorem oCon.of {y : MethodName} {rm : Room} {as : Array Value} {L0 : Array Slot} (hp : plainFor y = true) (he : ∀ m, entryFrame m as ml = mkF m 0 L0 []) (K : oGo Z y.cls y.name bytes ml ret rm n0 Q 0 0 h 0 L0 []) : oCon Z y bytes ml ret rm as h n0 Q := by
  intro l ws
  refine MetFree.of_bodySF hp hisR ?_
  intro p e s m args below meth c s₁ Bd hml0 hP hK
  obtain ⟨rfl, hZ, hh⟩ := hP
  have e0 : s₁.heap = h := by rw [← hh, Bd.state]; rfl
  obtain ⟨s₂, o, h1, h2, h3, h4⟩ := K p l e s m args below meth c s₁ [] ⟨Bd.exec, hZ, Bd.bytes, hml0, findClass_of_methodNamed Bd.named, Bd.returns, Bd.notSynchronized, (name_of_methodNamed Bd.named Bd.method).1⟩ (Stand.of_body Bd) e0 (Fr.nil n0)
  exact ⟨s₂, o, castTop (he m) h1, h2, h3, h4⟩
theorem oGo.more {k' n' : Nat} (hk : k ≤ k') (hn : n ≤ n') (K : oGo Z own nm bytes ml ret R n0 Q k' n' h pc L S) : oGo Z own nm bytes ml ret R n0 Q k n h pc L S :=
  fun p l e s m args below meth c T locs C X eT N => K p l e s m args below meth c T locs C (X.more hk hn) eT N
theorem oGo.st (H : ∀ (p : Program) (e : Env) (m : MethodId) (below : List Frame) (c : Code) (T : State), p.tables.exec = Jvm.exec → c.code = bytes → At T m c below → ∀ t, Steps p.tables e below (T.setTop (mkF m q L' S')) t → Steps p.tables e below (T.setTop (mkF m pc L S)) t) (K : oGo Z own nm bytes ml ret R n0 Q k n h q L' S') : oGo Z own nm bytes ml ret R n0 Q k n h pc L S :=
  fun p l e s m args below meth c T locs C X eT N => by
    obtain ⟨s₂, o, h1, r⟩ := K p l e s m args below meth c T locs C X eT N
    exact ⟨s₂, o, H p e m below c T C.1 C.2.2.1 X.here s₂ h1, r⟩
theorem oGo.iadd {x y : Int32} (hd : decode bytes pc = .ok (.iadd, 1)) (hq : pc + 1 = q) (K : oGo Z own nm bytes ml ret R n0 Q k n h q L (.int (x + y) :: S)) : oGo Z own nm bytes ml ret R n0 Q k n h pc L (.int y :: .int x :: S) := by
  subst hq; exact oGo.st (fun p e m below c T hx hby hA t k => XS.iadd hA hx rfl (hb hby hd) rfl k) K
theorem oGo.isub {x y : Int32} (hd : decode bytes pc = .ok (.isub, 1)) (hq : pc + 1 = q) (K : oGo Z own nm bytes ml ret R n0 Q k n h q L (.int (x - y) :: S)) : oGo Z own nm bytes ml ret R n0 Q k n h pc L (.int y :: .int x :: S) := by
  subst hq; exact oGo.st (fun p e m below c T hx hby hA t k => XS.isub hA hx rfl (hb hby hd) rfl k) K
theorem oGo.imul {x y : Int32} (hd : decode bytes pc = .ok (.imul, 1)) (hq : pc + 1 = q) (K : oGo Z own nm bytes ml ret R n0 Q k n h q L (.int (x * y) :: S)) : oGo Z own nm bytes ml ret R n0 Q k n h pc L (.int y :: .int x :: S) := by
  subst hq; exact oGo.st (fun p e m below c T hx hby hA t k => XS.imul hA hx rfl (hb hby hd) rfl k) K
theorem oGo.iand {x y : Int32} (hd : decode bytes pc = .ok (.iand, 1)) (hq : pc + 1 = q) (K : oGo Z own nm bytes ml ret R n0 Q k n h q L (.int (x &&& y) :: S)) : oGo Z own nm bytes ml ret R n0 Q k n h pc L (.int y :: .int x :: S) := by
  subst hq; exact oGo.st (fun p e m below c T hx hby hA t k => XS.iand hA hx rfl (hb hby hd) rfl k) K
theorem oGo.ior {x y : Int32} (hd : decode bytes pc = .ok (.ior, 1)) (hq : pc + 1 = q) (K : oGo Z own nm bytes ml ret R n0 Q k n h q L (.int (x ||| y) :: S)) : oGo Z own nm bytes ml ret R n0 Q k n h pc L (.int y :: .int x :: S) := by
  subst hq; exact oGo.st (fun p e m below c T hx hby hA t k => XS.ior hA hx rfl (hb hby hd) rfl k) K
theorem oGo.ixor {x y : Int32} (hd : decode bytes pc = .ok (.ixor, 1)) (hq : pc + 1 = q) (K : oGo Z own nm bytes ml ret R n0 Q k n h q L (.int (x ^^^ y) :: S)) : oGo Z own nm bytes ml ret R n0 Q k n h pc L (.int y :: .int x :: S) := by
  subst hq; exact oGo.st (fun p e m below c T hx hby hA t k => XS.ixor hA hx rfl (hb hby hd) rfl k) K
theorem oGo.ishl {x y : Int32} (hd : decode bytes pc = .ok (.ishl, 1)) (hq : pc + 1 = q) (K : oGo Z own nm bytes ml ret R n0 Q k n h q L (.int (x <<< (y &&& 31)) :: S)) : oGo Z own nm bytes ml ret R n0 Q k n h pc L (.int y :: .int x :: S) := by
  subst hq; exact oGo.st (fun p e m below c T hx hby hA t k => XS.ishl hA hx rfl (hb hby hd) rfl k) K
theorem oGo.ishr {x y : Int32} (hd : decode bytes pc = .ok (.ishr, 1)) (hq : pc + 1 = q) (K : oGo Z own nm bytes ml ret R n0 Q k n h q L (.int (x >>> (y &&& 31)) :: S)) : oGo Z own nm bytes ml ret R n0 Q k n h pc L (.int y :: .int x :: S) := by
  subst hq; exact oGo.st (fun p e m below c T hx hby hA t k => XS.ishr hA hx rfl (hb hby hd) rfl k) K
theorem oGo.iushr {x y : Int32} (hd : decode bytes pc = .ok (.iushr, 1)) (hq : pc + 1 = q) (K : oGo Z own nm bytes ml ret R n0 Q k n h q L (.int ((x.toUInt32 >>> (y &&& 31).toUInt32).toInt32) :: S)) : oGo Z own nm bytes ml ret R n0 Q k n h pc L (.int y :: .int x :: S) := by
  subst hq; exact oGo.st (fun p e m below c T hx hby hA t k => XS.iushr hA hx rfl (hb hby hd) rfl k) K
theorem oGo.ladd {x y : Int64} (hd : decode bytes pc = .ok (.ladd, 1)) (hq : pc + 1 = q) (K : oGo Z own nm bytes ml ret R n0 Q k n h q L (.long (x + y) :: S)) : oGo Z own nm bytes ml ret R n0 Q k n h pc L (.long y :: .long x :: S) := by
  subst hq; exact oGo.st (fun p e m below c T hx hby hA t k => XS.ladd hA hx rfl (hb hby hd) rfl k) K
theorem oGo.lsub {x y : Int64} (hd : decode bytes pc = .ok (.lsub, 1)) (hq : pc + 1 = q) (K : oGo Z own nm bytes ml ret R n0 Q k n h q L (.long (x - y) :: S)) : oGo Z own nm bytes ml ret R n0 Q k n h pc L (.long y :: .long x :: S) := by
  subst hq; exact oGo.st (fun p e m below c T hx hby hA t k => XS.lsub hA hx rfl (hb hby hd) rfl k) K
theorem oGo.lmul {x y : Int64} (hd : decode bytes pc = .ok (.lmul, 1)) (hq : pc + 1 = q) (K : oGo Z own nm bytes ml ret R n0 Q k n h q L (.long (x * y) :: S)) : oGo Z own nm bytes ml ret R n0 Q k n h pc L (.long y :: .long x :: S) := by
  subst hq; exact oGo.st (fun p e m below c T hx hby hA t k => XS.lmul hA hx rfl (hb hby hd) rfl k) K
theorem oGo.land {x y : Int64} (hd : decode bytes pc = .ok (.land, 1)) (hq : pc + 1 = q) (K : oGo Z own nm bytes ml ret R n0 Q k n h q L (.long (x &&& y) :: S)) : oGo Z own nm bytes ml ret R n0 Q k n h pc L (.long y :: .long x :: S) := by
  subst hq; exact oGo.st (fun p e m below c T hx hby hA t k => XS.land hA hx rfl (hb hby hd) rfl k) K
theorem oGo.lor {x y : Int64} (hd : decode bytes pc = .ok (.lor, 1)) (hq : pc + 1 = q) (K : oGo Z own nm bytes ml ret R n0 Q k n h q L (.long (x ||| y) :: S)) : oGo Z own nm bytes ml ret R n0 Q k n h pc L (.long y :: .long x :: S) := by
  subst hq; exact oGo.st (fun p e m below c T hx hby hA t k => XS.lor hA hx rfl (hb hby hd) rfl k) K
theorem oGo.lxor {x y : Int64} (hd : decode bytes pc = .ok (.lxor, 1)) (hq : pc + 1 = q) (K : oGo Z own nm bytes ml ret R n0 Q k n h q L (.long (x ^^^ y) :: S)) : oGo Z own nm bytes ml ret R n0 Q k n h pc L (.long y :: .long x :: S) := by
  subst hq; exact oGo.st (fun p e m below c T hx hby hA t k => XS.lxor hA hx rfl (hb hby hd) rfl k) K
theorem oGo.lshl {x : Int64} {y : Int32} (hd : decode bytes pc = .ok (.lshl, 1)) (hq : pc + 1 = q) (K : oGo Z own nm bytes ml ret R n0 Q k n h q L (.long (x <<< (y &&& 0x3f).toInt64) :: S)) : oGo Z own nm bytes ml ret R n0 Q k n h pc L (.int y :: .long x :: S) := by
  subst hq; exact oGo.st (fun p e m below c T hx hby hA t k => XS.lshl hA hx rfl (hb hby hd) rfl k) K
theorem oGo.lshr {x : Int64} {y : Int32} (hd : decode bytes pc = .ok (.lshr, 1)) (hq : pc + 1 = q) (K : oGo Z own nm bytes ml ret R n0 Q k n h q L (.long (x >>> (y &&& 0x3f).toInt64) :: S)) : oGo Z own nm bytes ml ret R n0 Q k n h pc L (.int y :: .long x :: S) := by
  subst hq; exact oGo.st (fun p e m below c T hx hby hA t k => XS.lshr hA hx rfl (hb hby hd) rfl k) K
theorem oGo.lushr {x : Int64} {y : Int32} (hd : decode bytes pc = .ok (.lushr, 1)) (hq : pc + 1 = q) (K : oGo Z own nm bytes ml ret R n0 Q k n h q L (.long ((x.toUInt64 >>> (y &&& 0x3f).toInt64.toUInt64).toInt64) :: S)) : oGo Z own nm bytes ml ret R n0 Q k n h pc L (.int y :: .long x :: S) := by
  subst hq; exact oGo.st (fun p e m below c T hx hby hA t k => XS.lushr hA hx rfl (hb hby hd) rfl k) K
theorem oGo.idiv {x y : Int32} (hd : decode bytes pc = .ok (.idiv, 1)) (hq : pc + 1 = q) (hy : y ≠ 0) (K : oGo Z own nm bytes ml ret R n0 Q k n h q L (.int (x / y) :: S)) : oGo Z own nm bytes ml ret R n0 Q k n h pc L (.int y :: .int x :: S) := by
  subst hq; exact oGo.st (fun p e m below c T hx hby hA t k => XS.idiv hA hx rfl (hb hby hd) rfl hy k) K
theorem oGo.ldiv {x y : Int64} (hd : decode bytes pc = .ok (.ldiv, 1)) (hq : pc + 1 = q) (hy : y ≠ 0) (K : oGo Z own nm bytes ml ret R n0 Q k n h q L (.long (x / y) :: S)) : oGo Z own nm bytes ml ret R n0 Q k n h pc L (.long y :: .long x :: S) := by
  subst hq; exact oGo.st (fun p e m below c T hx hby hA t k => XS.ldiv hA hx rfl (hb hby hd) rfl hy k) K
theorem oGo.irem {x y : Int32} (hd : decode bytes pc = .ok (.irem, 1)) (hq : pc + 1 = q) (hy : y ≠ 0) (K : oGo Z own nm bytes ml ret R n0 Q k n h q L (.int (x % y) :: S)) : oGo Z own nm bytes ml ret R n0 Q k n h pc L (.int y :: .int x :: S) := by
  subst hq; exact oGo.st (fun p e m below c T hx hby hA t k => XS.irem hA hx rfl (hb hby hd) rfl hy (by rw [irem_eq_mod]; exact k)) K
theorem oGo.lrem {x y : Int64} (hd : decode bytes pc = .ok (.lrem, 1)) (hq : pc + 1 = q) (hy : y ≠ 0) (K : oGo Z own nm bytes ml ret R n0 Q k n h q L (.long (x % y) :: S)) : oGo Z own nm bytes ml ret R n0 Q k n h pc L (.long y :: .long x :: S) := by
  subst hq; exact oGo.st (fun p e m below c T hx hby hA t k => XS.lrem hA hx rfl (hb hby hd) rfl hy (by rw [lrem_mod]; exact k)) K
theorem oGo.ineg {x : Int32} (hd : decode bytes pc = .ok (.ineg, 1)) (hq : pc + 1 = q) (K : oGo Z own nm bytes ml ret R n0 Q k n h q L (.int (-x) :: S)) : oGo Z own nm bytes ml ret R n0 Q k n h pc L (.int x :: S) := by
  subst hq; exact oGo.st (fun p e m below c T hx hby hA t k => XS.ineg hA hx rfl (hb hby hd) rfl k) K
theorem oGo.lneg {x : Int64} (hd : decode bytes pc = .ok (.lneg, 1)) (hq : pc + 1 = q) (K : oGo Z own nm bytes ml ret R n0 Q k n h q L (.long (-x) :: S)) : oGo Z own nm bytes ml ret R n0 Q k n h pc L (.long x :: S) := by
  subst hq; exact oGo.st (fun p e m below c T hx hby hA t k => XS.lneg hA hx rfl (hb hby hd) rfl k) K
theorem oGo.i2b {x : Int32} (hd : decode bytes pc = .ok (.i2b, 1)) (hq : pc + 1 = q) (K : oGo Z own nm bytes ml ret R n0 Q k n h q L (.int (x.toInt8.toInt32) :: S)) : oGo Z own nm bytes ml ret R n0 Q k n h pc L (.int x :: S) := by
  subst hq; exact oGo.st (fun p e m below c T hx hby hA t k => XS.i2b hA hx rfl (hb hby hd) rfl k) K
theorem oGo.i2c {x : Int32} (hd : decode bytes pc = .ok (.i2c, 1)) (hq : pc + 1 = q) (K : oGo Z own nm bytes ml ret R n0 Q k n h q L (.int (x.toUInt32.toUInt16.toUInt32.toInt32) :: S)) : oGo Z own nm bytes ml ret R n0 Q k n h pc L (.int x :: S) := by
  subst hq; exact oGo.st (fun p e m below c T hx hby hA t k => XS.i2c hA hx rfl (hb hby hd) rfl k) K
theorem oGo.i2s {x : Int32} (hd : decode bytes pc = .ok (.i2s, 1)) (hq : pc + 1 = q) (K : oGo Z own nm bytes ml ret R n0 Q k n h q L (.int (x.toInt16.toInt32) :: S)) : oGo Z own nm bytes ml ret R n0 Q k n h pc L (.int x :: S) := by
  subst hq; exact oGo.st (fun p e m below c T hx hby hA t k => XS.i2s hA hx rfl (hb hby hd) rfl k) K
theorem oGo.i2l {x : Int32} (hd : decode bytes pc = .ok (.i2l, 1)) (hq : pc + 1 = q) (K : oGo Z own nm bytes ml ret R n0 Q k n h q L (.long (x.toInt64) :: S)) : oGo Z own nm bytes ml ret R n0 Q k n h pc L (.int x :: S) := by
  subst hq; exact oGo.st (fun p e m below c T hx hby hA t k => XS.i2l hA hx rfl (hb hby hd) rfl k) K
theorem oGo.l2i {x : Int64} (hd : decode bytes pc = .ok (.l2i, 1)) (hq : pc + 1 = q) (K : oGo Z own nm bytes ml ret R n0 Q k n h q L (.int (x.toInt32) :: S)) : oGo Z own nm bytes ml ret R n0 Q k n h pc L (.long x :: S) := by
  subst hq; exact oGo.st (fun p e m below c T hx hby hA t k => XS.l2i hA hx rfl (hb hby hd) rfl k) K
theorem oGo.iconst {i : Int} {v : Int32} (hd : decode bytes pc = .ok (.iconst i, 1)) (hq : pc + 1 = q) (hv : Int32.ofInt i = v) (K : oGo Z own nm bytes ml ret R n0 Q k n h q L (.int v :: S)) : oGo Z own nm bytes ml ret R n0 Q k n h pc L S := by
  subst hq hv; exact oGo.st (fun p e m below c T hx hby hA t k => XS.iconst hA hx rfl (hb hby hd) k) K
theorem oGo.bipush {i : Int} {v : Int32} (hd : decode bytes pc = .ok (.bipush i, 2)) (hq : pc + 2 = q) (hv : (Int8.ofInt i).toInt32 = v) (K : oGo Z own nm bytes ml ret R n0 Q k n h q L (.int v :: S)) : oGo Z own nm bytes ml ret R n0 Q k n h pc L S := by
  subst hq hv; exact oGo.st (fun p e m below c T hx hby hA t k => XS.bipush hA hx rfl (hb hby hd) k) K
theorem oGo.sipush {i : Int} {v : Int32} (hd : decode bytes pc = .ok (.sipush i, 3)) (hq : pc + 3 = q) (hv : (Int16.ofInt i).toInt32 = v) (K : oGo Z own nm bytes ml ret R n0 Q k n h q L (.int v :: S)) : oGo Z own nm bytes ml ret R n0 Q k n h pc L S := by
  subst hq hv; exact oGo.st (fun p e m below c T hx hby hA t k => XS.sipush hA hx rfl (hb hby hd) k) K
theorem oGo.lconst {i : Fin 2} {v : Int64} (hd : decode bytes pc = .ok (.lconst i, 1)) (hq : pc + 1 = q) (hv : Int64.ofNat i = v) (K : oGo Z own nm bytes ml ret R n0 Q k n h q L (.long v :: S)) : oGo Z own nm bytes ml ret R n0 Q k n h pc L S := by
  subst hq hv; exact oGo.st (fun p e m below c T hx hby hA t k => XS.lconst hA hx rfl (hb hby hd) k) K
theorem oGo.aconstNull (hd : decode bytes pc = .ok (.aconst_null, 1)) (hq : pc + 1 = q) (K : oGo Z own nm bytes ml ret R n0 Q k n h q L (.null :: S)) : oGo Z own nm bytes ml ret R n0 Q k n h pc L (S) := by
  subst hq; exact oGo.st (fun p e m below c T hx hby hA t k => XS.aconstNull hA hx rfl (hb hby hd) k) K
theorem oGo.iload {i : Nat} {v : Int32} (hd : decode bytes pc = .ok (.iload i, 2)) (hq : pc + 2 = q) (hl : L[i]? = some (.val (.int v))) (K : oGo Z own nm bytes ml ret R n0 Q k n h q L (.int v :: S)) : oGo Z own nm bytes ml ret R n0 Q k n h pc L S := by
  subst hq; exact oGo.st (fun p e m below c T hx hby hA t k => XS.iload hA hx rfl (hb hby hd) hl k) K
theorem oGo.iloadN {i : Fin 4} {v : Int32} (hd : decode bytes pc = .ok (.iload_n i, 1)) (hq : pc + 1 = q) (hl : L[i.val]? = some (.val (.int v))) (K : oGo Z own nm bytes ml ret R n0 Q k n h q L (.int v :: S)) : oGo Z own nm bytes ml ret R n0 Q k n h pc L S := by
  subst hq; exact oGo.st (fun p e m below c T hx hby hA t k => XS.iloadN hA hx rfl (hb hby hd) hl k) K
theorem oGo.istore {i : Nat} {v : Int32} (hd : decode bytes pc = .ok (.istore i, 2)) (hq : pc + 2 = q) (hl : storeLocals L i (.int v) = some L') (K : oGo Z own nm bytes ml ret R n0 Q k n h q L' S) : oGo Z own nm bytes ml ret R n0 Q k n h pc L (.int v :: S) := by
  subst hq; exact oGo.st (fun p e m below c T hx hby hA t k => XS.istore hA hx rfl (hb hby hd) rfl hl k) K
theorem oGo.istoreN {i : Fin 4} {v : Int32} (hd : decode bytes pc = .ok (.istore_n i, 1)) (hq : pc + 1 = q) (hl : storeLocals L i.val (.int v) = some L') (K : oGo Z own nm bytes ml ret R n0 Q k n h q L' S) : oGo Z own nm bytes ml ret R n0 Q k n h pc L (.int v :: S) := by
  subst hq; exact oGo.st (fun p e m below c T hx hby hA t k => XS.istoreN hA hx rfl (hb hby hd) rfl hl k) K
theorem oGo.lload {i : Nat} {v : Int64} (hd : decode bytes pc = .ok (.lload i, 2)) (hq : pc + 2 = q) (hl : L[i]? = some (.val (.long v))) (K : oGo Z own nm bytes ml ret R n0 Q k n h q L (.long v :: S)) : oGo Z own nm bytes ml ret R n0 Q k n h pc L S := by
  subst hq; exact oGo.st (fun p e m below c T hx hby hA t k => XS.lload hA hx rfl (hb hby hd) hl k) K
theorem oGo.lloadN {i : Fin 4} {v : Int64} (hd : decode bytes pc = .ok (.lload_n i, 1)) (hq : pc + 1 = q) (hl : L[i.val]? = some (.val (.long v))) (K : oGo Z own nm bytes ml ret R n0 Q k n h q L (.long v :: S)) : oGo Z own nm bytes ml ret R n0 Q k n h pc L S := by
  subst hq; exact oGo.st (fun p e m below c T hx hby hA t k => XS.lloadN hA hx rfl (hb hby hd) hl k) K
theorem oGo.lstore {i : Nat} {v : Int64} (hd : decode bytes pc = .ok (.lstore i, 2)) (hq : pc + 2 = q) (hl : storeLocals L i (.long v) = some L') (K : oGo Z own nm bytes ml ret R n0 Q k n h q L' S) : oGo Z own nm bytes ml ret R n0 Q k n h pc L (.long v :: S) := by
  subst hq; exact oGo.st (fun p e m below c T hx hby hA t k => XS.lstore hA hx rfl (hb hby hd) rfl hl k) K
theorem oGo.lstoreN {i : Fin 4} {v : Int64} (hd : decode bytes pc = .ok (.lstore_n i, 1)) (hq : pc + 1 = q) (hl : storeLocals L i.val (.long v) = some L') (K : oGo Z own nm bytes ml ret R n0 Q k n h q L' S) : oGo Z own nm bytes ml ret R n0 Q k n h pc L (.long v :: S) := by
  subst hq; exact oGo.st (fun p e m below c T hx hby hA t k => XS.lstoreN hA hx rfl (hb hby hd) rfl hl k) K
theorem oGo.aload {i : Nat} {v : Value} (hd : decode bytes pc = .ok (.aload i, 2)) (hq : pc + 2 = q) (hl : L[i]? = some (.val v)) (hv : v.isRef = true) (K : oGo Z own nm bytes ml ret R n0 Q k n h q L (v :: S)) : oGo Z own nm bytes ml ret R n0 Q k n h pc L S := by
  subst hq; exact oGo.st (fun p e m below c T hx hby hA t k => XS.aload hA hx rfl (hb hby hd) hl hv k) K
theorem oGo.aloadN {i : Fin 4} {v : Value} (hd : decode bytes pc = .ok (.aload_n i, 1)) (hq : pc + 1 = q) (hl : L[i.val]? = some (.val v)) (hv : v.isRef = true) (K : oGo Z own nm bytes ml ret R n0 Q k n h q L (v :: S)) : oGo Z own nm bytes ml ret R n0 Q k n h pc L S := by
  subst hq; exact oGo.st (fun p e m below c T hx hby hA t k => XS.aloadN hA hx rfl (hb hby hd) hl hv k) K
theorem oGo.astore {i : Nat} {v : Value} (hd : decode bytes pc = .ok (.astore i, 2)) (hq : pc + 2 = q) (hv : v.isRef = true) (hl : storeLocals L i v = some L') (K : oGo Z own nm bytes ml ret R n0 Q k n h q L' S) : oGo Z own nm bytes ml ret R n0 Q k n h pc L (v :: S) := by
  subst hq; exact oGo.st (fun p e m below c T hx hby hA t k => XS.astore hA hx rfl (hb hby hd) rfl hv hl k) K
theorem oGo.astoreN {i : Fin 4} {v : Value} (hd : decode bytes pc = .ok (.astore_n i, 1)) (hq : pc + 1 = q) (hv : v.isRef = true) (hl : storeLocals L i.val v = some L') (K : oGo Z own nm bytes ml ret R n0 Q k n h q L' S) : oGo Z own nm bytes ml ret R n0 Q k n h pc L (v :: S) := by
  subst hq; exact oGo.st (fun p e m below c T hx hby hA t k => XS.astoreN hA hx rfl (hb hby hd) rfl hv hl k) K
theorem oGo.iinc {i : Nat} {cst : Int} {x v : Int32} (hd : decode bytes pc = .ok (.iinc i cst, 3)) (hq : pc + 3 = q) (hl : L[i]? = some (.val (.int x))) (hv : x + Int32.ofInt cst = v) (hs : storeLocals L i (.int v) = some L') (K : oGo Z own nm bytes ml ret R n0 Q k n h q L' S) : oGo Z own nm bytes ml ret R n0 Q k n h pc L S := by
  subst hq hv; exact oGo.st (fun p e m below c T hx hby hA t k => XS.iinc hA hx rfl (hb hby hd) hl hs k) K
theorem oGo.dup {v : Value} (hd : decode bytes pc = .ok (.dup, 1)) (hq : pc + 1 = q) (hc : v.category = 1) (K : oGo Z own nm bytes ml ret R n0 Q k n h q L (v :: v :: S)) : oGo Z own nm bytes ml ret R n0 Q k n h pc L (v :: S) := by
  subst hq; exact oGo.st (fun p e m below c T hx hby hA t k => XS.dup hA hx rfl (hb hby hd) rfl hc k) K
theorem oGo.dupX1 {v w : Value} (hd : decode bytes pc = .ok (.dup_x1, 1)) (hq : pc + 1 = q) (hc : v.category = 1) (hc' : w.category = 1) (K : oGo Z own nm bytes ml ret R n0 Q k n h q L (v :: w :: v :: S)) : oGo Z own nm bytes ml ret R n0 Q k n h pc L (v :: w :: S) := by
  subst hq; exact oGo.st (fun p e m below c T hx hby hA t k => XS.dupX1 hA hx rfl (hb hby hd) rfl hc hc' k) K
theorem oGo.dup2 {v w : Value} (hd : decode bytes pc = .ok (.dup2, 1)) (hq : pc + 1 = q) (hc : v.category = 1) (hc' : w.category = 1) (K : oGo Z own nm bytes ml ret R n0 Q k n h q L (v :: w :: v :: w :: S)) : oGo Z own nm bytes ml ret R n0 Q k n h pc L (v :: w :: S) := by
  subst hq; exact oGo.st (fun p e m below c T hx hby hA t k => XT.dup2 hA hx rfl (hb hby hd) rfl hc hc' k) K
theorem oGo.pop {v : Value} (hd : decode bytes pc = .ok (.pop, 1)) (hq : pc + 1 = q) (hc : v.category = 1) (K : oGo Z own nm bytes ml ret R n0 Q k n h q L S) : oGo Z own nm bytes ml ret R n0 Q k n h pc L (v :: S) := by
  subst hq; exact oGo.st (fun p e m below c T hx hby hA t k => XS.pop hA hx rfl (hb hby hd) rfl hc k) K
theorem oGo.goto {o : Int} (hd : decode bytes pc = .ok (.goto o, 3)) (hq : (pc : Int) + o = (q : Int)) (K : oGo Z own nm bytes ml ret R n0 Q k n h q L S) : oGo Z own nm bytes ml ret R n0 Q k n h pc L S :=
  oGo.st (fun p e m below c T hx hby hA t k => XS.goto hA hx rfl (pc0 := pc) (pc' := q) rfl (hb hby hd) (by omega) (by omega) k) K
theorem oGo.ifnonnullYes {o : Int} {b : Addr} (hd : decode bytes pc = .ok (.ifnonnull o, 3)) (hq : (pc : Int) + o = (q : Int)) (K : oGo Z own nm bytes ml ret R n0 Q k n h q L S) : oGo Z own nm bytes ml ret R n0 Q k n h pc L (.ref b :: S) :=
  oGo.st (fun p e m below c T hx hby hA t k => XS.ifnonnullYes hA hx rfl (pc0 := pc) (pc' := q) rfl (hb hby hd) rfl (by omega) (by omega) k) K
theorem oGo.lcmp {x y : Int64} (hd : decode bytes pc = .ok (.lcmp, 1)) (hq : pc + 1 = q) (K : oGo Z own nm bytes ml ret R n0 Q k n h q L (.int (lcmpW x y) :: S)) : oGo Z own nm bytes ml ret R n0 Q k n h pc L (.long y :: .long x :: S) := by
  subst hq; exact oGo.st (fun p e m below c T hx hby hA t k => XS.lcmp hA hx rfl (hb hby hd) rfl k) K
theorem own_hlt {x y : Int32} : (x.toInt < y.toInt → if_icmp.holds .lt x y = true) ∧ (y.toInt ≤ x.toInt → if_icmp.holds .lt x y = false) :=
  ⟨fun hc => (tlt (Int32.lt_iff_toInt_lt.mpr hc)).1, fun hc => (flt (fun z => by have := Int32.lt_iff_toInt_lt.mp z; omega)).1⟩
theorem own_dlt (x y : Int32) : (x.toInt < y.toInt) ∨ (y.toInt ≤ x.toInt) := by omega
theorem own_elt (x y : Int64) : (x.toInt < y.toInt) ∨ (y.toInt ≤ x.toInt) := by omega
theorem oGo.icmp_lt {o : Int} {x y : Int32} (hd : decode bytes pc = .ok (.if_icmp .lt o, 3)) (hq : (pc : Int) + o = (q : Int)) (hr : pc + 3 = r) (K1 : x.toInt < y.toInt → oGo Z own nm bytes ml ret R n0 Q k n h q L S) (K2 : y.toInt ≤ x.toInt → oGo Z own nm bytes ml ret R n0 Q k n h r L S) : oGo Z own nm bytes ml ret R n0 Q k n h pc L (.int y :: .int x :: S) := by
  rcases own_dlt x y with hc | hc
  · exact oGo.st (fun p e m below c T hx hby hA t k => XS.icmpYes hA hx rfl (pc0 := pc) (pc' := q) rfl (hb hby hd) rfl (own_hlt.1 hc) (by omega) (by omega) k) (K1 hc)
  · subst hr; exact oGo.st (fun p e m below c T hx hby hA t k => XS.icmpNo hA hx rfl (hb hby hd) rfl (own_hlt.2 hc) k) (K2 hc)
theorem oGo.if_lt {o : Int} {x : Int32} (hd : decode bytes pc = .ok (.ifCond .lt o, 3)) (hq : (pc : Int) + o = (q : Int)) (hr : pc + 3 = r) (K1 : x.toInt < 0 → oGo Z own nm bytes ml ret R n0 Q k n h q L S) (K2 : 0 ≤ x.toInt → oGo Z own nm bytes ml ret R n0 Q k n h r L S) : oGo Z own nm bytes ml ret R n0 Q k n h pc L (.int x :: S) := by
  rcases own_dlt x 0 with hc | hc
  · exact oGo.st (fun p e m below c T hx hby hA t k => XS.ifYes hA hx rfl (pc0 := pc) (pc' := q) rfl (hb hby hd) rfl ((if0 _ _).trans (own_hlt.1 hc)) (by omega) (by omega) k) (K1 hc)
  · subst hr; exact oGo.st (fun p e m below c T hx hby hA t k => XS.ifNo hA hx rfl (hb hby hd) rfl ((if0 _ _).trans (own_hlt.2 hc)) k) (K2 hc)
theorem own_llt {x y : Int64} : (x.toInt < y.toInt → (lcmpW x y).toInt < 0) ∧ (y.toInt ≤ x.toInt → 0 ≤ (lcmpW x y).toInt) := by
  obtain ⟨h1, h2, h3⟩ := c_lcmp x y
  refine ⟨fun hc => ?_, fun hc => ?_⟩ <;> (rcases Int.lt_trichotomy x.toInt y.toInt with u | u | u <;> simp_all <;> omega)
theorem oGo.lif_lt {o : Int} {x y : Int64} {pc2 : Nat} (hd : decode bytes pc = .ok (.lcmp, 1)) (h1 : pc + 1 = pc2) (hd2 : decode bytes pc2 = .ok (.ifCond .lt o, 3)) (hq : (pc2 : Int) + o = (q : Int)) (hr : pc2 + 3 = r) (K1 : x.toInt < y.toInt → oGo Z own nm bytes ml ret R n0 Q k n h q L S) (K2 : y.toInt ≤ x.toInt → oGo Z own nm bytes ml ret R n0 Q k n h r L S) : oGo Z own nm bytes ml ret R n0 Q k n h pc L (.long y :: .long x :: S) := by
  refine oGo.lcmp hd h1 (oGo.if_lt hd2 hq hr (fun hc => ?_) (fun hc => ?_))
  · rcases own_elt x y with u | u
    · exact K1 u
    · have := own_llt.2 u; first | exact absurd hc this | exact absurd this hc | omega
  · rcases own_elt x y with u | u
    · have := own_llt.1 u; first | exact absurd hc this | exact absurd this hc | omega
    · exact K2 u
theorem own_hge {x y : Int32} : (y.toInt ≤ x.toInt → if_icmp.holds .ge x y = true) ∧ (x.toInt < y.toInt → if_icmp.holds .ge x y = false) :=
  ⟨fun hc => (flt (fun z => by have := Int32.lt_iff_toInt_lt.mp z; omega)).2.1, fun hc => (tlt (Int32.lt_iff_toInt_lt.mpr hc)).2.1⟩
theorem own_dge (x y : Int32) : (y.toInt ≤ x.toInt) ∨ (x.toInt < y.toInt) := by omega
theorem own_ege (x y : Int64) : (y.toInt ≤ x.toInt) ∨ (x.toInt < y.toInt) := by omega
theorem oGo.icmp_ge {o : Int} {x y : Int32} (hd : decode bytes pc = .ok (.if_icmp .ge o, 3)) (hq : (pc : Int) + o = (q : Int)) (hr : pc + 3 = r) (K1 : y.toInt ≤ x.toInt → oGo Z own nm bytes ml ret R n0 Q k n h q L S) (K2 : x.toInt < y.toInt → oGo Z own nm bytes ml ret R n0 Q k n h r L S) : oGo Z own nm bytes ml ret R n0 Q k n h pc L (.int y :: .int x :: S) := by
  rcases own_dge x y with hc | hc
  · exact oGo.st (fun p e m below c T hx hby hA t k => XS.icmpYes hA hx rfl (pc0 := pc) (pc' := q) rfl (hb hby hd) rfl (own_hge.1 hc) (by omega) (by omega) k) (K1 hc)
  · subst hr; exact oGo.st (fun p e m below c T hx hby hA t k => XS.icmpNo hA hx rfl (hb hby hd) rfl (own_hge.2 hc) k) (K2 hc)
theorem oGo.if_ge {o : Int} {x : Int32} (hd : decode bytes pc = .ok (.ifCond .ge o, 3)) (hq : (pc : Int) + o = (q : Int)) (hr : pc + 3 = r) (K1 : 0 ≤ x.toInt → oGo Z own nm bytes ml ret R n0 Q k n h q L S) (K2 : x.toInt < 0 → oGo Z own nm bytes ml ret R n0 Q k n h r L S) : oGo Z own nm bytes ml ret R n0 Q k n h pc L (.int x :: S) := by
  rcases own_dge x 0 with hc | hc
  · exact oGo.st (fun p e m below c T hx hby hA t k => XS.ifYes hA hx rfl (pc0 := pc) (pc' := q) rfl (hb hby hd) rfl ((if0 _ _).trans (own_hge.1 hc)) (by omega) (by omega) k) (K1 hc)
  · subst hr; exact oGo.st (fun p e m below c T hx hby hA t k => XS.ifNo hA hx rfl (hb hby hd) rfl ((if0 _ _).trans (own_hge.2 hc)) k) (K2 hc)
theorem own_lge {x y : Int64} : (y.toInt ≤ x.toInt → 0 ≤ (lcmpW x y).toInt) ∧ (x.toInt < y.toInt → (lcmpW x y).toInt < 0) := by
  obtain ⟨h1, h2, h3⟩ := c_lcmp x y
  refine ⟨fun hc => ?_, fun hc => ?_⟩ <;> (rcases Int.lt_trichotomy x.toInt y.toInt with u | u | u <;> simp_all <;> omega)
theorem oGo.lif_ge {o : Int} {x y : Int64} {pc2 : Nat} (hd : decode bytes pc = .ok (.lcmp, 1)) (h1 : pc + 1 = pc2) (hd2 : decode bytes pc2 = .ok (.ifCond .ge o, 3)) (hq : (pc2 : Int) + o = (q : Int)) (hr : pc2 + 3 = r) (K1 : y.toInt ≤ x.toInt → oGo Z own nm bytes ml ret R n0 Q k n h q L S) (K2 : x.toInt < y.toInt → oGo Z own nm bytes ml ret R n0 Q k n h r L S) : oGo Z own nm bytes ml ret R n0 Q k n h pc L (.long y :: .long x :: S) := by
  refine oGo.lcmp hd h1 (oGo.if_ge hd2 hq hr (fun hc => ?_) (fun hc => ?_))
  · rcases own_ege x y with u | u
    · exact K1 u
    · have := own_lge.2 u; first | exact absurd hc this | exact absurd this hc | omega
  · rcases own_ege x y with u | u
    · have := own_lge.1 u; first | exact absurd hc this | exact absurd this hc | omega
    · exact K2 u
theorem own_hgt {x y : Int32} : (y.toInt < x.toInt → if_icmp.holds .gt x y = true) ∧ (x.toInt ≤ y.toInt → if_icmp.holds .gt x y = false) :=
  ⟨fun hc => (tlt (Int32.lt_iff_toInt_lt.mpr hc)).2.2.1, fun hc => (flt (fun z => by have := Int32.lt_iff_toInt_lt.mp z; omega)).2.2.1⟩
theorem own_dgt (x y : Int32) : (y.toInt < x.toInt) ∨ (x.toInt ≤ y.toInt) := by omega
theorem own_egt (x y : Int64) : (y.toInt < x.toInt) ∨ (x.toInt ≤ y.toInt) := by omega
theorem oGo.icmp_gt {o : Int} {x y : Int32} (hd : decode bytes pc = .ok (.if_icmp .gt o, 3)) (hq : (pc : Int) + o = (q : Int)) (hr : pc + 3 = r) (K1 : y.toInt < x.toInt → oGo Z own nm bytes ml ret R n0 Q k n h q L S) (K2 : x.toInt ≤ y.toInt → oGo Z own nm bytes ml ret R n0 Q k n h r L S) : oGo Z own nm bytes ml ret R n0 Q k n h pc L (.int y :: .int x :: S) := by
  rcases own_dgt x y with hc | hc
  · exact oGo.st (fun p e m below c T hx hby hA t k => XS.icmpYes hA hx rfl (pc0 := pc) (pc' := q) rfl (hb hby hd) rfl (own_hgt.1 hc) (by omega) (by omega) k) (K1 hc)
  · subst hr; exact oGo.st (fun p e m below c T hx hby hA t k => XS.icmpNo hA hx rfl (hb hby hd) rfl (own_hgt.2 hc) k) (K2 hc)
theorem oGo.if_gt {o : Int} {x : Int32} (hd : decode bytes pc = .ok (.ifCond .gt o, 3)) (hq : (pc : Int) + o = (q : Int)) (hr : pc + 3 = r) (K1 : 0 < x.toInt → oGo Z own nm bytes ml ret R n0 Q k n h q L S) (K2 : x.toInt ≤ 0 → oGo Z own nm bytes ml ret R n0 Q k n h r L S) : oGo Z own nm bytes ml ret R n0 Q k n h pc L (.int x :: S) := by
  rcases own_dgt x 0 with hc | hc
  · exact oGo.st (fun p e m below c T hx hby hA t k => XS.ifYes hA hx rfl (pc0 := pc) (pc' := q) rfl (hb hby hd) rfl ((if0 _ _).trans (own_hgt.1 hc)) (by omega) (by omega) k) (K1 hc)
  · subst hr; exact oGo.st (fun p e m below c T hx hby hA t k => XS.ifNo hA hx rfl (hb hby hd) rfl ((if0 _ _).trans (own_hgt.2 hc)) k) (K2 hc)
theorem own_lgt {x y : Int64} : (y.toInt < x.toInt → 0 < (lcmpW x y).toInt) ∧ (x.toInt ≤ y.toInt → (lcmpW x y).toInt ≤ 0) := by
  obtain ⟨h1, h2, h3⟩ := c_lcmp x y
  refine ⟨fun hc => ?_, fun hc => ?_⟩ <;> (rcases Int.lt_trichotomy x.toInt y.toInt with u | u | u <;> simp_all <;> omega)
theorem oGo.lif_gt {o : Int} {x y : Int64} {pc2 : Nat} (hd : decode bytes pc = .ok (.lcmp, 1)) (h1 : pc + 1 = pc2) (hd2 : decode bytes pc2 = .ok (.ifCond .gt o, 3)) (hq : (pc2 : Int) + o = (q : Int)) (hr : pc2 + 3 = r) (K1 : y.toInt < x.toInt → oGo Z own nm bytes ml ret R n0 Q k n h q L S) (K2 : x.toInt ≤ y.toInt → oGo Z own nm bytes ml ret R n0 Q k n h r L S) : oGo Z own nm bytes ml ret R n0 Q k n h pc L (.long y :: .long x :: S) := by
  refine oGo.lcmp hd h1 (oGo.if_gt hd2 hq hr (fun hc => ?_) (fun hc => ?_))
  · rcases own_egt x y with u | u
    · exact K1 u
    · have := own_lgt.2 u; first | exact absurd hc this | exact absurd this hc | omega
  · rcases own_egt x y with u | u
    · have := own_lgt.1 u; first | exact absurd hc this | exact absurd this hc | omega
    · exact K2 u
theorem own_hle {x y : Int32} : (x.toInt ≤ y.toInt → if_icmp.holds .le x y = true) ∧ (y.toInt < x.toInt → if_icmp.holds .le x y = false) :=
  ⟨fun hc => (flt (fun z => by have := Int32.lt_iff_toInt_lt.mp z; omega)).2.2.2, fun hc => (tlt (Int32.lt_iff_toInt_lt.mpr hc)).2.2.2⟩
theorem own_dle (x y : Int32) : (x.toInt ≤ y.toInt) ∨ (y.toInt < x.toInt) := by omega
theorem own_ele (x y : Int64) : (x.toInt ≤ y.toInt) ∨ (y.toInt < x.toInt) := by omega
theorem oGo.icmp_le {o : Int} {x y : Int32} (hd : decode bytes pc = .ok (.if_icmp .le o, 3)) (hq : (pc : Int) + o = (q : Int)) (hr : pc + 3 = r) (K1 : x.toInt ≤ y.toInt → oGo Z own nm bytes ml ret R n0 Q k n h q L S) (K2 : y.toInt < x.toInt → oGo Z own nm bytes ml ret R n0 Q k n h r L S) : oGo Z own nm bytes ml ret R n0 Q k n h pc L (.int y :: .int x :: S) := by
  rcases own_dle x y with hc | hc
  · exact oGo.st (fun p e m below c T hx hby hA t k => XS.icmpYes hA hx rfl (pc0 := pc) (pc' := q) rfl (hb hby hd) rfl (own_hle.1 hc) (by omega) (by omega) k) (K1 hc)
  · subst hr; exact oGo.st (fun p e m below c T hx hby hA t k => XS.icmpNo hA hx rfl (hb hby hd) rfl (own_hle.2 hc) k) (K2 hc)
theorem oGo.if_le {o : Int} {x : Int32} (hd : decode bytes pc = .ok (.ifCond .le o, 3)) (hq : (pc : Int) + o = (q : Int)) (hr : pc + 3 = r) (K1 : x.toInt ≤ 0 → oGo Z own nm bytes ml ret R n0 Q k n h q L S) (K2 : 0 < x.toInt → oGo Z own nm bytes ml ret R n0 Q k n h r L S) : oGo Z own nm bytes ml ret R n0 Q k n h pc L (.int x :: S) := by
  rcases own_dle x 0 with hc | hc
  · exact oGo.st (fun p e m below c T hx hby hA t k => XS.ifYes hA hx rfl (pc0 := pc) (pc' := q) rfl (hb hby hd) rfl ((if0 _ _).trans (own_hle.1 hc)) (by omega) (by omega) k) (K1 hc)
  · subst hr; exact oGo.st (fun p e m below c T hx hby hA t k => XS.ifNo hA hx rfl (hb hby hd) rfl ((if0 _ _).trans (own_hle.2 hc)) k) (K2 hc)
theorem own_lle {x y : Int64} : (x.toInt ≤ y.toInt → (lcmpW x y).toInt ≤ 0) ∧ (y.toInt < x.toInt → 0 < (lcmpW x y).toInt) := by
  obtain ⟨h1, h2, h3⟩ := c_lcmp x y
  refine ⟨fun hc => ?_, fun hc => ?_⟩ <;> (rcases Int.lt_trichotomy x.toInt y.toInt with u | u | u <;> simp_all <;> omega)
theorem oGo.lif_le {o : Int} {x y : Int64} {pc2 : Nat} (hd : decode bytes pc = .ok (.lcmp, 1)) (h1 : pc + 1 = pc2) (hd2 : decode bytes pc2 = .ok (.ifCond .le o, 3)) (hq : (pc2 : Int) + o = (q : Int)) (hr : pc2 + 3 = r) (K1 : x.toInt ≤ y.toInt → oGo Z own nm bytes ml ret R n0 Q k n h q L S) (K2 : y.toInt < x.toInt → oGo Z own nm bytes ml ret R n0 Q k n h r L S) : oGo Z own nm bytes ml ret R n0 Q k n h pc L (.long y :: .long x :: S) := by
  refine oGo.lcmp hd h1 (oGo.if_le hd2 hq hr (fun hc => ?_) (fun hc => ?_))
  · rcases own_ele x y with u | u
    · exact K1 u
    · have := own_lle.2 u; first | exact absurd hc this | exact absurd this hc | omega
  · rcases own_ele x y with u | u
    · have := own_lle.1 u; first | exact absurd hc this | exact absurd this hc | omega
    · exact K2 u
theorem own_heq {x y : Int32} : (x = y → if_icmp.holds .eq x y = true) ∧ (x ≠ y → if_icmp.holds .eq x y = false) :=
  ⟨fun hc => (teq hc).1, fun hc => (feq hc).1⟩
theorem own_deq (x y : Int32) : (x = y) ∨ (x ≠ y) := by exact Decidable.em _
theorem own_eeq (x y : Int64) : (x = y) ∨ (x ≠ y) := by exact Decidable.em _
theorem oGo.icmp_eq {o : Int} {x y : Int32} (hd : decode bytes pc = .ok (.if_icmp .eq o, 3)) (hq : (pc : Int) + o = (q : Int)) (hr : pc + 3 = r) (K1 : x = y → oGo Z own nm bytes ml ret R n0 Q k n h q L S) (K2 : x ≠ y → oGo Z own nm bytes ml ret R n0 Q k n h r L S) : oGo Z own nm bytes ml ret R n0 Q k n h pc L (.int y :: .int x :: S) := by
  rcases own_deq x y with hc | hc
  · exact oGo.st (fun p e m below c T hx hby hA t k => XS.icmpYes hA hx rfl (pc0 := pc) (pc' := q) rfl (hb hby hd) rfl (own_heq.1 hc) (by omega) (by omega) k) (K1 hc)
  · subst hr; exact oGo.st (fun p e m below c T hx hby hA t k => XS.icmpNo hA hx rfl (hb hby hd) rfl (own_heq.2 hc) k) (K2 hc)
theorem oGo.if_eq {o : Int} {x : Int32} (hd : decode bytes pc = .ok (.ifCond .eq o, 3)) (hq : (pc : Int) + o = (q : Int)) (hr : pc + 3 = r) (K1 : x = 0 → oGo Z own nm bytes ml ret R n0 Q k n h q L S) (K2 : x ≠ 0 → oGo Z own nm bytes ml ret R n0 Q k n h r L S) : oGo Z own nm bytes ml ret R n0 Q k n h pc L (.int x :: S) := by
  rcases own_deq x 0 with hc | hc
  · exact oGo.st (fun p e m below c T hx hby hA t k => XS.ifYes hA hx rfl (pc0 := pc) (pc' := q) rfl (hb hby hd) rfl ((if0 _ _).trans (own_heq.1 hc)) (by omega) (by omega) k) (K1 hc)
  · subst hr; exact oGo.st (fun p e m below c T hx hby hA t k => XS.ifNo hA hx rfl (hb hby hd) rfl ((if0 _ _).trans (own_heq.2 hc)) k) (K2 hc)
theorem own_leq {x y : Int64} : (x = y → lcmpW x y = 0) ∧ (x ≠ y → lcmpW x y ≠ 0) := by
  obtain ⟨h1, h2, h3⟩ := c_lcmp x y
  refine ⟨fun hc => ?_, fun hc => ?_⟩ <;> (first | exact (lw_eq x y).mpr hc | exact fun z => hc ((lw_eq x y).mp z))
theorem oGo.lif_eq {o : Int} {x y : Int64} {pc2 : Nat} (hd : decode bytes pc = .ok (.lcmp, 1)) (h1 : pc + 1 = pc2) (hd2 : decode bytes pc2 = .ok (.ifCond .eq o, 3)) (hq : (pc2 : Int) + o = (q : Int)) (hr : pc2 + 3 = r) (K1 : x = y → oGo Z own nm bytes ml ret R n0 Q k n h q L S) (K2 : x ≠ y → oGo Z own nm bytes ml ret R n0 Q k n h r L S) : oGo Z own nm bytes ml ret R n0 Q k n h pc L (.long y :: .long x :: S) := by
  refine oGo.lcmp hd h1 (oGo.if_eq hd2 hq hr (fun hc => ?_) (fun hc => ?_))
  · rcases own_eeq x y with u | u
    · exact K1 u
    · have := own_leq.2 u; first | exact absurd hc this | exact absurd this hc | omega
  · rcases own_eeq x y with u | u
    · have := own_leq.1 u; first | exact absurd hc this | exact absurd this hc | omega
    · exact K2 u
theorem own_hne {x y : Int32} : (x ≠ y → if_icmp.holds .ne x y = true) ∧ (x = y → if_icmp.holds .ne x y = false) :=
  ⟨fun hc => (feq hc).2, fun hc => (teq hc).2⟩
theorem own_dne (x y : Int32) : (x ≠ y) ∨ (x = y) := by exact (Decidable.em _).symm
theorem own_ene (x y : Int64) : (x ≠ y) ∨ (x = y) := by exact (Decidable.em _).symm
theorem oGo.icmp_ne {o : Int} {x y : Int32} (hd : decode bytes pc = .ok (.if_icmp .ne o, 3)) (hq : (pc : Int) + o = (q : Int)) (hr : pc + 3 = r) (K1 : x ≠ y → oGo Z own nm bytes ml ret R n0 Q k n h q L S) (K2 : x = y → oGo Z own nm bytes ml ret R n0 Q k n h r L S) : oGo Z own nm bytes ml ret R n0 Q k n h pc L (.int y :: .int x :: S) := by
  rcases own_dne x y with hc | hc
  · exact oGo.st (fun p e m below c T hx hby hA t k => XS.icmpYes hA hx rfl (pc0 := pc) (pc' := q) rfl (hb hby hd) rfl (own_hne.1 hc) (by omega) (by omega) k) (K1 hc)
  · subst hr; exact oGo.st (fun p e m below c T hx hby hA t k => XS.icmpNo hA hx rfl (hb hby hd) rfl (own_hne.2 hc) k) (K2 hc)
theorem oGo.if_ne {o : Int} {x : Int32} (hd : decode bytes pc = .ok (.ifCond .ne o, 3)) (hq : (pc : Int) + o = (q : Int)) (hr : pc + 3 = r) (K1 : x ≠ 0 → oGo Z own nm bytes ml ret R n0 Q k n h q L S) (K2 : x = 0 → oGo Z own nm bytes ml ret R n0 Q k n h r L S) : oGo Z own nm bytes ml ret R n0 Q k n h pc L (.int x :: S) := by
  rcases own_dne x 0 with hc | hc
  · exact oGo.st (fun p e m below c T hx hby hA t k => XS.ifYes hA hx rfl (pc0 := pc) (pc' := q) rfl (hb hby hd) rfl ((if0 _ _).trans (own_hne.1 hc)) (by omega) (by omega) k) (K1 hc)
  · subst hr; exact oGo.st (fun p e m below c T hx hby hA t k => XS.ifNo hA hx rfl (hb hby hd) rfl ((if0 _ _).trans (own_hne.2 hc)) k) (K2 hc)
theorem own_lne {x y : Int64} : (x ≠ y → lcmpW x y ≠ 0) ∧ (x = y → lcmpW x y = 0) := by
  obtain ⟨h1, h2, h3⟩ := c_lcmp x y
  refine ⟨fun hc => ?_, fun hc => ?_⟩ <;> (first | exact (lw_eq x y).mpr hc | exact fun z => hc ((lw_eq x y).mp z))
theorem oGo.lif_ne {o : Int} {x y : Int64} {pc2 : Nat} (hd : decode bytes pc = .ok (.lcmp, 1)) (h1 : pc + 1 = pc2) (hd2 : decode bytes pc2 = .ok (.ifCond .ne o, 3)) (hq : (pc2 : Int) + o = (q : Int)) (hr : pc2 + 3 = r) (K1 : x ≠ y → oGo Z own nm bytes ml ret R n0 Q k n h q L S) (K2 : x = y → oGo Z own nm bytes ml ret R n0 Q k n h r L S) : oGo Z own nm bytes ml ret R n0 Q k n h pc L (.long y :: .long x :: S) := by
  refine oGo.lcmp hd h1 (oGo.if_ne hd2 hq hr (fun hc => ?_) (fun hc => ?_))
  · rcases own_ene x y with u | u
    · exact K1 u
    · have := own_lne.2 u; first | exact absurd hc this | exact absurd this hc | omega
  · rcases own_ene x y with u | u
    · have := own_lne.1 u; first | exact absurd hc this | exact absurd this hc | omega
    · exact K2 u
theorem oGo.ldc2 {i : Nat} {v : Int64} (hd : decode bytes pc = .ok (.ldc2_w i, 3)) (hq : pc + 3 = q) (w : (Cond.constantLong own i v).before a0 Z = true) (K : oGo Z own nm bytes ml ret R n0 Q k n h q L (.long v :: S)) : oGo Z own nm bytes ml ret R n0 Q k n h pc L S :=
  fun p l e s m args below meth c T locs C X eT N => by
    obtain ⟨hx, hZ, hby, hml, hown, hret, hlk, hnm⟩ := C
    subst hq
    obtain ⟨s₂, o, h1, r⟩ := K p l e s m args below meth c T locs ⟨hx, hZ, hby, hml, hown, hret, hlk, hnm⟩ X eT N
    exact ⟨s₂, o, X.ldc2Long hx hown (mvT hZ w) (g := mkF m pc L S) rfl (hb hby hd) _ h1, r⟩
theorem oGo.ldcI {i : Nat} {v : Int32} (hd : decode bytes pc = .ok (.ldc i, 2)) (hq : pc + 2 = q) (w : (Cond.constant own i v).before a0 Z = true) (K : oGo Z own nm bytes ml ret R n0 Q k n h q L (.int v :: S)) : oGo Z own nm bytes ml ret R n0 Q k n h pc L S :=
  fun p l e s m args below meth c T locs C X eT N => by
    obtain ⟨hx, hZ, hby, hml, hown, hret, hlk, hnm⟩ := C
    subst hq
    obtain ⟨s₂, o, h1, r⟩ := K p l e s m args below meth c T locs ⟨hx, hZ, hby, hml, hown, hret, hlk, hnm⟩ X eT N
    exact ⟨s₂, o, X.ldcInt hx hown (mvT hZ w) (g := mkF m pc L S) rfl (hb hby hd) _ h1, r⟩
/-! the returns -/
theorem own_end {p : Program} {l : Launch} {e : Env} {s : State} {m : MethodId} {args : Array Value} {below : List Frame} {meth : Method} {c : Code} {T : State} {locs : List Loc} (X : Stand p l e R s m args below meth c T locs k n) (hlk : meth.locks = false) {v : Option Value} (hv : meth.sig.returnType = none → v = none) (hk : k ≤ R.cells) (hn : n ≤ R.slots) (N : Fr n0 locs) (hQ : Q v T.heap) {g : JFrame}
    (H : ∀ fs, (∀ (f : JFrame) (acts : List Action), f.method = m → f.locked = none → f.entered = [] → (doReturn e (T.setTop f) acts v).1 = T.setFrames fs) → Steps p.tables e below (T.setTop g) (T.setFrames fs)) :
    ∃ s₂ o, Steps p.tables e below (T.setTop g) s₂ ∧ s₂.status = .running ∧ Ended s₂ below o ∧ ∃ v L', o = .returned v ∧ (Q v s₂.heap ∧ Fr n0 L') ∧ FrameEnd s o s₂ L' R.cells R.slots := by
  obtain ⟨fs, hr, hrun, hended, hW, hsame⟩ := X.leave hv hlk
  exact ⟨_, _, H fs hr, hrun, hended, _, _, rfl, ⟨hQ, N⟩, ⟨_, rfl⟩, hW, hsame.mono hk hn⟩
theorem oGo.retI {z : Int32} (hd : decode bytes pc = .ok (.ireturn, 1)) (hret : ret = some .int) (hk : k ≤ R.cells) (hn : n ≤ R.slots) (hQ : Q (some (.int z)) h) : oGo Z own nm bytes ml ret R n0 Q k n h pc L (.int z :: S) :=
  fun p l e s m args below meth c T locs C X eT N => by
    obtain ⟨hx, hZ, hby, hml, hown, hrt, hlk, hnm⟩ := C
    subst eT
    exact own_end X hlk (fun u => by rw [hrt, hret] at u; cases u) hk hn N hQ fun fs hr => retOut X hx (hrt.trans hret) rfl (Or.inl ⟨rfl, Or.inl rfl, z, rfl⟩) (hb hby hd) hr
theorem oGo.retN {z : Int32} {t : FieldType} (hd : decode bytes pc = .ok (.ireturn, 1)) (hret : ret = some t) (ht : t = .boolean ∨ t = .byte ∨ t = .char ∨ t = .short) (hk : k ≤ R.cells) (hn : n ≤ R.slots) (hQ : Q (some (.int (nar t z))) h) : oGo Z own nm bytes ml ret R n0 Q k n h pc L (.int z :: S) :=
  fun p l e s m args below meth c T locs C X eT N => by
    obtain ⟨hx, hZ, hby, hml, hown, hrt, hlk, hnm⟩ := C
    subst eT
    exact own_end X hlk (fun u => by rw [hrt, hret] at u; cases u) hk hn N hQ fun fs hr => Jvm.RoadKit.retN X hx (hrt.trans hret) ht (hb hby hd) hr
theorem oGo.retJ {z : Int64} (hd : decode bytes pc = .ok (.lreturn, 1)) (hret : ret = some .long) (hk : k ≤ R.cells) (hn : n ≤ R.slots) (hQ : Q (some (.long z)) h) : oGo Z own nm bytes ml ret R n0 Q k n h pc L (.long z :: S) :=
  fun p l e s m args below meth c T locs C X eT N => by
    obtain ⟨hx, hZ, hby, hml, hown, hrt, hlk, hnm⟩ := C
    subst eT
    exact own_end X hlk (fun u => by rw [hrt, hret] at u; cases u) hk hn N hQ fun fs hr => retOut X hx (hrt.trans hret) rfl (Or.inr (Or.inl ⟨rfl, rfl, z, rfl⟩)) (hb hby hd) hr
theorem oGo.retA {v : Value} {t : FieldType} (hd : decode bytes pc = .ok (.areturn, 1)) (hret : ret = some t) (ht : t.isReference = true) (hv : v.isRef = true) (hk : k ≤ R.cells) (hn : n ≤ R.slots) (hQ : Q (some v) h) : oGo Z own nm bytes ml ret R n0 Q k n h pc L (v :: S) :=
  fun p l e s m args below meth c T locs C X eT N => by
    obtain ⟨hx, hZ, hby, hml, hown, hrt, hlk, hnm⟩ := C
    subst eT
    exact own_end X hlk (fun u => by rw [hrt, hret] at u; cases u) hk hn N hQ fun fs hr => retOut X hx (hrt.trans hret) (by cases t <;> first | (cases ht; done) | rfl) (Or.inr (Or.inr (Or.inr (Or.inr ⟨rfl, ht, hv⟩)))) (hb hby hd) hr
theorem oGo.retV (hd : decode bytes pc = .ok (.return_, 1)) (hret : ret = none) (hk : k ≤ R.cells) (hn : n ≤ R.slots) (hQ : Q none h) : oGo Z own nm bytes ml ret R n0 Q k n h pc L [] :=
  fun p l e s m args below meth c T locs C X eT N => by
    obtain ⟨hx, hZ, hby, hml, hown, hrt, hlk, hnm⟩ := C
    subst eT
    exact own_end X hlk (fun _ => rfl) hk hn N hQ fun fs hr => X.returnOut hx (hrt.trans hret) (hb hby hd) hr
/-! calls by contract -/
theorem oGo.callS {y : MethodName} {i W : Nat} {bytes' : ByteArray} {ml' : Nat} {ret' : Option FieldType} {rm : Room} {as : Array Value} {Q' : Option Value → Heap → Prop} {ps : List FieldType} {rt : Option FieldType} (argsL rest : List Value) (hd : decode bytes pc = .ok (.invokestatic i, 3)) (hq : pc + 3 = q)
    (w1 : (Cond.methodLink own i y).before a0 Z = true) (w2 : (Cond.static y).before a0 Z = true) (w3 : (Cond.initialized y.cls).before a0 Z = true) (w4 : (Cond.code y bytes' ml' ret').before a0 Z = true) (hy : y.cls ≠ "java/lang/invoke/MethodHandle" ∧ y.cls ≠ "java/lang/invoke/VarHandle")
    (hC : oCon Z y bytes' ml' ret' rm as h n0 Q') (hS : S = argsL.reverse ++ rest) (has : argsL.toArray = as) (hpd : parseMethodDescriptor y.desc = some ⟨ps, rt⟩) (hlen : argsL.length = ps.length) (hL : L.size = ml) (hW : 2 * 0 + (rest.map fun v => v.category).sum ≤ W) (hf : rm.frames + 1 ≤ R.frames) (hl : W + (ml' + 11) + rm.locals ≤ R.locals) (hc : k + rm.cells ≤ R.cells) (hs : n + rm.slots ≤ R.slots)
    (K : ∀ v h', Q' v h' → oGo Z own nm bytes ml ret R n0 Q (k + rm.cells) (n + rm.slots) h' q L (v.toList ++ rest)) : oGo Z own nm bytes ml ret R n0 Q k n h pc L S :=
  fun p l e s m args below meth c T locs C X eT N => by
    obtain ⟨hx, hZ, hby, hml, hown, hrt, hlk, hnm⟩ := C
    subst hq
    obtain ⟨v, _, ⟨T', L2, k2, n2⟩, -, X', ⟨Lc, hQ', l', y', z'⟩, st⟩ := Jvm.LawKit.callS X hx (y := y) hown (mvT hZ w1) (mvT hZ w2) (mvT hZ w3) (mvT hZ w4) hy (backOf (W := W) (Q := fun v h' L => Q' v h' ∧ Fr n0 L) (hC l []) hZ w4 w3 hf hl) (g := mkF m pc L S) rfl (by rw [hml]; exact hL) (argsL := argsL) (rest := rest) (lenOf hpd hlen) hS hW (hb hby hd) (fun _ _ => ⟨has, eT, hc, hs⟩)
    dsimp only [Pt.U, Pt.locs, Pt.cells, Pt.slots] at X' l' y' z' st hQ'
    subst l' y' z'
    obtain ⟨s₂, o, h1, r⟩ := K v T'.heap hQ'.1 p l e s m args below meth c T' _ ⟨hx, hZ, hby, hml, hown, hrt, hlk, hnm⟩ X' rfl (Fr.app N hQ'.2)
    exact ⟨s₂, o, st _ h1, r⟩
theorem oGo.callI {y : MethodName} {i W : Nat} {bytes' : ByteArray} {ml' : Nat} {rm : Room} {as : Array Value} {Q' : Option Value → Heap → Prop} {ps : List FieldType} {rt : Option FieldType} {a : Addr} (argsL rest : List Value) (hd : decode bytes pc = .ok (.invokespecial i, 3)) (hq : pc + 3 = q) (hy1 : y.name = "<init>")
    (w1 : (Cond.methodLink own i y).before a0 Z = true) (w2 : (Cond.instanceMethod y).before a0 Z = true) (w3 : (Cond.initialized y.cls).before a0 Z = true) (w4 : (Cond.code y bytes' ml' none).before a0 Z = true) (hy : y.cls ≠ "java/lang/invoke/MethodHandle" ∧ y.cls ≠ "java/lang/invoke/VarHandle")
    (hC : oCon Z y bytes' ml' none rm as h n0 Q') (hS : S = argsL.reverse ++ .ref a :: rest) (has : (.ref a :: argsL).toArray = as) (hpd : parseMethodDescriptor y.desc = some ⟨ps, rt⟩) (hlen : argsL.length = ps.length) (hL : L.size = ml) (hW : 2 * 0 + (rest.map fun v => v.category).sum ≤ W) (hf : rm.frames + 1 ≤ R.frames) (hl : W + (ml' + 11) + rm.locals ≤ R.locals) (hc : k + rm.cells ≤ R.cells) (hs : n + rm.slots ≤ R.slots)
    (K : ∀ v h', Q' v h' → oGo Z own nm bytes ml ret R n0 Q (k + rm.cells) (n + rm.slots) h' q L (v.toList ++ rest)) : oGo Z own nm bytes ml ret R n0 Q k n h pc L S :=
  fun p l e s m args below meth c T locs C X eT N => by
    obtain ⟨hx, hZ, hby, hml, hown, hrt, hlk, hnm⟩ := C
    subst hq
    obtain ⟨v, _, ⟨T', L2, k2, n2⟩, -, X', ⟨Lc, hQ', l', y', z'⟩, st⟩ := X.specialBack hx (y := y) hy1 hown (mvT hZ w1) (mvT hZ w2) (mvT hZ w4) hy (backOf (W := W) (Q := fun v h' L => Q' v h' ∧ Fr n0 L) (hC l []) hZ w4 w3 hf hl) (g := mkF m pc L S) rfl (by rw [hml]; exact hL) (Steps.refl _) (a := a) (argsL := argsL) (rest := rest) (lenOf hpd hlen) hS hW (hb hby hd) (fun _ _ => ⟨has, eT, hc, hs⟩)
    dsimp only [Pt.U, Pt.locs, Pt.cells, Pt.slots] at X' l' y' z' st hQ'
    subst l' y' z'
    obtain ⟨s₂, o, h1, r⟩ := K v T'.heap hQ'.1 p l e s m args below meth c T' _ ⟨hx, hZ, hby, hml, hown, hrt, hlk, hnm⟩ X' rfl (Fr.app N hQ'.2)
    exact ⟨s₂, o, st.trans h1, r⟩
theorem oGo.callV {y z : MethodName} {C : String} {i W : Nat} {bytes' : ByteArray} {ml' : Nat} {ret' : Option FieldType} {rm : Room} {as : Array Value} {Q' : Option Value → Heap → Prop} {ps : List FieldType} {rt : Option FieldType} {a : Addr} (argsL rest : List Value) (hd : decode bytes pc = .ok (.invokevirtual i, 3)) (hq : pc + 3 = q)
    (w1 : (Cond.methodLink own i y).before a0 Z = true) (w2 : (Cond.declares y).before a0 Z = true) (w5 : (Cond.selects C y z).before a0 Z = true) (w6 : (Cond.instanceMethod z).before a0 Z = true) (w3 : (Cond.initialized z.cls).before a0 Z = true) (w4 : (Cond.code z bytes' ml' ret').before a0 Z = true) (hyz : y = z) (hy : y.cls ≠ "java/lang/invoke/MethodHandle" ∧ y.cls ≠ "java/lang/invoke/VarHandle") (E : Exa Z h a C)
    (hC : oCon Z z bytes' ml' ret' rm as h n0 Q') (hS : S = argsL.reverse ++ .ref a :: rest) (has : (.ref a :: argsL).toArray = as) (hpd : parseMethodDescriptor y.desc = some ⟨ps, rt⟩) (hlen : argsL.length = ps.length) (hL : L.size = ml) (hW : 2 * 0 + (rest.map fun v => v.category).sum ≤ W) (hf : rm.frames + 1 ≤ R.frames) (hl : W + (ml' + 11) + rm.locals ≤ R.locals) (hc : k + rm.cells ≤ R.cells) (hs : n + rm.slots ≤ R.slots)
    (K : ∀ v h', Q' v h' → oGo Z own nm bytes ml ret R n0 Q (k + rm.cells) (n + rm.slots) h' q L (v.toList ++ rest)) : oGo Z own nm bytes ml ret R n0 Q k n h pc L S :=
  fun p l e s m args below meth c T locs Cx X eT N => by
    obtain ⟨hx, hZ, hby, hml, hown, hrt, hlk, hnm⟩ := Cx
    subst hq hyz
    obtain ⟨cq, kq, qa, qb, qc⟩ := isOf (T := T) hZ eT E
    obtain ⟨v, _, ⟨T', L2, k2, n2⟩, -, X', ⟨Lc, hQ', l', y', z'⟩, st⟩ := X.virtualBack hx (y := y) (z := y) hown (mvT hZ w1) (mvT hZ w2) (notFace_of_selects (args := #[]) (mvT hZ w5)) (mvT hZ w5) (mvT hZ w6) hy (backOf (W := W) (Q := fun v h' L => Q' v h' ∧ Fr n0 L) (hC l []) hZ w4 w3 hf hl) qa qc (g := mkF m pc L S) rfl (by rw [hml]; exact hL) (Steps.refl _) (argsL := argsL) (rest := rest) (lenOf hpd hlen) hS hW (hb hby hd) (fun _ _ => ⟨has, eT, hc, hs⟩)
    dsimp only [Pt.U, Pt.locs, Pt.cells, Pt.slots] at X' l' y' z' st hQ'
    subst l' y' z'
    obtain ⟨s₂, o, h1, r⟩ := K v T'.heap hQ'.1 p l e s m args below meth c T' _ ⟨hx, hZ, hby, hml, hown, hrt, hlk, hnm⟩ X' rfl (Fr.app N hQ'.2)
    exact ⟨s₂, o, st.trans h1, r⟩
theorem oGo.initO {i W : Nat} {a : Addr} (hd : decode bytes pc = .ok (.invokespecial i, 3)) (hq : pc + 3 = q) (w1 : (Cond.methodLink own i Lib.objectInit).before a0 Z = true) (w2 : (Cond.instanceMethod Lib.objectInit).before a0 Z = true) (w3 : (Cond.code Lib.objectInit ⟨#[0xb1]⟩ 1 none).before a0 Z = true) (hL : L.size = ml) (hf : 1 ≤ R.frames) (hW : 2 * 0 + (S.map fun v => v.category).sum ≤ W) (hl : W + 12 ≤ R.locals) (K : oGo Z own nm bytes ml ret R n0 Q k n h q L S) : oGo Z own nm bytes ml ret R n0 Q k n h pc L (.ref a :: S) :=
  fun p l e s m args below meth c T locs C X eT N => by
    obtain ⟨hx, hZ, hby, hml, hown, hrt, hlk, hnm⟩ := C
    subst hq
    obtain ⟨T', X', e', st⟩ := Jvm.RoadKit.initO X hx hZ hown w1 w2 w3 eT (g := mkF m pc L (.ref a :: S)) rfl (by rw [hml]; exact hL) rfl (hb hby hd) hf hW hl
    obtain ⟨s₂, o, h1, r⟩ := K p l e s m args below meth c T' locs ⟨hx, hZ, hby, hml, hown, hrt, hlk, hnm⟩ X' e' N
    exact ⟨s₂, o, st _ h1, r⟩
/-! objects -/
theorem own_keep {h h' : Heap} (E : Ext h h') : Keep h h' [] := (Keep.refl h []).ext E
theorem oGo.newO {C : String} {i nn : Nat} (hd : decode bytes pc = .ok (.new i, 3)) (hq : pc + 3 = q) (w : (Cond.classLink own i C).before a0 Z = true) (wi : (Cond.instantiable C nn).before a0 Z = true) (wz : (Cond.initialized C).before a0 Z = true) (hc : k + 1 ≤ R.cells) (hs : n + nn ≤ R.slots)
    (K : ∀ h' a, a = h.size → Keep h h' [] → Exa Z h' a C → (∀ {O f d : String} {ty : FieldType}, Laid Z a0 C O f d → parseFieldDescriptor d = some ty → Fld Z h' a O f d (defaultValue ty)) → oGo Z own nm bytes ml ret R n0 Q (k + 1) (n + nn) h' q L (.ref a :: S)) : oGo Z own nm bytes ml ret R n0 Q k n h pc L S :=
  fun p l e s m args below meth c T locs Cx X eT N => by
    obtain ⟨hx, hZ, hby, hml, hown, hrt, hlk, hnm⟩ := Cx
    subst hq
    obtain ⟨T', h', X', e', E, A, D, -, st⟩ := Jvm.RoadKit.newO X hx hZ hown w wi wz eT (g := mkF m pc L S) rfl (hb hby hd) hc hs
    obtain ⟨s₂, o, h1, r⟩ := K h' h.size rfl (own_keep E) A D p l e s m args below meth c T' locs ⟨hx, hZ, hby, hml, hown, hrt, hlk, hnm⟩ X' e' N
    exact ⟨s₂, o, st _ h1, r⟩
theorem oGo.getF {R0 O f d host : String} {i : Nat} {a : Addr} {v : Value} (hd : decode bytes pc = .ok (.getfield i, 3)) (hq : pc + 3 = q) (w : (Cond.fieldLink own i R0 f d).before a0 Z = true ∨ (Cond.fieldLinkNest own i R0 f d host).before a0 Z = true) (via : Via Z R0 O f d) (F : Fld Z h a O f d v) (K : oGo Z own nm bytes ml ret R n0 Q k n h q L (v :: S)) : oGo Z own nm bytes ml ret R n0 Q k n h pc L (.ref a :: S) :=
  fun p l e s m args below meth c T locs C X eT N => by
    obtain ⟨hx, hZ, hby, hml, hown, hrt, hlk, hnm⟩ := C
    subst hq
    obtain ⟨T', X', e', st⟩ := Jvm.RoadKit.getF X hx hZ hown w via eT F (g := mkF m pc L (.ref a :: S)) rfl rfl (hb hby hd)
    obtain ⟨s₂, o, h1, r⟩ := K p l e s m args below meth c T' locs ⟨hx, hZ, hby, hml, hown, hrt, hlk, hnm⟩ X' e' N
    exact ⟨s₂, o, st _ h1, r⟩
theorem oGo.getS {R0 O f d : String} {i : Nat} {v : Value} (hd : decode bytes pc = .ok (.getstatic i, 3)) (hq : pc + 3 = q) (w : (Cond.fieldLink own i R0 f d).before a0 Z = true) (via : Via Z R0 O f d) (F : Sta Z h O f d v) (K : oGo Z own nm bytes ml ret R n0 Q k n h q L (v :: S)) : oGo Z own nm bytes ml ret R n0 Q k n h pc L S :=
  fun p l e s m args below meth c T locs C X eT N => by
    obtain ⟨hx, hZ, hby, hml, hown, hrt, hlk, hnm⟩ := C
    subst hq
    obtain ⟨T', X', e', st⟩ := Jvm.RoadKit.getS (host := "") X hx hZ hown w via eT F (g := mkF m pc L S) rfl (hb hby hd)
    obtain ⟨s₂, o, h1, r⟩ := K p l e s m args below meth c T' locs ⟨hx, hZ, hby, hml, hown, hrt, hlk, hnm⟩ X' e' N
    exact ⟨s₂, o, st _ h1, r⟩
theorem oGo.putF {R0 O f d host C : String} {i kk : Nat} {ty : FieldType} {a : Addr} {v w0 : Value} (hd : decode bytes pc = .ok (.putfield i, 3)) (hq : pc + 3 = q) (w : (Cond.fieldLink own i R0 f d).before a0 Z = true ∨ (Cond.fieldLinkNest own i R0 f d host).before a0 Z = true) (via : Via Z R0 O f d) (F : Fld Z h a O f d w0) (E : Exa Z h a C)
    (Lw : (Cond.lays C O f d).before a0 Z = true ∨ ((Cond.laysFinal C O f d).before a0 Z = true ∧ own = O ∧ nm = "<init>")) (wi : (Cond.instantiable C kk).before a0 Z = true) (hty : parseFieldDescriptor d = some ty) (hn : narrow ty v = v) (hf : fits ty v = true) (ha : n0 ≤ a)
    (K : ∀ h', Keep h h' [a] → Exa Z h' a C → Fld Z h' a O f d v → (∀ {O' f' d' : String} {u : Value}, Jvm.RoadKit.slotOf Z O' f' d' ≠ Jvm.RoadKit.slotOf Z O f d → Fld Z h a O' f' d' u → Fld Z h' a O' f' d' u) → oGo Z own nm bytes ml ret R n0 Q k n h' q L S) : oGo Z own nm bytes ml ret R n0 Q k n h pc L (v :: .ref a :: S) :=
  fun p l e s m args below meth c T locs Cx X eT N => by
    obtain ⟨hx, hZ, hby, hml, hown, hrt, hlk, hnm⟩ := Cx
    subst hq
    obtain ⟨T', h', X', e', W, st⟩ := Jvm.RoadKit.putF X hx hZ hown w via eT F E (Lw.imp id fun u => ⟨u.1, u.2.1, hnm.trans u.2.2⟩) wi hty hn hf (g := mkF m pc L (v :: .ref a :: S)) rfl rfl (hb hby hd)
    obtain ⟨s₂, o, h1, r⟩ := K h' (Keep.of_wr W) (E.wr W) (F.same W) (fun hne G => G.other W (Or.inr hne)) p l e s m args below meth c T' _ ⟨hx, hZ, hby, hml, hown, hrt, hlk, hnm⟩ X' e' (Fr.snoc X' N ha)
    exact ⟨s₂, o, st _ h1, r⟩
/-! arrays -/
def Ars (Z : State) (h : Heap) (a : Addr) (ty : FieldType) (vs : List Value) : Prop := ∃ c : Cell, Arr Z h a c ty ∧ c.slots.toList = vs ∧ ∀ v ∈ vs, fits ty v = true
theorem Ars.lt {a : Addr} {ty : FieldType} {vs : List Value} (A : Ars Z h a ty vs) : a < h.size := by obtain ⟨c, A, -⟩ := A; exact A.lt
theorem Ars.keep {h' : Heap} {ws : List Addr} {a : Addr} {ty : FieldType} {vs : List Value} (A : Ars Z h a ty vs) (K : Keep h h' ws) (q : a ∉ ws) : Ars Z h' a ty vs := by obtain ⟨c, A, r⟩ := A; exact ⟨c, ⟨K.2.1 a c A.1 q, A.2⟩, r⟩
theorem own_cn {j : Int32} {i : Nat} (hi : j.toInt = (i : Int)) : j.toNatClampNeg = i := by simp [Int32.toNatClampNeg, hi]
theorem own_in {j : Int32} {i : Nat} {c : Cell} {vs : List Value} (hi : j.toInt = (i : Int)) (hc : c.slots.toList = vs) (hl : i < vs.length) : ¬ (j < 0 ∨ c.slots.size ≤ j.toNatClampNeg) := by
  have e1 : c.slots.size = vs.length := by rw [← hc]; simp
  rw [own_cn hi, e1]
  rintro (u | u)
  · have := Int32.lt_iff_toInt_lt.mp u; have e0 : (0 : Int32).toInt = 0 := rfl; omega
  · omega
theorem own_at {j : Int32} {i : Nat} {c : Cell} {vs : List Value} {v : Value} (hi : j.toInt = (i : Int)) (hc : c.slots.toList = vs) (hv : vs[i]? = some v) : c.slots[j.toNatClampNeg]? = some v := by
  rw [own_cn hi, ← hv, ← hc]; simp
theorem Ars.wr {h' : Heap} {a : Addr} {ty : FieldType} {vs : List Value} {c : Cell} {i : Nat} {v : Value} {j : Int32} (hi : j.toInt = (i : Int)) (A : Arr Z h a c ty) (hc : c.slots.toList = vs) (hf : ∀ v ∈ vs, fits ty v = true) (hv : fits ty v = true) (W : Wr h h' a j.toNatClampNeg v) : Ars Z h' a ty (vs.set i v) := by
  refine ⟨_, A.same W, ?_, fun u hu => ?_⟩
  · rw [← hc, own_cn hi]; simp [Cell.setSlot]
  · rcases List.mem_or_eq_of_mem_set hu with u1 | u1
    · exact hf u u1
    · exact u1 ▸ hv
theorem oGo.newP {aty : ArrayType} {nn : Int32} {len : Nat} {ad : String} (cap : Nat) (hd : decode bytes pc = .ok (.newarray aty, 2)) (hq : pc + 2 = q) (w : (Cond.arrayClass (newarray.typeOf aty)).before a0 Z = true) (hn : nn.toInt = (len : Int)) (hcap : len ≤ cap) (hb8 : cap * 8 ≤ 536870912) (hc : k + 1 ≤ R.cells) (hs : n + cap ≤ R.slots) (had : "[" ++ (newarray.typeOf aty).toString = ad)
    (K : ∀ h' a, a = h.size → Keep h h' [] → Ars Z h' a (newarray.typeOf aty) (List.replicate len (defaultValue (newarray.typeOf aty))) → Exa Z h' a ad → oGo Z own nm bytes ml ret R n0 Q (k + 1) (n + cap) h' q L (.ref a :: S)) : oGo Z own nm bytes ml ret R n0 Q k n h pc L (.int nn :: S) :=
  fun p l e s m args below meth c T locs Cx X eT N => by
    obtain ⟨hx, hZ, hby, hml, hown, hrt, hlk, hnm⟩ := Cx
    subst hq
    have h0 : ¬ nn < 0 := fun u => by have := Int32.lt_iff_toInt_lt.mp u; have e0 : (0 : Int32).toInt = 0 := rfl; omega
    obtain ⟨T', h', cA, X', e', E, A, EA, st⟩ := Jvm.RoadKit.newPE X hx hZ w eT (g := mkF m pc L (.int nn :: S)) rfl (hb hby hd) rfl h0 (cap := cap) (by rw [own_cn hn]; exact hcap) hb8 hc hs had
    obtain ⟨s₂, o, h1, r⟩ := K h' h.size rfl (own_keep E) ⟨_, A, by simp [newA, own_cn hn], fun v hv => by rw [(List.mem_replicate.mp hv).2]; cases aty <;> rfl⟩ EA p l e s m args below meth c T' locs ⟨hx, hZ, hby, hml, hown, hrt, hlk, hnm⟩ X' e' N
    exact ⟨s₂, o, st _ h1, r⟩
theorem oGo.cast {i : Nat} {C : String} {a : Addr} (hd : decode bytes pc = .ok (.checkcast i, 3)) (hq : pc + 3 = q) (w : (Cond.classLink own i C).before a0 Z = true) (F : Ins Z h a C true) (K : oGo Z own nm bytes ml ret R n0 Q k n h q L (.ref a :: S)) : oGo Z own nm bytes ml ret R n0 Q k n h pc L (.ref a :: S) :=
  fun p l e s m args below meth c T locs Cx X eT N => by
    obtain ⟨hx, hZ, hby, hml, hown, hrt, hlk, hnm⟩ := Cx
    subst hq
    obtain ⟨T', X', e', st⟩ := Jvm.RoadKit.castY X hx hZ hown w eT F (g := mkF m pc L (.ref a :: S)) rfl rfl (hb hby hd)
    obtain ⟨s₂, o, h1, r⟩ := K p l e s m args below meth c T' locs ⟨hx, hZ, hby, hml, hown, hrt, hlk, hnm⟩ X' e' N
    exact ⟨s₂, o, st _ h1, r⟩
theorem oGo.arraylength {a : Addr} {ty : FieldType} {vs : List Value} {v : Int32} (hd : decode bytes pc = .ok (.arraylength, 1)) (hq : pc + 1 = q) (A : Ars Z h a ty vs) (hv : Int32.ofNat vs.length = v) (K : oGo Z own nm bytes ml ret R n0 Q k n h q L (.int v :: S)) : oGo Z own nm bytes ml ret R n0 Q k n h pc L (.ref a :: S) :=
  fun p l e s m args below meth c T locs Cx X eT N => by
    obtain ⟨hx, hZ, hby, hml, hown, hrt, hlk, hnm⟩ := Cx
    subst hq
    obtain ⟨cl, A, hc, -⟩ := A
    have e1 : cl.slots.size.toInt32 = v := by rw [← hv, ← hc, Array.length_toList]
    obtain ⟨s₂, o, h1, r⟩ := K p l e s m args below meth c T locs ⟨hx, hZ, hby, hml, hown, hrt, hlk, hnm⟩ X eT N
    exact ⟨s₂, o, X.arraylength hx (by rw [eT]; exact A.1) (State.isArrayOf_alike hZ.alike A.2.1) (g := mkF m pc L (.ref a :: S)) rfl rfl (hb hby hd) _ (by rw [e1]; exact h1), r⟩
theorem oGo.iaload {a : Addr} {j : Int32} {i : Nat} {vs : List Value} {v : Value} (hd : decode bytes pc = .ok (.iaload, 1)) (hq : pc + 1 = q) (A : Ars Z h a .int vs) (hi : j.toInt = (i : Int)) (hv : vs[i]? = some v) (K : oGo Z own nm bytes ml ret R n0 Q k n h q L (v :: S)) : oGo Z own nm bytes ml ret R n0 Q k n h pc L (.int j :: .ref a :: S) :=
  fun p l e s m args below meth c T locs Cx X eT N => by
    obtain ⟨hx, hZ, hby, hml, hown, hrt, hlk, hnm⟩ := Cx
    subst hq
    obtain ⟨cl, A, hc, -⟩ := A
    obtain ⟨s₂, o, h1, r⟩ := K p l e s m args below meth c T locs ⟨hx, hZ, hby, hml, hown, hrt, hlk, hnm⟩ X eT N
    exact ⟨s₂, o, X.iaload hx (by rw [eT]; exact A.1) (State.isArrayOf_alike hZ.alike A.2.1) A.2.2 (own_in hi hc (List.getElem?_eq_some_iff.mp hv).1) (own_at hi hc hv) (g := mkF m pc L (.int j :: .ref a :: S)) rfl rfl (hb hby hd) _ h1, r⟩
theorem oGo.laload {a : Addr} {j : Int32} {i : Nat} {vs : List Value} {v : Value} (hd : decode bytes pc = .ok (.laload, 1)) (hq : pc + 1 = q) (A : Ars Z h a .long vs) (hi : j.toInt = (i : Int)) (hv : vs[i]? = some v) (K : oGo Z own nm bytes ml ret R n0 Q k n h q L (v :: S)) : oGo Z own nm bytes ml ret R n0 Q k n h pc L (.int j :: .ref a :: S) :=
  fun p l e s m args below meth c T locs Cx X eT N => by
    obtain ⟨hx, hZ, hby, hml, hown, hrt, hlk, hnm⟩ := Cx
    subst hq
    obtain ⟨cl, A, hc, -⟩ := A
    obtain ⟨s₂, o, h1, r⟩ := K p l e s m args below meth c T locs ⟨hx, hZ, hby, hml, hown, hrt, hlk, hnm⟩ X eT N
    exact ⟨s₂, o, X.laload hx (by rw [eT]; exact A.1) (State.isArrayOf_alike hZ.alike A.2.1) A.2.2 (own_in hi hc (List.getElem?_eq_some_iff.mp hv).1) (own_at hi hc hv) (g := mkF m pc L (.int j :: .ref a :: S)) rfl rfl (hb hby hd) _ h1, r⟩
theorem oGo.baload {a : Addr} {j : Int32} {i : Nat} {vs : List Value} {v : Value} (hd : decode bytes pc = .ok (.baload, 1)) (hq : pc + 1 = q) (A : Ars Z h a .byte vs) (hi : j.toInt = (i : Int)) (hv : vs[i]? = some v) (K : oGo Z own nm bytes ml ret R n0 Q k n h q L (v :: S)) : oGo Z own nm bytes ml ret R n0 Q k n h pc L (.int j :: .ref a :: S) :=
  fun p l e s m args below meth c T locs Cx X eT N => by
    obtain ⟨hx, hZ, hby, hml, hown, hrt, hlk, hnm⟩ := Cx
    subst hq
    obtain ⟨cl, A, hc, -⟩ := A
    obtain ⟨s₂, o, h1, r⟩ := K p l e s m args below meth c T locs ⟨hx, hZ, hby, hml, hown, hrt, hlk, hnm⟩ X eT N
    exact ⟨s₂, o, X.baloadBytes hx (by rw [eT]; exact A.1) (State.isArrayOf_alike hZ.alike A.2.1) A.2.2 (own_in hi hc (List.getElem?_eq_some_iff.mp hv).1) (own_at hi hc hv) (g := mkF m pc L (.int j :: .ref a :: S)) rfl rfl (hb hby hd) _ h1, r⟩
theorem oGo.iastore {a : Addr} {j : Int32} {x : Int32} {i : Nat} {vs : List Value} (hd : decode bytes pc = .ok (.iastore, 1)) (hq : pc + 1 = q) (A : Ars Z h a .int vs) (hi : j.toInt = (i : Int)) (hl : i < vs.length) (ha : n0 ≤ a) (K : ∀ h', Keep h h' [a] → Ars Z h' a .int (vs.set i (.int x)) → oGo Z own nm bytes ml ret R n0 Q k n h' q L S) : oGo Z own nm bytes ml ret R n0 Q k n h pc L (.int x :: .int j :: .ref a :: S) :=
  fun p l e s m args below meth c T locs Cx X eT N => by
    obtain ⟨hx, hZ, hby, hml, hown, hrt, hlk, hnm⟩ := Cx
    subst hq
    obtain ⟨cl, A, hc, hf⟩ := A
    obtain ⟨T', h', X', e', W, st⟩ := Jvm.RoadKit.stI X hx hZ eT A (own_in hi hc hl) (g := mkF m pc L (.int x :: .int j :: .ref a :: S)) rfl rfl (hb hby hd)
    obtain ⟨s₂, o, h1, r⟩ := K h' (Keep.of_wr W) (Ars.wr hi A hc hf rfl W) p l e s m args below meth c T' _ ⟨hx, hZ, hby, hml, hown, hrt, hlk, hnm⟩ X' e' (Fr.snoc X' N ha)
    exact ⟨s₂, o, st _ h1, r⟩
theorem oGo.lastore {a : Addr} {j : Int32} {x : Int64} {i : Nat} {vs : List Value} (hd : decode bytes pc = .ok (.lastore, 1)) (hq : pc + 1 = q) (A : Ars Z h a .long vs) (hi : j.toInt = (i : Int)) (hl : i < vs.length) (ha : n0 ≤ a) (K : ∀ h', Keep h h' [a] → Ars Z h' a .long (vs.set i (.long x)) → oGo Z own nm bytes ml ret R n0 Q k n h' q L S) : oGo Z own nm bytes ml ret R n0 Q k n h pc L (.long x :: .int j :: .ref a :: S) :=
  fun p l e s m args below meth c T locs Cx X eT N => by
    obtain ⟨hx, hZ, hby, hml, hown, hrt, hlk, hnm⟩ := Cx
    subst hq
    obtain ⟨cl, A, hc, hf⟩ := A
    obtain ⟨T', h', X', e', W, st⟩ := Jvm.RoadKit.stJ X hx hZ eT A (own_in hi hc hl) (g := mkF m pc L (.long x :: .int j :: .ref a :: S)) rfl rfl (hb hby hd)
    obtain ⟨s₂, o, h1, r⟩ := K h' (Keep.of_wr W) (Ars.wr hi A hc hf rfl W) p l e s m args below meth c T' _ ⟨hx, hZ, hby, hml, hown, hrt, hlk, hnm⟩ X' e' (Fr.snoc X' N ha)
    exact ⟨s₂, o, st _ h1, r⟩
theorem oGo.bastore {a : Addr} {j x y : Int32} {i : Nat} {vs : List Value} (hd : decode bytes pc = .ok (.bastore, 1)) (hq : pc + 1 = q) (A : Ars Z h a .byte vs) (hi : j.toInt = (i : Int)) (hl : i < vs.length) (ha : n0 ≤ a) (hy : x.toInt8.toInt32 = y) (K : ∀ h', Keep h h' [a] → Ars Z h' a .byte (vs.set i (.int y)) → oGo Z own nm bytes ml ret R n0 Q k n h' q L S) : oGo Z own nm bytes ml ret R n0 Q k n h pc L (.int x :: .int j :: .ref a :: S) :=
  fun p l e s m args below meth c T locs Cx X eT N => by
    obtain ⟨hx, hZ, hby, hml, hown, hrt, hlk, hnm⟩ := Cx
    subst hq hy
    obtain ⟨cl, A, hc, hf⟩ := A
    obtain ⟨T', h', X', e', W, st⟩ := Jvm.RoadKit.stB X hx hZ eT A (own_in hi hc hl) (g := mkF m pc L (.int x :: .int j :: .ref a :: S)) rfl rfl (hb hby hd)
    obtain ⟨s₂, o, h1, r⟩ := K h' (Keep.of_wr W) (Ars.wr hi A hc hf (fits_nar_byte x) W) p l e s m args below meth c T' _ ⟨hx, hZ, hby, hml, hown, hrt, hlk, hnm⟩ X' e' (Fr.snoc X' N ha)
    exact ⟨s₂, o, st _ h1, r⟩
/-! small numbers -/
theorem own_oi {i : Nat} (hi : i < 2147483648) : (Int32.ofNat i).toInt = (i : Int) := Int32.toInt_ofNat_of_lt (by omega)
theorem own_oinc (i : Nat) : Int32.ofNat i + Int32.ofInt 1 = Int32.ofNat (i + 1) := (Int32.ofNat_add i 1).symm
theorem own_oadd {i m : Nat} {c : Int32} (hc : c = Int32.ofNat m) : Int32.ofNat i + c = Int32.ofNat (i + m) := by rw [hc]; exact (Int32.ofNat_add i m).symm
theorem own_oiadd {i m : Nat} {c : Int32} (hc : c = Int32.ofNat m) (h : i + m < 2147483648) : (Int32.ofNat i + c).toInt = ((i + m : Nat) : Int) := by rw [own_oadd hc]; exact own_oi h
theorem own_pred {i : Nat} (hi : i < 2147483647) : (Int32.ofNat (i + 1) - (1 : Int32)).toInt = (i : Int) := by
  have a := c_isub (Int32.ofNat (i + 1)) 1
  have e := own_oi (i := i + 1) (by omega)
  have z : (1 : Int32).toInt = 1 := by decide
  have r := rng32 (Int32.ofNat (i + 1) - 1)
  omega
theorem own_bb (x : Int32) : x.toInt8.toInt32.toInt8.toInt32 = x.toInt8.toInt32 := by
  apply Int32.toInt_inj.mp
  have h1 := c_i2b x
  have h2 := c_i2b x.toInt8.toInt32
  omega
def own_ints (vs : List Value) (n : Nat) : Prop := vs.length = n ∧ ∀ k, k < n → ∃ x : Int32, vs[k]? = some (.int x)
theorem own_ints.set {vs : List Value} {n i : Nat} {x : Int32} (u : own_ints vs n) : own_ints (vs.set i (.int x)) n := by
  refine ⟨by rw [List.length_set]; exact u.1, fun k hk => ?_⟩
  by_cases e : i = k
  · subst e; exact ⟨x, List.getElem?_set_self (by rw [u.1]; exact hk)⟩
  · rw [List.getElem?_set_ne e]; exact u.2 k hk
theorem own_irem (x y : Int32) (hx : 0 ≤ x.toInt) : (x % y).toInt = x.toInt % y.toInt := by rw [Int32.toInt_mod]; exact (tr _ _).1 hx
theorem own_lrem (x y : Int64) (hx : 0 ≤ x.toInt) : (x % y).toInt = x.toInt % y.toInt := by rw [Int64.toInt_mod]; exact (tr _ _).1 hx
theorem own_int32 {x y : Int32} (e : x.toInt = y.toInt) : x = y := Int32.toInt_inj.mp e
theorem own_int64 {x y : Int64} (e : x.toInt = y.toInt) : x = y := Int64.toInt_inj.mp e
theorem own_nat {x : Int32} {i : Nat} (e : x.toInt = (i : Int)) (hi : i < 2147483648) : x = Int32.ofNat i := own_int32 (e.trans (own_oi hi).symm)
/-! System.arraycopy -/
theorem Ars.arv {a : Addr} {ty : FieldType} {vs : List Value} (dv : Value) (A : Ars Z h a ty vs) (hl : vs.length < 2147483648) : ∃ k, Arv Z h a k ty (Int32.ofNat vs.length) vs dv := by
  obtain ⟨c, A, hc, hf⟩ := A
  have e1 : c.slots.size = vs.length := by rw [← hc, Array.length_toList]
  have e2 : (Int32.ofNat vs.length).toNatClampNeg = vs.length := own_cn (own_oi hl)
  refine ⟨c.cls, c, A, rfl, by rw [e1, e2], fun u => ?_, fun k hk => ?_, fun i hi => ?_⟩
  · have := Int32.lt_iff_toInt_lt.mp u
    have e0 : (0 : Int32).toInt = 0 := rfl
    rw [own_oi hl] at this
    omega
  · rw [e1] at hk
    rw [← Array.getElem?_toList, hc, List.getD_eq_getElem?_getD, List.getElem?_eq_getElem hk]
    rfl
  · rw [e1] at hi
    rw [List.getD_eq_getElem?_getD, List.getElem?_eq_getElem hi]
    exact hf _ (List.getElem_mem hi)
theorem Ars.of_arv {a : Addr} {ty : FieldType} {vs : List Value} {dv : Value} {z : Int32} {k : ClassId} (A : Arv Z h a k ty z vs dv) (hz : z.toNatClampNeg = vs.length) : Ars Z h a ty vs := by
  obtain ⟨c, A, -, e1, -, H, F⟩ := A
  rw [hz] at e1
  refine ⟨c, A, List.ext_getElem? fun i => ?_, fun v hv => ?_⟩
  · rw [Array.getElem?_toList]
    by_cases u : i < vs.length
    · rw [H i (by rw [e1]; exact u), List.getD_eq_getElem?_getD, List.getElem?_eq_getElem u]; rfl
    · rw [List.getElem?_eq_none (by omega), Array.getElem?_eq_none (by omega)]
  · obtain ⟨i, hi, rfl⟩ := List.mem_iff_getElem.mp hv
    have := F i (by rw [e1]; exact hi)
    rwa [List.getD_eq_getElem?_getD, List.getElem?_eq_getElem hi] at this
theorem own_us {vs : List Value} {si len : Nat} {dv : Value} (hl : si + len ≤ vs.length) : (vs.drop si).take len = (List.range len).map fun i => vs.getD (si + i) dv := by
  apply List.ext_getElem
  · simp; omega
  · intro i h1 h2
    simp only [List.length_map, List.length_range] at h2
    simp [List.getD_eq_getElem?_getD, List.getElem?_eq_getElem (show si + i < vs.length by omega)]
theorem own_nn {j : Int32} {i : Nat} (hi : j.toInt = (i : Int)) : ¬ j < 0 := fun u => by
  have := Int32.lt_iff_toInt_lt.mp u
  have e0 : (0 : Int32).toInt = 0 := rfl
  omega
theorem oGo.acopy {i W : Nat} {a b : Addr} {ty : FieldType} {vs vd : List Value} {sp dp nn : Int32} {si di len : Nat} (hd : decode bytes pc = .ok (.invokestatic i, 3)) (hq : pc + 3 = q)
    (w1 : (Cond.methodLink own i Jvm.Stand.acN).before a0 Z = true) (w2 : (Cond.native Jvm.Stand.acN).before a0 Z = true) (w3 : (Cond.static Jvm.Stand.acN).before a0 Z = true) (w4 : (Cond.initialized "java/lang/System").before a0 Z = true)
    (A : Ars Z h a ty vs) (B : Ars Z h b ty vd) (hty : refKind ty = false) (h1 : sp.toInt = (si : Int)) (h2 : dp.toInt = (di : Int)) (h3 : nn.toInt = (len : Int)) (h4 : si + len ≤ vs.length) (h5 : di + len ≤ vd.length) (l1 : vs.length < 2147483648) (l2 : vd.length < 2147483648) (ge : n0 ≤ b) (hL : L.size = ml) (hf : 1 ≤ R.frames) (hW : 2 * 0 + (S.map fun v => v.category).sum ≤ W) (hlo : W + (nativeFrameWords "java/lang/System" "arraycopy" 5 + 11) ≤ R.locals)
    (K : ∀ h', Keep h h' [b] → Ars Z h' b ty (vd.take di ++ (vs.drop si).take len ++ vd.drop (di + len)) → oGo Z own nm bytes ml ret R n0 Q k n h' q L S) : oGo Z own nm bytes ml ret R n0 Q k n h pc L (.int nn :: .int dp :: .ref b :: .int sp :: .ref a :: S) :=
  fun p l e s m args below meth c T locs Cx X eT N => by
    obtain ⟨hx, hZ, hby, hml, hown, hrt, hlk, hnm⟩ := Cx
    subst hq
    obtain ⟨k1, A'⟩ := A.arv .null l1
    obtain ⟨k2, B'⟩ := B.arv .null l2
    have c1 := own_cn h1
    have c2 := own_cn h2
    have c3 := own_cn h3
    have e1 := own_cn (own_oi l1)
    have e2 := own_cn (own_oi l2)
    obtain ⟨T', h', L', X', e', N', K', B'', st⟩ := cpA X hx hZ hown w1 w2 w3 w4 eT A' B' (Or.inl ⟨rfl, hty⟩) (own_nn h1) (own_nn h2) (own_nn h3) (by rw [c1, c3, e1]; exact h4) (by rw [c2, c3, e2]; exact h5) rfl (by rw [c2, c3]; exact h5) N ge (g := mkF m pc L (.int nn :: .int dp :: .ref b :: .int sp :: .ref a :: S)) rfl (by rw [hml]; exact hL) rfl (hb hby hd) hf hW hlo
    rw [c1, c2, c3, ← own_us h4] at B''
    obtain ⟨s₂, o, g1, r⟩ := K h' K' (Ars.of_arv B'' (by rw [e2]; simp only [List.length_append, List.length_take, List.length_drop]; omega)) p l e s m args below meth c T' L' ⟨hx, hZ, hby, hml, hown, hrt, hlk, hnm⟩ X' e' N'
    exact ⟨s₂, o, st _ g1, r⟩
theorem oGo.clone {i W : Nat} {ad : String} {a : Addr} {ty : FieldType} {vs : List Value} (cap : Nat) (hd : decode bytes pc = .ok (.invokevirtual i, 3)) (hq : pc + 3 = q)
    (w1 : (Cond.methodLink own i ⟨ad, "clone", "()Ljava/lang/Object;"⟩).before a0 Z = true) (w2 : (Cond.sameMethod ad "java/lang/Object" "clone" "()Ljava/lang/Object;").before a0 Z = true) (w3 : (Cond.native ⟨"java/lang/Object", "clone", "()Ljava/lang/Object;"⟩).before a0 Z = true)
    (w4 : (Cond.instanceMethod ⟨"java/lang/Object", "clone", "()Ljava/lang/Object;"⟩).before a0 Z = true) (w5 : (Cond.selects ad ⟨ad, "clone", "()Ljava/lang/Object;"⟩ ⟨"java/lang/Object", "clone", "()Ljava/lang/Object;"⟩).before a0 Z = true) (w6 : (Cond.castable ad "java/lang/Cloneable").before a0 Z = true)
    (A : Ars Z h a ty vs) (E : Exa Z h a ad) (hl : vs.length < 2147483648) (hcap : vs.length ≤ cap) (hL : L.size = ml) (hf : 1 ≤ R.frames) (hW : 2 * 0 + (S.map fun v => v.category).sum ≤ W) (hlo : W + 14 ≤ R.locals) (hc : k + 1 ≤ R.cells) (hs : n + cap ≤ R.slots)
    (K : ∀ h' b, b = h.size → Keep h h' [] → Ars Z h' b ty vs → Exa Z h' b ad → oGo Z own nm bytes ml ret R n0 Q (k + 1) (n + cap) h' q L (.ref b :: S)) : oGo Z own nm bytes ml ret R n0 Q k n h pc L (.ref a :: S) :=
  fun p l e s m args below meth c T locs Cx X eT N => by
    obtain ⟨hx, hZ, hby, hml, hown, hrt, hlk, hnm⟩ := Cx
    subst hq
    obtain ⟨k1, A'⟩ := A.arv .null hl
    have e1 := own_cn (own_oi hl)
    obtain ⟨T', h', X', e', Ex, B', EB, st⟩ := cloneH X hx hZ hown w1 w2 w3 w4 w5 w6 eT A'.arh E (g := mkF m pc L (.ref a :: S)) rfl (by rw [hml]; exact hL) rfl (hb hby hd) hf hW hlo (cap := cap) (by rw [e1]; exact hcap) hc hs
    obtain ⟨s₂, o, g1, r⟩ := K h' h.size rfl (own_keep Ex) (Ars.of_arv (show Arv Z h' h.size k1 ty (Int32.ofNat vs.length) vs .null from B') e1) EB p l e s m args below meth c T' locs ⟨hx, hZ, hby, hml, hown, hrt, hlk, hnm⟩ X' e' N
    exact ⟨s₂, o, st _ g1, r⟩
theorem oGo.callP {y : MethodName} {i W kk : Nat} {bytes' : ByteArray} {ml' : Nat} {ret' : Option FieldType} {rm : Room} {as : Array Value} {Q' : Option Value → Heap → Prop} {ps : List FieldType} {rt : Option FieldType} {a : Addr} {C : String} (argsL rest : List Value) (hd : decode bytes pc = .ok (.invokevirtual i, 3)) (hq : pc + 3 = q)
    (w1 : (Cond.methodLink own i y).before a0 Z = true) (w2 : (Cond.instanceMethod y).before a0 Z = true) (wp : (Cond.privateMethod y).before a0 Z = true) (wi : (Cond.instantiable y.cls kk).before a0 Z = true) (w3 : (Cond.initialized y.cls).before a0 Z = true) (w4 : (Cond.code y bytes' ml' ret').before a0 Z = true) (hy : y.cls ≠ "java/lang/invoke/MethodHandle" ∧ y.cls ≠ "java/lang/invoke/VarHandle") (E : Exa Z h a C)
    (hC : oCon Z y bytes' ml' ret' rm as h n0 Q') (hS : S = argsL.reverse ++ .ref a :: rest) (has : (.ref a :: argsL).toArray = as) (hpd : parseMethodDescriptor y.desc = some ⟨ps, rt⟩) (hlen : argsL.length = ps.length) (hL : L.size = ml) (hW : 2 * 0 + (rest.map fun v => v.category).sum ≤ W) (hf : rm.frames + 1 ≤ R.frames) (hl : W + (ml' + 11) + rm.locals ≤ R.locals) (hc : k + rm.cells ≤ R.cells) (hs : n + rm.slots ≤ R.slots)
    (K : ∀ v h', Q' v h' → oGo Z own nm bytes ml ret R n0 Q (k + rm.cells) (n + rm.slots) h' q L (v.toList ++ rest)) : oGo Z own nm bytes ml ret R n0 Q k n h pc L S :=
  fun p l e s m args below meth c T locs Cx X eT N => by
    obtain ⟨hx, hZ, hby, hml, hown, hrt, hlk, hnm⟩ := Cx
    subst hq
    obtain ⟨cq, q1, q2⟩ := E.cell
    have hpr := Cond.privateMethod_at (mvP hZ wp (args := #[]))
    have hin : (Cond.instanceMethod y).before args s = true := mvT hZ w2
    obtain ⟨ci, ki, i1, i2, -, i4, -, -⟩ := Cond.instantiable_spec (show (Cond.instantiable y.cls kk).before args s = true from mvT hZ wi)
    have hsel := selects_self_of_private (args := args) i1 i2 (by simp only [Bool.or_eq_false_iff] at i4; exact i4.1) hpr hin hy
    obtain ⟨v, _, ⟨T', L2, k2, n2⟩, -, X', ⟨Lc, hQ', l', y', z'⟩, st⟩ := X.privateBack hx (y := y) hown (mvT hZ w1) hin hsel hpr (mvT hZ w4) hy (backOf (W := W) (Q := fun v h' L => Q' v h' ∧ Fr n0 L) (hC l []) hZ w4 w3 hf hl) (g := mkF m pc L S) rfl (by rw [hml]; exact hL) (Steps.refl _) (a := a) (by rw [eT]; exact q1) q2 (argsL := argsL) (rest := rest) (lenOf hpd hlen) hS hW (hb hby hd) (fun _ _ => ⟨has, eT, hc, hs⟩)
    dsimp only [Pt.U, Pt.locs, Pt.cells, Pt.slots] at X' l' y' z' st hQ'
    subst l' y' z'
    obtain ⟨s₂, o, h1, r⟩ := K v T'.heap hQ'.1 p l e s m args below meth c T' _ ⟨hx, hZ, hby, hml, hown, hrt, hlk, hnm⟩ X' rfl (Fr.app N hQ'.2)
    exact ⟨s₂, o, st.trans h1, r⟩
/-! booleans -/
def own_b (b : Int32) (P : Prop) : Prop := (b = 1 ∧ P) ∨ (b = 0 ∧ ¬ P)
theorem own_b.t {P : Prop} (hp : P) : own_b 1 P := Or.inl ⟨rfl, hp⟩
theorem own_b.f {P : Prop} (hp : ¬ P) : own_b 0 P := Or.inr ⟨rfl, hp⟩
theorem own_b.z {b : Int32} {P : Prop} (u : own_b b P) (hb : b = 0) : ¬ P := by
  rcases u with ⟨rfl, _⟩ | ⟨_, u⟩
  · exact absurd hb (by decide)
  · exact u
theorem own_b.nz {b : Int32} {P : Prop} (u : own_b b P) (hb : b ≠ 0) : P := by
  rcases u with ⟨_, u⟩ | ⟨rfl, _⟩
  · exact u
  · exact absurd rfl hb
theorem own_b.nar {b : Int32} {P : Prop} (u : own_b b P) : nar .boolean b = b := by
  rcases u with ⟨rfl, _⟩ | ⟨rfl, _⟩ <;> rfl
theorem own_b.eq {b c : Int32} {P P' : Prop} (u : own_b b P) (v : own_b c P') (hp : P ↔ P') : b = c := by
  rcases u with ⟨rfl, u⟩ | ⟨rfl, u⟩ <;> rcases v with ⟨rfl, v⟩ | ⟨rfl, v⟩
  · rfl
  · exact absurd (hp.mp u) v
  · exact absurd (hp.mpr v) u
  · rfl
theorem own_b.is0 {b : Int32} {P : Prop} (u : own_b b P) (hp : ¬ P) : b = 0 := u.elim (fun z => absurd z.2 hp) (fun z => z.1)
theorem own_b.is1 {b : Int32} {P : Prop} (u : own_b b P) (hp : P) : b = 1 := u.elim (fun z => z.1) (fun z => absurd hp z.2)
theorem own_b.iff {b : Int32} {P P' : Prop} (u : own_b b P) (hp : P ↔ P') : own_b b P' := u.imp (fun z => ⟨z.1, hp.mp z.2⟩) (fun z => ⟨z.1, fun y => z.2 (hp.mpr y)⟩)
end Own
theorem d1_0 : decode prog_4_method_2_code 0 = .ok (.aload_n 0, 1) := by decide +kernel
theorem d1_1 : decode prog_4_method_2_code 1 = .ok (.invokespecial 7, 3) := by decide +kernel
theorem d1_4 : decode prog_4_method_2_code 4 = .ok (.aload_n 0, 1) := by decide +kernel
theorem d1_5 : decode prog_4_method_2_code 5 = .ok (.iload_n 1, 1) := by decide +kernel
theorem d1_6 : decode prog_4_method_2_code 6 = .ok (.bipush 8, 2) := by decide +kernel
theorem d1_8 : decode prog_4_method_2_code 8 = .ok (.if_icmp .ne 10, 3) := by decide +kernel
theorem d1_11 : decode prog_4_method_2_code 11 = .ok (.bipush 8, 2) := by decide +kernel
theorem d1_13 : decode prog_4_method_2_code 13 = .ok (.newarray .byte, 2) := by decide +kernel
theorem d1_15 : decode prog_4_method_2_code 15 = .ok (.goto 6, 3) := by decide +kernel
theorem d1_18 : decode prog_4_method_2_code 18 = .ok (.iload_n 1, 1) := by decide +kernel
theorem d1_19 : decode prog_4_method_2_code 19 = .ok (.newarray .byte, 2) := by decide +kernel
theorem d1_21 : decode prog_4_method_2_code 21 = .ok (.putfield 14, 3) := by decide +kernel
theorem d1_24 : decode prog_4_method_2_code 24 = .ok (.return_, 1) := by decide +kernel
theorem own_pd0 : parseMethodDescriptor "(I)V" = some ⟨[.int], none⟩ := by decide +kernel
theorem d3_0 : decode prog_4_method_3_code 0 = .ok (.aload_n 0, 1) := by decide +kernel
theorem d3_1 : decode prog_4_method_3_code 1 = .ok (.getfield 18, 3) := by decide +kernel
theorem d3_4 : decode prog_4_method_3_code 4 = .ok (.aload_n 0, 1) := by decide +kernel
theorem d3_5 : decode prog_4_method_3_code 5 = .ok (.getfield 14, 3) := by decide +kernel
theorem d3_8 : decode prog_4_method_3_code 8 = .ok (.arraylength, 1) := by decide +kernel
theorem d3_9 : decode prog_4_method_3_code 9 = .ok (.if_icmp .ne 8, 3) := by decide +kernel
theorem d3_12 : decode prog_4_method_3_code 12 = .ok (.aload_n 0, 1) := by decide +kernel
theorem d3_13 : decode prog_4_method_3_code 13 = .ok (.iconst 1, 1) := by decide +kernel
theorem d3_14 : decode prog_4_method_3_code 14 = .ok (.invokevirtual 22, 3) := by decide +kernel
theorem d3_17 : decode prog_4_method_3_code 17 = .ok (.aload_n 0, 1) := by decide +kernel
theorem d3_18 : decode prog_4_method_3_code 18 = .ok (.getfield 14, 3) := by decide +kernel
theorem d3_21 : decode prog_4_method_3_code 21 = .ok (.aload_n 0, 1) := by decide +kernel
theorem d3_22 : decode prog_4_method_3_code 22 = .ok (.dup, 1) := by decide +kernel
theorem d3_23 : decode prog_4_method_3_code 23 = .ok (.getfield 18, 3) := by decide +kernel
theorem d3_26 : decode prog_4_method_3_code 26 = .ok (.dup_x1, 1) := by decide +kernel
theorem d3_27 : decode prog_4_method_3_code 27 = .ok (.iconst 1, 1) := by decide +kernel
theorem d3_28 : decode prog_4_method_3_code 28 = .ok (.iadd, 1) := by decide +kernel
theorem d3_29 : decode prog_4_method_3_code 29 = .ok (.putfield 18, 3) := by decide +kernel
theorem d3_32 : decode prog_4_method_3_code 32 = .ok (.iload_n 1, 1) := by decide +kernel
theorem d3_33 : decode prog_4_method_3_code 33 = .ok (.bastore, 1) := by decide +kernel
theorem d3_34 : decode prog_4_method_3_code 34 = .ok (.return_, 1) := by decide +kernel
theorem own_pd1 : parseMethodDescriptor "(B)V" = some ⟨[.byte], none⟩ := by decide +kernel
theorem d4_0 : decode prog_4_method_7_code 0 = .ok (.aload_n 0, 1) := by decide +kernel
theorem d4_1 : decode prog_4_method_7_code 1 = .ok (.getfield 18, 3) := by decide +kernel
theorem d4_4 : decode prog_4_method_7_code 4 = .ok (.iload_n 1, 1) := by decide +kernel
theorem d4_5 : decode prog_4_method_7_code 5 = .ok (.iadd, 1) := by decide +kernel
theorem d4_6 : decode prog_4_method_7_code 6 = .ok (.istore_n 2, 1) := by decide +kernel
theorem d4_7 : decode prog_4_method_7_code 7 = .ok (.aload_n 0, 1) := by decide +kernel
theorem d4_8 : decode prog_4_method_7_code 8 = .ok (.aload_n 0, 1) := by decide +kernel
theorem d4_9 : decode prog_4_method_7_code 9 = .ok (.getfield 14, 3) := by decide +kernel
theorem d4_12 : decode prog_4_method_7_code 12 = .ok (.iload_n 2, 1) := by decide +kernel
theorem d4_13 : decode prog_4_method_7_code 13 = .ok (.iload_n 2, 1) := by decide +kernel
theorem d4_14 : decode prog_4_method_7_code 14 = .ok (.aload_n 0, 1) := by decide +kernel
theorem d4_15 : decode prog_4_method_7_code 15 = .ok (.getfield 14, 3) := by decide +kernel
theorem d4_18 : decode prog_4_method_7_code 18 = .ok (.arraylength, 1) := by decide +kernel
theorem d4_19 : decode prog_4_method_7_code 19 = .ok (.iadd, 1) := by decide +kernel
theorem d4_20 : decode prog_4_method_7_code 20 = .ok (.invokestatic 54, 3) := by decide +kernel
theorem d4_23 : decode prog_4_method_7_code 23 = .ok (.invokestatic 60, 3) := by decide +kernel
theorem d4_26 : decode prog_4_method_7_code 26 = .ok (.putfield 14, 3) := by decide +kernel
theorem d4_29 : decode prog_4_method_7_code 29 = .ok (.return_, 1) := by decide +kernel
theorem d8_0 : decode prog_4_method_10_code 0 = .ok (.iload_n 1, 1) := by decide +kernel
theorem d8_1 : decode prog_4_method_10_code 1 = .ok (.istore_n 2, 1) := by decide +kernel
theorem d8_2 : decode prog_4_method_10_code 2 = .ok (.iload_n 2, 1) := by decide +kernel
theorem d8_3 : decode prog_4_method_10_code 3 = .ok (.aload_n 0, 1) := by decide +kernel
theorem d8_4 : decode prog_4_method_10_code 4 = .ok (.getfield 18, 3) := by decide +kernel
theorem d8_7 : decode prog_4_method_10_code 7 = .ok (.if_icmp .ge 24, 3) := by decide +kernel
theorem d8_10 : decode prog_4_method_10_code 10 = .ok (.aload_n 0, 1) := by decide +kernel
theorem d8_11 : decode prog_4_method_10_code 11 = .ok (.getfield 14, 3) := by decide +kernel
theorem d8_14 : decode prog_4_method_10_code 14 = .ok (.iload_n 2, 1) := by decide +kernel
theorem d8_15 : decode prog_4_method_10_code 15 = .ok (.aload_n 0, 1) := by decide +kernel
theorem d8_16 : decode prog_4_method_10_code 16 = .ok (.getfield 14, 3) := by decide +kernel
theorem d8_19 : decode prog_4_method_10_code 19 = .ok (.iload_n 2, 1) := by decide +kernel
theorem d8_20 : decode prog_4_method_10_code 20 = .ok (.baload, 1) := by decide +kernel
theorem d8_21 : decode prog_4_method_10_code 21 = .ok (.iconst (-1), 1) := by decide +kernel
theorem d8_22 : decode prog_4_method_10_code 22 = .ok (.ixor, 1) := by decide +kernel
theorem d8_23 : decode prog_4_method_10_code 23 = .ok (.i2b, 1) := by decide +kernel
theorem d8_24 : decode prog_4_method_10_code 24 = .ok (.bastore, 1) := by decide +kernel
theorem d8_25 : decode prog_4_method_10_code 25 = .ok (.iinc 2 1, 3) := by decide +kernel
theorem d8_28 : decode prog_4_method_10_code 28 = .ok (.goto (-26), 3) := by decide +kernel
theorem d8_31 : decode prog_4_method_10_code 31 = .ok (.return_, 1) := by decide +kernel
theorem d9_0 : decode prog_4_method_11_code 0 = .ok (.aload_n 0, 1) := by decide +kernel
theorem d9_1 : decode prog_4_method_11_code 1 = .ok (.getfield 14, 3) := by decide +kernel
theorem d9_4 : decode prog_4_method_11_code 4 = .ok (.aload_n 0, 1) := by decide +kernel
theorem d9_5 : decode prog_4_method_11_code 5 = .ok (.getfield 18, 3) := by decide +kernel
theorem d9_8 : decode prog_4_method_11_code 8 = .ok (.invokestatic 60, 3) := by decide +kernel
theorem d9_11 : decode prog_4_method_11_code 11 = .ok (.areturn, 1) := by decide +kernel
theorem own_pd2 : parseMethodDescriptor "()[B" = some ⟨[], some (.array .byte)⟩ := by decide +kernel
theorem d10_0 : decode prog_4_method_8_code 0 = .ok (.aload_n 0, 1) := by decide +kernel
theorem d10_1 : decode prog_4_method_8_code 1 = .ok (.getfield 18, 3) := by decide +kernel
theorem d10_4 : decode prog_4_method_8_code 4 = .ok (.ireturn, 1) := by decide +kernel
theorem own_pd3 : parseMethodDescriptor "()I" = some ⟨[], some .int⟩ := by decide +kernel
theorem d11_0 : decode method_2_code 0 = .ok (.iload_n 1, 1) := by decide +kernel
theorem d11_1 : decode method_2_code 1 = .ok (.iload_n 3, 1) := by decide +kernel
theorem d11_2 : decode method_2_code 2 = .ok (.if_icmp .lt 5, 3) := by decide +kernel
theorem d11_5 : decode method_2_code 5 = .ok (.iconst 1, 1) := by decide +kernel
theorem d11_6 : decode method_2_code 6 = .ok (.ireturn, 1) := by decide +kernel
theorem d11_7 : decode method_2_code 7 = .ok (.iload_n 1, 1) := by decide +kernel
theorem d11_8 : decode method_2_code 8 = .ok (.iload 4, 2) := by decide +kernel
theorem d11_10 : decode method_2_code 10 = .ok (.if_icmp .ge 9, 3) := by decide +kernel
theorem d11_13 : decode method_2_code 13 = .ok (.iload_n 2, 1) := by decide +kernel
theorem d11_14 : decode method_2_code 14 = .ok (.istore 5, 2) := by decide +kernel
theorem d11_16 : decode method_2_code 16 = .ok (.goto 9, 3) := by decide +kernel
theorem d11_19 : decode method_2_code 19 = .ok (.iload_n 2, 1) := by decide +kernel
theorem d11_20 : decode method_2_code 20 = .ok (.iconst (-1), 1) := by decide +kernel
theorem d11_21 : decode method_2_code 21 = .ok (.ixor, 1) := by decide +kernel
theorem d11_22 : decode method_2_code 22 = .ok (.i2b, 1) := by decide +kernel
theorem d11_23 : decode method_2_code 23 = .ok (.istore 5, 2) := by decide +kernel
theorem d11_25 : decode method_2_code 25 = .ok (.aload_n 0, 1) := by decide +kernel
theorem d11_26 : decode method_2_code 26 = .ok (.iload_n 1, 1) := by decide +kernel
theorem d11_27 : decode method_2_code 27 = .ok (.baload, 1) := by decide +kernel
theorem d11_28 : decode method_2_code 28 = .ok (.iload 5, 2) := by decide +kernel
theorem d11_30 : decode method_2_code 30 = .ok (.if_icmp .ne 7, 3) := by decide +kernel
theorem d11_33 : decode method_2_code 33 = .ok (.iconst 1, 1) := by decide +kernel
theorem d11_34 : decode method_2_code 34 = .ok (.goto 4, 3) := by decide +kernel
theorem d11_37 : decode method_2_code 37 = .ok (.iconst 0, 1) := by decide +kernel
theorem d11_38 : decode method_2_code 38 = .ok (.ireturn, 1) := by decide +kernel
theorem own_pd4 : parseMethodDescriptor "([BIBII)Z" = some ⟨[(.array .byte), .int, .byte, .int, .int], some .boolean⟩ := by decide +kernel
def own_bw (Z : State) (h : Heap) (a : Addr) (v0 v1 : Value) : Prop := Exa Z h a "com/example/lexorder/lexorder/ByteWriter" ∧ Fld Z h a "com/example/lexorder/lexorder/ByteWriter" "bytes" "[B" v0 ∧ Fld Z h a "com/example/lexorder/lexorder/ByteWriter" "length" "I" v1
theorem own_bw.lt {Z : State} {h : Heap} {a : Addr} {v0 v1 : Value} (O : own_bw Z h a v0 v1) : a < h.size := O.1.lt
theorem own_bw.keep {Z : State} {h h' : Heap} {ws : List Addr} {a : Addr} {v0 v1 : Value} (O : own_bw Z h a v0 v1) (K : Keep h h' ws) (q : a ∉ ws) : own_bw Z h' a v0 v1 := by
  obtain ⟨E, F0, F1⟩ := O; exact ⟨E.keep K, F0.keep K q, F1.keep K q⟩
theorem d7_0 : decode jdk_29_method_69_code 0 = .ok (.iload_n 0, 1) := by decide +kernel
theorem d7_1 : decode jdk_29_method_69_code 1 = .ok (.iload_n 1, 1) := by decide +kernel
theorem d7_2 : decode jdk_29_method_69_code 2 = .ok (.if_icmp .gt 7, 3) := by decide +kernel
theorem d7_5 : decode jdk_29_method_69_code 5 = .ok (.iload_n 0, 1) := by decide +kernel
theorem d7_6 : decode jdk_29_method_69_code 6 = .ok (.goto 4, 3) := by decide +kernel
theorem d7_9 : decode jdk_29_method_69_code 9 = .ok (.iload_n 1, 1) := by decide +kernel
theorem d7_10 : decode jdk_29_method_69_code 10 = .ok (.ireturn, 1) := by decide +kernel
theorem own_pd5 : parseMethodDescriptor "(II)I" = some ⟨[.int, .int], some .int⟩ := by decide +kernel
theorem own_ef7 (m : MethodId) (x0 : Int32) (x1 : Int32) : entryFrame m #[(.int x0), (.int x1)] 2 = mkF m 0 #[.val (.int x0), .val (.int x1)] [] := by first | (simp [entryFrame, mkF, argsToLocals, Value.category]; done) | rfl
theorem own_pn7 : plainFor (⟨"java/lang/Math", "min", "(II)I"⟩ : MethodName) = true := Jvm.Free.JP.mathPlain rfl (by decide +kernel)
set_option maxRecDepth 65536 in
set_option maxHeartbeats 40000000 in
theorem cmin {Z : State} {a0 : Array Value} (hw : ∀ d ∈ tables_1, d.before a0 Z = true) (x1 x2 : Int32) (h : Heap) (n0 : Nat) :
    oCon Z (⟨"java/lang/Math", "min", "(II)I"⟩ : MethodName) jdk_29_method_69_code 2 (some .int) ({ frames := 0, cells := 0, slots := 0, locals := 0 } : Room) #[(.int x1), (.int x2)] h n0 (fun v h' => (∃ z : Int32, v = some (.int z) ∧ z.toInt = min x1.toInt x2.toInt) ∧ h' = h) := by
  refine oCon.of own_pn7 (fun m => own_ef7 m x1 x2) ?_
  show oGo Z _ _ _ _ _ _ n0 _ 0 0 h 0 #[.val (.int x1), .val (.int x2)] []
  refine oGo.iloadN (q := 1) d7_0 rfl rfl ?_
  refine oGo.iloadN (q := 2) d7_1 rfl rfl ?_
  refine oGo.icmp_gt (q := 9) (r := 5) d7_2 (by decide) rfl (fun hc => ?_) (fun hc => ?_)
  · skip
    refine oGo.iloadN (q := 10) d7_9 rfl rfl ?_
    exact oGo.retI d7_10 rfl (by decide) (by decide) (⟨⟨_, rfl, by omega⟩, rfl⟩)
  · skip
    refine oGo.iloadN (q := 6) d7_5 rfl rfl ?_
    refine oGo.goto (q := 10) d7_6 (by decide) ?_
    exact oGo.retI d7_10 rfl (by decide) (by decide) (⟨⟨_, rfl, by omega⟩, rfl⟩)
theorem d6_0 : decode jdk_65_method_121_code 0 = .ok (.iload_n 1, 1) := by decide +kernel
theorem d6_1 : decode jdk_65_method_121_code 1 = .ok (.aload_n 0, 1) := by decide +kernel
theorem d6_2 : decode jdk_65_method_121_code 2 = .ok (.arraylength, 1) := by decide +kernel
theorem d6_3 : decode jdk_65_method_121_code 3 = .ok (.if_icmp .ne 11, 3) := by decide +kernel
theorem d6_6 : decode jdk_65_method_121_code 6 = .ok (.aload_n 0, 1) := by decide +kernel
theorem d6_7 : decode jdk_65_method_121_code 7 = .ok (.invokevirtual 310, 3) := by decide +kernel
theorem d6_10 : decode jdk_65_method_121_code 10 = .ok (.checkcast 311, 3) := by decide +kernel
theorem d6_13 : decode jdk_65_method_121_code 13 = .ok (.areturn, 1) := by decide +kernel
theorem d6_14 : decode jdk_65_method_121_code 14 = .ok (.iload_n 1, 1) := by decide +kernel
theorem d6_15 : decode jdk_65_method_121_code 15 = .ok (.newarray .byte, 2) := by decide +kernel
theorem d6_17 : decode jdk_65_method_121_code 17 = .ok (.astore_n 2, 1) := by decide +kernel
theorem d6_18 : decode jdk_65_method_121_code 18 = .ok (.aload_n 0, 1) := by decide +kernel
theorem d6_19 : decode jdk_65_method_121_code 19 = .ok (.iconst 0, 1) := by decide +kernel
theorem d6_20 : decode jdk_65_method_121_code 20 = .ok (.aload_n 2, 1) := by decide +kernel
theorem d6_21 : decode jdk_65_method_121_code 21 = .ok (.iconst 0, 1) := by decide +kernel
theorem d6_22 : decode jdk_65_method_121_code 22 = .ok (.aload_n 0, 1) := by decide +kernel
theorem d6_23 : decode jdk_65_method_121_code 23 = .ok (.arraylength, 1) := by decide +kernel
theorem d6_24 : decode jdk_65_method_121_code 24 = .ok (.iload_n 1, 1) := by decide +kernel
theorem d6_25 : decode jdk_65_method_121_code 25 = .ok (.invokestatic 304, 3) := by decide +kernel
theorem d6_28 : decode jdk_65_method_121_code 28 = .ok (.invokestatic 150, 3) := by decide +kernel
theorem d6_31 : decode jdk_65_method_121_code 31 = .ok (.aload_n 2, 1) := by decide +kernel
theorem d6_32 : decode jdk_65_method_121_code 32 = .ok (.areturn, 1) := by decide +kernel
theorem own_pd6 : parseMethodDescriptor "([BI)[B" = some ⟨[(.array .byte), .int], some (.array .byte)⟩ := by decide +kernel
theorem own_ef6 (m : MethodId) (x0 : Addr) (x1 : Int32) : entryFrame m #[(.ref x0), (.int x1)] 3 = mkF m 0 #[.val (.ref x0), .val (.int x1), .unset] [] := by first | (simp [entryFrame, mkF, argsToLocals, Value.category]; done) | rfl
theorem own_pn6 : plainFor (⟨"java/util/Arrays", "copyOf", "([BI)[B"⟩ : MethodName) = true := plainFor_of_name (by first | (simp [plainName, overriddenIn]; done) | decide +kernel)
set_option maxRecDepth 65536 in
set_option maxHeartbeats 40000000 in
theorem ccp {Z : State} {a0 : Array Value} (hw : ∀ d ∈ tables_1, d.before a0 Z = true) (a : Addr) (n : Int32) (m : Nat) (vs : List Value) (h : Heap) (n0 : Nat) (Z0 : n0 ≤ h.size) (A : Ars Z h a .byte vs) (hn : n.toInt = (m : Int)) (hm : m ≤ 8) (hl : vs.length < 2147483648) (EA : Exa Z h a "[B") :
    oCon Z (⟨"java/util/Arrays", "copyOf", "([BI)[B"⟩ : MethodName) jdk_65_method_121_code 3 (some (.array .byte)) ({ frames := 1, cells := 1, slots := 8, locals := 27 } : Room) #[(.ref a), (.int n)] h n0 (fun v h' => ∃ b, v = some (.ref b) ∧ h.size ≤ b ∧ Keep h h' [] ∧ Ars Z h' b .byte (vs.take m ++ List.replicate (m - vs.length) (.int (0 : Int32))) ∧ Exa Z h' b "[B") := by
  refine oCon.of own_pn6 (fun m => own_ef6 m a n) ?_
  show oGo Z _ _ _ _ _ _ n0 _ 0 0 h 0 #[.val (.ref a), .val (.int n), .unset] []
  have el := own_oi (i := vs.length) hl
  refine oGo.iloadN (q := 1) d6_0 rfl rfl ?_
  refine oGo.aloadN (q := 2) d6_1 rfl rfl rfl ?_
  refine oGo.arraylength (q := 3) (v := (Int32.ofNat vs.length)) d6_2 rfl A rfl ?_
  refine oGo.icmp_ne (q := 14) (r := 6) d6_3 (by decide) rfl (fun hc => ?_) (fun hc => ?_)
  · skip -- another length
    have hne : m ≠ vs.length := fun z => hc (own_int32 (by omega))
    refine oGo.iloadN (q := 15) d6_14 rfl rfl ?_
    refine oGo.newP (q := 17) (len := m) 8 d6_15 rfl (hw _ (List.mem_of_getElem? (i := 10) rfl)) hn (by first | decide | omega) (by decide) (by decide) (by decide) (ad := "[B") rfl ?_
    intro h1 b g1 K1 A1 E1
    have ne_a_b : a ≠ b := Nat.ne_of_lt (Nat.lt_of_lt_of_eq (A.lt) g1.symm)
    have ge_b : n0 ≤ b := Nat.le_trans Z0 (Nat.le_of_eq g1.symm)
    have A_ := Ars.keep A K1 nin0
    have EA_ := Exa.keep EA K1
    have Z0_ := Nat.le_trans Z0 K1.1
    show oGo Z _ _ _ _ _ _ n0 _ 1 8 h1 17 #[.val (.ref a), .val (.int n), .unset] [(.ref b)]
    refine oGo.astoreN (q := 18) (L' := #[.val (.ref a), .val (.int n), .val (.ref b)]) d6_17 rfl rfl rfl ?_
    refine oGo.aloadN (q := 19) d6_18 rfl rfl rfl ?_
    refine oGo.iconst (q := 20) (v := (0 : Int32)) d6_19 rfl rfl ?_
    refine oGo.aloadN (q := 21) d6_20 rfl rfl rfl ?_
    refine oGo.iconst (q := 22) (v := (0 : Int32)) d6_21 rfl rfl ?_
    refine oGo.aloadN (q := 23) d6_22 rfl rfl rfl ?_
    refine oGo.arraylength (q := 24) (v := (Int32.ofNat vs.length)) d6_23 rfl A_ rfl ?_
    refine oGo.iloadN (q := 25) d6_24 rfl rfl ?_
    refine oGo.callS (W := 4) (rm := ({ frames := 0, cells := 0, slots := 0, locals := 0 } : Room)) (q := 28) [(.int (Int32.ofNat vs.length)), (.int n)] [(.int (0 : Int32)), (.ref b), (.int (0 : Int32)), (.ref a)] d6_25 rfl (hw _ (List.mem_of_getElem? (i := 32) rfl)) (hw _ (List.mem_of_getElem? (i := 33) rfl)) (hw _ (List.mem_of_getElem? (i := 26) rfl)) (hw _ (List.mem_of_getElem? (i := 34) rfl)) (by decide) (cmin hw (Int32.ofNat vs.length) n h1 n0) rfl rfl own_pd5 rfl rfl (Nat.le_of_eq rfl) (by decide) (by decide) (by decide) (by decide) ?_
    rintro _ h2 ⟨⟨z, rfl, hz⟩, eh⟩
    all_goals subst h2
    show oGo Z _ _ _ _ _ _ n0 _ 1 8 h1 28 #[.val (.ref a), .val (.int n), .val (.ref b)] [(.int z), (.int (0 : Int32)), (.ref b), (.int (0 : Int32)), (.ref a)]
    refine oGo.acopy (q := 31) (W := 0) (si := 0) (di := 0) (len := (min vs.length m)) d6_28 rfl (hw _ (List.mem_of_getElem? (i := 35) rfl)) (hw _ (List.mem_of_getElem? (i := 38) rfl)) (hw _ (List.mem_of_getElem? (i := 36) rfl)) (hw _ (List.mem_of_getElem? (i := 37) rfl)) A_ A1 rfl rfl rfl (by omega) (by omega) (by rw [List.length_replicate]; omega) hl (by rw [List.length_replicate]; omega) ge_b rfl (by decide) (Nat.le_of_eq rfl) (by decide) ?_
    intro h3 K3 A3
    have A__ := Ars.keep A_ K3 (ninS ne_a_b nin0)
    have EA__ := Exa.keep EA_ K3
    have E1_ := Exa.keep E1 K3
    have Z0__ := Nat.le_trans Z0_ K3.1
    refine oGo.aloadN (q := 32) d6_31 rfl rfl rfl ?_
    have e : (List.replicate m (defaultValue (newarray.typeOf .byte))).take 0 ++ (vs.drop 0).take (min vs.length m) ++ (List.replicate m (defaultValue (newarray.typeOf .byte))).drop (0 + min vs.length m) = vs.take m ++ List.replicate (m - vs.length) (.int (0 : Int32)) := by
      rw [List.take_zero, List.nil_append, List.drop_zero, Nat.zero_add, List.drop_replicate]
      congr 1
      · rw [Nat.min_comm, ← List.take_take]; rw [List.take_of_length_le (Nat.le_refl vs.length)]
      · congr 1; omega
    rw [e] at A3
    exact oGo.retA d6_32 rfl rfl rfl (by decide) (by decide) (⟨b, rfl, Nat.le_of_eq g1.symm, Keep.trans K1 K3 (fun x hx => Or.inr (by rw [List.mem_singleton.mp hx, g1]; exact Nat.le_refl _)), A3, E1_⟩)
  · skip -- the same length
    have hme : m = vs.length := by have := congrArg Int32.toInt hc; omega
    refine oGo.aloadN (q := 7) d6_6 rfl rfl rfl ?_
    refine oGo.clone (q := 10) (W := 0) (ad := "[B") 8 d6_7 rfl (hw _ (List.mem_of_getElem? (i := 58) rfl)) (hw _ (List.mem_of_getElem? (i := 59) rfl)) (hw _ (List.mem_of_getElem? (i := 63) rfl)) (hw _ (List.mem_of_getElem? (i := 61) rfl)) (hw _ (List.mem_of_getElem? (i := 62) rfl)) (hw _ (List.mem_of_getElem? (i := 64) rfl)) A EA (by omega) (by omega) rfl (by decide) (Nat.le_of_eq rfl) (by decide) (by decide) (by decide) ?_
    intro h4 b g4 K4 A4 E4
    have ne_a_b : a ≠ b := Nat.ne_of_lt (Nat.lt_of_lt_of_eq (A.lt) g4.symm)
    have ge_b : n0 ≤ b := Nat.le_trans Z0 (Nat.le_of_eq g4.symm)
    have A_ := Ars.keep A K4 nin0
    have EA_ := Exa.keep EA K4
    have Z0_ := Nat.le_trans Z0 K4.1
    show oGo Z _ _ _ _ _ _ n0 _ 1 8 h4 10 #[.val (.ref a), .val (.int n), .unset] [(.ref b)]
    refine oGo.cast (q := 13) d6_10 rfl (hw _ (List.mem_of_getElem? (i := 65) rfl)) (Ins.self E4) ?_
    exact oGo.retA d6_13 rfl rfl rfl (by decide) (by decide) (⟨b, rfl, Nat.le_of_eq g4.symm, K4, by rw [hme, Nat.sub_self, List.replicate_zero, List.append_nil, List.take_of_length_le (Nat.le_refl _)]; exact A4, E4⟩)
theorem d5_0 : decode jdk_29_method_65_code 0 = .ok (.iload_n 0, 1) := by decide +kernel
theorem d5_1 : decode jdk_29_method_65_code 1 = .ok (.iload_n 1, 1) := by decide +kernel
theorem d5_2 : decode jdk_29_method_65_code 2 = .ok (.if_icmp .lt 7, 3) := by decide +kernel
theorem d5_5 : decode jdk_29_method_65_code 5 = .ok (.iload_n 0, 1) := by decide +kernel
theorem d5_6 : decode jdk_29_method_65_code 6 = .ok (.goto 4, 3) := by decide +kernel
theorem d5_9 : decode jdk_29_method_65_code 9 = .ok (.iload_n 1, 1) := by decide +kernel
theorem d5_10 : decode jdk_29_method_65_code 10 = .ok (.ireturn, 1) := by decide +kernel
theorem own_ef5 (m : MethodId) (x0 : Int32) (x1 : Int32) : entryFrame m #[(.int x0), (.int x1)] 2 = mkF m 0 #[.val (.int x0), .val (.int x1)] [] := by first | (simp [entryFrame, mkF, argsToLocals, Value.category]; done) | rfl
theorem own_pn5 : plainFor (⟨"java/lang/Math", "max", "(II)I"⟩ : MethodName) = true := Jvm.Free.JP.mathPlain rfl (by decide +kernel)
set_option maxRecDepth 65536 in
set_option maxHeartbeats 40000000 in
theorem cmax {Z : State} {a0 : Array Value} (hw : ∀ d ∈ tables_1, d.before a0 Z = true) (x1 x2 : Int32) (h : Heap) (n0 : Nat) :
    oCon Z (⟨"java/lang/Math", "max", "(II)I"⟩ : MethodName) jdk_29_method_65_code 2 (some .int) ({ frames := 0, cells := 0, slots := 0, locals := 0 } : Room) #[(.int x1), (.int x2)] h n0 (fun v h' => (∃ z : Int32, v = some (.int z) ∧ z.toInt = max x1.toInt x2.toInt) ∧ h' = h) := by
  refine oCon.of own_pn5 (fun m => own_ef5 m x1 x2) ?_
  show oGo Z _ _ _ _ _ _ n0 _ 0 0 h 0 #[.val (.int x1), .val (.int x2)] []
  refine oGo.iloadN (q := 1) d5_0 rfl rfl ?_
  refine oGo.iloadN (q := 2) d5_1 rfl rfl ?_
  refine oGo.icmp_lt (q := 9) (r := 5) d5_2 (by decide) rfl (fun hc => ?_) (fun hc => ?_)
  · skip
    refine oGo.iloadN (q := 10) d5_9 rfl rfl ?_
    exact oGo.retI d5_10 rfl (by decide) (by decide) (⟨⟨_, rfl, by omega⟩, rfl⟩)
  · skip
    refine oGo.iloadN (q := 6) d5_5 rfl rfl ?_
    refine oGo.goto (q := 10) d5_6 (by decide) ?_
    exact oGo.retI d5_10 rfl (by decide) (by decide) (⟨⟨_, rfl, by omega⟩, rfl⟩)
def own_ws (Z : State) (h : Heap) (n0 : Nat) (w : Addr) (n : Nat) (f : Nat → Int32) : Prop := ∃ a vs, own_bw Z h w (.ref a) (.int (Int32.ofNat n)) ∧ Ars Z h a .byte vs ∧ Exa Z h a "[B" ∧ n ≤ vs.length ∧ vs.length ≤ 15 ∧ (∀ i, i < n → vs[i]? = some (.int (f i))) ∧ n0 ≤ a ∧ n0 ≤ w ∧ a ≠ w
theorem own_ws.exa {Z : State} {h : Heap} {n0 : Nat} {w : Addr} {n : Nat} {f : Nat → Int32} (O : own_ws Z h n0 w n f) : Exa Z h w "com/example/lexorder/lexorder/ByteWriter" := by
  obtain ⟨a, vs, O, -⟩ := O; exact O.1
theorem own_ws.keep {Z : State} {h h' : Heap} {n0 : Nat} {w : Addr} {n : Nat} {f : Nat → Int32} (O : own_ws Z h n0 w n f) (K : Keep h h' []) : own_ws Z h' n0 w n f := by
  obtain ⟨a, vs, O, A, E, r⟩ := O; exact ⟨a, vs, O.keep K nin0, A.keep K nin0, E.keep K, r⟩
def own_g (y0 y1 y2 y3 : Int32) : Nat → Int32
  | 0 => y0
  | 1 => y1
  | 2 => y2
  | _ => y3
def own_inv (s : Nat) (f : Nat → Int32) (i : Nat) : Int32 := if i < s then f i else (f i ^^^ (-1 : Int32)).toInt8.toInt32
theorem own_ef1 (m : MethodId) (x0 : Addr) (x1 : Int32) : entryFrame m #[(.ref x0), (.int x1)] 2 = mkF m 0 #[.val (.ref x0), .val (.int x1)] [] := by first | (simp [entryFrame, mkF, argsToLocals, Value.category]; done) | rfl
theorem own_pn1 : plainFor (⟨"com/example/lexorder/lexorder/ByteWriter", "<init>", "(I)V"⟩ : MethodName) = true := plainFor_of_name (by first | (simp [plainName, overriddenIn]; done) | decide +kernel)
set_option maxRecDepth 65536 in
set_option maxHeartbeats 40000000 in
theorem ci {Z : State} {a0 : Array Value} (hw : ∀ d ∈ tables_1, d.before a0 Z = true) (w : Addr) (c : Nat) (h : Heap) (n0 : Nat) (Z0 : n0 ≤ h.size) (gw : n0 ≤ w) (hc : c ≤ 15) (O : own_bw Z h w .null (.int 0)) :
    oCon Z (⟨"com/example/lexorder/lexorder/ByteWriter", "<init>", "(I)V"⟩ : MethodName) prog_4_method_2_code 2 none ({ frames := 1, cells := 1, slots := 15, locals := 16 } : Room) #[(.ref w), (.int (Int32.ofNat c))] h n0 (fun v h' => v = none ∧ n0 ≤ h'.size ∧ ∀ f, own_ws Z h' n0 w 0 f) := by
  refine oCon.of own_pn1 (fun m => own_ef1 m w (Int32.ofNat c)) ?_
  show oGo Z _ _ _ _ _ _ n0 _ 0 0 h 0 #[.val (.ref w), .val (.int (Int32.ofNat c))] []
  obtain ⟨E5, F5_bytes, F5_length⟩ := O
  have ec := own_oi (i := c) (by omega)
  refine oGo.aloadN (q := 1) d1_0 rfl rfl rfl ?_
  refine oGo.initO (W := 0) (q := 4) d1_1 rfl (hw _ (List.mem_of_getElem? (i := 7) rfl)) (hw _ (List.mem_of_getElem? (i := 8) rfl)) (hw _ (List.mem_of_getElem? (i := 9) rfl)) rfl (by decide) (Nat.le_of_eq rfl) (by decide) ?_
  refine oGo.aloadN (q := 5) d1_4 rfl rfl rfl ?_
  refine oGo.iloadN (q := 6) d1_5 rfl rfl ?_
  refine oGo.bipush (q := 8) (v := (8 : Int32)) d1_6 rfl rfl ?_
  refine oGo.icmp_ne (q := 18) (r := 11) d1_8 (by decide) rfl (fun hc8 => ?_) (fun hc8 => ?_)
  · skip
    refine oGo.iloadN (q := 19) d1_18 rfl rfl ?_
    refine oGo.newP (q := 21) (len := c) 15 d1_19 rfl (hw _ (List.mem_of_getElem? (i := 10) rfl)) ec (by first | decide | omega) (by decide) (by decide) (by decide) (ad := "[B") rfl ?_
    intro h6 a g6 K6 A6 E6
    have ne_w_a : w ≠ a := Nat.ne_of_lt (Nat.lt_of_lt_of_eq (E5.lt) g6.symm)
    have ge_a : n0 ≤ a := Nat.le_trans Z0 (Nat.le_of_eq g6.symm)
    have E5_ := Exa.keep E5 K6
    have F5_bytes_ := Fld.keep F5_bytes K6 nin0
    have F5_length_ := Fld.keep F5_length K6 nin0
    have Z0_ := Nat.le_trans Z0 K6.1
    show oGo Z _ _ _ _ _ _ n0 _ 1 15 h6 21 #[.val (.ref w), .val (.int (Int32.ofNat c))] [(.ref a), (.ref w)]
    refine oGo.putF (host := "") (ty := (.array .byte)) (q := 24) d1_21 rfl (Or.inl (hw _ (List.mem_of_getElem? (i := 11) rfl))) Via.refl F5_bytes_ E5_ (Or.inl (hw _ (List.mem_of_getElem? (i := 12) rfl))) (hw _ (List.mem_of_getElem? (i := 2) rfl)) (by decide) rfl rfl gw ?_
    intro h7 K7 E7 F7 G7
    have F7_length := G7 (slot_ne (Or.inl (hw _ (List.mem_of_getElem? (i := 19) rfl))) (Or.inl (hw _ (List.mem_of_getElem? (i := 12) rfl))) (by decide) (t := .int) (t' := (.array .byte)) (by decide) (by decide)) F5_length_
    have A6_ := Ars.keep A6 K7 (ninS (Ne.symm ne_w_a) nin0)
    have E6_ := Exa.keep E6 K7
    have Z0__ := Nat.le_trans Z0_ K7.1
    show oGo Z _ _ _ _ _ _ n0 _ 1 15 h7 24 #[.val (.ref w), .val (.int (Int32.ofNat c))] []
    exact oGo.retV d1_24 rfl (by decide) (by decide) (⟨rfl, Z0__, fun f => ⟨a, _, ⟨E7, F7, F7_length⟩, A6_, E6_, by omega, by rw [List.length_replicate]; omega, fun i hi => absurd hi (by omega), ge_a, gw, (Ne.symm ne_w_a)⟩⟩)
  · skip
    refine oGo.bipush (q := 13) (v := (8 : Int32)) d1_11 rfl rfl ?_
    refine oGo.newP (q := 15) (len := 8) 15 d1_13 rfl (hw _ (List.mem_of_getElem? (i := 10) rfl)) (by decide) (by first | decide | omega) (by decide) (by decide) (by decide) (ad := "[B") rfl ?_
    intro h8 a g8 K8 A8 E8
    have ne_w_a : w ≠ a := Nat.ne_of_lt (Nat.lt_of_lt_of_eq (E5.lt) g8.symm)
    have ge_a : n0 ≤ a := Nat.le_trans Z0 (Nat.le_of_eq g8.symm)
    have E5_ := Exa.keep E5 K8
    have F5_bytes_ := Fld.keep F5_bytes K8 nin0
    have F5_length_ := Fld.keep F5_length K8 nin0
    have Z0_ := Nat.le_trans Z0 K8.1
    show oGo Z _ _ _ _ _ _ n0 _ 1 15 h8 15 #[.val (.ref w), .val (.int (Int32.ofNat c))] [(.ref a), (.ref w)]
    refine oGo.goto (q := 21) d1_15 (by decide) ?_
    refine oGo.putF (host := "") (ty := (.array .byte)) (q := 24) d1_21 rfl (Or.inl (hw _ (List.mem_of_getElem? (i := 11) rfl))) Via.refl F5_bytes_ E5_ (Or.inl (hw _ (List.mem_of_getElem? (i := 12) rfl))) (hw _ (List.mem_of_getElem? (i := 2) rfl)) (by decide) rfl rfl gw ?_
    intro h9 K9 E9 F9 G9
    have F9_length := G9 (slot_ne (Or.inl (hw _ (List.mem_of_getElem? (i := 19) rfl))) (Or.inl (hw _ (List.mem_of_getElem? (i := 12) rfl))) (by decide) (t := .int) (t' := (.array .byte)) (by decide) (by decide)) F5_length_
    have A8_ := Ars.keep A8 K9 (ninS (Ne.symm ne_w_a) nin0)
    have E8_ := Exa.keep E8 K9
    have Z0__ := Nat.le_trans Z0_ K9.1
    show oGo Z _ _ _ _ _ _ n0 _ 1 15 h9 24 #[.val (.ref w), .val (.int (Int32.ofNat c))] []
    exact oGo.retV d1_24 rfl (by decide) (by decide) (⟨rfl, Z0__, fun f => ⟨a, _, ⟨E9, F9, F9_length⟩, A8_, E8_, by omega, by rw [List.length_replicate]; omega, fun i hi => absurd hi (by omega), ge_a, gw, (Ne.symm ne_w_a)⟩⟩)
theorem own_ef4 (m : MethodId) (x0 : Addr) (x1 : Int32) : entryFrame m #[(.ref x0), (.int x1)] 3 = mkF m 0 #[.val (.ref x0), .val (.int x1), .unset] [] := by first | (simp [entryFrame, mkF, argsToLocals, Value.category]; done) | rfl
theorem own_pn4 : plainFor (⟨"com/example/lexorder/lexorder/ByteWriter", "grow", "(I)V"⟩ : MethodName) = true := plainFor_of_name (by first | (simp [plainName, overriddenIn]; done) | decide +kernel)
set_option maxRecDepth 65536 in
set_option maxHeartbeats 40000000 in
theorem cg {Z : State} {a0 : Array Value} (hw : ∀ d ∈ tables_1, d.before a0 Z = true) (w a : Addr) (l : Nat) (vs : List Value) (h : Heap) (n0 : Nat) (Z0 : n0 ≤ h.size) (gw : n0 ≤ w) (hne : a ≠ w) (O : own_bw Z h w (.ref a) (.int (Int32.ofNat l))) (A : Ars Z h a .byte vs) (EA : Exa Z h a "[B") (hl : vs.length = l) (hl3 : l ≤ 3) :
    oCon Z (⟨"com/example/lexorder/lexorder/ByteWriter", "grow", "(I)V"⟩ : MethodName) prog_4_method_7_code 3 none ({ frames := 2, cells := 1, slots := 8, locals := 47 } : Room) #[(.ref w), (.int (1 : Int32))] h n0 (fun v h' => v = none ∧ ∃ b, h.size ≤ b ∧ Keep h h' [w] ∧ own_bw Z h' w (.ref b) (.int (Int32.ofNat l)) ∧ Ars Z h' b .byte (vs ++ List.replicate (l + 1) (.int (0 : Int32))) ∧ Exa Z h' b "[B") := by
  refine oCon.of own_pn4 (fun m => own_ef4 m w (1 : Int32)) ?_
  show oGo Z _ _ _ _ _ _ n0 _ 0 0 h 0 #[.val (.ref w), .val (.int (1 : Int32)), .unset] []
  obtain ⟨E10, F10_bytes, F10_length⟩ := O
  have e1 := own_oi (i := l + 1) (by omega)
  have e2 := own_oi (i := l + 1 + l) (by omega)
  refine oGo.aloadN (q := 1) d4_0 rfl rfl rfl ?_
  refine oGo.getF (host := "") (q := 4) (v := (.int (Int32.ofNat l))) d4_1 rfl (Or.inl (hw _ (List.mem_of_getElem? (i := 18) rfl))) Via.refl F10_length ?_
  refine oGo.iloadN (q := 5) d4_4 rfl rfl ?_
  refine oGo.iadd (q := 6) d4_5 rfl ?_
  rw [own_oadd (i := l) (c := (1 : Int32)) (m := 1) rfl]
  refine oGo.istoreN (q := 7) (L' := #[.val (.ref w), .val (.int (1 : Int32)), .val (.int (Int32.ofNat (l + 1)))]) d4_6 rfl rfl ?_
  refine oGo.aloadN (q := 8) d4_7 rfl rfl rfl ?_
  refine oGo.aloadN (q := 9) d4_8 rfl rfl rfl ?_
  refine oGo.getF (host := "") (q := 12) (v := (.ref a)) d4_9 rfl (Or.inl (hw _ (List.mem_of_getElem? (i := 11) rfl))) Via.refl F10_bytes ?_
  refine oGo.iloadN (q := 13) d4_12 rfl rfl ?_
  refine oGo.iloadN (q := 14) d4_13 rfl rfl ?_
  refine oGo.aloadN (q := 15) d4_14 rfl rfl rfl ?_
  refine oGo.getF (host := "") (q := 18) (v := (.ref a)) d4_15 rfl (Or.inl (hw _ (List.mem_of_getElem? (i := 11) rfl))) Via.refl F10_bytes ?_
  refine oGo.arraylength (q := 19) (v := (Int32.ofNat l)) d4_18 rfl A (by rw [hl]) ?_
  refine oGo.iadd (q := 20) d4_19 rfl ?_
  rw [own_oadd (i := l + 1) (m := l) rfl]
  refine oGo.callS (W := 2) (rm := ({ frames := 0, cells := 0, slots := 0, locals := 0 } : Room)) (q := 23) [(.int (Int32.ofNat (l + 1))), (.int (Int32.ofNat (l + 1 + l)))] [(.ref a), (.ref w)] d4_20 rfl (hw _ (List.mem_of_getElem? (i := 24) rfl)) (hw _ (List.mem_of_getElem? (i := 25) rfl)) (hw _ (List.mem_of_getElem? (i := 26) rfl)) (hw _ (List.mem_of_getElem? (i := 27) rfl)) (by decide) (cmax hw (Int32.ofNat (l + 1)) (Int32.ofNat (l + 1 + l)) h n0) rfl rfl own_pd5 rfl rfl (Nat.le_of_eq rfl) (by decide) (by decide) (by decide) (by decide) ?_
  rintro _ h11 ⟨⟨z, rfl, hz⟩, eh⟩
  all_goals subst h11
  show oGo Z _ _ _ _ _ _ n0 _ 0 0 h 23 #[.val (.ref w), .val (.int (1 : Int32)), .val (.int (Int32.ofNat (l + 1)))] [(.int z), (.ref a), (.ref w)]
  refine oGo.callS (W := 1) (rm := ({ frames := 1, cells := 1, slots := 8, locals := 27 } : Room)) (q := 26) [(.ref a), (.int z)] [(.ref w)] d4_23 rfl (hw _ (List.mem_of_getElem? (i := 28) rfl)) (hw _ (List.mem_of_getElem? (i := 29) rfl)) (hw _ (List.mem_of_getElem? (i := 30) rfl)) (hw _ (List.mem_of_getElem? (i := 31) rfl)) (by decide) (ccp hw a z (l + 1 + l) vs h n0 Z0 A (by omega) (by omega) (by omega) EA) rfl rfl own_pd6 rfl rfl (Nat.le_of_eq rfl) (by decide) (by decide) (by decide) (by decide) ?_
  rintro _ h12 ⟨b, rfl, gb, K, B, EB⟩
  show oGo Z _ _ _ _ _ _ n0 _ 1 8 h12 26 #[.val (.ref w), .val (.int (1 : Int32)), .val (.int (Int32.ofNat (l + 1)))] [(.ref b), (.ref w)]
  have nwb : w ≠ b := Nat.ne_of_lt (Nat.lt_of_lt_of_le (E10.lt) gb)
  have E10_ := Exa.keep E10 K
  have F10_bytes_ := Fld.keep F10_bytes K nin0
  have F10_length_ := Fld.keep F10_length K nin0
  have A_ := Ars.keep A K nin0
  have EA_ := Exa.keep EA K
  have Z0_ := Nat.le_trans Z0 K.1
  rw [List.take_of_length_le (by omega), show l + 1 + l - vs.length = l + 1 by omega] at B
  refine oGo.putF (host := "") (ty := (.array .byte)) (q := 29) d4_26 rfl (Or.inl (hw _ (List.mem_of_getElem? (i := 11) rfl))) Via.refl F10_bytes_ E10_ (Or.inl (hw _ (List.mem_of_getElem? (i := 12) rfl))) (hw _ (List.mem_of_getElem? (i := 2) rfl)) (by decide) rfl rfl gw ?_
  intro h13 K13 E13 F13 G13
  have F13_length := G13 (slot_ne (Or.inl (hw _ (List.mem_of_getElem? (i := 19) rfl))) (Or.inl (hw _ (List.mem_of_getElem? (i := 12) rfl))) (by decide) (t := .int) (t' := (.array .byte)) (by decide) (by decide)) F10_length_
  have B_ := Ars.keep B K13 (ninS (Ne.symm nwb) nin0)
  have EB_ := Exa.keep EB K13
  have Z0__ := Nat.le_trans Z0_ K13.1
  show oGo Z _ _ _ _ _ _ n0 _ 1 8 h13 29 #[.val (.ref w), .val (.int (1 : Int32)), .val (.int (Int32.ofNat (l + 1)))] []
  exact oGo.retV d4_29 rfl (by decide) (by decide) (⟨rfl, b, gb, Keep.trans (Keep.trans (Keep.refl h [w]) K (fun x hx => nomatch hx)) K13 (fun x hx => Or.inl hx), ⟨E13, F13, F13_length⟩, B_, EB_⟩)
theorem own_ef3 (m : MethodId) (x0 : Addr) (x1 : Int32) : entryFrame m #[(.ref x0), (.int x1)] 2 = mkF m 0 #[.val (.ref x0), .val (.int x1)] [] := by first | (simp [entryFrame, mkF, argsToLocals, Value.category]; done) | rfl
theorem own_pn3 : plainFor (⟨"com/example/lexorder/lexorder/ByteWriter", "write", "(B)V"⟩ : MethodName) = true := plainFor_of_name (by first | (simp [plainName, overriddenIn]; done) | decide +kernel)
set_option maxRecDepth 65536 in
set_option maxHeartbeats 40000000 in
theorem cw {Z : State} {a0 : Array Value} (hw : ∀ d ∈ tables_1, d.before a0 Z = true) (w : Addr) (b : Int32) (n : Nat) (f : Nat → Int32) (h : Heap) (n0 : Nat) (Z0 : n0 ≤ h.size) (hn : n ≤ 3) (O : own_ws Z h n0 w n f) (hb : b.toInt8.toInt32 = b) (hf : f n = b) :
    oCon Z (⟨"com/example/lexorder/lexorder/ByteWriter", "write", "(B)V"⟩ : MethodName) prog_4_method_3_code 2 none ({ frames := 3, cells := 1, slots := 8, locals := 61 } : Room) #[(.ref w), (.int b)] h n0 (fun v h' => v = none ∧ n0 ≤ h'.size ∧ own_ws Z h' n0 w (n + 1) f) := by
  refine oCon.of own_pn3 (fun m => own_ef3 m w b) ?_
  show oGo Z _ _ _ _ _ _ n0 _ 0 0 h 0 #[.val (.ref w), .val (.int b)] []
  obtain ⟨a, vs, O, A, EA, hnv, hv15, hvf, ga, gw, hne⟩ := O
  obtain ⟨E14, F14_bytes, F14_length⟩ := O
  have en := own_oi (i := n) (by omega)
  have el := own_oi (i := vs.length) (by omega)
  refine oGo.aloadN (q := 1) d3_0 rfl rfl rfl ?_
  refine oGo.getF (host := "") (q := 4) (v := (.int (Int32.ofNat n))) d3_1 rfl (Or.inl (hw _ (List.mem_of_getElem? (i := 18) rfl))) Via.refl F14_length ?_
  refine oGo.aloadN (q := 5) d3_4 rfl rfl rfl ?_
  refine oGo.getF (host := "") (q := 8) (v := (.ref a)) d3_5 rfl (Or.inl (hw _ (List.mem_of_getElem? (i := 11) rfl))) Via.refl F14_bytes ?_
  refine oGo.arraylength (q := 9) (v := (Int32.ofNat vs.length)) d3_8 rfl A rfl ?_
  have J17 : ∀ (hh : Heap) (e : Addr) (us : List Value), n0 ≤ hh.size → own_bw Z hh w (.ref e) (.int (Int32.ofNat n)) → Ars Z hh e .byte us → Exa Z hh e "[B" → n < us.length → us.length ≤ 15 → (∀ i, i < n → us[i]? = some (.int (f i))) → n0 ≤ e → e ≠ w → oGo Z "com/example/lexorder/lexorder/ByteWriter" "write" prog_4_method_3_code 2 none ({ frames := 3, cells := 1, slots := 8, locals := 61 } : Room) n0 (fun v h' => v = none ∧ n0 ≤ h'.size ∧ own_ws Z h' n0 w (n + 1) f) 1 8 hh 17 #[.val (.ref w), .val (.int b)] [] := by
    intro hh e us Zh O A EA hnu hu15 huf ge hew
    obtain ⟨E15, F15_bytes, F15_length⟩ := O
    refine oGo.aloadN (q := 18) d3_17 rfl rfl rfl ?_
    refine oGo.getF (host := "") (q := 21) (v := (.ref e)) d3_18 rfl (Or.inl (hw _ (List.mem_of_getElem? (i := 11) rfl))) Via.refl F15_bytes ?_
    refine oGo.aloadN (q := 22) d3_21 rfl rfl rfl ?_
    refine oGo.dup (q := 23) d3_22 rfl rfl ?_
    refine oGo.getF (host := "") (q := 26) (v := (.int (Int32.ofNat n))) d3_23 rfl (Or.inl (hw _ (List.mem_of_getElem? (i := 18) rfl))) Via.refl F15_length ?_
    refine oGo.dupX1 (q := 27) d3_26 rfl rfl rfl ?_
    refine oGo.iconst (q := 28) (v := (1 : Int32)) d3_27 rfl rfl ?_
    refine oGo.iadd (q := 29) d3_28 rfl ?_
    rw [own_oadd (i := n) (c := (1 : Int32)) (m := 1) rfl]
    refine oGo.putF (host := "") (ty := .int) (q := 32) d3_29 rfl (Or.inl (hw _ (List.mem_of_getElem? (i := 18) rfl))) Via.refl F15_length E15 (Or.inl (hw _ (List.mem_of_getElem? (i := 19) rfl))) (hw _ (List.mem_of_getElem? (i := 2) rfl)) (by decide) rfl rfl gw ?_
    intro h16 K16 E16 F16 G16
    have F16_bytes := G16 (slot_ne (Or.inl (hw _ (List.mem_of_getElem? (i := 12) rfl))) (Or.inl (hw _ (List.mem_of_getElem? (i := 19) rfl))) (by decide) (t := (.array .byte)) (t' := .int) (by decide) (by decide)) F15_bytes
    have A_ := Ars.keep A K16 (ninS hew nin0)
    have EA_ := Exa.keep EA K16
    have Zh_ := Nat.le_trans Zh K16.1
    show oGo Z _ _ _ _ _ _ n0 _ 1 8 h16 32 #[.val (.ref w), .val (.int b)] [(.int (Int32.ofNat n)), (.ref e)]
    refine oGo.iloadN (q := 33) d3_32 rfl rfl ?_
    refine oGo.bastore (q := 34) (i := n) (y := b) d3_33 rfl A_ en hnu ge hb ?_
    intro h17 K17 A17
    have EA__ := Exa.keep EA_ K17
    have E16_ := Exa.keep E16 K17
    have F16_ := Fld.keep F16 K17 (ninS (Ne.symm hew) nin0)
    have F16_bytes_ := Fld.keep F16_bytes K17 (ninS (Ne.symm hew) nin0)
    have Zh__ := Nat.le_trans Zh_ K17.1
    show oGo Z _ _ _ _ _ _ n0 _ 1 8 h17 34 #[.val (.ref w), .val (.int b)] []
    exact oGo.retV d3_34 rfl (by decide) (by decide) (⟨rfl, Zh__, e, _, ⟨E16_, F16_bytes_, F16_⟩, A17, EA__, by rw [List.length_set]; omega, by rw [List.length_set]; exact hu15, fun i hi => by
      by_cases u : n = i
      · subst u; rw [List.getElem?_set_self hnu, hf]
      · rw [List.getElem?_set_ne u]; exact huf i (by omega), ge, gw, hew⟩)
  refine oGo.icmp_ne (q := 17) (r := 12) d3_9 (by decide) rfl (fun hc => ?_) (fun hc => ?_)
  · skip
    have hlt : n < vs.length := by
      rcases Nat.lt_or_ge n vs.length with u | u
      · exact u
      · exact absurd (congrArg Int32.ofNat (show n = vs.length by omega)) hc
    exact oGo.more (by decide) (by decide) (J17 _ _ _ Z0 ⟨E14, F14_bytes, F14_length⟩ A EA hlt hv15 hvf ga hne)
  · skip
    have hvl : vs.length = n := by have := congrArg Int32.toInt hc; omega
    refine oGo.aloadN (q := 13) d3_12 rfl rfl rfl ?_
    refine oGo.iconst (q := 14) (v := (1 : Int32)) d3_13 rfl rfl ?_
    refine oGo.callP (W := 0) (rm := ({ frames := 2, cells := 1, slots := 8, locals := 47 } : Room)) (q := 17) (a := w) [(.int (1 : Int32))] [] d3_14 rfl (hw _ (List.mem_of_getElem? (i := 20) rfl)) (hw _ (List.mem_of_getElem? (i := 21) rfl)) (hw _ (List.mem_of_getElem? (i := 22) rfl)) (hw _ (List.mem_of_getElem? (i := 2) rfl)) (hw _ (List.mem_of_getElem? (i := 3) rfl)) (hw _ (List.mem_of_getElem? (i := 23) rfl)) (by decide) (E14) (cg hw w a n vs h n0 Z0 gw hne ⟨E14, F14_bytes, F14_length⟩ A EA hvl hn) rfl rfl own_pd0 rfl rfl (Nat.le_of_eq rfl) (by decide) (by decide) (by decide) (by decide) ?_
    rintro _ h18 ⟨rfl, e, ge, K, O', B, EB⟩
    show oGo Z _ _ _ _ _ _ n0 _ 1 8 h18 17 #[.val (.ref w), .val (.int b)] []
    exact J17 _ e _ (Nat.le_trans Z0 K.1) O' B EB (by rw [List.length_append, List.length_replicate]; omega) (by rw [List.length_append, List.length_replicate]; omega) (fun i hi => by rw [List.getElem?_append_left (by omega)]; exact hvf i hi) (Nat.le_trans Z0 ge) (Nat.ne_of_lt (Nat.lt_of_lt_of_le (E14.lt) ge)).symm
theorem own_ef8 (m : MethodId) (x0 : Addr) (x1 : Int32) : entryFrame m #[(.ref x0), (.int x1)] 3 = mkF m 0 #[.val (.ref x0), .val (.int x1), .unset] [] := by first | (simp [entryFrame, mkF, argsToLocals, Value.category]; done) | rfl
theorem own_pn8 : plainFor (⟨"com/example/lexorder/lexorder/ByteWriter", "invertFrom", "(I)V"⟩ : MethodName) = true := plainFor_of_name (by first | (simp [plainName, overriddenIn]; done) | decide +kernel)
set_option maxRecDepth 65536 in
set_option maxHeartbeats 40000000 in
theorem cv {Z : State} {a0 : Array Value} (hw : ∀ d ∈ tables_1, d.before a0 Z = true) (w : Addr) (s n : Nat) (f : Nat → Int32) (h : Heap) (n0 : Nat) (Z0 : n0 ≤ h.size) (hn : n ≤ 4) (hs : s ≤ n) (O : own_ws Z h n0 w n f) :
    oCon Z (⟨"com/example/lexorder/lexorder/ByteWriter", "invertFrom", "(I)V"⟩ : MethodName) prog_4_method_10_code 3 none ({ frames := 0, cells := 0, slots := 0, locals := 0 } : Room) #[(.ref w), (.int (Int32.ofNat s))] h n0 (fun v h' => v = none ∧ n0 ≤ h'.size ∧ own_ws Z h' n0 w n (own_inv s f)) := by
  refine oCon.of own_pn8 (fun m => own_ef8 m w (Int32.ofNat s)) ?_
  show oGo Z _ _ _ _ _ _ n0 _ 0 0 h 0 #[.val (.ref w), .val (.int (Int32.ofNat s)), .unset] []
  obtain ⟨a, vs, O, A, EA, hnv, hv15, hvf, ga, gw, hne⟩ := O
  have en := own_oi (i := n) (by omega)
  refine oGo.iloadN (q := 1) d8_0 rfl rfl ?_
  refine oGo.istoreN (q := 2) (L' := #[.val (.ref w), .val (.int (Int32.ofNat s)), .val (.int (Int32.ofNat s))]) d8_1 rfl rfl ?_
  have loop : ∀ (t i : Nat) (hi : Heap) (vi : List Value), i + t = n → s ≤ i → n0 ≤ hi.size → own_bw Z hi w (.ref a) (.int (Int32.ofNat n)) → Ars Z hi a .byte vi → Exa Z hi a "[B" → n ≤ vi.length → vi.length ≤ 15 → (∀ k, k < n → vi[k]? = some (.int (if k < i then own_inv s f k else f k))) → oGo Z "com/example/lexorder/lexorder/ByteWriter" "invertFrom" prog_4_method_10_code 3 none ({ frames := 0, cells := 0, slots := 0, locals := 0 } : Room) n0 (fun v h' => v = none ∧ n0 ≤ h'.size ∧ own_ws Z h' n0 w n (own_inv s f)) 0 0 hi 2 #[.val (.ref w), .val (.int (Int32.ofNat s)), .val (.int (Int32.ofNat i))] [] := by
    intro t
    induction t with
    | zero =>
      intro i hi vi hin hsi Zh O A EA hnu hu15 H
      have ei := own_oi (i := i) (by omega)
      obtain ⟨E19, F19_bytes, F19_length⟩ := O
      refine oGo.iloadN (q := 3) d8_2 rfl rfl ?_
      refine oGo.aloadN (q := 4) d8_3 rfl rfl rfl ?_
      refine oGo.getF (host := "") (q := 7) (v := (.int (Int32.ofNat n))) d8_4 rfl (Or.inl (hw _ (List.mem_of_getElem? (i := 18) rfl))) Via.refl F19_length ?_
      refine oGo.icmp_ge (q := 31) (r := 10) d8_7 (by decide) rfl (fun hc => ?_) (fun hc => absurd hc (by omega))
      exact oGo.retV d8_31 rfl (by decide) (by decide) (⟨rfl, Zh, a, vi, ⟨E19, F19_bytes, F19_length⟩, A, EA, hnu, hu15, fun k hk => by rw [H k hk, if_pos (by omega)], ga, gw, hne⟩)
    | succ t ih =>
      intro i hi vi hin hsi Zh O A EA hnu hu15 H
      have ei := own_oi (i := i) (by omega)
      obtain ⟨E20, F20_bytes, F20_length⟩ := O
      refine oGo.iloadN (q := 3) d8_2 rfl rfl ?_
      refine oGo.aloadN (q := 4) d8_3 rfl rfl rfl ?_
      refine oGo.getF (host := "") (q := 7) (v := (.int (Int32.ofNat n))) d8_4 rfl (Or.inl (hw _ (List.mem_of_getElem? (i := 18) rfl))) Via.refl F20_length ?_
      refine oGo.icmp_ge (q := 31) (r := 10) d8_7 (by decide) rfl (fun hc => absurd hc (by omega)) (fun hc => ?_)
      have hx : vi[i]? = some (.int (f i)) := by rw [H i (by omega), if_neg (by omega)]
      refine oGo.aloadN (q := 11) d8_10 rfl rfl rfl ?_
      refine oGo.getF (host := "") (q := 14) (v := (.ref a)) d8_11 rfl (Or.inl (hw _ (List.mem_of_getElem? (i := 11) rfl))) Via.refl F20_bytes ?_
      refine oGo.iloadN (q := 15) d8_14 rfl rfl ?_
      refine oGo.aloadN (q := 16) d8_15 rfl rfl rfl ?_
      refine oGo.getF (host := "") (q := 19) (v := (.ref a)) d8_16 rfl (Or.inl (hw _ (List.mem_of_getElem? (i := 11) rfl))) Via.refl F20_bytes ?_
      refine oGo.iloadN (q := 20) d8_19 rfl rfl ?_
      refine oGo.baload (q := 21) (i := i) (v := (.int (f i))) d8_20 rfl A ei hx ?_
      refine oGo.iconst (q := 22) (v := (-1 : Int32)) d8_21 rfl (by decide) ?_
      refine oGo.ixor (q := 23) d8_22 rfl ?_
      refine oGo.i2b (q := 24) d8_23 rfl ?_
      refine oGo.bastore (q := 25) (i := i) (y := (own_inv s f i)) d8_24 rfl A ei (by omega) ga (by unfold own_inv; rw [if_neg (by omega)]; exact own_bb _) ?_
      intro h21 K21 A21
      have E20_ := Exa.keep E20 K21
      have F20_bytes_ := Fld.keep F20_bytes K21 (ninS (Ne.symm hne) nin0)
      have F20_length_ := Fld.keep F20_length K21 (ninS (Ne.symm hne) nin0)
      have EA_ := Exa.keep EA K21
      have Zh_ := Nat.le_trans Zh K21.1
      show oGo Z _ _ _ _ _ _ n0 _ 0 0 h21 25 #[.val (.ref w), .val (.int (Int32.ofNat s)), .val (.int (Int32.ofNat i))] []
      refine oGo.iinc (q := 28) (v := (Int32.ofNat (i + 1))) (L' := #[.val (.ref w), .val (.int (Int32.ofNat s)), .val (.int (Int32.ofNat (i + 1)))]) d8_25 rfl rfl (own_oinc i) rfl ?_
      refine oGo.goto (q := 2) d8_28 (by decide) ?_
      refine ih (i + 1) _ _ (by omega) (by omega) Zh_ ⟨E20_, F20_bytes_, F20_length_⟩ A21 EA_ (by rw [List.length_set]; exact hnu) (by rw [List.length_set]; exact hu15) (fun k hk => ?_)
      by_cases u : i = k
      · subst u; rw [List.getElem?_set_self (by omega), if_pos (by omega)]
      · rw [List.getElem?_set_ne u, H k hk]
        by_cases v : k < i
        · rw [if_pos v, if_pos (by omega)]
        · rw [if_neg v, if_neg (by omega)]
  exact loop (n - s) s h vs (by omega) (by omega) Z0 O A EA hnv hv15 (fun k hk => by
    rw [hvf k hk]
    by_cases v : k < s
    · rw [if_pos v]; unfold own_inv; rw [if_pos v]
    · rw [if_neg v])
theorem own_ef9 (m : MethodId) (x0 : Addr) : entryFrame m #[(.ref x0)] 1 = mkF m 0 #[.val (.ref x0)] [] := by first | (simp [entryFrame, mkF, argsToLocals, Value.category]; done) | rfl
theorem own_pn9 : plainFor (⟨"com/example/lexorder/lexorder/ByteWriter", "toByteArray", "()[B"⟩ : MethodName) = true := plainFor_of_name (by first | (simp [plainName, overriddenIn]; done) | decide +kernel)
set_option maxRecDepth 65536 in
set_option maxHeartbeats 40000000 in
theorem ct {Z : State} {a0 : Array Value} (hw : ∀ d ∈ tables_1, d.before a0 Z = true) (w : Addr) (n : Nat) (f : Nat → Int32) (h : Heap) (n0 : Nat) (Z0 : n0 ≤ h.size) (hn : n ≤ 4) (O : own_ws Z h n0 w n f) :
    oCon Z (⟨"com/example/lexorder/lexorder/ByteWriter", "toByteArray", "()[B"⟩ : MethodName) prog_4_method_11_code 1 (some (.array .byte)) ({ frames := 2, cells := 1, slots := 8, locals := 41 } : Room) #[(.ref w)] h n0 (fun v h' => ∃ o us, v = some (.ref o) ∧ own_ws Z h' n0 w n f ∧ Ars Z h' o .byte us ∧ us.length = n ∧ ∀ i, i < n → us[i]? = some (.int (f i))) := by
  refine oCon.of own_pn9 (fun m => own_ef9 m w) ?_
  show oGo Z _ _ _ _ _ _ n0 _ 0 0 h 0 #[.val (.ref w)] []
  have O0 := O
  obtain ⟨a, vs, O, A, EA, hnv, hv15, hvf, ga, gw, hne⟩ := O
  obtain ⟨E22, F22_bytes, F22_length⟩ := O
  have en := own_oi (i := n) (by omega)
  refine oGo.aloadN (q := 1) d9_0 rfl rfl rfl ?_
  refine oGo.getF (host := "") (q := 4) (v := (.ref a)) d9_1 rfl (Or.inl (hw _ (List.mem_of_getElem? (i := 11) rfl))) Via.refl F22_bytes ?_
  refine oGo.aloadN (q := 5) d9_4 rfl rfl rfl ?_
  refine oGo.getF (host := "") (q := 8) (v := (.int (Int32.ofNat n))) d9_5 rfl (Or.inl (hw _ (List.mem_of_getElem? (i := 18) rfl))) Via.refl F22_length ?_
  refine oGo.callS (W := 0) (rm := ({ frames := 1, cells := 1, slots := 8, locals := 27 } : Room)) (q := 11) [(.ref a), (.int (Int32.ofNat n))] [] d9_8 rfl (hw _ (List.mem_of_getElem? (i := 28) rfl)) (hw _ (List.mem_of_getElem? (i := 29) rfl)) (hw _ (List.mem_of_getElem? (i := 30) rfl)) (hw _ (List.mem_of_getElem? (i := 31) rfl)) (by decide) (ccp hw a (Int32.ofNat n) n vs h n0 Z0 A en (by omega) (by omega) EA) rfl rfl own_pd6 rfl rfl (Nat.le_of_eq rfl) (by decide) (by decide) (by decide) (by decide) ?_
  rintro _ h23 ⟨o, rfl, go, K, B, EB⟩
  show oGo Z _ _ _ _ _ _ n0 _ 1 8 h23 11 #[.val (.ref w)] [(.ref o)]
  rw [show n - vs.length = 0 by omega, List.replicate_zero, List.append_nil] at B
  exact oGo.retA d9_11 rfl rfl rfl (by decide) (by decide) (⟨o, _, rfl, O0.keep K, B, by rw [List.length_take]; omega, fun i hi => by rw [List.getElem?_take_of_lt hi]; exact hvf i hi⟩)
theorem own_ef10 (m : MethodId) (x0 : Addr) : entryFrame m #[(.ref x0)] 1 = mkF m 0 #[.val (.ref x0)] [] := by first | (simp [entryFrame, mkF, argsToLocals, Value.category]; done) | rfl
theorem own_pn10 : plainFor (⟨"com/example/lexorder/lexorder/ByteWriter", "length", "()I"⟩ : MethodName) = true := plainFor_of_name (by first | (simp [plainName, overriddenIn]; done) | decide +kernel)
set_option maxRecDepth 65536 in
set_option maxHeartbeats 40000000 in
theorem cl {Z : State} {a0 : Array Value} (hw : ∀ d ∈ tables_1, d.before a0 Z = true) (w : Addr) (n : Nat) (f : Nat → Int32) (h : Heap) (n0 : Nat) (O : own_ws Z h n0 w n f) :
    oCon Z (⟨"com/example/lexorder/lexorder/ByteWriter", "length", "()I"⟩ : MethodName) prog_4_method_8_code 1 (some .int) ({ frames := 0, cells := 0, slots := 0, locals := 0 } : Room) #[(.ref w)] h n0 (fun v h' => v = some (.int (Int32.ofNat n)) ∧ h' = h) := by
  refine oCon.of own_pn10 (fun m => own_ef10 m w) ?_
  show oGo Z _ _ _ _ _ _ n0 _ 0 0 h 0 #[.val (.ref w)] []
  obtain ⟨a, vs, O, A, EA, hnv, hv15, hvf, ga, gw, hne⟩ := O
  obtain ⟨E24, F24_bytes, F24_length⟩ := O
  refine oGo.aloadN (q := 1) d10_0 rfl rfl rfl ?_
  refine oGo.getF (host := "") (q := 4) (v := (.int (Int32.ofNat n))) d10_1 rfl (Or.inl (hw _ (List.mem_of_getElem? (i := 18) rfl))) Via.refl F24_length ?_
  exact oGo.retI d10_4 rfl (by decide) (by decide) (⟨rfl, rfl⟩)
theorem own_ef11 (m : MethodId) (x0 : Addr) (x1 : Int32) (x2 : Int32) (x3 : Int32) (x4 : Int32) : entryFrame m #[(.ref x0), (.int x1), (.int x2), (.int x3), (.int x4)] 6 = mkF m 0 #[.val (.ref x0), .val (.int x1), .val (.int x2), .val (.int x3), .val (.int x4), .unset] [] := by first | (simp [entryFrame, mkF, argsToLocals, Value.category]; done) | rfl
theorem own_pn11 : plainFor (⟨"com/example/lexorder/lexorder/ByteWriterInvertFromPinLaw", "at", "([BIBII)Z"⟩ : MethodName) = true := plainFor_of_name (by first | (simp [plainName, overriddenIn]; done) | decide +kernel)
set_option maxRecDepth 65536 in
set_option maxHeartbeats 40000000 in
theorem ca {Z : State} {a0 : Array Value} (hw : ∀ d ∈ tables_1, d.before a0 Z = true) (o : Addr) (i b : Int32) (n s k : Nat) (us : List Value) (h : Heap) (n0 : Nat) (A : Ars Z h o .byte us) (hi : i.toInt = (k : Int)) (hn : n ≤ 4) (hs : s ≤ n) (H : k < n → us[k]? = some (.int (if k < s then b else (b ^^^ (-1 : Int32)).toInt8.toInt32))) :
    oCon Z (⟨"com/example/lexorder/lexorder/ByteWriterInvertFromPinLaw", "at", "([BIBII)Z"⟩ : MethodName) method_2_code 6 (some .boolean) ({ frames := 0, cells := 0, slots := 0, locals := 0 } : Room) #[(.ref o), (.int i), (.int b), (.int (Int32.ofNat n)), (.int (Int32.ofNat s))] h n0 (fun v h' => v = some (.int 1) ∧ h' = h) := by
  refine oCon.of own_pn11 (fun m => own_ef11 m o i b (Int32.ofNat n) (Int32.ofNat s)) ?_
  show oGo Z _ _ _ _ _ _ n0 _ 0 0 h 0 #[.val (.ref o), .val (.int i), .val (.int b), .val (.int (Int32.ofNat n)), .val (.int (Int32.ofNat s)), .unset] []
  have en := own_oi (i := n) (by omega)
  have es := own_oi (i := s) (by omega)
  have J25 : ∀ (e : Int32), us[k]? = some (.int e) → oGo Z "com/example/lexorder/lexorder/ByteWriterInvertFromPinLaw" "at" method_2_code 6 (some .boolean) ({ frames := 0, cells := 0, slots := 0, locals := 0 } : Room) n0 (fun v h' => v = some (.int 1) ∧ h' = h) 0 0 h 25 #[.val (.ref o), .val (.int i), .val (.int b), .val (.int (Int32.ofNat n)), .val (.int (Int32.ofNat s)), .val (.int e)] [] := by
    intro e he
    refine oGo.aloadN (q := 26) d11_25 rfl rfl rfl ?_
    refine oGo.iloadN (q := 27) d11_26 rfl rfl ?_
    refine oGo.baload (q := 28) (i := k) (v := (.int e)) d11_27 rfl A hi he ?_
    refine oGo.iload (q := 30) d11_28 rfl rfl ?_
    refine oGo.icmp_ne (q := 37) (r := 33) d11_30 (by decide) rfl (fun hc => absurd rfl hc) (fun hc => ?_)
    refine oGo.iconst (q := 34) (v := (1 : Int32)) d11_33 rfl rfl ?_
    refine oGo.goto (q := 38) d11_34 (by decide) ?_
    exact oGo.retN (t := .boolean) d11_38 rfl (by simp) (by decide) (by decide) (⟨rfl, rfl⟩)
  refine oGo.iloadN (q := 1) d11_0 rfl rfl ?_
  refine oGo.iloadN (q := 2) d11_1 rfl rfl ?_
  refine oGo.icmp_lt (q := 7) (r := 5) d11_2 (by decide) rfl (fun hc => ?_) (fun hc => ?_)
  · skip
    have hu := H (by omega)
    refine oGo.iloadN (q := 8) d11_7 rfl rfl ?_
    refine oGo.iload (q := 10) d11_8 rfl rfl ?_
    refine oGo.icmp_ge (q := 19) (r := 13) d11_10 (by decide) rfl (fun hc2 => ?_) (fun hc2 => ?_)
    · skip
      refine oGo.iloadN (q := 20) d11_19 rfl rfl ?_
      refine oGo.iconst (q := 21) (v := (-1 : Int32)) d11_20 rfl (by decide) ?_
      refine oGo.ixor (q := 22) d11_21 rfl ?_
      refine oGo.i2b (q := 23) d11_22 rfl ?_
      refine oGo.istore (q := 25) (L' := #[.val (.ref o), .val (.int i), .val (.int b), .val (.int (Int32.ofNat n)), .val (.int (Int32.ofNat s)), .val (.int (b ^^^ (-1 : Int32)).toInt8.toInt32)]) d11_23 rfl rfl ?_
      exact J25 _ (by rw [hu, if_neg (by omega)])
    · skip
      refine oGo.iloadN (q := 14) d11_13 rfl rfl ?_
      refine oGo.istore (q := 16) (L' := #[.val (.ref o), .val (.int i), .val (.int b), .val (.int (Int32.ofNat n)), .val (.int (Int32.ofNat s)), .val (.int b)]) d11_14 rfl rfl ?_
      refine oGo.goto (q := 25) d11_16 (by decide) ?_
      exact J25 _ (by rw [hu, if_pos (by omega)])
  · skip
    refine oGo.iconst (q := 6) (v := (1 : Int32)) d11_5 rfl rfl ?_
    exact oGo.retN (t := .boolean) d11_6 rfl (by simp) (by decide) (by decide) (⟨rfl, rfl⟩)
theorem own_ef0 (m : MethodId) (x0 : Int32) (x1 : Int32) (x2 : Int32) (x3 : Int32) : entryFrame m #[(.int x0), (.int x1), (.int x2), (.int x3)] maxLocals = mkF m 0 #[.val (.int x0), .val (.int x1), .val (.int x2), .val (.int x3), .unset, .unset, .unset, .unset, .unset, .unset, .unset, .unset] [] := by first | (simp [entryFrame, mkF, argsToLocals, Value.category, maxLocals]; done) | rfl
theorem own_pn0 : plainFor x = true := plainFor_of_name (by first | (simp [plainName, overriddenIn, x]; done) | decide +kernel)
set_option maxRecDepth 65536 in
set_option maxHeartbeats 40000000 in
theorem law {Z : State} {a0 : Array Value} (hw : ∀ d ∈ tables_1, d.before a0 Z = true) (p0 p1 p2 p3 : Int32) (h : Heap) (n0 : Nat) (Z0 : n0 ≤ h.size) :
    oCon Z x code maxLocals ret room_1 #[(.int p0), (.int p1), (.int p2), (.int p3)] h n0 (fun v _ => v = some (.int 1)) := by
  refine oCon.of own_pn0 (fun m => own_ef0 m p0 p1 p2 p3) ?_
  show oGo Z _ _ _ _ _ _ n0 _ 0 0 h 0 #[.val (.int p0), .val (.int p1), .val (.int p2), .val (.int p3), .unset, .unset, .unset, .unset, .unset, .unset, .unset, .unset] []
  refine oGo.iloadN (q := 1) at_0 rfl rfl ?_
  refine oGo.ldcI (q := 3) (v := (2147483647 : Int32)) at_1 rfl (hw _ (List.mem_of_getElem? (i := 0) rfl)) ?_
  refine oGo.iand (q := 4) at_3 rfl ?_
  refine oGo.iconst (q := 5) (v := (5 : Int32)) at_4 rfl rfl ?_
  refine oGo.irem (q := 6) at_5 rfl (by decide) ?_
  obtain ⟨n, en, hn⟩ : ∃ k : Nat, ((p2 &&& (2147483647 : Int32)) % (5 : Int32)) = Int32.ofNat k ∧ k ≤ 4 := by
    have a1 := c_mask p2 (2147483647 : Int32) 31 (by decide) (by decide)
    have p : ((2 ^ 31 : Nat) : Int) = 2147483648 := by decide
    rw [p] at a1
    have a2 := own_irem (p2 &&& (2147483647 : Int32)) 5 (by omega)
    have z : (5 : Int32).toInt = 5 := by decide
    rw [z] at a2
    exact ⟨(((p2 &&& (2147483647 : Int32)) % (5 : Int32)).toInt).toNat, own_nat (by omega) (by omega), by omega⟩
  rw [en]
  refine oGo.istore (q := 8) (L' := #[.val (.int p0), .val (.int p1), .val (.int p2), .val (.int p3), .val (.int (Int32.ofNat n)), .unset, .unset, .unset, .unset, .unset, .unset, .unset]) at_6 rfl rfl ?_
  refine oGo.iloadN (q := 9) at_8 rfl rfl ?_
  refine oGo.ldcI (q := 11) (v := (2147483647 : Int32)) at_9 rfl (hw _ (List.mem_of_getElem? (i := 0) rfl)) ?_
  refine oGo.iand (q := 12) at_11 rfl ?_
  refine oGo.iload (q := 14) at_12 rfl rfl ?_
  refine oGo.iconst (q := 15) (v := (1 : Int32)) at_14 rfl rfl ?_
  refine oGo.iadd (q := 16) at_15 rfl ?_
  rw [own_oadd (i := n) (c := (1 : Int32)) (m := 1) rfl]
  refine oGo.irem (q := 17) at_16 rfl (fun e => by have := congrArg Int32.toInt e; rw [own_oi (by omega)] at this; have z : (0 : Int32).toInt = 0 := (by decide); omega) ?_
  have hem : p3.toInt % 2147483648 % ((n : Int) + 1) < (n : Int) + 1 := Int.emod_lt_of_pos _ (by omega)
  have hem0 : 0 ≤ p3.toInt % 2147483648 % ((n : Int) + 1) := Int.emod_nonneg _ (by omega)
  obtain ⟨s, es, hs⟩ : ∃ k : Nat, ((p3 &&& (2147483647 : Int32)) % (Int32.ofNat (n + 1))) = Int32.ofNat k ∧ k ≤ n := by
    have a1 := c_mask p3 (2147483647 : Int32) 31 (by decide) (by decide)
    have p : ((2 ^ 31 : Nat) : Int) = 2147483648 := by decide
    rw [p] at a1
    have a2 := own_irem (p3 &&& (2147483647 : Int32)) (Int32.ofNat (n + 1)) (by omega)
    rw [own_oi (by omega), a1] at a2
    have a3 : ((n + 1 : Nat) : Int) = (n : Int) + 1 := by omega
    rw [a3] at a2
    exact ⟨(((p3 &&& (2147483647 : Int32)) % (Int32.ofNat (n + 1))).toInt).toNat, own_nat (by omega) (by omega), by omega⟩
  rw [es]
  refine oGo.istore (q := 19) (L' := #[.val (.int p0), .val (.int p1), .val (.int p2), .val (.int p3), .val (.int (Int32.ofNat n)), .val (.int (Int32.ofNat s)), .unset, .unset, .unset, .unset, .unset, .unset]) at_17 rfl rfl ?_
  refine oGo.iloadN (q := 20) at_19 rfl rfl ?_
  refine oGo.i2b (q := 21) at_20 rfl ?_
  obtain ⟨y0, ey0, hy0⟩ : ∃ y : Int32, p1.toInt8.toInt32 = y ∧ y.toInt8.toInt32 = y := ⟨_, rfl, own_bb _⟩
  rw [ey0]
  refine oGo.istore (q := 23) (L' := #[.val (.int p0), .val (.int p1), .val (.int p2), .val (.int p3), .val (.int (Int32.ofNat n)), .val (.int (Int32.ofNat s)), .val (.int y0), .unset, .unset, .unset, .unset, .unset]) at_21 rfl rfl ?_
  refine oGo.iloadN (q := 24) at_23 rfl rfl ?_
  refine oGo.bipush (q := 26) (v := (8 : Int32)) at_24 rfl rfl ?_
  refine oGo.iushr (q := 27) at_26 rfl ?_
  refine oGo.i2b (q := 28) at_27 rfl ?_
  obtain ⟨y1, ey1, hy1⟩ : ∃ y : Int32, ((p1.toUInt32 >>> ((8 : Int32) &&& 31).toUInt32).toInt32).toInt8.toInt32 = y ∧ y.toInt8.toInt32 = y := ⟨_, rfl, own_bb _⟩
  rw [ey1]
  refine oGo.istore (q := 30) (L' := #[.val (.int p0), .val (.int p1), .val (.int p2), .val (.int p3), .val (.int (Int32.ofNat n)), .val (.int (Int32.ofNat s)), .val (.int y0), .val (.int y1), .unset, .unset, .unset, .unset]) at_28 rfl rfl ?_
  refine oGo.iloadN (q := 31) at_30 rfl rfl ?_
  refine oGo.bipush (q := 33) (v := (16 : Int32)) at_31 rfl rfl ?_
  refine oGo.iushr (q := 34) at_33 rfl ?_
  refine oGo.i2b (q := 35) at_34 rfl ?_
  obtain ⟨y2, ey2, hy2⟩ : ∃ y : Int32, ((p1.toUInt32 >>> ((16 : Int32) &&& 31).toUInt32).toInt32).toInt8.toInt32 = y ∧ y.toInt8.toInt32 = y := ⟨_, rfl, own_bb _⟩
  rw [ey2]
  refine oGo.istore (q := 37) (L' := #[.val (.int p0), .val (.int p1), .val (.int p2), .val (.int p3), .val (.int (Int32.ofNat n)), .val (.int (Int32.ofNat s)), .val (.int y0), .val (.int y1), .val (.int y2), .unset, .unset, .unset]) at_35 rfl rfl ?_
  refine oGo.iloadN (q := 38) at_37 rfl rfl ?_
  refine oGo.bipush (q := 40) (v := (24 : Int32)) at_38 rfl rfl ?_
  refine oGo.iushr (q := 41) at_40 rfl ?_
  refine oGo.i2b (q := 42) at_41 rfl ?_
  obtain ⟨y3, ey3, hy3⟩ : ∃ y : Int32, ((p1.toUInt32 >>> ((24 : Int32) &&& 31).toUInt32).toInt32).toInt8.toInt32 = y ∧ y.toInt8.toInt32 = y := ⟨_, rfl, own_bb _⟩
  rw [ey3]
  refine oGo.istore (q := 44) (L' := #[.val (.int p0), .val (.int p1), .val (.int p2), .val (.int p3), .val (.int (Int32.ofNat n)), .val (.int (Int32.ofNat s)), .val (.int y0), .val (.int y1), .val (.int y2), .val (.int y3), .unset, .unset]) at_42 rfl rfl ?_
  refine oGo.newO (q := 47) at_44 rfl (hw _ (List.mem_of_getElem? (i := 1) rfl)) (hw _ (List.mem_of_getElem? (i := 2) rfl)) (hw _ (List.mem_of_getElem? (i := 3) rfl)) (by decide) (by decide) ?_
  intro h25 w g25 K25 E25 D25
  have ge_w : n0 ≤ w := Nat.le_trans Z0 (Nat.le_of_eq g25.symm)
  have Z0_ := Nat.le_trans Z0 K25.1
  have F25_bytes := D25 (Or.inl (hw _ (List.mem_of_getElem? (i := 12) rfl))) (ty := (.array .byte)) (by decide)
  have F25_length := D25 (Or.inl (hw _ (List.mem_of_getElem? (i := 19) rfl))) (ty := .int) (by decide)
  show oGo Z _ _ _ _ _ _ n0 _ 1 2 h25 47 #[.val (.int p0), .val (.int p1), .val (.int p2), .val (.int p3), .val (.int (Int32.ofNat n)), .val (.int (Int32.ofNat s)), .val (.int y0), .val (.int y1), .val (.int y2), .val (.int y3), .unset, .unset] [(.ref w)]
  refine oGo.dup (q := 48) at_47 rfl rfl ?_
  refine oGo.iloadN (q := 49) at_48 rfl rfl ?_
  refine oGo.bipush (q := 51) (v := (15 : Int32)) at_49 rfl rfl ?_
  refine oGo.iand (q := 52) at_51 rfl ?_
  obtain ⟨c, ec, hc⟩ : ∃ c : Nat, (p0 &&& (15 : Int32)) = Int32.ofNat c ∧ c ≤ 15 := by
    have a1 := c_mask p0 (15 : Int32) 4 (by decide) (by decide)
    have p : ((2 ^ 4 : Nat) : Int) = 16 := by decide
    rw [p] at a1
    exact ⟨((p0 &&& (15 : Int32)).toInt).toNat, own_nat (by omega) (by omega), by omega⟩
  rw [ec]
  refine oGo.callI (W := 1) (rm := ({ frames := 1, cells := 1, slots := 15, locals := 16 } : Room)) (q := 55) (a := w) [(.int (Int32.ofNat c))] [(.ref w)] at_52 rfl rfl (hw _ (List.mem_of_getElem? (i := 4) rfl)) (hw _ (List.mem_of_getElem? (i := 5) rfl)) (hw _ (List.mem_of_getElem? (i := 3) rfl)) (hw _ (List.mem_of_getElem? (i := 6) rfl)) (by decide) (ci hw w c h25 n0 Z0_ ge_w hc ⟨E25, F25_bytes, F25_length⟩) rfl rfl own_pd0 rfl rfl (Nat.le_of_eq rfl) (by decide) (by decide) (by decide) (by decide) ?_
  rintro _ h26 ⟨rfl, Zs, Of⟩
  show oGo Z _ _ _ _ _ _ n0 _ 2 17 h26 55 #[.val (.int p0), .val (.int p1), .val (.int p2), .val (.int p3), .val (.int (Int32.ofNat n)), .val (.int (Int32.ofNat s)), .val (.int y0), .val (.int y1), .val (.int y2), .val (.int y3), .unset, .unset] [(.ref w)]
  have O := Of (own_g y0 y1 y2 y3)
  refine oGo.astore (q := 57) (L' := #[.val (.int p0), .val (.int p1), .val (.int p2), .val (.int p3), .val (.int (Int32.ofNat n)), .val (.int (Int32.ofNat s)), .val (.int y0), .val (.int y1), .val (.int y2), .val (.int y3), .val (.ref w), .unset]) at_55 rfl rfl rfl ?_
  refine oGo.iload (q := 59) at_57 rfl rfl ?_
  have J108 : ∀ (hh : Heap), n0 ≤ hh.size → own_ws Z hh n0 w n (own_g y0 y1 y2 y3) → oGo Z x.cls x.name code maxLocals ret room_1 n0 (fun v _ => v = some (.int 1)) 6 49 hh 108 #[.val (.int p0), .val (.int p1), .val (.int p2), .val (.int p3), .val (.int (Int32.ofNat n)), .val (.int (Int32.ofNat s)), .val (.int y0), .val (.int y1), .val (.int y2), .val (.int y3), .val (.ref w), .unset] [] := by
    intro hh Zh O
    refine oGo.aload (q := 110) at_108 rfl rfl rfl ?_
    refine oGo.iload (q := 112) at_110 rfl rfl ?_
    refine oGo.callV (W := 0) (rm := ({ frames := 0, cells := 0, slots := 0, locals := 0 } : Room)) (q := 115) (a := w) [(.int (Int32.ofNat s))] [] at_112 rfl (hw _ (List.mem_of_getElem? (i := 39) rfl)) (hw _ (List.mem_of_getElem? (i := 40) rfl)) (hw _ (List.mem_of_getElem? (i := 42) rfl)) (hw _ (List.mem_of_getElem? (i := 41) rfl)) (hw _ (List.mem_of_getElem? (i := 3) rfl)) (hw _ (List.mem_of_getElem? (i := 43) rfl)) rfl (by decide) (O.exa) (cv hw w s n (own_g y0 y1 y2 y3) hh n0 Zh hn hs O) rfl rfl own_pd0 rfl rfl (Nat.le_of_eq rfl) (by decide) (by decide) (by decide) (by decide) ?_
    rintro _ h27 ⟨rfl, Zv, Ov⟩
    show oGo Z _ _ _ _ _ _ n0 _ 6 49 h27 115 #[.val (.int p0), .val (.int p1), .val (.int p2), .val (.int p3), .val (.int (Int32.ofNat n)), .val (.int (Int32.ofNat s)), .val (.int y0), .val (.int y1), .val (.int y2), .val (.int y3), .val (.ref w), .unset] []
    refine oGo.aload (q := 117) at_115 rfl rfl rfl ?_
    refine oGo.callV (W := 0) (rm := ({ frames := 2, cells := 1, slots := 8, locals := 41 } : Room)) (q := 120) (a := w) [] [] at_117 rfl (hw _ (List.mem_of_getElem? (i := 44) rfl)) (hw _ (List.mem_of_getElem? (i := 45) rfl)) (hw _ (List.mem_of_getElem? (i := 47) rfl)) (hw _ (List.mem_of_getElem? (i := 46) rfl)) (hw _ (List.mem_of_getElem? (i := 3) rfl)) (hw _ (List.mem_of_getElem? (i := 48) rfl)) rfl (by decide) (Ov.exa) (ct hw w n (own_inv s (own_g y0 y1 y2 y3)) h27 n0 Zv hn Ov) rfl rfl own_pd2 rfl rfl (Nat.le_of_eq rfl) (by decide) (by decide) (by decide) (by decide) ?_
    rintro _ h28 ⟨o, us, rfl, Ot, A, hul, huf⟩
    show oGo Z _ _ _ _ _ _ n0 _ 7 57 h28 120 #[.val (.int p0), .val (.int p1), .val (.int p2), .val (.int p3), .val (.int (Int32.ofNat n)), .val (.int (Int32.ofNat s)), .val (.int y0), .val (.int y1), .val (.int y2), .val (.int y3), .val (.ref w), .unset] [(.ref o)]
    refine oGo.astore (q := 122) (L' := #[.val (.int p0), .val (.int p1), .val (.int p2), .val (.int p3), .val (.int (Int32.ofNat n)), .val (.int (Int32.ofNat s)), .val (.int y0), .val (.int y1), .val (.int y2), .val (.int y3), .val (.ref w), .val (.ref o)]) at_120 rfl rfl rfl ?_
    refine oGo.aload (q := 124) at_122 rfl rfl rfl ?_
    refine oGo.callV (W := 0) (rm := ({ frames := 0, cells := 0, slots := 0, locals := 0 } : Room)) (q := 127) (a := w) [] [] at_124 rfl (hw _ (List.mem_of_getElem? (i := 49) rfl)) (hw _ (List.mem_of_getElem? (i := 50) rfl)) (hw _ (List.mem_of_getElem? (i := 52) rfl)) (hw _ (List.mem_of_getElem? (i := 51) rfl)) (hw _ (List.mem_of_getElem? (i := 3) rfl)) (hw _ (List.mem_of_getElem? (i := 53) rfl)) rfl (by decide) (Ot.exa) (cl hw w n (own_inv s (own_g y0 y1 y2 y3)) h28 n0 Ot) rfl rfl own_pd3 rfl rfl (Nat.le_of_eq rfl) (by decide) (by decide) (by decide) (by decide) ?_
    rintro _ h29 ⟨rfl, eh⟩
    all_goals subst h29
    show oGo Z _ _ _ _ _ _ n0 _ 7 57 h28 127 #[.val (.int p0), .val (.int p1), .val (.int p2), .val (.int p3), .val (.int (Int32.ofNat n)), .val (.int (Int32.ofNat s)), .val (.int y0), .val (.int y1), .val (.int y2), .val (.int y3), .val (.ref w), .val (.ref o)] [(.int (Int32.ofNat n))]
    refine oGo.iload (q := 129) at_127 rfl rfl ?_
    refine oGo.icmp_ne (q := 140) (r := 132) at_129 (by decide) rfl (fun hc => absurd rfl hc) (fun hc => ?_)
    refine oGo.aload (q := 134) at_132 rfl rfl rfl ?_
    refine oGo.arraylength (q := 135) (v := (Int32.ofNat n)) at_134 rfl A (by rw [hul]) ?_
    refine oGo.iload (q := 137) at_135 rfl rfl ?_
    refine oGo.icmp_eq (q := 142) (r := 140) at_137 (by decide) rfl (fun hc => ?_) (fun hc => absurd rfl hc)
    refine oGo.aload (q := 144) at_142 rfl rfl rfl ?_
    refine oGo.iconst (q := 145) (v := (0 : Int32)) at_144 rfl rfl ?_
    refine oGo.iload (q := 147) at_145 rfl rfl ?_
    refine oGo.iload (q := 149) at_147 rfl rfl ?_
    refine oGo.iload (q := 151) at_149 rfl rfl ?_
    refine oGo.callS (W := 0) (rm := ({ frames := 0, cells := 0, slots := 0, locals := 0 } : Room)) (q := 154) [(.ref o), (.int (0 : Int32)), (.int y0), (.int (Int32.ofNat n)), (.int (Int32.ofNat s))] [] at_151 rfl (hw _ (List.mem_of_getElem? (i := 54) rfl)) (hw _ (List.mem_of_getElem? (i := 55) rfl)) (hw _ (List.mem_of_getElem? (i := 56) rfl)) (hw _ (List.mem_of_getElem? (i := 57) rfl)) (by decide) (ca hw o (0 : Int32) y0 n s 0 us h28 n0 A rfl hn hs (fun u => huf 0 u)) rfl rfl own_pd4 rfl rfl (Nat.le_of_eq rfl) (by decide) (by decide) (by decide) (by decide) ?_
    rintro _ h30 ⟨rfl, eh⟩
    all_goals subst h30
    show oGo Z _ _ _ _ _ _ n0 _ 7 57 h28 154 #[.val (.int p0), .val (.int p1), .val (.int p2), .val (.int p3), .val (.int (Int32.ofNat n)), .val (.int (Int32.ofNat s)), .val (.int y0), .val (.int y1), .val (.int y2), .val (.int y3), .val (.ref w), .val (.ref o)] [(.int (1 : Int32))]
    refine oGo.if_eq (q := 206) (r := 157) at_154 (by decide) rfl (fun hc => absurd hc (by decide)) (fun hc => ?_)
    refine oGo.aload (q := 159) at_157 rfl rfl rfl ?_
    refine oGo.iconst (q := 160) (v := (1 : Int32)) at_159 rfl rfl ?_
    refine oGo.iload (q := 162) at_160 rfl rfl ?_
    refine oGo.iload (q := 164) at_162 rfl rfl ?_
    refine oGo.iload (q := 166) at_164 rfl rfl ?_
    refine oGo.callS (W := 0) (rm := ({ frames := 0, cells := 0, slots := 0, locals := 0 } : Room)) (q := 169) [(.ref o), (.int (1 : Int32)), (.int y1), (.int (Int32.ofNat n)), (.int (Int32.ofNat s))] [] at_166 rfl (hw _ (List.mem_of_getElem? (i := 54) rfl)) (hw _ (List.mem_of_getElem? (i := 55) rfl)) (hw _ (List.mem_of_getElem? (i := 56) rfl)) (hw _ (List.mem_of_getElem? (i := 57) rfl)) (by decide) (ca hw o (1 : Int32) y1 n s 1 us h28 n0 A rfl hn hs (fun u => huf 1 u)) rfl rfl own_pd4 rfl rfl (Nat.le_of_eq rfl) (by decide) (by decide) (by decide) (by decide) ?_
    rintro _ h31 ⟨rfl, eh⟩
    all_goals subst h31
    show oGo Z _ _ _ _ _ _ n0 _ 7 57 h28 169 #[.val (.int p0), .val (.int p1), .val (.int p2), .val (.int p3), .val (.int (Int32.ofNat n)), .val (.int (Int32.ofNat s)), .val (.int y0), .val (.int y1), .val (.int y2), .val (.int y3), .val (.ref w), .val (.ref o)] [(.int (1 : Int32))]
    refine oGo.if_eq (q := 206) (r := 172) at_169 (by decide) rfl (fun hc => absurd hc (by decide)) (fun hc => ?_)
    refine oGo.aload (q := 174) at_172 rfl rfl rfl ?_
    refine oGo.iconst (q := 175) (v := (2 : Int32)) at_174 rfl rfl ?_
    refine oGo.iload (q := 177) at_175 rfl rfl ?_
    refine oGo.iload (q := 179) at_177 rfl rfl ?_
    refine oGo.iload (q := 181) at_179 rfl rfl ?_
    refine oGo.callS (W := 0) (rm := ({ frames := 0, cells := 0, slots := 0, locals := 0 } : Room)) (q := 184) [(.ref o), (.int (2 : Int32)), (.int y2), (.int (Int32.ofNat n)), (.int (Int32.ofNat s))] [] at_181 rfl (hw _ (List.mem_of_getElem? (i := 54) rfl)) (hw _ (List.mem_of_getElem? (i := 55) rfl)) (hw _ (List.mem_of_getElem? (i := 56) rfl)) (hw _ (List.mem_of_getElem? (i := 57) rfl)) (by decide) (ca hw o (2 : Int32) y2 n s 2 us h28 n0 A rfl hn hs (fun u => huf 2 u)) rfl rfl own_pd4 rfl rfl (Nat.le_of_eq rfl) (by decide) (by decide) (by decide) (by decide) ?_
    rintro _ h32 ⟨rfl, eh⟩
    all_goals subst h32
    show oGo Z _ _ _ _ _ _ n0 _ 7 57 h28 184 #[.val (.int p0), .val (.int p1), .val (.int p2), .val (.int p3), .val (.int (Int32.ofNat n)), .val (.int (Int32.ofNat s)), .val (.int y0), .val (.int y1), .val (.int y2), .val (.int y3), .val (.ref w), .val (.ref o)] [(.int (1 : Int32))]
    refine oGo.if_eq (q := 206) (r := 187) at_184 (by decide) rfl (fun hc => absurd hc (by decide)) (fun hc => ?_)
    refine oGo.aload (q := 189) at_187 rfl rfl rfl ?_
    refine oGo.iconst (q := 190) (v := (3 : Int32)) at_189 rfl rfl ?_
    refine oGo.iload (q := 192) at_190 rfl rfl ?_
    refine oGo.iload (q := 194) at_192 rfl rfl ?_
    refine oGo.iload (q := 196) at_194 rfl rfl ?_
    refine oGo.callS (W := 0) (rm := ({ frames := 0, cells := 0, slots := 0, locals := 0 } : Room)) (q := 199) [(.ref o), (.int (3 : Int32)), (.int y3), (.int (Int32.ofNat n)), (.int (Int32.ofNat s))] [] at_196 rfl (hw _ (List.mem_of_getElem? (i := 54) rfl)) (hw _ (List.mem_of_getElem? (i := 55) rfl)) (hw _ (List.mem_of_getElem? (i := 56) rfl)) (hw _ (List.mem_of_getElem? (i := 57) rfl)) (by decide) (ca hw o (3 : Int32) y3 n s 3 us h28 n0 A rfl hn hs (fun u => huf 3 u)) rfl rfl own_pd4 rfl rfl (Nat.le_of_eq rfl) (by decide) (by decide) (by decide) (by decide) ?_
    rintro _ h33 ⟨rfl, eh⟩
    all_goals subst h33
    show oGo Z _ _ _ _ _ _ n0 _ 7 57 h28 199 #[.val (.int p0), .val (.int p1), .val (.int p2), .val (.int p3), .val (.int (Int32.ofNat n)), .val (.int (Int32.ofNat s)), .val (.int y0), .val (.int y1), .val (.int y2), .val (.int y3), .val (.ref w), .val (.ref o)] [(.int (1 : Int32))]
    refine oGo.if_eq (q := 206) (r := 202) at_199 (by decide) rfl (fun hc => absurd hc (by decide)) (fun hc => ?_)
    refine oGo.iconst (q := 203) (v := (1 : Int32)) at_202 rfl rfl ?_
    refine oGo.goto (q := 207) at_203 (by decide) ?_
    exact oGo.retN (t := .boolean) at_207 rfl (by simp) (by decide) (by decide) (rfl)
  obtain rfl | rfl | rfl | rfl | rfl : n = 0 ∨ n = 1 ∨ n = 2 ∨ n = 3 ∨ n = 4 := by omega
  · skip -- n = 0
    refine oGo.if_le (q := 69) (r := 62) at_59 (by decide) rfl (fun hc => ?_) (fun hc => absurd hc (by decide))
    refine oGo.iload (q := 71) at_69 rfl rfl ?_
    refine oGo.iconst (q := 72) (v := (1 : Int32)) at_71 rfl rfl ?_
    refine oGo.icmp_le (q := 82) (r := 75) at_72 (by decide) rfl (fun hc => ?_) (fun hc => absurd hc (by decide))
    refine oGo.iload (q := 84) at_82 rfl rfl ?_
    refine oGo.iconst (q := 85) (v := (2 : Int32)) at_84 rfl rfl ?_
    refine oGo.icmp_le (q := 95) (r := 88) at_85 (by decide) rfl (fun hc => ?_) (fun hc => absurd hc (by decide))
    refine oGo.iload (q := 97) at_95 rfl rfl ?_
    refine oGo.iconst (q := 98) (v := (3 : Int32)) at_97 rfl rfl ?_
    refine oGo.icmp_le (q := 108) (r := 101) at_98 (by decide) rfl (fun hc => ?_) (fun hc => absurd hc (by decide))
    exact oGo.more (by decide) (by decide) (J108 _ Zs O)
  · skip -- n = 1
    refine oGo.if_le (q := 69) (r := 62) at_59 (by decide) rfl (fun hc => absurd hc (by decide)) (fun hc => ?_)
    refine oGo.aload (q := 64) at_62 rfl rfl rfl ?_
    refine oGo.iload (q := 66) at_64 rfl rfl ?_
    refine oGo.callV (W := 0) (rm := ({ frames := 3, cells := 1, slots := 8, locals := 61 } : Room)) (q := 69) (a := w) [(.int y0)] [] at_66 rfl (hw _ (List.mem_of_getElem? (i := 13) rfl)) (hw _ (List.mem_of_getElem? (i := 14) rfl)) (hw _ (List.mem_of_getElem? (i := 16) rfl)) (hw _ (List.mem_of_getElem? (i := 15) rfl)) (hw _ (List.mem_of_getElem? (i := 3) rfl)) (hw _ (List.mem_of_getElem? (i := 17) rfl)) rfl (by decide) (O.exa) (cw hw w y0 0 (own_g y0 y1 y2 y3) h26 n0 Zs (by decide) O hy0 rfl) rfl rfl own_pd1 rfl rfl (Nat.le_of_eq rfl) (by decide) (by decide) (by decide) (by decide) ?_
    rintro _ h34 ⟨rfl, Zw0, Ow0⟩
    show oGo Z _ _ _ _ _ _ n0 _ 3 25 h34 69 #[.val (.int p0), .val (.int p1), .val (.int p2), .val (.int p3), .val (.int (Int32.ofNat 1)), .val (.int (Int32.ofNat s)), .val (.int y0), .val (.int y1), .val (.int y2), .val (.int y3), .val (.ref w), .unset] []
    refine oGo.iload (q := 71) at_69 rfl rfl ?_
    refine oGo.iconst (q := 72) (v := (1 : Int32)) at_71 rfl rfl ?_
    refine oGo.icmp_le (q := 82) (r := 75) at_72 (by decide) rfl (fun hc => ?_) (fun hc => absurd hc (by decide))
    refine oGo.iload (q := 84) at_82 rfl rfl ?_
    refine oGo.iconst (q := 85) (v := (2 : Int32)) at_84 rfl rfl ?_
    refine oGo.icmp_le (q := 95) (r := 88) at_85 (by decide) rfl (fun hc => ?_) (fun hc => absurd hc (by decide))
    refine oGo.iload (q := 97) at_95 rfl rfl ?_
    refine oGo.iconst (q := 98) (v := (3 : Int32)) at_97 rfl rfl ?_
    refine oGo.icmp_le (q := 108) (r := 101) at_98 (by decide) rfl (fun hc => ?_) (fun hc => absurd hc (by decide))
    exact oGo.more (by decide) (by decide) (J108 _ Zw0 Ow0)
  · skip -- n = 2
    refine oGo.if_le (q := 69) (r := 62) at_59 (by decide) rfl (fun hc => absurd hc (by decide)) (fun hc => ?_)
    refine oGo.aload (q := 64) at_62 rfl rfl rfl ?_
    refine oGo.iload (q := 66) at_64 rfl rfl ?_
    refine oGo.callV (W := 0) (rm := ({ frames := 3, cells := 1, slots := 8, locals := 61 } : Room)) (q := 69) (a := w) [(.int y0)] [] at_66 rfl (hw _ (List.mem_of_getElem? (i := 13) rfl)) (hw _ (List.mem_of_getElem? (i := 14) rfl)) (hw _ (List.mem_of_getElem? (i := 16) rfl)) (hw _ (List.mem_of_getElem? (i := 15) rfl)) (hw _ (List.mem_of_getElem? (i := 3) rfl)) (hw _ (List.mem_of_getElem? (i := 17) rfl)) rfl (by decide) (O.exa) (cw hw w y0 0 (own_g y0 y1 y2 y3) h26 n0 Zs (by decide) O hy0 rfl) rfl rfl own_pd1 rfl rfl (Nat.le_of_eq rfl) (by decide) (by decide) (by decide) (by decide) ?_
    rintro _ h35 ⟨rfl, Zw0, Ow0⟩
    show oGo Z _ _ _ _ _ _ n0 _ 3 25 h35 69 #[.val (.int p0), .val (.int p1), .val (.int p2), .val (.int p3), .val (.int (Int32.ofNat 2)), .val (.int (Int32.ofNat s)), .val (.int y0), .val (.int y1), .val (.int y2), .val (.int y3), .val (.ref w), .unset] []
    refine oGo.iload (q := 71) at_69 rfl rfl ?_
    refine oGo.iconst (q := 72) (v := (1 : Int32)) at_71 rfl rfl ?_
    refine oGo.icmp_le (q := 82) (r := 75) at_72 (by decide) rfl (fun hc => absurd hc (by decide)) (fun hc => ?_)
    refine oGo.aload (q := 77) at_75 rfl rfl rfl ?_
    refine oGo.iload (q := 79) at_77 rfl rfl ?_
    refine oGo.callV (W := 0) (rm := ({ frames := 3, cells := 1, slots := 8, locals := 61 } : Room)) (q := 82) (a := w) [(.int y1)] [] at_79 rfl (hw _ (List.mem_of_getElem? (i := 13) rfl)) (hw _ (List.mem_of_getElem? (i := 14) rfl)) (hw _ (List.mem_of_getElem? (i := 16) rfl)) (hw _ (List.mem_of_getElem? (i := 15) rfl)) (hw _ (List.mem_of_getElem? (i := 3) rfl)) (hw _ (List.mem_of_getElem? (i := 17) rfl)) rfl (by decide) (Ow0.exa) (cw hw w y1 1 (own_g y0 y1 y2 y3) h35 n0 Zw0 (by decide) Ow0 hy1 rfl) rfl rfl own_pd1 rfl rfl (Nat.le_of_eq rfl) (by decide) (by decide) (by decide) (by decide) ?_
    rintro _ h36 ⟨rfl, Zw1, Ow1⟩
    show oGo Z _ _ _ _ _ _ n0 _ 4 33 h36 82 #[.val (.int p0), .val (.int p1), .val (.int p2), .val (.int p3), .val (.int (Int32.ofNat 2)), .val (.int (Int32.ofNat s)), .val (.int y0), .val (.int y1), .val (.int y2), .val (.int y3), .val (.ref w), .unset] []
    refine oGo.iload (q := 84) at_82 rfl rfl ?_
    refine oGo.iconst (q := 85) (v := (2 : Int32)) at_84 rfl rfl ?_
    refine oGo.icmp_le (q := 95) (r := 88) at_85 (by decide) rfl (fun hc => ?_) (fun hc => absurd hc (by decide))
    refine oGo.iload (q := 97) at_95 rfl rfl ?_
    refine oGo.iconst (q := 98) (v := (3 : Int32)) at_97 rfl rfl ?_
    refine oGo.icmp_le (q := 108) (r := 101) at_98 (by decide) rfl (fun hc => ?_) (fun hc => absurd hc (by decide))
    exact oGo.more (by decide) (by decide) (J108 _ Zw1 Ow1)
  · skip -- n = 3
    refine oGo.if_le (q := 69) (r := 62) at_59 (by decide) rfl (fun hc => absurd hc (by decide)) (fun hc => ?_)
    refine oGo.aload (q := 64) at_62 rfl rfl rfl ?_
    refine oGo.iload (q := 66) at_64 rfl rfl ?_
    refine oGo.callV (W := 0) (rm := ({ frames := 3, cells := 1, slots := 8, locals := 61 } : Room)) (q := 69) (a := w) [(.int y0)] [] at_66 rfl (hw _ (List.mem_of_getElem? (i := 13) rfl)) (hw _ (List.mem_of_getElem? (i := 14) rfl)) (hw _ (List.mem_of_getElem? (i := 16) rfl)) (hw _ (List.mem_of_getElem? (i := 15) rfl)) (hw _ (List.mem_of_getElem? (i := 3) rfl)) (hw _ (List.mem_of_getElem? (i := 17) rfl)) rfl (by decide) (O.exa) (cw hw w y0 0 (own_g y0 y1 y2 y3) h26 n0 Zs (by decide) O hy0 rfl) rfl rfl own_pd1 rfl rfl (Nat.le_of_eq rfl) (by decide) (by decide) (by decide) (by decide) ?_
    rintro _ h37 ⟨rfl, Zw0, Ow0⟩
    show oGo Z _ _ _ _ _ _ n0 _ 3 25 h37 69 #[.val (.int p0), .val (.int p1), .val (.int p2), .val (.int p3), .val (.int (Int32.ofNat 3)), .val (.int (Int32.ofNat s)), .val (.int y0), .val (.int y1), .val (.int y2), .val (.int y3), .val (.ref w), .unset] []
    refine oGo.iload (q := 71) at_69 rfl rfl ?_
    refine oGo.iconst (q := 72) (v := (1 : Int32)) at_71 rfl rfl ?_
    refine oGo.icmp_le (q := 82) (r := 75) at_72 (by decide) rfl (fun hc => absurd hc (by decide)) (fun hc => ?_)
    refine oGo.aload (q := 77) at_75 rfl rfl rfl ?_
    refine oGo.iload (q := 79) at_77 rfl rfl ?_
    refine oGo.callV (W := 0) (rm := ({ frames := 3, cells := 1, slots := 8, locals := 61 } : Room)) (q := 82) (a := w) [(.int y1)] [] at_79 rfl (hw _ (List.mem_of_getElem? (i := 13) rfl)) (hw _ (List.mem_of_getElem? (i := 14) rfl)) (hw _ (List.mem_of_getElem? (i := 16) rfl)) (hw _ (List.mem_of_getElem? (i := 15) rfl)) (hw _ (List.mem_of_getElem? (i := 3) rfl)) (hw _ (List.mem_of_getElem? (i := 17) rfl)) rfl (by decide) (Ow0.exa) (cw hw w y1 1 (own_g y0 y1 y2 y3) h37 n0 Zw0 (by decide) Ow0 hy1 rfl) rfl rfl own_pd1 rfl rfl (Nat.le_of_eq rfl) (by decide) (by decide) (by decide) (by decide) ?_
    rintro _ h38 ⟨rfl, Zw1, Ow1⟩
    show oGo Z _ _ _ _ _ _ n0 _ 4 33 h38 82 #[.val (.int p0), .val (.int p1), .val (.int p2), .val (.int p3), .val (.int (Int32.ofNat 3)), .val (.int (Int32.ofNat s)), .val (.int y0), .val (.int y1), .val (.int y2), .val (.int y3), .val (.ref w), .unset] []
    refine oGo.iload (q := 84) at_82 rfl rfl ?_
    refine oGo.iconst (q := 85) (v := (2 : Int32)) at_84 rfl rfl ?_
    refine oGo.icmp_le (q := 95) (r := 88) at_85 (by decide) rfl (fun hc => absurd hc (by decide)) (fun hc => ?_)
    refine oGo.aload (q := 90) at_88 rfl rfl rfl ?_
    refine oGo.iload (q := 92) at_90 rfl rfl ?_
    refine oGo.callV (W := 0) (rm := ({ frames := 3, cells := 1, slots := 8, locals := 61 } : Room)) (q := 95) (a := w) [(.int y2)] [] at_92 rfl (hw _ (List.mem_of_getElem? (i := 13) rfl)) (hw _ (List.mem_of_getElem? (i := 14) rfl)) (hw _ (List.mem_of_getElem? (i := 16) rfl)) (hw _ (List.mem_of_getElem? (i := 15) rfl)) (hw _ (List.mem_of_getElem? (i := 3) rfl)) (hw _ (List.mem_of_getElem? (i := 17) rfl)) rfl (by decide) (Ow1.exa) (cw hw w y2 2 (own_g y0 y1 y2 y3) h38 n0 Zw1 (by decide) Ow1 hy2 rfl) rfl rfl own_pd1 rfl rfl (Nat.le_of_eq rfl) (by decide) (by decide) (by decide) (by decide) ?_
    rintro _ h39 ⟨rfl, Zw2, Ow2⟩
    show oGo Z _ _ _ _ _ _ n0 _ 5 41 h39 95 #[.val (.int p0), .val (.int p1), .val (.int p2), .val (.int p3), .val (.int (Int32.ofNat 3)), .val (.int (Int32.ofNat s)), .val (.int y0), .val (.int y1), .val (.int y2), .val (.int y3), .val (.ref w), .unset] []
    refine oGo.iload (q := 97) at_95 rfl rfl ?_
    refine oGo.iconst (q := 98) (v := (3 : Int32)) at_97 rfl rfl ?_
    refine oGo.icmp_le (q := 108) (r := 101) at_98 (by decide) rfl (fun hc => ?_) (fun hc => absurd hc (by decide))
    exact oGo.more (by decide) (by decide) (J108 _ Zw2 Ow2)
  · skip -- n = 4
    refine oGo.if_le (q := 69) (r := 62) at_59 (by decide) rfl (fun hc => absurd hc (by decide)) (fun hc => ?_)
    refine oGo.aload (q := 64) at_62 rfl rfl rfl ?_
    refine oGo.iload (q := 66) at_64 rfl rfl ?_
    refine oGo.callV (W := 0) (rm := ({ frames := 3, cells := 1, slots := 8, locals := 61 } : Room)) (q := 69) (a := w) [(.int y0)] [] at_66 rfl (hw _ (List.mem_of_getElem? (i := 13) rfl)) (hw _ (List.mem_of_getElem? (i := 14) rfl)) (hw _ (List.mem_of_getElem? (i := 16) rfl)) (hw _ (List.mem_of_getElem? (i := 15) rfl)) (hw _ (List.mem_of_getElem? (i := 3) rfl)) (hw _ (List.mem_of_getElem? (i := 17) rfl)) rfl (by decide) (O.exa) (cw hw w y0 0 (own_g y0 y1 y2 y3) h26 n0 Zs (by decide) O hy0 rfl) rfl rfl own_pd1 rfl rfl (Nat.le_of_eq rfl) (by decide) (by decide) (by decide) (by decide) ?_
    rintro _ h40 ⟨rfl, Zw0, Ow0⟩
    show oGo Z _ _ _ _ _ _ n0 _ 3 25 h40 69 #[.val (.int p0), .val (.int p1), .val (.int p2), .val (.int p3), .val (.int (Int32.ofNat 4)), .val (.int (Int32.ofNat s)), .val (.int y0), .val (.int y1), .val (.int y2), .val (.int y3), .val (.ref w), .unset] []
    refine oGo.iload (q := 71) at_69 rfl rfl ?_
    refine oGo.iconst (q := 72) (v := (1 : Int32)) at_71 rfl rfl ?_
    refine oGo.icmp_le (q := 82) (r := 75) at_72 (by decide) rfl (fun hc => absurd hc (by decide)) (fun hc => ?_)
    refine oGo.aload (q := 77) at_75 rfl rfl rfl ?_
    refine oGo.iload (q := 79) at_77 rfl rfl ?_
    refine oGo.callV (W := 0) (rm := ({ frames := 3, cells := 1, slots := 8, locals := 61 } : Room)) (q := 82) (a := w) [(.int y1)] [] at_79 rfl (hw _ (List.mem_of_getElem? (i := 13) rfl)) (hw _ (List.mem_of_getElem? (i := 14) rfl)) (hw _ (List.mem_of_getElem? (i := 16) rfl)) (hw _ (List.mem_of_getElem? (i := 15) rfl)) (hw _ (List.mem_of_getElem? (i := 3) rfl)) (hw _ (List.mem_of_getElem? (i := 17) rfl)) rfl (by decide) (Ow0.exa) (cw hw w y1 1 (own_g y0 y1 y2 y3) h40 n0 Zw0 (by decide) Ow0 hy1 rfl) rfl rfl own_pd1 rfl rfl (Nat.le_of_eq rfl) (by decide) (by decide) (by decide) (by decide) ?_
    rintro _ h41 ⟨rfl, Zw1, Ow1⟩
    show oGo Z _ _ _ _ _ _ n0 _ 4 33 h41 82 #[.val (.int p0), .val (.int p1), .val (.int p2), .val (.int p3), .val (.int (Int32.ofNat 4)), .val (.int (Int32.ofNat s)), .val (.int y0), .val (.int y1), .val (.int y2), .val (.int y3), .val (.ref w), .unset] []
    refine oGo.iload (q := 84) at_82 rfl rfl ?_
    refine oGo.iconst (q := 85) (v := (2 : Int32)) at_84 rfl rfl ?_
    refine oGo.icmp_le (q := 95) (r := 88) at_85 (by decide) rfl (fun hc => absurd hc (by decide)) (fun hc => ?_)
    refine oGo.aload (q := 90) at_88 rfl rfl rfl ?_
    refine oGo.iload (q := 92) at_90 rfl rfl ?_
    refine oGo.callV (W := 0) (rm := ({ frames := 3, cells := 1, slots := 8, locals := 61 } : Room)) (q := 95) (a := w) [(.int y2)] [] at_92 rfl (hw _ (List.mem_of_getElem? (i := 13) rfl)) (hw _ (List.mem_of_getElem? (i := 14) rfl)) (hw _ (List.mem_of_getElem? (i := 16) rfl)) (hw _ (List.mem_of_getElem? (i := 15) rfl)) (hw _ (List.mem_of_getElem? (i := 3) rfl)) (hw _ (List.mem_of_getElem? (i := 17) rfl)) rfl (by decide) (Ow1.exa) (cw hw w y2 2 (own_g y0 y1 y2 y3) h41 n0 Zw1 (by decide) Ow1 hy2 rfl) rfl rfl own_pd1 rfl rfl (Nat.le_of_eq rfl) (by decide) (by decide) (by decide) (by decide) ?_
    rintro _ h42 ⟨rfl, Zw2, Ow2⟩
    show oGo Z _ _ _ _ _ _ n0 _ 5 41 h42 95 #[.val (.int p0), .val (.int p1), .val (.int p2), .val (.int p3), .val (.int (Int32.ofNat 4)), .val (.int (Int32.ofNat s)), .val (.int y0), .val (.int y1), .val (.int y2), .val (.int y3), .val (.ref w), .unset] []
    refine oGo.iload (q := 97) at_95 rfl rfl ?_
    refine oGo.iconst (q := 98) (v := (3 : Int32)) at_97 rfl rfl ?_
    refine oGo.icmp_le (q := 108) (r := 101) at_98 (by decide) rfl (fun hc => absurd hc (by decide)) (fun hc => ?_)
    refine oGo.aload (q := 103) at_101 rfl rfl rfl ?_
    refine oGo.iload (q := 105) at_103 rfl rfl ?_
    refine oGo.callV (W := 0) (rm := ({ frames := 3, cells := 1, slots := 8, locals := 61 } : Room)) (q := 108) (a := w) [(.int y3)] [] at_105 rfl (hw _ (List.mem_of_getElem? (i := 13) rfl)) (hw _ (List.mem_of_getElem? (i := 14) rfl)) (hw _ (List.mem_of_getElem? (i := 16) rfl)) (hw _ (List.mem_of_getElem? (i := 15) rfl)) (hw _ (List.mem_of_getElem? (i := 3) rfl)) (hw _ (List.mem_of_getElem? (i := 17) rfl)) rfl (by decide) (Ow2.exa) (cw hw w y3 3 (own_g y0 y1 y2 y3) h42 n0 Zw2 (by decide) Ow2 hy3 rfl) rfl rfl own_pd1 rfl rfl (Nat.le_of_eq rfl) (by decide) (by decide) (by decide) (by decide) ?_
    rintro _ h43 ⟨rfl, Zw3, Ow3⟩
    show oGo Z _ _ _ _ _ _ n0 _ 6 49 h43 108 #[.val (.int p0), .val (.int p1), .val (.int p2), .val (.int p3), .val (.int (Int32.ofNat 4)), .val (.int (Int32.ofNat s)), .val (.int y0), .val (.int y1), .val (.int y2), .val (.int y3), .val (.ref w), .unset] []
    exact J108 _ Zw3 Ow3
set_option maxRecDepth 65536 in
set_option maxHeartbeats 40000000 in
theorem comes_1 {Post : Tables → Env → Array Value → State → Outcome → State → Prop} (hpost : ∀ tb e args s v u, (limb_1_1.after args s (.returned v) u = true ∧ limb_1_2.after args s (.returned v) u = true ∧ True) → FrameEnd s (.returned v) u (Jvm.fieldLocs frame_1_writes args s ++ Jvm.arrayLocs frame_1_arrays args s ++ Jvm.staticLocs frame_1_statics s) 24 128 → Post tb e args s (.returned v) u) :
    ArmFor flags0 classFile x code maxLocals ret World_1 tables_1 room_1 Calls_1 rest_1 Pre_1 Post := by
  intro l hfl _ _ p e ha hc hk s m args below hf hA hF happ hP
  obtain ⟨hcalls, hrest, hpre⟩ := hP
  obtain ⟨-, -, -, hnamed, -, -, -, hat⟩ := (Spec.applies_iff hf).mp happ
  obtain ⟨hg, hn⟩ := and_e (Cond.before_iff.mp (show (Jvm.Cond.and given_1 narrow_1).before args s = true from hpre))
  obtain ⟨h1, g0⟩ := and_e hg
  obtain ⟨b0, g1⟩ := and_e g0
  obtain ⟨b1, g2⟩ := and_e g1
  obtain ⟨b2, g3⟩ := and_e g2
  have b3 := g3
  obtain ⟨w0, w1, w2, w3, rfl⟩ : ∃ w0 w1 w2 w3 : Value, args = #[w0, w1, w2, w3] := by
    have hs : args.size = 4 := by simpa [Cond.value, given_1] using h1
    obtain ⟨L⟩ := args
    match L, hs with
    | [w0, w1, w2, w3], _ => exact ⟨w0, w1, w2, w3, rfl⟩
  have hw := fun d (hd : d ∈ tables_1) => atoms_spec (ws := Jvm.Cond.code x code maxLocals ret :: tables_1) hat d (List.mem_cons_of_mem _ hd)
  have hfit : Fit s := fun {y c} hc i hi => by
    obtain ⟨ha, rfl⟩ := Array.getElem?_eq_some_iff.mp hc
    have q := List.all_eq_true.mp ((Array.all_eq_true_iff_forall_mem.mp hF) _ (Array.getElem_mem ha)) i (List.mem_range.mpr hi)
    simpa [Array.getElem?_eq_getElem hi] using q
  obtain ⟨i0, e0⟩ := is_v b0
  obtain rfl : w0 = (.int i0) := Option.some.inj e0
  obtain ⟨i1, e1⟩ := is_v b1
  obtain rfl : w1 = (.int i1) := Option.some.inj e1
  obtain ⟨i2, e2⟩ := is_v b2
  obtain rfl : w2 = (.int i2) := Option.some.inj e2
  obtain ⟨i3, e3⟩ := is_v b3
  obtain rfl : w3 = (.int i3) := Option.some.inj e3
  obtain ⟨n, o, q1, q2, q3, _, L, rfl, ⟨rfl, N⟩, hq⟩ := (law hw i0 i1 i2 i3 s.heap s.heap.size (Nat.le_refl _)) l tables_1 p e ha hc hk s m _ below hf ((Spec.applies_iff_loose hf).mp happ).1 ⟨rfl, State.Warmed39.refl s, rfl⟩ trivial
  refine ⟨n, _, q1, q2, q3, hpost _ _ _ _ _ _ ⟨Cond.after_iff.mpr rfl, Cond.after_iff.mpr (eq_i res_at (Term.int_eval (1)) rfl), trivial⟩ ⟨hq.1, hq.2.1, (hq.2.2.sift fun y hy => Or.inr (N y hy)).mono (by decide) (by decide)⟩⟩
theorem main_1_1 : Claimed_1_1 := comes_1 fun _ _ _ _ _ _ h hF => ⟨h.1, hF⟩
theorem main_1_2 : Claimed_1_2 := comes_1 fun _ _ _ _ _ _ h hF => ⟨h.2.1, hF⟩
end Jvm.Pilot.@@N@@
namespace Jvm.Pilot.@@N@@
open Jvm Jvm.ClassFile Sem Op Lib Jvm.Free Jvm.Stand Jvm.Pilot.@@N@@.Jvm.D
/-! MADE BY PROGRAM (witnessworld.py) out of the Statement's table words and the real class files: 12 classes; the members and pool entries that the words name. The judged class is class 1, her method 2. -/
namespace start1
open Jvm.ClassFile
def u (s : String) : CpInfo := .utf8 (stringToUtf16 s)
/-- a pool by its gaps: so many unusable entries, then the entry; so many at the end -/
def gap : Nat → List CpInfo → List CpInfo
  | 0, r => r
  | n + 1, r => .unusable :: gap n r
def poolList (es : List (Nat × CpInfo)) (last : Nat) : List CpInfo := es.foldr (fun e r => gap e.1 (e.2 :: r)) (gap last [])
def pool (es : List (Nat × CpInfo)) (last : Nat) : Array CpInfo := ⟨poolList es last⟩
def fileOf (pool : Array CpInfo) (this : Nat) (attrs : Array Attribute := #[]) (ms : Array MethodInfo := #[]) (fl : Nat := 33) (sup : Nat := 0) (ifs : Array Nat := #[]) (fds : Array FieldInfo := #[]) : ClassFile where
  minorVersion := 0
  majorVersion := 65
  constantPool := pool
  accessFlags := fl
  thisClass := this
  superClass := sup
  interfaces := ifs
  fields := fds
  methods := ms
  attributes := attrs
def plain (name : String) (sup : Option ClassId) : Class where
  name := name
  kind := .ordinary
  loader := none
  accessFlags := 33
  super := sup
  interfaces := #[]
  cf := none
  fields := #[]
  methods := #[]
  instanceTypes := #[]
  staticTypes := #[]
  resolved := #[]
  callSites := []
  init := .initialized
  statics := none
  mirror := none

def pool0 : Array CpInfo := pool [(5, u "<init>"), (0, u "()V"), (1, .class_ 10), (1, u "java/lang/Object"), (85, u "clone"), (0, u "()Ljava/lang/Object;")] 26

def k0c0 : Code := { maxStack := 0, maxLocals := 1, code := object_method_1_code, exceptionTable := #[], attributes := #[] }
def k0m0 : Method := { name := "<init>", desc := "()V", sig := { parameters := [], returnType := none }, accessFlags := 1, code := some k0c0 }
def k0m1 : Method := { name := "clone", desc := "()Ljava/lang/Object;", sig := { parameters := [], returnType := some (.object "java/lang/Object") }, accessFlags := 260, code := none }
/-- java/lang/Object -/
def k0 : Class := { plain "java/lang/Object" none with
  accessFlags := 33
  interfaces := #[]
  cf := some (fileOf pool0 8 #[] #[{ accessFlags := 1, nameIndex := 5, descriptorIndex := 6, attributes := #[] }, { accessFlags := 260, nameIndex := 96, descriptorIndex := 97, attributes := #[] }] 33 0 #[] #[])
  fields := #[]
  methods := #[k0m0, k0m1]
  instanceTypes := #[]
  staticTypes := #[]
  resolved := Array.replicate 124 none
  statics := none }

def pool1 : Array CpInfo := pool [(2, .class_ 4), (1, u "java/lang/Object"), (0, u "<init>"), (0, u "()V"), (0, .integer 2147483647), (0, .class_ 9), (0, u "com/example/lexorder/lexorder/ByteWriter"), (0, .methodref 8 11), (0, .nameAndType 5 12), (0, u "(I)V"), (0, .methodref 8 14), (0, .nameAndType 15 16), (0, u "write"), (0, u "(B)V"), (0, .methodref 8 18), (0, .nameAndType 19 12), (0, u "invertFrom"), (0, .methodref 8 21), (0, .nameAndType 22 23), (0, u "toByteArray"), (0, u "()[B"), (0, .methodref 8 25), (0, .nameAndType 26 27), (0, u "length"), (0, u "()I"), (0, .methodref 29 30), (0, .class_ 31), (0, .nameAndType 32 33), (0, u "com/example/lexorder/lexorder/ByteWriterInvertFromPinLaw"), (0, u "at"), (0, u "([BIBII)Z"), (3, u "law"), (0, u "(IIII)Z")] 4

def k1m0 : Method := { name := "<init>", desc := "()V", sig := { parameters := [], returnType := none }, accessFlags := 1, code := none }
def k1c1 : Code := { maxStack := 2, maxLocals := 6, code := method_2_code, exceptionTable := #[], attributes := #[] }
def k1m1 : Method := { name := "at", desc := "([BIBII)Z", sig := { parameters := [(.array .byte), .int, .byte, .int, .int], returnType := some .boolean }, accessFlags := 10, code := some k1c1 }
def k1c2 : Code := { maxStack := 5, maxLocals := 12, code := code, exceptionTable := #[], attributes := #[] }
def k1m2 : Method := { name := "law", desc := "(IIII)Z", sig := { parameters := [.int, .int, .int, .int], returnType := some .boolean }, accessFlags := 9, code := some k1c2 }
/-- com/example/lexorder/lexorder/ByteWriterInvertFromPinLaw -/
def k1 : Class := { plain "com/example/lexorder/lexorder/ByteWriterInvertFromPinLaw" (some 0) with
  accessFlags := 49
  interfaces := #[]
  cf := some (fileOf pool1 29 #[] #[{ accessFlags := 1, nameIndex := 5, descriptorIndex := 6, attributes := #[] }, { accessFlags := 10, nameIndex := 32, descriptorIndex := 33, attributes := #[] }, { accessFlags := 9, nameIndex := 37, descriptorIndex := 38, attributes := #[] }] 49 2 #[] #[])
  fields := #[]
  methods := #[k1m0, k1m1, k1m2]
  instanceTypes := #[]
  staticTypes := #[]
  resolved := Array.replicate 43 none
  statics := none }

def pool2 : Array CpInfo := pool [(1, .class_ 2), (0, u "com/example/lexorder/lexorder/ByteWriter"), (2, u "<init>"), (0, u "(I)V"), (0, .methodref 8 9), (0, .class_ 10), (0, .nameAndType 5 11), (0, u "java/lang/Object"), (0, u "()V"), (2, .fieldref 1 15), (0, .nameAndType 16 17), (0, u "bytes"), (0, u "[B"), (0, .fieldref 1 19), (0, .nameAndType 20 21), (0, u "length"), (0, u "I"), (0, .methodref 1 23), (0, .nameAndType 24 6), (0, u "grow"), (8, u "LONG_BIG_ENDIAN"), (0, u "Ljava/lang/invoke/VarHandle;"), (8, u "write"), (0, u "(B)V"), (4, u "()I"), (4, .methodref 55 56), (0, .class_ 57), (0, .nameAndType 58 59), (0, u "java/lang/Math"), (0, u "max"), (0, u "(II)I"), (0, .methodref 61 62), (0, .class_ 63), (0, .nameAndType 64 65), (0, u "java/util/Arrays"), (0, u "copyOf"), (0, u "([BI)[B"), (18, u "DEFAULT_CAPACITY"), (13, u "invertFrom"), (0, u "toByteArray"), (0, u "()[B")] 4

def k2m0 : Method := { name := "<init>", desc := "()V", sig := { parameters := [], returnType := none }, accessFlags := 0, code := none }
def k2c1 : Code := { maxStack := 3, maxLocals := 2, code := prog_4_method_2_code, exceptionTable := #[], attributes := #[] }
def k2m1 : Method := { name := "<init>", desc := "(I)V", sig := { parameters := [.int], returnType := none }, accessFlags := 0, code := some k2c1 }
def k2c2 : Code := { maxStack := 5, maxLocals := 2, code := prog_4_method_3_code, exceptionTable := #[], attributes := #[] }
def k2m2 : Method := { name := "write", desc := "(B)V", sig := { parameters := [.byte], returnType := none }, accessFlags := 0, code := some k2c2 }
def k2c3 : Code := { maxStack := 5, maxLocals := 3, code := prog_4_method_7_code, exceptionTable := #[], attributes := #[] }
def k2m3 : Method := { name := "grow", desc := "(I)V", sig := { parameters := [.int], returnType := none }, accessFlags := 2, code := some k2c3 }
def k2c4 : Code := { maxStack := 1, maxLocals := 1, code := prog_4_method_8_code, exceptionTable := #[], attributes := #[] }
def k2m4 : Method := { name := "length", desc := "()I", sig := { parameters := [], returnType := some .int }, accessFlags := 0, code := some k2c4 }
def k2c5 : Code := { maxStack := 4, maxLocals := 3, code := prog_4_method_10_code, exceptionTable := #[], attributes := #[] }
def k2m5 : Method := { name := "invertFrom", desc := "(I)V", sig := { parameters := [.int], returnType := none }, accessFlags := 0, code := some k2c5 }
def k2c6 : Code := { maxStack := 2, maxLocals := 1, code := prog_4_method_11_code, exceptionTable := #[], attributes := #[] }
def k2m6 : Method := { name := "toByteArray", desc := "()[B", sig := { parameters := [], returnType := some (.array .byte) }, accessFlags := 0, code := some k2c6 }
/-- com/example/lexorder/lexorder/ByteWriter -/
def k2 : Class := { plain "com/example/lexorder/lexorder/ByteWriter" (some 0) with
  accessFlags := 48
  interfaces := #[]
  cf := some (fileOf pool2 1 #[] #[{ accessFlags := 0, nameIndex := 5, descriptorIndex := 11, attributes := #[] }, { accessFlags := 0, nameIndex := 5, descriptorIndex := 6, attributes := #[] }, { accessFlags := 0, nameIndex := 43, descriptorIndex := 44, attributes := #[] }, { accessFlags := 2, nameIndex := 24, descriptorIndex := 6, attributes := #[] }, { accessFlags := 0, nameIndex := 20, descriptorIndex := 49, attributes := #[] }, { accessFlags := 0, nameIndex := 98, descriptorIndex := 6, attributes := #[] }, { accessFlags := 0, nameIndex := 99, descriptorIndex := 100, attributes := #[] }] 48 8 #[] #[{ accessFlags := 26, nameIndex := 84, descriptorIndex := 21, attributes := #[] }, { accessFlags := 24, nameIndex := 33, descriptorIndex := 34, attributes := #[] }, { accessFlags := 2, nameIndex := 16, descriptorIndex := 17, attributes := #[] }, { accessFlags := 2, nameIndex := 20, descriptorIndex := 21, attributes := #[] }])
  fields := #[{ name := "DEFAULT_CAPACITY", type := .int, accessFlags := 26, slot := 0, constantValue := 0 }, { name := "LONG_BIG_ENDIAN", type := (.object "java/lang/invoke/VarHandle"), accessFlags := 24, slot := 1, constantValue := 0 }, { name := "bytes", type := (.array .byte), accessFlags := 2, slot := 0, constantValue := 0 }, { name := "length", type := .int, accessFlags := 2, slot := 1, constantValue := 0 }]
  methods := #[k2m0, k2m1, k2m2, k2m3, k2m4, k2m5, k2m6]
  instanceTypes := #[(.array .byte), .int]
  staticTypes := #[.int, (.object "java/lang/invoke/VarHandle")]
  resolved := Array.replicate 105 none
  statics := none }

def pool3 : Array CpInfo := pool [(1, .class_ 2), (0, u "java/lang/Math"), (1, .class_ 6), (1, u "java/lang/Object"), (0, u "<init>"), (0, u "()V"), (89, .class_ 100), (1, u "java/lang/Math$RandomNumberGeneratorHolder"), (71, u "negativeZeroFloatBits"), (0, u "J"), (2, u "negativeZeroDoubleBits"), (21, u "max"), (2, u "min"), (43, u "$assertionsDisabled"), (0, u "Z"), (88, u "(II)I"), (2, u "twoToTheDoubleScaleDown"), (0, u "D"), (4, u "twoToTheDoubleScaleUp"), (9, u "E"), (3, u "PI"), (2, u "TAU"), (2, u "DEGREES_TO_RADIANS"), (0, u "RADIANS_TO_DEGREES")] 94

def k3m0 : Method := { name := "<init>", desc := "()V", sig := { parameters := [], returnType := none }, accessFlags := 2, code := none }
def k3c1 : Code := { maxStack := 2, maxLocals := 2, code := jdk_29_method_65_code, exceptionTable := #[], attributes := #[] }
def k3m1 : Method := { name := "max", desc := "(II)I", sig := { parameters := [.int, .int], returnType := some .int }, accessFlags := 9, code := some k3c1 }
def k3c2 : Code := { maxStack := 2, maxLocals := 2, code := jdk_29_method_69_code, exceptionTable := #[], attributes := #[] }
def k3m2 : Method := { name := "min", desc := "(II)I", sig := { parameters := [.int, .int], returnType := some .int }, accessFlags := 9, code := some k3c2 }
/-- java/lang/Math -/
def k3 : Class := { plain "java/lang/Math" (some 0) with
  accessFlags := 49
  interfaces := #[]
  cf := some (fileOf pool3 1 #[.nestMembers #[98]] #[{ accessFlags := 2, nameIndex := 7, descriptorIndex := 8, attributes := #[] }, { accessFlags := 9, nameIndex := 198, descriptorIndex := 335, attributes := #[] }, { accessFlags := 9, nameIndex := 201, descriptorIndex := 335, attributes := #[] }] 49 4 #[] #[{ accessFlags := 25, nameIndex := 354, descriptorIndex := 339, attributes := #[] }, { accessFlags := 25, nameIndex := 358, descriptorIndex := 339, attributes := #[] }, { accessFlags := 25, nameIndex := 361, descriptorIndex := 339, attributes := #[] }, { accessFlags := 26, nameIndex := 364, descriptorIndex := 339, attributes := #[] }, { accessFlags := 26, nameIndex := 365, descriptorIndex := 339, attributes := #[] }, { accessFlags := 26, nameIndex := 172, descriptorIndex := 173, attributes := #[] }, { accessFlags := 26, nameIndex := 176, descriptorIndex := 173, attributes := #[] }, { accessFlags := 8, nameIndex := 344, descriptorIndex := 339, attributes := #[] }, { accessFlags := 8, nameIndex := 338, descriptorIndex := 339, attributes := #[] }, { accessFlags := 4120, nameIndex := 245, descriptorIndex := 246, attributes := #[] }])
  fields := #[{ name := "E", type := .double, accessFlags := 25, slot := 0, constantValue := 0 }, { name := "PI", type := .double, accessFlags := 25, slot := 1, constantValue := 0 }, { name := "TAU", type := .double, accessFlags := 25, slot := 2, constantValue := 0 }, { name := "DEGREES_TO_RADIANS", type := .double, accessFlags := 26, slot := 3, constantValue := 0 }, { name := "RADIANS_TO_DEGREES", type := .double, accessFlags := 26, slot := 4, constantValue := 0 }, { name := "negativeZeroFloatBits", type := .long, accessFlags := 26, slot := 5, constantValue := 0 }, { name := "negativeZeroDoubleBits", type := .long, accessFlags := 26, slot := 6, constantValue := 0 }, { name := "twoToTheDoubleScaleUp", type := .double, accessFlags := 8, slot := 7, constantValue := 0 }, { name := "twoToTheDoubleScaleDown", type := .double, accessFlags := 8, slot := 8, constantValue := 0 }, { name := "$assertionsDisabled", type := .boolean, accessFlags := 4120, slot := 9, constantValue := 0 }]
  methods := #[k3m0, k3m1, k3m2]
  instanceTypes := #[]
  staticTypes := #[.double, .double, .double, .double, .double, .long, .long, .double, .double, .boolean]
  resolved := Array.replicate 460 none
  statics := none }

def pool4 : Array CpInfo := pool [(2, .class_ 4), (1, u "java/lang/Object"), (0, u "<init>"), (0, u "()V"), (7, .class_ 16), (1, u "java/util/Arrays"), (57, .class_ 76), (1, u "java/util/Arrays$NaturalOrder"), (32, u "()Ljava/lang/Object;"), (3, .class_ 115), (1, u "java/util/Arrays$LegacyMergeSort"), (1, u "Z"), (10, .nameAndType 129 109), (0, u "clone"), (20, .methodref 151 152), (0, .class_ 153), (0, .nameAndType 154 155), (0, u "java/lang/System"), (0, u "arraycopy"), (0, u "(Ljava/lang/Object;ILjava/lang/Object;II)V"), (146, u "copyOf"), (1, .methodref 305 306), (0, .class_ 307), (0, .nameAndType 308 309), (0, u "java/lang/Math"), (0, u "min"), (0, u "(II)I"), (0, .methodref 311 128), (0, .class_ 312), (0, u "[B"), (62, .class_ 376), (0, u "java/util/Arrays$ArrayList"), (68, u "$assertionsDisabled"), (269, u "MIN_ARRAY_SORT_GRAN"), (0, u "I"), (2, u "INSERTIONSORT_THRESHOLD"), (149, u "([BI)[B"), (105, .class_ 976), (0, u "java/util/Arrays$ArrayItr")] 52

def k4m0 : Method := { name := "<init>", desc := "()V", sig := { parameters := [], returnType := none }, accessFlags := 2, code := none }
def k4c1 : Code := { maxStack := 6, maxLocals := 3, code := jdk_65_method_121_code, exceptionTable := #[], attributes := #[] }
def k4m1 : Method := { name := "copyOf", desc := "([BI)[B", sig := { parameters := [(.array .byte), .int], returnType := some (.array .byte) }, accessFlags := 9, code := some k4c1 }
/-- java/util/Arrays -/
def k4 : Class := { plain "java/util/Arrays" (some 0) with
  accessFlags := 49
  interfaces := #[]
  cf := some (fileOf pool4 14 #[.nestMembers #[975, 375, 113, 74]] #[{ accessFlags := 2, nameIndex := 5, descriptorIndex := 6, attributes := #[] }, { accessFlags := 9, nameIndex := 302, descriptorIndex := 869, attributes := #[] }] 49 2 #[] #[{ accessFlags := 26, nameIndex := 715, descriptorIndex := 716, attributes := #[] }, { accessFlags := 26, nameIndex := 719, descriptorIndex := 716, attributes := #[] }, { accessFlags := 4120, nameIndex := 445, descriptorIndex := 117, attributes := #[] }])
  fields := #[{ name := "MIN_ARRAY_SORT_GRAN", type := .int, accessFlags := 26, slot := 0, constantValue := 0 }, { name := "INSERTIONSORT_THRESHOLD", type := .int, accessFlags := 26, slot := 1, constantValue := 0 }, { name := "$assertionsDisabled", type := .boolean, accessFlags := 4120, slot := 2, constantValue := 0 }]
  methods := #[k4m0, k4m1]
  instanceTypes := #[]
  staticTypes := #[.int, .int, .boolean]
  resolved := Array.replicate 1029 none
  statics := none }

def pool5 : Array CpInfo := pool [(2, .class_ 4), (1, u "java/lang/Object"), (0, u "<init>"), (0, u "()V"), (1, .class_ 10), (1, u "java/lang/System"), (0, u "allowSecurityManager"), (0, u "I"), (16, u "cons"), (0, u "Ljava/io/Console;"), (77, .class_ 110), (1, u "java/lang/System$CallersHolder"), (43, u "initialErrStream"), (0, u "Ljava/io/PrintStream;"), (19, u "security"), (0, u "Ljava/lang/SecurityManager;"), (31, .class_ 209), (0, u "java/lang/System$1"), (7, u "props"), (0, u "Ljava/util/Properties;"), (2, u "lineSeparator"), (0, u "Ljava/lang/String;"), (96, .class_ 321), (1, u "java/lang/System$LoggerFinder"), (5, .class_ 328), (0, u "java/lang/System$Logger"), (67, u "err"), (2, u "out"), (91, u "notSupportedJnuEncoding"), (15, u "in"), (17, u "initialIn"), (0, u "Ljava/io/InputStream;"), (35, u "bootLayer"), (0, u "Ljava/lang/ModuleLayer;"), (99, .class_ 664), (0, u "java/lang/System$2"), (9, u "NEVER"), (2, u "MAYBE"), (49, u "arraycopy"), (0, u "(Ljava/lang/Object;ILjava/lang/Object;II)V"), (72, .class_ 802), (0, u "java/lang/System$Logger$Level")] 31

def k5m0 : Method := { name := "<init>", desc := "()V", sig := { parameters := [], returnType := none }, accessFlags := 2, code := none }
def k5m1 : Method := { name := "arraycopy", desc := "(Ljava/lang/Object;ILjava/lang/Object;II)V", sig := { parameters := [(.object "java/lang/Object"), .int, (.object "java/lang/Object"), .int, .int], returnType := none }, accessFlags := 265, code := none }
/-- java/lang/System -/
def k5 : Class := { plain "java/lang/System" (some 0) with
  accessFlags := 49
  interfaces := #[]
  cf := some (fileOf pool5 8 #[.nestMembers #[319, 327, 801, 108, 663, 208]] #[{ accessFlags := 2, nameIndex := 5, descriptorIndex := 6, attributes := #[] }, { accessFlags := 265, nameIndex := 727, descriptorIndex := 728, attributes := #[] }] 49 2 #[] #[{ accessFlags := 25, nameIndex := 507, descriptorIndex := 526, attributes := #[] }, { accessFlags := 25, nameIndex := 399, descriptorIndex := 155, attributes := #[] }, { accessFlags := 25, nameIndex := 396, descriptorIndex := 155, attributes := #[] }, { accessFlags := 10, nameIndex := 525, descriptorIndex := 526, attributes := #[] }, { accessFlags := 26, nameIndex := 674, descriptorIndex := 12, attributes := #[] }, { accessFlags := 26, nameIndex := 677, descriptorIndex := 12, attributes := #[] }, { accessFlags := 10, nameIndex := 11, descriptorIndex := 12, attributes := #[] }, { accessFlags := 74, nameIndex := 175, descriptorIndex := 176, attributes := #[] }, { accessFlags := 10, nameIndex := 491, descriptorIndex := 222, attributes := #[] }, { accessFlags := 74, nameIndex := 29, descriptorIndex := 30, attributes := #[] }, { accessFlags := 74, nameIndex := 154, descriptorIndex := 155, attributes := #[] }, { accessFlags := 10, nameIndex := 217, descriptorIndex := 218, attributes := #[] }, { accessFlags := 10, nameIndex := 221, descriptorIndex := 222, attributes := #[] }, { accessFlags := 8, nameIndex := 562, descriptorIndex := 563, attributes := #[] }])
  fields := #[{ name := "in", type := (.object "java/io/InputStream"), accessFlags := 25, slot := 0, constantValue := 0 }, { name := "out", type := (.object "java/io/PrintStream"), accessFlags := 25, slot := 1, constantValue := 0 }, { name := "err", type := (.object "java/io/PrintStream"), accessFlags := 25, slot := 2, constantValue := 0 }, { name := "initialIn", type := (.object "java/io/InputStream"), accessFlags := 10, slot := 3, constantValue := 0 }, { name := "NEVER", type := .int, accessFlags := 26, slot := 4, constantValue := 0 }, { name := "MAYBE", type := .int, accessFlags := 26, slot := 5, constantValue := 0 }, { name := "allowSecurityManager", type := .int, accessFlags := 10, slot := 6, constantValue := 0 }, { name := "security", type := (.object "java/lang/SecurityManager"), accessFlags := 74, slot := 7, constantValue := 0 }, { name := "notSupportedJnuEncoding", type := (.object "java/lang/String"), accessFlags := 10, slot := 8, constantValue := 0 }, { name := "cons", type := (.object "java/io/Console"), accessFlags := 74, slot := 9, constantValue := 0 }, { name := "initialErrStream", type := (.object "java/io/PrintStream"), accessFlags := 74, slot := 10, constantValue := 0 }, { name := "props", type := (.object "java/util/Properties"), accessFlags := 10, slot := 11, constantValue := 0 }, { name := "lineSeparator", type := (.object "java/lang/String"), accessFlags := 10, slot := 12, constantValue := 0 }, { name := "bootLayer", type := (.object "java/lang/ModuleLayer"), accessFlags := 8, slot := 13, constantValue := 0 }]
  methods := #[k5m0, k5m1]
  instanceTypes := #[]
  staticTypes := #[(.object "java/io/InputStream"), (.object "java/io/PrintStream"), (.object "java/io/PrintStream"), (.object "java/io/InputStream"), .int, .int, .int, (.object "java/lang/SecurityManager"), (.object "java/lang/String"), (.object "java/io/Console"), (.object "java/io/PrintStream"), (.object "java/util/Properties"), (.object "java/lang/String"), (.object "java/lang/ModuleLayer")]
  resolved := Array.replicate 834 none
  statics := none }

def pool6 : Array CpInfo := pool [(1, .class_ 2), (0, u "java/lang/Cloneable"), (0, .class_ 4), (0, u "java/lang/Object")] 2

/-- java/lang/Cloneable -/
def k6 : Class := { plain "java/lang/Cloneable" (some 0) with
  accessFlags := 1537
  interfaces := #[]
  cf := some (fileOf pool6 1 #[] #[] 1537 3 #[] #[])
  fields := #[]
  methods := #[]
  instanceTypes := #[]
  staticTypes := #[]
  resolved := Array.replicate 7 none
  statics := none }

def pool7 : Array CpInfo := pool [(1, u "java/io/Serializable"), (0, .class_ 1), (0, u "java/lang/Object"), (0, .class_ 3)] 3

/-- java/io/Serializable -/
def k7 : Class := { plain "java/io/Serializable" (some 0) with
  accessFlags := 1537
  interfaces := #[]
  cf := some (fileOf pool7 2 #[] #[] 1537 4 #[] #[])
  fields := #[]
  methods := #[]
  instanceTypes := #[]
  staticTypes := #[]
  resolved := Array.replicate 8 none
  statics := none }

/-- the primitive byte -/
def k8 : Class := { plain "byte" none with kind := .primitive 'B', accessFlags := 0x411 }
/-- [B -/
def k9 : Class := { plain "[B" (some 0) with kind := .array 8 .byte, interfaces := #[6, 7], accessFlags := 1041 }

/-- the primitive int -/
def k10 : Class := { plain "int" none with kind := .primitive 'I', accessFlags := 0x411 }
/-- [I -/
def k11 : Class := { plain "[I" (some 0) with kind := .array 10 .int, interfaces := #[6, 7], accessFlags := 1041 }

def heap : Heap := #[]
def classes : Array Class := #[k0, k1, k2, k3, k4, k5, k6, k7, k8, k9, k10, k11]
def interned : List (Array UInt16 × Addr) := []
def slotsUsed : Nat := 0
def theMethod : MethodId := ⟨1, 2⟩
def args0 : Array Value := #[.int 5, .int 2, .int 5, .int 2]
def aboutOver (below : List Frame) : State where
  vm := { classes := classes, interned := interned.toArray }
  heap := heap
  slotsUsed := slotsUsed
  threads := #[{ frames := .invoking theMethod args0 :: below }]
def below0 : List Frame := [.native { method := ⟨0, 0⟩, args := #[] }]
def about1 : State := aboutOver below0
def p0 : Program := .bare "" "" ""
def e0 : Env := launch0.env 0 0 0
theorem w_frames : about1.frames = Frame.invoking theMethod args0 :: below0 := rfl
set_option maxRecDepth 65536 in
theorem w_args : argsFit about1.vm theMethod args0 = true := by decide +kernel
set_option maxRecDepth 65536 in
theorem w_heap : heapFits about1 = true := by decide +kernel
set_option maxRecDepth 65536 in
theorem w_runnable : about1.curStatus? = some .runnable := by decide +kernel
set_option maxRecDepth 65536 in
theorem w_alone : about1.alone = true := by decide +kernel
set_option maxRecDepth 65536 in
theorem w_named : about1.methodNamed? x = some theMethod := by decide +kernel
set_option maxRecDepth 65536 in
theorem w_hears : about1.hears theMethod below0 = true := by decide +kernel
set_option maxRecDepth 65536 in
theorem w_ripe : about1.ripe theMethod args0 below0 = true := by decide +kernel
theorem w_running : about1.status = .running := rfl
set_option maxRecDepth 65536 in
theorem w_room : about1.hasRoom e0.platform room_1 = true :=
  launch0.hasRoom_least _ room_1 (by decide +kernel) (by decide +kernel) (by decide +kernel) (by decide +kernel) (by decide +kernel) (by decide +kernel)
theorem allAtoms_all (ts : List Jvm.Cond) (a : Array Jvm.Value) (st : Jvm.State) : (allAtoms ts).before a st = ts.all (fun c => c.before a st) := by
  induction ts with
  | nil => rfl
  | cons c t ih =>
    show (Jvm.Cond.and c (allAtoms t)).before a st = _
    rw [Jvm.Cond.before_and, ih, List.all_cons]
def words1 : List Jvm.Cond := Jvm.Cond.code x code maxLocals ret :: tables_1
/-- a 'code' word, met by the world's own term for the bytes: nothing is compared byte by byte -/
theorem code_word {y : MethodName} {bytes : ByteArray} {mx : Nat} {rt : Option FieldType} {a : Array Value} {s : State} {m : MethodId} {meth : Method} {c : Code} (h1 : s.methodNamed? y = some m) (h2 : s.vm.method? m = some meth) (h3 : meth.code = some c) (h4 : c.code = bytes)
    (h5 : (c.maxLocals == mx && c.exceptionTable.isEmpty && decide (c.maxStack ≤ mostOperands) && decide (meth.sig.returnType = rt) && !meth.locks && decide (parseMethodDescriptor y.desc = some meth.sig)) = true) : (Jvm.Cond.code y bytes mx rt).before a s = true := by
  simp only [Bool.and_eq_true, beq_iff_eq, Bool.not_eq_true', decide_eq_true_eq] at h5
  obtain ⟨⟨⟨⟨⟨g1, g2⟩, g3⟩, g4⟩, g5⟩, g6⟩ := h5
  simp [Cond.before, Cond.holds, Cond.value, h1, h2, h3, h4, g1, g2, g3, g4, g5, g6]
def isCode : Jvm.Cond → Bool
  | .code _ _ _ _ => true
  | _ => false
theorem all_split {L : List Jvm.Cond} {P : Jvm.Cond → Bool} (h1 : L.all (fun c => isCode c || P c) = true) (h2 : ∀ c ∈ L.filter isCode, P c = true) : L.all P = true := by
  refine List.all_eq_true.mpr fun c hc => ?_
  have h := List.all_eq_true.mp h1 c hc
  rcases Bool.eq_false_or_eq_true (isCode c) with hi | hi
  · exact h2 c (List.mem_filter.mpr ⟨hc, hi⟩)
  · simpa [hi] using h
set_option maxRecDepth 65536 in
theorem w_c0 : (Jvm.Cond.code x code maxLocals ret).before args0 about1 = true := code_word (m := ⟨1, 2⟩) (meth := k1m2) (c := k1c2) (by decide +kernel) rfl rfl rfl (by decide +kernel)
set_option maxRecDepth 65536 in
theorem w_c1 : (Jvm.Cond.code ({ cls := "com/example/lexorder/lexorder/ByteWriter", name := "<init>", desc := "(I)V" } : Jvm.MethodName) prog_4_method_2_code (2 : Nat) (Option.none : Option Jvm.ClassFile.FieldType)).before args0 about1 = true := code_word (m := ⟨2, 1⟩) (meth := k2m1) (c := k2c1) (by decide +kernel) rfl rfl rfl (by decide +kernel)
set_option maxRecDepth 65536 in
theorem w_c2 : (Jvm.Cond.code ({ cls := "java/lang/Object", name := "<init>", desc := "()V" } : Jvm.MethodName) object_method_1_code (1 : Nat) (Option.none : Option Jvm.ClassFile.FieldType)).before args0 about1 = true := code_word (m := ⟨0, 0⟩) (meth := k0m0) (c := k0c0) (by decide +kernel) rfl rfl rfl (by decide +kernel)
set_option maxRecDepth 65536 in
theorem w_c3 : (Jvm.Cond.code ({ cls := "com/example/lexorder/lexorder/ByteWriter", name := "write", desc := "(B)V" } : Jvm.MethodName) prog_4_method_3_code (2 : Nat) (Option.none : Option Jvm.ClassFile.FieldType)).before args0 about1 = true := code_word (m := ⟨2, 2⟩) (meth := k2m2) (c := k2c2) (by decide +kernel) rfl rfl rfl (by decide +kernel)
set_option maxRecDepth 65536 in
theorem w_c4 : (Jvm.Cond.code ({ cls := "com/example/lexorder/lexorder/ByteWriter", name := "grow", desc := "(I)V" } : Jvm.MethodName) prog_4_method_7_code (3 : Nat) (Option.none : Option Jvm.ClassFile.FieldType)).before args0 about1 = true := code_word (m := ⟨2, 3⟩) (meth := k2m3) (c := k2c3) (by decide +kernel) rfl rfl rfl (by decide +kernel)
set_option maxRecDepth 65536 in
theorem w_c5 : (Jvm.Cond.code ({ cls := "java/lang/Math", name := "max", desc := "(II)I" } : Jvm.MethodName) jdk_29_method_65_code (2 : Nat) (Option.some Jvm.ClassFile.FieldType.int)).before args0 about1 = true := code_word (m := ⟨3, 1⟩) (meth := k3m1) (c := k3c1) (by decide +kernel) rfl rfl rfl (by decide +kernel)
set_option maxRecDepth 65536 in
theorem w_c6 : (Jvm.Cond.code ({ cls := "java/util/Arrays", name := "copyOf", desc := "([BI)[B" } : Jvm.MethodName) jdk_65_method_121_code (3 : Nat) (Option.some (Jvm.ClassFile.FieldType.array Jvm.ClassFile.FieldType.byte))).before args0 about1 = true := code_word (m := ⟨4, 1⟩) (meth := k4m1) (c := k4c1) (by decide +kernel) rfl rfl rfl (by decide +kernel)
set_option maxRecDepth 65536 in
theorem w_c7 : (Jvm.Cond.code ({ cls := "java/lang/Math", name := "min", desc := "(II)I" } : Jvm.MethodName) jdk_29_method_69_code (2 : Nat) (Option.some Jvm.ClassFile.FieldType.int)).before args0 about1 = true := code_word (m := ⟨3, 2⟩) (meth := k3m2) (c := k3c2) (by decide +kernel) rfl rfl rfl (by decide +kernel)
set_option maxRecDepth 65536 in
theorem w_c8 : (Jvm.Cond.code ({ cls := "com/example/lexorder/lexorder/ByteWriter", name := "invertFrom", desc := "(I)V" } : Jvm.MethodName) prog_4_method_10_code (3 : Nat) (Option.none : Option Jvm.ClassFile.FieldType)).before args0 about1 = true := code_word (m := ⟨2, 5⟩) (meth := k2m5) (c := k2c5) (by decide +kernel) rfl rfl rfl (by decide +kernel)
set_option maxRecDepth 65536 in
theorem w_c9 : (Jvm.Cond.code ({ cls := "com/example/lexorder/lexorder/ByteWriter", name := "toByteArray", desc := "()[B" } : Jvm.MethodName) prog_4_method_11_code (1 : Nat) (Option.some (Jvm.ClassFile.FieldType.array Jvm.ClassFile.FieldType.byte))).before args0 about1 = true := code_word (m := ⟨2, 6⟩) (meth := k2m6) (c := k2c6) (by decide +kernel) rfl rfl rfl (by decide +kernel)
set_option maxRecDepth 65536 in
theorem w_c10 : (Jvm.Cond.code ({ cls := "com/example/lexorder/lexorder/ByteWriter", name := "length", desc := "()I" } : Jvm.MethodName) prog_4_method_8_code (1 : Nat) (Option.some Jvm.ClassFile.FieldType.int)).before args0 about1 = true := code_word (m := ⟨2, 4⟩) (meth := k2m4) (c := k2c4) (by decide +kernel) rfl rfl rfl (by decide +kernel)
set_option maxRecDepth 65536 in
theorem w_c11 : (Jvm.Cond.code ({ cls := "com/example/lexorder/lexorder/ByteWriterInvertFromPinLaw", name := "at", desc := "([BIBII)Z" } : Jvm.MethodName) method_2_code (6 : Nat) (Option.some Jvm.ClassFile.FieldType.boolean)).before args0 about1 = true := code_word (m := ⟨1, 1⟩) (meth := k1m1) (c := k1c1) (by decide +kernel) rfl rfl rfl (by decide +kernel)
def codes1 : List Jvm.Cond := [Jvm.Cond.code x code maxLocals ret, Jvm.Cond.code ({ cls := "com/example/lexorder/lexorder/ByteWriter", name := "<init>", desc := "(I)V" } : Jvm.MethodName) prog_4_method_2_code (2 : Nat) (Option.none : Option Jvm.ClassFile.FieldType), Jvm.Cond.code ({ cls := "java/lang/Object", name := "<init>", desc := "()V" } : Jvm.MethodName) object_method_1_code (1 : Nat) (Option.none : Option Jvm.ClassFile.FieldType), Jvm.Cond.code ({ cls := "com/example/lexorder/lexorder/ByteWriter", name := "write", desc := "(B)V" } : Jvm.MethodName) prog_4_method_3_code (2 : Nat) (Option.none : Option Jvm.ClassFile.FieldType), Jvm.Cond.code ({ cls := "com/example/lexorder/lexorder/ByteWriter", name := "grow", desc := "(I)V" } : Jvm.MethodName) prog_4_method_7_code (3 : Nat) (Option.none : Option Jvm.ClassFile.FieldType), Jvm.Cond.code ({ cls := "java/lang/Math", name := "max", desc := "(II)I" } : Jvm.MethodName) jdk_29_method_65_code (2 : Nat) (Option.some Jvm.ClassFile.FieldType.int), Jvm.Cond.code ({ cls := "java/util/Arrays", name := "copyOf", desc := "([BI)[B" } : Jvm.MethodName) jdk_65_method_121_code (3 : Nat) (Option.some (Jvm.ClassFile.FieldType.array Jvm.ClassFile.FieldType.byte)), Jvm.Cond.code ({ cls := "java/lang/Math", name := "min", desc := "(II)I" } : Jvm.MethodName) jdk_29_method_69_code (2 : Nat) (Option.some Jvm.ClassFile.FieldType.int), Jvm.Cond.code ({ cls := "com/example/lexorder/lexorder/ByteWriter", name := "invertFrom", desc := "(I)V" } : Jvm.MethodName) prog_4_method_10_code (3 : Nat) (Option.none : Option Jvm.ClassFile.FieldType), Jvm.Cond.code ({ cls := "com/example/lexorder/lexorder/ByteWriter", name := "toByteArray", desc := "()[B" } : Jvm.MethodName) prog_4_method_11_code (1 : Nat) (Option.some (Jvm.ClassFile.FieldType.array Jvm.ClassFile.FieldType.byte)), Jvm.Cond.code ({ cls := "com/example/lexorder/lexorder/ByteWriter", name := "length", desc := "()I" } : Jvm.MethodName) prog_4_method_8_code (1 : Nat) (Option.some Jvm.ClassFile.FieldType.int), Jvm.Cond.code ({ cls := "com/example/lexorder/lexorder/ByteWriterInvertFromPinLaw", name := "at", desc := "([BIBII)Z" } : Jvm.MethodName) method_2_code (6 : Nat) (Option.some Jvm.ClassFile.FieldType.boolean)]
set_option maxRecDepth 65536 in
theorem codes_eq : words1.filter isCode = codes1 := rfl
theorem w_codes : ∀ c ∈ words1.filter isCode, c.before args0 about1 = true := by
  rw [codes_eq]
  intro c hc
  simp only [codes1, List.mem_cons, List.not_mem_nil, or_false] at hc
  rcases hc with rfl | rfl | rfl | rfl | rfl | rfl | rfl | rfl | rfl | rfl | rfl | rfl
  · exact w_c0
  · exact w_c1
  · exact w_c2
  · exact w_c3
  · exact w_c4
  · exact w_c5
  · exact w_c6
  · exact w_c7
  · exact w_c8
  · exact w_c9
  · exact w_c10
  · exact w_c11
set_option maxRecDepth 65536 in
theorem w_t1 : (words1.take 24).all (fun c => isCode c || c.before args0 about1) = true := by decide +kernel
set_option maxRecDepth 65536 in
theorem w_t2 : ((words1.drop 24).take 24).all (fun c => isCode c || c.before args0 about1) = true := by decide +kernel
set_option maxRecDepth 65536 in
theorem w_t3 : ((words1.drop 24).drop 24).all (fun c => isCode c || c.before args0 about1) = true := by decide +kernel
theorem w_tables : (allAtoms (Jvm.Cond.code x code maxLocals ret :: tables_1)).before args0 about1 = true := by
  rw [allAtoms_all]
  show words1.all (fun c => c.before args0 about1) = true
  refine all_split ?_ w_codes
  rw [← List.take_append_drop 24 words1, List.all_append, w_t1, ← List.take_append_drop 24 (words1.drop 24), List.all_append, w_t2, w_t3]
  rfl
set_option maxRecDepth 65536 in
theorem w_case : (Jvm.Cond.and given_1 narrow_1).before args0 about1 = true := by decide +kernel
theorem w_applies : (headSpec (Jvm.Cond.code x code maxLocals ret :: tables_1) room_1).applies x e0.platform about1 = true :=
  (Spec.applies_iff w_frames).mpr ⟨w_running, w_runnable, w_alone, w_named, w_hears, w_ripe, w_room, w_tables⟩
theorem atStart : AtStart classFile x code maxLocals ret World_1 tables_1 room_1 Calls_1 rest_1 Pre_1 launch0 p0 e0 about1 theMethod args0 below0 :=
  ⟨lists_1, trivial, launch0.admits_env _ _ _, launch0.least_env, fairChoices_fair.cas, fairChoices_fair.clock, w_frames, w_args, w_heap, w_applies, trivial, trivial, w_case⟩
end start1
theorem witness_1 : WitnessClaimed_1 := ⟨start1.p0, start1.e0, start1.about1, start1.theMethod, start1.args0, start1.below0, start1.atStart⟩
end Jvm.Pilot.@@N@@
