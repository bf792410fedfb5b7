import JvmDerived
import JvmDerived.Pilot.@@N@@Statement
import JvmDerived.Pilot.@@N@@Code
set_option linter.unusedVariables false
set_option linter.unusedSimpArgs false
namespace Jvm.Pilot.@@N@@
open Jvm Jvm.ClassFile Sem Op Lib Jvm.Free Jvm.Stand Jvm.LawKit Jvm.RoadKit Bundle Jvm.Pilot.@@N@@.Jvm.D
section Own
variable {Z : State} {own nm : String} {bytes : ByteArray} {ml : Nat} {ret : Option FieldType} {R : Room} {n0 : Nat} {Q : Option Value → Heap → Prop} {k n : Nat} {h : Heap} {pc q r : Nat} {L L' : Array Slot} {S S' : List Value} {a0 : Array Value}
/-- what a body's own record says of it -/
def oCtx (p : Program) (s : State) (m : MethodId) (meth : Method) (c : Code) (Z : State) (own nm : String) (bytes : ByteArray) (ml : Nat) (ret : Option FieldType) : Prop :=
  p.tables.exec = Jvm.exec ∧ Z.Warmed39 s.vm ∧ c.code = bytes ∧ c.maxLocals = ml ∧ s.vm.findClass own = some m.cls ∧ meth.sig.returnType = ret ∧ meth.locks = false ∧ meth.name = nm
/-- from here on the body comes to its end, and there Q holds; nothing old is written -/
def oGo (Z : State) (own nm : String) (bytes : ByteArray) (ml : Nat) (ret : Option FieldType) (R : Room) (n0 : Nat) (Q : Option Value → Heap → Prop) (k n : Nat) (h : Heap) (pc : Nat) (L : Array Slot) (S : List Value) : Prop :=
  ∀ (p : Program) (l : Launch) (e : Env) (s : State) (m : MethodId) (args : Array Value) (below : List Frame) (meth : Method) (c : Code) (T : State) (locs : List Loc),
    oCtx p s m meth c Z own nm bytes ml ret → Stand p l e R s m args below meth c T locs k n → T.heap = h → Fr n0 locs →
    ∃ s₂ o, Steps p.tables e below (T.setTop (mkF m pc L S)) s₂ ∧ s₂.status = .running ∧ Ended s₂ below o ∧ ∃ v L', o = .returned v ∧ (Q v s₂.heap ∧ Fr n0 L') ∧ FrameEnd s o s₂ L' R.cells R.slots
/-- a body's contract -/
def oCon (Z : State) (y : MethodName) (bytes : ByteArray) (ml : Nat) (ret : Option FieldType) (rm : Room) (as : Array Value) (h : Heap) (n0 : Nat) (Q : Option Value → Heap → Prop) : Prop :=
  ∀ (l : Launch) (ws : List Jvm.Cond), MetFree l y (head1 (Jvm.Cond.code y bytes ml ret :: ws) rm) (fun a U => a = as ∧ Z.Warmed39 U.vm ∧ U.heap = h) (fun _ _ _ _ _ => True) (fun _ U o U' => ∃ v L, o = .returned v ∧ (Q v U'.heap ∧ Fr n0 L) ∧ FrameEnd U o U' L rm.cells rm.slots)
theorem oCon.of {y : MethodName} {rm : Room} {as : Array Value} {L0 : Array Slot} (hp : plainFor y = true) (he : ∀ m, entryFrame m as ml = mkF m 0 L0 []) (K : oGo Z y.cls y.name bytes ml ret rm n0 Q 0 0 h 0 L0 []) : oCon Z y bytes ml ret rm as h n0 Q := by
  intro l ws
  refine MetFree.of_bodySF hp hisR ?_
  intro p e s m args below meth c s₁ Bd hml0 hP hK
  obtain ⟨rfl, hZ, hh⟩ := hP
  have e0 : s₁.heap = h := by rw [← hh, Bd.state]; rfl
  obtain ⟨s₂, o, h1, h2, h3, h4⟩ := K p l e s m args below meth c s₁ [] ⟨Bd.exec, hZ, Bd.bytes, hml0, findClass_of_methodNamed Bd.named, Bd.returns, Bd.notSynchronized, (name_of_methodNamed Bd.named Bd.method).1⟩ (Stand.of_body Bd) e0 (Fr.nil n0)
  exact ⟨s₂, o, castTop (he m) h1, h2, h3, h4⟩
theorem oGo.more {k' n' : Nat} (hk : k ≤ k') (hn : n ≤ n') (K : oGo Z own nm bytes ml ret R n0 Q k' n' h pc L S) : oGo Z own nm bytes ml ret R n0 Q k n h pc L S :=
  fun p l e s m args below meth c T locs C X eT N => K p l e s m args below meth c T locs C (X.more hk hn) eT N
theorem oGo.st (H : ∀ (p : Program) (e : Env) (m : MethodId) (below : List Frame) (c : Code) (T : State), p.tables.exec = Jvm.exec → c.code = bytes → At T m c below → ∀ t, Steps p.tables e below (T.setTop (mkF m q L' S')) t → Steps p.tables e below (T.setTop (mkF m pc L S)) t) (K : oGo Z own nm bytes ml ret R n0 Q k n h q L' S') : oGo Z own nm bytes ml ret R n0 Q k n h pc L S :=
  fun p l e s m args below meth c T locs C X eT N => by
    obtain ⟨s₂, o, h1, r⟩ := K p l e s m args below meth c T locs C X eT N
    exact ⟨s₂, o, H p e m below c T C.1 C.2.2.1 X.here s₂ h1, r⟩
theorem oGo.iadd {x y : Int32} (hd : decode bytes pc = .ok (.iadd, 1)) (hq : pc + 1 = q) (K : oGo Z own nm bytes ml ret R n0 Q k n h q L (.int (x + y) :: S)) : oGo Z own nm bytes ml ret R n0 Q k n h pc L (.int y :: .int x :: S) := by
  subst hq; exact oGo.st (fun p e m below c T hx hby hA t k => XS.iadd hA hx rfl (hb hby hd) rfl k) K
theorem oGo.isub {x y : Int32} (hd : decode bytes pc = .ok (.isub, 1)) (hq : pc + 1 = q) (K : oGo Z own nm bytes ml ret R n0 Q k n h q L (.int (x - y) :: S)) : oGo Z own nm bytes ml ret R n0 Q k n h pc L (.int y :: .int x :: S) := by
  subst hq; exact oGo.st (fun p e m below c T hx hby hA t k => XS.isub hA hx rfl (hb hby hd) rfl k) K
theorem oGo.imul {x y : Int32} (hd : decode bytes pc = .ok (.imul, 1)) (hq : pc + 1 = q) (K : oGo Z own nm bytes ml ret R n0 Q k n h q L (.int (x * y) :: S)) : oGo Z own nm bytes ml ret R n0 Q k n h pc L (.int y :: .int x :: S) := by
  subst hq; exact oGo.st (fun p e m below c T hx hby hA t k => XS.imul hA hx rfl (hb hby hd) rfl k) K
theorem oGo.iand {x y : Int32} (hd : decode bytes pc = .ok (.iand, 1)) (hq : pc + 1 = q) (K : oGo Z own nm bytes ml ret R n0 Q k n h q L (.int (x &&& y) :: S)) : oGo Z own nm bytes ml ret R n0 Q k n h pc L (.int y :: .int x :: S) := by
  subst hq; exact oGo.st (fun p e m below c T hx hby hA t k => XS.iand hA hx rfl (hb hby hd) rfl k) K
theorem oGo.ior {x y : Int32} (hd : decode bytes pc = .ok (.ior, 1)) (hq : pc + 1 = q) (K : oGo Z own nm bytes ml ret R n0 Q k n h q L (.int (x ||| y) :: S)) : oGo Z own nm bytes ml ret R n0 Q k n h pc L (.int y :: .int x :: S) := by
  subst hq; exact oGo.st (fun p e m below c T hx hby hA t k => XS.ior hA hx rfl (hb hby hd) rfl k) K
theorem oGo.ixor {x y : Int32} (hd : decode bytes pc = .ok (.ixor, 1)) (hq : pc + 1 = q) (K : oGo Z own nm bytes ml ret R n0 Q k n h q L (.int (x ^^^ y) :: S)) : oGo Z own nm bytes ml ret R n0 Q k n h pc L (.int y :: .int x :: S) := by
  subst hq; exact oGo.st (fun p e m below c T hx hby hA t k => XS.ixor hA hx rfl (hb hby hd) rfl k) K
theorem oGo.ishl {x y : Int32} (hd : decode bytes pc = .ok (.ishl, 1)) (hq : pc + 1 = q) (K : oGo Z own nm bytes ml ret R n0 Q k n h q L (.int (x <<< (y &&& 31)) :: S)) : oGo Z own nm bytes ml ret R n0 Q k n h pc L (.int y :: .int x :: S) := by
  subst hq; exact oGo.st (fun p e m below c T hx hby hA t k => XS.ishl hA hx rfl (hb hby hd) rfl k) K
theorem oGo.ishr {x y : Int32} (hd : decode bytes pc = .ok (.ishr, 1)) (hq : pc + 1 = q) (K : oGo Z own nm bytes ml ret R n0 Q k n h q L (.int (x >>> (y &&& 31)) :: S)) : oGo Z own nm bytes ml ret R n0 Q k n h pc L (.int y :: .int x :: S) := by
  subst hq; exact oGo.st (fun p e m below c T hx hby hA t k => XS.ishr hA hx rfl (hb hby hd) rfl k) K
theorem oGo.iushr {x y : Int32} (hd : decode bytes pc = .ok (.iushr, 1)) (hq : pc + 1 = q) (K : oGo Z own nm bytes ml ret R n0 Q k n h q L (.int ((x.toUInt32 >>> (y &&& 31).toUInt32).toInt32) :: S)) : oGo Z own nm bytes ml ret R n0 Q k n h pc L (.int y :: .int x :: S) := by
  subst hq; exact oGo.st (fun p e m below c T hx hby hA t k => XS.iushr hA hx rfl (hb hby hd) rfl k) K
theorem oGo.ladd {x y : Int64} (hd : decode bytes pc = .ok (.ladd, 1)) (hq : pc + 1 = q) (K : oGo Z own nm bytes ml ret R n0 Q k n h q L (.long (x + y) :: S)) : oGo Z own nm bytes ml ret R n0 Q k n h pc L (.long y :: .long x :: S) := by
  subst hq; exact oGo.st (fun p e m below c T hx hby hA t k => XS.ladd hA hx rfl (hb hby hd) rfl k) K
theorem oGo.lsub {x y : Int64} (hd : decode bytes pc = .ok (.lsub, 1)) (hq : pc + 1 = q) (K : oGo Z own nm bytes ml ret R n0 Q k n h q L (.long (x - y) :: S)) : oGo Z own nm bytes ml ret R n0 Q k n h pc L (.long y :: .long x :: S) := by
  subst hq; exact oGo.st (fun p e m below c T hx hby hA t k => XS.lsub hA hx rfl (hb hby hd) rfl k) K
theorem oGo.lmul {x y : Int64} (hd : decode bytes pc = .ok (.lmul, 1)) (hq : pc + 1 = q) (K : oGo Z own nm bytes ml ret R n0 Q k n h q L (.long (x * y) :: S)) : oGo Z own nm bytes ml ret R n0 Q k n h pc L (.long y :: .long x :: S) := by
  subst hq; exact oGo.st (fun p e m below c T hx hby hA t k => XS.lmul hA hx rfl (hb hby hd) rfl k) K
theorem oGo.land {x y : Int64} (hd : decode bytes pc = .ok (.land, 1)) (hq : pc + 1 = q) (K : oGo Z own nm bytes ml ret R n0 Q k n h q L (.long (x &&& y) :: S)) : oGo Z own nm bytes ml ret R n0 Q k n h pc L (.long y :: .long x :: S) := by
  subst hq; exact oGo.st (fun p e m below c T hx hby hA t k => XS.land hA hx rfl (hb hby hd) rfl k) K
theorem oGo.lor {x y : Int64} (hd : decode bytes pc = .ok (.lor, 1)) (hq : pc + 1 = q) (K : oGo Z own nm bytes ml ret R n0 Q k n h q L (.long (x ||| y) :: S)) : oGo Z own nm bytes ml ret R n0 Q k n h pc L (.long y :: .long x :: S) := by
  subst hq; exact oGo.st (fun p e m below c T hx hby hA t k => XS.lor hA hx rfl (hb hby hd) rfl k) K
theorem oGo.lxor {x y : Int64} (hd : decode bytes pc = .ok (.lxor, 1)) (hq : pc + 1 = q) (K : oGo Z own nm bytes ml ret R n0 Q k n h q L (.long (x ^^^ y) :: S)) : oGo Z own nm bytes ml ret R n0 Q k n h pc L (.long y :: .long x :: S) := by
  subst hq; exact oGo.st (fun p e m below c T hx hby hA t k => XS.lxor hA hx rfl (hb hby hd) rfl k) K
theorem oGo.lshl {x : Int64} {y : Int32} (hd : decode bytes pc = .ok (.lshl, 1)) (hq : pc + 1 = q) (K : oGo Z own nm bytes ml ret R n0 Q k n h q L (.long (x <<< (y &&& 0x3f).toInt64) :: S)) : oGo Z own nm bytes ml ret R n0 Q k n h pc L (.int y :: .long x :: S) := by
  subst hq; exact oGo.st (fun p e m below c T hx hby hA t k => XS.lshl hA hx rfl (hb hby hd) rfl k) K
theorem oGo.lshr {x : Int64} {y : Int32} (hd : decode bytes pc = .ok (.lshr, 1)) (hq : pc + 1 = q) (K : oGo Z own nm bytes ml ret R n0 Q k n h q L (.long (x >>> (y &&& 0x3f).toInt64) :: S)) : oGo Z own nm bytes ml ret R n0 Q k n h pc L (.int y :: .long x :: S) := by
  subst hq; exact oGo.st (fun p e m below c T hx hby hA t k => XS.lshr hA hx rfl (hb hby hd) rfl k) K
theorem oGo.lushr {x : Int64} {y : Int32} (hd : decode bytes pc = .ok (.lushr, 1)) (hq : pc + 1 = q) (K : oGo Z own nm bytes ml ret R n0 Q k n h q L (.long ((x.toUInt64 >>> (y &&& 0x3f).toInt64.toUInt64).toInt64) :: S)) : oGo Z own nm bytes ml ret R n0 Q k n h pc L (.int y :: .long x :: S) := by
  subst hq; exact oGo.st (fun p e m below c T hx hby hA t k => XS.lushr hA hx rfl (hb hby hd) rfl k) K
theorem oGo.idiv {x y : Int32} (hd : decode bytes pc = .ok (.idiv, 1)) (hq : pc + 1 = q) (hy : y ≠ 0) (K : oGo Z own nm bytes ml ret R n0 Q k n h q L (.int (x / y) :: S)) : oGo Z own nm bytes ml ret R n0 Q k n h pc L (.int y :: .int x :: S) := by
  subst hq; exact oGo.st (fun p e m below c T hx hby hA t k => XS.idiv hA hx rfl (hb hby hd) rfl hy k) K
theorem oGo.ldiv {x y : Int64} (hd : decode bytes pc = .ok (.ldiv, 1)) (hq : pc + 1 = q) (hy : y ≠ 0) (K : oGo Z own nm bytes ml ret R n0 Q k n h q L (.long (x / y) :: S)) : oGo Z own nm bytes ml ret R n0 Q k n h pc L (.long y :: .long x :: S) := by
  subst hq; exact oGo.st (fun p e m below c T hx hby hA t k => XS.ldiv hA hx rfl (hb hby hd) rfl hy k) K
theorem oGo.irem {x y : Int32} (hd : decode bytes pc = .ok (.irem, 1)) (hq : pc + 1 = q) (hy : y ≠ 0) (K : oGo Z own nm bytes ml ret R n0 Q k n h q L (.int (x % y) :: S)) : oGo Z own nm bytes ml ret R n0 Q k n h pc L (.int y :: .int x :: S) := by
  subst hq; exact oGo.st (fun p e m below c T hx hby hA t k => XS.irem hA hx rfl (hb hby hd) rfl hy (by rw [irem_eq_mod]; exact k)) K
theorem oGo.lrem {x y : Int64} (hd : decode bytes pc = .ok (.lrem, 1)) (hq : pc + 1 = q) (hy : y ≠ 0) (K : oGo Z own nm bytes ml ret R n0 Q k n h q L (.long (x % y) :: S)) : oGo Z own nm bytes ml ret R n0 Q k n h pc L (.long y :: .long x :: S) := by
  subst hq; exact oGo.st (fun p e m below c T hx hby hA t k => XS.lrem hA hx rfl (hb hby hd) rfl hy (by rw [lrem_mod]; exact k)) K
theorem oGo.ineg {x : Int32} (hd : decode bytes pc = .ok (.ineg, 1)) (hq : pc + 1 = q) (K : oGo Z own nm bytes ml ret R n0 Q k n h q L (.int (-x) :: S)) : oGo Z own nm bytes ml ret R n0 Q k n h pc L (.int x :: S) := by
  subst hq; exact oGo.st (fun p e m below c T hx hby hA t k => XS.ineg hA hx rfl (hb hby hd) rfl k) K
theorem oGo.lneg {x : Int64} (hd : decode bytes pc = .ok (.lneg, 1)) (hq : pc + 1 = q) (K : oGo Z own nm bytes ml ret R n0 Q k n h q L (.long (-x) :: S)) : oGo Z own nm bytes ml ret R n0 Q k n h pc L (.long x :: S) := by
  subst hq; exact oGo.st (fun p e m below c T hx hby hA t k => XS.lneg hA hx rfl (hb hby hd) rfl k) K
theorem oGo.i2b {x : Int32} (hd : decode bytes pc = .ok (.i2b, 1)) (hq : pc + 1 = q) (K : oGo Z own nm bytes ml ret R n0 Q k n h q L (.int (x.toInt8.toInt32) :: S)) : oGo Z own nm bytes ml ret R n0 Q k n h pc L (.int x :: S) := by
  subst hq; exact oGo.st (fun p e m below c T hx hby hA t k => XS.i2b hA hx rfl (hb hby hd) rfl k) K
theorem oGo.i2c {x : Int32} (hd : decode bytes pc = .ok (.i2c, 1)) (hq : pc + 1 = q) (K : oGo Z own nm bytes ml ret R n0 Q k n h q L (.int (x.toUInt32.toUInt16.toUInt32.toInt32) :: S)) : oGo Z own nm bytes ml ret R n0 Q k n h pc L (.int x :: S) := by
  subst hq; exact oGo.st (fun p e m below c T hx hby hA t k => XS.i2c hA hx rfl (hb hby hd) rfl k) K
theorem oGo.i2s {x : Int32} (hd : decode bytes pc = .ok (.i2s, 1)) (hq : pc + 1 = q) (K : oGo Z own nm bytes ml ret R n0 Q k n h q L (.int (x.toInt16.toInt32) :: S)) : oGo Z own nm bytes ml ret R n0 Q k n h pc L (.int x :: S) := by
  subst hq; exact oGo.st (fun p e m below c T hx hby hA t k => XS.i2s hA hx rfl (hb hby hd) rfl k) K
theorem oGo.i2l {x : Int32} (hd : decode bytes pc = .ok (.i2l, 1)) (hq : pc + 1 = q) (K : oGo Z own nm bytes ml ret R n0 Q k n h q L (.long (x.toInt64) :: S)) : oGo Z own nm bytes ml ret R n0 Q k n h pc L (.int x :: S) := by
  subst hq; exact oGo.st (fun p e m below c T hx hby hA t k => XS.i2l hA hx rfl (hb hby hd) rfl k) K
theorem oGo.l2i {x : Int64} (hd : decode bytes pc = .ok (.l2i, 1)) (hq : pc + 1 = q) (K : oGo Z own nm bytes ml ret R n0 Q k n h q L (.int (x.toInt32) :: S)) : oGo Z own nm bytes ml ret R n0 Q k n h pc L (.long x :: S) := by
  subst hq; exact oGo.st (fun p e m below c T hx hby hA t k => XS.l2i hA hx rfl (hb hby hd) rfl k) K
theorem oGo.iconst {i : Int} {v : Int32} (hd : decode bytes pc = .ok (.iconst i, 1)) (hq : pc + 1 = q) (hv : Int32.ofInt i = v) (K : oGo Z own nm bytes ml ret R n0 Q k n h q L (.int v :: S)) : oGo Z own nm bytes ml ret R n0 Q k n h pc L S := by
  subst hq hv; exact oGo.st (fun p e m below c T hx hby hA t k => XS.iconst hA hx rfl (hb hby hd) k) K
theorem oGo.bipush {i : Int} {v : Int32} (hd : decode bytes pc = .ok (.bipush i, 2)) (hq : pc + 2 = q) (hv : (Int8.ofInt i).toInt32 = v) (K : oGo Z own nm bytes ml ret R n0 Q k n h q L (.int v :: S)) : oGo Z own nm bytes ml ret R n0 Q k n h pc L S := by
  subst hq hv; exact oGo.st (fun p e m below c T hx hby hA t k => XS.bipush hA hx rfl (hb hby hd) k) K
theorem oGo.sipush {i : Int} {v : Int32} (hd : decode bytes pc = .ok (.sipush i, 3)) (hq : pc + 3 = q) (hv : (Int16.ofInt i).toInt32 = v) (K : oGo Z own nm bytes ml ret R n0 Q k n h q L (.int v :: S)) : oGo Z own nm bytes ml ret R n0 Q k n h pc L S := by
  subst hq hv; exact oGo.st (fun p e m below c T hx hby hA t k => XS.sipush hA hx rfl (hb hby hd) k) K
theorem oGo.lconst {i : Fin 2} {v : Int64} (hd : decode bytes pc = .ok (.lconst i, 1)) (hq : pc + 1 = q) (hv : Int64.ofNat i = v) (K : oGo Z own nm bytes ml ret R n0 Q k n h q L (.long v :: S)) : oGo Z own nm bytes ml ret R n0 Q k n h pc L S := by
  subst hq hv; exact oGo.st (fun p e m below c T hx hby hA t k => XS.lconst hA hx rfl (hb hby hd) k) K
theorem oGo.aconstNull (hd : decode bytes pc = .ok (.aconst_null, 1)) (hq : pc + 1 = q) (K : oGo Z own nm bytes ml ret R n0 Q k n h q L (.null :: S)) : oGo Z own nm bytes ml ret R n0 Q k n h pc L (S) := by
  subst hq; exact oGo.st (fun p e m below c T hx hby hA t k => XS.aconstNull hA hx rfl (hb hby hd) k) K
theorem oGo.iload {i : Nat} {v : Int32} (hd : decode bytes pc = .ok (.iload i, 2)) (hq : pc + 2 = q) (hl : L[i]? = some (.val (.int v))) (K : oGo Z own nm bytes ml ret R n0 Q k n h q L (.int v :: S)) : oGo Z own nm bytes ml ret R n0 Q k n h pc L S := by
  subst hq; exact oGo.st (fun p e m below c T hx hby hA t k => XS.iload hA hx rfl (hb hby hd) hl k) K
theorem oGo.iloadN {i : Fin 4} {v : Int32} (hd : decode bytes pc = .ok (.iload_n i, 1)) (hq : pc + 1 = q) (hl : L[i.val]? = some (.val (.int v))) (K : oGo Z own nm bytes ml ret R n0 Q k n h q L (.int v :: S)) : oGo Z own nm bytes ml ret R n0 Q k n h pc L S := by
  subst hq; exact oGo.st (fun p e m below c T hx hby hA t k => XS.iloadN hA hx rfl (hb hby hd) hl k) K
theorem oGo.istore {i : Nat} {v : Int32} (hd : decode bytes pc = .ok (.istore i, 2)) (hq : pc + 2 = q) (hl : storeLocals L i (.int v) = some L') (K : oGo Z own nm bytes ml ret R n0 Q k n h q L' S) : oGo Z own nm bytes ml ret R n0 Q k n h pc L (.int v :: S) := by
  subst hq; exact oGo.st (fun p e m below c T hx hby hA t k => XS.istore hA hx rfl (hb hby hd) rfl hl k) K
theorem oGo.istoreN {i : Fin 4} {v : Int32} (hd : decode bytes pc = .ok (.istore_n i, 1)) (hq : pc + 1 = q) (hl : storeLocals L i.val (.int v) = some L') (K : oGo Z own nm bytes ml ret R n0 Q k n h q L' S) : oGo Z own nm bytes ml ret R n0 Q k n h pc L (.int v :: S) := by
  subst hq; exact oGo.st (fun p e m below c T hx hby hA t k => XS.istoreN hA hx rfl (hb hby hd) rfl hl k) K
theorem oGo.lload {i : Nat} {v : Int64} (hd : decode bytes pc = .ok (.lload i, 2)) (hq : pc + 2 = q) (hl : L[i]? = some (.val (.long v))) (K : oGo Z own nm bytes ml ret R n0 Q k n h q L (.long v :: S)) : oGo Z own nm bytes ml ret R n0 Q k n h pc L S := by
  subst hq; exact oGo.st (fun p e m below c T hx hby hA t k => XS.lload hA hx rfl (hb hby hd) hl k) K
theorem oGo.lloadN {i : Fin 4} {v : Int64} (hd : decode bytes pc = .ok (.lload_n i, 1)) (hq : pc + 1 = q) (hl : L[i.val]? = some (.val (.long v))) (K : oGo Z own nm bytes ml ret R n0 Q k n h q L (.long v :: S)) : oGo Z own nm bytes ml ret R n0 Q k n h pc L S := by
  subst hq; exact oGo.st (fun p e m below c T hx hby hA t k => XS.lloadN hA hx rfl (hb hby hd) hl k) K
theorem oGo.lstore {i : Nat} {v : Int64} (hd : decode bytes pc = .ok (.lstore i, 2)) (hq : pc + 2 = q) (hl : storeLocals L i (.long v) = some L') (K : oGo Z own nm bytes ml ret R n0 Q k n h q L' S) : oGo Z own nm bytes ml ret R n0 Q k n h pc L (.long v :: S) := by
  subst hq; exact oGo.st (fun p e m below c T hx hby hA t k => XS.lstore hA hx rfl (hb hby hd) rfl hl k) K
theorem oGo.lstoreN {i : Fin 4} {v : Int64} (hd : decode bytes pc = .ok (.lstore_n i, 1)) (hq : pc + 1 = q) (hl : storeLocals L i.val (.long v) = some L') (K : oGo Z own nm bytes ml ret R n0 Q k n h q L' S) : oGo Z own nm bytes ml ret R n0 Q k n h pc L (.long v :: S) := by
  subst hq; exact oGo.st (fun p e m below c T hx hby hA t k => XS.lstoreN hA hx rfl (hb hby hd) rfl hl k) K
theorem oGo.aload {i : Nat} {v : Value} (hd : decode bytes pc = .ok (.aload i, 2)) (hq : pc + 2 = q) (hl : L[i]? = some (.val v)) (hv : v.isRef = true) (K : oGo Z own nm bytes ml ret R n0 Q k n h q L (v :: S)) : oGo Z own nm bytes ml ret R n0 Q k n h pc L S := by
  subst hq; exact oGo.st (fun p e m below c T hx hby hA t k => XS.aload hA hx rfl (hb hby hd) hl hv k) K
theorem oGo.aloadN {i : Fin 4} {v : Value} (hd : decode bytes pc = .ok (.aload_n i, 1)) (hq : pc + 1 = q) (hl : L[i.val]? = some (.val v)) (hv : v.isRef = true) (K : oGo Z own nm bytes ml ret R n0 Q k n h q L (v :: S)) : oGo Z own nm bytes ml ret R n0 Q k n h pc L S := by
  subst hq; exact oGo.st (fun p e m below c T hx hby hA t k => XS.aloadN hA hx rfl (hb hby hd) hl hv k) K
theorem oGo.astore {i : Nat} {v : Value} (hd : decode bytes pc = .ok (.astore i, 2)) (hq : pc + 2 = q) (hv : v.isRef = true) (hl : storeLocals L i v = some L') (K : oGo Z own nm bytes ml ret R n0 Q k n h q L' S) : oGo Z own nm bytes ml ret R n0 Q k n h pc L (v :: S) := by
  subst hq; exact oGo.st (fun p e m below c T hx hby hA t k => XS.astore hA hx rfl (hb hby hd) rfl hv hl k) K
theorem oGo.astoreN {i : Fin 4} {v : Value} (hd : decode bytes pc = .ok (.astore_n i, 1)) (hq : pc + 1 = q) (hv : v.isRef = true) (hl : storeLocals L i.val v = some L') (K : oGo Z own nm bytes ml ret R n0 Q k n h q L' S) : oGo Z own nm bytes ml ret R n0 Q k n h pc L (v :: S) := by
  subst hq; exact oGo.st (fun p e m below c T hx hby hA t k => XS.astoreN hA hx rfl (hb hby hd) rfl hv hl k) K
theorem oGo.iinc {i : Nat} {cst : Int} {x v : Int32} (hd : decode bytes pc = .ok (.iinc i cst, 3)) (hq : pc + 3 = q) (hl : L[i]? = some (.val (.int x))) (hv : x + Int32.ofInt cst = v) (hs : storeLocals L i (.int v) = some L') (K : oGo Z own nm bytes ml ret R n0 Q k n h q L' S) : oGo Z own nm bytes ml ret R n0 Q k n h pc L S := by
  subst hq hv; exact oGo.st (fun p e m below c T hx hby hA t k => XS.iinc hA hx rfl (hb hby hd) hl hs k) K
theorem oGo.dup {v : Value} (hd : decode bytes pc = .ok (.dup, 1)) (hq : pc + 1 = q) (hc : v.category = 1) (K : oGo Z own nm bytes ml ret R n0 Q k n h q L (v :: v :: S)) : oGo Z own nm bytes ml ret R n0 Q k n h pc L (v :: S) := by
  subst hq; exact oGo.st (fun p e m below c T hx hby hA t k => XS.dup hA hx rfl (hb hby hd) rfl hc k) K
theorem oGo.dupX1 {v w : Value} (hd : decode bytes pc = .ok (.dup_x1, 1)) (hq : pc + 1 = q) (hc : v.category = 1) (hc' : w.category = 1) (K : oGo Z own nm bytes ml ret R n0 Q k n h q L (v :: w :: v :: S)) : oGo Z own nm bytes ml ret R n0 Q k n h pc L (v :: w :: S) := by
  subst hq; exact oGo.st (fun p e m below c T hx hby hA t k => XS.dupX1 hA hx rfl (hb hby hd) rfl hc hc' k) K
theorem oGo.dup2 {v w : Value} (hd : decode bytes pc = .ok (.dup2, 1)) (hq : pc + 1 = q) (hc : v.category = 1) (hc' : w.category = 1) (K : oGo Z own nm bytes ml ret R n0 Q k n h q L (v :: w :: v :: w :: S)) : oGo Z own nm bytes ml ret R n0 Q k n h pc L (v :: w :: S) := by
  subst hq; exact oGo.st (fun p e m below c T hx hby hA t k => XT.dup2 hA hx rfl (hb hby hd) rfl hc hc' k) K
theorem oGo.pop {v : Value} (hd : decode bytes pc = .ok (.pop, 1)) (hq : pc + 1 = q) (hc : v.category = 1) (K : oGo Z own nm bytes ml ret R n0 Q k n h q L S) : oGo Z own nm bytes ml ret R n0 Q k n h pc L (v :: S) := by
  subst hq; exact oGo.st (fun p e m below c T hx hby hA t k => XS.pop hA hx rfl (hb hby hd) rfl hc k) K
theorem oGo.goto {o : Int} (hd : decode bytes pc = .ok (.goto o, 3)) (hq : (pc : Int) + o = (q : Int)) (K : oGo Z own nm bytes ml ret R n0 Q k n h q L S) : oGo Z own nm bytes ml ret R n0 Q k n h pc L S :=
  oGo.st (fun p e m below c T hx hby hA t k => XS.goto hA hx rfl (pc0 := pc) (pc' := q) rfl (hb hby hd) (by omega) (by omega) k) K
theorem oGo.ifnonnullYes {o : Int} {b : Addr} (hd : decode bytes pc = .ok (.ifnonnull o, 3)) (hq : (pc : Int) + o = (q : Int)) (K : oGo Z own nm bytes ml ret R n0 Q k n h q L S) : oGo Z own nm bytes ml ret R n0 Q k n h pc L (.ref b :: S) :=
  oGo.st (fun p e m below c T hx hby hA t k => XS.ifnonnullYes hA hx rfl (pc0 := pc) (pc' := q) rfl (hb hby hd) rfl (by omega) (by omega) k) K
theorem oGo.lcmp {x y : Int64} (hd : decode bytes pc = .ok (.lcmp, 1)) (hq : pc + 1 = q) (K : oGo Z own nm bytes ml ret R n0 Q k n h q L (.int (lcmpW x y) :: S)) : oGo Z own nm bytes ml ret R n0 Q k n h pc L (.long y :: .long x :: S) := by
  subst hq; exact oGo.st (fun p e m below c T hx hby hA t k => XS.lcmp hA hx rfl (hb hby hd) rfl k) K
theorem own_hlt {x y : Int32} : (x.toInt < y.toInt → if_icmp.holds .lt x y = true) ∧ (y.toInt ≤ x.toInt → if_icmp.holds .lt x y = false) :=
  ⟨fun hc => (tlt (Int32.lt_iff_toInt_lt.mpr hc)).1, fun hc => (flt (fun z => by have := Int32.lt_iff_toInt_lt.mp z; omega)).1⟩
theorem own_dlt (x y : Int32) : (x.toInt < y.toInt) ∨ (y.toInt ≤ x.toInt) := by omega
theorem own_elt (x y : Int64) : (x.toInt < y.toInt) ∨ (y.toInt ≤ x.toInt) := by omega
theorem oGo.icmp_lt {o : Int} {x y : Int32} (hd : decode bytes pc = .ok (.if_icmp .lt o, 3)) (hq : (pc : Int) + o = (q : Int)) (hr : pc + 3 = r) (K1 : x.toInt < y.toInt → oGo Z own nm bytes ml ret R n0 Q k n h q L S) (K2 : y.toInt ≤ x.toInt → oGo Z own nm bytes ml ret R n0 Q k n h r L S) : oGo Z own nm bytes ml ret R n0 Q k n h pc L (.int y :: .int x :: S) := by
  rcases own_dlt x y with hc | hc
  · exact oGo.st (fun p e m below c T hx hby hA t k => XS.icmpYes hA hx rfl (pc0 := pc) (pc' := q) rfl (hb hby hd) rfl (own_hlt.1 hc) (by omega) (by omega) k) (K1 hc)
  · subst hr; exact oGo.st (fun p e m below c T hx hby hA t k => XS.icmpNo hA hx rfl (hb hby hd) rfl (own_hlt.2 hc) k) (K2 hc)
theorem oGo.if_lt {o : Int} {x : Int32} (hd : decode bytes pc = .ok (.ifCond .lt o, 3)) (hq : (pc : Int) + o = (q : Int)) (hr : pc + 3 = r) (K1 : x.toInt < 0 → oGo Z own nm bytes ml ret R n0 Q k n h q L S) (K2 : 0 ≤ x.toInt → oGo Z own nm bytes ml ret R n0 Q k n h r L S) : oGo Z own nm bytes ml ret R n0 Q k n h pc L (.int x :: S) := by
  rcases own_dlt x 0 with hc | hc
  · exact oGo.st (fun p e m below c T hx hby hA t k => XS.ifYes hA hx rfl (pc0 := pc) (pc' := q) rfl (hb hby hd) rfl ((if0 _ _).trans (own_hlt.1 hc)) (by omega) (by omega) k) (K1 hc)
  · subst hr; exact oGo.st (fun p e m below c T hx hby hA t k => XS.ifNo hA hx rfl (hb hby hd) rfl ((if0 _ _).trans (own_hlt.2 hc)) k) (K2 hc)
theorem own_llt {x y : Int64} : (x.toInt < y.toInt → (lcmpW x y).toInt < 0) ∧ (y.toInt ≤ x.toInt → 0 ≤ (lcmpW x y).toInt) := by
  obtain ⟨h1, h2, h3⟩ := c_lcmp x y
  refine ⟨fun hc => ?_, fun hc => ?_⟩ <;> (rcases Int.lt_trichotomy x.toInt y.toInt with u | u | u <;> simp_all <;> omega)
theorem oGo.lif_lt {o : Int} {x y : Int64} {pc2 : Nat} (hd : decode bytes pc = .ok (.lcmp, 1)) (h1 : pc + 1 = pc2) (hd2 : decode bytes pc2 = .ok (.ifCond .lt o, 3)) (hq : (pc2 : Int) + o = (q : Int)) (hr : pc2 + 3 = r) (K1 : x.toInt < y.toInt → oGo Z own nm bytes ml ret R n0 Q k n h q L S) (K2 : y.toInt ≤ x.toInt → oGo Z own nm bytes ml ret R n0 Q k n h r L S) : oGo Z own nm bytes ml ret R n0 Q k n h pc L (.long y :: .long x :: S) := by
  refine oGo.lcmp hd h1 (oGo.if_lt hd2 hq hr (fun hc => ?_) (fun hc => ?_))
  · rcases own_elt x y with u | u
    · exact K1 u
    · have := own_llt.2 u; first | exact absurd hc this | exact absurd this hc | omega
  · rcases own_elt x y with u | u
    · have := own_llt.1 u; first | exact absurd hc this | exact absurd this hc | omega
    · exact K2 u
theorem own_hge {x y : Int32} : (y.toInt ≤ x.toInt → if_icmp.holds .ge x y = true) ∧ (x.toInt < y.toInt → if_icmp.holds .ge x y = false) :=
  ⟨fun hc => (flt (fun z => by have := Int32.lt_iff_toInt_lt.mp z; omega)).2.1, fun hc => (tlt (Int32.lt_iff_toInt_lt.mpr hc)).2.1⟩
theorem own_dge (x y : Int32) : (y.toInt ≤ x.toInt) ∨ (x.toInt < y.toInt) := by omega
theorem own_ege (x y : Int64) : (y.toInt ≤ x.toInt) ∨ (x.toInt < y.toInt) := by omega
theorem oGo.icmp_ge {o : Int} {x y : Int32} (hd : decode bytes pc = .ok (.if_icmp .ge o, 3)) (hq : (pc : Int) + o = (q : Int)) (hr : pc + 3 = r) (K1 : y.toInt ≤ x.toInt → oGo Z own nm bytes ml ret R n0 Q k n h q L S) (K2 : x.toInt < y.toInt → oGo Z own nm bytes ml ret R n0 Q k n h r L S) : oGo Z own nm bytes ml ret R n0 Q k n h pc L (.int y :: .int x :: S) := by
  rcases own_dge x y with hc | hc
  · exact oGo.st (fun p e m below c T hx hby hA t k => XS.icmpYes hA hx rfl (pc0 := pc) (pc' := q) rfl (hb hby hd) rfl (own_hge.1 hc) (by omega) (by omega) k) (K1 hc)
  · subst hr; exact oGo.st (fun p e m below c T hx hby hA t k => XS.icmpNo hA hx rfl (hb hby hd) rfl (own_hge.2 hc) k) (K2 hc)
theorem oGo.if_ge {o : Int} {x : Int32} (hd : decode bytes pc = .ok (.ifCond .ge o, 3)) (hq : (pc : Int) + o = (q : Int)) (hr : pc + 3 = r) (K1 : 0 ≤ x.toInt → oGo Z own nm bytes ml ret R n0 Q k n h q L S) (K2 : x.toInt < 0 → oGo Z own nm bytes ml ret R n0 Q k n h r L S) : oGo Z own nm bytes ml ret R n0 Q k n h pc L (.int x :: S) := by
  rcases own_dge x 0 with hc | hc
  · exact oGo.st (fun p e m below c T hx hby hA t k => XS.ifYes hA hx rfl (pc0 := pc) (pc' := q) rfl (hb hby hd) rfl ((if0 _ _).trans (own_hge.1 hc)) (by omega) (by omega) k) (K1 hc)
  · subst hr; exact oGo.st (fun p e m below c T hx hby hA t k => XS.ifNo hA hx rfl (hb hby hd) rfl ((if0 _ _).trans (own_hge.2 hc)) k) (K2 hc)
theorem own_lge {x y : Int64} : (y.toInt ≤ x.toInt → 0 ≤ (lcmpW x y).toInt) ∧ (x.toInt < y.toInt → (lcmpW x y).toInt < 0) := by
  obtain ⟨h1, h2, h3⟩ := c_lcmp x y
  refine ⟨fun hc => ?_, fun hc => ?_⟩ <;> (rcases Int.lt_trichotomy x.toInt y.toInt with u | u | u <;> simp_all <;> omega)
theorem oGo.lif_ge {o : Int} {x y : Int64} {pc2 : Nat} (hd : decode bytes pc = .ok (.lcmp, 1)) (h1 : pc + 1 = pc2) (hd2 : decode bytes pc2 = .ok (.ifCond .ge o, 3)) (hq : (pc2 : Int) + o = (q : Int)) (hr : pc2 + 3 = r) (K1 : y.toInt ≤ x.toInt → oGo Z own nm bytes ml ret R n0 Q k n h q L S) (K2 : x.toInt < y.toInt → oGo Z own nm bytes ml ret R n0 Q k n h r L S) : oGo Z own nm bytes ml ret R n0 Q k n h pc L (.long y :: .long x :: S) := by
  refine oGo.lcmp hd h1 (oGo.if_ge hd2 hq hr (fun hc => ?_) (fun hc => ?_))
  · rcases own_ege x y with u | u
    · exact K1 u
    · have := own_lge.2 u; first | exact absurd hc this | exact absurd this hc | omega
  · rcases own_ege x y with u | u
    · have := own_lge.1 u; first | exact absurd hc this | exact absurd this hc | omega
    · exact K2 u
theorem own_hgt {x y : Int32} : (y.toInt < x.toInt → if_icmp.holds .gt x y = true) ∧ (x.toInt ≤ y.toInt → if_icmp.holds .gt x y = false) :=
  ⟨fun hc => (tlt (Int32.lt_iff_toInt_lt.mpr hc)).2.2.1, fun hc => (flt (fun z => by have := Int32.lt_iff_toInt_lt.mp z; omega)).2.2.1⟩
theorem own_dgt (x y : Int32) : (y.toInt < x.toInt) ∨ (x.toInt ≤ y.toInt) := by omega
theorem own_egt (x y : Int64) : (y.toInt < x.toInt) ∨ (x.toInt ≤ y.toInt) := by omega
theorem oGo.icmp_gt {o : Int} {x y : Int32} (hd : decode bytes pc = .ok (.if_icmp .gt o, 3)) (hq : (pc : Int) + o = (q : Int)) (hr : pc + 3 = r) (K1 : y.toInt < x.toInt → oGo Z own nm bytes ml ret R n0 Q k n h q L S) (K2 : x.toInt ≤ y.toInt → oGo Z own nm bytes ml ret R n0 Q k n h r L S) : oGo Z own nm bytes ml ret R n0 Q k n h pc L (.int y :: .int x :: S) := by
  rcases own_dgt x y with hc | hc
  · exact oGo.st (fun p e m below c T hx hby hA t k => XS.icmpYes hA hx rfl (pc0 := pc) (pc' := q) rfl (hb hby hd) rfl (own_hgt.1 hc) (by omega) (by omega) k) (K1 hc)
  · subst hr; exact oGo.st (fun p e m below c T hx hby hA t k => XS.icmpNo hA hx rfl (hb hby hd) rfl (own_hgt.2 hc) k) (K2 hc)
theorem oGo.if_gt {o : Int} {x : Int32} (hd : decode bytes pc = .ok (.ifCond .gt o, 3)) (hq : (pc : Int) + o = (q : Int)) (hr : pc + 3 = r) (K1 : 0 < x.toInt → oGo Z own nm bytes ml ret R n0 Q k n h q L S) (K2 : x.toInt ≤ 0 → oGo Z own nm bytes ml ret R n0 Q k n h r L S) : oGo Z own nm bytes ml ret R n0 Q k n h pc L (.int x :: S) := by
  rcases own_dgt x 0 with hc | hc
  · exact oGo.st (fun p e m below c T hx hby hA t k => XS.ifYes hA hx rfl (pc0 := pc) (pc' := q) rfl (hb hby hd) rfl ((if0 _ _).trans (own_hgt.1 hc)) (by omega) (by omega) k) (K1 hc)
  · subst hr; exact oGo.st (fun p e m below c T hx hby hA t k => XS.ifNo hA hx rfl (hb hby hd) rfl ((if0 _ _).trans (own_hgt.2 hc)) k) (K2 hc)
theorem own_lgt {x y : Int64} : (y.toInt < x.toInt → 0 < (lcmpW x y).toInt) ∧ (x.toInt ≤ y.toInt → (lcmpW x y).toInt ≤ 0) := by
  obtain ⟨h1, h2, h3⟩ := c_lcmp x y
  refine ⟨fun hc => ?_, fun hc => ?_⟩ <;> (rcases Int.lt_trichotomy x.toInt y.toInt with u | u | u <;> simp_all <;> omega)
theorem oGo.lif_gt {o : Int} {x y : Int64} {pc2 : Nat} (hd : decode bytes pc = .ok (.lcmp, 1)) (h1 : pc + 1 = pc2) (hd2 : decode bytes pc2 = .ok (.ifCond .gt o, 3)) (hq : (pc2 : Int) + o = (q : Int)) (hr : pc2 + 3 = r) (K1 : y.toInt < x.toInt → oGo Z own nm bytes ml ret R n0 Q k n h q L S) (K2 : x.toInt ≤ y.toInt → oGo Z own nm bytes ml ret R n0 Q k n h r L S) : oGo Z own nm bytes ml ret R n0 Q k n h pc L (.long y :: .long x :: S) := by
  refine oGo.lcmp hd h1 (oGo.if_gt hd2 hq hr (fun hc => ?_) (fun hc => ?_))
  · rcases own_egt x y with u | u
    · exact K1 u
    · have := own_lgt.2 u; first | exact absurd hc this | exact absurd this hc | omega
  · rcases own_egt x y with u | u
    · have := own_lgt.1 u; first | exact absurd hc this | exact absurd this hc | omega
    · exact K2 u
theorem own_hle {x y : Int32} : (x.toInt ≤ y.toInt → if_icmp.holds .le x y = true) ∧ (y.toInt < x.toInt → if_icmp.holds .le x y = false) :=
  ⟨fun hc => (flt (fun z => by have := Int32.lt_iff_toInt_lt.mp z; omega)).2.2.2, fun hc => (tlt (Int32.lt_iff_toInt_lt.mpr hc)).2.2.2⟩
theorem own_dle (x y : Int32) : (x.toInt ≤ y.toInt) ∨ (y.toInt < x.toInt) := by omega
theorem own_ele (x y : Int64) : (x.toInt ≤ y.toInt) ∨ (y.toInt < x.toInt) := by omega
theorem oGo.icmp_le {o : Int} {x y : Int32} (hd : decode bytes pc = .ok (.if_icmp .le o, 3)) (hq : (pc : Int) + o = (q : Int)) (hr : pc + 3 = r) (K1 : x.toInt ≤ y.toInt → oGo Z own nm bytes ml ret R n0 Q k n h q L S) (K2 : y.toInt < x.toInt → oGo Z own nm bytes ml ret R n0 Q k n h r L S) : oGo Z own nm bytes ml ret R n0 Q k n h pc L (.int y :: .int x :: S) := by
  rcases own_dle x y with hc | hc
  · exact oGo.st (fun p e m below c T hx hby hA t k => XS.icmpYes hA hx rfl (pc0 := pc) (pc' := q) rfl (hb hby hd) rfl (own_hle.1 hc) (by omega) (by omega) k) (K1 hc)
  · subst hr; exact oGo.st (fun p e m below c T hx hby hA t k => XS.icmpNo hA hx rfl (hb hby hd) rfl (own_hle.2 hc) k) (K2 hc)
theorem oGo.if_le {o : Int} {x : Int32} (hd : decode bytes pc = .ok (.ifCond .le o, 3)) (hq : (pc : Int) + o = (q : Int)) (hr : pc + 3 = r) (K1 : x.toInt ≤ 0 → oGo Z own nm bytes ml ret R n0 Q k n h q L S) (K2 : 0 < x.toInt → oGo Z own nm bytes ml ret R n0 Q k n h r L S) : oGo Z own nm bytes ml ret R n0 Q k n h pc L (.int x :: S) := by
  rcases own_dle x 0 with hc | hc
  · exact oGo.st (fun p e m below c T hx hby hA t k => XS.ifYes hA hx rfl (pc0 := pc) (pc' := q) rfl (hb hby hd) rfl ((if0 _ _).trans (own_hle.1 hc)) (by omega) (by omega) k) (K1 hc)
  · subst hr; exact oGo.st (fun p e m below c T hx hby hA t k => XS.ifNo hA hx rfl (hb hby hd) rfl ((if0 _ _).trans (own_hle.2 hc)) k) (K2 hc)
theorem own_lle {x y : Int64} : (x.toInt ≤ y.toInt → (lcmpW x y).toInt ≤ 0) ∧ (y.toInt < x.toInt → 0 < (lcmpW x y).toInt) := by
  obtain ⟨h1, h2, h3⟩ := c_lcmp x y
  refine ⟨fun hc => ?_, fun hc => ?_⟩ <;> (rcases Int.lt_trichotomy x.toInt y.toInt with u | u | u <;> simp_all <;> omega)
theorem oGo.lif_le {o : Int} {x y : Int64} {pc2 : Nat} (hd : decode bytes pc = .ok (.lcmp, 1)) (h1 : pc + 1 = pc2) (hd2 : decode bytes pc2 = .ok (.ifCond .le o, 3)) (hq : (pc2 : Int) + o = (q : Int)) (hr : pc2 + 3 = r) (K1 : x.toInt ≤ y.toInt → oGo Z own nm bytes ml ret R n0 Q k n h q L S) (K2 : y.toInt < x.toInt → oGo Z own nm bytes ml ret R n0 Q k n h r L S) : oGo Z own nm bytes ml ret R n0 Q k n h pc L (.long y :: .long x :: S) := by
  refine oGo.lcmp hd h1 (oGo.if_le hd2 hq hr (fun hc => ?_) (fun hc => ?_))
  · rcases own_ele x y with u | u
    · exact K1 u
    · have := own_lle.2 u; first | exact absurd hc this | exact absurd this hc | omega
  · rcases own_ele x y with u | u
    · have := own_lle.1 u; first | exact absurd hc this | exact absurd this hc | omega
    · exact K2 u
theorem own_heq {x y : Int32} : (x = y → if_icmp.holds .eq x y = true) ∧ (x ≠ y → if_icmp.holds .eq x y = false) :=
  ⟨fun hc => (teq hc).1, fun hc => (feq hc).1⟩
theorem own_deq (x y : Int32) : (x = y) ∨ (x ≠ y) := by exact Decidable.em _
theorem own_eeq (x y : Int64) : (x = y) ∨ (x ≠ y) := by exact Decidable.em _
theorem oGo.icmp_eq {o : Int} {x y : Int32} (hd : decode bytes pc = .ok (.if_icmp .eq o, 3)) (hq : (pc : Int) + o = (q : Int)) (hr : pc + 3 = r) (K1 : x = y → oGo Z own nm bytes ml ret R n0 Q k n h q L S) (K2 : x ≠ y → oGo Z own nm bytes ml ret R n0 Q k n h r L S) : oGo Z own nm bytes ml ret R n0 Q k n h pc L (.int y :: .int x :: S) := by
  rcases own_deq x y with hc | hc
  · exact oGo.st (fun p e m below c T hx hby hA t k => XS.icmpYes hA hx rfl (pc0 := pc) (pc' := q) rfl (hb hby hd) rfl (own_heq.1 hc) (by omega) (by omega) k) (K1 hc)
  · subst hr; exact oGo.st (fun p e m below c T hx hby hA t k => XS.icmpNo hA hx rfl (hb hby hd) rfl (own_heq.2 hc) k) (K2 hc)
theorem oGo.if_eq {o : Int} {x : Int32} (hd : decode bytes pc = .ok (.ifCond .eq o, 3)) (hq : (pc : Int) + o = (q : Int)) (hr : pc + 3 = r) (K1 : x = 0 → oGo Z own nm bytes ml ret R n0 Q k n h q L S) (K2 : x ≠ 0 → oGo Z own nm bytes ml ret R n0 Q k n h r L S) : oGo Z own nm bytes ml ret R n0 Q k n h pc L (.int x :: S) := by
  rcases own_deq x 0 with hc | hc
  · exact oGo.st (fun p e m below c T hx hby hA t k => XS.ifYes hA hx rfl (pc0 := pc) (pc' := q) rfl (hb hby hd) rfl ((if0 _ _).trans (own_heq.1 hc)) (by omega) (by omega) k) (K1 hc)
  · subst hr; exact oGo.st (fun p e m below c T hx hby hA t k => XS.ifNo hA hx rfl (hb hby hd) rfl ((if0 _ _).trans (own_heq.2 hc)) k) (K2 hc)
theorem own_leq {x y : Int64} : (x = y → lcmpW x y = 0) ∧ (x ≠ y → lcmpW x y ≠ 0) := by
  obtain ⟨h1, h2, h3⟩ := c_lcmp x y
  refine ⟨fun hc => ?_, fun hc => ?_⟩ <;> (first | exact (lw_eq x y).mpr hc | exact fun z => hc ((lw_eq x y).mp z))
theorem oGo.lif_eq {o : Int} {x y : Int64} {pc2 : Nat} (hd : decode bytes pc = .ok (.lcmp, 1)) (h1 : pc + 1 = pc2) (hd2 : decode bytes pc2 = .ok (.ifCond .eq o, 3)) (hq : (pc2 : Int) + o = (q : Int)) (hr : pc2 + 3 = r) (K1 : x = y → oGo Z own nm bytes ml ret R n0 Q k n h q L S) (K2 : x ≠ y → oGo Z own nm bytes ml ret R n0 Q k n h r L S) : oGo Z own nm bytes ml ret R n0 Q k n h pc L (.long y :: .long x :: S) := by
  refine oGo.lcmp hd h1 (oGo.if_eq hd2 hq hr (fun hc => ?_) (fun hc => ?_))
  · rcases own_eeq x y with u | u
    · exact K1 u
    · have := own_leq.2 u; first | exact absurd hc this | exact absurd this hc | omega
  · rcases own_eeq x y with u | u
    · have := own_leq.1 u; first | exact absurd hc this | exact absurd this hc | omega
    · exact K2 u
theorem own_hne {x y : Int32} : (x ≠ y → if_icmp.holds .ne x y = true) ∧ (x = y → if_icmp.holds .ne x y = false) :=
  ⟨fun hc => (feq hc).2, fun hc => (teq hc).2⟩
theorem own_dne (x y : Int32) : (x ≠ y) ∨ (x = y) := by exact (Decidable.em _).symm
theorem own_ene (x y : Int64) : (x ≠ y) ∨ (x = y) := by exact (Decidable.em _).symm
theorem oGo.icmp_ne {o : Int} {x y : Int32} (hd : decode bytes pc = .ok (.if_icmp .ne o, 3)) (hq : (pc : Int) + o = (q : Int)) (hr : pc + 3 = r) (K1 : x ≠ y → oGo Z own nm bytes ml ret R n0 Q k n h q L S) (K2 : x = y → oGo Z own nm bytes ml ret R n0 Q k n h r L S) : oGo Z own nm bytes ml ret R n0 Q k n h pc L (.int y :: .int x :: S) := by
  rcases own_dne x y with hc | hc
  · exact oGo.st (fun p e m below c T hx hby hA t k => XS.icmpYes hA hx rfl (pc0 := pc) (pc' := q) rfl (hb hby hd) rfl (own_hne.1 hc) (by omega) (by omega) k) (K1 hc)
  · subst hr; exact oGo.st (fun p e m below c T hx hby hA t k => XS.icmpNo hA hx rfl (hb hby hd) rfl (own_hne.2 hc) k) (K2 hc)
theorem oGo.if_ne {o : Int} {x : Int32} (hd : decode bytes pc = .ok (.ifCond .ne o, 3)) (hq : (pc : Int) + o = (q : Int)) (hr : pc + 3 = r) (K1 : x ≠ 0 → oGo Z own nm bytes ml ret R n0 Q k n h q L S) (K2 : x = 0 → oGo Z own nm bytes ml ret R n0 Q k n h r L S) : oGo Z own nm bytes ml ret R n0 Q k n h pc L (.int x :: S) := by
  rcases own_dne x 0 with hc | hc
  · exact oGo.st (fun p e m below c T hx hby hA t k => XS.ifYes hA hx rfl (pc0 := pc) (pc' := q) rfl (hb hby hd) rfl ((if0 _ _).trans (own_hne.1 hc)) (by omega) (by omega) k) (K1 hc)
  · subst hr; exact oGo.st (fun p e m below c T hx hby hA t k => XS.ifNo hA hx rfl (hb hby hd) rfl ((if0 _ _).trans (own_hne.2 hc)) k) (K2 hc)
theorem own_lne {x y : Int64} : (x ≠ y → lcmpW x y ≠ 0) ∧ (x = y → lcmpW x y = 0) := by
  obtain ⟨h1, h2, h3⟩ := c_lcmp x y
  refine ⟨fun hc => ?_, fun hc => ?_⟩ <;> (first | exact (lw_eq x y).mpr hc | exact fun z => hc ((lw_eq x y).mp z))
theorem oGo.lif_ne {o : Int} {x y : Int64} {pc2 : Nat} (hd : decode bytes pc = .ok (.lcmp, 1)) (h1 : pc + 1 = pc2) (hd2 : decode bytes pc2 = .ok (.ifCond .ne o, 3)) (hq : (pc2 : Int) + o = (q : Int)) (hr : pc2 + 3 = r) (K1 : x ≠ y → oGo Z own nm bytes ml ret R n0 Q k n h q L S) (K2 : x = y → oGo Z own nm bytes ml ret R n0 Q k n h r L S) : oGo Z own nm bytes ml ret R n0 Q k n h pc L (.long y :: .long x :: S) := by
  refine oGo.lcmp hd h1 (oGo.if_ne hd2 hq hr (fun hc => ?_) (fun hc => ?_))
  · rcases own_ene x y with u | u
    · exact K1 u
    · have := own_lne.2 u; first | exact absurd hc this | exact absurd this hc | omega
  · rcases own_ene x y with u | u
    · have := own_lne.1 u; first | exact absurd hc this | exact absurd this hc | omega
    · exact K2 u
theorem oGo.ldc2 {i : Nat} {v : Int64} (hd : decode bytes pc = .ok (.ldc2_w i, 3)) (hq : pc + 3 = q) (w : (Cond.constantLong own i v).before a0 Z = true) (K : oGo Z own nm bytes ml ret R n0 Q k n h q L (.long v :: S)) : oGo Z own nm bytes ml ret R n0 Q k n h pc L S :=
  fun p l e s m args below meth c T locs C X eT N => by
    obtain ⟨hx, hZ, hby, hml, hown, hret, hlk, hnm⟩ := C
    subst hq
    obtain ⟨s₂, o, h1, r⟩ := K p l e s m args below meth c T locs ⟨hx, hZ, hby, hml, hown, hret, hlk, hnm⟩ X eT N
    exact ⟨s₂, o, X.ldc2Long hx hown (mvT hZ w) (g := mkF m pc L S) rfl (hb hby hd) _ h1, r⟩
theorem oGo.ldcI {i : Nat} {v : Int32} (hd : decode bytes pc = .ok (.ldc i, 2)) (hq : pc + 2 = q) (w : (Cond.constant own i v).before a0 Z = true) (K : oGo Z own nm bytes ml ret R n0 Q k n h q L (.int v :: S)) : oGo Z own nm bytes ml ret R n0 Q k n h pc L S :=
  fun p l e s m args below meth c T locs C X eT N => by
    obtain ⟨hx, hZ, hby, hml, hown, hret, hlk, hnm⟩ := C
    subst hq
    obtain ⟨s₂, o, h1, r⟩ := K p l e s m args below meth c T locs ⟨hx, hZ, hby, hml, hown, hret, hlk, hnm⟩ X eT N
    exact ⟨s₂, o, X.ldcInt hx hown (mvT hZ w) (g := mkF m pc L S) rfl (hb hby hd) _ h1, r⟩
/-! the returns -/
theorem own_end {p : Program} {l : Launch} {e : Env} {s : State} {m : MethodId} {args : Array Value} {below : List Frame} {meth : Method} {c : Code} {T : State} {locs : List Loc} (X : Stand p l e R s m args below meth c T locs k n) (hlk : meth.locks = false) {v : Option Value} (hv : meth.sig.returnType = none → v = none) (hk : k ≤ R.cells) (hn : n ≤ R.slots) (N : Fr n0 locs) (hQ : Q v T.heap) {g : JFrame}
    (H : ∀ fs, (∀ (f : JFrame) (acts : List Action), f.method = m → f.locked = none → f.entered = [] → (doReturn e (T.setTop f) acts v).1 = T.setFrames fs) → Steps p.tables e below (T.setTop g) (T.setFrames fs)) :
    ∃ s₂ o, Steps p.tables e below (T.setTop g) s₂ ∧ s₂.status = .running ∧ Ended s₂ below o ∧ ∃ v L', o = .returned v ∧ (Q v s₂.heap ∧ Fr n0 L') ∧ FrameEnd s o s₂ L' R.cells R.slots := by
  obtain ⟨fs, hr, hrun, hended, hW, hsame⟩ := X.leave hv hlk
  exact ⟨_, _, H fs hr, hrun, hended, _, _, rfl, ⟨hQ, N⟩, ⟨_, rfl⟩, hW, hsame.mono hk hn⟩
theorem oGo.retI {z : Int32} (hd : decode bytes pc = .ok (.ireturn, 1)) (hret : ret = some .int) (hk : k ≤ R.cells) (hn : n ≤ R.slots) (hQ : Q (some (.int z)) h) : oGo Z own nm bytes ml ret R n0 Q k n h pc L (.int z :: S) :=
  fun p l e s m args below meth c T locs C X eT N => by
    obtain ⟨hx, hZ, hby, hml, hown, hrt, hlk, hnm⟩ := C
    subst eT
    exact own_end X hlk (fun u => by rw [hrt, hret] at u; cases u) hk hn N hQ fun fs hr => retOut X hx (hrt.trans hret) rfl (Or.inl ⟨rfl, Or.inl rfl, z, rfl⟩) (hb hby hd) hr
theorem oGo.retN {z : Int32} {t : FieldType} (hd : decode bytes pc = .ok (.ireturn, 1)) (hret : ret = some t) (ht : t = .boolean ∨ t = .byte ∨ t = .char ∨ t = .short) (hk : k ≤ R.cells) (hn : n ≤ R.slots) (hQ : Q (some (.int (nar t z))) h) : oGo Z own nm bytes ml ret R n0 Q k n h pc L (.int z :: S) :=
  fun p l e s m args below meth c T locs C X eT N => by
    obtain ⟨hx, hZ, hby, hml, hown, hrt, hlk, hnm⟩ := C
    subst eT
    exact own_end X hlk (fun u => by rw [hrt, hret] at u; cases u) hk hn N hQ fun fs hr => Jvm.RoadKit.retN X hx (hrt.trans hret) ht (hb hby hd) hr
theorem oGo.retJ {z : Int64} (hd : decode bytes pc = .ok (.lreturn, 1)) (hret : ret = some .long) (hk : k ≤ R.cells) (hn : n ≤ R.slots) (hQ : Q (some (.long z)) h) : oGo Z own nm bytes ml ret R n0 Q k n h pc L (.long z :: S) :=
  fun p l e s m args below meth c T locs C X eT N => by
    obtain ⟨hx, hZ, hby, hml, hown, hrt, hlk, hnm⟩ := C
    subst eT
    exact own_end X hlk (fun u => by rw [hrt, hret] at u; cases u) hk hn N hQ fun fs hr => retOut X hx (hrt.trans hret) rfl (Or.inr (Or.inl ⟨rfl, rfl, z, rfl⟩)) (hb hby hd) hr
theorem oGo.retA {v : Value} {t : FieldType} (hd : decode bytes pc = .ok (.areturn, 1)) (hret : ret = some t) (ht : t.isReference = true) (hv : v.isRef = true) (hk : k ≤ R.cells) (hn : n ≤ R.slots) (hQ : Q (some v) h) : oGo Z own nm bytes ml ret R n0 Q k n h pc L (v :: S) :=
  fun p l e s m args below meth c T locs C X eT N => by
    obtain ⟨hx, hZ, hby, hml, hown, hrt, hlk, hnm⟩ := C
    subst eT
    exact own_end X hlk (fun u => by rw [hrt, hret] at u; cases u) hk hn N hQ fun fs hr => retOut X hx (hrt.trans hret) (by cases t <;> first | (cases ht; done) | rfl) (Or.inr (Or.inr (Or.inr (Or.inr ⟨rfl, ht, hv⟩)))) (hb hby hd) hr
theorem oGo.retV (hd : decode bytes pc = .ok (.return_, 1)) (hret : ret = none) (hk : k ≤ R.cells) (hn : n ≤ R.slots) (hQ : Q none h) : oGo Z own nm bytes ml ret R n0 Q k n h pc L [] :=
  fun p l e s m args below meth c T locs C X eT N => by
    obtain ⟨hx, hZ, hby, hml, hown, hrt, hlk, hnm⟩ := C
    subst eT
    exact own_end X hlk (fun _ => rfl) hk hn N hQ fun fs hr => X.returnOut hx (hrt.trans hret) (hb hby hd) hr
/-! calls by contract -/
theorem oGo.callS {y : MethodName} {i W : Nat} {bytes' : ByteArray} {ml' : Nat} {ret' : Option FieldType} {rm : Room} {as : Array Value} {Q' : Option Value → Heap → Prop} {ps : List FieldType} {rt : Option FieldType} (argsL rest : List Value) (hd : decode bytes pc = .ok (.invokestatic i, 3)) (hq : pc + 3 = q)
    (w1 : (Cond.methodLink own i y).before a0 Z = true) (w2 : (Cond.static y).before a0 Z = true) (w3 : (Cond.initialized y.cls).before a0 Z = true) (w4 : (Cond.code y bytes' ml' ret').before a0 Z = true) (hy : y.cls ≠ "java/lang/invoke/MethodHandle" ∧ y.cls ≠ "java/lang/invoke/VarHandle")
    (hC : oCon Z y bytes' ml' ret' rm as h n0 Q') (hS : S = argsL.reverse ++ rest) (has : argsL.toArray = as) (hpd : parseMethodDescriptor y.desc = some ⟨ps, rt⟩) (hlen : argsL.length = ps.length) (hL : L.size = ml) (hW : 2 * 0 + (rest.map fun v => v.category).sum ≤ W) (hf : rm.frames + 1 ≤ R.frames) (hl : W + (ml' + 11) + rm.locals ≤ R.locals) (hc : k + rm.cells ≤ R.cells) (hs : n + rm.slots ≤ R.slots)
    (K : ∀ v h', Q' v h' → oGo Z own nm bytes ml ret R n0 Q (k + rm.cells) (n + rm.slots) h' q L (v.toList ++ rest)) : oGo Z own nm bytes ml ret R n0 Q k n h pc L S :=
  fun p l e s m args below meth c T locs C X eT N => by
    obtain ⟨hx, hZ, hby, hml, hown, hrt, hlk, hnm⟩ := C
    subst hq
    obtain ⟨v, _, ⟨T', L2, k2, n2⟩, -, X', ⟨Lc, hQ', l', y', z'⟩, st⟩ := Jvm.LawKit.callS X hx (y := y) hown (mvT hZ w1) (mvT hZ w2) (mvT hZ w3) (mvT hZ w4) hy (backOf (W := W) (Q := fun v h' L => Q' v h' ∧ Fr n0 L) (hC l []) hZ w4 w3 hf hl) (g := mkF m pc L S) rfl (by rw [hml]; exact hL) (argsL := argsL) (rest := rest) (lenOf hpd hlen) hS hW (hb hby hd) (fun _ _ => ⟨has, eT, hc, hs⟩)
    dsimp only [Pt.U, Pt.locs, Pt.cells, Pt.slots] at X' l' y' z' st hQ'
    subst l' y' z'
    obtain ⟨s₂, o, h1, r⟩ := K v T'.heap hQ'.1 p l e s m args below meth c T' _ ⟨hx, hZ, hby, hml, hown, hrt, hlk, hnm⟩ X' rfl (Fr.app N hQ'.2)
    exact ⟨s₂, o, st _ h1, r⟩
theorem oGo.callI {y : MethodName} {i W : Nat} {bytes' : ByteArray} {ml' : Nat} {rm : Room} {as : Array Value} {Q' : Option Value → Heap → Prop} {ps : List FieldType} {rt : Option FieldType} {a : Addr} (argsL rest : List Value) (hd : decode bytes pc = .ok (.invokespecial i, 3)) (hq : pc + 3 = q) (hy1 : y.name = "<init>")
    (w1 : (Cond.methodLink own i y).before a0 Z = true) (w2 : (Cond.instanceMethod y).before a0 Z = true) (w3 : (Cond.initialized y.cls).before a0 Z = true) (w4 : (Cond.code y bytes' ml' none).before a0 Z = true) (hy : y.cls ≠ "java/lang/invoke/MethodHandle" ∧ y.cls ≠ "java/lang/invoke/VarHandle")
    (hC : oCon Z y bytes' ml' none rm as h n0 Q') (hS : S = argsL.reverse ++ .ref a :: rest) (has : (.ref a :: argsL).toArray = as) (hpd : parseMethodDescriptor y.desc = some ⟨ps, rt⟩) (hlen : argsL.length = ps.length) (hL : L.size = ml) (hW : 2 * 0 + (rest.map fun v => v.category).sum ≤ W) (hf : rm.frames + 1 ≤ R.frames) (hl : W + (ml' + 11) + rm.locals ≤ R.locals) (hc : k + rm.cells ≤ R.cells) (hs : n + rm.slots ≤ R.slots)
    (K : ∀ v h', Q' v h' → oGo Z own nm bytes ml ret R n0 Q (k + rm.cells) (n + rm.slots) h' q L (v.toList ++ rest)) : oGo Z own nm bytes ml ret R n0 Q k n h pc L S :=
  fun p l e s m args below meth c T locs C X eT N => by
    obtain ⟨hx, hZ, hby, hml, hown, hrt, hlk, hnm⟩ := C
    subst hq
    obtain ⟨v, _, ⟨T', L2, k2, n2⟩, -, X', ⟨Lc, hQ', l', y', z'⟩, st⟩ := X.specialBack hx (y := y) hy1 hown (mvT hZ w1) (mvT hZ w2) (mvT hZ w4) hy (backOf (W := W) (Q := fun v h' L => Q' v h' ∧ Fr n0 L) (hC l []) hZ w4 w3 hf hl) (g := mkF m pc L S) rfl (by rw [hml]; exact hL) (Steps.refl _) (a := a) (argsL := argsL) (rest := rest) (lenOf hpd hlen) hS hW (hb hby hd) (fun _ _ => ⟨has, eT, hc, hs⟩)
    dsimp only [Pt.U, Pt.locs, Pt.cells, Pt.slots] at X' l' y' z' st hQ'
    subst l' y' z'
    obtain ⟨s₂, o, h1, r⟩ := K v T'.heap hQ'.1 p l e s m args below meth c T' _ ⟨hx, hZ, hby, hml, hown, hrt, hlk, hnm⟩ X' rfl (Fr.app N hQ'.2)
    exact ⟨s₂, o, st.trans h1, r⟩
theorem oGo.callV {y z : MethodName} {C : String} {i W : Nat} {bytes' : ByteArray} {ml' : Nat} {ret' : Option FieldType} {rm : Room} {as : Array Value} {Q' : Option Value → Heap → Prop} {ps : List FieldType} {rt : Option FieldType} {a : Addr} (argsL rest : List Value) (hd : decode bytes pc = .ok (.invokevirtual i, 3)) (hq : pc + 3 = q)
    (w1 : (Cond.methodLink own i y).before a0 Z = true) (w2 : (Cond.declares y).before a0 Z = true) (w5 : (Cond.selects C y z).before a0 Z = true) (w6 : (Cond.instanceMethod z).before a0 Z = true) (w3 : (Cond.initialized z.cls).before a0 Z = true) (w4 : (Cond.code z bytes' ml' ret').before a0 Z = true) (hyz : y = z) (hy : y.cls ≠ "java/lang/invoke/MethodHandle" ∧ y.cls ≠ "java/lang/invoke/VarHandle") (E : Exa Z h a C)
    (hC : oCon Z z bytes' ml' ret' rm as h n0 Q') (hS : S = argsL.reverse ++ .ref a :: rest) (has : (.ref a :: argsL).toArray = as) (hpd : parseMethodDescriptor y.desc = some ⟨ps, rt⟩) (hlen : argsL.length = ps.length) (hL : L.size = ml) (hW : 2 * 0 + (rest.map fun v => v.category).sum ≤ W) (hf : rm.frames + 1 ≤ R.frames) (hl : W + (ml' + 11) + rm.locals ≤ R.locals) (hc : k + rm.cells ≤ R.cells) (hs : n + rm.slots ≤ R.slots)
    (K : ∀ v h', Q' v h' → oGo Z own nm bytes ml ret R n0 Q (k + rm.cells) (n + rm.slots) h' q L (v.toList ++ rest)) : oGo Z own nm bytes ml ret R n0 Q k n h pc L S :=
  fun p l e s m args below meth c T locs Cx X eT N => by
    obtain ⟨hx, hZ, hby, hml, hown, hrt, hlk, hnm⟩ := Cx
    subst hq hyz
    obtain ⟨cq, kq, qa, qb, qc⟩ := isOf (T := T) hZ eT E
    obtain ⟨v, _, ⟨T', L2, k2, n2⟩, -, X', ⟨Lc, hQ', l', y', z'⟩, st⟩ := X.virtualBack hx (y := y) (z := y) hown (mvT hZ w1) (mvT hZ w2) (notFace_of_selects (args := #[]) (mvT hZ w5)) (mvT hZ w5) (mvT hZ w6) hy (backOf (W := W) (Q := fun v h' L => Q' v h' ∧ Fr n0 L) (hC l []) hZ w4 w3 hf hl) qa qc (g := mkF m pc L S) rfl (by rw [hml]; exact hL) (Steps.refl _) (argsL := argsL) (rest := rest) (lenOf hpd hlen) hS hW (hb hby hd) (fun _ _ => ⟨has, eT, hc, hs⟩)
    dsimp only [Pt.U, Pt.locs, Pt.cells, Pt.slots] at X' l' y' z' st hQ'
    subst l' y' z'
    obtain ⟨s₂, o, h1, r⟩ := K v T'.heap hQ'.1 p l e s m args below meth c T' _ ⟨hx, hZ, hby, hml, hown, hrt, hlk, hnm⟩ X' rfl (Fr.app N hQ'.2)
    exact ⟨s₂, o, st.trans h1, r⟩
theorem oGo.initO {i W : Nat} {a : Addr} (hd : decode bytes pc = .ok (.invokespecial i, 3)) (hq : pc + 3 = q) (w1 : (Cond.methodLink own i Lib.objectInit).before a0 Z = true) (w2 : (Cond.instanceMethod Lib.objectInit).before a0 Z = true) (w3 : (Cond.code Lib.objectInit ⟨#[0xb1]⟩ 1 none).before a0 Z = true) (hL : L.size = ml) (hf : 1 ≤ R.frames) (hW : 2 * 0 + (S.map fun v => v.category).sum ≤ W) (hl : W + 12 ≤ R.locals) (K : oGo Z own nm bytes ml ret R n0 Q k n h q L S) : oGo Z own nm bytes ml ret R n0 Q k n h pc L (.ref a :: S) :=
  fun p l e s m args below meth c T locs C X eT N => by
    obtain ⟨hx, hZ, hby, hml, hown, hrt, hlk, hnm⟩ := C
    subst hq
    obtain ⟨T', X', e', st⟩ := Jvm.RoadKit.initO X hx hZ hown w1 w2 w3 eT (g := mkF m pc L (.ref a :: S)) rfl (by rw [hml]; exact hL) rfl (hb hby hd) hf hW hl
    obtain ⟨s₂, o, h1, r⟩ := K p l e s m args below meth c T' locs ⟨hx, hZ, hby, hml, hown, hrt, hlk, hnm⟩ X' e' N
    exact ⟨s₂, o, st _ h1, r⟩
/-! objects -/
theorem own_keep {h h' : Heap} (E : Ext h h') : Keep h h' [] := (Keep.refl h []).ext E
theorem oGo.newO {C : String} {i nn : Nat} (hd : decode bytes pc = .ok (.new i, 3)) (hq : pc + 3 = q) (w : (Cond.classLink own i C).before a0 Z = true) (wi : (Cond.instantiable C nn).before a0 Z = true) (wz : (Cond.initialized C).before a0 Z = true) (hc : k + 1 ≤ R.cells) (hs : n + nn ≤ R.slots)
    (K : ∀ h' a, a = h.size → Keep h h' [] → Exa Z h' a C → (∀ {O f d : String} {ty : FieldType}, Laid Z a0 C O f d → parseFieldDescriptor d = some ty → Fld Z h' a O f d (defaultValue ty)) → oGo Z own nm bytes ml ret R n0 Q (k + 1) (n + nn) h' q L (.ref a :: S)) : oGo Z own nm bytes ml ret R n0 Q k n h pc L S :=
  fun p l e s m args below meth c T locs Cx X eT N => by
    obtain ⟨hx, hZ, hby, hml, hown, hrt, hlk, hnm⟩ := Cx
    subst hq
    obtain ⟨T', h', X', e', E, A, D, -, st⟩ := Jvm.RoadKit.newO X hx hZ hown w wi wz eT (g := mkF m pc L S) rfl (hb hby hd) hc hs
    obtain ⟨s₂, o, h1, r⟩ := K h' h.size rfl (own_keep E) A D p l e s m args below meth c T' locs ⟨hx, hZ, hby, hml, hown, hrt, hlk, hnm⟩ X' e' N
    exact ⟨s₂, o, st _ h1, r⟩
theorem oGo.getF {R0 O f d host : String} {i : Nat} {a : Addr} {v : Value} (hd : decode bytes pc = .ok (.getfield i, 3)) (hq : pc + 3 = q) (w : (Cond.fieldLink own i R0 f d).before a0 Z = true ∨ (Cond.fieldLinkNest own i R0 f d host).before a0 Z = true) (via : Via Z R0 O f d) (F : Fld Z h a O f d v) (K : oGo Z own nm bytes ml ret R n0 Q k n h q L (v :: S)) : oGo Z own nm bytes ml ret R n0 Q k n h pc L (.ref a :: S) :=
  fun p l e s m args below meth c T locs C X eT N => by
    obtain ⟨hx, hZ, hby, hml, hown, hrt, hlk, hnm⟩ := C
    subst hq
    obtain ⟨T', X', e', st⟩ := Jvm.RoadKit.getF X hx hZ hown w via eT F (g := mkF m pc L (.ref a :: S)) rfl rfl (hb hby hd)
    obtain ⟨s₂, o, h1, r⟩ := K p l e s m args below meth c T' locs ⟨hx, hZ, hby, hml, hown, hrt, hlk, hnm⟩ X' e' N
    exact ⟨s₂, o, st _ h1, r⟩
theorem oGo.getS {R0 O f d : String} {i : Nat} {v : Value} (hd : decode bytes pc = .ok (.getstatic i, 3)) (hq : pc + 3 = q) (w : (Cond.fieldLink own i R0 f d).before a0 Z = true) (via : Via Z R0 O f d) (F : Sta Z h O f d v) (K : oGo Z own nm bytes ml ret R n0 Q k n h q L (v :: S)) : oGo Z own nm bytes ml ret R n0 Q k n h pc L S :=
  fun p l e s m args below meth c T locs C X eT N => by
    obtain ⟨hx, hZ, hby, hml, hown, hrt, hlk, hnm⟩ := C
    subst hq
    obtain ⟨T', X', e', st⟩ := Jvm.RoadKit.getS (host := "") X hx hZ hown w via eT F (g := mkF m pc L S) rfl (hb hby hd)
    obtain ⟨s₂, o, h1, r⟩ := K p l e s m args below meth c T' locs ⟨hx, hZ, hby, hml, hown, hrt, hlk, hnm⟩ X' e' N
    exact ⟨s₂, o, st _ h1, r⟩
theorem oGo.putF {R0 O f d host C : String} {i kk : Nat} {ty : FieldType} {a : Addr} {v w0 : Value} (hd : decode bytes pc = .ok (.putfield i, 3)) (hq : pc + 3 = q) (w : (Cond.fieldLink own i R0 f d).before a0 Z = true ∨ (Cond.fieldLinkNest own i R0 f d host).before a0 Z = true) (via : Via Z R0 O f d) (F : Fld Z h a O f d w0) (E : Exa Z h a C)
    (Lw : (Cond.lays C O f d).before a0 Z = true ∨ ((Cond.laysFinal C O f d).before a0 Z = true ∧ own = O ∧ nm = "<init>")) (wi : (Cond.instantiable C kk).before a0 Z = true) (hty : parseFieldDescriptor d = some ty) (hn : narrow ty v = v) (hf : fits ty v = true) (ha : n0 ≤ a)
    (K : ∀ h', Keep h h' [a] → Exa Z h' a C → Fld Z h' a O f d v → (∀ {O' f' d' : String} {u : Value}, Jvm.RoadKit.slotOf Z O' f' d' ≠ Jvm.RoadKit.slotOf Z O f d → Fld Z h a O' f' d' u → Fld Z h' a O' f' d' u) → oGo Z own nm bytes ml ret R n0 Q k n h' q L S) : oGo Z own nm bytes ml ret R n0 Q k n h pc L (v :: .ref a :: S) :=
  fun p l e s m args below meth c T locs Cx X eT N => by
    obtain ⟨hx, hZ, hby, hml, hown, hrt, hlk, hnm⟩ := Cx
    subst hq
    obtain ⟨T', h', X', e', W, st⟩ := Jvm.RoadKit.putF X hx hZ hown w via eT F E (Lw.imp id fun u => ⟨u.1, u.2.1, hnm.trans u.2.2⟩) wi hty hn hf (g := mkF m pc L (v :: .ref a :: S)) rfl rfl (hb hby hd)
    obtain ⟨s₂, o, h1, r⟩ := K h' (Keep.of_wr W) (E.wr W) (F.same W) (fun hne G => G.other W (Or.inr hne)) p l e s m args below meth c T' _ ⟨hx, hZ, hby, hml, hown, hrt, hlk, hnm⟩ X' e' (Fr.snoc X' N ha)
    exact ⟨s₂, o, st _ h1, r⟩
/-! arrays -/
def Ars (Z : State) (h : Heap) (a : Addr) (ty : FieldType) (vs : List Value) : Prop := ∃ c : Cell, Arr Z h a c ty ∧ c.slots.toList = vs ∧ ∀ v ∈ vs, fits ty v = true
theorem Ars.lt {a : Addr} {ty : FieldType} {vs : List Value} (A : Ars Z h a ty vs) : a < h.size := by obtain ⟨c, A, -⟩ := A; exact A.lt
theorem Ars.keep {h' : Heap} {ws : List Addr} {a : Addr} {ty : FieldType} {vs : List Value} (A : Ars Z h a ty vs) (K : Keep h h' ws) (q : a ∉ ws) : Ars Z h' a ty vs := by obtain ⟨c, A, r⟩ := A; exact ⟨c, ⟨K.2.1 a c A.1 q, A.2⟩, r⟩
theorem own_cn {j : Int32} {i : Nat} (hi : j.toInt = (i : Int)) : j.toNatClampNeg = i := by simp [Int32.toNatClampNeg, hi]
theorem own_in {j : Int32} {i : Nat} {c : Cell} {vs : List Value} (hi : j.toInt = (i : Int)) (hc : c.slots.toList = vs) (hl : i < vs.length) : ¬ (j < 0 ∨ c.slots.size ≤ j.toNatClampNeg) := by
  have e1 : c.slots.size = vs.length := by rw [← hc]; simp
  rw [own_cn hi, e1]
  rintro (u | u)
  · have := Int32.lt_iff_toInt_lt.mp u; have e0 : (0 : Int32).toInt = 0 := rfl; omega
  · omega
theorem own_at {j : Int32} {i : Nat} {c : Cell} {vs : List Value} {v : Value} (hi : j.toInt = (i : Int)) (hc : c.slots.toList = vs) (hv : vs[i]? = some v) : c.slots[j.toNatClampNeg]? = some v := by
  rw [own_cn hi, ← hv, ← hc]; simp
theorem Ars.wr {h' : Heap} {a : Addr} {ty : FieldType} {vs : List Value} {c : Cell} {i : Nat} {v : Value} {j : Int32} (hi : j.toInt = (i : Int)) (A : Arr Z h a c ty) (hc : c.slots.toList = vs) (hf : ∀ v ∈ vs, fits ty v = true) (hv : fits ty v = true) (W : Wr h h' a j.toNatClampNeg v) : Ars Z h' a ty (vs.set i v) := by
  refine ⟨_, A.same W, ?_, fun u hu => ?_⟩
  · rw [← hc, own_cn hi]; simp [Cell.setSlot]
  · rcases List.mem_or_eq_of_mem_set hu with u1 | u1
    · exact hf u u1
    · exact u1 ▸ hv
theorem oGo.newP {aty : ArrayType} {nn : Int32} {len : Nat} {ad : String} (cap : Nat) (hd : decode bytes pc = .ok (.newarray aty, 2)) (hq : pc + 2 = q) (w : (Cond.arrayClass (newarray.typeOf aty)).before a0 Z = true) (hn : nn.toInt = (len : Int)) (hcap : len ≤ cap) (hb8 : cap * 8 ≤ 536870912) (hc : k + 1 ≤ R.cells) (hs : n + cap ≤ R.slots) (had : "[" ++ (newarray.typeOf aty).toString = ad)
    (K : ∀ h' a, a = h.size → Keep h h' [] → Ars Z h' a (newarray.typeOf aty) (List.replicate len (defaultValue (newarray.typeOf aty))) → Exa Z h' a ad → oGo Z own nm bytes ml ret R n0 Q (k + 1) (n + cap) h' q L (.ref a :: S)) : oGo Z own nm bytes ml ret R n0 Q k n h pc L (.int nn :: S) :=
  fun p l e s m args below meth c T locs Cx X eT N => by
    obtain ⟨hx, hZ, hby, hml, hown, hrt, hlk, hnm⟩ := Cx
    subst hq
    have h0 : ¬ nn < 0 := fun u => by have := Int32.lt_iff_toInt_lt.mp u; have e0 : (0 : Int32).toInt = 0 := rfl; omega
    obtain ⟨T', h', cA, X', e', E, A, EA, st⟩ := Jvm.RoadKit.newPE X hx hZ w eT (g := mkF m pc L (.int nn :: S)) rfl (hb hby hd) rfl h0 (cap := cap) (by rw [own_cn hn]; exact hcap) hb8 hc hs had
    obtain ⟨s₂, o, h1, r⟩ := K h' h.size rfl (own_keep E) ⟨_, A, by simp [newA, own_cn hn], fun v hv => by rw [(List.mem_replicate.mp hv).2]; cases aty <;> rfl⟩ EA p l e s m args below meth c T' locs ⟨hx, hZ, hby, hml, hown, hrt, hlk, hnm⟩ X' e' N
    exact ⟨s₂, o, st _ h1, r⟩
theorem oGo.cast {i : Nat} {C : String} {a : Addr} (hd : decode bytes pc = .ok (.checkcast i, 3)) (hq : pc + 3 = q) (w : (Cond.classLink own i C).before a0 Z = true) (F : Ins Z h a C true) (K : oGo Z own nm bytes ml ret R n0 Q k n h q L (.ref a :: S)) : oGo Z own nm bytes ml ret R n0 Q k n h pc L (.ref a :: S) :=
  fun p l e s m args below meth c T locs Cx X eT N => by
    obtain ⟨hx, hZ, hby, hml, hown, hrt, hlk, hnm⟩ := Cx
    subst hq
    obtain ⟨T', X', e', st⟩ := Jvm.RoadKit.castY X hx hZ hown w eT F (g := mkF m pc L (.ref a :: S)) rfl rfl (hb hby hd)
    obtain ⟨s₂, o, h1, r⟩ := K p l e s m args below meth c T' locs ⟨hx, hZ, hby, hml, hown, hrt, hlk, hnm⟩ X' e' N
    exact ⟨s₂, o, st _ h1, r⟩
theorem oGo.arraylength {a : Addr} {ty : FieldType} {vs : List Value} {v : Int32} (hd : decode bytes pc = .ok (.arraylength, 1)) (hq : pc + 1 = q) (A : Ars Z h a ty vs) (hv : Int32.ofNat vs.length = v) (K : oGo Z own nm bytes ml ret R n0 Q k n h q L (.int v :: S)) : oGo Z own nm bytes ml ret R n0 Q k n h pc L (.ref a :: S) :=
  fun p l e s m args below meth c T locs Cx X eT N => by
    obtain ⟨hx, hZ, hby, hml, hown, hrt, hlk, hnm⟩ := Cx
    subst hq
    obtain ⟨cl, A, hc, -⟩ := A
    have e1 : cl.slots.size.toInt32 = v := by rw [← hv, ← hc, Array.length_toList]
    obtain ⟨s₂, o, h1, r⟩ := K p l e s m args below meth c T locs ⟨hx, hZ, hby, hml, hown, hrt, hlk, hnm⟩ X eT N
    exact ⟨s₂, o, X.arraylength hx (by rw [eT]; exact A.1) (State.isArrayOf_alike hZ.alike A.2.1) (g := mkF m pc L (.ref a :: S)) rfl rfl (hb hby hd) _ (by rw [e1]; exact h1), r⟩
theorem oGo.iaload {a : Addr} {j : Int32} {i : Nat} {vs : List Value} {v : Value} (hd : decode bytes pc = .ok (.iaload, 1)) (hq : pc + 1 = q) (A : Ars Z h a .int vs) (hi : j.toInt = (i : Int)) (hv : vs[i]? = some v) (K : oGo Z own nm bytes ml ret R n0 Q k n h q L (v :: S)) : oGo Z own nm bytes ml ret R n0 Q k n h pc L (.int j :: .ref a :: S) :=
  fun p l e s m args below meth c T locs Cx X eT N => by
    obtain ⟨hx, hZ, hby, hml, hown, hrt, hlk, hnm⟩ := Cx
    subst hq
    obtain ⟨cl, A, hc, -⟩ := A
    obtain ⟨s₂, o, h1, r⟩ := K p l e s m args below meth c T locs ⟨hx, hZ, hby, hml, hown, hrt, hlk, hnm⟩ X eT N
    exact ⟨s₂, o, X.iaload hx (by rw [eT]; exact A.1) (State.isArrayOf_alike hZ.alike A.2.1) A.2.2 (own_in hi hc (List.getElem?_eq_some_iff.mp hv).1) (own_at hi hc hv) (g := mkF m pc L (.int j :: .ref a :: S)) rfl rfl (hb hby hd) _ h1, r⟩
theorem oGo.laload {a : Addr} {j : Int32} {i : Nat} {vs : List Value} {v : Value} (hd : decode bytes pc = .ok (.laload, 1)) (hq : pc + 1 = q) (A : Ars Z h a .long vs) (hi : j.toInt = (i : Int)) (hv : vs[i]? = some v) (K : oGo Z own nm bytes ml ret R n0 Q k n h q L (v :: S)) : oGo Z own nm bytes ml ret R n0 Q k n h pc L (.int j :: .ref a :: S) :=
  fun p l e s m args below meth c T locs Cx X eT N => by
    obtain ⟨hx, hZ, hby, hml, hown, hrt, hlk, hnm⟩ := Cx
    subst hq
    obtain ⟨cl, A, hc, -⟩ := A
    obtain ⟨s₂, o, h1, r⟩ := K p l e s m args below meth c T locs ⟨hx, hZ, hby, hml, hown, hrt, hlk, hnm⟩ X eT N
    exact ⟨s₂, o, X.laload hx (by rw [eT]; exact A.1) (State.isArrayOf_alike hZ.alike A.2.1) A.2.2 (own_in hi hc (List.getElem?_eq_some_iff.mp hv).1) (own_at hi hc hv) (g := mkF m pc L (.int j :: .ref a :: S)) rfl rfl (hb hby hd) _ h1, r⟩
theorem oGo.baload {a : Addr} {j : Int32} {i : Nat} {vs : List Value} {v : Value} (hd : decode bytes pc = .ok (.baload, 1)) (hq : pc + 1 = q) (A : Ars Z h a .byte vs) (hi : j.toInt = (i : Int)) (hv : vs[i]? = some v) (K : oGo Z own nm bytes ml ret R n0 Q k n h q L (v :: S)) : oGo Z own nm bytes ml ret R n0 Q k n h pc L (.int j :: .ref a :: S) :=
  fun p l e s m args below meth c T locs Cx X eT N => by
    obtain ⟨hx, hZ, hby, hml, hown, hrt, hlk, hnm⟩ := Cx
    subst hq
    obtain ⟨cl, A, hc, -⟩ := A
    obtain ⟨s₂, o, h1, r⟩ := K p l e s m args below meth c T locs ⟨hx, hZ, hby, hml, hown, hrt, hlk, hnm⟩ X eT N
    exact ⟨s₂, o, X.baloadBytes hx (by rw [eT]; exact A.1) (State.isArrayOf_alike hZ.alike A.2.1) A.2.2 (own_in hi hc (List.getElem?_eq_some_iff.mp hv).1) (own_at hi hc hv) (g := mkF m pc L (.int j :: .ref a :: S)) rfl rfl (hb hby hd) _ h1, r⟩
theorem oGo.iastore {a : Addr} {j : Int32} {x : Int32} {i : Nat} {vs : List Value} (hd : decode bytes pc = .ok (.iastore, 1)) (hq : pc + 1 = q) (A : Ars Z h a .int vs) (hi : j.toInt = (i : Int)) (hl : i < vs.length) (ha : n0 ≤ a) (K : ∀ h', Keep h h' [a] → Ars Z h' a .int (vs.set i (.int x)) → oGo Z own nm bytes ml ret R n0 Q k n h' q L S) : oGo Z own nm bytes ml ret R n0 Q k n h pc L (.int x :: .int j :: .ref a :: S) :=
  fun p l e s m args below meth c T locs Cx X eT N => by
    obtain ⟨hx, hZ, hby, hml, hown, hrt, hlk, hnm⟩ := Cx
    subst hq
    obtain ⟨cl, A, hc, hf⟩ := A
    obtain ⟨T', h', X', e', W, st⟩ := Jvm.RoadKit.stI X hx hZ eT A (own_in hi hc hl) (g := mkF m pc L (.int x :: .int j :: .ref a :: S)) rfl rfl (hb hby hd)
    obtain ⟨s₂, o, h1, r⟩ := K h' (Keep.of_wr W) (Ars.wr hi A hc hf rfl W) p l e s m args below meth c T' _ ⟨hx, hZ, hby, hml, hown, hrt, hlk, hnm⟩ X' e' (Fr.snoc X' N ha)
    exact ⟨s₂, o, st _ h1, r⟩
theorem oGo.lastore {a : Addr} {j : Int32} {x : Int64} {i : Nat} {vs : List Value} (hd : decode bytes pc = .ok (.lastore, 1)) (hq : pc + 1 = q) (A : Ars Z h a .long vs) (hi : j.toInt = (i : Int)) (hl : i < vs.length) (ha : n0 ≤ a) (K : ∀ h', Keep h h' [a] → Ars Z h' a .long (vs.set i (.long x)) → oGo Z own nm bytes ml ret R n0 Q k n h' q L S) : oGo Z own nm bytes ml ret R n0 Q k n h pc L (.long x :: .int j :: .ref a :: S) :=
  fun p l e s m args below meth c T locs Cx X eT N => by
    obtain ⟨hx, hZ, hby, hml, hown, hrt, hlk, hnm⟩ := Cx
    subst hq
    obtain ⟨cl, A, hc, hf⟩ := A
    obtain ⟨T', h', X', e', W, st⟩ := Jvm.RoadKit.stJ X hx hZ eT A (own_in hi hc hl) (g := mkF m pc L (.long x :: .int j :: .ref a :: S)) rfl rfl (hb hby hd)
    obtain ⟨s₂, o, h1, r⟩ := K h' (Keep.of_wr W) (Ars.wr hi A hc hf rfl W) p l e s m args below meth c T' _ ⟨hx, hZ, hby, hml, hown, hrt, hlk, hnm⟩ X' e' (Fr.snoc X' N ha)
    exact ⟨s₂, o, st _ h1, r⟩
theorem oGo.bastore {a : Addr} {j x y : Int32} {i : Nat} {vs : List Value} (hd : decode bytes pc = .ok (.bastore, 1)) (hq : pc + 1 = q) (A : Ars Z h a .byte vs) (hi : j.toInt = (i : Int)) (hl : i < vs.length) (ha : n0 ≤ a) (hy : x.toInt8.toInt32 = y) (K : ∀ h', Keep h h' [a] → Ars Z h' a .byte (vs.set i (.int y)) → oGo Z own nm bytes ml ret R n0 Q k n h' q L S) : oGo Z own nm bytes ml ret R n0 Q k n h pc L (.int x :: .int j :: .ref a :: S) :=
  fun p l e s m args below meth c T locs Cx X eT N => by
    obtain ⟨hx, hZ, hby, hml, hown, hrt, hlk, hnm⟩ := Cx
    subst hq hy
    obtain ⟨cl, A, hc, hf⟩ := A
    obtain ⟨T', h', X', e', W, st⟩ := Jvm.RoadKit.stB X hx hZ eT A (own_in hi hc hl) (g := mkF m pc L (.int x :: .int j :: .ref a :: S)) rfl rfl (hb hby hd)
    obtain ⟨s₂, o, h1, r⟩ := K h' (Keep.of_wr W) (Ars.wr hi A hc hf (fits_nar_byte x) W) p l e s m args below meth c T' _ ⟨hx, hZ, hby, hml, hown, hrt, hlk, hnm⟩ X' e' (Fr.snoc X' N ha)
    exact ⟨s₂, o, st _ h1, r⟩
/-! small numbers -/
theorem own_oi {i : Nat} (hi : i < 2147483648) : (Int32.ofNat i).toInt = (i : Int) := Int32.toInt_ofNat_of_lt (by omega)
theorem own_oinc (i : Nat) : Int32.ofNat i + Int32.ofInt 1 = Int32.ofNat (i + 1) := (Int32.ofNat_add i 1).symm
theorem own_oadd {i m : Nat} {c : Int32} (hc : c = Int32.ofNat m) : Int32.ofNat i + c = Int32.ofNat (i + m) := by rw [hc]; exact (Int32.ofNat_add i m).symm
theorem own_oiadd {i m : Nat} {c : Int32} (hc : c = Int32.ofNat m) (h : i + m < 2147483648) : (Int32.ofNat i + c).toInt = ((i + m : Nat) : Int) := by rw [own_oadd hc]; exact own_oi h
theorem own_pred {i : Nat} (hi : i < 2147483647) : (Int32.ofNat (i + 1) - (1 : Int32)).toInt = (i : Int) := by
  have a := c_isub (Int32.ofNat (i + 1)) 1
  have e := own_oi (i := i + 1) (by omega)
  have z : (1 : Int32).toInt = 1 := by decide
  have r := rng32 (Int32.ofNat (i + 1) - 1)
  omega
theorem own_bb (x : Int32) : x.toInt8.toInt32.toInt8.toInt32 = x.toInt8.toInt32 := by
  apply Int32.toInt_inj.mp
  have h1 := c_i2b x
  have h2 := c_i2b x.toInt8.toInt32
  omega
def own_ints (vs : List Value) (n : Nat) : Prop := vs.length = n ∧ ∀ k, k < n → ∃ x : Int32, vs[k]? = some (.int x)
theorem own_ints.set {vs : List Value} {n i : Nat} {x : Int32} (u : own_ints vs n) : own_ints (vs.set i (.int x)) n := by
  refine ⟨by rw [List.length_set]; exact u.1, fun k hk => ?_⟩
  by_cases e : i = k
  · subst e; exact ⟨x, List.getElem?_set_self (by rw [u.1]; exact hk)⟩
  · rw [List.getElem?_set_ne e]; exact u.2 k hk
theorem own_irem (x y : Int32) (hx : 0 ≤ x.toInt) : (x % y).toInt = x.toInt % y.toInt := by rw [Int32.toInt_mod]; exact (tr _ _).1 hx
theorem own_lrem (x y : Int64) (hx : 0 ≤ x.toInt) : (x % y).toInt = x.toInt % y.toInt := by rw [Int64.toInt_mod]; exact (tr _ _).1 hx
theorem own_int32 {x y : Int32} (e : x.toInt = y.toInt) : x = y := Int32.toInt_inj.mp e
theorem own_int64 {x y : Int64} (e : x.toInt = y.toInt) : x = y := Int64.toInt_inj.mp e
theorem own_nat {x : Int32} {i : Nat} (e : x.toInt = (i : Int)) (hi : i < 2147483648) : x = Int32.ofNat i := own_int32 (e.trans (own_oi hi).symm)
/-! System.arraycopy -/
theorem Ars.arv {a : Addr} {ty : FieldType} {vs : List Value} (dv : Value) (A : Ars Z h a ty vs) (hl : vs.length < 2147483648) : ∃ k, Arv Z h a k ty (Int32.ofNat vs.length) vs dv := by
  obtain ⟨c, A, hc, hf⟩ := A
  have e1 : c.slots.size = vs.length := by rw [← hc, Array.length_toList]
  have e2 : (Int32.ofNat vs.length).toNatClampNeg = vs.length := own_cn (own_oi hl)
  refine ⟨c.cls, c, A, rfl, by rw [e1, e2], fun u => ?_, fun k hk => ?_, fun i hi => ?_⟩
  · have := Int32.lt_iff_toInt_lt.mp u
    have e0 : (0 : Int32).toInt = 0 := rfl
    rw [own_oi hl] at this
    omega
  · rw [e1] at hk
    rw [← Array.getElem?_toList, hc, List.getD_eq_getElem?_getD, List.getElem?_eq_getElem hk]
    rfl
  · rw [e1] at hi
    rw [List.getD_eq_getElem?_getD, List.getElem?_eq_getElem hi]
    exact hf _ (List.getElem_mem hi)
theorem Ars.of_arv {a : Addr} {ty : FieldType} {vs : List Value} {dv : Value} {z : Int32} {k : ClassId} (A : Arv Z h a k ty z vs dv) (hz : z.toNatClampNeg = vs.length) : Ars Z h a ty vs := by
  obtain ⟨c, A, -, e1, -, H, F⟩ := A
  rw [hz] at e1
  refine ⟨c, A, List.ext_getElem? fun i => ?_, fun v hv => ?_⟩
  · rw [Array.getElem?_toList]
    by_cases u : i < vs.length
    · rw [H i (by rw [e1]; exact u), List.getD_eq_getElem?_getD, List.getElem?_eq_getElem u]; rfl
    · rw [List.getElem?_eq_none (by omega), Array.getElem?_eq_none (by omega)]
  · obtain ⟨i, hi, rfl⟩ := List.mem_iff_getElem.mp hv
    have := F i (by rw [e1]; exact hi)
    rwa [List.getD_eq_getElem?_getD, List.getElem?_eq_getElem hi] at this
theorem own_us {vs : List Value} {si len : Nat} {dv : Value} (hl : si + len ≤ vs.length) : (vs.drop si).take len = (List.range len).map fun i => vs.getD (si + i) dv := by
  apply List.ext_getElem
  · simp; omega
  · intro i h1 h2
    simp only [List.length_map, List.length_range] at h2
    simp [List.getD_eq_getElem?_getD, List.getElem?_eq_getElem (show si + i < vs.length by omega)]
theorem own_nn {j : Int32} {i : Nat} (hi : j.toInt = (i : Int)) : ¬ j < 0 := fun u => by
  have := Int32.lt_iff_toInt_lt.mp u
  have e0 : (0 : Int32).toInt = 0 := rfl
  omega
theorem oGo.acopy {i W : Nat} {a b : Addr} {ty : FieldType} {vs vd : List Value} {sp dp nn : Int32} {si di len : Nat} (hd : decode bytes pc = .ok (.invokestatic i, 3)) (hq : pc + 3 = q)
    (w1 : (Cond.methodLink own i Jvm.Stand.acN).before a0 Z = true) (w2 : (Cond.native Jvm.Stand.acN).before a0 Z = true) (w3 : (Cond.static Jvm.Stand.acN).before a0 Z = true) (w4 : (Cond.initialized "java/lang/System").before a0 Z = true)
    (A : Ars Z h a ty vs) (B : Ars Z h b ty vd) (hty : refKind ty = false) (h1 : sp.toInt = (si : Int)) (h2 : dp.toInt = (di : Int)) (h3 : nn.toInt = (len : Int)) (h4 : si + len ≤ vs.length) (h5 : di + len ≤ vd.length) (l1 : vs.length < 2147483648) (l2 : vd.length < 2147483648) (ge : n0 ≤ b) (hL : L.size = ml) (hf : 1 ≤ R.frames) (hW : 2 * 0 + (S.map fun v => v.category).sum ≤ W) (hlo : W + (nativeFrameWords "java/lang/System" "arraycopy" 5 + 11) ≤ R.locals)
    (K : ∀ h', Keep h h' [b] → Ars Z h' b ty (vd.take di ++ (vs.drop si).take len ++ vd.drop (di + len)) → oGo Z own nm bytes ml ret R n0 Q k n h' q L S) : oGo Z own nm bytes ml ret R n0 Q k n h pc L (.int nn :: .int dp :: .ref b :: .int sp :: .ref a :: S) :=
  fun p l e s m args below meth c T locs Cx X eT N => by
    obtain ⟨hx, hZ, hby, hml, hown, hrt, hlk, hnm⟩ := Cx
    subst hq
    obtain ⟨k1, A'⟩ := A.arv .null l1
    obtain ⟨k2, B'⟩ := B.arv .null l2
    have c1 := own_cn h1
    have c2 := own_cn h2
    have c3 := own_cn h3
    have e1 := own_cn (own_oi l1)
    have e2 := own_cn (own_oi l2)
    obtain ⟨T', h', L', X', e', N', K', B'', st⟩ := cpA X hx hZ hown w1 w2 w3 w4 eT A' B' (Or.inl ⟨rfl, hty⟩) (own_nn h1) (own_nn h2) (own_nn h3) (by rw [c1, c3, e1]; exact h4) (by rw [c2, c3, e2]; exact h5) rfl (by rw [c2, c3]; exact h5) N ge (g := mkF m pc L (.int nn :: .int dp :: .ref b :: .int sp :: .ref a :: S)) rfl (by rw [hml]; exact hL) rfl (hb hby hd) hf hW hlo
    rw [c1, c2, c3, ← own_us h4] at B''
    obtain ⟨s₂, o, g1, r⟩ := K h' K' (Ars.of_arv B'' (by rw [e2]; simp only [List.length_append, List.length_take, List.length_drop]; omega)) p l e s m args below meth c T' L' ⟨hx, hZ, hby, hml, hown, hrt, hlk, hnm⟩ X' e' N'
    exact ⟨s₂, o, st _ g1, r⟩
theorem oGo.clone {i W : Nat} {ad : String} {a : Addr} {ty : FieldType} {vs : List Value} (cap : Nat) (hd : decode bytes pc = .ok (.invokevirtual i, 3)) (hq : pc + 3 = q)
    (w1 : (Cond.methodLink own i ⟨ad, "clone", "()Ljava/lang/Object;"⟩).before a0 Z = true) (w2 : (Cond.sameMethod ad "java/lang/Object" "clone" "()Ljava/lang/Object;").before a0 Z = true) (w3 : (Cond.native ⟨"java/lang/Object", "clone", "()Ljava/lang/Object;"⟩).before a0 Z = true)
    (w4 : (Cond.instanceMethod ⟨"java/lang/Object", "clone", "()Ljava/lang/Object;"⟩).before a0 Z = true) (w5 : (Cond.selects ad ⟨ad, "clone", "()Ljava/lang/Object;"⟩ ⟨"java/lang/Object", "clone", "()Ljava/lang/Object;"⟩).before a0 Z = true) (w6 : (Cond.castable ad "java/lang/Cloneable").before a0 Z = true)
    (A : Ars Z h a ty vs) (E : Exa Z h a ad) (hl : vs.length < 2147483648) (hcap : vs.length ≤ cap) (hL : L.size = ml) (hf : 1 ≤ R.frames) (hW : 2 * 0 + (S.map fun v => v.category).sum ≤ W) (hlo : W + 14 ≤ R.locals) (hc : k + 1 ≤ R.cells) (hs : n + cap ≤ R.slots)
    (K : ∀ h' b, b = h.size → Keep h h' [] → Ars Z h' b ty vs → Exa Z h' b ad → oGo Z own nm bytes ml ret R n0 Q (k + 1) (n + cap) h' q L (.ref b :: S)) : oGo Z own nm bytes ml ret R n0 Q k n h pc L (.ref a :: S) :=
  fun p l e s m args below meth c T locs Cx X eT N => by
    obtain ⟨hx, hZ, hby, hml, hown, hrt, hlk, hnm⟩ := Cx
    subst hq
    obtain ⟨k1, A'⟩ := A.arv .null hl
    have e1 := own_cn (own_oi hl)
    obtain ⟨T', h', X', e', Ex, B', EB, st⟩ := cloneH X hx hZ hown w1 w2 w3 w4 w5 w6 eT A'.arh E (g := mkF m pc L (.ref a :: S)) rfl (by rw [hml]; exact hL) rfl (hb hby hd) hf hW hlo (cap := cap) (by rw [e1]; exact hcap) hc hs
    obtain ⟨s₂, o, g1, r⟩ := K h' h.size rfl (own_keep Ex) (Ars.of_arv (show Arv Z h' h.size k1 ty (Int32.ofNat vs.length) vs .null from B') e1) EB p l e s m args below meth c T' locs ⟨hx, hZ, hby, hml, hown, hrt, hlk, hnm⟩ X' e' N
    exact ⟨s₂, o, st _ g1, r⟩
theorem oGo.callP {y : MethodName} {i W kk : Nat} {bytes' : ByteArray} {ml' : Nat} {ret' : Option FieldType} {rm : Room} {as : Array Value} {Q' : Option Value → Heap → Prop} {ps : List FieldType} {rt : Option FieldType} {a : Addr} {C : String} (argsL rest : List Value) (hd : decode bytes pc = .ok (.invokevirtual i, 3)) (hq : pc + 3 = q)
    (w1 : (Cond.methodLink own i y).before a0 Z = true) (w2 : (Cond.instanceMethod y).before a0 Z = true) (wp : (Cond.privateMethod y).before a0 Z = true) (wi : (Cond.instantiable y.cls kk).before a0 Z = true) (w3 : (Cond.initialized y.cls).before a0 Z = true) (w4 : (Cond.code y bytes' ml' ret').before a0 Z = true) (hy : y.cls ≠ "java/lang/invoke/MethodHandle" ∧ y.cls ≠ "java/lang/invoke/VarHandle") (E : Exa Z h a C)
    (hC : oCon Z y bytes' ml' ret' rm as h n0 Q') (hS : S = argsL.reverse ++ .ref a :: rest) (has : (.ref a :: argsL).toArray = as) (hpd : parseMethodDescriptor y.desc = some ⟨ps, rt⟩) (hlen : argsL.length = ps.length) (hL : L.size = ml) (hW : 2 * 0 + (rest.map fun v => v.category).sum ≤ W) (hf : rm.frames + 1 ≤ R.frames) (hl : W + (ml' + 11) + rm.locals ≤ R.locals) (hc : k + rm.cells ≤ R.cells) (hs : n + rm.slots ≤ R.slots)
    (K : ∀ v h', Q' v h' → oGo Z own nm bytes ml ret R n0 Q (k + rm.cells) (n + rm.slots) h' q L (v.toList ++ rest)) : oGo Z own nm bytes ml ret R n0 Q k n h pc L S :=
  fun p l e s m args below meth c T locs Cx X eT N => by
    obtain ⟨hx, hZ, hby, hml, hown, hrt, hlk, hnm⟩ := Cx
    subst hq
    obtain ⟨cq, q1, q2⟩ := E.cell
    have hpr := Cond.privateMethod_at (mvP hZ wp (args := #[]))
    have hin : (Cond.instanceMethod y).before args s = true := mvT hZ w2
    obtain ⟨ci, ki, i1, i2, -, i4, -, -⟩ := Cond.instantiable_spec (show (Cond.instantiable y.cls kk).before args s = true from mvT hZ wi)
    have hsel := selects_self_of_private (args := args) i1 i2 (by simp only [Bool.or_eq_false_iff] at i4; exact i4.1) hpr hin hy
    obtain ⟨v, _, ⟨T', L2, k2, n2⟩, -, X', ⟨Lc, hQ', l', y', z'⟩, st⟩ := X.privateBack hx (y := y) hown (mvT hZ w1) hin hsel hpr (mvT hZ w4) hy (backOf (W := W) (Q := fun v h' L => Q' v h' ∧ Fr n0 L) (hC l []) hZ w4 w3 hf hl) (g := mkF m pc L S) rfl (by rw [hml]; exact hL) (Steps.refl _) (a := a) (by rw [eT]; exact q1) q2 (argsL := argsL) (rest := rest) (lenOf hpd hlen) hS hW (hb hby hd) (fun _ _ => ⟨has, eT, hc, hs⟩)
    dsimp only [Pt.U, Pt.locs, Pt.cells, Pt.slots] at X' l' y' z' st hQ'
    subst l' y' z'
    obtain ⟨s₂, o, h1, r⟩ := K v T'.heap hQ'.1 p l e s m args below meth c T' _ ⟨hx, hZ, hby, hml, hown, hrt, hlk, hnm⟩ X' rfl (Fr.app N hQ'.2)
    exact ⟨s₂, o, st.trans h1, r⟩
/-! booleans -/
def own_b (b : Int32) (P : Prop) : Prop := (b = 1 ∧ P) ∨ (b = 0 ∧ ¬ P)
theorem own_b.t {P : Prop} (hp : P) : own_b 1 P := Or.inl ⟨rfl, hp⟩
theorem own_b.f {P : Prop} (hp : ¬ P) : own_b 0 P := Or.inr ⟨rfl, hp⟩
theorem own_b.z {b : Int32} {P : Prop} (u : own_b b P) (hb : b = 0) : ¬ P := by
  rcases u with ⟨rfl, _⟩ | ⟨_, u⟩
  · exact absurd hb (by decide)
  · exact u
theorem own_b.nz {b : Int32} {P : Prop} (u : own_b b P) (hb : b ≠ 0) : P := by
  rcases u with ⟨_, u⟩ | ⟨rfl, _⟩
  · exact u
  · exact absurd rfl hb
theorem own_b.nar {b : Int32} {P : Prop} (u : own_b b P) : nar .boolean b = b := by
  rcases u with ⟨rfl, _⟩ | ⟨rfl, _⟩ <;> rfl
theorem own_b.eq {b c : Int32} {P P' : Prop} (u : own_b b P) (v : own_b c P') (hp : P ↔ P') : b = c := by
  rcases u with ⟨rfl, u⟩ | ⟨rfl, u⟩ <;> rcases v with ⟨rfl, v⟩ | ⟨rfl, v⟩
  · rfl
  · exact absurd (hp.mp u) v
  · exact absurd (hp.mpr v) u
  · rfl
theorem own_b.is0 {b : Int32} {P : Prop} (u : own_b b P) (hp : ¬ P) : b = 0 := u.elim (fun z => absurd z.2 hp) (fun z => z.1)
theorem own_b.is1 {b : Int32} {P : Prop} (u : own_b b P) (hp : P) : b = 1 := u.elim (fun z => z.1) (fun z => absurd hp z.2)
theorem own_b.iff {b : Int32} {P P' : Prop} (u : own_b b P) (hp : P ↔ P') : own_b b P' := u.imp (fun z => ⟨z.1, hp.mp z.2⟩) (fun z => ⟨z.1, fun y => z.2 (hp.mpr y)⟩)
end Own
theorem d1_0 : decode prog_2_method_1_code 0 = .ok (.aload_n 0, 1) := by decide +kernel
theorem d1_1 : decode prog_2_method_1_code 1 = .ok (.invokespecial 1, 3) := by decide +kernel
theorem d1_4 : decode prog_2_method_1_code 4 = .ok (.aload_n 0, 1) := by decide +kernel
theorem d1_5 : decode prog_2_method_1_code 5 = .ok (.aload_n 1, 1) := by decide +kernel
theorem d1_6 : decode prog_2_method_1_code 6 = .ok (.invokestatic 7, 3) := by decide +kernel
theorem d1_9 : decode prog_2_method_1_code 9 = .ok (.checkcast 13, 3) := by decide +kernel
theorem d1_12 : decode prog_2_method_1_code 12 = .ok (.putfield 15, 3) := by decide +kernel
theorem d1_15 : decode prog_2_method_1_code 15 = .ok (.return_, 1) := by decide +kernel
theorem own_pd0 : parseMethodDescriptor "([B)V" = some ⟨[(.array .byte)], none⟩ := by decide +kernel
theorem d3_0 : decode jdk_31_method_10_code 0 = .ok (.aload_n 0, 1) := by decide +kernel
theorem d3_1 : decode jdk_31_method_10_code 1 = .ok (.ifnonnull 11, 3) := by decide +kernel
theorem d3_4 : decode jdk_31_method_10_code 4 = .ok (.new 84, 3) := by decide +kernel
theorem d3_7 : decode jdk_31_method_10_code 7 = .ok (.dup, 1) := by decide +kernel
theorem d3_8 : decode jdk_31_method_10_code 8 = .ok (.invokespecial 86, 3) := by decide +kernel
theorem d3_12 : decode jdk_31_method_10_code 12 = .ok (.aload_n 0, 1) := by decide +kernel
theorem d3_13 : decode jdk_31_method_10_code 13 = .ok (.areturn, 1) := by decide +kernel
theorem own_pd1 : parseMethodDescriptor "(Ljava/lang/Object;)Ljava/lang/Object;" = some ⟨[(.object "java/lang/Object")], some (.object "java/lang/Object")⟩ := by decide +kernel
theorem d4_0 : decode prog_2_method_15_code 0 = .ok (.aload_n 0, 1) := by decide +kernel
theorem d4_1 : decode prog_2_method_15_code 1 = .ok (.aload_n 0, 1) := by decide +kernel
theorem d4_2 : decode prog_2_method_15_code 2 = .ok (.getfield 28, 3) := by decide +kernel
theorem d4_5 : decode prog_2_method_15_code 5 = .ok (.iconst (-1), 1) := by decide +kernel
theorem d4_6 : decode prog_2_method_15_code 6 = .ok (.ixor, 1) := by decide +kernel
theorem d4_7 : decode prog_2_method_15_code 7 = .ok (.i2b, 1) := by decide +kernel
theorem d4_8 : decode prog_2_method_15_code 8 = .ok (.putfield 28, 3) := by decide +kernel
theorem d4_11 : decode prog_2_method_15_code 11 = .ok (.return_, 1) := by decide +kernel
theorem own_pd2 : parseMethodDescriptor "()V" = some ⟨[], none⟩ := by decide +kernel
theorem d5_0 : decode prog_2_method_7_code 0 = .ok (.aload_n 0, 1) := by decide +kernel
theorem d5_1 : decode prog_2_method_7_code 1 = .ok (.getfield 15, 3) := by decide +kernel
theorem d5_4 : decode prog_2_method_7_code 4 = .ok (.aload_n 0, 1) := by decide +kernel
theorem d5_5 : decode prog_2_method_7_code 5 = .ok (.dup, 1) := by decide +kernel
theorem d5_6 : decode prog_2_method_7_code 6 = .ok (.getfield 20, 3) := by decide +kernel
theorem d5_9 : decode prog_2_method_7_code 9 = .ok (.dup_x1, 1) := by decide +kernel
theorem d5_10 : decode prog_2_method_7_code 10 = .ok (.iconst 1, 1) := by decide +kernel
theorem d5_11 : decode prog_2_method_7_code 11 = .ok (.iadd, 1) := by decide +kernel
theorem d5_12 : decode prog_2_method_7_code 12 = .ok (.putfield 20, 3) := by decide +kernel
theorem d5_15 : decode prog_2_method_7_code 15 = .ok (.baload, 1) := by decide +kernel
theorem d5_16 : decode prog_2_method_7_code 16 = .ok (.aload_n 0, 1) := by decide +kernel
theorem d5_17 : decode prog_2_method_7_code 17 = .ok (.getfield 28, 3) := by decide +kernel
theorem d5_20 : decode prog_2_method_7_code 20 = .ok (.ixor, 1) := by decide +kernel
theorem d5_21 : decode prog_2_method_7_code 21 = .ok (.i2b, 1) := by decide +kernel
theorem d5_22 : decode prog_2_method_7_code 22 = .ok (.ireturn, 1) := by decide +kernel
theorem own_pd3 : parseMethodDescriptor "()B" = some ⟨[], some .byte⟩ := by decide +kernel
theorem d7_0 : decode prog_2_method_2_code 0 = .ok (.aload_n 0, 1) := by decide +kernel
theorem d7_1 : decode prog_2_method_2_code 1 = .ok (.getfield 20, 3) := by decide +kernel
theorem d7_4 : decode prog_2_method_2_code 4 = .ok (.ireturn, 1) := by decide +kernel
theorem own_pd4 : parseMethodDescriptor "()I" = some ⟨[], some .int⟩ := by decide +kernel
def own_br (Z : State) (h : Heap) (a : Addr) (v0 v1 v2 : Value) : Prop := Exa Z h a "com/example/lexorder/lexorder/ByteReader" ∧ Fld Z h a "com/example/lexorder/lexorder/ByteReader" "bytes" "[B" v0 ∧ Fld Z h a "com/example/lexorder/lexorder/ByteReader" "position" "I" v1 ∧ Fld Z h a "com/example/lexorder/lexorder/ByteReader" "mask" "B" v2
theorem own_br.lt {Z : State} {h : Heap} {a : Addr} {v0 v1 v2 : Value} (O : own_br Z h a v0 v1 v2) : a < h.size := O.1.lt
theorem own_br.keep {Z : State} {h h' : Heap} {ws : List Addr} {a : Addr} {v0 v1 v2 : Value} (O : own_br Z h a v0 v1 v2) (K : Keep h h' ws) (q : a ∉ ws) : own_br Z h' a v0 v1 v2 := by
  obtain ⟨E, F0, F1, F2⟩ := O; exact ⟨E.keep K, F0.keep K q, F1.keep K q, F2.keep K q⟩
theorem own_ef3 (m : MethodId) (x0 : Addr) : entryFrame m #[(.ref x0)] 1 = mkF m 0 #[.val (.ref x0)] [] := by first | (simp [entryFrame, mkF, argsToLocals, Value.category]; done) | rfl
theorem own_pn3 : plainFor (⟨"java/util/Objects", "requireNonNull", "(Ljava/lang/Object;)Ljava/lang/Object;"⟩ : MethodName) = true := plainFor_of_name (by first | (simp [plainName, overriddenIn]; done) | decide +kernel)
set_option maxRecDepth 65536 in
set_option maxHeartbeats 40000000 in
theorem cn {Z : State} {a0 : Array Value} (hw : ∀ d ∈ tables_1, d.before a0 Z = true) (a : Addr) (h : Heap) (n0 : Nat) :
    oCon Z (⟨"java/util/Objects", "requireNonNull", "(Ljava/lang/Object;)Ljava/lang/Object;"⟩ : MethodName) jdk_31_method_10_code 1 (some (.object "java/lang/Object")) ({ frames := 0, cells := 0, slots := 0, locals := 0 } : Room) #[(.ref a)] h n0 (fun v h' => v = some (.ref a) ∧ h' = h) := by
  refine oCon.of own_pn3 (fun m => own_ef3 m a) ?_
  show oGo Z _ _ _ _ _ _ n0 _ 0 0 h 0 #[.val (.ref a)] []
  refine oGo.aloadN (q := 1) d3_0 rfl rfl rfl ?_
  refine oGo.ifnonnullYes (q := 12) d3_1 (by decide) ?_
  refine oGo.aloadN (q := 13) d3_12 rfl rfl rfl ?_
  exact oGo.retA d3_13 rfl rfl rfl (by decide) (by decide) (⟨rfl, rfl⟩)
theorem own_ef1 (m : MethodId) (x0 : Addr) (x1 : Addr) : entryFrame m #[(.ref x0), (.ref x1)] 2 = mkF m 0 #[.val (.ref x0), .val (.ref x1)] [] := by first | (simp [entryFrame, mkF, argsToLocals, Value.category]; done) | rfl
theorem own_pn1 : plainFor (⟨"com/example/lexorder/lexorder/ByteReader", "<init>", "([B)V"⟩ : MethodName) = true := plainFor_of_name (by first | (simp [plainName, overriddenIn]; done) | decide +kernel)
set_option maxRecDepth 65536 in
set_option maxHeartbeats 40000000 in
theorem ci {Z : State} {a0 : Array Value} (hw : ∀ d ∈ tables_1, d.before a0 Z = true) (r a : Addr) (h : Heap) (n0 : Nat) (gr : n0 ≤ r) (O : own_br Z h r .null (.int 0) (.int 0)) (EA : Exa Z h a "[B") :
    oCon Z (⟨"com/example/lexorder/lexorder/ByteReader", "<init>", "([B)V"⟩ : MethodName) prog_2_method_1_code 2 none ({ frames := 1, cells := 0, slots := 0, locals := 13 } : Room) #[(.ref r), (.ref a)] h n0 (fun v h' => v = none ∧ Keep h h' [r] ∧ own_br Z h' r (.ref a) (.int 0) (.int 0)) := by
  refine oCon.of own_pn1 (fun m => own_ef1 m r a) ?_
  show oGo Z _ _ _ _ _ _ n0 _ 0 0 h 0 #[.val (.ref r), .val (.ref a)] []
  obtain ⟨E1, F1_bytes, F1_position, F1_mask⟩ := O
  refine oGo.aloadN (q := 1) d1_0 rfl rfl rfl ?_
  refine oGo.initO (W := 0) (q := 4) d1_1 rfl (hw _ (List.mem_of_getElem? (i := 7) rfl)) (hw _ (List.mem_of_getElem? (i := 8) rfl)) (hw _ (List.mem_of_getElem? (i := 9) rfl)) rfl (by decide) (Nat.le_of_eq rfl) (by decide) ?_
  refine oGo.aloadN (q := 5) d1_4 rfl rfl rfl ?_
  refine oGo.aloadN (q := 6) d1_5 rfl rfl rfl ?_
  refine oGo.callS (W := 1) (rm := ({ frames := 0, cells := 0, slots := 0, locals := 0 } : Room)) (q := 9) [(.ref a)] [(.ref r)] d1_6 rfl (hw _ (List.mem_of_getElem? (i := 10) rfl)) (hw _ (List.mem_of_getElem? (i := 11) rfl)) (hw _ (List.mem_of_getElem? (i := 12) rfl)) (hw _ (List.mem_of_getElem? (i := 13) rfl)) (by decide) (cn hw a h n0) rfl rfl own_pd1 rfl rfl (Nat.le_of_eq rfl) (by decide) (by decide) (by decide) (by decide) ?_
  rintro _ h2 ⟨rfl, eh⟩
  all_goals subst h2
  show oGo Z _ _ _ _ _ _ n0 _ 0 0 h 9 #[.val (.ref r), .val (.ref a)] [(.ref a), (.ref r)]
  refine oGo.cast (q := 12) d1_9 rfl (hw _ (List.mem_of_getElem? (i := 14) rfl)) (Ins.self EA) ?_
  refine oGo.putF (host := "") (ty := (.array .byte)) (q := 15) d1_12 rfl (Or.inl (hw _ (List.mem_of_getElem? (i := 16) rfl))) Via.refl F1_bytes E1 (Or.inr ⟨(hw _ (List.mem_of_getElem? (i := 17) rfl)), rfl, rfl⟩) (hw _ (List.mem_of_getElem? (i := 2) rfl)) (by decide) rfl rfl gr ?_
  intro h3 K3 E3 F3 G3
  have F3_position := G3 (slot_ne (Or.inl (hw _ (List.mem_of_getElem? (i := 31) rfl))) (Or.inr (hw _ (List.mem_of_getElem? (i := 17) rfl))) (by decide) (t := .int) (t' := (.array .byte)) (by decide) (by decide)) F1_position
  have F3_mask := G3 (slot_ne (Or.inl (hw _ (List.mem_of_getElem? (i := 24) rfl))) (Or.inr (hw _ (List.mem_of_getElem? (i := 17) rfl))) (by decide) (t := .byte) (t' := (.array .byte)) (by decide) (by decide)) F1_mask
  show oGo Z _ _ _ _ _ _ n0 _ 0 0 h3 15 #[.val (.ref r), .val (.ref a)] []
  exact oGo.retV d1_15 rfl (by decide) (by decide) (⟨rfl, K3, ⟨E3, F3, F3_position, F3_mask⟩⟩)
theorem own_ef4 (m : MethodId) (x0 : Addr) : entryFrame m #[(.ref x0)] 1 = mkF m 0 #[.val (.ref x0)] [] := by first | (simp [entryFrame, mkF, argsToLocals, Value.category]; done) | rfl
theorem own_pn4 : plainFor (⟨"com/example/lexorder/lexorder/ByteReader", "invert", "()V"⟩ : MethodName) = true := plainFor_of_name (by first | (simp [plainName, overriddenIn]; done) | decide +kernel)
set_option maxRecDepth 65536 in
set_option maxHeartbeats 40000000 in
theorem cv {Z : State} {a0 : Array Value} (hw : ∀ d ∈ tables_1, d.before a0 Z = true) (r : Addr) (A P : Value) (m m' : Int32) (h : Heap) (n0 : Nat) (gr : n0 ≤ r) (O : own_br Z h r A P (.int m)) (hm : (m ^^^ (-1 : Int32)).toInt8.toInt32 = m') :
    oCon Z (⟨"com/example/lexorder/lexorder/ByteReader", "invert", "()V"⟩ : MethodName) prog_2_method_15_code 1 none ({ frames := 0, cells := 0, slots := 0, locals := 0 } : Room) #[(.ref r)] h n0 (fun v h' => v = none ∧ Keep h h' [r] ∧ own_br Z h' r A P (.int m')) := by
  refine oCon.of own_pn4 (fun m => own_ef4 m r) ?_
  show oGo Z _ _ _ _ _ _ n0 _ 0 0 h 0 #[.val (.ref r)] []
  subst hm
  obtain ⟨E4, F4_bytes, F4_position, F4_mask⟩ := O
  refine oGo.aloadN (q := 1) d4_0 rfl rfl rfl ?_
  refine oGo.aloadN (q := 2) d4_1 rfl rfl rfl ?_
  refine oGo.getF (host := "") (q := 5) (v := (.int m)) d4_2 rfl (Or.inl (hw _ (List.mem_of_getElem? (i := 23) rfl))) Via.refl F4_mask ?_
  refine oGo.iconst (q := 6) (v := (-1 : Int32)) d4_5 rfl (by decide) ?_
  refine oGo.ixor (q := 7) d4_6 rfl ?_
  refine oGo.i2b (q := 8) d4_7 rfl ?_
  refine oGo.putF (host := "") (ty := .byte) (q := 11) d4_8 rfl (Or.inl (hw _ (List.mem_of_getElem? (i := 23) rfl))) Via.refl F4_mask E4 (Or.inl (hw _ (List.mem_of_getElem? (i := 24) rfl))) (hw _ (List.mem_of_getElem? (i := 2) rfl)) (by decide) (congrArg Value.int (own_bb _)) (fits_nar_byte _) gr ?_
  intro h5 K5 E5 F5 G5
  have F5_bytes := G5 (slot_ne (Or.inr (hw _ (List.mem_of_getElem? (i := 17) rfl))) (Or.inl (hw _ (List.mem_of_getElem? (i := 24) rfl))) (by decide) (t := (.array .byte)) (t' := .byte) (by decide) (by decide)) F4_bytes
  have F5_position := G5 (slot_ne (Or.inl (hw _ (List.mem_of_getElem? (i := 31) rfl))) (Or.inl (hw _ (List.mem_of_getElem? (i := 24) rfl))) (by decide) (t := .int) (t' := .byte) (by decide) (by decide)) F4_position
  show oGo Z _ _ _ _ _ _ n0 _ 0 0 h5 11 #[.val (.ref r)] []
  exact oGo.retV d4_11 rfl (by decide) (by decide) (⟨rfl, K5, ⟨E5, F5_bytes, F5_position, F5⟩⟩)
theorem own_ef7 (m : MethodId) (x0 : Addr) : entryFrame m #[(.ref x0)] 1 = mkF m 0 #[.val (.ref x0)] [] := by first | (simp [entryFrame, mkF, argsToLocals, Value.category]; done) | rfl
theorem own_pn7 : plainFor (⟨"com/example/lexorder/lexorder/ByteReader", "position", "()I"⟩ : MethodName) = true := plainFor_of_name (by first | (simp [plainName, overriddenIn]; done) | decide +kernel)
set_option maxRecDepth 65536 in
set_option maxHeartbeats 40000000 in
theorem cp {Z : State} {a0 : Array Value} (hw : ∀ d ∈ tables_1, d.before a0 Z = true) (r : Addr) (A M : Value) (p : Int32) (h : Heap) (n0 : Nat) (O : own_br Z h r A (.int p) M) :
    oCon Z (⟨"com/example/lexorder/lexorder/ByteReader", "position", "()I"⟩ : MethodName) prog_2_method_2_code 1 (some .int) ({ frames := 0, cells := 0, slots := 0, locals := 0 } : Room) #[(.ref r)] h n0 (fun v h' => v = some (.int p) ∧ h' = h) := by
  refine oCon.of own_pn7 (fun m => own_ef7 m r) ?_
  show oGo Z _ _ _ _ _ _ n0 _ 0 0 h 0 #[.val (.ref r)] []
  obtain ⟨E6, F6_bytes, F6_position, F6_mask⟩ := O
  refine oGo.aloadN (q := 1) d7_0 rfl rfl rfl ?_
  refine oGo.getF (host := "") (q := 4) (v := (.int p)) d7_1 rfl (Or.inl (hw _ (List.mem_of_getElem? (i := 30) rfl))) Via.refl F6_position ?_
  exact oGo.retI d7_4 rfl (by decide) (by decide) (⟨rfl, rfl⟩)
theorem own_ef5 (m : MethodId) (x0 : Addr) : entryFrame m #[(.ref x0)] 1 = mkF m 0 #[.val (.ref x0)] [] := by first | (simp [entryFrame, mkF, argsToLocals, Value.category]; done) | rfl
theorem own_pn5 : plainFor (⟨"com/example/lexorder/lexorder/ByteReader", "next", "()B"⟩ : MethodName) = true := plainFor_of_name (by first | (simp [plainName, overriddenIn]; done) | decide +kernel)
set_option maxRecDepth 65536 in
set_option maxHeartbeats 40000000 in
theorem cx {Z : State} {a0 : Array Value} (hw : ∀ d ∈ tables_1, d.before a0 Z = true) (r a : Addr) (p p' m x y : Int32) (i : Nat) (vs : List Value) (h : Heap) (n0 : Nat) (gr : n0 ≤ r) (hne : a ≠ r) (O : own_br Z h r (.ref a) (.int p) (.int m)) (A : Ars Z h a .byte vs) (hi : p.toInt = (i : Int)) (hx : vs[i]? = some (.int x)) (hp : p + (1 : Int32) = p') (hy : (x ^^^ m).toInt8.toInt32 = y) :
    oCon Z (⟨"com/example/lexorder/lexorder/ByteReader", "next", "()B"⟩ : MethodName) prog_2_method_7_code 1 (some .byte) ({ frames := 0, cells := 0, slots := 0, locals := 0 } : Room) #[(.ref r)] h n0 (fun v h' => v = some (.int y) ∧ Keep h h' [r] ∧ own_br Z h' r (.ref a) (.int p') (.int m)) := by
  refine oCon.of own_pn5 (fun m => own_ef5 m r) ?_
  show oGo Z _ _ _ _ _ _ n0 _ 0 0 h 0 #[.val (.ref r)] []
  subst hp hy
  obtain ⟨E7, F7_bytes, F7_position, F7_mask⟩ := O
  refine oGo.aloadN (q := 1) d5_0 rfl rfl rfl ?_
  refine oGo.getF (host := "") (q := 4) (v := (.ref a)) d5_1 rfl (Or.inl (hw _ (List.mem_of_getElem? (i := 16) rfl))) Via.refl F7_bytes ?_
  refine oGo.aloadN (q := 5) d5_4 rfl rfl rfl ?_
  refine oGo.dup (q := 6) d5_5 rfl rfl ?_
  refine oGo.getF (host := "") (q := 9) (v := (.int p)) d5_6 rfl (Or.inl (hw _ (List.mem_of_getElem? (i := 30) rfl))) Via.refl F7_position ?_
  refine oGo.dupX1 (q := 10) d5_9 rfl rfl rfl ?_
  refine oGo.iconst (q := 11) (v := (1 : Int32)) d5_10 rfl rfl ?_
  refine oGo.iadd (q := 12) d5_11 rfl ?_
  refine oGo.putF (host := "") (ty := .int) (q := 15) d5_12 rfl (Or.inl (hw _ (List.mem_of_getElem? (i := 30) rfl))) Via.refl F7_position E7 (Or.inl (hw _ (List.mem_of_getElem? (i := 31) rfl))) (hw _ (List.mem_of_getElem? (i := 2) rfl)) (by decide) rfl rfl gr ?_
  intro h8 K8 E8 F8 G8
  have F8_bytes := G8 (slot_ne (Or.inr (hw _ (List.mem_of_getElem? (i := 17) rfl))) (Or.inl (hw _ (List.mem_of_getElem? (i := 31) rfl))) (by decide) (t := (.array .byte)) (t' := .int) (by decide) (by decide)) F7_bytes
  have F8_mask := G8 (slot_ne (Or.inl (hw _ (List.mem_of_getElem? (i := 24) rfl))) (Or.inl (hw _ (List.mem_of_getElem? (i := 31) rfl))) (by decide) (t := .byte) (t' := .int) (by decide) (by decide)) F7_mask
  have A_ := Ars.keep A K8 (ninS hne nin0)
  show oGo Z _ _ _ _ _ _ n0 _ 0 0 h8 15 #[.val (.ref r)] [(.int p), (.ref a)]
  refine oGo.baload (q := 16) (i := i) (v := (.int x)) d5_15 rfl A_ hi hx ?_
  refine oGo.aloadN (q := 17) d5_16 rfl rfl rfl ?_
  refine oGo.getF (host := "") (q := 20) (v := (.int m)) d5_17 rfl (Or.inl (hw _ (List.mem_of_getElem? (i := 23) rfl))) Via.refl F8_mask ?_
  refine oGo.ixor (q := 21) d5_20 rfl ?_
  refine oGo.i2b (q := 22) d5_21 rfl ?_
  exact oGo.retN (t := .byte) d5_22 rfl (by simp) (by decide) (by decide) (⟨congrArg (fun z => some (Value.int z)) (own_bb _), K8, ⟨E8, F8_bytes, F8, F8_mask⟩⟩)
theorem d6_0 : decode method_2_code 0 = .ok (.iload_n 0, 1) := by decide +kernel
theorem d6_1 : decode method_2_code 1 = .ok (.sipush 255, 3) := by decide +kernel
theorem d6_4 : decode method_2_code 4 = .ok (.iand, 1) := by decide +kernel
theorem d6_5 : decode method_2_code 5 = .ok (.istore_n 2, 1) := by decide +kernel
theorem d6_6 : decode method_2_code 6 = .ok (.iload_n 1, 1) := by decide +kernel
theorem d6_7 : decode method_2_code 7 = .ok (.ifCond .eq 10, 3) := by decide +kernel
theorem d6_10 : decode method_2_code 10 = .ok (.sipush 255, 3) := by decide +kernel
theorem d6_13 : decode method_2_code 13 = .ok (.iload_n 2, 1) := by decide +kernel
theorem d6_14 : decode method_2_code 14 = .ok (.isub, 1) := by decide +kernel
theorem d6_15 : decode method_2_code 15 = .ok (.i2b, 1) := by decide +kernel
theorem d6_16 : decode method_2_code 16 = .ok (.ireturn, 1) := by decide +kernel
theorem d6_17 : decode method_2_code 17 = .ok (.iload_n 2, 1) := by decide +kernel
theorem d6_18 : decode method_2_code 18 = .ok (.i2b, 1) := by decide +kernel
theorem d6_19 : decode method_2_code 19 = .ok (.ireturn, 1) := by decide +kernel
theorem own_pd5 : parseMethodDescriptor "(BZ)B" = some ⟨[.byte, .boolean], some .byte⟩ := by decide +kernel
def own_exp (v b : Int32) : Int32 := if b = 0 then (v &&& (255 : Int32)).toInt8.toInt32 else ((255 : Int32) - (v &&& (255 : Int32))).toInt8.toInt32
theorem own_not (x : Int32) : (x ^^^ (-1 : Int32)).toInt = -x.toInt - 1 := by
  have e : x ^^^ (-1 : Int32) = ~~~x := by
    apply Int32.toBitVec_inj.mp
    show x.toBitVec ^^^ BitVec.allOnes 32 = ~~~x.toBitVec
    exact BitVec.xor_allOnes
  rw [e, Int32.not_eq_neg_sub]
  have a := c_ineg x
  have b := c_isub (-x) 1
  have z : (1 : Int32).toInt = 1 := by decide
  have r := rng32 (-x - 1)
  have r2 := rng32 x
  omega
theorem own_exp0 (x : Int32) : (x.toInt8.toInt32 ^^^ (-(0 : Int32))).toInt8.toInt32 = own_exp x.toInt8.toInt32 0 := by
  have e : x.toInt8.toInt32 ^^^ (-(0 : Int32)) = x.toInt8.toInt32 := by
    rw [show (-(0 : Int32)) = 0 by decide]; exact Int32.xor_zero
  rw [e]
  unfold own_exp
  rw [if_pos rfl]
  apply own_int32
  have a1 := c_i2b x.toInt8.toInt32
  have a2 := c_i2b (x.toInt8.toInt32 &&& (255 : Int32))
  have a3 := c_mask x.toInt8.toInt32 255 8 (by decide) (by decide)
  have p : ((2 ^ 8 : Nat) : Int) = 256 := by decide
  rw [p] at a3
  omega
theorem own_exp1 (x : Int32) : (x.toInt8.toInt32 ^^^ (-(1 : Int32))).toInt8.toInt32 = own_exp x.toInt8.toInt32 1 := by
  have e := own_not x.toInt8.toInt32
  have u : own_exp x.toInt8.toInt32 1 = ((255 : Int32) - (x.toInt8.toInt32 &&& (255 : Int32))).toInt8.toInt32 := if_neg (by decide)
  rw [u]
  apply own_int32
  rw [show (-(1 : Int32)) = (-1 : Int32) from rfl]
  have a1 := c_i2b (x.toInt8.toInt32 ^^^ (-1 : Int32))
  have a2 := c_i2b ((255 : Int32) - (x.toInt8.toInt32 &&& (255 : Int32)))
  have a3 := c_mask x.toInt8.toInt32 255 8 (by decide) (by decide)
  have a4 := c_isub (255 : Int32) (x.toInt8.toInt32 &&& (255 : Int32))
  have z : (255 : Int32).toInt = 255 := by decide
  have p : ((2 ^ 8 : Nat) : Int) = 256 := by decide
  rw [p] at a3
  omega
def own_x3 (x y z : Int32) : Prop := (x = 0 ∧ y = 0 ∧ z = 0) ∨ (x = 0 ∧ y = 1 ∧ z = 1) ∨ (x = 1 ∧ y = 0 ∧ z = 1) ∨ (x = 1 ∧ y = 1 ∧ z = 0)
theorem own_ef6 (m : MethodId) (x0 : Int32) (x1 : Int32) : entryFrame m #[(.int x0), (.int x1)] 3 = mkF m 0 #[.val (.int x0), .val (.int x1), .unset] [] := by first | (simp [entryFrame, mkF, argsToLocals, Value.category]; done) | rfl
theorem own_pn6 : plainFor (⟨"com/example/lexorder/lexorder/ByteReaderNextPinLaw", "expected", "(BZ)B"⟩ : MethodName) = true := plainFor_of_name (by first | (simp [plainName, overriddenIn]; done) | decide +kernel)
set_option maxRecDepth 65536 in
set_option maxHeartbeats 40000000 in
theorem ce {Z : State} {a0 : Array Value} (hw : ∀ d ∈ tables_1, d.before a0 Z = true) (v b : Int32) (h : Heap) (n0 : Nat) :
    oCon Z (⟨"com/example/lexorder/lexorder/ByteReaderNextPinLaw", "expected", "(BZ)B"⟩ : MethodName) method_2_code 3 (some .byte) ({ frames := 0, cells := 0, slots := 0, locals := 0 } : Room) #[(.int v), (.int b)] h n0 (fun u h' => u = some (.int (own_exp v b)) ∧ h' = h) := by
  refine oCon.of own_pn6 (fun m => own_ef6 m v b) ?_
  show oGo Z _ _ _ _ _ _ n0 _ 0 0 h 0 #[.val (.int v), .val (.int b), .unset] []
  refine oGo.iloadN (q := 1) d6_0 rfl rfl ?_
  refine oGo.sipush (q := 4) (v := (255 : Int32)) d6_1 rfl rfl ?_
  refine oGo.iand (q := 5) d6_4 rfl ?_
  refine oGo.istoreN (q := 6) (L' := #[.val (.int v), .val (.int b), .val (.int (v &&& (255 : Int32)))]) d6_5 rfl rfl ?_
  refine oGo.iloadN (q := 7) d6_6 rfl rfl ?_
  refine oGo.if_eq (q := 17) (r := 10) d6_7 (by decide) rfl (fun hc => ?_) (fun hc => ?_)
  · skip
    refine oGo.iloadN (q := 18) d6_17 rfl rfl ?_
    refine oGo.i2b (q := 19) d6_18 rfl ?_
    exact oGo.retN (t := .byte) d6_19 rfl (by simp) (by decide) (by decide) (⟨by unfold own_exp; rw [if_pos hc]; exact congrArg (fun z => some (Value.int z)) (own_bb _), rfl⟩)
  · skip
    refine oGo.sipush (q := 13) (v := (255 : Int32)) d6_10 rfl rfl ?_
    refine oGo.iloadN (q := 14) d6_13 rfl rfl ?_
    refine oGo.isub (q := 15) d6_14 rfl ?_
    refine oGo.i2b (q := 16) d6_15 rfl ?_
    exact oGo.retN (t := .byte) d6_16 rfl (by simp) (by decide) (by decide) (⟨by unfold own_exp; rw [if_neg hc]; exact congrArg (fun z => some (Value.int z)) (own_bb _), rfl⟩)
theorem own_ef0 (m : MethodId) (x0 : Int32) (x1 : Int32) (x2 : Int32) (x3 : Int32) : entryFrame m #[(.int x0), (.int x1), (.int x2), (.int x3)] maxLocals = mkF m 0 #[.val (.int x0), .val (.int x1), .val (.int x2), .val (.int x3), .unset, .unset, .unset, .unset, .unset, .unset, .unset, .unset, .unset, .unset, .unset, .unset] [] := by first | (simp [entryFrame, mkF, argsToLocals, Value.category, maxLocals]; done) | rfl
theorem own_pn0 : plainFor x = true := plainFor_of_name (by first | (simp [plainName, overriddenIn, x]; done) | decide +kernel)
set_option maxRecDepth 65536 in
set_option maxHeartbeats 40000000 in
theorem law {Z : State} {a0 : Array Value} (hw : ∀ d ∈ tables_1, d.before a0 Z = true) (p0 p1 p2 p3 : Int32) (h : Heap) (n0 : Nat) (Z0 : n0 ≤ h.size) :
    oCon Z x code maxLocals ret room_1 #[(.int p0), (.int p1), (.int p2), (.int p3)] h n0 (fun v _ => v = some (.int 1)) := by
  refine oCon.of own_pn0 (fun m => own_ef0 m p0 p1 p2 p3) ?_
  show oGo Z _ _ _ _ _ _ n0 _ 0 0 h 0 #[.val (.int p0), .val (.int p1), .val (.int p2), .val (.int p3), .unset, .unset, .unset, .unset, .unset, .unset, .unset, .unset, .unset, .unset, .unset, .unset] []
  refine oGo.iconst (q := 1) (v := (3 : Int32)) at_0 rfl rfl ?_
  refine oGo.newP (q := 3) (len := 3) 3 at_1 rfl (hw _ (List.mem_of_getElem? (i := 0) rfl)) rfl (by first | decide | omega) (by decide) (by decide) (by decide) (ad := "[B") rfl ?_
  intro h9 a g9 K9 A9 E9
  have ge_a : n0 ≤ a := Nat.le_trans Z0 (Nat.le_of_eq g9.symm)
  have Z0_ := Nat.le_trans Z0 K9.1
  replace A9 : Ars Z h9 a .byte [(.int (0 : Int32)), (.int (0 : Int32)), (.int (0 : Int32))] := A9
  show oGo Z _ _ _ _ _ _ n0 _ 1 3 h9 3 #[.val (.int p0), .val (.int p1), .val (.int p2), .val (.int p3), .unset, .unset, .unset, .unset, .unset, .unset, .unset, .unset, .unset, .unset, .unset, .unset] [(.ref a)]
  refine oGo.astore (q := 5) (L' := #[.val (.int p0), .val (.int p1), .val (.int p2), .val (.int p3), .val (.ref a), .unset, .unset, .unset, .unset, .unset, .unset, .unset, .unset, .unset, .unset, .unset]) at_3 rfl rfl rfl ?_
  refine oGo.aload (q := 7) at_5 rfl rfl rfl ?_
  refine oGo.iconst (q := 8) (v := (0 : Int32)) at_7 rfl rfl ?_
  refine oGo.iloadN (q := 9) at_8 rfl rfl ?_
  refine oGo.i2b (q := 10) at_9 rfl ?_
  refine oGo.bastore (q := 11) (i := 0) (y := p0.toInt8.toInt32) at_10 rfl A9 rfl (Nat.le_of_ble_eq_true rfl) ge_a (own_bb _) ?_
  intro h10 K10 A10
  replace A10 : Ars Z h10 a .byte [(.int p0.toInt8.toInt32), (.int (0 : Int32)), (.int (0 : Int32))] := A10
  have E9_ := Exa.keep E9 K10
  have Z0__ := Nat.le_trans Z0_ K10.1
  show oGo Z _ _ _ _ _ _ n0 _ 1 3 h10 11 #[.val (.int p0), .val (.int p1), .val (.int p2), .val (.int p3), .val (.ref a), .unset, .unset, .unset, .unset, .unset, .unset, .unset, .unset, .unset, .unset, .unset] []
  refine oGo.aload (q := 13) at_11 rfl rfl rfl ?_
  refine oGo.iconst (q := 14) (v := (1 : Int32)) at_13 rfl rfl ?_
  refine oGo.iloadN (q := 15) at_14 rfl rfl ?_
  refine oGo.i2b (q := 16) at_15 rfl ?_
  refine oGo.bastore (q := 17) (i := 1) (y := p1.toInt8.toInt32) at_16 rfl A10 rfl (Nat.le_of_ble_eq_true rfl) ge_a (own_bb _) ?_
  intro h11 K11 A11
  replace A11 : Ars Z h11 a .byte [(.int p0.toInt8.toInt32), (.int p1.toInt8.toInt32), (.int (0 : Int32))] := A11
  have E9__ := Exa.keep E9_ K11
  have Z0___ := Nat.le_trans Z0__ K11.1
  show oGo Z _ _ _ _ _ _ n0 _ 1 3 h11 17 #[.val (.int p0), .val (.int p1), .val (.int p2), .val (.int p3), .val (.ref a), .unset, .unset, .unset, .unset, .unset, .unset, .unset, .unset, .unset, .unset, .unset] []
  refine oGo.aload (q := 19) at_17 rfl rfl rfl ?_
  refine oGo.iconst (q := 20) (v := (2 : Int32)) at_19 rfl rfl ?_
  refine oGo.iloadN (q := 21) at_20 rfl rfl ?_
  refine oGo.i2b (q := 22) at_21 rfl ?_
  refine oGo.bastore (q := 23) (i := 2) (y := p2.toInt8.toInt32) at_22 rfl A11 rfl (Nat.le_of_ble_eq_true rfl) ge_a (own_bb _) ?_
  intro h12 K12 A12
  replace A12 : Ars Z h12 a .byte [(.int p0.toInt8.toInt32), (.int p1.toInt8.toInt32), (.int p2.toInt8.toInt32)] := A12
  have E9___ := Exa.keep E9__ K12
  have Z0____ := Nat.le_trans Z0___ K12.1
  show oGo Z _ _ _ _ _ _ n0 _ 1 3 h12 23 #[.val (.int p0), .val (.int p1), .val (.int p2), .val (.int p3), .val (.ref a), .unset, .unset, .unset, .unset, .unset, .unset, .unset, .unset, .unset, .unset, .unset] []
  refine oGo.iloadN (q := 24) at_23 rfl rfl ?_
  refine oGo.iconst (q := 25) (v := (1 : Int32)) at_24 rfl rfl ?_
  refine oGo.iand (q := 26) at_25 rfl ?_
  have J60 : ∀ b0 b1 b2 : Int32, (b0 = 0 ∨ b0 = 1) → (b1 = 0 ∨ b1 = 1) → (b2 = 0 ∨ b2 = 1) → oGo Z x.cls x.name code maxLocals ret room_1 n0 (fun v _ => v = some (.int 1)) 1 3 h12 60 #[.val (.int p0), .val (.int p1), .val (.int p2), .val (.int p3), .val (.ref a), .val (.int b0), .val (.int b1), .unset, .unset, .unset, .unset, .unset, .unset, .unset, .unset, .unset] [(.int b2)] := by
    intro b0 b1 b2 hb0 hb1 hb2
    refine oGo.istore (q := 62) (L' := #[.val (.int p0), .val (.int p1), .val (.int p2), .val (.int p3), .val (.ref a), .val (.int b0), .val (.int b1), .val (.int b2), .unset, .unset, .unset, .unset, .unset, .unset, .unset, .unset]) at_60 rfl rfl ?_
    refine oGo.iload (q := 64) at_62 rfl rfl ?_
    refine oGo.istore (q := 66) (L' := #[.val (.int p0), .val (.int p1), .val (.int p2), .val (.int p3), .val (.ref a), .val (.int b0), .val (.int b1), .val (.int b2), .val (.int b0), .unset, .unset, .unset, .unset, .unset, .unset, .unset]) at_64 rfl rfl ?_
    have J92 : ∀ m1 m2 : Int32, own_x3 b0 b1 m1 → own_x3 m1 b2 m2 → oGo Z x.cls x.name code maxLocals ret room_1 n0 (fun v _ => v = some (.int 1)) 1 3 h12 92 #[.val (.int p0), .val (.int p1), .val (.int p2), .val (.int p3), .val (.ref a), .val (.int b0), .val (.int b1), .val (.int b2), .val (.int b0), .val (.int m1), .unset, .unset, .unset, .unset, .unset, .unset] [(.int m2)] := by
      intro m1 m2 hm1 hm2
      refine oGo.istore (q := 94) (L' := #[.val (.int p0), .val (.int p1), .val (.int p2), .val (.int p3), .val (.ref a), .val (.int b0), .val (.int b1), .val (.int b2), .val (.int b0), .val (.int m1), .val (.int m2), .unset, .unset, .unset, .unset, .unset]) at_92 rfl rfl ?_
      refine oGo.newO (q := 97) at_94 rfl (hw _ (List.mem_of_getElem? (i := 1) rfl)) (hw _ (List.mem_of_getElem? (i := 2) rfl)) (hw _ (List.mem_of_getElem? (i := 3) rfl)) (by decide) (by decide) ?_
      intro h13 r g13 K13 E13 D13
      have ne_a_r : a ≠ r := Nat.ne_of_lt (Nat.lt_of_lt_of_eq (E9___.lt) g13.symm)
      have ge_r : n0 ≤ r := Nat.le_trans Z0____ (Nat.le_of_eq g13.symm)
      have E9____ := Exa.keep E9___ K13
      have A12_ := Ars.keep A12 K13 nin0
      have Z0_____ := Nat.le_trans Z0____ K13.1
      have F13_bytes := D13 (Or.inr (hw _ (List.mem_of_getElem? (i := 17) rfl))) (ty := (.array .byte)) (by decide)
      have F13_position := D13 (Or.inl (hw _ (List.mem_of_getElem? (i := 31) rfl))) (ty := .int) (by decide)
      have F13_mask := D13 (Or.inl (hw _ (List.mem_of_getElem? (i := 24) rfl))) (ty := .byte) (by decide)
      show oGo Z _ _ _ _ _ _ n0 _ 2 6 h13 97 #[.val (.int p0), .val (.int p1), .val (.int p2), .val (.int p3), .val (.ref a), .val (.int b0), .val (.int b1), .val (.int b2), .val (.int b0), .val (.int m1), .val (.int m2), .unset, .unset, .unset, .unset, .unset] [(.ref r)]
      refine oGo.dup (q := 98) at_97 rfl rfl ?_
      refine oGo.aload (q := 100) at_98 rfl rfl rfl ?_
      refine oGo.callI (W := 1) (rm := ({ frames := 1, cells := 0, slots := 0, locals := 13 } : Room)) (q := 103) (a := r) [(.ref a)] [(.ref r)] at_100 rfl rfl (hw _ (List.mem_of_getElem? (i := 4) rfl)) (hw _ (List.mem_of_getElem? (i := 5) rfl)) (hw _ (List.mem_of_getElem? (i := 3) rfl)) (hw _ (List.mem_of_getElem? (i := 6) rfl)) (by decide) (ci hw r a h13 n0 ge_r ⟨E13, F13_bytes, F13_position, F13_mask⟩ E9____) rfl rfl own_pd0 rfl rfl (Nat.le_of_eq rfl) (by decide) (by decide) (by decide) (by decide) ?_
      rintro _ h14 ⟨rfl, K, O⟩
      show oGo Z _ _ _ _ _ _ n0 _ 2 6 h14 103 #[.val (.int p0), .val (.int p1), .val (.int p2), .val (.int p3), .val (.ref a), .val (.int b0), .val (.int b1), .val (.int b2), .val (.int b0), .val (.int m1), .val (.int m2), .unset, .unset, .unset, .unset, .unset] [(.ref r)]
      have E9_____ := Exa.keep E9____ K
      have A12__ := Ars.keep A12_ K (ninS ne_a_r nin0)
      have Z0______ := Nat.le_trans Z0_____ K.1
      refine oGo.astore (q := 105) (L' := #[.val (.int p0), .val (.int p1), .val (.int p2), .val (.int p3), .val (.ref a), .val (.int b0), .val (.int b1), .val (.int b2), .val (.int b0), .val (.int m1), .val (.int m2), .val (.ref r), .unset, .unset, .unset, .unset]) at_103 rfl rfl rfl ?_
      have nar : a ≠ r := ne_a_r
      have gr : n0 ≤ r := ge_r
      have S200 : ∀ (hh : Heap) (xa ya za : Int32) (s5 s6 s8 s9 s12 s14 : Slot), own_x3 xa ya za → own_br Z hh r (.ref a) (.int (2 : Int32)) (.int (-xa)) → Ars Z hh a .byte [(.int p0.toInt8.toInt32), (.int p1.toInt8.toInt32), (.int p2.toInt8.toInt32)] → oGo Z x.cls x.name code maxLocals ret room_1 n0 (fun v _ => v = some (.int 1)) 2 6 hh 200 #[.val (.int p0), .val (.int p1), .val (.int p2), .val (.int p3), .val (.ref a), s5, s6, .val (.int ya), s8, s9, .val (.int za), .val (.ref r), s12, .val (.int (1 : Int32)), s14, .unset] [] := by
        intro hh xa ya za s5 s6 s8 s9 s12 s14 hx O A
        rcases hx with ⟨rfl, rfl, rfl⟩ | ⟨rfl, rfl, rfl⟩ | ⟨rfl, rfl, rfl⟩ | ⟨rfl, rfl, rfl⟩
        · skip -- 0 0 0
          refine oGo.iload (q := 202) at_200 rfl rfl ?_
          refine oGo.if_eq (q := 210) (r := 205) at_202 (by decide) rfl (fun hc => ?_) (fun hc => absurd rfl hc)
          refine oGo.aload (q := 212) at_210 rfl rfl rfl ?_
          refine oGo.callV (W := 0) (rm := ({ frames := 0, cells := 0, slots := 0, locals := 0 } : Room)) (q := 215) (a := r) [] [] at_212 rfl (hw _ (List.mem_of_getElem? (i := 25) rfl)) (hw _ (List.mem_of_getElem? (i := 26) rfl)) (hw _ (List.mem_of_getElem? (i := 28) rfl)) (hw _ (List.mem_of_getElem? (i := 27) rfl)) (hw _ (List.mem_of_getElem? (i := 3) rfl)) (hw _ (List.mem_of_getElem? (i := 29) rfl)) rfl (by decide) (O.1) (cx hw r a (2 : Int32) (3 : Int32) (-(0 : Int32)) p2.toInt8.toInt32 (own_exp p2.toInt8.toInt32 0) 2 [(.int p0.toInt8.toInt32), (.int p1.toInt8.toInt32), (.int p2.toInt8.toInt32)] hh n0 gr nar O A rfl rfl (by decide) (own_exp0 p2)) rfl rfl own_pd3 rfl rfl (Nat.le_of_eq rfl) (by decide) (by decide) (by decide) (by decide) ?_
          rintro _ h15 ⟨rfl, K2, O2⟩
          show oGo Z _ _ _ _ _ _ n0 _ 2 6 h15 215 #[.val (.int p0), .val (.int p1), .val (.int p2), .val (.int p3), .val (.ref a), s5, s6, .val (.int (0 : Int32)), s8, s9, .val (.int (0 : Int32)), .val (.ref r), s12, .val (.int (1 : Int32)), s14, .unset] [(.int (own_exp p2.toInt8.toInt32 0))]
          have A2 := Ars.keep A K2 (ninS nar nin0)
          refine oGo.istore (q := 217) (L' := #[.val (.int p0), .val (.int p1), .val (.int p2), .val (.int p3), .val (.ref a), s5, s6, .val (.int (0 : Int32)), s8, s9, .val (.int (0 : Int32)), .val (.ref r), s12, .val (.int (1 : Int32)), s14, .val (.int (own_exp p2.toInt8.toInt32 0))]) at_215 rfl rfl ?_
          refine oGo.iload (q := 219) at_217 rfl rfl ?_
          refine oGo.if_eq (q := 247) (r := 222) at_219 (by decide) rfl (fun hc => absurd hc (by decide)) (fun hc => ?_)
          refine oGo.iload (q := 224) at_222 rfl rfl ?_
          refine oGo.iloadN (q := 225) at_224 rfl rfl ?_
          refine oGo.i2b (q := 226) at_225 rfl ?_
          refine oGo.iload (q := 228) at_226 rfl rfl ?_
          refine oGo.callS (W := 1) (rm := ({ frames := 0, cells := 0, slots := 0, locals := 0 } : Room)) (q := 231) [(.int p2.toInt8.toInt32), (.int (0 : Int32))] [(.int (own_exp p2.toInt8.toInt32 0))] at_228 rfl (hw _ (List.mem_of_getElem? (i := 32) rfl)) (hw _ (List.mem_of_getElem? (i := 33) rfl)) (hw _ (List.mem_of_getElem? (i := 34) rfl)) (hw _ (List.mem_of_getElem? (i := 35) rfl)) (by decide) (ce hw p2.toInt8.toInt32 (0 : Int32) h15 n0) rfl rfl own_pd5 rfl rfl (Nat.le_of_eq rfl) (by decide) (by decide) (by decide) (by decide) ?_
          rintro _ h16 ⟨rfl, eh⟩
          all_goals subst h16
          show oGo Z _ _ _ _ _ _ n0 _ 2 6 h15 231 #[.val (.int p0), .val (.int p1), .val (.int p2), .val (.int p3), .val (.ref a), s5, s6, .val (.int (0 : Int32)), s8, s9, .val (.int (0 : Int32)), .val (.ref r), s12, .val (.int (1 : Int32)), s14, .val (.int (own_exp p2.toInt8.toInt32 0))] [(.int (own_exp p2.toInt8.toInt32 (0 : Int32))), (.int (own_exp p2.toInt8.toInt32 0))]
          refine oGo.icmp_ne (q := 247) (r := 234) at_231 (by decide) rfl (fun hc => absurd rfl hc) (fun hc => ?_)
          refine oGo.aload (q := 236) at_234 rfl rfl rfl ?_
          refine oGo.callV (W := 0) (rm := ({ frames := 0, cells := 0, slots := 0, locals := 0 } : Room)) (q := 239) (a := r) [] [] at_236 rfl (hw _ (List.mem_of_getElem? (i := 36) rfl)) (hw _ (List.mem_of_getElem? (i := 37) rfl)) (hw _ (List.mem_of_getElem? (i := 39) rfl)) (hw _ (List.mem_of_getElem? (i := 38) rfl)) (hw _ (List.mem_of_getElem? (i := 3) rfl)) (hw _ (List.mem_of_getElem? (i := 40) rfl)) rfl (by decide) (O2.1) (cp hw r (.ref a) (.int (-(0 : Int32))) (3 : Int32) h15 n0 O2) rfl rfl own_pd4 rfl rfl (Nat.le_of_eq rfl) (by decide) (by decide) (by decide) (by decide) ?_
          rintro _ h17 ⟨rfl, eh⟩
          all_goals subst h17
          show oGo Z _ _ _ _ _ _ n0 _ 2 6 h15 239 #[.val (.int p0), .val (.int p1), .val (.int p2), .val (.int p3), .val (.ref a), s5, s6, .val (.int (0 : Int32)), s8, s9, .val (.int (0 : Int32)), .val (.ref r), s12, .val (.int (1 : Int32)), s14, .val (.int (own_exp p2.toInt8.toInt32 0))] [(.int (3 : Int32))]
          refine oGo.iconst (q := 240) (v := (3 : Int32)) at_239 rfl rfl ?_
          refine oGo.icmp_ne (q := 247) (r := 243) at_240 (by decide) rfl (fun hc => absurd rfl hc) (fun hc => ?_)
          refine oGo.iconst (q := 244) (v := (1 : Int32)) at_243 rfl rfl ?_
          refine oGo.goto (q := 248) at_244 (by decide) ?_
          refine oGo.istore (q := 250) (L' := #[.val (.int p0), .val (.int p1), .val (.int p2), .val (.int p3), .val (.ref a), s5, s6, .val (.int (0 : Int32)), s8, s9, .val (.int (0 : Int32)), .val (.ref r), s12, .val (.int (1 : Int32)), s14, .val (.int (own_exp p2.toInt8.toInt32 0))]) at_248 rfl rfl ?_
          refine oGo.iload (q := 252) at_250 rfl rfl ?_
          exact oGo.retN (t := .boolean) at_252 rfl (by simp) (by decide) (by decide) (rfl)
        · skip -- 0 1 1
          refine oGo.iload (q := 202) at_200 rfl rfl ?_
          refine oGo.if_eq (q := 210) (r := 205) at_202 (by decide) rfl (fun hc => absurd hc (by decide)) (fun hc => ?_)
          refine oGo.aload (q := 207) at_205 rfl rfl rfl ?_
          refine oGo.callV (W := 0) (rm := ({ frames := 0, cells := 0, slots := 0, locals := 0 } : Room)) (q := 210) (a := r) [] [] at_207 rfl (hw _ (List.mem_of_getElem? (i := 18) rfl)) (hw _ (List.mem_of_getElem? (i := 19) rfl)) (hw _ (List.mem_of_getElem? (i := 21) rfl)) (hw _ (List.mem_of_getElem? (i := 20) rfl)) (hw _ (List.mem_of_getElem? (i := 3) rfl)) (hw _ (List.mem_of_getElem? (i := 22) rfl)) rfl (by decide) (O.1) (cv hw r (.ref a) (.int (2 : Int32)) (-(0 : Int32)) (-(1 : Int32)) hh n0 gr O (by decide)) rfl rfl own_pd2 rfl rfl (Nat.le_of_eq rfl) (by decide) (by decide) (by decide) (by decide) ?_
          rintro _ h18 ⟨rfl, K1, O1⟩
          show oGo Z _ _ _ _ _ _ n0 _ 2 6 h18 210 #[.val (.int p0), .val (.int p1), .val (.int p2), .val (.int p3), .val (.ref a), s5, s6, .val (.int (1 : Int32)), s8, s9, .val (.int (1 : Int32)), .val (.ref r), s12, .val (.int (1 : Int32)), s14, .unset] []
          have A1 := Ars.keep A K1 (ninS nar nin0)
          refine oGo.aload (q := 212) at_210 rfl rfl rfl ?_
          refine oGo.callV (W := 0) (rm := ({ frames := 0, cells := 0, slots := 0, locals := 0 } : Room)) (q := 215) (a := r) [] [] at_212 rfl (hw _ (List.mem_of_getElem? (i := 25) rfl)) (hw _ (List.mem_of_getElem? (i := 26) rfl)) (hw _ (List.mem_of_getElem? (i := 28) rfl)) (hw _ (List.mem_of_getElem? (i := 27) rfl)) (hw _ (List.mem_of_getElem? (i := 3) rfl)) (hw _ (List.mem_of_getElem? (i := 29) rfl)) rfl (by decide) (O1.1) (cx hw r a (2 : Int32) (3 : Int32) (-(1 : Int32)) p2.toInt8.toInt32 (own_exp p2.toInt8.toInt32 1) 2 [(.int p0.toInt8.toInt32), (.int p1.toInt8.toInt32), (.int p2.toInt8.toInt32)] h18 n0 gr nar O1 A1 rfl rfl (by decide) (own_exp1 p2)) rfl rfl own_pd3 rfl rfl (Nat.le_of_eq rfl) (by decide) (by decide) (by decide) (by decide) ?_
          rintro _ h19 ⟨rfl, K2, O2⟩
          show oGo Z _ _ _ _ _ _ n0 _ 2 6 h19 215 #[.val (.int p0), .val (.int p1), .val (.int p2), .val (.int p3), .val (.ref a), s5, s6, .val (.int (1 : Int32)), s8, s9, .val (.int (1 : Int32)), .val (.ref r), s12, .val (.int (1 : Int32)), s14, .unset] [(.int (own_exp p2.toInt8.toInt32 1))]
          have A2 := Ars.keep A1 K2 (ninS nar nin0)
          refine oGo.istore (q := 217) (L' := #[.val (.int p0), .val (.int p1), .val (.int p2), .val (.int p3), .val (.ref a), s5, s6, .val (.int (1 : Int32)), s8, s9, .val (.int (1 : Int32)), .val (.ref r), s12, .val (.int (1 : Int32)), s14, .val (.int (own_exp p2.toInt8.toInt32 1))]) at_215 rfl rfl ?_
          refine oGo.iload (q := 219) at_217 rfl rfl ?_
          refine oGo.if_eq (q := 247) (r := 222) at_219 (by decide) rfl (fun hc => absurd hc (by decide)) (fun hc => ?_)
          refine oGo.iload (q := 224) at_222 rfl rfl ?_
          refine oGo.iloadN (q := 225) at_224 rfl rfl ?_
          refine oGo.i2b (q := 226) at_225 rfl ?_
          refine oGo.iload (q := 228) at_226 rfl rfl ?_
          refine oGo.callS (W := 1) (rm := ({ frames := 0, cells := 0, slots := 0, locals := 0 } : Room)) (q := 231) [(.int p2.toInt8.toInt32), (.int (1 : Int32))] [(.int (own_exp p2.toInt8.toInt32 1))] at_228 rfl (hw _ (List.mem_of_getElem? (i := 32) rfl)) (hw _ (List.mem_of_getElem? (i := 33) rfl)) (hw _ (List.mem_of_getElem? (i := 34) rfl)) (hw _ (List.mem_of_getElem? (i := 35) rfl)) (by decide) (ce hw p2.toInt8.toInt32 (1 : Int32) h19 n0) rfl rfl own_pd5 rfl rfl (Nat.le_of_eq rfl) (by decide) (by decide) (by decide) (by decide) ?_
          rintro _ h20 ⟨rfl, eh⟩
          all_goals subst h20
          show oGo Z _ _ _ _ _ _ n0 _ 2 6 h19 231 #[.val (.int p0), .val (.int p1), .val (.int p2), .val (.int p3), .val (.ref a), s5, s6, .val (.int (1 : Int32)), s8, s9, .val (.int (1 : Int32)), .val (.ref r), s12, .val (.int (1 : Int32)), s14, .val (.int (own_exp p2.toInt8.toInt32 1))] [(.int (own_exp p2.toInt8.toInt32 (1 : Int32))), (.int (own_exp p2.toInt8.toInt32 1))]
          refine oGo.icmp_ne (q := 247) (r := 234) at_231 (by decide) rfl (fun hc => absurd rfl hc) (fun hc => ?_)
          refine oGo.aload (q := 236) at_234 rfl rfl rfl ?_
          refine oGo.callV (W := 0) (rm := ({ frames := 0, cells := 0, slots := 0, locals := 0 } : Room)) (q := 239) (a := r) [] [] at_236 rfl (hw _ (List.mem_of_getElem? (i := 36) rfl)) (hw _ (List.mem_of_getElem? (i := 37) rfl)) (hw _ (List.mem_of_getElem? (i := 39) rfl)) (hw _ (List.mem_of_getElem? (i := 38) rfl)) (hw _ (List.mem_of_getElem? (i := 3) rfl)) (hw _ (List.mem_of_getElem? (i := 40) rfl)) rfl (by decide) (O2.1) (cp hw r (.ref a) (.int (-(1 : Int32))) (3 : Int32) h19 n0 O2) rfl rfl own_pd4 rfl rfl (Nat.le_of_eq rfl) (by decide) (by decide) (by decide) (by decide) ?_
          rintro _ h21 ⟨rfl, eh⟩
          all_goals subst h21
          show oGo Z _ _ _ _ _ _ n0 _ 2 6 h19 239 #[.val (.int p0), .val (.int p1), .val (.int p2), .val (.int p3), .val (.ref a), s5, s6, .val (.int (1 : Int32)), s8, s9, .val (.int (1 : Int32)), .val (.ref r), s12, .val (.int (1 : Int32)), s14, .val (.int (own_exp p2.toInt8.toInt32 1))] [(.int (3 : Int32))]
          refine oGo.iconst (q := 240) (v := (3 : Int32)) at_239 rfl rfl ?_
          refine oGo.icmp_ne (q := 247) (r := 243) at_240 (by decide) rfl (fun hc => absurd rfl hc) (fun hc => ?_)
          refine oGo.iconst (q := 244) (v := (1 : Int32)) at_243 rfl rfl ?_
          refine oGo.goto (q := 248) at_244 (by decide) ?_
          refine oGo.istore (q := 250) (L' := #[.val (.int p0), .val (.int p1), .val (.int p2), .val (.int p3), .val (.ref a), s5, s6, .val (.int (1 : Int32)), s8, s9, .val (.int (1 : Int32)), .val (.ref r), s12, .val (.int (1 : Int32)), s14, .val (.int (own_exp p2.toInt8.toInt32 1))]) at_248 rfl rfl ?_
          refine oGo.iload (q := 252) at_250 rfl rfl ?_
          exact oGo.retN (t := .boolean) at_252 rfl (by simp) (by decide) (by decide) (rfl)
        · skip -- 1 0 1
          refine oGo.iload (q := 202) at_200 rfl rfl ?_
          refine oGo.if_eq (q := 210) (r := 205) at_202 (by decide) rfl (fun hc => ?_) (fun hc => absurd rfl hc)
          refine oGo.aload (q := 212) at_210 rfl rfl rfl ?_
          refine oGo.callV (W := 0) (rm := ({ frames := 0, cells := 0, slots := 0, locals := 0 } : Room)) (q := 215) (a := r) [] [] at_212 rfl (hw _ (List.mem_of_getElem? (i := 25) rfl)) (hw _ (List.mem_of_getElem? (i := 26) rfl)) (hw _ (List.mem_of_getElem? (i := 28) rfl)) (hw _ (List.mem_of_getElem? (i := 27) rfl)) (hw _ (List.mem_of_getElem? (i := 3) rfl)) (hw _ (List.mem_of_getElem? (i := 29) rfl)) rfl (by decide) (O.1) (cx hw r a (2 : Int32) (3 : Int32) (-(1 : Int32)) p2.toInt8.toInt32 (own_exp p2.toInt8.toInt32 1) 2 [(.int p0.toInt8.toInt32), (.int p1.toInt8.toInt32), (.int p2.toInt8.toInt32)] hh n0 gr nar O A rfl rfl (by decide) (own_exp1 p2)) rfl rfl own_pd3 rfl rfl (Nat.le_of_eq rfl) (by decide) (by decide) (by decide) (by decide) ?_
          rintro _ h22 ⟨rfl, K2, O2⟩
          show oGo Z _ _ _ _ _ _ n0 _ 2 6 h22 215 #[.val (.int p0), .val (.int p1), .val (.int p2), .val (.int p3), .val (.ref a), s5, s6, .val (.int (0 : Int32)), s8, s9, .val (.int (1 : Int32)), .val (.ref r), s12, .val (.int (1 : Int32)), s14, .unset] [(.int (own_exp p2.toInt8.toInt32 1))]
          have A2 := Ars.keep A K2 (ninS nar nin0)
          refine oGo.istore (q := 217) (L' := #[.val (.int p0), .val (.int p1), .val (.int p2), .val (.int p3), .val (.ref a), s5, s6, .val (.int (0 : Int32)), s8, s9, .val (.int (1 : Int32)), .val (.ref r), s12, .val (.int (1 : Int32)), s14, .val (.int (own_exp p2.toInt8.toInt32 1))]) at_215 rfl rfl ?_
          refine oGo.iload (q := 219) at_217 rfl rfl ?_
          refine oGo.if_eq (q := 247) (r := 222) at_219 (by decide) rfl (fun hc => absurd hc (by decide)) (fun hc => ?_)
          refine oGo.iload (q := 224) at_222 rfl rfl ?_
          refine oGo.iloadN (q := 225) at_224 rfl rfl ?_
          refine oGo.i2b (q := 226) at_225 rfl ?_
          refine oGo.iload (q := 228) at_226 rfl rfl ?_
          refine oGo.callS (W := 1) (rm := ({ frames := 0, cells := 0, slots := 0, locals := 0 } : Room)) (q := 231) [(.int p2.toInt8.toInt32), (.int (1 : Int32))] [(.int (own_exp p2.toInt8.toInt32 1))] at_228 rfl (hw _ (List.mem_of_getElem? (i := 32) rfl)) (hw _ (List.mem_of_getElem? (i := 33) rfl)) (hw _ (List.mem_of_getElem? (i := 34) rfl)) (hw _ (List.mem_of_getElem? (i := 35) rfl)) (by decide) (ce hw p2.toInt8.toInt32 (1 : Int32) h22 n0) rfl rfl own_pd5 rfl rfl (Nat.le_of_eq rfl) (by decide) (by decide) (by decide) (by decide) ?_
          rintro _ h23 ⟨rfl, eh⟩
          all_goals subst h23
          show oGo Z _ _ _ _ _ _ n0 _ 2 6 h22 231 #[.val (.int p0), .val (.int p1), .val (.int p2), .val (.int p3), .val (.ref a), s5, s6, .val (.int (0 : Int32)), s8, s9, .val (.int (1 : Int32)), .val (.ref r), s12, .val (.int (1 : Int32)), s14, .val (.int (own_exp p2.toInt8.toInt32 1))] [(.int (own_exp p2.toInt8.toInt32 (1 : Int32))), (.int (own_exp p2.toInt8.toInt32 1))]
          refine oGo.icmp_ne (q := 247) (r := 234) at_231 (by decide) rfl (fun hc => absurd rfl hc) (fun hc => ?_)
          refine oGo.aload (q := 236) at_234 rfl rfl rfl ?_
          refine oGo.callV (W := 0) (rm := ({ frames := 0, cells := 0, slots := 0, locals := 0 } : Room)) (q := 239) (a := r) [] [] at_236 rfl (hw _ (List.mem_of_getElem? (i := 36) rfl)) (hw _ (List.mem_of_getElem? (i := 37) rfl)) (hw _ (List.mem_of_getElem? (i := 39) rfl)) (hw _ (List.mem_of_getElem? (i := 38) rfl)) (hw _ (List.mem_of_getElem? (i := 3) rfl)) (hw _ (List.mem_of_getElem? (i := 40) rfl)) rfl (by decide) (O2.1) (cp hw r (.ref a) (.int (-(1 : Int32))) (3 : Int32) h22 n0 O2) rfl rfl own_pd4 rfl rfl (Nat.le_of_eq rfl) (by decide) (by decide) (by decide) (by decide) ?_
          rintro _ h24 ⟨rfl, eh⟩
          all_goals subst h24
          show oGo Z _ _ _ _ _ _ n0 _ 2 6 h22 239 #[.val (.int p0), .val (.int p1), .val (.int p2), .val (.int p3), .val (.ref a), s5, s6, .val (.int (0 : Int32)), s8, s9, .val (.int (1 : Int32)), .val (.ref r), s12, .val (.int (1 : Int32)), s14, .val (.int (own_exp p2.toInt8.toInt32 1))] [(.int (3 : Int32))]
          refine oGo.iconst (q := 240) (v := (3 : Int32)) at_239 rfl rfl ?_
          refine oGo.icmp_ne (q := 247) (r := 243) at_240 (by decide) rfl (fun hc => absurd rfl hc) (fun hc => ?_)
          refine oGo.iconst (q := 244) (v := (1 : Int32)) at_243 rfl rfl ?_
          refine oGo.goto (q := 248) at_244 (by decide) ?_
          refine oGo.istore (q := 250) (L' := #[.val (.int p0), .val (.int p1), .val (.int p2), .val (.int p3), .val (.ref a), s5, s6, .val (.int (0 : Int32)), s8, s9, .val (.int (1 : Int32)), .val (.ref r), s12, .val (.int (1 : Int32)), s14, .val (.int (own_exp p2.toInt8.toInt32 1))]) at_248 rfl rfl ?_
          refine oGo.iload (q := 252) at_250 rfl rfl ?_
          exact oGo.retN (t := .boolean) at_252 rfl (by simp) (by decide) (by decide) (rfl)
        · skip -- 1 1 0
          refine oGo.iload (q := 202) at_200 rfl rfl ?_
          refine oGo.if_eq (q := 210) (r := 205) at_202 (by decide) rfl (fun hc => absurd hc (by decide)) (fun hc => ?_)
          refine oGo.aload (q := 207) at_205 rfl rfl rfl ?_
          refine oGo.callV (W := 0) (rm := ({ frames := 0, cells := 0, slots := 0, locals := 0 } : Room)) (q := 210) (a := r) [] [] at_207 rfl (hw _ (List.mem_of_getElem? (i := 18) rfl)) (hw _ (List.mem_of_getElem? (i := 19) rfl)) (hw _ (List.mem_of_getElem? (i := 21) rfl)) (hw _ (List.mem_of_getElem? (i := 20) rfl)) (hw _ (List.mem_of_getElem? (i := 3) rfl)) (hw _ (List.mem_of_getElem? (i := 22) rfl)) rfl (by decide) (O.1) (cv hw r (.ref a) (.int (2 : Int32)) (-(1 : Int32)) (-(0 : Int32)) hh n0 gr O (by decide)) rfl rfl own_pd2 rfl rfl (Nat.le_of_eq rfl) (by decide) (by decide) (by decide) (by decide) ?_
          rintro _ h25 ⟨rfl, K1, O1⟩
          show oGo Z _ _ _ _ _ _ n0 _ 2 6 h25 210 #[.val (.int p0), .val (.int p1), .val (.int p2), .val (.int p3), .val (.ref a), s5, s6, .val (.int (1 : Int32)), s8, s9, .val (.int (0 : Int32)), .val (.ref r), s12, .val (.int (1 : Int32)), s14, .unset] []
          have A1 := Ars.keep A K1 (ninS nar nin0)
          refine oGo.aload (q := 212) at_210 rfl rfl rfl ?_
          refine oGo.callV (W := 0) (rm := ({ frames := 0, cells := 0, slots := 0, locals := 0 } : Room)) (q := 215) (a := r) [] [] at_212 rfl (hw _ (List.mem_of_getElem? (i := 25) rfl)) (hw _ (List.mem_of_getElem? (i := 26) rfl)) (hw _ (List.mem_of_getElem? (i := 28) rfl)) (hw _ (List.mem_of_getElem? (i := 27) rfl)) (hw _ (List.mem_of_getElem? (i := 3) rfl)) (hw _ (List.mem_of_getElem? (i := 29) rfl)) rfl (by decide) (O1.1) (cx hw r a (2 : Int32) (3 : Int32) (-(0 : Int32)) p2.toInt8.toInt32 (own_exp p2.toInt8.toInt32 0) 2 [(.int p0.toInt8.toInt32), (.int p1.toInt8.toInt32), (.int p2.toInt8.toInt32)] h25 n0 gr nar O1 A1 rfl rfl (by decide) (own_exp0 p2)) rfl rfl own_pd3 rfl rfl (Nat.le_of_eq rfl) (by decide) (by decide) (by decide) (by decide) ?_
          rintro _ h26 ⟨rfl, K2, O2⟩
          show oGo Z _ _ _ _ _ _ n0 _ 2 6 h26 215 #[.val (.int p0), .val (.int p1), .val (.int p2), .val (.int p3), .val (.ref a), s5, s6, .val (.int (1 : Int32)), s8, s9, .val (.int (0 : Int32)), .val (.ref r), s12, .val (.int (1 : Int32)), s14, .unset] [(.int (own_exp p2.toInt8.toInt32 0))]
          have A2 := Ars.keep A1 K2 (ninS nar nin0)
          refine oGo.istore (q := 217) (L' := #[.val (.int p0), .val (.int p1), .val (.int p2), .val (.int p3), .val (.ref a), s5, s6, .val (.int (1 : Int32)), s8, s9, .val (.int (0 : Int32)), .val (.ref r), s12, .val (.int (1 : Int32)), s14, .val (.int (own_exp p2.toInt8.toInt32 0))]) at_215 rfl rfl ?_
          refine oGo.iload (q := 219) at_217 rfl rfl ?_
          refine oGo.if_eq (q := 247) (r := 222) at_219 (by decide) rfl (fun hc => absurd hc (by decide)) (fun hc => ?_)
          refine oGo.iload (q := 224) at_222 rfl rfl ?_
          refine oGo.iloadN (q := 225) at_224 rfl rfl ?_
          refine oGo.i2b (q := 226) at_225 rfl ?_
          refine oGo.iload (q := 228) at_226 rfl rfl ?_
          refine oGo.callS (W := 1) (rm := ({ frames := 0, cells := 0, slots := 0, locals := 0 } : Room)) (q := 231) [(.int p2.toInt8.toInt32), (.int (0 : Int32))] [(.int (own_exp p2.toInt8.toInt32 0))] at_228 rfl (hw _ (List.mem_of_getElem? (i := 32) rfl)) (hw _ (List.mem_of_getElem? (i := 33) rfl)) (hw _ (List.mem_of_getElem? (i := 34) rfl)) (hw _ (List.mem_of_getElem? (i := 35) rfl)) (by decide) (ce hw p2.toInt8.toInt32 (0 : Int32) h26 n0) rfl rfl own_pd5 rfl rfl (Nat.le_of_eq rfl) (by decide) (by decide) (by decide) (by decide) ?_
          rintro _ h27 ⟨rfl, eh⟩
          all_goals subst h27
          show oGo Z _ _ _ _ _ _ n0 _ 2 6 h26 231 #[.val (.int p0), .val (.int p1), .val (.int p2), .val (.int p3), .val (.ref a), s5, s6, .val (.int (1 : Int32)), s8, s9, .val (.int (0 : Int32)), .val (.ref r), s12, .val (.int (1 : Int32)), s14, .val (.int (own_exp p2.toInt8.toInt32 0))] [(.int (own_exp p2.toInt8.toInt32 (0 : Int32))), (.int (own_exp p2.toInt8.toInt32 0))]
          refine oGo.icmp_ne (q := 247) (r := 234) at_231 (by decide) rfl (fun hc => absurd rfl hc) (fun hc => ?_)
          refine oGo.aload (q := 236) at_234 rfl rfl rfl ?_
          refine oGo.callV (W := 0) (rm := ({ frames := 0, cells := 0, slots := 0, locals := 0 } : Room)) (q := 239) (a := r) [] [] at_236 rfl (hw _ (List.mem_of_getElem? (i := 36) rfl)) (hw _ (List.mem_of_getElem? (i := 37) rfl)) (hw _ (List.mem_of_getElem? (i := 39) rfl)) (hw _ (List.mem_of_getElem? (i := 38) rfl)) (hw _ (List.mem_of_getElem? (i := 3) rfl)) (hw _ (List.mem_of_getElem? (i := 40) rfl)) rfl (by decide) (O2.1) (cp hw r (.ref a) (.int (-(0 : Int32))) (3 : Int32) h26 n0 O2) rfl rfl own_pd4 rfl rfl (Nat.le_of_eq rfl) (by decide) (by decide) (by decide) (by decide) ?_
          rintro _ h28 ⟨rfl, eh⟩
          all_goals subst h28
          show oGo Z _ _ _ _ _ _ n0 _ 2 6 h26 239 #[.val (.int p0), .val (.int p1), .val (.int p2), .val (.int p3), .val (.ref a), s5, s6, .val (.int (1 : Int32)), s8, s9, .val (.int (0 : Int32)), .val (.ref r), s12, .val (.int (1 : Int32)), s14, .val (.int (own_exp p2.toInt8.toInt32 0))] [(.int (3 : Int32))]
          refine oGo.iconst (q := 240) (v := (3 : Int32)) at_239 rfl rfl ?_
          refine oGo.icmp_ne (q := 247) (r := 243) at_240 (by decide) rfl (fun hc => absurd rfl hc) (fun hc => ?_)
          refine oGo.iconst (q := 244) (v := (1 : Int32)) at_243 rfl rfl ?_
          refine oGo.goto (q := 248) at_244 (by decide) ?_
          refine oGo.istore (q := 250) (L' := #[.val (.int p0), .val (.int p1), .val (.int p2), .val (.int p3), .val (.ref a), s5, s6, .val (.int (1 : Int32)), s8, s9, .val (.int (0 : Int32)), .val (.ref r), s12, .val (.int (1 : Int32)), s14, .val (.int (own_exp p2.toInt8.toInt32 0))]) at_248 rfl rfl ?_
          refine oGo.iload (q := 252) at_250 rfl rfl ?_
          exact oGo.retN (t := .boolean) at_252 rfl (by simp) (by decide) (by decide) (rfl)
      have S150 : ∀ (hh : Heap) (xa ya za : Int32) (s5 s8 s12 : Slot), own_x3 xa ya za → own_x3 za b2 m2 → own_br Z hh r (.ref a) (.int (1 : Int32)) (.int (-xa)) → Ars Z hh a .byte [(.int p0.toInt8.toInt32), (.int p1.toInt8.toInt32), (.int p2.toInt8.toInt32)] → oGo Z x.cls x.name code maxLocals ret room_1 n0 (fun v _ => v = some (.int 1)) 2 6 hh 150 #[.val (.int p0), .val (.int p1), .val (.int p2), .val (.int p3), .val (.ref a), s5, .val (.int ya), .val (.int b2), s8, .val (.int za), .val (.int m2), .val (.ref r), s12, .val (.int (1 : Int32)), .unset, .unset] [] := by
        intro hh xa ya za s5 s8 s12 hx hm2 O A
        rcases hx with ⟨rfl, rfl, rfl⟩ | ⟨rfl, rfl, rfl⟩ | ⟨rfl, rfl, rfl⟩ | ⟨rfl, rfl, rfl⟩
        · skip -- 0 0 0
          refine oGo.iload (q := 152) at_150 rfl rfl ?_
          refine oGo.if_eq (q := 160) (r := 155) at_152 (by decide) rfl (fun hc => ?_) (fun hc => absurd rfl hc)
          refine oGo.aload (q := 162) at_160 rfl rfl rfl ?_
          refine oGo.callV (W := 0) (rm := ({ frames := 0, cells := 0, slots := 0, locals := 0 } : Room)) (q := 165) (a := r) [] [] at_162 rfl (hw _ (List.mem_of_getElem? (i := 25) rfl)) (hw _ (List.mem_of_getElem? (i := 26) rfl)) (hw _ (List.mem_of_getElem? (i := 28) rfl)) (hw _ (List.mem_of_getElem? (i := 27) rfl)) (hw _ (List.mem_of_getElem? (i := 3) rfl)) (hw _ (List.mem_of_getElem? (i := 29) rfl)) rfl (by decide) (O.1) (cx hw r a (1 : Int32) (2 : Int32) (-(0 : Int32)) p1.toInt8.toInt32 (own_exp p1.toInt8.toInt32 0) 1 [(.int p0.toInt8.toInt32), (.int p1.toInt8.toInt32), (.int p2.toInt8.toInt32)] hh n0 gr nar O A rfl rfl (by decide) (own_exp0 p1)) rfl rfl own_pd3 rfl rfl (Nat.le_of_eq rfl) (by decide) (by decide) (by decide) (by decide) ?_
          rintro _ h29 ⟨rfl, K2, O2⟩
          show oGo Z _ _ _ _ _ _ n0 _ 2 6 h29 165 #[.val (.int p0), .val (.int p1), .val (.int p2), .val (.int p3), .val (.ref a), s5, .val (.int (0 : Int32)), .val (.int b2), s8, .val (.int (0 : Int32)), .val (.int m2), .val (.ref r), s12, .val (.int (1 : Int32)), .unset, .unset] [(.int (own_exp p1.toInt8.toInt32 0))]
          have A2 := Ars.keep A K2 (ninS nar nin0)
          refine oGo.istore (q := 167) (L' := #[.val (.int p0), .val (.int p1), .val (.int p2), .val (.int p3), .val (.ref a), s5, .val (.int (0 : Int32)), .val (.int b2), s8, .val (.int (0 : Int32)), .val (.int m2), .val (.ref r), s12, .val (.int (1 : Int32)), .val (.int (own_exp p1.toInt8.toInt32 0)), .unset]) at_165 rfl rfl ?_
          refine oGo.iload (q := 169) at_167 rfl rfl ?_
          refine oGo.if_eq (q := 197) (r := 172) at_169 (by decide) rfl (fun hc => absurd hc (by decide)) (fun hc => ?_)
          refine oGo.iload (q := 174) at_172 rfl rfl ?_
          refine oGo.iloadN (q := 175) at_174 rfl rfl ?_
          refine oGo.i2b (q := 176) at_175 rfl ?_
          refine oGo.iload (q := 178) at_176 rfl rfl ?_
          refine oGo.callS (W := 1) (rm := ({ frames := 0, cells := 0, slots := 0, locals := 0 } : Room)) (q := 181) [(.int p1.toInt8.toInt32), (.int (0 : Int32))] [(.int (own_exp p1.toInt8.toInt32 0))] at_178 rfl (hw _ (List.mem_of_getElem? (i := 32) rfl)) (hw _ (List.mem_of_getElem? (i := 33) rfl)) (hw _ (List.mem_of_getElem? (i := 34) rfl)) (hw _ (List.mem_of_getElem? (i := 35) rfl)) (by decide) (ce hw p1.toInt8.toInt32 (0 : Int32) h29 n0) rfl rfl own_pd5 rfl rfl (Nat.le_of_eq rfl) (by decide) (by decide) (by decide) (by decide) ?_
          rintro _ h30 ⟨rfl, eh⟩
          all_goals subst h30
          show oGo Z _ _ _ _ _ _ n0 _ 2 6 h29 181 #[.val (.int p0), .val (.int p1), .val (.int p2), .val (.int p3), .val (.ref a), s5, .val (.int (0 : Int32)), .val (.int b2), s8, .val (.int (0 : Int32)), .val (.int m2), .val (.ref r), s12, .val (.int (1 : Int32)), .val (.int (own_exp p1.toInt8.toInt32 0)), .unset] [(.int (own_exp p1.toInt8.toInt32 (0 : Int32))), (.int (own_exp p1.toInt8.toInt32 0))]
          refine oGo.icmp_ne (q := 197) (r := 184) at_181 (by decide) rfl (fun hc => absurd rfl hc) (fun hc => ?_)
          refine oGo.aload (q := 186) at_184 rfl rfl rfl ?_
          refine oGo.callV (W := 0) (rm := ({ frames := 0, cells := 0, slots := 0, locals := 0 } : Room)) (q := 189) (a := r) [] [] at_186 rfl (hw _ (List.mem_of_getElem? (i := 36) rfl)) (hw _ (List.mem_of_getElem? (i := 37) rfl)) (hw _ (List.mem_of_getElem? (i := 39) rfl)) (hw _ (List.mem_of_getElem? (i := 38) rfl)) (hw _ (List.mem_of_getElem? (i := 3) rfl)) (hw _ (List.mem_of_getElem? (i := 40) rfl)) rfl (by decide) (O2.1) (cp hw r (.ref a) (.int (-(0 : Int32))) (2 : Int32) h29 n0 O2) rfl rfl own_pd4 rfl rfl (Nat.le_of_eq rfl) (by decide) (by decide) (by decide) (by decide) ?_
          rintro _ h31 ⟨rfl, eh⟩
          all_goals subst h31
          show oGo Z _ _ _ _ _ _ n0 _ 2 6 h29 189 #[.val (.int p0), .val (.int p1), .val (.int p2), .val (.int p3), .val (.ref a), s5, .val (.int (0 : Int32)), .val (.int b2), s8, .val (.int (0 : Int32)), .val (.int m2), .val (.ref r), s12, .val (.int (1 : Int32)), .val (.int (own_exp p1.toInt8.toInt32 0)), .unset] [(.int (2 : Int32))]
          refine oGo.iconst (q := 190) (v := (2 : Int32)) at_189 rfl rfl ?_
          refine oGo.icmp_ne (q := 197) (r := 193) at_190 (by decide) rfl (fun hc => absurd rfl hc) (fun hc => ?_)
          refine oGo.iconst (q := 194) (v := (1 : Int32)) at_193 rfl rfl ?_
          refine oGo.goto (q := 198) at_194 (by decide) ?_
          refine oGo.istore (q := 200) (L' := #[.val (.int p0), .val (.int p1), .val (.int p2), .val (.int p3), .val (.ref a), s5, .val (.int (0 : Int32)), .val (.int b2), s8, .val (.int (0 : Int32)), .val (.int m2), .val (.ref r), s12, .val (.int (1 : Int32)), .val (.int (own_exp p1.toInt8.toInt32 0)), .unset]) at_198 rfl rfl ?_
          exact S200 _ _ _ _ _ _ _ _ _ _ hm2 O2 A2
        · skip -- 0 1 1
          refine oGo.iload (q := 152) at_150 rfl rfl ?_
          refine oGo.if_eq (q := 160) (r := 155) at_152 (by decide) rfl (fun hc => absurd hc (by decide)) (fun hc => ?_)
          refine oGo.aload (q := 157) at_155 rfl rfl rfl ?_
          refine oGo.callV (W := 0) (rm := ({ frames := 0, cells := 0, slots := 0, locals := 0 } : Room)) (q := 160) (a := r) [] [] at_157 rfl (hw _ (List.mem_of_getElem? (i := 18) rfl)) (hw _ (List.mem_of_getElem? (i := 19) rfl)) (hw _ (List.mem_of_getElem? (i := 21) rfl)) (hw _ (List.mem_of_getElem? (i := 20) rfl)) (hw _ (List.mem_of_getElem? (i := 3) rfl)) (hw _ (List.mem_of_getElem? (i := 22) rfl)) rfl (by decide) (O.1) (cv hw r (.ref a) (.int (1 : Int32)) (-(0 : Int32)) (-(1 : Int32)) hh n0 gr O (by decide)) rfl rfl own_pd2 rfl rfl (Nat.le_of_eq rfl) (by decide) (by decide) (by decide) (by decide) ?_
          rintro _ h32 ⟨rfl, K1, O1⟩
          show oGo Z _ _ _ _ _ _ n0 _ 2 6 h32 160 #[.val (.int p0), .val (.int p1), .val (.int p2), .val (.int p3), .val (.ref a), s5, .val (.int (1 : Int32)), .val (.int b2), s8, .val (.int (1 : Int32)), .val (.int m2), .val (.ref r), s12, .val (.int (1 : Int32)), .unset, .unset] []
          have A1 := Ars.keep A K1 (ninS nar nin0)
          refine oGo.aload (q := 162) at_160 rfl rfl rfl ?_
          refine oGo.callV (W := 0) (rm := ({ frames := 0, cells := 0, slots := 0, locals := 0 } : Room)) (q := 165) (a := r) [] [] at_162 rfl (hw _ (List.mem_of_getElem? (i := 25) rfl)) (hw _ (List.mem_of_getElem? (i := 26) rfl)) (hw _ (List.mem_of_getElem? (i := 28) rfl)) (hw _ (List.mem_of_getElem? (i := 27) rfl)) (hw _ (List.mem_of_getElem? (i := 3) rfl)) (hw _ (List.mem_of_getElem? (i := 29) rfl)) rfl (by decide) (O1.1) (cx hw r a (1 : Int32) (2 : Int32) (-(1 : Int32)) p1.toInt8.toInt32 (own_exp p1.toInt8.toInt32 1) 1 [(.int p0.toInt8.toInt32), (.int p1.toInt8.toInt32), (.int p2.toInt8.toInt32)] h32 n0 gr nar O1 A1 rfl rfl (by decide) (own_exp1 p1)) rfl rfl own_pd3 rfl rfl (Nat.le_of_eq rfl) (by decide) (by decide) (by decide) (by decide) ?_
          rintro _ h33 ⟨rfl, K2, O2⟩
          show oGo Z _ _ _ _ _ _ n0 _ 2 6 h33 165 #[.val (.int p0), .val (.int p1), .val (.int p2), .val (.int p3), .val (.ref a), s5, .val (.int (1 : Int32)), .val (.int b2), s8, .val (.int (1 : Int32)), .val (.int m2), .val (.ref r), s12, .val (.int (1 : Int32)), .unset, .unset] [(.int (own_exp p1.toInt8.toInt32 1))]
          have A2 := Ars.keep A1 K2 (ninS nar nin0)
          refine oGo.istore (q := 167) (L' := #[.val (.int p0), .val (.int p1), .val (.int p2), .val (.int p3), .val (.ref a), s5, .val (.int (1 : Int32)), .val (.int b2), s8, .val (.int (1 : Int32)), .val (.int m2), .val (.ref r), s12, .val (.int (1 : Int32)), .val (.int (own_exp p1.toInt8.toInt32 1)), .unset]) at_165 rfl rfl ?_
          refine oGo.iload (q := 169) at_167 rfl rfl ?_
          refine oGo.if_eq (q := 197) (r := 172) at_169 (by decide) rfl (fun hc => absurd hc (by decide)) (fun hc => ?_)
          refine oGo.iload (q := 174) at_172 rfl rfl ?_
          refine oGo.iloadN (q := 175) at_174 rfl rfl ?_
          refine oGo.i2b (q := 176) at_175 rfl ?_
          refine oGo.iload (q := 178) at_176 rfl rfl ?_
          refine oGo.callS (W := 1) (rm := ({ frames := 0, cells := 0, slots := 0, locals := 0 } : Room)) (q := 181) [(.int p1.toInt8.toInt32), (.int (1 : Int32))] [(.int (own_exp p1.toInt8.toInt32 1))] at_178 rfl (hw _ (List.mem_of_getElem? (i := 32) rfl)) (hw _ (List.mem_of_getElem? (i := 33) rfl)) (hw _ (List.mem_of_getElem? (i := 34) rfl)) (hw _ (List.mem_of_getElem? (i := 35) rfl)) (by decide) (ce hw p1.toInt8.toInt32 (1 : Int32) h33 n0) rfl rfl own_pd5 rfl rfl (Nat.le_of_eq rfl) (by decide) (by decide) (by decide) (by decide) ?_
          rintro _ h34 ⟨rfl, eh⟩
          all_goals subst h34
          show oGo Z _ _ _ _ _ _ n0 _ 2 6 h33 181 #[.val (.int p0), .val (.int p1), .val (.int p2), .val (.int p3), .val (.ref a), s5, .val (.int (1 : Int32)), .val (.int b2), s8, .val (.int (1 : Int32)), .val (.int m2), .val (.ref r), s12, .val (.int (1 : Int32)), .val (.int (own_exp p1.toInt8.toInt32 1)), .unset] [(.int (own_exp p1.toInt8.toInt32 (1 : Int32))), (.int (own_exp p1.toInt8.toInt32 1))]
          refine oGo.icmp_ne (q := 197) (r := 184) at_181 (by decide) rfl (fun hc => absurd rfl hc) (fun hc => ?_)
          refine oGo.aload (q := 186) at_184 rfl rfl rfl ?_
          refine oGo.callV (W := 0) (rm := ({ frames := 0, cells := 0, slots := 0, locals := 0 } : Room)) (q := 189) (a := r) [] [] at_186 rfl (hw _ (List.mem_of_getElem? (i := 36) rfl)) (hw _ (List.mem_of_getElem? (i := 37) rfl)) (hw _ (List.mem_of_getElem? (i := 39) rfl)) (hw _ (List.mem_of_getElem? (i := 38) rfl)) (hw _ (List.mem_of_getElem? (i := 3) rfl)) (hw _ (List.mem_of_getElem? (i := 40) rfl)) rfl (by decide) (O2.1) (cp hw r (.ref a) (.int (-(1 : Int32))) (2 : Int32) h33 n0 O2) rfl rfl own_pd4 rfl rfl (Nat.le_of_eq rfl) (by decide) (by decide) (by decide) (by decide) ?_
          rintro _ h35 ⟨rfl, eh⟩
          all_goals subst h35
          show oGo Z _ _ _ _ _ _ n0 _ 2 6 h33 189 #[.val (.int p0), .val (.int p1), .val (.int p2), .val (.int p3), .val (.ref a), s5, .val (.int (1 : Int32)), .val (.int b2), s8, .val (.int (1 : Int32)), .val (.int m2), .val (.ref r), s12, .val (.int (1 : Int32)), .val (.int (own_exp p1.toInt8.toInt32 1)), .unset] [(.int (2 : Int32))]
          refine oGo.iconst (q := 190) (v := (2 : Int32)) at_189 rfl rfl ?_
          refine oGo.icmp_ne (q := 197) (r := 193) at_190 (by decide) rfl (fun hc => absurd rfl hc) (fun hc => ?_)
          refine oGo.iconst (q := 194) (v := (1 : Int32)) at_193 rfl rfl ?_
          refine oGo.goto (q := 198) at_194 (by decide) ?_
          refine oGo.istore (q := 200) (L' := #[.val (.int p0), .val (.int p1), .val (.int p2), .val (.int p3), .val (.ref a), s5, .val (.int (1 : Int32)), .val (.int b2), s8, .val (.int (1 : Int32)), .val (.int m2), .val (.ref r), s12, .val (.int (1 : Int32)), .val (.int (own_exp p1.toInt8.toInt32 1)), .unset]) at_198 rfl rfl ?_
          exact S200 _ _ _ _ _ _ _ _ _ _ hm2 O2 A2
        · skip -- 1 0 1
          refine oGo.iload (q := 152) at_150 rfl rfl ?_
          refine oGo.if_eq (q := 160) (r := 155) at_152 (by decide) rfl (fun hc => ?_) (fun hc => absurd rfl hc)
          refine oGo.aload (q := 162) at_160 rfl rfl rfl ?_
          refine oGo.callV (W := 0) (rm := ({ frames := 0, cells := 0, slots := 0, locals := 0 } : Room)) (q := 165) (a := r) [] [] at_162 rfl (hw _ (List.mem_of_getElem? (i := 25) rfl)) (hw _ (List.mem_of_getElem? (i := 26) rfl)) (hw _ (List.mem_of_getElem? (i := 28) rfl)) (hw _ (List.mem_of_getElem? (i := 27) rfl)) (hw _ (List.mem_of_getElem? (i := 3) rfl)) (hw _ (List.mem_of_getElem? (i := 29) rfl)) rfl (by decide) (O.1) (cx hw r a (1 : Int32) (2 : Int32) (-(1 : Int32)) p1.toInt8.toInt32 (own_exp p1.toInt8.toInt32 1) 1 [(.int p0.toInt8.toInt32), (.int p1.toInt8.toInt32), (.int p2.toInt8.toInt32)] hh n0 gr nar O A rfl rfl (by decide) (own_exp1 p1)) rfl rfl own_pd3 rfl rfl (Nat.le_of_eq rfl) (by decide) (by decide) (by decide) (by decide) ?_
          rintro _ h36 ⟨rfl, K2, O2⟩
          show oGo Z _ _ _ _ _ _ n0 _ 2 6 h36 165 #[.val (.int p0), .val (.int p1), .val (.int p2), .val (.int p3), .val (.ref a), s5, .val (.int (0 : Int32)), .val (.int b2), s8, .val (.int (1 : Int32)), .val (.int m2), .val (.ref r), s12, .val (.int (1 : Int32)), .unset, .unset] [(.int (own_exp p1.toInt8.toInt32 1))]
          have A2 := Ars.keep A K2 (ninS nar nin0)
          refine oGo.istore (q := 167) (L' := #[.val (.int p0), .val (.int p1), .val (.int p2), .val (.int p3), .val (.ref a), s5, .val (.int (0 : Int32)), .val (.int b2), s8, .val (.int (1 : Int32)), .val (.int m2), .val (.ref r), s12, .val (.int (1 : Int32)), .val (.int (own_exp p1.toInt8.toInt32 1)), .unset]) at_165 rfl rfl ?_
          refine oGo.iload (q := 169) at_167 rfl rfl ?_
          refine oGo.if_eq (q := 197) (r := 172) at_169 (by decide) rfl (fun hc => absurd hc (by decide)) (fun hc => ?_)
          refine oGo.iload (q := 174) at_172 rfl rfl ?_
          refine oGo.iloadN (q := 175) at_174 rfl rfl ?_
          refine oGo.i2b (q := 176) at_175 rfl ?_
          refine oGo.iload (q := 178) at_176 rfl rfl ?_
          refine oGo.callS (W := 1) (rm := ({ frames := 0, cells := 0, slots := 0, locals := 0 } : Room)) (q := 181) [(.int p1.toInt8.toInt32), (.int (1 : Int32))] [(.int (own_exp p1.toInt8.toInt32 1))] at_178 rfl (hw _ (List.mem_of_getElem? (i := 32) rfl)) (hw _ (List.mem_of_getElem? (i := 33) rfl)) (hw _ (List.mem_of_getElem? (i := 34) rfl)) (hw _ (List.mem_of_getElem? (i := 35) rfl)) (by decide) (ce hw p1.toInt8.toInt32 (1 : Int32) h36 n0) rfl rfl own_pd5 rfl rfl (Nat.le_of_eq rfl) (by decide) (by decide) (by decide) (by decide) ?_
          rintro _ h37 ⟨rfl, eh⟩
          all_goals subst h37
          show oGo Z _ _ _ _ _ _ n0 _ 2 6 h36 181 #[.val (.int p0), .val (.int p1), .val (.int p2), .val (.int p3), .val (.ref a), s5, .val (.int (0 : Int32)), .val (.int b2), s8, .val (.int (1 : Int32)), .val (.int m2), .val (.ref r), s12, .val (.int (1 : Int32)), .val (.int (own_exp p1.toInt8.toInt32 1)), .unset] [(.int (own_exp p1.toInt8.toInt32 (1 : Int32))), (.int (own_exp p1.toInt8.toInt32 1))]
          refine oGo.icmp_ne (q := 197) (r := 184) at_181 (by decide) rfl (fun hc => absurd rfl hc) (fun hc => ?_)
          refine oGo.aload (q := 186) at_184 rfl rfl rfl ?_
          refine oGo.callV (W := 0) (rm := ({ frames := 0, cells := 0, slots := 0, locals := 0 } : Room)) (q := 189) (a := r) [] [] at_186 rfl (hw _ (List.mem_of_getElem? (i := 36) rfl)) (hw _ (List.mem_of_getElem? (i := 37) rfl)) (hw _ (List.mem_of_getElem? (i := 39) rfl)) (hw _ (List.mem_of_getElem? (i := 38) rfl)) (hw _ (List.mem_of_getElem? (i := 3) rfl)) (hw _ (List.mem_of_getElem? (i := 40) rfl)) rfl (by decide) (O2.1) (cp hw r (.ref a) (.int (-(1 : Int32))) (2 : Int32) h36 n0 O2) rfl rfl own_pd4 rfl rfl (Nat.le_of_eq rfl) (by decide) (by decide) (by decide) (by decide) ?_
          rintro _ h38 ⟨rfl, eh⟩
          all_goals subst h38
          show oGo Z _ _ _ _ _ _ n0 _ 2 6 h36 189 #[.val (.int p0), .val (.int p1), .val (.int p2), .val (.int p3), .val (.ref a), s5, .val (.int (0 : Int32)), .val (.int b2), s8, .val (.int (1 : Int32)), .val (.int m2), .val (.ref r), s12, .val (.int (1 : Int32)), .val (.int (own_exp p1.toInt8.toInt32 1)), .unset] [(.int (2 : Int32))]
          refine oGo.iconst (q := 190) (v := (2 : Int32)) at_189 rfl rfl ?_
          refine oGo.icmp_ne (q := 197) (r := 193) at_190 (by decide) rfl (fun hc => absurd rfl hc) (fun hc => ?_)
          refine oGo.iconst (q := 194) (v := (1 : Int32)) at_193 rfl rfl ?_
          refine oGo.goto (q := 198) at_194 (by decide) ?_
          refine oGo.istore (q := 200) (L' := #[.val (.int p0), .val (.int p1), .val (.int p2), .val (.int p3), .val (.ref a), s5, .val (.int (0 : Int32)), .val (.int b2), s8, .val (.int (1 : Int32)), .val (.int m2), .val (.ref r), s12, .val (.int (1 : Int32)), .val (.int (own_exp p1.toInt8.toInt32 1)), .unset]) at_198 rfl rfl ?_
          exact S200 _ _ _ _ _ _ _ _ _ _ hm2 O2 A2
        · skip -- 1 1 0
          refine oGo.iload (q := 152) at_150 rfl rfl ?_
          refine oGo.if_eq (q := 160) (r := 155) at_152 (by decide) rfl (fun hc => absurd hc (by decide)) (fun hc => ?_)
          refine oGo.aload (q := 157) at_155 rfl rfl rfl ?_
          refine oGo.callV (W := 0) (rm := ({ frames := 0, cells := 0, slots := 0, locals := 0 } : Room)) (q := 160) (a := r) [] [] at_157 rfl (hw _ (List.mem_of_getElem? (i := 18) rfl)) (hw _ (List.mem_of_getElem? (i := 19) rfl)) (hw _ (List.mem_of_getElem? (i := 21) rfl)) (hw _ (List.mem_of_getElem? (i := 20) rfl)) (hw _ (List.mem_of_getElem? (i := 3) rfl)) (hw _ (List.mem_of_getElem? (i := 22) rfl)) rfl (by decide) (O.1) (cv hw r (.ref a) (.int (1 : Int32)) (-(1 : Int32)) (-(0 : Int32)) hh n0 gr O (by decide)) rfl rfl own_pd2 rfl rfl (Nat.le_of_eq rfl) (by decide) (by decide) (by decide) (by decide) ?_
          rintro _ h39 ⟨rfl, K1, O1⟩
          show oGo Z _ _ _ _ _ _ n0 _ 2 6 h39 160 #[.val (.int p0), .val (.int p1), .val (.int p2), .val (.int p3), .val (.ref a), s5, .val (.int (1 : Int32)), .val (.int b2), s8, .val (.int (0 : Int32)), .val (.int m2), .val (.ref r), s12, .val (.int (1 : Int32)), .unset, .unset] []
          have A1 := Ars.keep A K1 (ninS nar nin0)
          refine oGo.aload (q := 162) at_160 rfl rfl rfl ?_
          refine oGo.callV (W := 0) (rm := ({ frames := 0, cells := 0, slots := 0, locals := 0 } : Room)) (q := 165) (a := r) [] [] at_162 rfl (hw _ (List.mem_of_getElem? (i := 25) rfl)) (hw _ (List.mem_of_getElem? (i := 26) rfl)) (hw _ (List.mem_of_getElem? (i := 28) rfl)) (hw _ (List.mem_of_getElem? (i := 27) rfl)) (hw _ (List.mem_of_getElem? (i := 3) rfl)) (hw _ (List.mem_of_getElem? (i := 29) rfl)) rfl (by decide) (O1.1) (cx hw r a (1 : Int32) (2 : Int32) (-(0 : Int32)) p1.toInt8.toInt32 (own_exp p1.toInt8.toInt32 0) 1 [(.int p0.toInt8.toInt32), (.int p1.toInt8.toInt32), (.int p2.toInt8.toInt32)] h39 n0 gr nar O1 A1 rfl rfl (by decide) (own_exp0 p1)) rfl rfl own_pd3 rfl rfl (Nat.le_of_eq rfl) (by decide) (by decide) (by decide) (by decide) ?_
          rintro _ h40 ⟨rfl, K2, O2⟩
          show oGo Z _ _ _ _ _ _ n0 _ 2 6 h40 165 #[.val (.int p0), .val (.int p1), .val (.int p2), .val (.int p3), .val (.ref a), s5, .val (.int (1 : Int32)), .val (.int b2), s8, .val (.int (0 : Int32)), .val (.int m2), .val (.ref r), s12, .val (.int (1 : Int32)), .unset, .unset] [(.int (own_exp p1.toInt8.toInt32 0))]
          have A2 := Ars.keep A1 K2 (ninS nar nin0)
          refine oGo.istore (q := 167) (L' := #[.val (.int p0), .val (.int p1), .val (.int p2), .val (.int p3), .val (.ref a), s5, .val (.int (1 : Int32)), .val (.int b2), s8, .val (.int (0 : Int32)), .val (.int m2), .val (.ref r), s12, .val (.int (1 : Int32)), .val (.int (own_exp p1.toInt8.toInt32 0)), .unset]) at_165 rfl rfl ?_
          refine oGo.iload (q := 169) at_167 rfl rfl ?_
          refine oGo.if_eq (q := 197) (r := 172) at_169 (by decide) rfl (fun hc => absurd hc (by decide)) (fun hc => ?_)
          refine oGo.iload (q := 174) at_172 rfl rfl ?_
          refine oGo.iloadN (q := 175) at_174 rfl rfl ?_
          refine oGo.i2b (q := 176) at_175 rfl ?_
          refine oGo.iload (q := 178) at_176 rfl rfl ?_
          refine oGo.callS (W := 1) (rm := ({ frames := 0, cells := 0, slots := 0, locals := 0 } : Room)) (q := 181) [(.int p1.toInt8.toInt32), (.int (0 : Int32))] [(.int (own_exp p1.toInt8.toInt32 0))] at_178 rfl (hw _ (List.mem_of_getElem? (i := 32) rfl)) (hw _ (List.mem_of_getElem? (i := 33) rfl)) (hw _ (List.mem_of_getElem? (i := 34) rfl)) (hw _ (List.mem_of_getElem? (i := 35) rfl)) (by decide) (ce hw p1.toInt8.toInt32 (0 : Int32) h40 n0) rfl rfl own_pd5 rfl rfl (Nat.le_of_eq rfl) (by decide) (by decide) (by decide) (by decide) ?_
          rintro _ h41 ⟨rfl, eh⟩
          all_goals subst h41
          show oGo Z _ _ _ _ _ _ n0 _ 2 6 h40 181 #[.val (.int p0), .val (.int p1), .val (.int p2), .val (.int p3), .val (.ref a), s5, .val (.int (1 : Int32)), .val (.int b2), s8, .val (.int (0 : Int32)), .val (.int m2), .val (.ref r), s12, .val (.int (1 : Int32)), .val (.int (own_exp p1.toInt8.toInt32 0)), .unset] [(.int (own_exp p1.toInt8.toInt32 (0 : Int32))), (.int (own_exp p1.toInt8.toInt32 0))]
          refine oGo.icmp_ne (q := 197) (r := 184) at_181 (by decide) rfl (fun hc => absurd rfl hc) (fun hc => ?_)
          refine oGo.aload (q := 186) at_184 rfl rfl rfl ?_
          refine oGo.callV (W := 0) (rm := ({ frames := 0, cells := 0, slots := 0, locals := 0 } : Room)) (q := 189) (a := r) [] [] at_186 rfl (hw _ (List.mem_of_getElem? (i := 36) rfl)) (hw _ (List.mem_of_getElem? (i := 37) rfl)) (hw _ (List.mem_of_getElem? (i := 39) rfl)) (hw _ (List.mem_of_getElem? (i := 38) rfl)) (hw _ (List.mem_of_getElem? (i := 3) rfl)) (hw _ (List.mem_of_getElem? (i := 40) rfl)) rfl (by decide) (O2.1) (cp hw r (.ref a) (.int (-(0 : Int32))) (2 : Int32) h40 n0 O2) rfl rfl own_pd4 rfl rfl (Nat.le_of_eq rfl) (by decide) (by decide) (by decide) (by decide) ?_
          rintro _ h42 ⟨rfl, eh⟩
          all_goals subst h42
          show oGo Z _ _ _ _ _ _ n0 _ 2 6 h40 189 #[.val (.int p0), .val (.int p1), .val (.int p2), .val (.int p3), .val (.ref a), s5, .val (.int (1 : Int32)), .val (.int b2), s8, .val (.int (0 : Int32)), .val (.int m2), .val (.ref r), s12, .val (.int (1 : Int32)), .val (.int (own_exp p1.toInt8.toInt32 0)), .unset] [(.int (2 : Int32))]
          refine oGo.iconst (q := 190) (v := (2 : Int32)) at_189 rfl rfl ?_
          refine oGo.icmp_ne (q := 197) (r := 193) at_190 (by decide) rfl (fun hc => absurd rfl hc) (fun hc => ?_)
          refine oGo.iconst (q := 194) (v := (1 : Int32)) at_193 rfl rfl ?_
          refine oGo.goto (q := 198) at_194 (by decide) ?_
          refine oGo.istore (q := 200) (L' := #[.val (.int p0), .val (.int p1), .val (.int p2), .val (.int p3), .val (.ref a), s5, .val (.int (1 : Int32)), .val (.int b2), s8, .val (.int (0 : Int32)), .val (.int m2), .val (.ref r), s12, .val (.int (1 : Int32)), .val (.int (own_exp p1.toInt8.toInt32 0)), .unset]) at_198 rfl rfl ?_
          exact S200 _ _ _ _ _ _ _ _ _ _ hm2 O2 A2
      have S105 : ∀ (hh : Heap) (xa ya za : Int32), own_x3 xa ya za → own_x3 za b1 m1 → own_br Z hh r (.ref a) (.int (0 : Int32)) (.int (-xa)) → Ars Z hh a .byte [(.int p0.toInt8.toInt32), (.int p1.toInt8.toInt32), (.int p2.toInt8.toInt32)] → oGo Z x.cls x.name code maxLocals ret room_1 n0 (fun v _ => v = some (.int 1)) 2 6 hh 105 #[.val (.int p0), .val (.int p1), .val (.int p2), .val (.int p3), .val (.ref a), .val (.int ya), .val (.int b1), .val (.int b2), .val (.int za), .val (.int m1), .val (.int m2), .val (.ref r), .unset, .unset, .unset, .unset] [] := by
        intro hh xa ya za hx hm1 O A
        rcases hx with ⟨rfl, rfl, rfl⟩ | ⟨rfl, rfl, rfl⟩ | ⟨rfl, rfl, rfl⟩ | ⟨rfl, rfl, rfl⟩
        · skip -- 0 0 0
          refine oGo.iload (q := 107) at_105 rfl rfl ?_
          refine oGo.if_eq (q := 115) (r := 110) at_107 (by decide) rfl (fun hc => ?_) (fun hc => absurd rfl hc)
          refine oGo.aload (q := 117) at_115 rfl rfl rfl ?_
          refine oGo.callV (W := 0) (rm := ({ frames := 0, cells := 0, slots := 0, locals := 0 } : Room)) (q := 120) (a := r) [] [] at_117 rfl (hw _ (List.mem_of_getElem? (i := 25) rfl)) (hw _ (List.mem_of_getElem? (i := 26) rfl)) (hw _ (List.mem_of_getElem? (i := 28) rfl)) (hw _ (List.mem_of_getElem? (i := 27) rfl)) (hw _ (List.mem_of_getElem? (i := 3) rfl)) (hw _ (List.mem_of_getElem? (i := 29) rfl)) rfl (by decide) (O.1) (cx hw r a (0 : Int32) (1 : Int32) (-(0 : Int32)) p0.toInt8.toInt32 (own_exp p0.toInt8.toInt32 0) 0 [(.int p0.toInt8.toInt32), (.int p1.toInt8.toInt32), (.int p2.toInt8.toInt32)] hh n0 gr nar O A rfl rfl (by decide) (own_exp0 p0)) rfl rfl own_pd3 rfl rfl (Nat.le_of_eq rfl) (by decide) (by decide) (by decide) (by decide) ?_
          rintro _ h43 ⟨rfl, K2, O2⟩
          show oGo Z _ _ _ _ _ _ n0 _ 2 6 h43 120 #[.val (.int p0), .val (.int p1), .val (.int p2), .val (.int p3), .val (.ref a), .val (.int (0 : Int32)), .val (.int b1), .val (.int b2), .val (.int (0 : Int32)), .val (.int m1), .val (.int m2), .val (.ref r), .unset, .unset, .unset, .unset] [(.int (own_exp p0.toInt8.toInt32 0))]
          have A2 := Ars.keep A K2 (ninS nar nin0)
          refine oGo.istore (q := 122) (L' := #[.val (.int p0), .val (.int p1), .val (.int p2), .val (.int p3), .val (.ref a), .val (.int (0 : Int32)), .val (.int b1), .val (.int b2), .val (.int (0 : Int32)), .val (.int m1), .val (.int m2), .val (.ref r), .val (.int (own_exp p0.toInt8.toInt32 0)), .unset, .unset, .unset]) at_120 rfl rfl ?_
          refine oGo.iload (q := 124) at_122 rfl rfl ?_
          refine oGo.iloadN (q := 125) at_124 rfl rfl ?_
          refine oGo.i2b (q := 126) at_125 rfl ?_
          refine oGo.iload (q := 128) at_126 rfl rfl ?_
          refine oGo.callS (W := 1) (rm := ({ frames := 0, cells := 0, slots := 0, locals := 0 } : Room)) (q := 131) [(.int p0.toInt8.toInt32), (.int (0 : Int32))] [(.int (own_exp p0.toInt8.toInt32 0))] at_128 rfl (hw _ (List.mem_of_getElem? (i := 32) rfl)) (hw _ (List.mem_of_getElem? (i := 33) rfl)) (hw _ (List.mem_of_getElem? (i := 34) rfl)) (hw _ (List.mem_of_getElem? (i := 35) rfl)) (by decide) (ce hw p0.toInt8.toInt32 (0 : Int32) h43 n0) rfl rfl own_pd5 rfl rfl (Nat.le_of_eq rfl) (by decide) (by decide) (by decide) (by decide) ?_
          rintro _ h44 ⟨rfl, eh⟩
          all_goals subst h44
          show oGo Z _ _ _ _ _ _ n0 _ 2 6 h43 131 #[.val (.int p0), .val (.int p1), .val (.int p2), .val (.int p3), .val (.ref a), .val (.int (0 : Int32)), .val (.int b1), .val (.int b2), .val (.int (0 : Int32)), .val (.int m1), .val (.int m2), .val (.ref r), .val (.int (own_exp p0.toInt8.toInt32 0)), .unset, .unset, .unset] [(.int (own_exp p0.toInt8.toInt32 (0 : Int32))), (.int (own_exp p0.toInt8.toInt32 0))]
          refine oGo.icmp_ne (q := 147) (r := 134) at_131 (by decide) rfl (fun hc => absurd rfl hc) (fun hc => ?_)
          refine oGo.aload (q := 136) at_134 rfl rfl rfl ?_
          refine oGo.callV (W := 0) (rm := ({ frames := 0, cells := 0, slots := 0, locals := 0 } : Room)) (q := 139) (a := r) [] [] at_136 rfl (hw _ (List.mem_of_getElem? (i := 36) rfl)) (hw _ (List.mem_of_getElem? (i := 37) rfl)) (hw _ (List.mem_of_getElem? (i := 39) rfl)) (hw _ (List.mem_of_getElem? (i := 38) rfl)) (hw _ (List.mem_of_getElem? (i := 3) rfl)) (hw _ (List.mem_of_getElem? (i := 40) rfl)) rfl (by decide) (O2.1) (cp hw r (.ref a) (.int (-(0 : Int32))) (1 : Int32) h43 n0 O2) rfl rfl own_pd4 rfl rfl (Nat.le_of_eq rfl) (by decide) (by decide) (by decide) (by decide) ?_
          rintro _ h45 ⟨rfl, eh⟩
          all_goals subst h45
          show oGo Z _ _ _ _ _ _ n0 _ 2 6 h43 139 #[.val (.int p0), .val (.int p1), .val (.int p2), .val (.int p3), .val (.ref a), .val (.int (0 : Int32)), .val (.int b1), .val (.int b2), .val (.int (0 : Int32)), .val (.int m1), .val (.int m2), .val (.ref r), .val (.int (own_exp p0.toInt8.toInt32 0)), .unset, .unset, .unset] [(.int (1 : Int32))]
          refine oGo.iconst (q := 140) (v := (1 : Int32)) at_139 rfl rfl ?_
          refine oGo.icmp_ne (q := 147) (r := 143) at_140 (by decide) rfl (fun hc => absurd rfl hc) (fun hc => ?_)
          refine oGo.iconst (q := 144) (v := (1 : Int32)) at_143 rfl rfl ?_
          refine oGo.goto (q := 148) at_144 (by decide) ?_
          refine oGo.istore (q := 150) (L' := #[.val (.int p0), .val (.int p1), .val (.int p2), .val (.int p3), .val (.ref a), .val (.int (0 : Int32)), .val (.int b1), .val (.int b2), .val (.int (0 : Int32)), .val (.int m1), .val (.int m2), .val (.ref r), .val (.int (own_exp p0.toInt8.toInt32 0)), .val (.int (1 : Int32)), .unset, .unset]) at_148 rfl rfl ?_
          exact S150 _ _ _ _ _ _ _ hm1 hm2 O2 A2
        · skip -- 0 1 1
          refine oGo.iload (q := 107) at_105 rfl rfl ?_
          refine oGo.if_eq (q := 115) (r := 110) at_107 (by decide) rfl (fun hc => absurd hc (by decide)) (fun hc => ?_)
          refine oGo.aload (q := 112) at_110 rfl rfl rfl ?_
          refine oGo.callV (W := 0) (rm := ({ frames := 0, cells := 0, slots := 0, locals := 0 } : Room)) (q := 115) (a := r) [] [] at_112 rfl (hw _ (List.mem_of_getElem? (i := 18) rfl)) (hw _ (List.mem_of_getElem? (i := 19) rfl)) (hw _ (List.mem_of_getElem? (i := 21) rfl)) (hw _ (List.mem_of_getElem? (i := 20) rfl)) (hw _ (List.mem_of_getElem? (i := 3) rfl)) (hw _ (List.mem_of_getElem? (i := 22) rfl)) rfl (by decide) (O.1) (cv hw r (.ref a) (.int (0 : Int32)) (-(0 : Int32)) (-(1 : Int32)) hh n0 gr O (by decide)) rfl rfl own_pd2 rfl rfl (Nat.le_of_eq rfl) (by decide) (by decide) (by decide) (by decide) ?_
          rintro _ h46 ⟨rfl, K1, O1⟩
          show oGo Z _ _ _ _ _ _ n0 _ 2 6 h46 115 #[.val (.int p0), .val (.int p1), .val (.int p2), .val (.int p3), .val (.ref a), .val (.int (1 : Int32)), .val (.int b1), .val (.int b2), .val (.int (1 : Int32)), .val (.int m1), .val (.int m2), .val (.ref r), .unset, .unset, .unset, .unset] []
          have A1 := Ars.keep A K1 (ninS nar nin0)
          refine oGo.aload (q := 117) at_115 rfl rfl rfl ?_
          refine oGo.callV (W := 0) (rm := ({ frames := 0, cells := 0, slots := 0, locals := 0 } : Room)) (q := 120) (a := r) [] [] at_117 rfl (hw _ (List.mem_of_getElem? (i := 25) rfl)) (hw _ (List.mem_of_getElem? (i := 26) rfl)) (hw _ (List.mem_of_getElem? (i := 28) rfl)) (hw _ (List.mem_of_getElem? (i := 27) rfl)) (hw _ (List.mem_of_getElem? (i := 3) rfl)) (hw _ (List.mem_of_getElem? (i := 29) rfl)) rfl (by decide) (O1.1) (cx hw r a (0 : Int32) (1 : Int32) (-(1 : Int32)) p0.toInt8.toInt32 (own_exp p0.toInt8.toInt32 1) 0 [(.int p0.toInt8.toInt32), (.int p1.toInt8.toInt32), (.int p2.toInt8.toInt32)] h46 n0 gr nar O1 A1 rfl rfl (by decide) (own_exp1 p0)) rfl rfl own_pd3 rfl rfl (Nat.le_of_eq rfl) (by decide) (by decide) (by decide) (by decide) ?_
          rintro _ h47 ⟨rfl, K2, O2⟩
          show oGo Z _ _ _ _ _ _ n0 _ 2 6 h47 120 #[.val (.int p0), .val (.int p1), .val (.int p2), .val (.int p3), .val (.ref a), .val (.int (1 : Int32)), .val (.int b1), .val (.int b2), .val (.int (1 : Int32)), .val (.int m1), .val (.int m2), .val (.ref r), .unset, .unset, .unset, .unset] [(.int (own_exp p0.toInt8.toInt32 1))]
          have A2 := Ars.keep A1 K2 (ninS nar nin0)
          refine oGo.istore (q := 122) (L' := #[.val (.int p0), .val (.int p1), .val (.int p2), .val (.int p3), .val (.ref a), .val (.int (1 : Int32)), .val (.int b1), .val (.int b2), .val (.int (1 : Int32)), .val (.int m1), .val (.int m2), .val (.ref r), .val (.int (own_exp p0.toInt8.toInt32 1)), .unset, .unset, .unset]) at_120 rfl rfl ?_
          refine oGo.iload (q := 124) at_122 rfl rfl ?_
          refine oGo.iloadN (q := 125) at_124 rfl rfl ?_
          refine oGo.i2b (q := 126) at_125 rfl ?_
          refine oGo.iload (q := 128) at_126 rfl rfl ?_
          refine oGo.callS (W := 1) (rm := ({ frames := 0, cells := 0, slots := 0, locals := 0 } : Room)) (q := 131) [(.int p0.toInt8.toInt32), (.int (1 : Int32))] [(.int (own_exp p0.toInt8.toInt32 1))] at_128 rfl (hw _ (List.mem_of_getElem? (i := 32) rfl)) (hw _ (List.mem_of_getElem? (i := 33) rfl)) (hw _ (List.mem_of_getElem? (i := 34) rfl)) (hw _ (List.mem_of_getElem? (i := 35) rfl)) (by decide) (ce hw p0.toInt8.toInt32 (1 : Int32) h47 n0) rfl rfl own_pd5 rfl rfl (Nat.le_of_eq rfl) (by decide) (by decide) (by decide) (by decide) ?_
          rintro _ h48 ⟨rfl, eh⟩
          all_goals subst h48
          show oGo Z _ _ _ _ _ _ n0 _ 2 6 h47 131 #[.val (.int p0), .val (.int p1), .val (.int p2), .val (.int p3), .val (.ref a), .val (.int (1 : Int32)), .val (.int b1), .val (.int b2), .val (.int (1 : Int32)), .val (.int m1), .val (.int m2), .val (.ref r), .val (.int (own_exp p0.toInt8.toInt32 1)), .unset, .unset, .unset] [(.int (own_exp p0.toInt8.toInt32 (1 : Int32))), (.int (own_exp p0.toInt8.toInt32 1))]
          refine oGo.icmp_ne (q := 147) (r := 134) at_131 (by decide) rfl (fun hc => absurd rfl hc) (fun hc => ?_)
          refine oGo.aload (q := 136) at_134 rfl rfl rfl ?_
          refine oGo.callV (W := 0) (rm := ({ frames := 0, cells := 0, slots := 0, locals := 0 } : Room)) (q := 139) (a := r) [] [] at_136 rfl (hw _ (List.mem_of_getElem? (i := 36) rfl)) (hw _ (List.mem_of_getElem? (i := 37) rfl)) (hw _ (List.mem_of_getElem? (i := 39) rfl)) (hw _ (List.mem_of_getElem? (i := 38) rfl)) (hw _ (List.mem_of_getElem? (i := 3) rfl)) (hw _ (List.mem_of_getElem? (i := 40) rfl)) rfl (by decide) (O2.1) (cp hw r (.ref a) (.int (-(1 : Int32))) (1 : Int32) h47 n0 O2) rfl rfl own_pd4 rfl rfl (Nat.le_of_eq rfl) (by decide) (by decide) (by decide) (by decide) ?_
          rintro _ h49 ⟨rfl, eh⟩
          all_goals subst h49
          show oGo Z _ _ _ _ _ _ n0 _ 2 6 h47 139 #[.val (.int p0), .val (.int p1), .val (.int p2), .val (.int p3), .val (.ref a), .val (.int (1 : Int32)), .val (.int b1), .val (.int b2), .val (.int (1 : Int32)), .val (.int m1), .val (.int m2), .val (.ref r), .val (.int (own_exp p0.toInt8.toInt32 1)), .unset, .unset, .unset] [(.int (1 : Int32))]
          refine oGo.iconst (q := 140) (v := (1 : Int32)) at_139 rfl rfl ?_
          refine oGo.icmp_ne (q := 147) (r := 143) at_140 (by decide) rfl (fun hc => absurd rfl hc) (fun hc => ?_)
          refine oGo.iconst (q := 144) (v := (1 : Int32)) at_143 rfl rfl ?_
          refine oGo.goto (q := 148) at_144 (by decide) ?_
          refine oGo.istore (q := 150) (L' := #[.val (.int p0), .val (.int p1), .val (.int p2), .val (.int p3), .val (.ref a), .val (.int (1 : Int32)), .val (.int b1), .val (.int b2), .val (.int (1 : Int32)), .val (.int m1), .val (.int m2), .val (.ref r), .val (.int (own_exp p0.toInt8.toInt32 1)), .val (.int (1 : Int32)), .unset, .unset]) at_148 rfl rfl ?_
          exact S150 _ _ _ _ _ _ _ hm1 hm2 O2 A2
        · skip -- 1 0 1
          refine oGo.iload (q := 107) at_105 rfl rfl ?_
          refine oGo.if_eq (q := 115) (r := 110) at_107 (by decide) rfl (fun hc => ?_) (fun hc => absurd rfl hc)
          refine oGo.aload (q := 117) at_115 rfl rfl rfl ?_
          refine oGo.callV (W := 0) (rm := ({ frames := 0, cells := 0, slots := 0, locals := 0 } : Room)) (q := 120) (a := r) [] [] at_117 rfl (hw _ (List.mem_of_getElem? (i := 25) rfl)) (hw _ (List.mem_of_getElem? (i := 26) rfl)) (hw _ (List.mem_of_getElem? (i := 28) rfl)) (hw _ (List.mem_of_getElem? (i := 27) rfl)) (hw _ (List.mem_of_getElem? (i := 3) rfl)) (hw _ (List.mem_of_getElem? (i := 29) rfl)) rfl (by decide) (O.1) (cx hw r a (0 : Int32) (1 : Int32) (-(1 : Int32)) p0.toInt8.toInt32 (own_exp p0.toInt8.toInt32 1) 0 [(.int p0.toInt8.toInt32), (.int p1.toInt8.toInt32), (.int p2.toInt8.toInt32)] hh n0 gr nar O A rfl rfl (by decide) (own_exp1 p0)) rfl rfl own_pd3 rfl rfl (Nat.le_of_eq rfl) (by decide) (by decide) (by decide) (by decide) ?_
          rintro _ h50 ⟨rfl, K2, O2⟩
          show oGo Z _ _ _ _ _ _ n0 _ 2 6 h50 120 #[.val (.int p0), .val (.int p1), .val (.int p2), .val (.int p3), .val (.ref a), .val (.int (0 : Int32)), .val (.int b1), .val (.int b2), .val (.int (1 : Int32)), .val (.int m1), .val (.int m2), .val (.ref r), .unset, .unset, .unset, .unset] [(.int (own_exp p0.toInt8.toInt32 1))]
          have A2 := Ars.keep A K2 (ninS nar nin0)
          refine oGo.istore (q := 122) (L' := #[.val (.int p0), .val (.int p1), .val (.int p2), .val (.int p3), .val (.ref a), .val (.int (0 : Int32)), .val (.int b1), .val (.int b2), .val (.int (1 : Int32)), .val (.int m1), .val (.int m2), .val (.ref r), .val (.int (own_exp p0.toInt8.toInt32 1)), .unset, .unset, .unset]) at_120 rfl rfl ?_
          refine oGo.iload (q := 124) at_122 rfl rfl ?_
          refine oGo.iloadN (q := 125) at_124 rfl rfl ?_
          refine oGo.i2b (q := 126) at_125 rfl ?_
          refine oGo.iload (q := 128) at_126 rfl rfl ?_
          refine oGo.callS (W := 1) (rm := ({ frames := 0, cells := 0, slots := 0, locals := 0 } : Room)) (q := 131) [(.int p0.toInt8.toInt32), (.int (1 : Int32))] [(.int (own_exp p0.toInt8.toInt32 1))] at_128 rfl (hw _ (List.mem_of_getElem? (i := 32) rfl)) (hw _ (List.mem_of_getElem? (i := 33) rfl)) (hw _ (List.mem_of_getElem? (i := 34) rfl)) (hw _ (List.mem_of_getElem? (i := 35) rfl)) (by decide) (ce hw p0.toInt8.toInt32 (1 : Int32) h50 n0) rfl rfl own_pd5 rfl rfl (Nat.le_of_eq rfl) (by decide) (by decide) (by decide) (by decide) ?_
          rintro _ h51 ⟨rfl, eh⟩
          all_goals subst h51
          show oGo Z _ _ _ _ _ _ n0 _ 2 6 h50 131 #[.val (.int p0), .val (.int p1), .val (.int p2), .val (.int p3), .val (.ref a), .val (.int (0 : Int32)), .val (.int b1), .val (.int b2), .val (.int (1 : Int32)), .val (.int m1), .val (.int m2), .val (.ref r), .val (.int (own_exp p0.toInt8.toInt32 1)), .unset, .unset, .unset] [(.int (own_exp p0.toInt8.toInt32 (1 : Int32))), (.int (own_exp p0.toInt8.toInt32 1))]
          refine oGo.icmp_ne (q := 147) (r := 134) at_131 (by decide) rfl (fun hc => absurd rfl hc) (fun hc => ?_)
          refine oGo.aload (q := 136) at_134 rfl rfl rfl ?_
          refine oGo.callV (W := 0) (rm := ({ frames := 0, cells := 0, slots := 0, locals := 0 } : Room)) (q := 139) (a := r) [] [] at_136 rfl (hw _ (List.mem_of_getElem? (i := 36) rfl)) (hw _ (List.mem_of_getElem? (i := 37) rfl)) (hw _ (List.mem_of_getElem? (i := 39) rfl)) (hw _ (List.mem_of_getElem? (i := 38) rfl)) (hw _ (List.mem_of_getElem? (i := 3) rfl)) (hw _ (List.mem_of_getElem? (i := 40) rfl)) rfl (by decide) (O2.1) (cp hw r (.ref a) (.int (-(1 : Int32))) (1 : Int32) h50 n0 O2) rfl rfl own_pd4 rfl rfl (Nat.le_of_eq rfl) (by decide) (by decide) (by decide) (by decide) ?_
          rintro _ h52 ⟨rfl, eh⟩
          all_goals subst h52
          show oGo Z _ _ _ _ _ _ n0 _ 2 6 h50 139 #[.val (.int p0), .val (.int p1), .val (.int p2), .val (.int p3), .val (.ref a), .val (.int (0 : Int32)), .val (.int b1), .val (.int b2), .val (.int (1 : Int32)), .val (.int m1), .val (.int m2), .val (.ref r), .val (.int (own_exp p0.toInt8.toInt32 1)), .unset, .unset, .unset] [(.int (1 : Int32))]
          refine oGo.iconst (q := 140) (v := (1 : Int32)) at_139 rfl rfl ?_
          refine oGo.icmp_ne (q := 147) (r := 143) at_140 (by decide) rfl (fun hc => absurd rfl hc) (fun hc => ?_)
          refine oGo.iconst (q := 144) (v := (1 : Int32)) at_143 rfl rfl ?_
          refine oGo.goto (q := 148) at_144 (by decide) ?_
          refine oGo.istore (q := 150) (L' := #[.val (.int p0), .val (.int p1), .val (.int p2), .val (.int p3), .val (.ref a), .val (.int (0 : Int32)), .val (.int b1), .val (.int b2), .val (.int (1 : Int32)), .val (.int m1), .val (.int m2), .val (.ref r), .val (.int (own_exp p0.toInt8.toInt32 1)), .val (.int (1 : Int32)), .unset, .unset]) at_148 rfl rfl ?_
          exact S150 _ _ _ _ _ _ _ hm1 hm2 O2 A2
        · skip -- 1 1 0
          refine oGo.iload (q := 107) at_105 rfl rfl ?_
          refine oGo.if_eq (q := 115) (r := 110) at_107 (by decide) rfl (fun hc => absurd hc (by decide)) (fun hc => ?_)
          refine oGo.aload (q := 112) at_110 rfl rfl rfl ?_
          refine oGo.callV (W := 0) (rm := ({ frames := 0, cells := 0, slots := 0, locals := 0 } : Room)) (q := 115) (a := r) [] [] at_112 rfl (hw _ (List.mem_of_getElem? (i := 18) rfl)) (hw _ (List.mem_of_getElem? (i := 19) rfl)) (hw _ (List.mem_of_getElem? (i := 21) rfl)) (hw _ (List.mem_of_getElem? (i := 20) rfl)) (hw _ (List.mem_of_getElem? (i := 3) rfl)) (hw _ (List.mem_of_getElem? (i := 22) rfl)) rfl (by decide) (O.1) (cv hw r (.ref a) (.int (0 : Int32)) (-(1 : Int32)) (-(0 : Int32)) hh n0 gr O (by decide)) rfl rfl own_pd2 rfl rfl (Nat.le_of_eq rfl) (by decide) (by decide) (by decide) (by decide) ?_
          rintro _ h53 ⟨rfl, K1, O1⟩
          show oGo Z _ _ _ _ _ _ n0 _ 2 6 h53 115 #[.val (.int p0), .val (.int p1), .val (.int p2), .val (.int p3), .val (.ref a), .val (.int (1 : Int32)), .val (.int b1), .val (.int b2), .val (.int (0 : Int32)), .val (.int m1), .val (.int m2), .val (.ref r), .unset, .unset, .unset, .unset] []
          have A1 := Ars.keep A K1 (ninS nar nin0)
          refine oGo.aload (q := 117) at_115 rfl rfl rfl ?_
          refine oGo.callV (W := 0) (rm := ({ frames := 0, cells := 0, slots := 0, locals := 0 } : Room)) (q := 120) (a := r) [] [] at_117 rfl (hw _ (List.mem_of_getElem? (i := 25) rfl)) (hw _ (List.mem_of_getElem? (i := 26) rfl)) (hw _ (List.mem_of_getElem? (i := 28) rfl)) (hw _ (List.mem_of_getElem? (i := 27) rfl)) (hw _ (List.mem_of_getElem? (i := 3) rfl)) (hw _ (List.mem_of_getElem? (i := 29) rfl)) rfl (by decide) (O1.1) (cx hw r a (0 : Int32) (1 : Int32) (-(0 : Int32)) p0.toInt8.toInt32 (own_exp p0.toInt8.toInt32 0) 0 [(.int p0.toInt8.toInt32), (.int p1.toInt8.toInt32), (.int p2.toInt8.toInt32)] h53 n0 gr nar O1 A1 rfl rfl (by decide) (own_exp0 p0)) rfl rfl own_pd3 rfl rfl (Nat.le_of_eq rfl) (by decide) (by decide) (by decide) (by decide) ?_
          rintro _ h54 ⟨rfl, K2, O2⟩
          show oGo Z _ _ _ _ _ _ n0 _ 2 6 h54 120 #[.val (.int p0), .val (.int p1), .val (.int p2), .val (.int p3), .val (.ref a), .val (.int (1 : Int32)), .val (.int b1), .val (.int b2), .val (.int (0 : Int32)), .val (.int m1), .val (.int m2), .val (.ref r), .unset, .unset, .unset, .unset] [(.int (own_exp p0.toInt8.toInt32 0))]
          have A2 := Ars.keep A1 K2 (ninS nar nin0)
          refine oGo.istore (q := 122) (L' := #[.val (.int p0), .val (.int p1), .val (.int p2), .val (.int p3), .val (.ref a), .val (.int (1 : Int32)), .val (.int b1), .val (.int b2), .val (.int (0 : Int32)), .val (.int m1), .val (.int m2), .val (.ref r), .val (.int (own_exp p0.toInt8.toInt32 0)), .unset, .unset, .unset]) at_120 rfl rfl ?_
          refine oGo.iload (q := 124) at_122 rfl rfl ?_
          refine oGo.iloadN (q := 125) at_124 rfl rfl ?_
          refine oGo.i2b (q := 126) at_125 rfl ?_
          refine oGo.iload (q := 128) at_126 rfl rfl ?_
          refine oGo.callS (W := 1) (rm := ({ frames := 0, cells := 0, slots := 0, locals := 0 } : Room)) (q := 131) [(.int p0.toInt8.toInt32), (.int (0 : Int32))] [(.int (own_exp p0.toInt8.toInt32 0))] at_128 rfl (hw _ (List.mem_of_getElem? (i := 32) rfl)) (hw _ (List.mem_of_getElem? (i := 33) rfl)) (hw _ (List.mem_of_getElem? (i := 34) rfl)) (hw _ (List.mem_of_getElem? (i := 35) rfl)) (by decide) (ce hw p0.toInt8.toInt32 (0 : Int32) h54 n0) rfl rfl own_pd5 rfl rfl (Nat.le_of_eq rfl) (by decide) (by decide) (by decide) (by decide) ?_
          rintro _ h55 ⟨rfl, eh⟩
          all_goals subst h55
          show oGo Z _ _ _ _ _ _ n0 _ 2 6 h54 131 #[.val (.int p0), .val (.int p1), .val (.int p2), .val (.int p3), .val (.ref a), .val (.int (1 : Int32)), .val (.int b1), .val (.int b2), .val (.int (0 : Int32)), .val (.int m1), .val (.int m2), .val (.ref r), .val (.int (own_exp p0.toInt8.toInt32 0)), .unset, .unset, .unset] [(.int (own_exp p0.toInt8.toInt32 (0 : Int32))), (.int (own_exp p0.toInt8.toInt32 0))]
          refine oGo.icmp_ne (q := 147) (r := 134) at_131 (by decide) rfl (fun hc => absurd rfl hc) (fun hc => ?_)
          refine oGo.aload (q := 136) at_134 rfl rfl rfl ?_
          refine oGo.callV (W := 0) (rm := ({ frames := 0, cells := 0, slots := 0, locals := 0 } : Room)) (q := 139) (a := r) [] [] at_136 rfl (hw _ (List.mem_of_getElem? (i := 36) rfl)) (hw _ (List.mem_of_getElem? (i := 37) rfl)) (hw _ (List.mem_of_getElem? (i := 39) rfl)) (hw _ (List.mem_of_getElem? (i := 38) rfl)) (hw _ (List.mem_of_getElem? (i := 3) rfl)) (hw _ (List.mem_of_getElem? (i := 40) rfl)) rfl (by decide) (O2.1) (cp hw r (.ref a) (.int (-(0 : Int32))) (1 : Int32) h54 n0 O2) rfl rfl own_pd4 rfl rfl (Nat.le_of_eq rfl) (by decide) (by decide) (by decide) (by decide) ?_
          rintro _ h56 ⟨rfl, eh⟩
          all_goals subst h56
          show oGo Z _ _ _ _ _ _ n0 _ 2 6 h54 139 #[.val (.int p0), .val (.int p1), .val (.int p2), .val (.int p3), .val (.ref a), .val (.int (1 : Int32)), .val (.int b1), .val (.int b2), .val (.int (0 : Int32)), .val (.int m1), .val (.int m2), .val (.ref r), .val (.int (own_exp p0.toInt8.toInt32 0)), .unset, .unset, .unset] [(.int (1 : Int32))]
          refine oGo.iconst (q := 140) (v := (1 : Int32)) at_139 rfl rfl ?_
          refine oGo.icmp_ne (q := 147) (r := 143) at_140 (by decide) rfl (fun hc => absurd rfl hc) (fun hc => ?_)
          refine oGo.iconst (q := 144) (v := (1 : Int32)) at_143 rfl rfl ?_
          refine oGo.goto (q := 148) at_144 (by decide) ?_
          refine oGo.istore (q := 150) (L' := #[.val (.int p0), .val (.int p1), .val (.int p2), .val (.int p3), .val (.ref a), .val (.int (1 : Int32)), .val (.int b1), .val (.int b2), .val (.int (0 : Int32)), .val (.int m1), .val (.int m2), .val (.ref r), .val (.int (own_exp p0.toInt8.toInt32 0)), .val (.int (1 : Int32)), .unset, .unset]) at_148 rfl rfl ?_
          exact S150 _ _ _ _ _ _ _ hm1 hm2 O2 A2
      exact S105 _ 0 b0 b0 (hb0.elim (fun e => Or.inl ⟨rfl, e, e⟩) fun e => Or.inr (Or.inl ⟨rfl, e, e⟩)) hm1 O A12__
    have J78 : ∀ m1 : Int32, own_x3 b0 b1 m1 → oGo Z x.cls x.name code maxLocals ret room_1 n0 (fun v _ => v = some (.int 1)) 1 3 h12 78 #[.val (.int p0), .val (.int p1), .val (.int p2), .val (.int p3), .val (.ref a), .val (.int b0), .val (.int b1), .val (.int b2), .val (.int b0), .unset, .unset, .unset, .unset, .unset, .unset, .unset] [(.int m1)] := by
      intro m1 hm1
      refine oGo.istore (q := 80) (L' := #[.val (.int p0), .val (.int p1), .val (.int p2), .val (.int p3), .val (.ref a), .val (.int b0), .val (.int b1), .val (.int b2), .val (.int b0), .val (.int m1), .unset, .unset, .unset, .unset, .unset, .unset]) at_78 rfl rfl ?_
      refine oGo.iload (q := 82) at_80 rfl rfl ?_
      refine oGo.iload (q := 84) at_82 rfl rfl ?_
      refine oGo.icmp_eq (q := 91) (r := 87) at_84 (by decide) rfl (fun hc => ?_) (fun hc => ?_)
      · skip
        refine oGo.iconst (q := 92) (v := (0 : Int32)) at_91 rfl rfl ?_
        exact J92 _ _ hm1 (by rcases hm1 with ⟨h1, h2, h3⟩ | ⟨h1, h2, h3⟩ | ⟨h1, h2, h3⟩ | ⟨h1, h2, h3⟩ <;> rcases hb2 with h4 | h4 <;> subst h3 <;> subst h4 <;> first | exact absurd hc (by decide) | (simp [own_x3]; done))
      · skip
        refine oGo.iconst (q := 88) (v := (1 : Int32)) at_87 rfl rfl ?_
        refine oGo.goto (q := 92) at_88 (by decide) ?_
        exact J92 _ _ hm1 (by rcases hm1 with ⟨h1, h2, h3⟩ | ⟨h1, h2, h3⟩ | ⟨h1, h2, h3⟩ | ⟨h1, h2, h3⟩ <;> rcases hb2 with h4 | h4 <;> subst h3 <;> subst h4 <;> first | exact absurd hc (by decide) | (simp [own_x3]; done))
    refine oGo.iload (q := 68) at_66 rfl rfl ?_
    refine oGo.iload (q := 70) at_68 rfl rfl ?_
    refine oGo.icmp_eq (q := 77) (r := 73) at_70 (by decide) rfl (fun hc => ?_) (fun hc => ?_)
    · skip
      refine oGo.iconst (q := 78) (v := (0 : Int32)) at_77 rfl rfl ?_
      exact J78 _ (by rcases hb0 with h3 | h3 <;> rcases hb1 with h4 | h4 <;> subst h3 <;> subst h4 <;> first | exact absurd hc (by decide) | (simp [own_x3]; done))
    · skip
      refine oGo.iconst (q := 74) (v := (1 : Int32)) at_73 rfl rfl ?_
      refine oGo.goto (q := 78) at_74 (by decide) ?_
      exact J78 _ (by rcases hb0 with h3 | h3 <;> rcases hb1 with h4 | h4 <;> subst h3 <;> subst h4 <;> first | exact absurd hc (by decide) | (simp [own_x3]; done))
  have J47 : ∀ b0 b1 : Int32, (b0 = 0 ∨ b0 = 1) → (b1 = 0 ∨ b1 = 1) → oGo Z x.cls x.name code maxLocals ret room_1 n0 (fun v _ => v = some (.int 1)) 1 3 h12 47 #[.val (.int p0), .val (.int p1), .val (.int p2), .val (.int p3), .val (.ref a), .val (.int b0), .unset, .unset, .unset, .unset, .unset, .unset, .unset, .unset, .unset, .unset] [(.int b1)] := by
    intro b0 b1 hb0 hb1
    refine oGo.istore (q := 49) (L' := #[.val (.int p0), .val (.int p1), .val (.int p2), .val (.int p3), .val (.ref a), .val (.int b0), .val (.int b1), .unset, .unset, .unset, .unset, .unset, .unset, .unset, .unset, .unset]) at_47 rfl rfl ?_
    refine oGo.iloadN (q := 50) at_49 rfl rfl ?_
    refine oGo.iconst (q := 51) (v := (4 : Int32)) at_50 rfl rfl ?_
    refine oGo.iand (q := 52) at_51 rfl ?_
    refine oGo.if_eq (q := 59) (r := 55) at_52 (by decide) rfl (fun hc => ?_) (fun hc => ?_)
    · skip
      refine oGo.iconst (q := 60) (v := (0 : Int32)) at_59 rfl rfl ?_
      exact J60 _ _ _ hb0 hb1 (Or.inl rfl)
    · skip
      refine oGo.iconst (q := 56) (v := (1 : Int32)) at_55 rfl rfl ?_
      refine oGo.goto (q := 60) at_56 (by decide) ?_
      exact J60 _ _ _ hb0 hb1 (Or.inr rfl)
  have J34 : ∀ b0 : Int32, (b0 = 0 ∨ b0 = 1) → oGo Z x.cls x.name code maxLocals ret room_1 n0 (fun v _ => v = some (.int 1)) 1 3 h12 34 #[.val (.int p0), .val (.int p1), .val (.int p2), .val (.int p3), .val (.ref a), .unset, .unset, .unset, .unset, .unset, .unset, .unset, .unset, .unset, .unset, .unset] [(.int b0)] := by
    intro b0 hb0
    refine oGo.istore (q := 36) (L' := #[.val (.int p0), .val (.int p1), .val (.int p2), .val (.int p3), .val (.ref a), .val (.int b0), .unset, .unset, .unset, .unset, .unset, .unset, .unset, .unset, .unset, .unset]) at_34 rfl rfl ?_
    refine oGo.iloadN (q := 37) at_36 rfl rfl ?_
    refine oGo.iconst (q := 38) (v := (2 : Int32)) at_37 rfl rfl ?_
    refine oGo.iand (q := 39) at_38 rfl ?_
    refine oGo.if_eq (q := 46) (r := 42) at_39 (by decide) rfl (fun hc => ?_) (fun hc => ?_)
    · skip
      refine oGo.iconst (q := 47) (v := (0 : Int32)) at_46 rfl rfl ?_
      exact J47 _ _ hb0 (Or.inl rfl)
    · skip
      refine oGo.iconst (q := 43) (v := (1 : Int32)) at_42 rfl rfl ?_
      refine oGo.goto (q := 47) at_43 (by decide) ?_
      exact J47 _ _ hb0 (Or.inr rfl)
  refine oGo.if_eq (q := 33) (r := 29) at_26 (by decide) rfl (fun hc => ?_) (fun hc => ?_)
  · skip
    refine oGo.iconst (q := 34) (v := (0 : Int32)) at_33 rfl rfl ?_
    exact J34 _ (Or.inl rfl)
  · skip
    refine oGo.iconst (q := 30) (v := (1 : Int32)) at_29 rfl rfl ?_
    refine oGo.goto (q := 34) at_30 (by decide) ?_
    exact J34 _ (Or.inr rfl)
set_option maxRecDepth 65536 in
set_option maxHeartbeats 40000000 in
theorem comes_1 {Post : Tables → Env → Array Value → State → Outcome → State → Prop} (hpost : ∀ tb e args s v u, (limb_1_1.after args s (.returned v) u = true ∧ limb_1_2.after args s (.returned v) u = true ∧ True) → FrameEnd s (.returned v) u (Jvm.fieldLocs frame_1_writes args s ++ Jvm.arrayLocs frame_1_arrays args s ++ Jvm.staticLocs frame_1_statics s) 16 128 → Post tb e args s (.returned v) u) :
    ArmFor flags0 classFile x code maxLocals ret World_1 tables_1 room_1 Calls_1 rest_1 Pre_1 Post := by
  intro l hfl _ _ p e ha hc hk s m args below hf hA hF happ hP
  obtain ⟨hcalls, hrest, hpre⟩ := hP
  obtain ⟨-, -, -, hnamed, -, -, -, hat⟩ := (Spec.applies_iff hf).mp happ
  obtain ⟨hg, hn⟩ := and_e (Cond.before_iff.mp (show (Jvm.Cond.and given_1 narrow_1).before args s = true from hpre))
  obtain ⟨h1, g0⟩ := and_e hg
  obtain ⟨b0, g1⟩ := and_e g0
  obtain ⟨b1, g2⟩ := and_e g1
  obtain ⟨b2, g3⟩ := and_e g2
  have b3 := g3
  obtain ⟨w0, w1, w2, w3, rfl⟩ : ∃ w0 w1 w2 w3 : Value, args = #[w0, w1, w2, w3] := by
    have hs : args.size = 4 := by simpa [Cond.value, given_1] using h1
    obtain ⟨L⟩ := args
    match L, hs with
    | [w0, w1, w2, w3], _ => exact ⟨w0, w1, w2, w3, rfl⟩
  have hw := fun d (hd : d ∈ tables_1) => atoms_spec (ws := Jvm.Cond.code x code maxLocals ret :: tables_1) hat d (List.mem_cons_of_mem _ hd)
  have hfit : Fit s := fun {y c} hc i hi => by
    obtain ⟨ha, rfl⟩ := Array.getElem?_eq_some_iff.mp hc
    have q := List.all_eq_true.mp ((Array.all_eq_true_iff_forall_mem.mp hF) _ (Array.getElem_mem ha)) i (List.mem_range.mpr hi)
    simpa [Array.getElem?_eq_getElem hi] using q
  obtain ⟨i0, e0⟩ := is_v b0
  obtain rfl : w0 = (.int i0) := Option.some.inj e0
  obtain ⟨i1, e1⟩ := is_v b1
  obtain rfl : w1 = (.int i1) := Option.some.inj e1
  obtain ⟨i2, e2⟩ := is_v b2
  obtain rfl : w2 = (.int i2) := Option.some.inj e2
  obtain ⟨i3, e3⟩ := is_v b3
  obtain rfl : w3 = (.int i3) := Option.some.inj e3
  obtain ⟨n, o, q1, q2, q3, _, L, rfl, ⟨rfl, N⟩, hq⟩ := (law hw i0 i1 i2 i3 s.heap s.heap.size (Nat.le_refl _)) l tables_1 p e ha hc hk s m _ below hf ((Spec.applies_iff_loose hf).mp happ).1 ⟨rfl, State.Warmed39.refl s, rfl⟩ trivial
  refine ⟨n, _, q1, q2, q3, hpost _ _ _ _ _ _ ⟨Cond.after_iff.mpr rfl, Cond.after_iff.mpr (eq_i res_at (Term.int_eval (1)) rfl), trivial⟩ ⟨hq.1, hq.2.1, (hq.2.2.sift fun y hy => Or.inr (N y hy)).mono (by decide) (by decide)⟩⟩
theorem main_1_1 : Claimed_1_1 := comes_1 fun _ _ _ _ _ _ h hF => ⟨h.1, hF⟩
theorem main_1_2 : Claimed_1_2 := comes_1 fun _ _ _ _ _ _ h hF => ⟨h.2.1, hF⟩
end Jvm.Pilot.@@N@@
namespace Jvm.Pilot.@@N@@
open Jvm Jvm.ClassFile Sem Op Lib Jvm.Free Jvm.Stand Jvm.Pilot.@@N@@.Jvm.D
/-! MADE BY PROGRAM (witnessworld.py) out of the Statement's table words and the real class files: 10 classes; the members and pool entries that the words name. The judged class is class 1, her method 2. -/
namespace start1
open Jvm.ClassFile
def u (s : String) : CpInfo := .utf8 (stringToUtf16 s)
/-- a pool by its gaps: so many unusable entries, then the entry; so many at the end -/
def gap : Nat → List CpInfo → List CpInfo
  | 0, r => r
  | n + 1, r => .unusable :: gap n r
def poolList (es : List (Nat × CpInfo)) (last : Nat) : List CpInfo := es.foldr (fun e r => gap e.1 (e.2 :: r)) (gap last [])
def pool (es : List (Nat × CpInfo)) (last : Nat) : Array CpInfo := ⟨poolList es last⟩
def fileOf (pool : Array CpInfo) (this : Nat) (attrs : Array Attribute := #[]) (ms : Array MethodInfo := #[]) (fl : Nat := 33) (sup : Nat := 0) (ifs : Array Nat := #[]) (fds : Array FieldInfo := #[]) : ClassFile where
  minorVersion := 0
  majorVersion := 65
  constantPool := pool
  accessFlags := fl
  thisClass := this
  superClass := sup
  interfaces := ifs
  fields := fds
  methods := ms
  attributes := attrs
def plain (name : String) (sup : Option ClassId) : Class where
  name := name
  kind := .ordinary
  loader := none
  accessFlags := 33
  super := sup
  interfaces := #[]
  cf := none
  fields := #[]
  methods := #[]
  instanceTypes := #[]
  staticTypes := #[]
  resolved := #[]
  callSites := []
  init := .initialized
  statics := none
  mirror := none

def pool0 : Array CpInfo := pool [(5, u "<init>"), (0, u "()V"), (1, .class_ 10), (1, u "java/lang/Object")] 113

def k0c0 : Code := { maxStack := 0, maxLocals := 1, code := object_method_1_code, exceptionTable := #[], attributes := #[] }
def k0m0 : Method := { name := "<init>", desc := "()V", sig := { parameters := [], returnType := none }, accessFlags := 1, code := some k0c0 }
/-- java/lang/Object -/
def k0 : Class := { plain "java/lang/Object" none with
  accessFlags := 33
  interfaces := #[]
  cf := some (fileOf pool0 8 #[] #[{ accessFlags := 1, nameIndex := 5, descriptorIndex := 6, attributes := #[] }] 33 0 #[] #[])
  fields := #[]
  methods := #[k0m0]
  instanceTypes := #[]
  staticTypes := #[]
  resolved := Array.replicate 124 none
  statics := none }

def pool1 : Array CpInfo := pool [(2, .class_ 4), (1, u "java/lang/Object"), (0, u "<init>"), (0, u "()V"), (0, .class_ 8), (0, u "com/example/lexorder/lexorder/ByteReader"), (0, .methodref 7 10), (0, .nameAndType 5 11), (0, u "([B)V"), (0, .methodref 7 13), (0, .nameAndType 14 6), (0, u "invert"), (0, .methodref 7 16), (0, .nameAndType 17 18), (0, u "next"), (0, u "()B"), (0, .methodref 20 21), (0, .class_ 22), (0, .nameAndType 23 24), (0, u "com/example/lexorder/lexorder/ByteReaderNextPinLaw"), (0, u "expected"), (0, u "(BZ)B"), (0, .methodref 7 26), (0, .nameAndType 27 28), (0, u "position"), (0, u "()I"), (3, u "law"), (0, u "(IIII)Z")] 4

def k1m0 : Method := { name := "<init>", desc := "()V", sig := { parameters := [], returnType := none }, accessFlags := 2, code := none }
def k1c1 : Code := { maxStack := 2, maxLocals := 3, code := method_2_code, exceptionTable := #[], attributes := #[] }
def k1m1 : Method := { name := "expected", desc := "(BZ)B", sig := { parameters := [.byte, .boolean], returnType := some .byte }, accessFlags := 10, code := some k1c1 }
def k1c2 : Code := { maxStack := 3, maxLocals := 16, code := code, exceptionTable := #[], attributes := #[] }
def k1m2 : Method := { name := "law", desc := "(IIII)Z", sig := { parameters := [.int, .int, .int, .int], returnType := some .boolean }, accessFlags := 9, code := some k1c2 }
/-- com/example/lexorder/lexorder/ByteReaderNextPinLaw -/
def k1 : Class := { plain "com/example/lexorder/lexorder/ByteReaderNextPinLaw" (some 0) with
  accessFlags := 49
  interfaces := #[]
  cf := some (fileOf pool1 20 #[] #[{ accessFlags := 2, nameIndex := 5, descriptorIndex := 6, attributes := #[] }, { accessFlags := 10, nameIndex := 23, descriptorIndex := 24, attributes := #[] }, { accessFlags := 9, nameIndex := 32, descriptorIndex := 33, attributes := #[] }] 49 2 #[] #[])
  fields := #[]
  methods := #[k1m0, k1m1, k1m2]
  instanceTypes := #[]
  staticTypes := #[]
  resolved := Array.replicate 38 none
  statics := none }

def pool2 : Array CpInfo := pool [(1, .methodref 2 3), (0, .class_ 4), (0, .nameAndType 5 6), (0, u "java/lang/Object"), (0, u "<init>"), (0, u "()V"), (0, .methodref 8 9), (0, .class_ 10), (0, .nameAndType 11 12), (0, u "java/util/Objects"), (0, u "requireNonNull"), (0, u "(Ljava/lang/Object;)Ljava/lang/Object;"), (0, .class_ 14), (0, u "[B"), (0, .fieldref 16 17), (0, .class_ 18), (0, .nameAndType 19 14), (0, u "com/example/lexorder/lexorder/ByteReader"), (0, u "bytes"), (0, .fieldref 16 21), (0, .nameAndType 22 23), (0, u "position"), (0, u "I"), (4, .fieldref 16 29), (0, .nameAndType 30 31), (0, u "mask"), (0, u "B"), (16, u "next"), (0, u "()B"), (1, .class_ 53), (1, u "com/example/lexorder/lexorder/ByteReader$RangeDecoder"), (44, u "()I"), (12, u "([B)V"), (17, u "invert")] 27

def k2c0 : Code := { maxStack := 2, maxLocals := 2, code := prog_2_method_1_code, exceptionTable := #[], attributes := #[] }
def k2m0 : Method := { name := "<init>", desc := "([B)V", sig := { parameters := [(.array .byte)], returnType := none }, accessFlags := 0, code := some k2c0 }
def k2c1 : Code := { maxStack := 1, maxLocals := 1, code := prog_2_method_2_code, exceptionTable := #[], attributes := #[] }
def k2m1 : Method := { name := "position", desc := "()I", sig := { parameters := [], returnType := some .int }, accessFlags := 0, code := some k2c1 }
def k2c2 : Code := { maxStack := 5, maxLocals := 1, code := prog_2_method_7_code, exceptionTable := #[], attributes := #[] }
def k2m2 : Method := { name := "next", desc := "()B", sig := { parameters := [], returnType := some .byte }, accessFlags := 0, code := some k2c2 }
def k2c3 : Code := { maxStack := 3, maxLocals := 1, code := prog_2_method_15_code, exceptionTable := #[], attributes := #[] }
def k2m3 : Method := { name := "invert", desc := "()V", sig := { parameters := [], returnType := none }, accessFlags := 0, code := some k2c3 }
/-- com/example/lexorder/lexorder/ByteReader -/
def k2 : Class := { plain "com/example/lexorder/lexorder/ByteReader" (some 0) with
  accessFlags := 48
  interfaces := #[]
  cf := some (fileOf pool2 16 #[.nestMembers #[51]] #[{ accessFlags := 0, nameIndex := 5, descriptorIndex := 111, attributes := #[] }, { accessFlags := 0, nameIndex := 22, descriptorIndex := 98, attributes := #[] }, { accessFlags := 0, nameIndex := 48, descriptorIndex := 49, attributes := #[] }, { accessFlags := 0, nameIndex := 129, descriptorIndex := 6, attributes := #[] }] 48 2 #[] #[{ accessFlags := 18, nameIndex := 19, descriptorIndex := 14, attributes := #[] }, { accessFlags := 2, nameIndex := 22, descriptorIndex := 23, attributes := #[] }, { accessFlags := 2, nameIndex := 30, descriptorIndex := 31, attributes := #[] }])
  fields := #[{ name := "bytes", type := (.array .byte), accessFlags := 18, slot := 0, constantValue := 0 }, { name := "position", type := .int, accessFlags := 2, slot := 1, constantValue := 0 }, { name := "mask", type := .byte, accessFlags := 2, slot := 2, constantValue := 0 }]
  methods := #[k2m0, k2m1, k2m2, k2m3]
  instanceTypes := #[(.array .byte), .int, .byte]
  staticTypes := #[]
  resolved := Array.replicate 157 none
  statics := none }

def pool3 : Array CpInfo := pool [(2, .class_ 4), (1, u "java/lang/Object"), (0, u "<init>"), (0, u "()V"), (35, .class_ 44), (1, u "java/util/Objects"), (0, u "requireNonNull"), (0, u "(Ljava/lang/Object;)Ljava/lang/Object;")] 137

def k3m0 : Method := { name := "<init>", desc := "()V", sig := { parameters := [], returnType := none }, accessFlags := 2, code := none }
def k3c1 : Code := { maxStack := 2, maxLocals := 1, code := jdk_31_method_10_code, exceptionTable := #[], attributes := #[] }
def k3m1 : Method := { name := "requireNonNull", desc := "(Ljava/lang/Object;)Ljava/lang/Object;", sig := { parameters := [(.object "java/lang/Object")], returnType := some (.object "java/lang/Object") }, accessFlags := 9, code := some k3c1 }
/-- java/util/Objects -/
def k3 : Class := { plain "java/util/Objects" (some 0) with
  accessFlags := 49
  interfaces := #[]
  cf := some (fileOf pool3 42 #[] #[{ accessFlags := 2, nameIndex := 5, descriptorIndex := 6, attributes := #[] }, { accessFlags := 9, nameIndex := 45, descriptorIndex := 46, attributes := #[] }] 49 2 #[] #[])
  fields := #[]
  methods := #[k3m0, k3m1]
  instanceTypes := #[]
  staticTypes := #[]
  resolved := Array.replicate 184 none
  statics := none }

def pool4 : Array CpInfo := pool [(1, u "java/lang/Cloneable"), (0, .class_ 1), (0, u "java/lang/Object"), (0, .class_ 3)] 3

/-- java/lang/Cloneable -/
def k4 : Class := { plain "java/lang/Cloneable" (some 0) with
  accessFlags := 1537
  interfaces := #[]
  cf := some (fileOf pool4 2 #[] #[] 1537 4 #[] #[])
  fields := #[]
  methods := #[]
  instanceTypes := #[]
  staticTypes := #[]
  resolved := Array.replicate 8 none
  statics := none }

def pool5 : Array CpInfo := pool [(1, u "java/io/Serializable"), (0, .class_ 1), (0, u "java/lang/Object"), (0, .class_ 3)] 3

/-- java/io/Serializable -/
def k5 : Class := { plain "java/io/Serializable" (some 0) with
  accessFlags := 1537
  interfaces := #[]
  cf := some (fileOf pool5 2 #[] #[] 1537 4 #[] #[])
  fields := #[]
  methods := #[]
  instanceTypes := #[]
  staticTypes := #[]
  resolved := Array.replicate 8 none
  statics := none }

/-- the primitive byte -/
def k6 : Class := { plain "byte" none with kind := .primitive 'B', accessFlags := 0x411 }
/-- [B -/
def k7 : Class := { plain "[B" (some 0) with kind := .array 6 .byte, interfaces := #[4, 5], accessFlags := 1041 }

/-- the primitive int -/
def k8 : Class := { plain "int" none with kind := .primitive 'I', accessFlags := 0x411 }
/-- [I -/
def k9 : Class := { plain "[I" (some 0) with kind := .array 8 .int, interfaces := #[4, 5], accessFlags := 1041 }

def heap : Heap := #[]
def classes : Array Class := #[k0, k1, k2, k3, k4, k5, k6, k7, k8, k9]
def interned : List (Array UInt16 × Addr) := []
def slotsUsed : Nat := 0
def theMethod : MethodId := ⟨1, 2⟩
def args0 : Array Value := #[.int 5, .int 2, .int 5, .int 2]
def aboutOver (below : List Frame) : State where
  vm := { classes := classes, interned := interned.toArray }
  heap := heap
  slotsUsed := slotsUsed
  threads := #[{ frames := .invoking theMethod args0 :: below }]
def below0 : List Frame := [.native { method := ⟨0, 0⟩, args := #[] }]
def about1 : State := aboutOver below0
def p0 : Program := .bare "" "" ""
def e0 : Env := launch0.env 0 0 0
theorem w_frames : about1.frames = Frame.invoking theMethod args0 :: below0 := rfl
set_option maxRecDepth 65536 in
theorem w_args : argsFit about1.vm theMethod args0 = true := by decide +kernel
set_option maxRecDepth 65536 in
theorem w_heap : heapFits about1 = true := by decide +kernel
set_option maxRecDepth 65536 in
theorem w_runnable : about1.curStatus? = some .runnable := by decide +kernel
set_option maxRecDepth 65536 in
theorem w_alone : about1.alone = true := by decide +kernel
set_option maxRecDepth 65536 in
theorem w_named : about1.methodNamed? x = some theMethod := by decide +kernel
set_option maxRecDepth 65536 in
theorem w_hears : about1.hears theMethod below0 = true := by decide +kernel
set_option maxRecDepth 65536 in
theorem w_ripe : about1.ripe theMethod args0 below0 = true := by decide +kernel
theorem w_running : about1.status = .running := rfl
set_option maxRecDepth 65536 in
theorem w_room : about1.hasRoom e0.platform room_1 = true :=
  launch0.hasRoom_least _ room_1 (by decide +kernel) (by decide +kernel) (by decide +kernel) (by decide +kernel) (by decide +kernel) (by decide +kernel)
theorem allAtoms_all (ts : List Jvm.Cond) (a : Array Jvm.Value) (st : Jvm.State) : (allAtoms ts).before a st = ts.all (fun c => c.before a st) := by
  induction ts with
  | nil => rfl
  | cons c t ih =>
    show (Jvm.Cond.and c (allAtoms t)).before a st = _
    rw [Jvm.Cond.before_and, ih, List.all_cons]
def words1 : List Jvm.Cond := Jvm.Cond.code x code maxLocals ret :: tables_1
/-- a 'code' word, met by the world's own term for the bytes: nothing is compared byte by byte -/
theorem code_word {y : MethodName} {bytes : ByteArray} {mx : Nat} {rt : Option FieldType} {a : Array Value} {s : State} {m : MethodId} {meth : Method} {c : Code} (h1 : s.methodNamed? y = some m) (h2 : s.vm.method? m = some meth) (h3 : meth.code = some c) (h4 : c.code = bytes)
    (h5 : (c.maxLocals == mx && c.exceptionTable.isEmpty && decide (c.maxStack ≤ mostOperands) && decide (meth.sig.returnType = rt) && !meth.locks && decide (parseMethodDescriptor y.desc = some meth.sig)) = true) : (Jvm.Cond.code y bytes mx rt).before a s = true := by
  simp only [Bool.and_eq_true, beq_iff_eq, Bool.not_eq_true', decide_eq_true_eq] at h5
  obtain ⟨⟨⟨⟨⟨g1, g2⟩, g3⟩, g4⟩, g5⟩, g6⟩ := h5
  simp [Cond.before, Cond.holds, Cond.value, h1, h2, h3, h4, g1, g2, g3, g4, g5, g6]
def isCode : Jvm.Cond → Bool
  | .code _ _ _ _ => true
  | _ => false
theorem all_split {L : List Jvm.Cond} {P : Jvm.Cond → Bool} (h1 : L.all (fun c => isCode c || P c) = true) (h2 : ∀ c ∈ L.filter isCode, P c = true) : L.all P = true := by
  refine List.all_eq_true.mpr fun c hc => ?_
  have h := List.all_eq_true.mp h1 c hc
  rcases Bool.eq_false_or_eq_true (isCode c) with hi | hi
  · exact h2 c (List.mem_filter.mpr ⟨hc, hi⟩)
  · simpa [hi] using h
set_option maxRecDepth 65536 in
theorem w_c0 : (Jvm.Cond.code x code maxLocals ret).before args0 about1 = true := code_word (m := ⟨1, 2⟩) (meth := k1m2) (c := k1c2) (by decide +kernel) rfl rfl rfl (by decide +kernel)
set_option maxRecDepth 65536 in
theorem w_c1 : (Jvm.Cond.code ({ cls := "com/example/lexorder/lexorder/ByteReader", name := "<init>", desc := "([B)V" } : Jvm.MethodName) prog_2_method_1_code (2 : Nat) (Option.none : Option Jvm.ClassFile.FieldType)).before args0 about1 = true := code_word (m := ⟨2, 0⟩) (meth := k2m0) (c := k2c0) (by decide +kernel) rfl rfl rfl (by decide +kernel)
set_option maxRecDepth 65536 in
theorem w_c2 : (Jvm.Cond.code ({ cls := "java/lang/Object", name := "<init>", desc := "()V" } : Jvm.MethodName) object_method_1_code (1 : Nat) (Option.none : Option Jvm.ClassFile.FieldType)).before args0 about1 = true := code_word (m := ⟨0, 0⟩) (meth := k0m0) (c := k0c0) (by decide +kernel) rfl rfl rfl (by decide +kernel)
set_option maxRecDepth 65536 in
theorem w_c3 : (Jvm.Cond.code ({ cls := "java/util/Objects", name := "requireNonNull", desc := "(Ljava/lang/Object;)Ljava/lang/Object;" } : Jvm.MethodName) jdk_31_method_10_code (1 : Nat) (Option.some (Jvm.ClassFile.FieldType.object "java/lang/Object"))).before args0 about1 = true := code_word (m := ⟨3, 1⟩) (meth := k3m1) (c := k3c1) (by decide +kernel) rfl rfl rfl (by decide +kernel)
set_option maxRecDepth 65536 in
theorem w_c4 : (Jvm.Cond.code ({ cls := "com/example/lexorder/lexorder/ByteReader", name := "invert", desc := "()V" } : Jvm.MethodName) prog_2_method_15_code (1 : Nat) (Option.none : Option Jvm.ClassFile.FieldType)).before args0 about1 = true := code_word (m := ⟨2, 3⟩) (meth := k2m3) (c := k2c3) (by decide +kernel) rfl rfl rfl (by decide +kernel)
set_option maxRecDepth 65536 in
theorem w_c5 : (Jvm.Cond.code ({ cls := "com/example/lexorder/lexorder/ByteReader", name := "next", desc := "()B" } : Jvm.MethodName) prog_2_method_7_code (1 : Nat) (Option.some Jvm.ClassFile.FieldType.byte)).before args0 about1 = true := code_word (m := ⟨2, 2⟩) (meth := k2m2) (c := k2c2) (by decide +kernel) rfl rfl rfl (by decide +kernel)
set_option maxRecDepth 65536 in
theorem w_c6 : (Jvm.Cond.code ({ cls := "com/example/lexorder/lexorder/ByteReaderNextPinLaw", name := "expected", desc := "(BZ)B" } : Jvm.MethodName) method_2_code (3 : Nat) (Option.some Jvm.ClassFile.FieldType.byte)).before args0 about1 = true := code_word (m := ⟨1, 1⟩) (meth := k1m1) (c := k1c1) (by decide +kernel) rfl rfl rfl (by decide +kernel)
set_option maxRecDepth 65536 in
theorem w_c7 : (Jvm.Cond.code ({ cls := "com/example/lexorder/lexorder/ByteReader", name := "position", desc := "()I" } : Jvm.MethodName) prog_2_method_2_code (1 : Nat) (Option.some Jvm.ClassFile.FieldType.int)).before args0 about1 = true := code_word (m := ⟨2, 1⟩) (meth := k2m1) (c := k2c1) (by decide +kernel) rfl rfl rfl (by decide +kernel)
def codes1 : List Jvm.Cond := [Jvm.Cond.code x code maxLocals ret, Jvm.Cond.code ({ cls := "com/example/lexorder/lexorder/ByteReader", name := "<init>", desc := "([B)V" } : Jvm.MethodName) prog_2_method_1_code (2 : Nat) (Option.none : Option Jvm.ClassFile.FieldType), Jvm.Cond.code ({ cls := "java/lang/Object", name := "<init>", desc := "()V" } : Jvm.MethodName) object_method_1_code (1 : Nat) (Option.none : Option Jvm.ClassFile.FieldType), Jvm.Cond.code ({ cls := "java/util/Objects", name := "requireNonNull", desc := "(Ljava/lang/Object;)Ljava/lang/Object;" } : Jvm.MethodName) jdk_31_method_10_code (1 : Nat) (Option.some (Jvm.ClassFile.FieldType.object "java/lang/Object")), Jvm.Cond.code ({ cls := "com/example/lexorder/lexorder/ByteReader", name := "invert", desc := "()V" } : Jvm.MethodName) prog_2_method_15_code (1 : Nat) (Option.none : Option Jvm.ClassFile.FieldType), Jvm.Cond.code ({ cls := "com/example/lexorder/lexorder/ByteReader", name := "next", desc := "()B" } : Jvm.MethodName) prog_2_method_7_code (1 : Nat) (Option.some Jvm.ClassFile.FieldType.byte), Jvm.Cond.code ({ cls := "com/example/lexorder/lexorder/ByteReaderNextPinLaw", name := "expected", desc := "(BZ)B" } : Jvm.MethodName) method_2_code (3 : Nat) (Option.some Jvm.ClassFile.FieldType.byte), Jvm.Cond.code ({ cls := "com/example/lexorder/lexorder/ByteReader", name := "position", desc := "()I" } : Jvm.MethodName) prog_2_method_2_code (1 : Nat) (Option.some Jvm.ClassFile.FieldType.int)]
set_option maxRecDepth 65536 in
theorem codes_eq : words1.filter isCode = codes1 := rfl
theorem w_codes : ∀ c ∈ words1.filter isCode, c.before args0 about1 = true := by
  rw [codes_eq]
  intro c hc
  simp only [codes1, List.mem_cons, List.not_mem_nil, or_false] at hc
  rcases hc with rfl | rfl | rfl | rfl | rfl | rfl | rfl | rfl
  · exact w_c0
  · exact w_c1
  · exact w_c2
  · exact w_c3
  · exact w_c4
  · exact w_c5
  · exact w_c6
  · exact w_c7
set_option maxRecDepth 65536 in
theorem w_t1 : (words1.take 24).all (fun c => isCode c || c.before args0 about1) = true := by decide +kernel
set_option maxRecDepth 65536 in
theorem w_t2 : (words1.drop 24).all (fun c => isCode c || c.before args0 about1) = true := by decide +kernel
theorem w_tables : (allAtoms (Jvm.Cond.code x code maxLocals ret :: tables_1)).before args0 about1 = true := by
  rw [allAtoms_all]
  show words1.all (fun c => c.before args0 about1) = true
  refine all_split ?_ w_codes
  rw [← List.take_append_drop 24 words1, List.all_append, w_t1, w_t2]
  rfl
set_option maxRecDepth 65536 in
theorem w_case : (Jvm.Cond.and given_1 narrow_1).before args0 about1 = true := by decide +kernel
theorem w_applies : (headSpec (Jvm.Cond.code x code maxLocals ret :: tables_1) room_1).applies x e0.platform about1 = true :=
  (Spec.applies_iff w_frames).mpr ⟨w_running, w_runnable, w_alone, w_named, w_hears, w_ripe, w_room, w_tables⟩
theorem atStart : AtStart classFile x code maxLocals ret World_1 tables_1 room_1 Calls_1 rest_1 Pre_1 launch0 p0 e0 about1 theMethod args0 below0 :=
  ⟨lists_1, trivial, launch0.admits_env _ _ _, launch0.least_env, fairChoices_fair.cas, fairChoices_fair.clock, w_frames, w_args, w_heap, w_applies, trivial, trivial, w_case⟩
end start1
theorem witness_1 : WitnessClaimed_1 := ⟨start1.p0, start1.e0, start1.about1, start1.theMethod, start1.args0, start1.below0, start1.atStart⟩
end Jvm.Pilot.@@N@@
