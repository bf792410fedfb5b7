import JvmDerived
import JvmDerived.Pilot.@@N@@Statement
import JvmDerived.Pilot.@@N@@Code
set_option linter.unusedVariables false
set_option linter.unusedSimpArgs false
namespace Jvm.Pilot.@@N@@
open Jvm Jvm.ClassFile Sem Op Lib Jvm.Free Jvm.Stand Jvm.LawKit Jvm.RoadKit Bundle Jvm.Pilot.@@N@@.Jvm.D
section Own
variable {Z : State} {own nm : String} {bytes : ByteArray} {ml : Nat} {ret : Option FieldType} {R : Room} {n0 : Nat} {Q : Option Value → Heap → Prop} {k n : Nat} {h : Heap} {pc q r : Nat} {L L' : Array Slot} {S S' : List Value} {a0 : Array Value}
/-- what a body's own record says of it -/
def oCtx (p : Program) (s : State) (m : MethodId) (meth : Method) (c : Code) (Z : State) (own nm : String) (bytes : ByteArray) (ml : Nat) (ret : Option FieldType) : Prop :=
  p.tables.exec = Jvm.exec ∧ Z.Warmed39 s.vm ∧ c.code = bytes ∧ c.maxLocals = ml ∧ s.vm.findClass own = some m.cls ∧ meth.sig.returnType = ret ∧ meth.locks = false ∧ meth.name = nm
/-- from here on the body comes to its end, and there Q holds; nothing old is written -/
def oGo (Z : State) (own nm : String) (bytes : ByteArray) (ml : Nat) (ret : Option FieldType) (R : Room) (n0 : Nat) (Q : Option Value → Heap → Prop) (k n : Nat) (h : Heap) (pc : Nat) (L : Array Slot) (S : List Value) : Prop :=
  ∀ (p : Program) (l : Launch) (e : Env) (s : State) (m : MethodId) (args : Array Value) (below : List Frame) (meth : Method) (c : Code) (T : State) (locs : List Loc),
    oCtx p s m meth c Z own nm bytes ml ret → Stand p l e R s m args below meth c T locs k n → T.heap = h → Fr n0 locs →
    ∃ s₂ o, Steps p.tables e below (T.setTop (mkF m pc L S)) s₂ ∧ s₂.status = .running ∧ Ended s₂ below o ∧ ∃ v L', o = .returned v ∧ (Q v s₂.heap ∧ Fr n0 L') ∧ FrameEnd s o s₂ L' R.cells R.slots
/-- a body's contract -/
def oCon (Z : State) (y : MethodName) (bytes : ByteArray) (ml : Nat) (ret : Option FieldType) (rm : Room) (as : Array Value) (h : Heap) (n0 : Nat) (Q : Option Value → Heap → Prop) : Prop :=
  ∀ (l : Launch) (ws : List Jvm.Cond), MetFree l y (head1 (Jvm.Cond.code y bytes ml ret :: ws) rm) (fun a U => a = as ∧ Z.Warmed39 U.vm ∧ U.heap = h) (fun _ _ _ _ _ => True) (fun _ U o U' => ∃ v L, o = .returned v ∧ (Q v U'.heap ∧ Fr n0 L) ∧ FrameEnd U o U' L rm.cells rm.slots)
theorem oCon.of {y : MethodName} {rm : Room} {as : Array Value} {L0 : Array Slot} (hp : plainFor y = true) (he : ∀ m, entryFrame m as ml = mkF m 0 L0 []) (K : oGo Z y.cls y.name bytes ml ret rm n0 Q 0 0 h 0 L0 []) : oCon Z y bytes ml ret rm as h n0 Q := by
  intro l ws
  refine MetFree.of_bodySF hp hisR ?_
  intro p e s m args below meth c s₁ Bd hml0 hP hK
  obtain ⟨rfl, hZ, hh⟩ := hP
  have e0 : s₁.heap = h := by rw [← hh, Bd.state]; rfl
  obtain ⟨s₂, o, h1, h2, h3, h4⟩ := K p l e s m args below meth c s₁ [] ⟨Bd.exec, hZ, Bd.bytes, hml0, findClass_of_methodNamed Bd.named, Bd.returns, Bd.notSynchronized, (name_of_methodNamed Bd.named Bd.method).1⟩ (Stand.of_body Bd) e0 (Fr.nil n0)
  exact ⟨s₂, o, castTop (he m) h1, h2, h3, h4⟩
theorem oGo.more {k' n' : Nat} (hk : k ≤ k') (hn : n ≤ n') (K : oGo Z own nm bytes ml ret R n0 Q k' n' h pc L S) : oGo Z own nm bytes ml ret R n0 Q k n h pc L S :=
  fun p l e s m args below meth c T locs C X eT N => K p l e s m args below meth c T locs C (X.more hk hn) eT N
theorem oGo.st (H : ∀ (p : Program) (e : Env) (m : MethodId) (below : List Frame) (c : Code) (T : State), p.tables.exec = Jvm.exec → c.code = bytes → At T m c below → ∀ t, Steps p.tables e below (T.setTop (mkF m q L' S')) t → Steps p.tables e below (T.setTop (mkF m pc L S)) t) (K : oGo Z own nm bytes ml ret R n0 Q k n h q L' S') : oGo Z own nm bytes ml ret R n0 Q k n h pc L S :=
  fun p l e s m args below meth c T locs C X eT N => by
    obtain ⟨s₂, o, h1, r⟩ := K p l e s m args below meth c T locs C X eT N
    exact ⟨s₂, o, H p e m below c T C.1 C.2.2.1 X.here s₂ h1, r⟩
theorem oGo.iadd {x y : Int32} (hd : decode bytes pc = .ok (.iadd, 1)) (hq : pc + 1 = q) (K : oGo Z own nm bytes ml ret R n0 Q k n h q L (.int (x + y) :: S)) : oGo Z own nm bytes ml ret R n0 Q k n h pc L (.int y :: .int x :: S) := by
  subst hq; exact oGo.st (fun p e m below c T hx hby hA t k => XS.iadd hA hx rfl (hb hby hd) rfl k) K
theorem oGo.isub {x y : Int32} (hd : decode bytes pc = .ok (.isub, 1)) (hq : pc + 1 = q) (K : oGo Z own nm bytes ml ret R n0 Q k n h q L (.int (x - y) :: S)) : oGo Z own nm bytes ml ret R n0 Q k n h pc L (.int y :: .int x :: S) := by
  subst hq; exact oGo.st (fun p e m below c T hx hby hA t k => XS.isub hA hx rfl (hb hby hd) rfl k) K
theorem oGo.imul {x y : Int32} (hd : decode bytes pc = .ok (.imul, 1)) (hq : pc + 1 = q) (K : oGo Z own nm bytes ml ret R n0 Q k n h q L (.int (x * y) :: S)) : oGo Z own nm bytes ml ret R n0 Q k n h pc L (.int y :: .int x :: S) := by
  subst hq; exact oGo.st (fun p e m below c T hx hby hA t k => XS.imul hA hx rfl (hb hby hd) rfl k) K
theorem oGo.iand {x y : Int32} (hd : decode bytes pc = .ok (.iand, 1)) (hq : pc + 1 = q) (K : oGo Z own nm bytes ml ret R n0 Q k n h q L (.int (x &&& y) :: S)) : oGo Z own nm bytes ml ret R n0 Q k n h pc L (.int y :: .int x :: S) := by
  subst hq; exact oGo.st (fun p e m below c T hx hby hA t k => XS.iand hA hx rfl (hb hby hd) rfl k) K
theorem oGo.ior {x y : Int32} (hd : decode bytes pc = .ok (.ior, 1)) (hq : pc + 1 = q) (K : oGo Z own nm bytes ml ret R n0 Q k n h q L (.int (x ||| y) :: S)) : oGo Z own nm bytes ml ret R n0 Q k n h pc L (.int y :: .int x :: S) := by
  subst hq; exact oGo.st (fun p e m below c T hx hby hA t k => XS.ior hA hx rfl (hb hby hd) rfl k) K
theorem oGo.ixor {x y : Int32} (hd : decode bytes pc = .ok (.ixor, 1)) (hq : pc + 1 = q) (K : oGo Z own nm bytes ml ret R n0 Q k n h q L (.int (x ^^^ y) :: S)) : oGo Z own nm bytes ml ret R n0 Q k n h pc L (.int y :: .int x :: S) := by
  subst hq; exact oGo.st (fun p e m below c T hx hby hA t k => XS.ixor hA hx rfl (hb hby hd) rfl k) K
theorem oGo.ishl {x y : Int32} (hd : decode bytes pc = .ok (.ishl, 1)) (hq : pc + 1 = q) (K : oGo Z own nm bytes ml ret R n0 Q k n h q L (.int (x <<< (y &&& 31)) :: S)) : oGo Z own nm bytes ml ret R n0 Q k n h pc L (.int y :: .int x :: S) := by
  subst hq; exact oGo.st (fun p e m below c T hx hby hA t k => XS.ishl hA hx rfl (hb hby hd) rfl k) K
theorem oGo.ishr {x y : Int32} (hd : decode bytes pc = .ok (.ishr, 1)) (hq : pc + 1 = q) (K : oGo Z own nm bytes ml ret R n0 Q k n h q L (.int (x >>> (y &&& 31)) :: S)) : oGo Z own nm bytes ml ret R n0 Q k n h pc L (.int y :: .int x :: S) := by
  subst hq; exact oGo.st (fun p e m below c T hx hby hA t k => XS.ishr hA hx rfl (hb hby hd) rfl k) K
theorem oGo.iushr {x y : Int32} (hd : decode bytes pc = .ok (.iushr, 1)) (hq : pc + 1 = q) (K : oGo Z own nm bytes ml ret R n0 Q k n h q L (.int ((x.toUInt32 >>> (y &&& 31).toUInt32).toInt32) :: S)) : oGo Z own nm bytes ml ret R n0 Q k n h pc L (.int y :: .int x :: S) := by
  subst hq; exact oGo.st (fun p e m below c T hx hby hA t k => XS.iushr hA hx rfl (hb hby hd) rfl k) K
theorem oGo.ladd {x y : Int64} (hd : decode bytes pc = .ok (.ladd, 1)) (hq : pc + 1 = q) (K : oGo Z own nm bytes ml ret R n0 Q k n h q L (.long (x + y) :: S)) : oGo Z own nm bytes ml ret R n0 Q k n h pc L (.long y :: .long x :: S) := by
  subst hq; exact oGo.st (fun p e m below c T hx hby hA t k => XS.ladd hA hx rfl (hb hby hd) rfl k) K
theorem oGo.lsub {x y : Int64} (hd : decode bytes pc = .ok (.lsub, 1)) (hq : pc + 1 = q) (K : oGo Z own nm bytes ml ret R n0 Q k n h q L (.long (x - y) :: S)) : oGo Z own nm bytes ml ret R n0 Q k n h pc L (.long y :: .long x :: S) := by
  subst hq; exact oGo.st (fun p e m below c T hx hby hA t k => XS.lsub hA hx rfl (hb hby hd) rfl k) K
theorem oGo.lmul {x y : Int64} (hd : decode bytes pc = .ok (.lmul, 1)) (hq : pc + 1 = q) (K : oGo Z own nm bytes ml ret R n0 Q k n h q L (.long (x * y) :: S)) : oGo Z own nm bytes ml ret R n0 Q k n h pc L (.long y :: .long x :: S) := by
  subst hq; exact oGo.st (fun p e m below c T hx hby hA t k => XS.lmul hA hx rfl (hb hby hd) rfl k) K
theorem oGo.land {x y : Int64} (hd : decode bytes pc = .ok (.land, 1)) (hq : pc + 1 = q) (K : oGo Z own nm bytes ml ret R n0 Q k n h q L (.long (x &&& y) :: S)) : oGo Z own nm bytes ml ret R n0 Q k n h pc L (.long y :: .long x :: S) := by
  subst hq; exact oGo.st (fun p e m below c T hx hby hA t k => XS.land hA hx rfl (hb hby hd) rfl k) K
theorem oGo.lor {x y : Int64} (hd : decode bytes pc = .ok (.lor, 1)) (hq : pc + 1 = q) (K : oGo Z own nm bytes ml ret R n0 Q k n h q L (.long (x ||| y) :: S)) : oGo Z own nm bytes ml ret R n0 Q k n h pc L (.long y :: .long x :: S) := by
  subst hq; exact oGo.st (fun p e m below c T hx hby hA t k => XS.lor hA hx rfl (hb hby hd) rfl k) K
theorem oGo.lxor {x y : Int64} (hd : decode bytes pc = .ok (.lxor, 1)) (hq : pc + 1 = q) (K : oGo Z own nm bytes ml ret R n0 Q k n h q L (.long (x ^^^ y) :: S)) : oGo Z own nm bytes ml ret R n0 Q k n h pc L (.long y :: .long x :: S) := by
  subst hq; exact oGo.st (fun p e m below c T hx hby hA t k => XS.lxor hA hx rfl (hb hby hd) rfl k) K
theorem oGo.lshl {x : Int64} {y : Int32} (hd : decode bytes pc = .ok (.lshl, 1)) (hq : pc + 1 = q) (K : oGo Z own nm bytes ml ret R n0 Q k n h q L (.long (x <<< (y &&& 0x3f).toInt64) :: S)) : oGo Z own nm bytes ml ret R n0 Q k n h pc L (.int y :: .long x :: S) := by
  subst hq; exact oGo.st (fun p e m below c T hx hby hA t k => XS.lshl hA hx rfl (hb hby hd) rfl k) K
theorem oGo.lshr {x : Int64} {y : Int32} (hd : decode bytes pc = .ok (.lshr, 1)) (hq : pc + 1 = q) (K : oGo Z own nm bytes ml ret R n0 Q k n h q L (.long (x >>> (y &&& 0x3f).toInt64) :: S)) : oGo Z own nm bytes ml ret R n0 Q k n h pc L (.int y :: .long x :: S) := by
  subst hq; exact oGo.st (fun p e m below c T hx hby hA t k => XS.lshr hA hx rfl (hb hby hd) rfl k) K
theorem oGo.lushr {x : Int64} {y : Int32} (hd : decode bytes pc = .ok (.lushr, 1)) (hq : pc + 1 = q) (K : oGo Z own nm bytes ml ret R n0 Q k n h q L (.long ((x.toUInt64 >>> (y &&& 0x3f).toInt64.toUInt64).toInt64) :: S)) : oGo Z own nm bytes ml ret R n0 Q k n h pc L (.int y :: .long x :: S) := by
  subst hq; exact oGo.st (fun p e m below c T hx hby hA t k => XS.lushr hA hx rfl (hb hby hd) rfl k) K
theorem oGo.idiv {x y : Int32} (hd : decode bytes pc = .ok (.idiv, 1)) (hq : pc + 1 = q) (hy : y ≠ 0) (K : oGo Z own nm bytes ml ret R n0 Q k n h q L (.int (x / y) :: S)) : oGo Z own nm bytes ml ret R n0 Q k n h pc L (.int y :: .int x :: S) := by
  subst hq; exact oGo.st (fun p e m below c T hx hby hA t k => XS.idiv hA hx rfl (hb hby hd) rfl hy k) K
theorem oGo.ldiv {x y : Int64} (hd : decode bytes pc = .ok (.ldiv, 1)) (hq : pc + 1 = q) (hy : y ≠ 0) (K : oGo Z own nm bytes ml ret R n0 Q k n h q L (.long (x / y) :: S)) : oGo Z own nm bytes ml ret R n0 Q k n h pc L (.long y :: .long x :: S) := by
  subst hq; exact oGo.st (fun p e m below c T hx hby hA t k => XS.ldiv hA hx rfl (hb hby hd) rfl hy k) K
theorem oGo.irem {x y : Int32} (hd : decode bytes pc = .ok (.irem, 1)) (hq : pc + 1 = q) (hy : y ≠ 0) (K : oGo Z own nm bytes ml ret R n0 Q k n h q L (.int (x % y) :: S)) : oGo Z own nm bytes ml ret R n0 Q k n h pc L (.int y :: .int x :: S) := by
  subst hq; exact oGo.st (fun p e m below c T hx hby hA t k => XS.irem hA hx rfl (hb hby hd) rfl hy (by rw [irem_eq_mod]; exact k)) K
theorem oGo.lrem {x y : Int64} (hd : decode bytes pc = .ok (.lrem, 1)) (hq : pc + 1 = q) (hy : y ≠ 0) (K : oGo Z own nm bytes ml ret R n0 Q k n h q L (.long (x % y) :: S)) : oGo Z own nm bytes ml ret R n0 Q k n h pc L (.long y :: .long x :: S) := by
  subst hq; exact oGo.st (fun p e m below c T hx hby hA t k => XS.lrem hA hx rfl (hb hby hd) rfl hy (by rw [lrem_mod]; exact k)) K
theorem oGo.ineg {x : Int32} (hd : decode bytes pc = .ok (.ineg, 1)) (hq : pc + 1 = q) (K : oGo Z own nm bytes ml ret R n0 Q k n h q L (.int (-x) :: S)) : oGo Z own nm bytes ml ret R n0 Q k n h pc L (.int x :: S) := by
  subst hq; exact oGo.st (fun p e m below c T hx hby hA t k => XS.ineg hA hx rfl (hb hby hd) rfl k) K
theorem oGo.lneg {x : Int64} (hd : decode bytes pc = .ok (.lneg, 1)) (hq : pc + 1 = q) (K : oGo Z own nm bytes ml ret R n0 Q k n h q L (.long (-x) :: S)) : oGo Z own nm bytes ml ret R n0 Q k n h pc L (.long x :: S) := by
  subst hq; exact oGo.st (fun p e m below c T hx hby hA t k => XS.lneg hA hx rfl (hb hby hd) rfl k) K
theorem oGo.i2b {x : Int32} (hd : decode bytes pc = .ok (.i2b, 1)) (hq : pc + 1 = q) (K : oGo Z own nm bytes ml ret R n0 Q k n h q L (.int (x.toInt8.toInt32) :: S)) : oGo Z own nm bytes ml ret R n0 Q k n h pc L (.int x :: S) := by
  subst hq; exact oGo.st (fun p e m below c T hx hby hA t k => XS.i2b hA hx rfl (hb hby hd) rfl k) K
theorem oGo.i2c {x : Int32} (hd : decode bytes pc = .ok (.i2c, 1)) (hq : pc + 1 = q) (K : oGo Z own nm bytes ml ret R n0 Q k n h q L (.int (x.toUInt32.toUInt16.toUInt32.toInt32) :: S)) : oGo Z own nm bytes ml ret R n0 Q k n h pc L (.int x :: S) := by
  subst hq; exact oGo.st (fun p e m below c T hx hby hA t k => XS.i2c hA hx rfl (hb hby hd) rfl k) K
theorem oGo.i2s {x : Int32} (hd : decode bytes pc = .ok (.i2s, 1)) (hq : pc + 1 = q) (K : oGo Z own nm bytes ml ret R n0 Q k n h q L (.int (x.toInt16.toInt32) :: S)) : oGo Z own nm bytes ml ret R n0 Q k n h pc L (.int x :: S) := by
  subst hq; exact oGo.st (fun p e m below c T hx hby hA t k => XS.i2s hA hx rfl (hb hby hd) rfl k) K
theorem oGo.i2l {x : Int32} (hd : decode bytes pc = .ok (.i2l, 1)) (hq : pc + 1 = q) (K : oGo Z own nm bytes ml ret R n0 Q k n h q L (.long (x.toInt64) :: S)) : oGo Z own nm bytes ml ret R n0 Q k n h pc L (.int x :: S) := by
  subst hq; exact oGo.st (fun p e m below c T hx hby hA t k => XS.i2l hA hx rfl (hb hby hd) rfl k) K
theorem oGo.l2i {x : Int64} (hd : decode bytes pc = .ok (.l2i, 1)) (hq : pc + 1 = q) (K : oGo Z own nm bytes ml ret R n0 Q k n h q L (.int (x.toInt32) :: S)) : oGo Z own nm bytes ml ret R n0 Q k n h pc L (.long x :: S) := by
  subst hq; exact oGo.st (fun p e m below c T hx hby hA t k => XS.l2i hA hx rfl (hb hby hd) rfl k) K
theorem oGo.iconst {i : Int} {v : Int32} (hd : decode bytes pc = .ok (.iconst i, 1)) (hq : pc + 1 = q) (hv : Int32.ofInt i = v) (K : oGo Z own nm bytes ml ret R n0 Q k n h q L (.int v :: S)) : oGo Z own nm bytes ml ret R n0 Q k n h pc L S := by
  subst hq hv; exact oGo.st (fun p e m below c T hx hby hA t k => XS.iconst hA hx rfl (hb hby hd) k) K
theorem oGo.bipush {i : Int} {v : Int32} (hd : decode bytes pc = .ok (.bipush i, 2)) (hq : pc + 2 = q) (hv : (Int8.ofInt i).toInt32 = v) (K : oGo Z own nm bytes ml ret R n0 Q k n h q L (.int v :: S)) : oGo Z own nm bytes ml ret R n0 Q k n h pc L S := by
  subst hq hv; exact oGo.st (fun p e m below c T hx hby hA t k => XS.bipush hA hx rfl (hb hby hd) k) K
theorem oGo.sipush {i : Int} {v : Int32} (hd : decode bytes pc = .ok (.sipush i, 3)) (hq : pc + 3 = q) (hv : (Int16.ofInt i).toInt32 = v) (K : oGo Z own nm bytes ml ret R n0 Q k n h q L (.int v :: S)) : oGo Z own nm bytes ml ret R n0 Q k n h pc L S := by
  subst hq hv; exact oGo.st (fun p e m below c T hx hby hA t k => XS.sipush hA hx rfl (hb hby hd) k) K
theorem oGo.lconst {i : Fin 2} {v : Int64} (hd : decode bytes pc = .ok (.lconst i, 1)) (hq : pc + 1 = q) (hv : Int64.ofNat i = v) (K : oGo Z own nm bytes ml ret R n0 Q k n h q L (.long v :: S)) : oGo Z own nm bytes ml ret R n0 Q k n h pc L S := by
  subst hq hv; exact oGo.st (fun p e m below c T hx hby hA t k => XS.lconst hA hx rfl (hb hby hd) k) K
theorem oGo.aconstNull (hd : decode bytes pc = .ok (.aconst_null, 1)) (hq : pc + 1 = q) (K : oGo Z own nm bytes ml ret R n0 Q k n h q L (.null :: S)) : oGo Z own nm bytes ml ret R n0 Q k n h pc L (S) := by
  subst hq; exact oGo.st (fun p e m below c T hx hby hA t k => XS.aconstNull hA hx rfl (hb hby hd) k) K
theorem oGo.iload {i : Nat} {v : Int32} (hd : decode bytes pc = .ok (.iload i, 2)) (hq : pc + 2 = q) (hl : L[i]? = some (.val (.int v))) (K : oGo Z own nm bytes ml ret R n0 Q k n h q L (.int v :: S)) : oGo Z own nm bytes ml ret R n0 Q k n h pc L S := by
  subst hq; exact oGo.st (fun p e m below c T hx hby hA t k => XS.iload hA hx rfl (hb hby hd) hl k) K
theorem oGo.iloadN {i : Fin 4} {v : Int32} (hd : decode bytes pc = .ok (.iload_n i, 1)) (hq : pc + 1 = q) (hl : L[i.val]? = some (.val (.int v))) (K : oGo Z own nm bytes ml ret R n0 Q k n h q L (.int v :: S)) : oGo Z own nm bytes ml ret R n0 Q k n h pc L S := by
  subst hq; exact oGo.st (fun p e m below c T hx hby hA t k => XS.iloadN hA hx rfl (hb hby hd) hl k) K
theorem oGo.istore {i : Nat} {v : Int32} (hd : decode bytes pc = .ok (.istore i, 2)) (hq : pc + 2 = q) (hl : storeLocals L i (.int v) = some L') (K : oGo Z own nm bytes ml ret R n0 Q k n h q L' S) : oGo Z own nm bytes ml ret R n0 Q k n h pc L (.int v :: S) := by
  subst hq; exact oGo.st (fun p e m below c T hx hby hA t k => XS.istore hA hx rfl (hb hby hd) rfl hl k) K
theorem oGo.istoreN {i : Fin 4} {v : Int32} (hd : decode bytes pc = .ok (.istore_n i, 1)) (hq : pc + 1 = q) (hl : storeLocals L i.val (.int v) = some L') (K : oGo Z own nm bytes ml ret R n0 Q k n h q L' S) : oGo Z own nm bytes ml ret R n0 Q k n h pc L (.int v :: S) := by
  subst hq; exact oGo.st (fun p e m below c T hx hby hA t k => XS.istoreN hA hx rfl (hb hby hd) rfl hl k) K
theorem oGo.lload {i : Nat} {v : Int64} (hd : decode bytes pc = .ok (.lload i, 2)) (hq : pc + 2 = q) (hl : L[i]? = some (.val (.long v))) (K : oGo Z own nm bytes ml ret R n0 Q k n h q L (.long v :: S)) : oGo Z own nm bytes ml ret R n0 Q k n h pc L S := by
  subst hq; exact oGo.st (fun p e m below c T hx hby hA t k => XS.lload hA hx rfl (hb hby hd) hl k) K
theorem oGo.lloadN {i : Fin 4} {v : Int64} (hd : decode bytes pc = .ok (.lload_n i, 1)) (hq : pc + 1 = q) (hl : L[i.val]? = some (.val (.long v))) (K : oGo Z own nm bytes ml ret R n0 Q k n h q L (.long v :: S)) : oGo Z own nm bytes ml ret R n0 Q k n h pc L S := by
  subst hq; exact oGo.st (fun p e m below c T hx hby hA t k => XS.lloadN hA hx rfl (hb hby hd) hl k) K
theorem oGo.lstore {i : Nat} {v : Int64} (hd : decode bytes pc = .ok (.lstore i, 2)) (hq : pc + 2 = q) (hl : storeLocals L i (.long v) = some L') (K : oGo Z own nm bytes ml ret R n0 Q k n h q L' S) : oGo Z own nm bytes ml ret R n0 Q k n h pc L (.long v :: S) := by
  subst hq; exact oGo.st (fun p e m below c T hx hby hA t k => XS.lstore hA hx rfl (hb hby hd) rfl hl k) K
theorem oGo.lstoreN {i : Fin 4} {v : Int64} (hd : decode bytes pc = .ok (.lstore_n i, 1)) (hq : pc + 1 = q) (hl : storeLocals L i.val (.long v) = some L') (K : oGo Z own nm bytes ml ret R n0 Q k n h q L' S) : oGo Z own nm bytes ml ret R n0 Q k n h pc L (.long v :: S) := by
  subst hq; exact oGo.st (fun p e m below c T hx hby hA t k => XS.lstoreN hA hx rfl (hb hby hd) rfl hl k) K
theorem oGo.aload {i : Nat} {v : Value} (hd : decode bytes pc = .ok (.aload i, 2)) (hq : pc + 2 = q) (hl : L[i]? = some (.val v)) (hv : v.isRef = true) (K : oGo Z own nm bytes ml ret R n0 Q k n h q L (v :: S)) : oGo Z own nm bytes ml ret R n0 Q k n h pc L S := by
  subst hq; exact oGo.st (fun p e m below c T hx hby hA t k => XS.aload hA hx rfl (hb hby hd) hl hv k) K
theorem oGo.aloadN {i : Fin 4} {v : Value} (hd : decode bytes pc = .ok (.aload_n i, 1)) (hq : pc + 1 = q) (hl : L[i.val]? = some (.val v)) (hv : v.isRef = true) (K : oGo Z own nm bytes ml ret R n0 Q k n h q L (v :: S)) : oGo Z own nm bytes ml ret R n0 Q k n h pc L S := by
  subst hq; exact oGo.st (fun p e m below c T hx hby hA t k => XS.aloadN hA hx rfl (hb hby hd) hl hv k) K
theorem oGo.astore {i : Nat} {v : Value} (hd : decode bytes pc = .ok (.astore i, 2)) (hq : pc + 2 = q) (hv : v.isRef = true) (hl : storeLocals L i v = some L') (K : oGo Z own nm bytes ml ret R n0 Q k n h q L' S) : oGo Z own nm bytes ml ret R n0 Q k n h pc L (v :: S) := by
  subst hq; exact oGo.st (fun p e m below c T hx hby hA t k => XS.astore hA hx rfl (hb hby hd) rfl hv hl k) K
theorem oGo.astoreN {i : Fin 4} {v : Value} (hd : decode bytes pc = .ok (.astore_n i, 1)) (hq : pc + 1 = q) (hv : v.isRef = true) (hl : storeLocals L i.val v = some L') (K : oGo Z own nm bytes ml ret R n0 Q k n h q L' S) : oGo Z own nm bytes ml ret R n0 Q k n h pc L (v :: S) := by
  subst hq; exact oGo.st (fun p e m below c T hx hby hA t k => XS.astoreN hA hx rfl (hb hby hd) rfl hv hl k) K
theorem oGo.iinc {i : Nat} {cst : Int} {x v : Int32} (hd : decode bytes pc = .ok (.iinc i cst, 3)) (hq : pc + 3 = q) (hl : L[i]? = some (.val (.int x))) (hv : x + Int32.ofInt cst = v) (hs : storeLocals L i (.int v) = some L') (K : oGo Z own nm bytes ml ret R n0 Q k n h q L' S) : oGo Z own nm bytes ml ret R n0 Q k n h pc L S := by
  subst hq hv; exact oGo.st (fun p e m below c T hx hby hA t k => XS.iinc hA hx rfl (hb hby hd) hl hs k) K
theorem oGo.dup {v : Value} (hd : decode bytes pc = .ok (.dup, 1)) (hq : pc + 1 = q) (hc : v.category = 1) (K : oGo Z own nm bytes ml ret R n0 Q k n h q L (v :: v :: S)) : oGo Z own nm bytes ml ret R n0 Q k n h pc L (v :: S) := by
  subst hq; exact oGo.st (fun p e m below c T hx hby hA t k => XS.dup hA hx rfl (hb hby hd) rfl hc k) K
theorem oGo.dupX1 {v w : Value} (hd : decode bytes pc = .ok (.dup_x1, 1)) (hq : pc + 1 = q) (hc : v.category = 1) (hc' : w.category = 1) (K : oGo Z own nm bytes ml ret R n0 Q k n h q L (v :: w :: v :: S)) : oGo Z own nm bytes ml ret R n0 Q k n h pc L (v :: w :: S) := by
  subst hq; exact oGo.st (fun p e m below c T hx hby hA t k => XS.dupX1 hA hx rfl (hb hby hd) rfl hc hc' k) K
theorem oGo.dup2 {v w : Value} (hd : decode bytes pc = .ok (.dup2, 1)) (hq : pc + 1 = q) (hc : v.category = 1) (hc' : w.category = 1) (K : oGo Z own nm bytes ml ret R n0 Q k n h q L (v :: w :: v :: w :: S)) : oGo Z own nm bytes ml ret R n0 Q k n h pc L (v :: w :: S) := by
  subst hq; exact oGo.st (fun p e m below c T hx hby hA t k => XT.dup2 hA hx rfl (hb hby hd) rfl hc hc' k) K
theorem oGo.pop {v : Value} (hd : decode bytes pc = .ok (.pop, 1)) (hq : pc + 1 = q) (hc : v.category = 1) (K : oGo Z own nm bytes ml ret R n0 Q k n h q L S) : oGo Z own nm bytes ml ret R n0 Q k n h pc L (v :: S) := by
  subst hq; exact oGo.st (fun p e m below c T hx hby hA t k => XS.pop hA hx rfl (hb hby hd) rfl hc k) K
theorem oGo.goto {o : Int} (hd : decode bytes pc = .ok (.goto o, 3)) (hq : (pc : Int) + o = (q : Int)) (K : oGo Z own nm bytes ml ret R n0 Q k n h q L S) : oGo Z own nm bytes ml ret R n0 Q k n h pc L S :=
  oGo.st (fun p e m below c T hx hby hA t k => XS.goto hA hx rfl (pc0 := pc) (pc' := q) rfl (hb hby hd) (by omega) (by omega) k) K
theorem oGo.ifnonnullYes {o : Int} {b : Addr} (hd : decode bytes pc = .ok (.ifnonnull o, 3)) (hq : (pc : Int) + o = (q : Int)) (K : oGo Z own nm bytes ml ret R n0 Q k n h q L S) : oGo Z own nm bytes ml ret R n0 Q k n h pc L (.ref b :: S) :=
  oGo.st (fun p e m below c T hx hby hA t k => XS.ifnonnullYes hA hx rfl (pc0 := pc) (pc' := q) rfl (hb hby hd) rfl (by omega) (by omega) k) K
theorem oGo.lcmp {x y : Int64} (hd : decode bytes pc = .ok (.lcmp, 1)) (hq : pc + 1 = q) (K : oGo Z own nm bytes ml ret R n0 Q k n h q L (.int (lcmpW x y) :: S)) : oGo Z own nm bytes ml ret R n0 Q k n h pc L (.long y :: .long x :: S) := by
  subst hq; exact oGo.st (fun p e m below c T hx hby hA t k => XS.lcmp hA hx rfl (hb hby hd) rfl k) K
theorem own_hlt {x y : Int32} : (x.toInt < y.toInt → if_icmp.holds .lt x y = true) ∧ (y.toInt ≤ x.toInt → if_icmp.holds .lt x y = false) :=
  ⟨fun hc => (tlt (Int32.lt_iff_toInt_lt.mpr hc)).1, fun hc => (flt (fun z => by have := Int32.lt_iff_toInt_lt.mp z; omega)).1⟩
theorem own_dlt (x y : Int32) : (x.toInt < y.toInt) ∨ (y.toInt ≤ x.toInt) := by omega
theorem own_elt (x y : Int64) : (x.toInt < y.toInt) ∨ (y.toInt ≤ x.toInt) := by omega
theorem oGo.icmp_lt {o : Int} {x y : Int32} (hd : decode bytes pc = .ok (.if_icmp .lt o, 3)) (hq : (pc : Int) + o = (q : Int)) (hr : pc + 3 = r) (K1 : x.toInt < y.toInt → oGo Z own nm bytes ml ret R n0 Q k n h q L S) (K2 : y.toInt ≤ x.toInt → oGo Z own nm bytes ml ret R n0 Q k n h r L S) : oGo Z own nm bytes ml ret R n0 Q k n h pc L (.int y :: .int x :: S) := by
  rcases own_dlt x y with hc | hc
  · exact oGo.st (fun p e m below c T hx hby hA t k => XS.icmpYes hA hx rfl (pc0 := pc) (pc' := q) rfl (hb hby hd) rfl (own_hlt.1 hc) (by omega) (by omega) k) (K1 hc)
  · subst hr; exact oGo.st (fun p e m below c T hx hby hA t k => XS.icmpNo hA hx rfl (hb hby hd) rfl (own_hlt.2 hc) k) (K2 hc)
theorem oGo.if_lt {o : Int} {x : Int32} (hd : decode bytes pc = .ok (.ifCond .lt o, 3)) (hq : (pc : Int) + o = (q : Int)) (hr : pc + 3 = r) (K1 : x.toInt < 0 → oGo Z own nm bytes ml ret R n0 Q k n h q L S) (K2 : 0 ≤ x.toInt → oGo Z own nm bytes ml ret R n0 Q k n h r L S) : oGo Z own nm bytes ml ret R n0 Q k n h pc L (.int x :: S) := by
  rcases own_dlt x 0 with hc | hc
  · exact oGo.st (fun p e m below c T hx hby hA t k => XS.ifYes hA hx rfl (pc0 := pc) (pc' := q) rfl (hb hby hd) rfl ((if0 _ _).trans (own_hlt.1 hc)) (by omega) (by omega) k) (K1 hc)
  · subst hr; exact oGo.st (fun p e m below c T hx hby hA t k => XS.ifNo hA hx rfl (hb hby hd) rfl ((if0 _ _).trans (own_hlt.2 hc)) k) (K2 hc)
theorem own_llt {x y : Int64} : (x.toInt < y.toInt → (lcmpW x y).toInt < 0) ∧ (y.toInt ≤ x.toInt → 0 ≤ (lcmpW x y).toInt) := by
  obtain ⟨h1, h2, h3⟩ := c_lcmp x y
  refine ⟨fun hc => ?_, fun hc => ?_⟩ <;> (rcases Int.lt_trichotomy x.toInt y.toInt with u | u | u <;> simp_all <;> omega)
theorem oGo.lif_lt {o : Int} {x y : Int64} {pc2 : Nat} (hd : decode bytes pc = .ok (.lcmp, 1)) (h1 : pc + 1 = pc2) (hd2 : decode bytes pc2 = .ok (.ifCond .lt o, 3)) (hq : (pc2 : Int) + o = (q : Int)) (hr : pc2 + 3 = r) (K1 : x.toInt < y.toInt → oGo Z own nm bytes ml ret R n0 Q k n h q L S) (K2 : y.toInt ≤ x.toInt → oGo Z own nm bytes ml ret R n0 Q k n h r L S) : oGo Z own nm bytes ml ret R n0 Q k n h pc L (.long y :: .long x :: S) := by
  refine oGo.lcmp hd h1 (oGo.if_lt hd2 hq hr (fun hc => ?_) (fun hc => ?_))
  · rcases own_elt x y with u | u
    · exact K1 u
    · have := own_llt.2 u; first | exact absurd hc this | exact absurd this hc | omega
  · rcases own_elt x y with u | u
    · have := own_llt.1 u; first | exact absurd hc this | exact absurd this hc | omega
    · exact K2 u
theorem own_hge {x y : Int32} : (y.toInt ≤ x.toInt → if_icmp.holds .ge x y = true) ∧ (x.toInt < y.toInt → if_icmp.holds .ge x y = false) :=
  ⟨fun hc => (flt (fun z => by have := Int32.lt_iff_toInt_lt.mp z; omega)).2.1, fun hc => (tlt (Int32.lt_iff_toInt_lt.mpr hc)).2.1⟩
theorem own_dge (x y : Int32) : (y.toInt ≤ x.toInt) ∨ (x.toInt < y.toInt) := by omega
theorem own_ege (x y : Int64) : (y.toInt ≤ x.toInt) ∨ (x.toInt < y.toInt) := by omega
theorem oGo.icmp_ge {o : Int} {x y : Int32} (hd : decode bytes pc = .ok (.if_icmp .ge o, 3)) (hq : (pc : Int) + o = (q : Int)) (hr : pc + 3 = r) (K1 : y.toInt ≤ x.toInt → oGo Z own nm bytes ml ret R n0 Q k n h q L S) (K2 : x.toInt < y.toInt → oGo Z own nm bytes ml ret R n0 Q k n h r L S) : oGo Z own nm bytes ml ret R n0 Q k n h pc L (.int y :: .int x :: S) := by
  rcases own_dge x y with hc | hc
  · exact oGo.st (fun p e m below c T hx hby hA t k => XS.icmpYes hA hx rfl (pc0 := pc) (pc' := q) rfl (hb hby hd) rfl (own_hge.1 hc) (by omega) (by omega) k) (K1 hc)
  · subst hr; exact oGo.st (fun p e m below c T hx hby hA t k => XS.icmpNo hA hx rfl (hb hby hd) rfl (own_hge.2 hc) k) (K2 hc)
theorem oGo.if_ge {o : Int} {x : Int32} (hd : decode bytes pc = .ok (.ifCond .ge o, 3)) (hq : (pc : Int) + o = (q : Int)) (hr : pc + 3 = r) (K1 : 0 ≤ x.toInt → oGo Z own nm bytes ml ret R n0 Q k n h q L S) (K2 : x.toInt < 0 → oGo Z own nm bytes ml ret R n0 Q k n h r L S) : oGo Z own nm bytes ml ret R n0 Q k n h pc L (.int x :: S) := by
  rcases own_dge x 0 with hc | hc
  · exact oGo.st (fun p e m below c T hx hby hA t k => XS.ifYes hA hx rfl (pc0 := pc) (pc' := q) rfl (hb hby hd) rfl ((if0 _ _).trans (own_hge.1 hc)) (by omega) (by omega) k) (K1 hc)
  · subst hr; exact oGo.st (fun p e m below c T hx hby hA t k => XS.ifNo hA hx rfl (hb hby hd) rfl ((if0 _ _).trans (own_hge.2 hc)) k) (K2 hc)
theorem own_lge {x y : Int64} : (y.toInt ≤ x.toInt → 0 ≤ (lcmpW x y).toInt) ∧ (x.toInt < y.toInt → (lcmpW x y).toInt < 0) := by
  obtain ⟨h1, h2, h3⟩ := c_lcmp x y
  refine ⟨fun hc => ?_, fun hc => ?_⟩ <;> (rcases Int.lt_trichotomy x.toInt y.toInt with u | u | u <;> simp_all <;> omega)
theorem oGo.lif_ge {o : Int} {x y : Int64} {pc2 : Nat} (hd : decode bytes pc = .ok (.lcmp, 1)) (h1 : pc + 1 = pc2) (hd2 : decode bytes pc2 = .ok (.ifCond .ge o, 3)) (hq : (pc2 : Int) + o = (q : Int)) (hr : pc2 + 3 = r) (K1 : y.toInt ≤ x.toInt → oGo Z own nm bytes ml ret R n0 Q k n h q L S) (K2 : x.toInt < y.toInt → oGo Z own nm bytes ml ret R n0 Q k n h r L S) : oGo Z own nm bytes ml ret R n0 Q k n h pc L (.long y :: .long x :: S) := by
  refine oGo.lcmp hd h1 (oGo.if_ge hd2 hq hr (fun hc => ?_) (fun hc => ?_))
  · rcases own_ege x y with u | u
    · exact K1 u
    · have := own_lge.2 u; first | exact absurd hc this | exact absurd this hc | omega
  · rcases own_ege x y with u | u
    · have := own_lge.1 u; first | exact absurd hc this | exact absurd this hc | omega
    · exact K2 u
theorem own_hgt {x y : Int32} : (y.toInt < x.toInt → if_icmp.holds .gt x y = true) ∧ (x.toInt ≤ y.toInt → if_icmp.holds .gt x y = false) :=
  ⟨fun hc => (tlt (Int32.lt_iff_toInt_lt.mpr hc)).2.2.1, fun hc => (flt (fun z => by have := Int32.lt_iff_toInt_lt.mp z; omega)).2.2.1⟩
theorem own_dgt (x y : Int32) : (y.toInt < x.toInt) ∨ (x.toInt ≤ y.toInt) := by omega
theorem own_egt (x y : Int64) : (y.toInt < x.toInt) ∨ (x.toInt ≤ y.toInt) := by omega
theorem oGo.icmp_gt {o : Int} {x y : Int32} (hd : decode bytes pc = .ok (.if_icmp .gt o, 3)) (hq : (pc : Int) + o = (q : Int)) (hr : pc + 3 = r) (K1 : y.toInt < x.toInt → oGo Z own nm bytes ml ret R n0 Q k n h q L S) (K2 : x.toInt ≤ y.toInt → oGo Z own nm bytes ml ret R n0 Q k n h r L S) : oGo Z own nm bytes ml ret R n0 Q k n h pc L (.int y :: .int x :: S) := by
  rcases own_dgt x y with hc | hc
  · exact oGo.st (fun p e m below c T hx hby hA t k => XS.icmpYes hA hx rfl (pc0 := pc) (pc' := q) rfl (hb hby hd) rfl (own_hgt.1 hc) (by omega) (by omega) k) (K1 hc)
  · subst hr; exact oGo.st (fun p e m below c T hx hby hA t k => XS.icmpNo hA hx rfl (hb hby hd) rfl (own_hgt.2 hc) k) (K2 hc)
theorem oGo.if_gt {o : Int} {x : Int32} (hd : decode bytes pc = .ok (.ifCond .gt o, 3)) (hq : (pc : Int) + o = (q : Int)) (hr : pc + 3 = r) (K1 : 0 < x.toInt → oGo Z own nm bytes ml ret R n0 Q k n h q L S) (K2 : x.toInt ≤ 0 → oGo Z own nm bytes ml ret R n0 Q k n h r L S) : oGo Z own nm bytes ml ret R n0 Q k n h pc L (.int x :: S) := by
  rcases own_dgt x 0 with hc | hc
  · exact oGo.st (fun p e m below c T hx hby hA t k => XS.ifYes hA hx rfl (pc0 := pc) (pc' := q) rfl (hb hby hd) rfl ((if0 _ _).trans (own_hgt.1 hc)) (by omega) (by omega) k) (K1 hc)
  · subst hr; exact oGo.st (fun p e m below c T hx hby hA t k => XS.ifNo hA hx rfl (hb hby hd) rfl ((if0 _ _).trans (own_hgt.2 hc)) k) (K2 hc)
theorem own_lgt {x y : Int64} : (y.toInt < x.toInt → 0 < (lcmpW x y).toInt) ∧ (x.toInt ≤ y.toInt → (lcmpW x y).toInt ≤ 0) := by
  obtain ⟨h1, h2, h3⟩ := c_lcmp x y
  refine ⟨fun hc => ?_, fun hc => ?_⟩ <;> (rcases Int.lt_trichotomy x.toInt y.toInt with u | u | u <;> simp_all <;> omega)
theorem oGo.lif_gt {o : Int} {x y : Int64} {pc2 : Nat} (hd : decode bytes pc = .ok (.lcmp, 1)) (h1 : pc + 1 = pc2) (hd2 : decode bytes pc2 = .ok (.ifCond .gt o, 3)) (hq : (pc2 : Int) + o = (q : Int)) (hr : pc2 + 3 = r) (K1 : y.toInt < x.toInt → oGo Z own nm bytes ml ret R n0 Q k n h q L S) (K2 : x.toInt ≤ y.toInt → oGo Z own nm bytes ml ret R n0 Q k n h r L S) : oGo Z own nm bytes ml ret R n0 Q k n h pc L (.long y :: .long x :: S) := by
  refine oGo.lcmp hd h1 (oGo.if_gt hd2 hq hr (fun hc => ?_) (fun hc => ?_))
  · rcases own_egt x y with u | u
    · exact K1 u
    · have := own_lgt.2 u; first | exact absurd hc this | exact absurd this hc | omega
  · rcases own_egt x y with u | u
    · have := own_lgt.1 u; first | exact absurd hc this | exact absurd this hc | omega
    · exact K2 u
theorem own_hle {x y : Int32} : (x.toInt ≤ y.toInt → if_icmp.holds .le x y = true) ∧ (y.toInt < x.toInt → if_icmp.holds .le x y = false) :=
  ⟨fun hc => (flt (fun z => by have := Int32.lt_iff_toInt_lt.mp z; omega)).2.2.2, fun hc => (tlt (Int32.lt_iff_toInt_lt.mpr hc)).2.2.2⟩
theorem own_dle (x y : Int32) : (x.toInt ≤ y.toInt) ∨ (y.toInt < x.toInt) := by omega
theorem own_ele (x y : Int64) : (x.toInt ≤ y.toInt) ∨ (y.toInt < x.toInt) := by omega
theorem oGo.icmp_le {o : Int} {x y : Int32} (hd : decode bytes pc = .ok (.if_icmp .le o, 3)) (hq : (pc : Int) + o = (q : Int)) (hr : pc + 3 = r) (K1 : x.toInt ≤ y.toInt → oGo Z own nm bytes ml ret R n0 Q k n h q L S) (K2 : y.toInt < x.toInt → oGo Z own nm bytes ml ret R n0 Q k n h r L S) : oGo Z own nm bytes ml ret R n0 Q k n h pc L (.int y :: .int x :: S) := by
  rcases own_dle x y with hc | hc
  · exact oGo.st (fun p e m below c T hx hby hA t k => XS.icmpYes hA hx rfl (pc0 := pc) (pc' := q) rfl (hb hby hd) rfl (own_hle.1 hc) (by omega) (by omega) k) (K1 hc)
  · subst hr; exact oGo.st (fun p e m below c T hx hby hA t k => XS.icmpNo hA hx rfl (hb hby hd) rfl (own_hle.2 hc) k) (K2 hc)
theorem oGo.if_le {o : Int} {x : Int32} (hd : decode bytes pc = .ok (.ifCond .le o, 3)) (hq : (pc : Int) + o = (q : Int)) (hr : pc + 3 = r) (K1 : x.toInt ≤ 0 → oGo Z own nm bytes ml ret R n0 Q k n h q L S) (K2 : 0 < x.toInt → oGo Z own nm bytes ml ret R n0 Q k n h r L S) : oGo Z own nm bytes ml ret R n0 Q k n h pc L (.int x :: S) := by
  rcases own_dle x 0 with hc | hc
  · exact oGo.st (fun p e m below c T hx hby hA t k => XS.ifYes hA hx rfl (pc0 := pc) (pc' := q) rfl (hb hby hd) rfl ((if0 _ _).trans (own_hle.1 hc)) (by omega) (by omega) k) (K1 hc)
  · subst hr; exact oGo.st (fun p e m below c T hx hby hA t k => XS.ifNo hA hx rfl (hb hby hd) rfl ((if0 _ _).trans (own_hle.2 hc)) k) (K2 hc)
theorem own_lle {x y : Int64} : (x.toInt ≤ y.toInt → (lcmpW x y).toInt ≤ 0) ∧ (y.toInt < x.toInt → 0 < (lcmpW x y).toInt) := by
  obtain ⟨h1, h2, h3⟩ := c_lcmp x y
  refine ⟨fun hc => ?_, fun hc => ?_⟩ <;> (rcases Int.lt_trichotomy x.toInt y.toInt with u | u | u <;> simp_all <;> omega)
theorem oGo.lif_le {o : Int} {x y : Int64} {pc2 : Nat} (hd : decode bytes pc = .ok (.lcmp, 1)) (h1 : pc + 1 = pc2) (hd2 : decode bytes pc2 = .ok (.ifCond .le o, 3)) (hq : (pc2 : Int) + o = (q : Int)) (hr : pc2 + 3 = r) (K1 : x.toInt ≤ y.toInt → oGo Z own nm bytes ml ret R n0 Q k n h q L S) (K2 : y.toInt < x.toInt → oGo Z own nm bytes ml ret R n0 Q k n h r L S) : oGo Z own nm bytes ml ret R n0 Q k n h pc L (.long y :: .long x :: S) := by
  refine oGo.lcmp hd h1 (oGo.if_le hd2 hq hr (fun hc => ?_) (fun hc => ?_))
  · rcases own_ele x y with u | u
    · exact K1 u
    · have := own_lle.2 u; first | exact absurd hc this | exact absurd this hc | omega
  · rcases own_ele x y with u | u
    · have := own_lle.1 u; first | exact absurd hc this | exact absurd this hc | omega
    · exact K2 u
theorem own_heq {x y : Int32} : (x = y → if_icmp.holds .eq x y = true) ∧ (x ≠ y → if_icmp.holds .eq x y = false) :=
  ⟨fun hc => (teq hc).1, fun hc => (feq hc).1⟩
theorem own_deq (x y : Int32) : (x = y) ∨ (x ≠ y) := by exact Decidable.em _
theorem own_eeq (x y : Int64) : (x = y) ∨ (x ≠ y) := by exact Decidable.em _
theorem oGo.icmp_eq {o : Int} {x y : Int32} (hd : decode bytes pc = .ok (.if_icmp .eq o, 3)) (hq : (pc : Int) + o = (q : Int)) (hr : pc + 3 = r) (K1 : x = y → oGo Z own nm bytes ml ret R n0 Q k n h q L S) (K2 : x ≠ y → oGo Z own nm bytes ml ret R n0 Q k n h r L S) : oGo Z own nm bytes ml ret R n0 Q k n h pc L (.int y :: .int x :: S) := by
  rcases own_deq x y with hc | hc
  · exact oGo.st (fun p e m below c T hx hby hA t k => XS.icmpYes hA hx rfl (pc0 := pc) (pc' := q) rfl (hb hby hd) rfl (own_heq.1 hc) (by omega) (by omega) k) (K1 hc)
  · subst hr; exact oGo.st (fun p e m below c T hx hby hA t k => XS.icmpNo hA hx rfl (hb hby hd) rfl (own_heq.2 hc) k) (K2 hc)
theorem oGo.if_eq {o : Int} {x : Int32} (hd : decode bytes pc = .ok (.ifCond .eq o, 3)) (hq : (pc : Int) + o = (q : Int)) (hr : pc + 3 = r) (K1 : x = 0 → oGo Z own nm bytes ml ret R n0 Q k n h q L S) (K2 : x ≠ 0 → oGo Z own nm bytes ml ret R n0 Q k n h r L S) : oGo Z own nm bytes ml ret R n0 Q k n h pc L (.int x :: S) := by
  rcases own_deq x 0 with hc | hc
  · exact oGo.st (fun p e m below c T hx hby hA t k => XS.ifYes hA hx rfl (pc0 := pc) (pc' := q) rfl (hb hby hd) rfl ((if0 _ _).trans (own_heq.1 hc)) (by omega) (by omega) k) (K1 hc)
  · subst hr; exact oGo.st (fun p e m below c T hx hby hA t k => XS.ifNo hA hx rfl (hb hby hd) rfl ((if0 _ _).trans (own_heq.2 hc)) k) (K2 hc)
theorem own_leq {x y : Int64} : (x = y → lcmpW x y = 0) ∧ (x ≠ y → lcmpW x y ≠ 0) := by
  obtain ⟨h1, h2, h3⟩ := c_lcmp x y
  refine ⟨fun hc => ?_, fun hc => ?_⟩ <;> (first | exact (lw_eq x y).mpr hc | exact fun z => hc ((lw_eq x y).mp z))
theorem oGo.lif_eq {o : Int} {x y : Int64} {pc2 : Nat} (hd : decode bytes pc = .ok (.lcmp, 1)) (h1 : pc + 1 = pc2) (hd2 : decode bytes pc2 = .ok (.ifCond .eq o, 3)) (hq : (pc2 : Int) + o = (q : Int)) (hr : pc2 + 3 = r) (K1 : x = y → oGo Z own nm bytes ml ret R n0 Q k n h q L S) (K2 : x ≠ y → oGo Z own nm bytes ml ret R n0 Q k n h r L S) : oGo Z own nm bytes ml ret R n0 Q k n h pc L (.long y :: .long x :: S) := by
  refine oGo.lcmp hd h1 (oGo.if_eq hd2 hq hr (fun hc => ?_) (fun hc => ?_))
  · rcases own_eeq x y with u | u
    · exact K1 u
    · have := own_leq.2 u; first | exact absurd hc this | exact absurd this hc | omega
  · rcases own_eeq x y with u | u
    · have := own_leq.1 u; first | exact absurd hc this | exact absurd this hc | omega
    · exact K2 u
theorem own_hne {x y : Int32} : (x ≠ y → if_icmp.holds .ne x y = true) ∧ (x = y → if_icmp.holds .ne x y = false) :=
  ⟨fun hc => (feq hc).2, fun hc => (teq hc).2⟩
theorem own_dne (x y : Int32) : (x ≠ y) ∨ (x = y) := by exact (Decidable.em _).symm
theorem own_ene (x y : Int64) : (x ≠ y) ∨ (x = y) := by exact (Decidable.em _).symm
theorem oGo.icmp_ne {o : Int} {x y : Int32} (hd : decode bytes pc = .ok (.if_icmp .ne o, 3)) (hq : (pc : Int) + o = (q : Int)) (hr : pc + 3 = r) (K1 : x ≠ y → oGo Z own nm bytes ml ret R n0 Q k n h q L S) (K2 : x = y → oGo Z own nm bytes ml ret R n0 Q k n h r L S) : oGo Z own nm bytes ml ret R n0 Q k n h pc L (.int y :: .int x :: S) := by
  rcases own_dne x y with hc | hc
  · exact oGo.st (fun p e m below c T hx hby hA t k => XS.icmpYes hA hx rfl (pc0 := pc) (pc' := q) rfl (hb hby hd) rfl (own_hne.1 hc) (by omega) (by omega) k) (K1 hc)
  · subst hr; exact oGo.st (fun p e m below c T hx hby hA t k => XS.icmpNo hA hx rfl (hb hby hd) rfl (own_hne.2 hc) k) (K2 hc)
theorem oGo.if_ne {o : Int} {x : Int32} (hd : decode bytes pc = .ok (.ifCond .ne o, 3)) (hq : (pc : Int) + o = (q : Int)) (hr : pc + 3 = r) (K1 : x ≠ 0 → oGo Z own nm bytes ml ret R n0 Q k n h q L S) (K2 : x = 0 → oGo Z own nm bytes ml ret R n0 Q k n h r L S) : oGo Z own nm bytes ml ret R n0 Q k n h pc L (.int x :: S) := by
  rcases own_dne x 0 with hc | hc
  · exact oGo.st (fun p e m below c T hx hby hA t k => XS.ifYes hA hx rfl (pc0 := pc) (pc' := q) rfl (hb hby hd) rfl ((if0 _ _).trans (own_hne.1 hc)) (by omega) (by omega) k) (K1 hc)
  · subst hr; exact oGo.st (fun p e m below c T hx hby hA t k => XS.ifNo hA hx rfl (hb hby hd) rfl ((if0 _ _).trans (own_hne.2 hc)) k) (K2 hc)
theorem own_lne {x y : Int64} : (x ≠ y → lcmpW x y ≠ 0) ∧ (x = y → lcmpW x y = 0) := by
  obtain ⟨h1, h2, h3⟩ := c_lcmp x y
  refine ⟨fun hc => ?_, fun hc => ?_⟩ <;> (first | exact (lw_eq x y).mpr hc | exact fun z => hc ((lw_eq x y).mp z))
theorem oGo.lif_ne {o : Int} {x y : Int64} {pc2 : Nat} (hd : decode bytes pc = .ok (.lcmp, 1)) (h1 : pc + 1 = pc2) (hd2 : decode bytes pc2 = .ok (.ifCond .ne o, 3)) (hq : (pc2 : Int) + o = (q : Int)) (hr : pc2 + 3 = r) (K1 : x ≠ y → oGo Z own nm bytes ml ret R n0 Q k n h q L S) (K2 : x = y → oGo Z own nm bytes ml ret R n0 Q k n h r L S) : oGo Z own nm bytes ml ret R n0 Q k n h pc L (.long y :: .long x :: S) := by
  refine oGo.lcmp hd h1 (oGo.if_ne hd2 hq hr (fun hc => ?_) (fun hc => ?_))
  · rcases own_ene x y with u | u
    · exact K1 u
    · have := own_lne.2 u; first | exact absurd hc this | exact absurd this hc | omega
  · rcases own_ene x y with u | u
    · have := own_lne.1 u; first | exact absurd hc this | exact absurd this hc | omega
    · exact K2 u
theorem oGo.ldc2 {i : Nat} {v : Int64} (hd : decode bytes pc = .ok (.ldc2_w i, 3)) (hq : pc + 3 = q) (w : (Cond.constantLong own i v).before a0 Z = true) (K : oGo Z own nm bytes ml ret R n0 Q k n h q L (.long v :: S)) : oGo Z own nm bytes ml ret R n0 Q k n h pc L S :=
  fun p l e s m args below meth c T locs C X eT N => by
    obtain ⟨hx, hZ, hby, hml, hown, hret, hlk, hnm⟩ := C
    subst hq
    obtain ⟨s₂, o, h1, r⟩ := K p l e s m args below meth c T locs ⟨hx, hZ, hby, hml, hown, hret, hlk, hnm⟩ X eT N
    exact ⟨s₂, o, X.ldc2Long hx hown (mvT hZ w) (g := mkF m pc L S) rfl (hb hby hd) _ h1, r⟩
theorem oGo.ldcI {i : Nat} {v : Int32} (hd : decode bytes pc = .ok (.ldc i, 2)) (hq : pc + 2 = q) (w : (Cond.constant own i v).before a0 Z = true) (K : oGo Z own nm bytes ml ret R n0 Q k n h q L (.int v :: S)) : oGo Z own nm bytes ml ret R n0 Q k n h pc L S :=
  fun p l e s m args below meth c T locs C X eT N => by
    obtain ⟨hx, hZ, hby, hml, hown, hret, hlk, hnm⟩ := C
    subst hq
    obtain ⟨s₂, o, h1, r⟩ := K p l e s m args below meth c T locs ⟨hx, hZ, hby, hml, hown, hret, hlk, hnm⟩ X eT N
    exact ⟨s₂, o, X.ldcInt hx hown (mvT hZ w) (g := mkF m pc L S) rfl (hb hby hd) _ h1, r⟩
/-! the returns -/
theorem own_end {p : Program} {l : Launch} {e : Env} {s : State} {m : MethodId} {args : Array Value} {below : List Frame} {meth : Method} {c : Code} {T : State} {locs : List Loc} (X : Stand p l e R s m args below meth c T locs k n) (hlk : meth.locks = false) {v : Option Value} (hv : meth.sig.returnType = none → v = none) (hk : k ≤ R.cells) (hn : n ≤ R.slots) (N : Fr n0 locs) (hQ : Q v T.heap) {g : JFrame}
    (H : ∀ fs, (∀ (f : JFrame) (acts : List Action), f.method = m → f.locked = none → f.entered = [] → (doReturn e (T.setTop f) acts v).1 = T.setFrames fs) → Steps p.tables e below (T.setTop g) (T.setFrames fs)) :
    ∃ s₂ o, Steps p.tables e below (T.setTop g) s₂ ∧ s₂.status = .running ∧ Ended s₂ below o ∧ ∃ v L', o = .returned v ∧ (Q v s₂.heap ∧ Fr n0 L') ∧ FrameEnd s o s₂ L' R.cells R.slots := by
  obtain ⟨fs, hr, hrun, hended, hW, hsame⟩ := X.leave hv hlk
  exact ⟨_, _, H fs hr, hrun, hended, _, _, rfl, ⟨hQ, N⟩, ⟨_, rfl⟩, hW, hsame.mono hk hn⟩
theorem oGo.retI {z : Int32} (hd : decode bytes pc = .ok (.ireturn, 1)) (hret : ret = some .int) (hk : k ≤ R.cells) (hn : n ≤ R.slots) (hQ : Q (some (.int z)) h) : oGo Z own nm bytes ml ret R n0 Q k n h pc L (.int z :: S) :=
  fun p l e s m args below meth c T locs C X eT N => by
    obtain ⟨hx, hZ, hby, hml, hown, hrt, hlk, hnm⟩ := C
    subst eT
    exact own_end X hlk (fun u => by rw [hrt, hret] at u; cases u) hk hn N hQ fun fs hr => retOut X hx (hrt.trans hret) rfl (Or.inl ⟨rfl, Or.inl rfl, z, rfl⟩) (hb hby hd) hr
theorem oGo.retN {z : Int32} {t : FieldType} (hd : decode bytes pc = .ok (.ireturn, 1)) (hret : ret = some t) (ht : t = .boolean ∨ t = .byte ∨ t = .char ∨ t = .short) (hk : k ≤ R.cells) (hn : n ≤ R.slots) (hQ : Q (some (.int (nar t z))) h) : oGo Z own nm bytes ml ret R n0 Q k n h pc L (.int z :: S) :=
  fun p l e s m args below meth c T locs C X eT N => by
    obtain ⟨hx, hZ, hby, hml, hown, hrt, hlk, hnm⟩ := C
    subst eT
    exact own_end X hlk (fun u => by rw [hrt, hret] at u; cases u) hk hn N hQ fun fs hr => Jvm.RoadKit.retN X hx (hrt.trans hret) ht (hb hby hd) hr
theorem oGo.retJ {z : Int64} (hd : decode bytes pc = .ok (.lreturn, 1)) (hret : ret = some .long) (hk : k ≤ R.cells) (hn : n ≤ R.slots) (hQ : Q (some (.long z)) h) : oGo Z own nm bytes ml ret R n0 Q k n h pc L (.long z :: S) :=
  fun p l e s m args below meth c T locs C X eT N => by
    obtain ⟨hx, hZ, hby, hml, hown, hrt, hlk, hnm⟩ := C
    subst eT
    exact own_end X hlk (fun u => by rw [hrt, hret] at u; cases u) hk hn N hQ fun fs hr => retOut X hx (hrt.trans hret) rfl (Or.inr (Or.inl ⟨rfl, rfl, z, rfl⟩)) (hb hby hd) hr
theorem oGo.retA {v : Value} {t : FieldType} (hd : decode bytes pc = .ok (.areturn, 1)) (hret : ret = some t) (ht : t.isReference = true) (hv : v.isRef = true) (hk : k ≤ R.cells) (hn : n ≤ R.slots) (hQ : Q (some v) h) : oGo Z own nm bytes ml ret R n0 Q k n h pc L (v :: S) :=
  fun p l e s m args below meth c T locs C X eT N => by
    obtain ⟨hx, hZ, hby, hml, hown, hrt, hlk, hnm⟩ := C
    subst eT
    exact own_end X hlk (fun u => by rw [hrt, hret] at u; cases u) hk hn N hQ fun fs hr => retOut X hx (hrt.trans hret) (by cases t <;> first | (cases ht; done) | rfl) (Or.inr (Or.inr (Or.inr (Or.inr ⟨rfl, ht, hv⟩)))) (hb hby hd) hr
theorem oGo.retV (hd : decode bytes pc = .ok (.return_, 1)) (hret : ret = none) (hk : k ≤ R.cells) (hn : n ≤ R.slots) (hQ : Q none h) : oGo Z own nm bytes ml ret R n0 Q k n h pc L [] :=
  fun p l e s m args below meth c T locs C X eT N => by
    obtain ⟨hx, hZ, hby, hml, hown, hrt, hlk, hnm⟩ := C
    subst eT
    exact own_end X hlk (fun _ => rfl) hk hn N hQ fun fs hr => X.returnOut hx (hrt.trans hret) (hb hby hd) hr
/-! calls by contract -/
theorem oGo.callS {y : MethodName} {i W : Nat} {bytes' : ByteArray} {ml' : Nat} {ret' : Option FieldType} {rm : Room} {as : Array Value} {Q' : Option Value → Heap → Prop} {ps : List FieldType} {rt : Option FieldType} (argsL rest : List Value) (hd : decode bytes pc = .ok (.invokestatic i, 3)) (hq : pc + 3 = q)
    (w1 : (Cond.methodLink own i y).before a0 Z = true) (w2 : (Cond.static y).before a0 Z = true) (w3 : (Cond.initialized y.cls).before a0 Z = true) (w4 : (Cond.code y bytes' ml' ret').before a0 Z = true) (hy : y.cls ≠ "java/lang/invoke/MethodHandle" ∧ y.cls ≠ "java/lang/invoke/VarHandle")
    (hC : oCon Z y bytes' ml' ret' rm as h n0 Q') (hS : S = argsL.reverse ++ rest) (has : argsL.toArray = as) (hpd : parseMethodDescriptor y.desc = some ⟨ps, rt⟩) (hlen : argsL.length = ps.length) (hL : L.size = ml) (hW : 2 * 0 + (rest.map fun v => v.category).sum ≤ W) (hf : rm.frames + 1 ≤ R.frames) (hl : W + (ml' + 11) + rm.locals ≤ R.locals) (hc : k + rm.cells ≤ R.cells) (hs : n + rm.slots ≤ R.slots)
    (K : ∀ v h', Q' v h' → oGo Z own nm bytes ml ret R n0 Q (k + rm.cells) (n + rm.slots) h' q L (v.toList ++ rest)) : oGo Z own nm bytes ml ret R n0 Q k n h pc L S :=
  fun p l e s m args below meth c T locs C X eT N => by
    obtain ⟨hx, hZ, hby, hml, hown, hrt, hlk, hnm⟩ := C
    subst hq
    obtain ⟨v, _, ⟨T', L2, k2, n2⟩, -, X', ⟨Lc, hQ', l', y', z'⟩, st⟩ := Jvm.LawKit.callS X hx (y := y) hown (mvT hZ w1) (mvT hZ w2) (mvT hZ w3) (mvT hZ w4) hy (backOf (W := W) (Q := fun v h' L => Q' v h' ∧ Fr n0 L) (hC l []) hZ w4 w3 hf hl) (g := mkF m pc L S) rfl (by rw [hml]; exact hL) (argsL := argsL) (rest := rest) (lenOf hpd hlen) hS hW (hb hby hd) (fun _ _ => ⟨has, eT, hc, hs⟩)
    dsimp only [Pt.U, Pt.locs, Pt.cells, Pt.slots] at X' l' y' z' st hQ'
    subst l' y' z'
    obtain ⟨s₂, o, h1, r⟩ := K v T'.heap hQ'.1 p l e s m args below meth c T' _ ⟨hx, hZ, hby, hml, hown, hrt, hlk, hnm⟩ X' rfl (Fr.app N hQ'.2)
    exact ⟨s₂, o, st _ h1, r⟩
theorem oGo.callI {y : MethodName} {i W : Nat} {bytes' : ByteArray} {ml' : Nat} {rm : Room} {as : Array Value} {Q' : Option Value → Heap → Prop} {ps : List FieldType} {rt : Option FieldType} {a : Addr} (argsL rest : List Value) (hd : decode bytes pc = .ok (.invokespecial i, 3)) (hq : pc + 3 = q) (hy1 : y.name = "<init>")
    (w1 : (Cond.methodLink own i y).before a0 Z = true) (w2 : (Cond.instanceMethod y).before a0 Z = true) (w3 : (Cond.initialized y.cls).before a0 Z = true) (w4 : (Cond.code y bytes' ml' none).before a0 Z = true) (hy : y.cls ≠ "java/lang/invoke/MethodHandle" ∧ y.cls ≠ "java/lang/invoke/VarHandle")
    (hC : oCon Z y bytes' ml' none rm as h n0 Q') (hS : S = argsL.reverse ++ .ref a :: rest) (has : (.ref a :: argsL).toArray = as) (hpd : parseMethodDescriptor y.desc = some ⟨ps, rt⟩) (hlen : argsL.length = ps.length) (hL : L.size = ml) (hW : 2 * 0 + (rest.map fun v => v.category).sum ≤ W) (hf : rm.frames + 1 ≤ R.frames) (hl : W + (ml' + 11) + rm.locals ≤ R.locals) (hc : k + rm.cells ≤ R.cells) (hs : n + rm.slots ≤ R.slots)
    (K : ∀ v h', Q' v h' → oGo Z own nm bytes ml ret R n0 Q (k + rm.cells) (n + rm.slots) h' q L (v.toList ++ rest)) : oGo Z own nm bytes ml ret R n0 Q k n h pc L S :=
  fun p l e s m args below meth c T locs C X eT N => by
    obtain ⟨hx, hZ, hby, hml, hown, hrt, hlk, hnm⟩ := C
    subst hq
    obtain ⟨v, _, ⟨T', L2, k2, n2⟩, -, X', ⟨Lc, hQ', l', y', z'⟩, st⟩ := X.specialBack hx (y := y) hy1 hown (mvT hZ w1) (mvT hZ w2) (mvT hZ w4) hy (backOf (W := W) (Q := fun v h' L => Q' v h' ∧ Fr n0 L) (hC l []) hZ w4 w3 hf hl) (g := mkF m pc L S) rfl (by rw [hml]; exact hL) (Steps.refl _) (a := a) (argsL := argsL) (rest := rest) (lenOf hpd hlen) hS hW (hb hby hd) (fun _ _ => ⟨has, eT, hc, hs⟩)
    dsimp only [Pt.U, Pt.locs, Pt.cells, Pt.slots] at X' l' y' z' st hQ'
    subst l' y' z'
    obtain ⟨s₂, o, h1, r⟩ := K v T'.heap hQ'.1 p l e s m args below meth c T' _ ⟨hx, hZ, hby, hml, hown, hrt, hlk, hnm⟩ X' rfl (Fr.app N hQ'.2)
    exact ⟨s₂, o, st.trans h1, r⟩
theorem oGo.callV {y z : MethodName} {C : String} {i W : Nat} {bytes' : ByteArray} {ml' : Nat} {ret' : Option FieldType} {rm : Room} {as : Array Value} {Q' : Option Value → Heap → Prop} {ps : List FieldType} {rt : Option FieldType} {a : Addr} (argsL rest : List Value) (hd : decode bytes pc = .ok (.invokevirtual i, 3)) (hq : pc + 3 = q)
    (w1 : (Cond.methodLink own i y).before a0 Z = true) (w2 : (Cond.declares y).before a0 Z = true) (w5 : (Cond.selects C y z).before a0 Z = true) (w6 : (Cond.instanceMethod z).before a0 Z = true) (w3 : (Cond.initialized z.cls).before a0 Z = true) (w4 : (Cond.code z bytes' ml' ret').before a0 Z = true) (hyz : y = z) (hy : y.cls ≠ "java/lang/invoke/MethodHandle" ∧ y.cls ≠ "java/lang/invoke/VarHandle") (E : Exa Z h a C)
    (hC : oCon Z z bytes' ml' ret' rm as h n0 Q') (hS : S = argsL.reverse ++ .ref a :: rest) (has : (.ref a :: argsL).toArray = as) (hpd : parseMethodDescriptor y.desc = some ⟨ps, rt⟩) (hlen : argsL.length = ps.length) (hL : L.size = ml) (hW : 2 * 0 + (rest.map fun v => v.category).sum ≤ W) (hf : rm.frames + 1 ≤ R.frames) (hl : W + (ml' + 11) + rm.locals ≤ R.locals) (hc : k + rm.cells ≤ R.cells) (hs : n + rm.slots ≤ R.slots)
    (K : ∀ v h', Q' v h' → oGo Z own nm bytes ml ret R n0 Q (k + rm.cells) (n + rm.slots) h' q L (v.toList ++ rest)) : oGo Z own nm bytes ml ret R n0 Q k n h pc L S :=
  fun p l e s m args below meth c T locs Cx X eT N => by
    obtain ⟨hx, hZ, hby, hml, hown, hrt, hlk, hnm⟩ := Cx
    subst hq hyz
    obtain ⟨cq, kq, qa, qb, qc⟩ := isOf (T := T) hZ eT E
    obtain ⟨v, _, ⟨T', L2, k2, n2⟩, -, X', ⟨Lc, hQ', l', y', z'⟩, st⟩ := X.virtualBack hx (y := y) (z := y) hown (mvT hZ w1) (mvT hZ w2) (notFace_of_selects (args := #[]) (mvT hZ w5)) (mvT hZ w5) (mvT hZ w6) hy (backOf (W := W) (Q := fun v h' L => Q' v h' ∧ Fr n0 L) (hC l []) hZ w4 w3 hf hl) qa qc (g := mkF m pc L S) rfl (by rw [hml]; exact hL) (Steps.refl _) (argsL := argsL) (rest := rest) (lenOf hpd hlen) hS hW (hb hby hd) (fun _ _ => ⟨has, eT, hc, hs⟩)
    dsimp only [Pt.U, Pt.locs, Pt.cells, Pt.slots] at X' l' y' z' st hQ'
    subst l' y' z'
    obtain ⟨s₂, o, h1, r⟩ := K v T'.heap hQ'.1 p l e s m args below meth c T' _ ⟨hx, hZ, hby, hml, hown, hrt, hlk, hnm⟩ X' rfl (Fr.app N hQ'.2)
    exact ⟨s₂, o, st.trans h1, r⟩
theorem oGo.initO {i W : Nat} {a : Addr} (hd : decode bytes pc = .ok (.invokespecial i, 3)) (hq : pc + 3 = q) (w1 : (Cond.methodLink own i Lib.objectInit).before a0 Z = true) (w2 : (Cond.instanceMethod Lib.objectInit).before a0 Z = true) (w3 : (Cond.code Lib.objectInit ⟨#[0xb1]⟩ 1 none).before a0 Z = true) (hL : L.size = ml) (hf : 1 ≤ R.frames) (hW : 2 * 0 + (S.map fun v => v.category).sum ≤ W) (hl : W + 12 ≤ R.locals) (K : oGo Z own nm bytes ml ret R n0 Q k n h q L S) : oGo Z own nm bytes ml ret R n0 Q k n h pc L (.ref a :: S) :=
  fun p l e s m args below meth c T locs C X eT N => by
    obtain ⟨hx, hZ, hby, hml, hown, hrt, hlk, hnm⟩ := C
    subst hq
    obtain ⟨T', X', e', st⟩ := Jvm.RoadKit.initO X hx hZ hown w1 w2 w3 eT (g := mkF m pc L (.ref a :: S)) rfl (by rw [hml]; exact hL) rfl (hb hby hd) hf hW hl
    obtain ⟨s₂, o, h1, r⟩ := K p l e s m args below meth c T' locs ⟨hx, hZ, hby, hml, hown, hrt, hlk, hnm⟩ X' e' N
    exact ⟨s₂, o, st _ h1, r⟩
/-! objects -/
theorem own_keep {h h' : Heap} (E : Ext h h') : Keep h h' [] := (Keep.refl h []).ext E
theorem oGo.newO {C : String} {i nn : Nat} (hd : decode bytes pc = .ok (.new i, 3)) (hq : pc + 3 = q) (w : (Cond.classLink own i C).before a0 Z = true) (wi : (Cond.instantiable C nn).before a0 Z = true) (wz : (Cond.initialized C).before a0 Z = true) (hc : k + 1 ≤ R.cells) (hs : n + nn ≤ R.slots)
    (K : ∀ h' a, a = h.size → Keep h h' [] → Exa Z h' a C → (∀ {O f d : String} {ty : FieldType}, Laid Z a0 C O f d → parseFieldDescriptor d = some ty → Fld Z h' a O f d (defaultValue ty)) → oGo Z own nm bytes ml ret R n0 Q (k + 1) (n + nn) h' q L (.ref a :: S)) : oGo Z own nm bytes ml ret R n0 Q k n h pc L S :=
  fun p l e s m args below meth c T locs Cx X eT N => by
    obtain ⟨hx, hZ, hby, hml, hown, hrt, hlk, hnm⟩ := Cx
    subst hq
    obtain ⟨T', h', X', e', E, A, D, -, st⟩ := Jvm.RoadKit.newO X hx hZ hown w wi wz eT (g := mkF m pc L S) rfl (hb hby hd) hc hs
    obtain ⟨s₂, o, h1, r⟩ := K h' h.size rfl (own_keep E) A D p l e s m args below meth c T' locs ⟨hx, hZ, hby, hml, hown, hrt, hlk, hnm⟩ X' e' N
    exact ⟨s₂, o, st _ h1, r⟩
theorem oGo.getF {R0 O f d host : String} {i : Nat} {a : Addr} {v : Value} (hd : decode bytes pc = .ok (.getfield i, 3)) (hq : pc + 3 = q) (w : (Cond.fieldLink own i R0 f d).before a0 Z = true ∨ (Cond.fieldLinkNest own i R0 f d host).before a0 Z = true) (via : Via Z R0 O f d) (F : Fld Z h a O f d v) (K : oGo Z own nm bytes ml ret R n0 Q k n h q L (v :: S)) : oGo Z own nm bytes ml ret R n0 Q k n h pc L (.ref a :: S) :=
  fun p l e s m args below meth c T locs C X eT N => by
    obtain ⟨hx, hZ, hby, hml, hown, hrt, hlk, hnm⟩ := C
    subst hq
    obtain ⟨T', X', e', st⟩ := Jvm.RoadKit.getF X hx hZ hown w via eT F (g := mkF m pc L (.ref a :: S)) rfl rfl (hb hby hd)
    obtain ⟨s₂, o, h1, r⟩ := K p l e s m args below meth c T' locs ⟨hx, hZ, hby, hml, hown, hrt, hlk, hnm⟩ X' e' N
    exact ⟨s₂, o, st _ h1, r⟩
theorem oGo.getS {R0 O f d : String} {i : Nat} {v : Value} (hd : decode bytes pc = .ok (.getstatic i, 3)) (hq : pc + 3 = q) (w : (Cond.fieldLink own i R0 f d).before a0 Z = true) (via : Via Z R0 O f d) (F : Sta Z h O f d v) (K : oGo Z own nm bytes ml ret R n0 Q k n h q L (v :: S)) : oGo Z own nm bytes ml ret R n0 Q k n h pc L S :=
  fun p l e s m args below meth c T locs C X eT N => by
    obtain ⟨hx, hZ, hby, hml, hown, hrt, hlk, hnm⟩ := C
    subst hq
    obtain ⟨T', X', e', st⟩ := Jvm.RoadKit.getS (host := "") X hx hZ hown w via eT F (g := mkF m pc L S) rfl (hb hby hd)
    obtain ⟨s₂, o, h1, r⟩ := K p l e s m args below meth c T' locs ⟨hx, hZ, hby, hml, hown, hrt, hlk, hnm⟩ X' e' N
    exact ⟨s₂, o, st _ h1, r⟩
theorem oGo.putF {R0 O f d host C : String} {i kk : Nat} {ty : FieldType} {a : Addr} {v w0 : Value} (hd : decode bytes pc = .ok (.putfield i, 3)) (hq : pc + 3 = q) (w : (Cond.fieldLink own i R0 f d).before a0 Z = true ∨ (Cond.fieldLinkNest own i R0 f d host).before a0 Z = true) (via : Via Z R0 O f d) (F : Fld Z h a O f d w0) (E : Exa Z h a C)
    (Lw : (Cond.lays C O f d).before a0 Z = true ∨ ((Cond.laysFinal C O f d).before a0 Z = true ∧ own = O ∧ nm = "<init>")) (wi : (Cond.instantiable C kk).before a0 Z = true) (hty : parseFieldDescriptor d = some ty) (hn : narrow ty v = v) (hf : fits ty v = true) (ha : n0 ≤ a)
    (K : ∀ h', Keep h h' [a] → Exa Z h' a C → Fld Z h' a O f d v → (∀ {O' f' d' : String} {u : Value}, Jvm.RoadKit.slotOf Z O' f' d' ≠ Jvm.RoadKit.slotOf Z O f d → Fld Z h a O' f' d' u → Fld Z h' a O' f' d' u) → oGo Z own nm bytes ml ret R n0 Q k n h' q L S) : oGo Z own nm bytes ml ret R n0 Q k n h pc L (v :: .ref a :: S) :=
  fun p l e s m args below meth c T locs Cx X eT N => by
    obtain ⟨hx, hZ, hby, hml, hown, hrt, hlk, hnm⟩ := Cx
    subst hq
    obtain ⟨T', h', X', e', W, st⟩ := Jvm.RoadKit.putF X hx hZ hown w via eT F E (Lw.imp id fun u => ⟨u.1, u.2.1, hnm.trans u.2.2⟩) wi hty hn hf (g := mkF m pc L (v :: .ref a :: S)) rfl rfl (hb hby hd)
    obtain ⟨s₂, o, h1, r⟩ := K h' (Keep.of_wr W) (E.wr W) (F.same W) (fun hne G => G.other W (Or.inr hne)) p l e s m args below meth c T' _ ⟨hx, hZ, hby, hml, hown, hrt, hlk, hnm⟩ X' e' (Fr.snoc X' N ha)
    exact ⟨s₂, o, st _ h1, r⟩
/-! arrays -/
def Ars (Z : State) (h : Heap) (a : Addr) (ty : FieldType) (vs : List Value) : Prop := ∃ c : Cell, Arr Z h a c ty ∧ c.slots.toList = vs ∧ ∀ v ∈ vs, fits ty v = true
theorem Ars.lt {a : Addr} {ty : FieldType} {vs : List Value} (A : Ars Z h a ty vs) : a < h.size := by obtain ⟨c, A, -⟩ := A; exact A.lt
theorem Ars.keep {h' : Heap} {ws : List Addr} {a : Addr} {ty : FieldType} {vs : List Value} (A : Ars Z h a ty vs) (K : Keep h h' ws) (q : a ∉ ws) : Ars Z h' a ty vs := by obtain ⟨c, A, r⟩ := A; exact ⟨c, ⟨K.2.1 a c A.1 q, A.2⟩, r⟩
theorem own_cn {j : Int32} {i : Nat} (hi : j.toInt = (i : Int)) : j.toNatClampNeg = i := by simp [Int32.toNatClampNeg, hi]
theorem own_in {j : Int32} {i : Nat} {c : Cell} {vs : List Value} (hi : j.toInt = (i : Int)) (hc : c.slots.toList = vs) (hl : i < vs.length) : ¬ (j < 0 ∨ c.slots.size ≤ j.toNatClampNeg) := by
  have e1 : c.slots.size = vs.length := by rw [← hc]; simp
  rw [own_cn hi, e1]
  rintro (u | u)
  · have := Int32.lt_iff_toInt_lt.mp u; have e0 : (0 : Int32).toInt = 0 := rfl; omega
  · omega
theorem own_at {j : Int32} {i : Nat} {c : Cell} {vs : List Value} {v : Value} (hi : j.toInt = (i : Int)) (hc : c.slots.toList = vs) (hv : vs[i]? = some v) : c.slots[j.toNatClampNeg]? = some v := by
  rw [own_cn hi, ← hv, ← hc]; simp
theorem Ars.wr {h' : Heap} {a : Addr} {ty : FieldType} {vs : List Value} {c : Cell} {i : Nat} {v : Value} {j : Int32} (hi : j.toInt = (i : Int)) (A : Arr Z h a c ty) (hc : c.slots.toList = vs) (hf : ∀ v ∈ vs, fits ty v = true) (hv : fits ty v = true) (W : Wr h h' a j.toNatClampNeg v) : Ars Z h' a ty (vs.set i v) := by
  refine ⟨_, A.same W, ?_, fun u hu => ?_⟩
  · rw [← hc, own_cn hi]; simp [Cell.setSlot]
  · rcases List.mem_or_eq_of_mem_set hu with u1 | u1
    · exact hf u u1
    · exact u1 ▸ hv
theorem oGo.newP {aty : ArrayType} {nn : Int32} {len : Nat} {ad : String} (cap : Nat) (hd : decode bytes pc = .ok (.newarray aty, 2)) (hq : pc + 2 = q) (w : (Cond.arrayClass (newarray.typeOf aty)).before a0 Z = true) (hn : nn.toInt = (len : Int)) (hcap : len ≤ cap) (hb8 : cap * 8 ≤ 536870912) (hc : k + 1 ≤ R.cells) (hs : n + cap ≤ R.slots) (had : "[" ++ (newarray.typeOf aty).toString = ad)
    (K : ∀ h' a, a = h.size → Keep h h' [] → Ars Z h' a (newarray.typeOf aty) (List.replicate len (defaultValue (newarray.typeOf aty))) → Exa Z h' a ad → oGo Z own nm bytes ml ret R n0 Q (k + 1) (n + cap) h' q L (.ref a :: S)) : oGo Z own nm bytes ml ret R n0 Q k n h pc L (.int nn :: S) :=
  fun p l e s m args below meth c T locs Cx X eT N => by
    obtain ⟨hx, hZ, hby, hml, hown, hrt, hlk, hnm⟩ := Cx
    subst hq
    have h0 : ¬ nn < 0 := fun u => by have := Int32.lt_iff_toInt_lt.mp u; have e0 : (0 : Int32).toInt = 0 := rfl; omega
    obtain ⟨T', h', cA, X', e', E, A, EA, st⟩ := Jvm.RoadKit.newPE X hx hZ w eT (g := mkF m pc L (.int nn :: S)) rfl (hb hby hd) rfl h0 (cap := cap) (by rw [own_cn hn]; exact hcap) hb8 hc hs had
    obtain ⟨s₂, o, h1, r⟩ := K h' h.size rfl (own_keep E) ⟨_, A, by simp [newA, own_cn hn], fun v hv => by rw [(List.mem_replicate.mp hv).2]; cases aty <;> rfl⟩ EA p l e s m args below meth c T' locs ⟨hx, hZ, hby, hml, hown, hrt, hlk, hnm⟩ X' e' N
    exact ⟨s₂, o, st _ h1, r⟩
theorem oGo.cast {i : Nat} {C : String} {a : Addr} (hd : decode bytes pc = .ok (.checkcast i, 3)) (hq : pc + 3 = q) (w : (Cond.classLink own i C).before a0 Z = true) (F : Ins Z h a C true) (K : oGo Z own nm bytes ml ret R n0 Q k n h q L (.ref a :: S)) : oGo Z own nm bytes ml ret R n0 Q k n h pc L (.ref a :: S) :=
  fun p l e s m args below meth c T locs Cx X eT N => by
    obtain ⟨hx, hZ, hby, hml, hown, hrt, hlk, hnm⟩ := Cx
    subst hq
    obtain ⟨T', X', e', st⟩ := Jvm.RoadKit.castY X hx hZ hown w eT F (g := mkF m pc L (.ref a :: S)) rfl rfl (hb hby hd)
    obtain ⟨s₂, o, h1, r⟩ := K p l e s m args below meth c T' locs ⟨hx, hZ, hby, hml, hown, hrt, hlk, hnm⟩ X' e' N
    exact ⟨s₂, o, st _ h1, r⟩
theorem oGo.arraylength {a : Addr} {ty : FieldType} {vs : List Value} {v : Int32} (hd : decode bytes pc = .ok (.arraylength, 1)) (hq : pc + 1 = q) (A : Ars Z h a ty vs) (hv : Int32.ofNat vs.length = v) (K : oGo Z own nm bytes ml ret R n0 Q k n h q L (.int v :: S)) : oGo Z own nm bytes ml ret R n0 Q k n h pc L (.ref a :: S) :=
  fun p l e s m args below meth c T locs Cx X eT N => by
    obtain ⟨hx, hZ, hby, hml, hown, hrt, hlk, hnm⟩ := Cx
    subst hq
    obtain ⟨cl, A, hc, -⟩ := A
    have e1 : cl.slots.size.toInt32 = v := by rw [← hv, ← hc, Array.length_toList]
    obtain ⟨s₂, o, h1, r⟩ := K p l e s m args below meth c T locs ⟨hx, hZ, hby, hml, hown, hrt, hlk, hnm⟩ X eT N
    exact ⟨s₂, o, X.arraylength hx (by rw [eT]; exact A.1) (State.isArrayOf_alike hZ.alike A.2.1) (g := mkF m pc L (.ref a :: S)) rfl rfl (hb hby hd) _ (by rw [e1]; exact h1), r⟩
theorem oGo.iaload {a : Addr} {j : Int32} {i : Nat} {vs : List Value} {v : Value} (hd : decode bytes pc = .ok (.iaload, 1)) (hq : pc + 1 = q) (A : Ars Z h a .int vs) (hi : j.toInt = (i : Int)) (hv : vs[i]? = some v) (K : oGo Z own nm bytes ml ret R n0 Q k n h q L (v :: S)) : oGo Z own nm bytes ml ret R n0 Q k n h pc L (.int j :: .ref a :: S) :=
  fun p l e s m args below meth c T locs Cx X eT N => by
    obtain ⟨hx, hZ, hby, hml, hown, hrt, hlk, hnm⟩ := Cx
    subst hq
    obtain ⟨cl, A, hc, -⟩ := A
    obtain ⟨s₂, o, h1, r⟩ := K p l e s m args below meth c T locs ⟨hx, hZ, hby, hml, hown, hrt, hlk, hnm⟩ X eT N
    exact ⟨s₂, o, X.iaload hx (by rw [eT]; exact A.1) (State.isArrayOf_alike hZ.alike A.2.1) A.2.2 (own_in hi hc (List.getElem?_eq_some_iff.mp hv).1) (own_at hi hc hv) (g := mkF m pc L (.int j :: .ref a :: S)) rfl rfl (hb hby hd) _ h1, r⟩
theorem oGo.laload {a : Addr} {j : Int32} {i : Nat} {vs : List Value} {v : Value} (hd : decode bytes pc = .ok (.laload, 1)) (hq : pc + 1 = q) (A : Ars Z h a .long vs) (hi : j.toInt = (i : Int)) (hv : vs[i]? = some v) (K : oGo Z own nm bytes ml ret R n0 Q k n h q L (v :: S)) : oGo Z own nm bytes ml ret R n0 Q k n h pc L (.int j :: .ref a :: S) :=
  fun p l e s m args below meth c T locs Cx X eT N => by
    obtain ⟨hx, hZ, hby, hml, hown, hrt, hlk, hnm⟩ := Cx
    subst hq
    obtain ⟨cl, A, hc, -⟩ := A
    obtain ⟨s₂, o, h1, r⟩ := K p l e s m args below meth c T locs ⟨hx, hZ, hby, hml, hown, hrt, hlk, hnm⟩ X eT N
    exact ⟨s₂, o, X.laload hx (by rw [eT]; exact A.1) (State.isArrayOf_alike hZ.alike A.2.1) A.2.2 (own_in hi hc (List.getElem?_eq_some_iff.mp hv).1) (own_at hi hc hv) (g := mkF m pc L (.int j :: .ref a :: S)) rfl rfl (hb hby hd) _ h1, r⟩
theorem oGo.baload {a : Addr} {j : Int32} {i : Nat} {vs : List Value} {v : Value} (hd : decode bytes pc = .ok (.baload, 1)) (hq : pc + 1 = q) (A : Ars Z h a .byte vs) (hi : j.toInt = (i : Int)) (hv : vs[i]? = some v) (K : oGo Z own nm bytes ml ret R n0 Q k n h q L (v :: S)) : oGo Z own nm bytes ml ret R n0 Q k n h pc L (.int j :: .ref a :: S) :=
  fun p l e s m args below meth c T locs Cx X eT N => by
    obtain ⟨hx, hZ, hby, hml, hown, hrt, hlk, hnm⟩ := Cx
    subst hq
    obtain ⟨cl, A, hc, -⟩ := A
    obtain ⟨s₂, o, h1, r⟩ := K p l e s m args below meth c T locs ⟨hx, hZ, hby, hml, hown, hrt, hlk, hnm⟩ X eT N
    exact ⟨s₂, o, X.baloadBytes hx (by rw [eT]; exact A.1) (State.isArrayOf_alike hZ.alike A.2.1) A.2.2 (own_in hi hc (List.getElem?_eq_some_iff.mp hv).1) (own_at hi hc hv) (g := mkF m pc L (.int j :: .ref a :: S)) rfl rfl (hb hby hd) _ h1, r⟩
theorem oGo.iastore {a : Addr} {j : Int32} {x : Int32} {i : Nat} {vs : List Value} (hd : decode bytes pc = .ok (.iastore, 1)) (hq : pc + 1 = q) (A : Ars Z h a .int vs) (hi : j.toInt = (i : Int)) (hl : i < vs.length) (ha : n0 ≤ a) (K : ∀ h', Keep h h' [a] → Ars Z h' a .int (vs.set i (.int x)) → oGo Z own nm bytes ml ret R n0 Q k n h' q L S) : oGo Z own nm bytes ml ret R n0 Q k n h pc L (.int x :: .int j :: .ref a :: S) :=
  fun p l e s m args below meth c T locs Cx X eT N => by
    obtain ⟨hx, hZ, hby, hml, hown, hrt, hlk, hnm⟩ := Cx
    subst hq
    obtain ⟨cl, A, hc, hf⟩ := A
    obtain ⟨T', h', X', e', W, st⟩ := Jvm.RoadKit.stI X hx hZ eT A (own_in hi hc hl) (g := mkF m pc L (.int x :: .int j :: .ref a :: S)) rfl rfl (hb hby hd)
    obtain ⟨s₂, o, h1, r⟩ := K h' (Keep.of_wr W) (Ars.wr hi A hc hf rfl W) p l e s m args below meth c T' _ ⟨hx, hZ, hby, hml, hown, hrt, hlk, hnm⟩ X' e' (Fr.snoc X' N ha)
    exact ⟨s₂, o, st _ h1, r⟩
theorem oGo.lastore {a : Addr} {j : Int32} {x : Int64} {i : Nat} {vs : List Value} (hd : decode bytes pc = .ok (.lastore, 1)) (hq : pc + 1 = q) (A : Ars Z h a .long vs) (hi : j.toInt = (i : Int)) (hl : i < vs.length) (ha : n0 ≤ a) (K : ∀ h', Keep h h' [a] → Ars Z h' a .long (vs.set i (.long x)) → oGo Z own nm bytes ml ret R n0 Q k n h' q L S) : oGo Z own nm bytes ml ret R n0 Q k n h pc L (.long x :: .int j :: .ref a :: S) :=
  fun p l e s m args below meth c T locs Cx X eT N => by
    obtain ⟨hx, hZ, hby, hml, hown, hrt, hlk, hnm⟩ := Cx
    subst hq
    obtain ⟨cl, A, hc, hf⟩ := A
    obtain ⟨T', h', X', e', W, st⟩ := Jvm.RoadKit.stJ X hx hZ eT A (own_in hi hc hl) (g := mkF m pc L (.long x :: .int j :: .ref a :: S)) rfl rfl (hb hby hd)
    obtain ⟨s₂, o, h1, r⟩ := K h' (Keep.of_wr W) (Ars.wr hi A hc hf rfl W) p l e s m args below meth c T' _ ⟨hx, hZ, hby, hml, hown, hrt, hlk, hnm⟩ X' e' (Fr.snoc X' N ha)
    exact ⟨s₂, o, st _ h1, r⟩
theorem oGo.bastore {a : Addr} {j x y : Int32} {i : Nat} {vs : List Value} (hd : decode bytes pc = .ok (.bastore, 1)) (hq : pc + 1 = q) (A : Ars Z h a .byte vs) (hi : j.toInt = (i : Int)) (hl : i < vs.length) (ha : n0 ≤ a) (hy : x.toInt8.toInt32 = y) (K : ∀ h', Keep h h' [a] → Ars Z h' a .byte (vs.set i (.int y)) → oGo Z own nm bytes ml ret R n0 Q k n h' q L S) : oGo Z own nm bytes ml ret R n0 Q k n h pc L (.int x :: .int j :: .ref a :: S) :=
  fun p l e s m args below meth c T locs Cx X eT N => by
    obtain ⟨hx, hZ, hby, hml, hown, hrt, hlk, hnm⟩ := Cx
    subst hq hy
    obtain ⟨cl, A, hc, hf⟩ := A
    obtain ⟨T', h', X', e', W, st⟩ := Jvm.RoadKit.stB X hx hZ eT A (own_in hi hc hl) (g := mkF m pc L (.int x :: .int j :: .ref a :: S)) rfl rfl (hb hby hd)
    obtain ⟨s₂, o, h1, r⟩ := K h' (Keep.of_wr W) (Ars.wr hi A hc hf (fits_nar_byte x) W) p l e s m args below meth c T' _ ⟨hx, hZ, hby, hml, hown, hrt, hlk, hnm⟩ X' e' (Fr.snoc X' N ha)
    exact ⟨s₂, o, st _ h1, r⟩
/-! small numbers -/
theorem own_oi {i : Nat} (hi : i < 2147483648) : (Int32.ofNat i).toInt = (i : Int) := Int32.toInt_ofNat_of_lt (by omega)
theorem own_oinc (i : Nat) : Int32.ofNat i + Int32.ofInt 1 = Int32.ofNat (i + 1) := (Int32.ofNat_add i 1).symm
theorem own_oadd {i m : Nat} {c : Int32} (hc : c = Int32.ofNat m) : Int32.ofNat i + c = Int32.ofNat (i + m) := by rw [hc]; exact (Int32.ofNat_add i m).symm
theorem own_oiadd {i m : Nat} {c : Int32} (hc : c = Int32.ofNat m) (h : i + m < 2147483648) : (Int32.ofNat i + c).toInt = ((i + m : Nat) : Int) := by rw [own_oadd hc]; exact own_oi h
theorem own_pred {i : Nat} (hi : i < 2147483647) : (Int32.ofNat (i + 1) - (1 : Int32)).toInt = (i : Int) := by
  have a := c_isub (Int32.ofNat (i + 1)) 1
  have e := own_oi (i := i + 1) (by omega)
  have z : (1 : Int32).toInt = 1 := by decide
  have r := rng32 (Int32.ofNat (i + 1) - 1)
  omega
theorem own_bb (x : Int32) : x.toInt8.toInt32.toInt8.toInt32 = x.toInt8.toInt32 := by
  apply Int32.toInt_inj.mp
  have h1 := c_i2b x
  have h2 := c_i2b x.toInt8.toInt32
  omega
def own_ints (vs : List Value) (n : Nat) : Prop := vs.length = n ∧ ∀ k, k < n → ∃ x : Int32, vs[k]? = some (.int x)
theorem own_ints.set {vs : List Value} {n i : Nat} {x : Int32} (u : own_ints vs n) : own_ints (vs.set i (.int x)) n := by
  refine ⟨by rw [List.length_set]; exact u.1, fun k hk => ?_⟩
  by_cases e : i = k
  · subst e; exact ⟨x, List.getElem?_set_self (by rw [u.1]; exact hk)⟩
  · rw [List.getElem?_set_ne e]; exact u.2 k hk
theorem own_irem (x y : Int32) (hx : 0 ≤ x.toInt) : (x % y).toInt = x.toInt % y.toInt := by rw [Int32.toInt_mod]; exact (tr _ _).1 hx
theorem own_lrem (x y : Int64) (hx : 0 ≤ x.toInt) : (x % y).toInt = x.toInt % y.toInt := by rw [Int64.toInt_mod]; exact (tr _ _).1 hx
theorem own_int32 {x y : Int32} (e : x.toInt = y.toInt) : x = y := Int32.toInt_inj.mp e
theorem own_int64 {x y : Int64} (e : x.toInt = y.toInt) : x = y := Int64.toInt_inj.mp e
theorem own_nat {x : Int32} {i : Nat} (e : x.toInt = (i : Int)) (hi : i < 2147483648) : x = Int32.ofNat i := own_int32 (e.trans (own_oi hi).symm)
/-! System.arraycopy -/
theorem Ars.arv {a : Addr} {ty : FieldType} {vs : List Value} (dv : Value) (A : Ars Z h a ty vs) (hl : vs.length < 2147483648) : ∃ k, Arv Z h a k ty (Int32.ofNat vs.length) vs dv := by
  obtain ⟨c, A, hc, hf⟩ := A
  have e1 : c.slots.size = vs.length := by rw [← hc, Array.length_toList]
  have e2 : (Int32.ofNat vs.length).toNatClampNeg = vs.length := own_cn (own_oi hl)
  refine ⟨c.cls, c, A, rfl, by rw [e1, e2], fun u => ?_, fun k hk => ?_, fun i hi => ?_⟩
  · have := Int32.lt_iff_toInt_lt.mp u
    have e0 : (0 : Int32).toInt = 0 := rfl
    rw [own_oi hl] at this
    omega
  · rw [e1] at hk
    rw [← Array.getElem?_toList, hc, List.getD_eq_getElem?_getD, List.getElem?_eq_getElem hk]
    rfl
  · rw [e1] at hi
    rw [List.getD_eq_getElem?_getD, List.getElem?_eq_getElem hi]
    exact hf _ (List.getElem_mem hi)
theorem Ars.of_arv {a : Addr} {ty : FieldType} {vs : List Value} {dv : Value} {z : Int32} {k : ClassId} (A : Arv Z h a k ty z vs dv) (hz : z.toNatClampNeg = vs.length) : Ars Z h a ty vs := by
  obtain ⟨c, A, -, e1, -, H, F⟩ := A
  rw [hz] at e1
  refine ⟨c, A, List.ext_getElem? fun i => ?_, fun v hv => ?_⟩
  · rw [Array.getElem?_toList]
    by_cases u : i < vs.length
    · rw [H i (by rw [e1]; exact u), List.getD_eq_getElem?_getD, List.getElem?_eq_getElem u]; rfl
    · rw [List.getElem?_eq_none (by omega), Array.getElem?_eq_none (by omega)]
  · obtain ⟨i, hi, rfl⟩ := List.mem_iff_getElem.mp hv
    have := F i (by rw [e1]; exact hi)
    rwa [List.getD_eq_getElem?_getD, List.getElem?_eq_getElem hi] at this
theorem own_us {vs : List Value} {si len : Nat} {dv : Value} (hl : si + len ≤ vs.length) : (vs.drop si).take len = (List.range len).map fun i => vs.getD (si + i) dv := by
  apply List.ext_getElem
  · simp; omega
  · intro i h1 h2
    simp only [List.length_map, List.length_range] at h2
    simp [List.getD_eq_getElem?_getD, List.getElem?_eq_getElem (show si + i < vs.length by omega)]
theorem own_nn {j : Int32} {i : Nat} (hi : j.toInt = (i : Int)) : ¬ j < 0 := fun u => by
  have := Int32.lt_iff_toInt_lt.mp u
  have e0 : (0 : Int32).toInt = 0 := rfl
  omega
theorem oGo.acopy {i W : Nat} {a b : Addr} {ty : FieldType} {vs vd : List Value} {sp dp nn : Int32} {si di len : Nat} (hd : decode bytes pc = .ok (.invokestatic i, 3)) (hq : pc + 3 = q)
    (w1 : (Cond.methodLink own i Jvm.Stand.acN).before a0 Z = true) (w2 : (Cond.native Jvm.Stand.acN).before a0 Z = true) (w3 : (Cond.static Jvm.Stand.acN).before a0 Z = true) (w4 : (Cond.initialized "java/lang/System").before a0 Z = true)
    (A : Ars Z h a ty vs) (B : Ars Z h b ty vd) (hty : refKind ty = false) (h1 : sp.toInt = (si : Int)) (h2 : dp.toInt = (di : Int)) (h3 : nn.toInt = (len : Int)) (h4 : si + len ≤ vs.length) (h5 : di + len ≤ vd.length) (l1 : vs.length < 2147483648) (l2 : vd.length < 2147483648) (ge : n0 ≤ b) (hL : L.size = ml) (hf : 1 ≤ R.frames) (hW : 2 * 0 + (S.map fun v => v.category).sum ≤ W) (hlo : W + (nativeFrameWords "java/lang/System" "arraycopy" 5 + 11) ≤ R.locals)
    (K : ∀ h', Keep h h' [b] → Ars Z h' b ty (vd.take di ++ (vs.drop si).take len ++ vd.drop (di + len)) → oGo Z own nm bytes ml ret R n0 Q k n h' q L S) : oGo Z own nm bytes ml ret R n0 Q k n h pc L (.int nn :: .int dp :: .ref b :: .int sp :: .ref a :: S) :=
  fun p l e s m args below meth c T locs Cx X eT N => by
    obtain ⟨hx, hZ, hby, hml, hown, hrt, hlk, hnm⟩ := Cx
    subst hq
    obtain ⟨k1, A'⟩ := A.arv .null l1
    obtain ⟨k2, B'⟩ := B.arv .null l2
    have c1 := own_cn h1
    have c2 := own_cn h2
    have c3 := own_cn h3
    have e1 := own_cn (own_oi l1)
    have e2 := own_cn (own_oi l2)
    obtain ⟨T', h', L', X', e', N', K', B'', st⟩ := cpA X hx hZ hown w1 w2 w3 w4 eT A' B' (Or.inl ⟨rfl, hty⟩) (own_nn h1) (own_nn h2) (own_nn h3) (by rw [c1, c3, e1]; exact h4) (by rw [c2, c3, e2]; exact h5) rfl (by rw [c2, c3]; exact h5) N ge (g := mkF m pc L (.int nn :: .int dp :: .ref b :: .int sp :: .ref a :: S)) rfl (by rw [hml]; exact hL) rfl (hb hby hd) hf hW hlo
    rw [c1, c2, c3, ← own_us h4] at B''
    obtain ⟨s₂, o, g1, r⟩ := K h' K' (Ars.of_arv B'' (by rw [e2]; simp only [List.length_append, List.length_take, List.length_drop]; omega)) p l e s m args below meth c T' L' ⟨hx, hZ, hby, hml, hown, hrt, hlk, hnm⟩ X' e' N'
    exact ⟨s₂, o, st _ g1, r⟩
theorem oGo.clone {i W : Nat} {ad : String} {a : Addr} {ty : FieldType} {vs : List Value} (cap : Nat) (hd : decode bytes pc = .ok (.invokevirtual i, 3)) (hq : pc + 3 = q)
    (w1 : (Cond.methodLink own i ⟨ad, "clone", "()Ljava/lang/Object;"⟩).before a0 Z = true) (w2 : (Cond.sameMethod ad "java/lang/Object" "clone" "()Ljava/lang/Object;").before a0 Z = true) (w3 : (Cond.native ⟨"java/lang/Object", "clone", "()Ljava/lang/Object;"⟩).before a0 Z = true)
    (w4 : (Cond.instanceMethod ⟨"java/lang/Object", "clone", "()Ljava/lang/Object;"⟩).before a0 Z = true) (w5 : (Cond.selects ad ⟨ad, "clone", "()Ljava/lang/Object;"⟩ ⟨"java/lang/Object", "clone", "()Ljava/lang/Object;"⟩).before a0 Z = true) (w6 : (Cond.castable ad "java/lang/Cloneable").before a0 Z = true)
    (A : Ars Z h a ty vs) (E : Exa Z h a ad) (hl : vs.length < 2147483648) (hcap : vs.length ≤ cap) (hL : L.size = ml) (hf : 1 ≤ R.frames) (hW : 2 * 0 + (S.map fun v => v.category).sum ≤ W) (hlo : W + 14 ≤ R.locals) (hc : k + 1 ≤ R.cells) (hs : n + cap ≤ R.slots)
    (K : ∀ h' b, b = h.size → Keep h h' [] → Ars Z h' b ty vs → Exa Z h' b ad → oGo Z own nm bytes ml ret R n0 Q (k + 1) (n + cap) h' q L (.ref b :: S)) : oGo Z own nm bytes ml ret R n0 Q k n h pc L (.ref a :: S) :=
  fun p l e s m args below meth c T locs Cx X eT N => by
    obtain ⟨hx, hZ, hby, hml, hown, hrt, hlk, hnm⟩ := Cx
    subst hq
    obtain ⟨k1, A'⟩ := A.arv .null hl
    have e1 := own_cn (own_oi hl)
    obtain ⟨T', h', X', e', Ex, B', EB, st⟩ := cloneH X hx hZ hown w1 w2 w3 w4 w5 w6 eT A'.arh E (g := mkF m pc L (.ref a :: S)) rfl (by rw [hml]; exact hL) rfl (hb hby hd) hf hW hlo (cap := cap) (by rw [e1]; exact hcap) hc hs
    obtain ⟨s₂, o, g1, r⟩ := K h' h.size rfl (own_keep Ex) (Ars.of_arv (show Arv Z h' h.size k1 ty (Int32.ofNat vs.length) vs .null from B') e1) EB p l e s m args below meth c T' locs ⟨hx, hZ, hby, hml, hown, hrt, hlk, hnm⟩ X' e' N
    exact ⟨s₂, o, st _ g1, r⟩
theorem oGo.callP {y : MethodName} {i W kk : Nat} {bytes' : ByteArray} {ml' : Nat} {ret' : Option FieldType} {rm : Room} {as : Array Value} {Q' : Option Value → Heap → Prop} {ps : List FieldType} {rt : Option FieldType} {a : Addr} {C : String} (argsL rest : List Value) (hd : decode bytes pc = .ok (.invokevirtual i, 3)) (hq : pc + 3 = q)
    (w1 : (Cond.methodLink own i y).before a0 Z = true) (w2 : (Cond.instanceMethod y).before a0 Z = true) (wp : (Cond.privateMethod y).before a0 Z = true) (wi : (Cond.instantiable y.cls kk).before a0 Z = true) (w3 : (Cond.initialized y.cls).before a0 Z = true) (w4 : (Cond.code y bytes' ml' ret').before a0 Z = true) (hy : y.cls ≠ "java/lang/invoke/MethodHandle" ∧ y.cls ≠ "java/lang/invoke/VarHandle") (E : Exa Z h a C)
    (hC : oCon Z y bytes' ml' ret' rm as h n0 Q') (hS : S = argsL.reverse ++ .ref a :: rest) (has : (.ref a :: argsL).toArray = as) (hpd : parseMethodDescriptor y.desc = some ⟨ps, rt⟩) (hlen : argsL.length = ps.length) (hL : L.size = ml) (hW : 2 * 0 + (rest.map fun v => v.category).sum ≤ W) (hf : rm.frames + 1 ≤ R.frames) (hl : W + (ml' + 11) + rm.locals ≤ R.locals) (hc : k + rm.cells ≤ R.cells) (hs : n + rm.slots ≤ R.slots)
    (K : ∀ v h', Q' v h' → oGo Z own nm bytes ml ret R n0 Q (k + rm.cells) (n + rm.slots) h' q L (v.toList ++ rest)) : oGo Z own nm bytes ml ret R n0 Q k n h pc L S :=
  fun p l e s m args below meth c T locs Cx X eT N => by
    obtain ⟨hx, hZ, hby, hml, hown, hrt, hlk, hnm⟩ := Cx
    subst hq
    obtain ⟨cq, q1, q2⟩ := E.cell
    have hpr := Cond.privateMethod_at (mvP hZ wp (args := #[]))
    have hin : (Cond.instanceMethod y).before args s = true := mvT hZ w2
    obtain ⟨ci, ki, i1, i2, -, i4, -, -⟩ := Cond.instantiable_spec (show (Cond.instantiable y.cls kk).before args s = true from mvT hZ wi)
    have hsel := selects_self_of_private (args := args) i1 i2 (by simp only [Bool.or_eq_false_iff] at i4; exact i4.1) hpr hin hy
    obtain ⟨v, _, ⟨T', L2, k2, n2⟩, -, X', ⟨Lc, hQ', l', y', z'⟩, st⟩ := X.privateBack hx (y := y) hown (mvT hZ w1) hin hsel hpr (mvT hZ w4) hy (backOf (W := W) (Q := fun v h' L => Q' v h' ∧ Fr n0 L) (hC l []) hZ w4 w3 hf hl) (g := mkF m pc L S) rfl (by rw [hml]; exact hL) (Steps.refl _) (a := a) (by rw [eT]; exact q1) q2 (argsL := argsL) (rest := rest) (lenOf hpd hlen) hS hW (hb hby hd) (fun _ _ => ⟨has, eT, hc, hs⟩)
    dsimp only [Pt.U, Pt.locs, Pt.cells, Pt.slots] at X' l' y' z' st hQ'
    subst l' y' z'
    obtain ⟨s₂, o, h1, r⟩ := K v T'.heap hQ'.1 p l e s m args below meth c T' _ ⟨hx, hZ, hby, hml, hown, hrt, hlk, hnm⟩ X' rfl (Fr.app N hQ'.2)
    exact ⟨s₂, o, st.trans h1, r⟩
/-! booleans -/
def own_b (b : Int32) (P : Prop) : Prop := (b = 1 ∧ P) ∨ (b = 0 ∧ ¬ P)
theorem own_b.t {P : Prop} (hp : P) : own_b 1 P := Or.inl ⟨rfl, hp⟩
theorem own_b.f {P : Prop} (hp : ¬ P) : own_b 0 P := Or.inr ⟨rfl, hp⟩
theorem own_b.z {b : Int32} {P : Prop} (u : own_b b P) (hb : b = 0) : ¬ P := by
  rcases u with ⟨rfl, _⟩ | ⟨_, u⟩
  · exact absurd hb (by decide)
  · exact u
theorem own_b.nz {b : Int32} {P : Prop} (u : own_b b P) (hb : b ≠ 0) : P := by
  rcases u with ⟨_, u⟩ | ⟨rfl, _⟩
  · exact u
  · exact absurd rfl hb
theorem own_b.nar {b : Int32} {P : Prop} (u : own_b b P) : nar .boolean b = b := by
  rcases u with ⟨rfl, _⟩ | ⟨rfl, _⟩ <;> rfl
theorem own_b.eq {b c : Int32} {P P' : Prop} (u : own_b b P) (v : own_b c P') (hp : P ↔ P') : b = c := by
  rcases u with ⟨rfl, u⟩ | ⟨rfl, u⟩ <;> rcases v with ⟨rfl, v⟩ | ⟨rfl, v⟩
  · rfl
  · exact absurd (hp.mp u) v
  · exact absurd (hp.mpr v) u
  · rfl
theorem own_b.is0 {b : Int32} {P : Prop} (u : own_b b P) (hp : ¬ P) : b = 0 := u.elim (fun z => absurd z.2 hp) (fun z => z.1)
theorem own_b.is1 {b : Int32} {P : Prop} (u : own_b b P) (hp : P) : b = 1 := u.elim (fun z => z.1) (fun z => absurd hp z.2)
theorem own_b.iff {b : Int32} {P P' : Prop} (u : own_b b P) (hp : P ↔ P') : own_b b P' := u.imp (fun z => ⟨z.1, hp.mp z.2⟩) (fun z => ⟨z.1, fun y => z.2 (hp.mpr y)⟩)
end Own
theorem d1_0 : decode prog_34_method_20_code 0 = .ok (.lconst 1, 1) := by decide +kernel
theorem d1_1 : decode prog_34_method_20_code 1 = .ok (.lstore 4, 2) := by decide +kernel
theorem d1_3 : decode prog_34_method_20_code 3 = .ok (.lconst 0, 1) := by decide +kernel
theorem d1_4 : decode prog_34_method_20_code 4 = .ok (.lstore 6, 2) := by decide +kernel
theorem d1_6 : decode prog_34_method_20_code 6 = .ok (.iconst 0, 1) := by decide +kernel
theorem d1_7 : decode prog_34_method_20_code 7 = .ok (.istore 8, 2) := by decide +kernel
theorem d1_9 : decode prog_34_method_20_code 9 = .ok (.iload 8, 2) := by decide +kernel
theorem d1_11 : decode prog_34_method_20_code 11 = .ok (.iload_n 3, 1) := by decide +kernel
theorem d1_12 : decode prog_34_method_20_code 12 = .ok (.if_icmp .ge 70, 3) := by decide +kernel
theorem d1_15 : decode prog_34_method_20_code 15 = .ok (.aload_n 0, 1) := by decide +kernel
theorem d1_16 : decode prog_34_method_20_code 16 = .ok (.iload_n 2, 1) := by decide +kernel
theorem d1_17 : decode prog_34_method_20_code 17 = .ok (.iload 8, 2) := by decide +kernel
theorem d1_19 : decode prog_34_method_20_code 19 = .ok (.iadd, 1) := by decide +kernel
theorem d1_20 : decode prog_34_method_20_code 20 = .ok (.laload, 1) := by decide +kernel
theorem d1_21 : decode prog_34_method_20_code 21 = .ok (.lstore 9, 2) := by decide +kernel
theorem d1_23 : decode prog_34_method_20_code 23 = .ok (.lload 9, 2) := by decide +kernel
theorem d1_25 : decode prog_34_method_20_code 25 = .ok (.iconst 1, 1) := by decide +kernel
theorem d1_26 : decode prog_34_method_20_code 26 = .ok (.lshl, 1) := by decide +kernel
theorem d1_27 : decode prog_34_method_20_code 27 = .ok (.lload 6, 2) := by decide +kernel
theorem d1_29 : decode prog_34_method_20_code 29 = .ok (.bipush 63, 2) := by decide +kernel
theorem d1_31 : decode prog_34_method_20_code 31 = .ok (.lushr, 1) := by decide +kernel
theorem d1_32 : decode prog_34_method_20_code 32 = .ok (.lor, 1) := by decide +kernel
theorem d1_33 : decode prog_34_method_20_code 33 = .ok (.lstore 11, 2) := by decide +kernel
theorem d1_35 : decode prog_34_method_20_code 35 = .ok (.lload 9, 2) := by decide +kernel
theorem d1_37 : decode prog_34_method_20_code 37 = .ok (.lstore 6, 2) := by decide +kernel
theorem d1_39 : decode prog_34_method_20_code 39 = .ok (.aload_n 0, 1) := by decide +kernel
theorem d1_40 : decode prog_34_method_20_code 40 = .ok (.iload_n 1, 1) := by decide +kernel
theorem d1_41 : decode prog_34_method_20_code 41 = .ok (.iload 8, 2) := by decide +kernel
theorem d1_43 : decode prog_34_method_20_code 43 = .ok (.iadd, 1) := by decide +kernel
theorem d1_44 : decode prog_34_method_20_code 44 = .ok (.laload, 1) := by decide +kernel
theorem d1_45 : decode prog_34_method_20_code 45 = .ok (.lstore 13, 2) := by decide +kernel
theorem d1_47 : decode prog_34_method_20_code 47 = .ok (.lload 13, 2) := by decide +kernel
theorem d1_49 : decode prog_34_method_20_code 49 = .ok (.lload 11, 2) := by decide +kernel
theorem d1_51 : decode prog_34_method_20_code 51 = .ok (.ladd, 1) := by decide +kernel
theorem d1_52 : decode prog_34_method_20_code 52 = .ok (.lload 4, 2) := by decide +kernel
theorem d1_54 : decode prog_34_method_20_code 54 = .ok (.ladd, 1) := by decide +kernel
theorem d1_55 : decode prog_34_method_20_code 55 = .ok (.lstore 15, 2) := by decide +kernel
theorem d1_57 : decode prog_34_method_20_code 57 = .ok (.aload_n 0, 1) := by decide +kernel
theorem d1_58 : decode prog_34_method_20_code 58 = .ok (.iload_n 1, 1) := by decide +kernel
theorem d1_59 : decode prog_34_method_20_code 59 = .ok (.iload 8, 2) := by decide +kernel
theorem d1_61 : decode prog_34_method_20_code 61 = .ok (.iadd, 1) := by decide +kernel
theorem d1_62 : decode prog_34_method_20_code 62 = .ok (.lload 15, 2) := by decide +kernel
theorem d1_64 : decode prog_34_method_20_code 64 = .ok (.lastore, 1) := by decide +kernel
theorem d1_65 : decode prog_34_method_20_code 65 = .ok (.lload 13, 2) := by decide +kernel
theorem d1_67 : decode prog_34_method_20_code 67 = .ok (.lload 11, 2) := by decide +kernel
theorem d1_69 : decode prog_34_method_20_code 69 = .ok (.lload 15, 2) := by decide +kernel
theorem d1_71 : decode prog_34_method_20_code 71 = .ok (.invokestatic 130, 3) := by decide +kernel
theorem d1_74 : decode prog_34_method_20_code 74 = .ok (.lstore 4, 2) := by decide +kernel
theorem d1_76 : decode prog_34_method_20_code 76 = .ok (.iinc 8 1, 3) := by decide +kernel
theorem d1_79 : decode prog_34_method_20_code 79 = .ok (.goto (-70), 3) := by decide +kernel
theorem d1_82 : decode prog_34_method_20_code 82 = .ok (.lload 4, 2) := by decide +kernel
theorem d1_84 : decode prog_34_method_20_code 84 = .ok (.lload 6, 2) := by decide +kernel
theorem d1_86 : decode prog_34_method_20_code 86 = .ok (.bipush 63, 2) := by decide +kernel
theorem d1_88 : decode prog_34_method_20_code 88 = .ok (.lushr, 1) := by decide +kernel
theorem d1_89 : decode prog_34_method_20_code 89 = .ok (.ladd, 1) := by decide +kernel
theorem d1_90 : decode prog_34_method_20_code 90 = .ok (.lreturn, 1) := by decide +kernel
theorem own_pd0 : parseMethodDescriptor "([JIII)J" = some ⟨[(.array .long), .int, .int, .int], some .long⟩ := by decide +kernel
theorem d2_0 : decode prog_34_method_23_code 0 = .ok (.lload_n 0, 1) := by decide +kernel
theorem d2_1 : decode prog_34_method_23_code 1 = .ok (.lload_n 2, 1) := by decide +kernel
theorem d2_2 : decode prog_34_method_23_code 2 = .ok (.land, 1) := by decide +kernel
theorem d2_3 : decode prog_34_method_23_code 3 = .ok (.lload_n 0, 1) := by decide +kernel
theorem d2_4 : decode prog_34_method_23_code 4 = .ok (.lload_n 2, 1) := by decide +kernel
theorem d2_5 : decode prog_34_method_23_code 5 = .ok (.lor, 1) := by decide +kernel
theorem d2_6 : decode prog_34_method_23_code 6 = .ok (.lload 4, 2) := by decide +kernel
theorem d2_8 : decode prog_34_method_23_code 8 = .ok (.ldc2_w 120, 3) := by decide +kernel
theorem d2_11 : decode prog_34_method_23_code 11 = .ok (.lxor, 1) := by decide +kernel
theorem d2_12 : decode prog_34_method_23_code 12 = .ok (.land, 1) := by decide +kernel
theorem d2_13 : decode prog_34_method_23_code 13 = .ok (.lor, 1) := by decide +kernel
theorem d2_14 : decode prog_34_method_23_code 14 = .ok (.bipush 63, 2) := by decide +kernel
theorem d2_16 : decode prog_34_method_23_code 16 = .ok (.lushr, 1) := by decide +kernel
theorem d2_17 : decode prog_34_method_23_code 17 = .ok (.lreturn, 1) := by decide +kernel
theorem own_pd1 : parseMethodDescriptor "(JJJ)J" = some ⟨[.long, .long, .long], some .long⟩ := by decide +kernel
theorem own_low63 (x : Int64) : (x ^^^ (-9223372036854775808 : Int64)) &&& (9223372036854775807 : Int64) = x &&& (9223372036854775807 : Int64) := by
  apply Int64.toBitVec_inj.mp
  simp only [Int64.toBitVec_and, Int64.toBitVec_xor]
  apply BitVec.eq_of_getLsbD_eq
  intro i hi
  have u : ∀ i, i < 64 → ((-9223372036854775808 : Int64).toBitVec.getLsbD i && (9223372036854775807 : Int64).toBitVec.getLsbD i) = false := by decide
  have v := u i hi
  simp only [BitVec.getLsbD_and, BitVec.getLsbD_xor]
  generalize x.toBitVec.getLsbD i = b1 at *
  generalize (-9223372036854775808 : Int64).toBitVec.getLsbD i = b2 at *
  generalize (9223372036854775807 : Int64).toBitVec.getLsbD i = b3 at *
  cases b1 <;> cases b2 <;> cases b3 <;> simp_all
theorem own_flip (x : Int64) : (0 ≤ x.toInt → (x ^^^ (-9223372036854775808 : Int64)).toInt = x.toInt - 9223372036854775808) ∧ (x.toInt < 0 → (x ^^^ (-9223372036854775808 : Int64)).toInt = x.toInt + 9223372036854775808) := by
  have a := congrArg Int64.toInt (own_low63 x)
  rw [c_maskL _ (9223372036854775807 : Int64) 63 (by decide) (by decide), c_maskL _ (9223372036854775807 : Int64) 63 (by decide) (by decide)] at a
  have p : ((2 ^ 63 : Nat) : Int) = 9223372036854775808 := by decide
  rw [p] at a
  have s := c_xorSL x (-9223372036854775808 : Int64)
  have e0 : (-9223372036854775808 : Int64).toInt = -9223372036854775808 := by decide
  have r1 := rng64 x
  have r2 := rng64 (x ^^^ (-9223372036854775808 : Int64))
  constructor <;> intro h0 <;> omega
theorem own_not64 (x : Int64) : (x ^^^ (-1 : Int64)).toInt = -x.toInt - 1 := by
  have e : x ^^^ (-1 : Int64) = ~~~x := by
    apply Int64.toBitVec_inj.mp
    show x.toBitVec ^^^ BitVec.allOnes 64 = ~~~x.toBitVec
    exact BitVec.xor_allOnes
  rw [e, Int64.not_eq_neg_sub]
  have a := c_lneg x
  have b := c_lsub (-x) 1
  have z : (1 : Int64).toInt = 1 := by decide
  have r := rng64 (-x - 1)
  have r2 := rng64 x
  omega
def own_top (s : Int64) : Int64 := (s.toUInt64 >>> ((63 : Int32) &&& 0x3f).toInt64.toUInt64).toInt64
def own_dbl (s p : Int64) : Int64 := (s <<< ((1 : Int32) &&& 0x3f).toInt64) ||| own_top p
def own_car (a d y : Int64) : Int64 := (((a &&& d) ||| ((a ||| d) &&& (y ^^^ (-1 : Int64)))).toUInt64 >>> ((63 : Int32) &&& 0x3f).toInt64.toUInt64).toInt64
def own_sh (t : Int64) : Int64 := (t.toUInt64 >>> ((32 : Int32) &&& 0x3f).toInt64.toUInt64).toInt64
def own_lo (a s c : Int64) : Int64 := ((a &&& (4294967295 : Int64)) + ((2 : Int64) * (s &&& (4294967295 : Int64)))) + c
def own_hi (a s t : Int64) : Int64 := (own_sh a + ((2 : Int64) * own_sh s)) + own_sh t
def own_cmb (t u : Int64) : Int64 := (t &&& (4294967295 : Int64)) ||| (u <<< ((32 : Int32) &&& 0x3f).toInt64)
theorem own_top_v (s : Int64) : (s.toInt < 0 → (own_top s).toInt = 1) ∧ (0 ≤ s.toInt → (own_top s).toInt = 0) := by
  have a := c_lushr s 63 63 (by decide) (by decide)
  have p : ((2 ^ 63 : Nat) : Int) = 9223372036854775808 := by decide
  rw [p] at a
  have r := rng64 s
  unfold own_top
  constructor <;> intro h <;> omega
theorem own_dbl_v (s p : Int64) : ((own_dbl s p).toInt - (2 * s.toInt + (own_top p).toInt)) % 18446744073709551616 = 0 := by
  have a := c_lshl s 1 1 (by decide)
  have q : ((2 ^ 1 : Nat) : Int) = 2 := by decide
  rw [q] at a
  have t := own_top_v p
  have r := rng64 (s <<< ((1 : Int32) &&& 0x3f).toInt64)
  have o := c_orL (s <<< ((1 : Int32) &&& 0x3f).toInt64) (own_top p) 1 (by decide) 2 (by decide) (by omega) (by omega) (by omega)
  unfold own_dbl
  omega
theorem own_car_v (a d y : Int64) : (a.toInt < 0 ∧ d.toInt < 0 ∨ (a.toInt < 0 ∨ d.toInt < 0) ∧ 0 ≤ y.toInt → (own_car a d y).toInt = 1) ∧ (¬ (a.toInt < 0 ∧ d.toInt < 0 ∨ (a.toInt < 0 ∨ d.toInt < 0) ∧ 0 ≤ y.toInt) → (own_car a d y).toInt = 0) := by
  have e1 : (-1 : Int64).toInt = -1 := by decide
  have a1 := c_xorSL y (-1)
  have a2 := c_andSL a d
  have a3 := c_orSL a d
  have a4 := c_andSL (a ||| d) (y ^^^ (-1 : Int64))
  have a5 := c_orSL (a &&& d) ((a ||| d) &&& (y ^^^ (-1 : Int64)))
  have a6 := own_top_v ((a &&& d) ||| ((a ||| d) &&& (y ^^^ (-1 : Int64))))
  unfold own_top at a6
  unfold own_car
  constructor <;> intro h <;> omega
theorem own_sh_v (t : Int64) : (own_sh t).toInt = (t.toInt % 18446744073709551616) / 4294967296 := by
  have a := c_lushr t 32 32 (by decide) (by decide)
  have p : ((2 ^ 32 : Nat) : Int) = 4294967296 := by decide
  rw [p] at a
  exact a
theorem own_key {A S c t u : Int} (ht : t = A % 4294967296 + 2 * (S % 4294967296) + c) (hu : u = A / 4294967296 + 2 * (S / 4294967296) + t / 4294967296) : A + 2 * S + c = 4294967296 * u + t % 4294967296 := by omega
theorem own_div {u r : Int} (h0 : 0 ≤ r) (h1 : r < 4294967296) : (4294967296 * u + r) / 18446744073709551616 = u / 4294967296 := by omega
theorem own_col (a s c : Int64) (h0 : 0 ≤ c.toInt) (h2 : c.toInt ≤ 2) :
    ((own_cmb (own_lo a s c) (own_hi a s (own_lo a s c))).toInt - (a.toInt % 18446744073709551616 + 2 * (s.toInt % 18446744073709551616) + c.toInt)) % 18446744073709551616 = 0 ∧
    (own_sh (own_hi a s (own_lo a s c))).toInt = (a.toInt % 18446744073709551616 + 2 * (s.toInt % 18446744073709551616) + c.toInt) / 18446744073709551616 := by
  have z2 : (2 : Int64).toInt = 2 := by decide
  have p : ((2 ^ 32 : Nat) : Int) = 4294967296 := by decide
  have m1 := c_maskL a (4294967295 : Int64) 32 (by decide) (by decide)
  have m2 := c_maskL s (4294967295 : Int64) 32 (by decide) (by decide)
  rw [p] at m1 m2
  have l : (own_lo a s c).toInt = a.toInt % 4294967296 + 2 * (s.toInt % 4294967296) + c.toInt := by
    have b1 := c_lmul (2 : Int64) (s &&& (4294967295 : Int64))
    rw [z2] at b1
    have b2 := c_ladd (a &&& (4294967295 : Int64)) ((2 : Int64) * (s &&& (4294967295 : Int64)))
    have b3 := c_ladd ((a &&& (4294967295 : Int64)) + ((2 : Int64) * (s &&& (4294967295 : Int64)))) c
    have r1 := rng64 ((2 : Int64) * (s &&& (4294967295 : Int64)))
    have r2 := rng64 ((a &&& (4294967295 : Int64)) + ((2 : Int64) * (s &&& (4294967295 : Int64))))
    have r3 := rng64 (((a &&& (4294967295 : Int64)) + ((2 : Int64) * (s &&& (4294967295 : Int64)))) + c)
    unfold own_lo
    omega
  generalize own_lo a s c = t at *
  obtain ⟨A, hA⟩ : ∃ A, A = a.toInt % 18446744073709551616 := ⟨_, rfl⟩
  obtain ⟨S, hS⟩ : ∃ S, S = s.toInt % 18446744073709551616 := ⟨_, rfl⟩
  have l' : t.toInt = A % 4294967296 + 2 * (S % 4294967296) + c.toInt := by
    have e1 : a.toInt % 4294967296 = A % 4294967296 := by omega
    have e2 : s.toInt % 4294967296 = S % 4294967296 := by omega
    rw [l, e1, e2]
  have bA : 0 ≤ A ∧ A < 18446744073709551616 := by omega
  have bS : 0 ≤ S ∧ S < 18446744073709551616 := by omega
  rw [← hA, ← hS]
  clear l m1 m2
  have s1 := own_sh_v a
  have s2 := own_sh_v s
  have s3 : (own_sh t).toInt = t.toInt / 4294967296 := by rw [own_sh_v t]; omega
  rw [← hA] at s1
  rw [← hS] at s2
  clear hA hS
  have hh : (own_hi a s t).toInt = (own_sh a).toInt + 2 * (own_sh s).toInt + (own_sh t).toInt := by
    have b1 := c_lmul (2 : Int64) (own_sh s)
    rw [z2] at b1
    have b2 := c_ladd (own_sh a) ((2 : Int64) * own_sh s)
    have b3 := c_ladd (own_sh a + ((2 : Int64) * own_sh s)) (own_sh t)
    have r1 := rng64 ((2 : Int64) * own_sh s)
    have r2 := rng64 (own_sh a + ((2 : Int64) * own_sh s))
    have r3 := rng64 ((own_sh a + ((2 : Int64) * own_sh s)) + own_sh t)
    unfold own_hi
    omega
  generalize own_hi a s t = u at *
  rw [s1, s2, s3] at hh
  have key := own_key l' hh
  have s4 : (own_sh u).toInt = u.toInt / 4294967296 := by rw [own_sh_v u]; omega
  rw [key, s4]
  have m3 := c_maskL t (4294967295 : Int64) 32 (by decide) (by decide)
  rw [p] at m3
  have sl := c_lshl u 32 32 (by decide)
  rw [p] at sl
  have r4 := rng64 (u <<< ((32 : Int32) &&& 0x3f).toInt64)
  have o := c_orL' (t &&& (4294967295 : Int64)) (u <<< ((32 : Int32) &&& 0x3f).toInt64) 32 (by decide) 4294967296 (by decide) (by omega) (by omega) (by omega)
  unfold own_cmb
  refine ⟨?_, (own_div (by omega) (by omega)).symm⟩
  clear key hh l' s1 s2 s3 s4
  omega
def own_y (a s p c : Int64) : Int64 := (a + own_dbl s p) + c
/-- one turn: the word and the carry, as integers -/
theorem own_turn (a s p c : Int64) (h0 : c.toInt = 0 ∨ c.toInt = 1) :
    ((own_y a s p c).toInt - (a.toInt + 2 * s.toInt + (own_top p).toInt + c.toInt)) % 18446744073709551616 = 0 ∧
    (own_car a (own_dbl s p) (own_y a s p c)).toInt + (own_top s).toInt = (a.toInt % 18446744073709551616 + 2 * (s.toInt % 18446744073709551616) + (own_top p).toInt + c.toInt) / 18446744073709551616 ∧
    ((own_car a (own_dbl s p) (own_y a s p c)).toInt = 0 ∨ (own_car a (own_dbl s p) (own_y a s p c)).toInt = 1) := by
  have d := own_dbl_v s p
  have t1 := own_top_v s
  have t2 := own_top_v p
  have b2 := c_ladd a (own_dbl s p)
  have b3 := c_ladd (a + own_dbl s p) c
  have r1 := rng64 a
  have r2 := rng64 s
  have r3 := rng64 (own_dbl s p)
  have r4 := rng64 (a + own_dbl s p)
  have r5 := rng64 ((a + own_dbl s p) + c)
  have r6 := rng64 p
  have k := own_car_v a (own_dbl s p) (own_y a s p c)
  unfold own_y at *
  generalize own_dbl s p = dd at *
  generalize (a + dd) + c = yy at *
  refine ⟨by omega, ?_, ?_⟩ <;> omega
def own_res (n : Nat) (a0 a1 s0 s1 r y0 y1 : Int64) : Prop :=
  (n = 0 → r = 1 ∧ y0 = a0 ∧ y1 = a1) ∧
  (n = 1 → r = own_sh (own_hi a0 s0 (own_lo a0 s0 1)) ∧ y0 = own_cmb (own_lo a0 s0 1) (own_hi a0 s0 (own_lo a0 s0 1)) ∧ y1 = a1) ∧
  (n = 2 → r = own_sh (own_hi a1 s1 (own_lo a1 s1 (own_sh (own_hi a0 s0 (own_lo a0 s0 1))))) ∧ y0 = own_cmb (own_lo a0 s0 1) (own_hi a0 s0 (own_lo a0 s0 1)) ∧ y1 = own_cmb (own_lo a1 s1 (own_sh (own_hi a0 s0 (own_lo a0 s0 1)))) (own_hi a1 s1 (own_lo a1 s1 (own_sh (own_hi a0 s0 (own_lo a0 s0 1))))))
theorem own_e64 {u v : Int64} (h : (u.toInt - v.toInt) % 18446744073709551616 = 0) : u = v := by
  have r1 := rng64 u
  have r2 := rng64 v
  exact own_int64 (by omega)
theorem own_r0 (a0 a1 s0 s1 : Int64) : own_res 0 a0 a1 s0 s1 ((1 : Int64) + own_top 0) a0 a1 := by
  have e : (1 : Int64) + own_top 0 = 1 := by decide
  unfold own_res; rw [e]; simp
theorem own_r1 (a0 a1 s0 s1 : Int64) : own_res 1 a0 a1 s0 s1 (own_car a0 (own_dbl s0 0) (own_y a0 s0 0 1) + own_top s0) (own_y a0 s0 0 1) a1 := by
  have z1 : (1 : Int64).toInt = 1 := by decide
  have zt : (own_top 0).toInt = 0 := by decide
  have c := own_col a0 s0 1 (by omega) (by omega)
  have t := own_turn a0 s0 0 1 (by omega)
  have ad := c_ladd (own_car a0 (own_dbl s0 0) (own_y a0 s0 0 1)) (own_top s0)
  have r := rng64 (own_car a0 (own_dbl s0 0) (own_y a0 s0 0 1) + own_top s0)
  have tp := own_top_v s0
  refine ⟨fun e => absurd e (by decide), fun _ => ⟨?_, ?_, rfl⟩, fun e => absurd e (by decide)⟩
  · apply own_int64; omega
  · apply own_e64; omega
theorem own_r2 (a0 a1 s0 s1 : Int64) : own_res 2 a0 a1 s0 s1 (own_car a1 (own_dbl s1 s0) (own_y a1 s1 s0 (own_car a0 (own_dbl s0 0) (own_y a0 s0 0 1))) + own_top s1) (own_y a0 s0 0 1) (own_y a1 s1 s0 (own_car a0 (own_dbl s0 0) (own_y a0 s0 0 1))) := by
  have z1 : (1 : Int64).toInt = 1 := by decide
  have zt : (own_top 0).toInt = 0 := by decide
  have c := own_col a0 s0 1 (by omega) (by omega)
  have t := own_turn a0 s0 0 1 (by omega)
  have tp := own_top_v s0
  have tp1 := own_top_v s1
  have t' := own_turn a1 s1 s0 (own_car a0 (own_dbl s0 0) (own_y a0 s0 0 1)) t.2.2
  have c' := own_col a1 s1 (own_sh (own_hi a0 s0 (own_lo a0 s0 1))) (by omega) (by omega)
  have ad := c_ladd (own_car a1 (own_dbl s1 s0) (own_y a1 s1 s0 (own_car a0 (own_dbl s0 0) (own_y a0 s0 0 1)))) (own_top s1)
  have r := rng64 (own_car a1 (own_dbl s1 s0) (own_y a1 s1 s0 (own_car a0 (own_dbl s0 0) (own_y a0 s0 0 1))) + own_top s1)
  refine ⟨fun e => absurd e (by decide), fun e => absurd e (by decide), fun _ => ⟨?_, ?_, ?_⟩⟩
  · apply own_int64; omega
  · apply own_e64; omega
  · apply own_e64; omega
theorem own_ef2 (m : MethodId) (x0 : Int64) (x1 : Int64) (x2 : Int64) : entryFrame m #[(.long x0), (.long x1), (.long x2)] 6 = mkF m 0 #[.val (.long x0), .second, .val (.long x1), .second, .val (.long x2), .second] [] := by first | (simp [entryFrame, mkF, argsToLocals, Value.category]; done) | rfl
theorem own_pn2 : plainFor (⟨"example/rootwise/internal/Naturals", "carry", "(JJJ)J"⟩ : MethodName) = true := plainFor_of_name (by first | (simp [plainName, overriddenIn]; done) | decide +kernel)
set_option maxRecDepth 65536 in
set_option maxHeartbeats 40000000 in
theorem cc {Z : State} {a0 : Array Value} (hw : ∀ d ∈ tables_1, d.before a0 Z = true) (u v r : Int64) (h : Heap) (n0 : Nat) :
    oCon Z (⟨"example/rootwise/internal/Naturals", "carry", "(JJJ)J"⟩ : MethodName) prog_34_method_23_code 6 (some .long) ({ frames := 0, cells := 0, slots := 0, locals := 0 } : Room) #[(.long u), (.long v), (.long r)] h n0 (fun z h' => z = some (.long (own_car u v r)) ∧ h' = h) := by
  refine oCon.of own_pn2 (fun m => own_ef2 m u v r) ?_
  show oGo Z _ _ _ _ _ _ n0 _ 0 0 h 0 #[.val (.long u), .second, .val (.long v), .second, .val (.long r), .second] []
  refine oGo.lloadN (q := 1) d2_0 rfl rfl ?_
  refine oGo.lloadN (q := 2) d2_1 rfl rfl ?_
  refine oGo.land (q := 3) d2_2 rfl ?_
  refine oGo.lloadN (q := 4) d2_3 rfl rfl ?_
  refine oGo.lloadN (q := 5) d2_4 rfl rfl ?_
  refine oGo.lor (q := 6) d2_5 rfl ?_
  refine oGo.lload (q := 8) d2_6 rfl rfl ?_
  refine oGo.ldc2 (q := 11) (v := (-1 : Int64)) d2_8 rfl (hw _ (List.mem_of_getElem? (i := 10) rfl)) ?_
  refine oGo.lxor (q := 12) d2_11 rfl ?_
  refine oGo.land (q := 13) d2_12 rfl ?_
  refine oGo.lor (q := 14) d2_13 rfl ?_
  refine oGo.bipush (q := 16) (v := (63 : Int32)) d2_14 rfl rfl ?_
  refine oGo.lushr (q := 17) d2_16 rfl ?_
  exact oGo.retJ d2_17 rfl (by decide) (by decide) (⟨rfl, rfl⟩)
theorem own_ef1 (m : MethodId) (x0 : Addr) (x1 : Int32) (x2 : Int32) (x3 : Int32) : entryFrame m #[(.ref x0), (.int x1), (.int x2), (.int x3)] 17 = mkF m 0 #[.val (.ref x0), .val (.int x1), .val (.int x2), .val (.int x3), .unset, .unset, .unset, .unset, .unset, .unset, .unset, .unset, .unset, .unset, .unset, .unset, .unset] [] := by first | (simp [entryFrame, mkF, argsToLocals, Value.category]; done) | rfl
theorem own_pn1 : plainFor (⟨"example/rootwise/internal/Naturals", "addTwicePlusOne", "([JIII)J"⟩ : MethodName) = true := plainFor_of_name (by first | (simp [plainName, overriddenIn]; done) | decide +kernel)
set_option maxRecDepth 65536 in
set_option maxHeartbeats 40000000 in
theorem ca0 {Z : State} {a0 : Array Value} (hw : ∀ d ∈ tables_1, d.before a0 Z = true) (a : Addr) (n : Nat) (a0 a1 s0 s1 : Int64) (h : Heap) (n0 : Nat) (hn : n ≤ 2) (ga : n0 ≤ a) (A : Ars Z h a .long [(.long a0), (.long a1), (.long s0), (.long s1)]) :
    oCon Z (⟨"example/rootwise/internal/Naturals", "addTwicePlusOne", "([JIII)J"⟩ : MethodName) prog_34_method_20_code 17 (some .long) ({ frames := 1, cells := 0, slots := 0, locals := 17 } : Room) #[(.ref a), (.int (0 : Int32)), (.int (2 : Int32)), (.int (Int32.ofNat n))] h n0 (fun v h' => ∃ r y0 y1, v = some (.long r) ∧ Keep h h' [a] ∧ Ars Z h' a .long [(.long y0), (.long y1), (.long s0), (.long s1)] ∧ own_res n a0 a1 s0 s1 r y0 y1) := by
  refine oCon.of own_pn1 (fun m => own_ef1 m a (0 : Int32) (2 : Int32) (Int32.ofNat n)) ?_
  show oGo Z _ _ _ _ _ _ n0 _ 0 0 h 0 #[.val (.ref a), .val (.int (0 : Int32)), .val (.int (2 : Int32)), .val (.int (Int32.ofNat n)), .unset, .unset, .unset, .unset, .unset, .unset, .unset, .unset, .unset, .unset, .unset, .unset, .unset] []
  refine oGo.lconst (q := 1) (v := (1 : Int64)) d1_0 rfl rfl ?_
  refine oGo.lstore (q := 3) (L' := #[.val (.ref a), .val (.int (0 : Int32)), .val (.int (2 : Int32)), .val (.int (Int32.ofNat n)), .val (.long (1 : Int64)), .second, .unset, .unset, .unset, .unset, .unset, .unset, .unset, .unset, .unset, .unset, .unset]) d1_1 rfl rfl ?_
  refine oGo.lconst (q := 4) (v := (0 : Int64)) d1_3 rfl rfl ?_
  refine oGo.lstore (q := 6) (L' := #[.val (.ref a), .val (.int (0 : Int32)), .val (.int (2 : Int32)), .val (.int (Int32.ofNat n)), .val (.long (1 : Int64)), .second, .val (.long (0 : Int64)), .second, .unset, .unset, .unset, .unset, .unset, .unset, .unset, .unset, .unset]) d1_4 rfl rfl ?_
  refine oGo.iconst (q := 7) (v := (0 : Int32)) d1_6 rfl rfl ?_
  refine oGo.istore (q := 9) (L' := #[.val (.ref a), .val (.int (0 : Int32)), .val (.int (2 : Int32)), .val (.int (Int32.ofNat n)), .val (.long (1 : Int64)), .second, .val (.long (0 : Int64)), .second, .val (.int (0 : Int32)), .unset, .unset, .unset, .unset, .unset, .unset, .unset, .unset]) d1_7 rfl rfl ?_
  obtain rfl | rfl | rfl : n = 0 ∨ n = 1 ∨ n = 2 := by omega
  · skip -- n = 0
    refine oGo.iload (q := 11) d1_9 rfl rfl ?_
    refine oGo.iloadN (q := 12) d1_11 rfl rfl ?_
    refine oGo.icmp_ge (q := 82) (r := 15) d1_12 (by decide) rfl (fun hc => ?_) (fun hc => absurd hc (by decide))
    refine oGo.lload (q := 84) d1_82 rfl rfl ?_
    refine oGo.lload (q := 86) d1_84 rfl rfl ?_
    refine oGo.bipush (q := 88) (v := (63 : Int32)) d1_86 rfl rfl ?_
    refine oGo.lushr (q := 89) d1_88 rfl ?_
    refine oGo.ladd (q := 90) d1_89 rfl ?_
    exact oGo.retJ d1_90 rfl (by decide) (by decide) (⟨((1 : Int64) + own_top (0 : Int64)), a0, a1, rfl, (Keep.refl h [a]), A, own_r0 a0 a1 s0 s1⟩)
  · skip -- n = 1
    refine oGo.iload (q := 11) d1_9 rfl rfl ?_
    refine oGo.iloadN (q := 12) d1_11 rfl rfl ?_
    refine oGo.icmp_ge (q := 82) (r := 15) d1_12 (by decide) rfl (fun hc => absurd hc (by decide)) (fun hc => ?_)
    refine oGo.aloadN (q := 16) d1_15 rfl rfl rfl ?_
    refine oGo.iloadN (q := 17) d1_16 rfl rfl ?_
    refine oGo.iload (q := 19) d1_17 rfl rfl ?_
    refine oGo.iadd (q := 20) d1_19 rfl ?_
    refine oGo.laload (q := 21) (i := 2) (v := (.long s0)) d1_20 rfl A (by decide) rfl ?_
    refine oGo.lstore (q := 23) (L' := #[.val (.ref a), .val (.int (0 : Int32)), .val (.int (2 : Int32)), .val (.int (Int32.ofNat 1)), .val (.long (1 : Int64)), .second, .val (.long (0 : Int64)), .second, .val (.int (0 : Int32)), .val (.long s0), .second, .unset, .unset, .unset, .unset, .unset, .unset]) d1_21 rfl rfl ?_
    refine oGo.lload (q := 25) d1_23 rfl rfl ?_
    refine oGo.iconst (q := 26) (v := (1 : Int32)) d1_25 rfl rfl ?_
    refine oGo.lshl (q := 27) d1_26 rfl ?_
    refine oGo.lload (q := 29) d1_27 rfl rfl ?_
    refine oGo.bipush (q := 31) (v := (63 : Int32)) d1_29 rfl rfl ?_
    refine oGo.lushr (q := 32) d1_31 rfl ?_
    refine oGo.lor (q := 33) d1_32 rfl ?_
    refine oGo.lstore (q := 35) (L' := #[.val (.ref a), .val (.int (0 : Int32)), .val (.int (2 : Int32)), .val (.int (Int32.ofNat 1)), .val (.long (1 : Int64)), .second, .val (.long (0 : Int64)), .second, .val (.int (0 : Int32)), .val (.long s0), .second, .val (.long (own_dbl s0 (0 : Int64))), .second, .unset, .unset, .unset, .unset]) d1_33 rfl rfl ?_
    refine oGo.lload (q := 37) d1_35 rfl rfl ?_
    refine oGo.lstore (q := 39) (L' := #[.val (.ref a), .val (.int (0 : Int32)), .val (.int (2 : Int32)), .val (.int (Int32.ofNat 1)), .val (.long (1 : Int64)), .second, .val (.long s0), .second, .val (.int (0 : Int32)), .val (.long s0), .second, .val (.long (own_dbl s0 (0 : Int64))), .second, .unset, .unset, .unset, .unset]) d1_37 rfl rfl ?_
    refine oGo.aloadN (q := 40) d1_39 rfl rfl rfl ?_
    refine oGo.iloadN (q := 41) d1_40 rfl rfl ?_
    refine oGo.iload (q := 43) d1_41 rfl rfl ?_
    refine oGo.iadd (q := 44) d1_43 rfl ?_
    refine oGo.laload (q := 45) (i := 0) (v := (.long a0)) d1_44 rfl A (by decide) rfl ?_
    refine oGo.lstore (q := 47) (L' := #[.val (.ref a), .val (.int (0 : Int32)), .val (.int (2 : Int32)), .val (.int (Int32.ofNat 1)), .val (.long (1 : Int64)), .second, .val (.long s0), .second, .val (.int (0 : Int32)), .val (.long s0), .second, .val (.long (own_dbl s0 (0 : Int64))), .second, .val (.long a0), .second, .unset, .unset]) d1_45 rfl rfl ?_
    refine oGo.lload (q := 49) d1_47 rfl rfl ?_
    refine oGo.lload (q := 51) d1_49 rfl rfl ?_
    refine oGo.ladd (q := 52) d1_51 rfl ?_
    refine oGo.lload (q := 54) d1_52 rfl rfl ?_
    refine oGo.ladd (q := 55) d1_54 rfl ?_
    refine oGo.lstore (q := 57) (L' := #[.val (.ref a), .val (.int (0 : Int32)), .val (.int (2 : Int32)), .val (.int (Int32.ofNat 1)), .val (.long (1 : Int64)), .second, .val (.long s0), .second, .val (.int (0 : Int32)), .val (.long s0), .second, .val (.long (own_dbl s0 (0 : Int64))), .second, .val (.long a0), .second, .val (.long (own_y a0 s0 (0 : Int64) (1 : Int64))), .second]) d1_55 rfl rfl ?_
    refine oGo.aloadN (q := 58) d1_57 rfl rfl rfl ?_
    refine oGo.iloadN (q := 59) d1_58 rfl rfl ?_
    refine oGo.iload (q := 61) d1_59 rfl rfl ?_
    refine oGo.iadd (q := 62) d1_61 rfl ?_
    refine oGo.lload (q := 64) d1_62 rfl rfl ?_
    refine oGo.lastore (q := 65) (i := 0) d1_64 rfl A (by decide) (Nat.le_of_ble_eq_true rfl) ga ?_
    intro h1 K1 A1
    replace A1 : Ars Z h1 a .long [(.long (own_y a0 s0 (0 : Int64) (1 : Int64))), (.long a1), (.long s0), (.long s1)] := A1
    show oGo Z _ _ _ _ _ _ n0 _ 0 0 h1 65 #[.val (.ref a), .val (.int (0 : Int32)), .val (.int (2 : Int32)), .val (.int (Int32.ofNat 1)), .val (.long (1 : Int64)), .second, .val (.long s0), .second, .val (.int (0 : Int32)), .val (.long s0), .second, .val (.long (own_dbl s0 (0 : Int64))), .second, .val (.long a0), .second, .val (.long (own_y a0 s0 (0 : Int64) (1 : Int64))), .second] []
    refine oGo.lload (q := 67) d1_65 rfl rfl ?_
    refine oGo.lload (q := 69) d1_67 rfl rfl ?_
    refine oGo.lload (q := 71) d1_69 rfl rfl ?_
    refine oGo.callS (W := 0) (rm := ({ frames := 0, cells := 0, slots := 0, locals := 0 } : Room)) (q := 74) [(.long a0), (.long (own_dbl s0 (0 : Int64))), (.long (own_y a0 s0 (0 : Int64) (1 : Int64)))] [] d1_71 rfl (hw _ (List.mem_of_getElem? (i := 7) rfl)) (hw _ (List.mem_of_getElem? (i := 8) rfl)) (hw _ (List.mem_of_getElem? (i := 4) rfl)) (hw _ (List.mem_of_getElem? (i := 9) rfl)) (by decide) (cc hw a0 (own_dbl s0 (0 : Int64)) (own_y a0 s0 (0 : Int64) (1 : Int64)) h1 n0) rfl rfl own_pd1 rfl rfl (Nat.le_of_eq rfl) (by decide) (by decide) (by decide) (by decide) ?_
    rintro _ h2 ⟨rfl, eh⟩
    all_goals subst h2
    show oGo Z _ _ _ _ _ _ n0 _ 0 0 h1 74 #[.val (.ref a), .val (.int (0 : Int32)), .val (.int (2 : Int32)), .val (.int (Int32.ofNat 1)), .val (.long (1 : Int64)), .second, .val (.long s0), .second, .val (.int (0 : Int32)), .val (.long s0), .second, .val (.long (own_dbl s0 (0 : Int64))), .second, .val (.long a0), .second, .val (.long (own_y a0 s0 (0 : Int64) (1 : Int64))), .second] [(.long (own_car a0 (own_dbl s0 (0 : Int64)) (own_y a0 s0 (0 : Int64) (1 : Int64))))]
    refine oGo.lstore (q := 76) (L' := #[.val (.ref a), .val (.int (0 : Int32)), .val (.int (2 : Int32)), .val (.int (Int32.ofNat 1)), .val (.long (own_car a0 (own_dbl s0 (0 : Int64)) (own_y a0 s0 (0 : Int64) (1 : Int64)))), .second, .val (.long s0), .second, .val (.int (0 : Int32)), .val (.long s0), .second, .val (.long (own_dbl s0 (0 : Int64))), .second, .val (.long a0), .second, .val (.long (own_y a0 s0 (0 : Int64) (1 : Int64))), .second]) d1_74 rfl rfl ?_
    refine oGo.iinc (q := 79) (v := (1 : Int32)) (L' := #[.val (.ref a), .val (.int (0 : Int32)), .val (.int (2 : Int32)), .val (.int (Int32.ofNat 1)), .val (.long (own_car a0 (own_dbl s0 (0 : Int64)) (own_y a0 s0 (0 : Int64) (1 : Int64)))), .second, .val (.long s0), .second, .val (.int (1 : Int32)), .val (.long s0), .second, .val (.long (own_dbl s0 (0 : Int64))), .second, .val (.long a0), .second, .val (.long (own_y a0 s0 (0 : Int64) (1 : Int64))), .second]) d1_76 rfl rfl (by decide) rfl ?_
    refine oGo.goto (q := 9) d1_79 (by decide) ?_
    refine oGo.iload (q := 11) d1_9 rfl rfl ?_
    refine oGo.iloadN (q := 12) d1_11 rfl rfl ?_
    refine oGo.icmp_ge (q := 82) (r := 15) d1_12 (by decide) rfl (fun hc => ?_) (fun hc => absurd hc (by decide))
    refine oGo.lload (q := 84) d1_82 rfl rfl ?_
    refine oGo.lload (q := 86) d1_84 rfl rfl ?_
    refine oGo.bipush (q := 88) (v := (63 : Int32)) d1_86 rfl rfl ?_
    refine oGo.lushr (q := 89) d1_88 rfl ?_
    refine oGo.ladd (q := 90) d1_89 rfl ?_
    exact oGo.retJ d1_90 rfl (by decide) (by decide) (⟨((own_car a0 (own_dbl s0 (0 : Int64)) (own_y a0 s0 (0 : Int64) (1 : Int64))) + own_top s0), (own_y a0 s0 (0 : Int64) (1 : Int64)), a1, rfl, (Keep.trans (Keep.refl h [a]) K1 (fun x hx => Or.inl hx)), A1, own_r1 a0 a1 s0 s1⟩)
  · skip -- n = 2
    refine oGo.iload (q := 11) d1_9 rfl rfl ?_
    refine oGo.iloadN (q := 12) d1_11 rfl rfl ?_
    refine oGo.icmp_ge (q := 82) (r := 15) d1_12 (by decide) rfl (fun hc => absurd hc (by decide)) (fun hc => ?_)
    refine oGo.aloadN (q := 16) d1_15 rfl rfl rfl ?_
    refine oGo.iloadN (q := 17) d1_16 rfl rfl ?_
    refine oGo.iload (q := 19) d1_17 rfl rfl ?_
    refine oGo.iadd (q := 20) d1_19 rfl ?_
    refine oGo.laload (q := 21) (i := 2) (v := (.long s0)) d1_20 rfl A (by decide) rfl ?_
    refine oGo.lstore (q := 23) (L' := #[.val (.ref a), .val (.int (0 : Int32)), .val (.int (2 : Int32)), .val (.int (Int32.ofNat 2)), .val (.long (1 : Int64)), .second, .val (.long (0 : Int64)), .second, .val (.int (0 : Int32)), .val (.long s0), .second, .unset, .unset, .unset, .unset, .unset, .unset]) d1_21 rfl rfl ?_
    refine oGo.lload (q := 25) d1_23 rfl rfl ?_
    refine oGo.iconst (q := 26) (v := (1 : Int32)) d1_25 rfl rfl ?_
    refine oGo.lshl (q := 27) d1_26 rfl ?_
    refine oGo.lload (q := 29) d1_27 rfl rfl ?_
    refine oGo.bipush (q := 31) (v := (63 : Int32)) d1_29 rfl rfl ?_
    refine oGo.lushr (q := 32) d1_31 rfl ?_
    refine oGo.lor (q := 33) d1_32 rfl ?_
    refine oGo.lstore (q := 35) (L' := #[.val (.ref a), .val (.int (0 : Int32)), .val (.int (2 : Int32)), .val (.int (Int32.ofNat 2)), .val (.long (1 : Int64)), .second, .val (.long (0 : Int64)), .second, .val (.int (0 : Int32)), .val (.long s0), .second, .val (.long (own_dbl s0 (0 : Int64))), .second, .unset, .unset, .unset, .unset]) d1_33 rfl rfl ?_
    refine oGo.lload (q := 37) d1_35 rfl rfl ?_
    refine oGo.lstore (q := 39) (L' := #[.val (.ref a), .val (.int (0 : Int32)), .val (.int (2 : Int32)), .val (.int (Int32.ofNat 2)), .val (.long (1 : Int64)), .second, .val (.long s0), .second, .val (.int (0 : Int32)), .val (.long s0), .second, .val (.long (own_dbl s0 (0 : Int64))), .second, .unset, .unset, .unset, .unset]) d1_37 rfl rfl ?_
    refine oGo.aloadN (q := 40) d1_39 rfl rfl rfl ?_
    refine oGo.iloadN (q := 41) d1_40 rfl rfl ?_
    refine oGo.iload (q := 43) d1_41 rfl rfl ?_
    refine oGo.iadd (q := 44) d1_43 rfl ?_
    refine oGo.laload (q := 45) (i := 0) (v := (.long a0)) d1_44 rfl A (by decide) rfl ?_
    refine oGo.lstore (q := 47) (L' := #[.val (.ref a), .val (.int (0 : Int32)), .val (.int (2 : Int32)), .val (.int (Int32.ofNat 2)), .val (.long (1 : Int64)), .second, .val (.long s0), .second, .val (.int (0 : Int32)), .val (.long s0), .second, .val (.long (own_dbl s0 (0 : Int64))), .second, .val (.long a0), .second, .unset, .unset]) d1_45 rfl rfl ?_
    refine oGo.lload (q := 49) d1_47 rfl rfl ?_
    refine oGo.lload (q := 51) d1_49 rfl rfl ?_
    refine oGo.ladd (q := 52) d1_51 rfl ?_
    refine oGo.lload (q := 54) d1_52 rfl rfl ?_
    refine oGo.ladd (q := 55) d1_54 rfl ?_
    refine oGo.lstore (q := 57) (L' := #[.val (.ref a), .val (.int (0 : Int32)), .val (.int (2 : Int32)), .val (.int (Int32.ofNat 2)), .val (.long (1 : Int64)), .second, .val (.long s0), .second, .val (.int (0 : Int32)), .val (.long s0), .second, .val (.long (own_dbl s0 (0 : Int64))), .second, .val (.long a0), .second, .val (.long (own_y a0 s0 (0 : Int64) (1 : Int64))), .second]) d1_55 rfl rfl ?_
    refine oGo.aloadN (q := 58) d1_57 rfl rfl rfl ?_
    refine oGo.iloadN (q := 59) d1_58 rfl rfl ?_
    refine oGo.iload (q := 61) d1_59 rfl rfl ?_
    refine oGo.iadd (q := 62) d1_61 rfl ?_
    refine oGo.lload (q := 64) d1_62 rfl rfl ?_
    refine oGo.lastore (q := 65) (i := 0) d1_64 rfl A (by decide) (Nat.le_of_ble_eq_true rfl) ga ?_
    intro h3 K3 A3
    replace A3 : Ars Z h3 a .long [(.long (own_y a0 s0 (0 : Int64) (1 : Int64))), (.long a1), (.long s0), (.long s1)] := A3
    show oGo Z _ _ _ _ _ _ n0 _ 0 0 h3 65 #[.val (.ref a), .val (.int (0 : Int32)), .val (.int (2 : Int32)), .val (.int (Int32.ofNat 2)), .val (.long (1 : Int64)), .second, .val (.long s0), .second, .val (.int (0 : Int32)), .val (.long s0), .second, .val (.long (own_dbl s0 (0 : Int64))), .second, .val (.long a0), .second, .val (.long (own_y a0 s0 (0 : Int64) (1 : Int64))), .second] []
    refine oGo.lload (q := 67) d1_65 rfl rfl ?_
    refine oGo.lload (q := 69) d1_67 rfl rfl ?_
    refine oGo.lload (q := 71) d1_69 rfl rfl ?_
    refine oGo.callS (W := 0) (rm := ({ frames := 0, cells := 0, slots := 0, locals := 0 } : Room)) (q := 74) [(.long a0), (.long (own_dbl s0 (0 : Int64))), (.long (own_y a0 s0 (0 : Int64) (1 : Int64)))] [] d1_71 rfl (hw _ (List.mem_of_getElem? (i := 7) rfl)) (hw _ (List.mem_of_getElem? (i := 8) rfl)) (hw _ (List.mem_of_getElem? (i := 4) rfl)) (hw _ (List.mem_of_getElem? (i := 9) rfl)) (by decide) (cc hw a0 (own_dbl s0 (0 : Int64)) (own_y a0 s0 (0 : Int64) (1 : Int64)) h3 n0) rfl rfl own_pd1 rfl rfl (Nat.le_of_eq rfl) (by decide) (by decide) (by decide) (by decide) ?_
    rintro _ h4 ⟨rfl, eh⟩
    all_goals subst h4
    show oGo Z _ _ _ _ _ _ n0 _ 0 0 h3 74 #[.val (.ref a), .val (.int (0 : Int32)), .val (.int (2 : Int32)), .val (.int (Int32.ofNat 2)), .val (.long (1 : Int64)), .second, .val (.long s0), .second, .val (.int (0 : Int32)), .val (.long s0), .second, .val (.long (own_dbl s0 (0 : Int64))), .second, .val (.long a0), .second, .val (.long (own_y a0 s0 (0 : Int64) (1 : Int64))), .second] [(.long (own_car a0 (own_dbl s0 (0 : Int64)) (own_y a0 s0 (0 : Int64) (1 : Int64))))]
    refine oGo.lstore (q := 76) (L' := #[.val (.ref a), .val (.int (0 : Int32)), .val (.int (2 : Int32)), .val (.int (Int32.ofNat 2)), .val (.long (own_car a0 (own_dbl s0 (0 : Int64)) (own_y a0 s0 (0 : Int64) (1 : Int64)))), .second, .val (.long s0), .second, .val (.int (0 : Int32)), .val (.long s0), .second, .val (.long (own_dbl s0 (0 : Int64))), .second, .val (.long a0), .second, .val (.long (own_y a0 s0 (0 : Int64) (1 : Int64))), .second]) d1_74 rfl rfl ?_
    refine oGo.iinc (q := 79) (v := (1 : Int32)) (L' := #[.val (.ref a), .val (.int (0 : Int32)), .val (.int (2 : Int32)), .val (.int (Int32.ofNat 2)), .val (.long (own_car a0 (own_dbl s0 (0 : Int64)) (own_y a0 s0 (0 : Int64) (1 : Int64)))), .second, .val (.long s0), .second, .val (.int (1 : Int32)), .val (.long s0), .second, .val (.long (own_dbl s0 (0 : Int64))), .second, .val (.long a0), .second, .val (.long (own_y a0 s0 (0 : Int64) (1 : Int64))), .second]) d1_76 rfl rfl (by decide) rfl ?_
    refine oGo.goto (q := 9) d1_79 (by decide) ?_
    refine oGo.iload (q := 11) d1_9 rfl rfl ?_
    refine oGo.iloadN (q := 12) d1_11 rfl rfl ?_
    refine oGo.icmp_ge (q := 82) (r := 15) d1_12 (by decide) rfl (fun hc => absurd hc (by decide)) (fun hc => ?_)
    refine oGo.aloadN (q := 16) d1_15 rfl rfl rfl ?_
    refine oGo.iloadN (q := 17) d1_16 rfl rfl ?_
    refine oGo.iload (q := 19) d1_17 rfl rfl ?_
    refine oGo.iadd (q := 20) d1_19 rfl ?_
    refine oGo.laload (q := 21) (i := 3) (v := (.long s1)) d1_20 rfl A3 (by decide) rfl ?_
    refine oGo.lstore (q := 23) (L' := #[.val (.ref a), .val (.int (0 : Int32)), .val (.int (2 : Int32)), .val (.int (Int32.ofNat 2)), .val (.long (own_car a0 (own_dbl s0 (0 : Int64)) (own_y a0 s0 (0 : Int64) (1 : Int64)))), .second, .val (.long s0), .second, .val (.int (1 : Int32)), .val (.long s1), .second, .val (.long (own_dbl s0 (0 : Int64))), .second, .val (.long a0), .second, .val (.long (own_y a0 s0 (0 : Int64) (1 : Int64))), .second]) d1_21 rfl rfl ?_
    refine oGo.lload (q := 25) d1_23 rfl rfl ?_
    refine oGo.iconst (q := 26) (v := (1 : Int32)) d1_25 rfl rfl ?_
    refine oGo.lshl (q := 27) d1_26 rfl ?_
    refine oGo.lload (q := 29) d1_27 rfl rfl ?_
    refine oGo.bipush (q := 31) (v := (63 : Int32)) d1_29 rfl rfl ?_
    refine oGo.lushr (q := 32) d1_31 rfl ?_
    refine oGo.lor (q := 33) d1_32 rfl ?_
    refine oGo.lstore (q := 35) (L' := #[.val (.ref a), .val (.int (0 : Int32)), .val (.int (2 : Int32)), .val (.int (Int32.ofNat 2)), .val (.long (own_car a0 (own_dbl s0 (0 : Int64)) (own_y a0 s0 (0 : Int64) (1 : Int64)))), .second, .val (.long s0), .second, .val (.int (1 : Int32)), .val (.long s1), .second, .val (.long (own_dbl s1 s0)), .second, .val (.long a0), .second, .val (.long (own_y a0 s0 (0 : Int64) (1 : Int64))), .second]) d1_33 rfl rfl ?_
    refine oGo.lload (q := 37) d1_35 rfl rfl ?_
    refine oGo.lstore (q := 39) (L' := #[.val (.ref a), .val (.int (0 : Int32)), .val (.int (2 : Int32)), .val (.int (Int32.ofNat 2)), .val (.long (own_car a0 (own_dbl s0 (0 : Int64)) (own_y a0 s0 (0 : Int64) (1 : Int64)))), .second, .val (.long s1), .second, .val (.int (1 : Int32)), .val (.long s1), .second, .val (.long (own_dbl s1 s0)), .second, .val (.long a0), .second, .val (.long (own_y a0 s0 (0 : Int64) (1 : Int64))), .second]) d1_37 rfl rfl ?_
    refine oGo.aloadN (q := 40) d1_39 rfl rfl rfl ?_
    refine oGo.iloadN (q := 41) d1_40 rfl rfl ?_
    refine oGo.iload (q := 43) d1_41 rfl rfl ?_
    refine oGo.iadd (q := 44) d1_43 rfl ?_
    refine oGo.laload (q := 45) (i := 1) (v := (.long a1)) d1_44 rfl A3 (by decide) rfl ?_
    refine oGo.lstore (q := 47) (L' := #[.val (.ref a), .val (.int (0 : Int32)), .val (.int (2 : Int32)), .val (.int (Int32.ofNat 2)), .val (.long (own_car a0 (own_dbl s0 (0 : Int64)) (own_y a0 s0 (0 : Int64) (1 : Int64)))), .second, .val (.long s1), .second, .val (.int (1 : Int32)), .val (.long s1), .second, .val (.long (own_dbl s1 s0)), .second, .val (.long a1), .second, .val (.long (own_y a0 s0 (0 : Int64) (1 : Int64))), .second]) d1_45 rfl rfl ?_
    refine oGo.lload (q := 49) d1_47 rfl rfl ?_
    refine oGo.lload (q := 51) d1_49 rfl rfl ?_
    refine oGo.ladd (q := 52) d1_51 rfl ?_
    refine oGo.lload (q := 54) d1_52 rfl rfl ?_
    refine oGo.ladd (q := 55) d1_54 rfl ?_
    refine oGo.lstore (q := 57) (L' := #[.val (.ref a), .val (.int (0 : Int32)), .val (.int (2 : Int32)), .val (.int (Int32.ofNat 2)), .val (.long (own_car a0 (own_dbl s0 (0 : Int64)) (own_y a0 s0 (0 : Int64) (1 : Int64)))), .second, .val (.long s1), .second, .val (.int (1 : Int32)), .val (.long s1), .second, .val (.long (own_dbl s1 s0)), .second, .val (.long a1), .second, .val (.long (own_y a1 s1 s0 (own_car a0 (own_dbl s0 (0 : Int64)) (own_y a0 s0 (0 : Int64) (1 : Int64))))), .second]) d1_55 rfl rfl ?_
    refine oGo.aloadN (q := 58) d1_57 rfl rfl rfl ?_
    refine oGo.iloadN (q := 59) d1_58 rfl rfl ?_
    refine oGo.iload (q := 61) d1_59 rfl rfl ?_
    refine oGo.iadd (q := 62) d1_61 rfl ?_
    refine oGo.lload (q := 64) d1_62 rfl rfl ?_
    refine oGo.lastore (q := 65) (i := 1) d1_64 rfl A3 (by decide) (Nat.le_of_ble_eq_true rfl) ga ?_
    intro h5 K5 A5
    replace A5 : Ars Z h5 a .long [(.long (own_y a0 s0 (0 : Int64) (1 : Int64))), (.long (own_y a1 s1 s0 (own_car a0 (own_dbl s0 (0 : Int64)) (own_y a0 s0 (0 : Int64) (1 : Int64))))), (.long s0), (.long s1)] := A5
    show oGo Z _ _ _ _ _ _ n0 _ 0 0 h5 65 #[.val (.ref a), .val (.int (0 : Int32)), .val (.int (2 : Int32)), .val (.int (Int32.ofNat 2)), .val (.long (own_car a0 (own_dbl s0 (0 : Int64)) (own_y a0 s0 (0 : Int64) (1 : Int64)))), .second, .val (.long s1), .second, .val (.int (1 : Int32)), .val (.long s1), .second, .val (.long (own_dbl s1 s0)), .second, .val (.long a1), .second, .val (.long (own_y a1 s1 s0 (own_car a0 (own_dbl s0 (0 : Int64)) (own_y a0 s0 (0 : Int64) (1 : Int64))))), .second] []
    refine oGo.lload (q := 67) d1_65 rfl rfl ?_
    refine oGo.lload (q := 69) d1_67 rfl rfl ?_
    refine oGo.lload (q := 71) d1_69 rfl rfl ?_
    refine oGo.callS (W := 0) (rm := ({ frames := 0, cells := 0, slots := 0, locals := 0 } : Room)) (q := 74) [(.long a1), (.long (own_dbl s1 s0)), (.long (own_y a1 s1 s0 (own_car a0 (own_dbl s0 (0 : Int64)) (own_y a0 s0 (0 : Int64) (1 : Int64)))))] [] d1_71 rfl (hw _ (List.mem_of_getElem? (i := 7) rfl)) (hw _ (List.mem_of_getElem? (i := 8) rfl)) (hw _ (List.mem_of_getElem? (i := 4) rfl)) (hw _ (List.mem_of_getElem? (i := 9) rfl)) (by decide) (cc hw a1 (own_dbl s1 s0) (own_y a1 s1 s0 (own_car a0 (own_dbl s0 (0 : Int64)) (own_y a0 s0 (0 : Int64) (1 : Int64)))) h5 n0) rfl rfl own_pd1 rfl rfl (Nat.le_of_eq rfl) (by decide) (by decide) (by decide) (by decide) ?_
    rintro _ h6 ⟨rfl, eh⟩
    all_goals subst h6
    show oGo Z _ _ _ _ _ _ n0 _ 0 0 h5 74 #[.val (.ref a), .val (.int (0 : Int32)), .val (.int (2 : Int32)), .val (.int (Int32.ofNat 2)), .val (.long (own_car a0 (own_dbl s0 (0 : Int64)) (own_y a0 s0 (0 : Int64) (1 : Int64)))), .second, .val (.long s1), .second, .val (.int (1 : Int32)), .val (.long s1), .second, .val (.long (own_dbl s1 s0)), .second, .val (.long a1), .second, .val (.long (own_y a1 s1 s0 (own_car a0 (own_dbl s0 (0 : Int64)) (own_y a0 s0 (0 : Int64) (1 : Int64))))), .second] [(.long (own_car a1 (own_dbl s1 s0) (own_y a1 s1 s0 (own_car a0 (own_dbl s0 (0 : Int64)) (own_y a0 s0 (0 : Int64) (1 : Int64))))))]
    refine oGo.lstore (q := 76) (L' := #[.val (.ref a), .val (.int (0 : Int32)), .val (.int (2 : Int32)), .val (.int (Int32.ofNat 2)), .val (.long (own_car a1 (own_dbl s1 s0) (own_y a1 s1 s0 (own_car a0 (own_dbl s0 (0 : Int64)) (own_y a0 s0 (0 : Int64) (1 : Int64)))))), .second, .val (.long s1), .second, .val (.int (1 : Int32)), .val (.long s1), .second, .val (.long (own_dbl s1 s0)), .second, .val (.long a1), .second, .val (.long (own_y a1 s1 s0 (own_car a0 (own_dbl s0 (0 : Int64)) (own_y a0 s0 (0 : Int64) (1 : Int64))))), .second]) d1_74 rfl rfl ?_
    refine oGo.iinc (q := 79) (v := (2 : Int32)) (L' := #[.val (.ref a), .val (.int (0 : Int32)), .val (.int (2 : Int32)), .val (.int (Int32.ofNat 2)), .val (.long (own_car a1 (own_dbl s1 s0) (own_y a1 s1 s0 (own_car a0 (own_dbl s0 (0 : Int64)) (own_y a0 s0 (0 : Int64) (1 : Int64)))))), .second, .val (.long s1), .second, .val (.int (2 : Int32)), .val (.long s1), .second, .val (.long (own_dbl s1 s0)), .second, .val (.long a1), .second, .val (.long (own_y a1 s1 s0 (own_car a0 (own_dbl s0 (0 : Int64)) (own_y a0 s0 (0 : Int64) (1 : Int64))))), .second]) d1_76 rfl rfl (by decide) rfl ?_
    refine oGo.goto (q := 9) d1_79 (by decide) ?_
    refine oGo.iload (q := 11) d1_9 rfl rfl ?_
    refine oGo.iloadN (q := 12) d1_11 rfl rfl ?_
    refine oGo.icmp_ge (q := 82) (r := 15) d1_12 (by decide) rfl (fun hc => ?_) (fun hc => absurd hc (by decide))
    refine oGo.lload (q := 84) d1_82 rfl rfl ?_
    refine oGo.lload (q := 86) d1_84 rfl rfl ?_
    refine oGo.bipush (q := 88) (v := (63 : Int32)) d1_86 rfl rfl ?_
    refine oGo.lushr (q := 89) d1_88 rfl ?_
    refine oGo.ladd (q := 90) d1_89 rfl ?_
    exact oGo.retJ d1_90 rfl (by decide) (by decide) (⟨((own_car a1 (own_dbl s1 s0) (own_y a1 s1 s0 (own_car a0 (own_dbl s0 (0 : Int64)) (own_y a0 s0 (0 : Int64) (1 : Int64))))) + own_top s1), (own_y a0 s0 (0 : Int64) (1 : Int64)), (own_y a1 s1 s0 (own_car a0 (own_dbl s0 (0 : Int64)) (own_y a0 s0 (0 : Int64) (1 : Int64)))), rfl, (Keep.trans (Keep.trans (Keep.refl h [a]) K3 (fun x hx => Or.inl hx)) K5 (fun x hx => Or.inl hx)), A5, own_r2 a0 a1 s0 s1⟩)
set_option maxRecDepth 65536 in
set_option maxHeartbeats 40000000 in
theorem ca1 {Z : State} {a0 : Array Value} (hw : ∀ d ∈ tables_1, d.before a0 Z = true) (a : Addr) (n : Nat) (a0 a1 s0 s1 : Int64) (h : Heap) (n0 : Nat) (hn : n ≤ 2) (ga : n0 ≤ a) (A : Ars Z h a .long [(.long s0), (.long s1), (.long a0), (.long a1)]) :
    oCon Z (⟨"example/rootwise/internal/Naturals", "addTwicePlusOne", "([JIII)J"⟩ : MethodName) prog_34_method_20_code 17 (some .long) ({ frames := 1, cells := 0, slots := 0, locals := 17 } : Room) #[(.ref a), (.int (2 : Int32)), (.int (0 : Int32)), (.int (Int32.ofNat n))] h n0 (fun v h' => ∃ r y0 y1, v = some (.long r) ∧ Keep h h' [a] ∧ Ars Z h' a .long [(.long s0), (.long s1), (.long y0), (.long y1)] ∧ own_res n a0 a1 s0 s1 r y0 y1) := by
  refine oCon.of own_pn1 (fun m => own_ef1 m a (2 : Int32) (0 : Int32) (Int32.ofNat n)) ?_
  show oGo Z _ _ _ _ _ _ n0 _ 0 0 h 0 #[.val (.ref a), .val (.int (2 : Int32)), .val (.int (0 : Int32)), .val (.int (Int32.ofNat n)), .unset, .unset, .unset, .unset, .unset, .unset, .unset, .unset, .unset, .unset, .unset, .unset, .unset] []
  refine oGo.lconst (q := 1) (v := (1 : Int64)) d1_0 rfl rfl ?_
  refine oGo.lstore (q := 3) (L' := #[.val (.ref a), .val (.int (2 : Int32)), .val (.int (0 : Int32)), .val (.int (Int32.ofNat n)), .val (.long (1 : Int64)), .second, .unset, .unset, .unset, .unset, .unset, .unset, .unset, .unset, .unset, .unset, .unset]) d1_1 rfl rfl ?_
  refine oGo.lconst (q := 4) (v := (0 : Int64)) d1_3 rfl rfl ?_
  refine oGo.lstore (q := 6) (L' := #[.val (.ref a), .val (.int (2 : Int32)), .val (.int (0 : Int32)), .val (.int (Int32.ofNat n)), .val (.long (1 : Int64)), .second, .val (.long (0 : Int64)), .second, .unset, .unset, .unset, .unset, .unset, .unset, .unset, .unset, .unset]) d1_4 rfl rfl ?_
  refine oGo.iconst (q := 7) (v := (0 : Int32)) d1_6 rfl rfl ?_
  refine oGo.istore (q := 9) (L' := #[.val (.ref a), .val (.int (2 : Int32)), .val (.int (0 : Int32)), .val (.int (Int32.ofNat n)), .val (.long (1 : Int64)), .second, .val (.long (0 : Int64)), .second, .val (.int (0 : Int32)), .unset, .unset, .unset, .unset, .unset, .unset, .unset, .unset]) d1_7 rfl rfl ?_
  obtain rfl | rfl | rfl : n = 0 ∨ n = 1 ∨ n = 2 := by omega
  · skip -- n = 0
    refine oGo.iload (q := 11) d1_9 rfl rfl ?_
    refine oGo.iloadN (q := 12) d1_11 rfl rfl ?_
    refine oGo.icmp_ge (q := 82) (r := 15) d1_12 (by decide) rfl (fun hc => ?_) (fun hc => absurd hc (by decide))
    refine oGo.lload (q := 84) d1_82 rfl rfl ?_
    refine oGo.lload (q := 86) d1_84 rfl rfl ?_
    refine oGo.bipush (q := 88) (v := (63 : Int32)) d1_86 rfl rfl ?_
    refine oGo.lushr (q := 89) d1_88 rfl ?_
    refine oGo.ladd (q := 90) d1_89 rfl ?_
    exact oGo.retJ d1_90 rfl (by decide) (by decide) (⟨((1 : Int64) + own_top (0 : Int64)), a0, a1, rfl, (Keep.refl h [a]), A, own_r0 a0 a1 s0 s1⟩)
  · skip -- n = 1
    refine oGo.iload (q := 11) d1_9 rfl rfl ?_
    refine oGo.iloadN (q := 12) d1_11 rfl rfl ?_
    refine oGo.icmp_ge (q := 82) (r := 15) d1_12 (by decide) rfl (fun hc => absurd hc (by decide)) (fun hc => ?_)
    refine oGo.aloadN (q := 16) d1_15 rfl rfl rfl ?_
    refine oGo.iloadN (q := 17) d1_16 rfl rfl ?_
    refine oGo.iload (q := 19) d1_17 rfl rfl ?_
    refine oGo.iadd (q := 20) d1_19 rfl ?_
    refine oGo.laload (q := 21) (i := 0) (v := (.long s0)) d1_20 rfl A (by decide) rfl ?_
    refine oGo.lstore (q := 23) (L' := #[.val (.ref a), .val (.int (2 : Int32)), .val (.int (0 : Int32)), .val (.int (Int32.ofNat 1)), .val (.long (1 : Int64)), .second, .val (.long (0 : Int64)), .second, .val (.int (0 : Int32)), .val (.long s0), .second, .unset, .unset, .unset, .unset, .unset, .unset]) d1_21 rfl rfl ?_
    refine oGo.lload (q := 25) d1_23 rfl rfl ?_
    refine oGo.iconst (q := 26) (v := (1 : Int32)) d1_25 rfl rfl ?_
    refine oGo.lshl (q := 27) d1_26 rfl ?_
    refine oGo.lload (q := 29) d1_27 rfl rfl ?_
    refine oGo.bipush (q := 31) (v := (63 : Int32)) d1_29 rfl rfl ?_
    refine oGo.lushr (q := 32) d1_31 rfl ?_
    refine oGo.lor (q := 33) d1_32 rfl ?_
    refine oGo.lstore (q := 35) (L' := #[.val (.ref a), .val (.int (2 : Int32)), .val (.int (0 : Int32)), .val (.int (Int32.ofNat 1)), .val (.long (1 : Int64)), .second, .val (.long (0 : Int64)), .second, .val (.int (0 : Int32)), .val (.long s0), .second, .val (.long (own_dbl s0 (0 : Int64))), .second, .unset, .unset, .unset, .unset]) d1_33 rfl rfl ?_
    refine oGo.lload (q := 37) d1_35 rfl rfl ?_
    refine oGo.lstore (q := 39) (L' := #[.val (.ref a), .val (.int (2 : Int32)), .val (.int (0 : Int32)), .val (.int (Int32.ofNat 1)), .val (.long (1 : Int64)), .second, .val (.long s0), .second, .val (.int (0 : Int32)), .val (.long s0), .second, .val (.long (own_dbl s0 (0 : Int64))), .second, .unset, .unset, .unset, .unset]) d1_37 rfl rfl ?_
    refine oGo.aloadN (q := 40) d1_39 rfl rfl rfl ?_
    refine oGo.iloadN (q := 41) d1_40 rfl rfl ?_
    refine oGo.iload (q := 43) d1_41 rfl rfl ?_
    refine oGo.iadd (q := 44) d1_43 rfl ?_
    refine oGo.laload (q := 45) (i := 2) (v := (.long a0)) d1_44 rfl A (by decide) rfl ?_
    refine oGo.lstore (q := 47) (L' := #[.val (.ref a), .val (.int (2 : Int32)), .val (.int (0 : Int32)), .val (.int (Int32.ofNat 1)), .val (.long (1 : Int64)), .second, .val (.long s0), .second, .val (.int (0 : Int32)), .val (.long s0), .second, .val (.long (own_dbl s0 (0 : Int64))), .second, .val (.long a0), .second, .unset, .unset]) d1_45 rfl rfl ?_
    refine oGo.lload (q := 49) d1_47 rfl rfl ?_
    refine oGo.lload (q := 51) d1_49 rfl rfl ?_
    refine oGo.ladd (q := 52) d1_51 rfl ?_
    refine oGo.lload (q := 54) d1_52 rfl rfl ?_
    refine oGo.ladd (q := 55) d1_54 rfl ?_
    refine oGo.lstore (q := 57) (L' := #[.val (.ref a), .val (.int (2 : Int32)), .val (.int (0 : Int32)), .val (.int (Int32.ofNat 1)), .val (.long (1 : Int64)), .second, .val (.long s0), .second, .val (.int (0 : Int32)), .val (.long s0), .second, .val (.long (own_dbl s0 (0 : Int64))), .second, .val (.long a0), .second, .val (.long (own_y a0 s0 (0 : Int64) (1 : Int64))), .second]) d1_55 rfl rfl ?_
    refine oGo.aloadN (q := 58) d1_57 rfl rfl rfl ?_
    refine oGo.iloadN (q := 59) d1_58 rfl rfl ?_
    refine oGo.iload (q := 61) d1_59 rfl rfl ?_
    refine oGo.iadd (q := 62) d1_61 rfl ?_
    refine oGo.lload (q := 64) d1_62 rfl rfl ?_
    refine oGo.lastore (q := 65) (i := 2) d1_64 rfl A (by decide) (Nat.le_of_ble_eq_true rfl) ga ?_
    intro h7 K7 A7
    replace A7 : Ars Z h7 a .long [(.long s0), (.long s1), (.long (own_y a0 s0 (0 : Int64) (1 : Int64))), (.long a1)] := A7
    show oGo Z _ _ _ _ _ _ n0 _ 0 0 h7 65 #[.val (.ref a), .val (.int (2 : Int32)), .val (.int (0 : Int32)), .val (.int (Int32.ofNat 1)), .val (.long (1 : Int64)), .second, .val (.long s0), .second, .val (.int (0 : Int32)), .val (.long s0), .second, .val (.long (own_dbl s0 (0 : Int64))), .second, .val (.long a0), .second, .val (.long (own_y a0 s0 (0 : Int64) (1 : Int64))), .second] []
    refine oGo.lload (q := 67) d1_65 rfl rfl ?_
    refine oGo.lload (q := 69) d1_67 rfl rfl ?_
    refine oGo.lload (q := 71) d1_69 rfl rfl ?_
    refine oGo.callS (W := 0) (rm := ({ frames := 0, cells := 0, slots := 0, locals := 0 } : Room)) (q := 74) [(.long a0), (.long (own_dbl s0 (0 : Int64))), (.long (own_y a0 s0 (0 : Int64) (1 : Int64)))] [] d1_71 rfl (hw _ (List.mem_of_getElem? (i := 7) rfl)) (hw _ (List.mem_of_getElem? (i := 8) rfl)) (hw _ (List.mem_of_getElem? (i := 4) rfl)) (hw _ (List.mem_of_getElem? (i := 9) rfl)) (by decide) (cc hw a0 (own_dbl s0 (0 : Int64)) (own_y a0 s0 (0 : Int64) (1 : Int64)) h7 n0) rfl rfl own_pd1 rfl rfl (Nat.le_of_eq rfl) (by decide) (by decide) (by decide) (by decide) ?_
    rintro _ h8 ⟨rfl, eh⟩
    all_goals subst h8
    show oGo Z _ _ _ _ _ _ n0 _ 0 0 h7 74 #[.val (.ref a), .val (.int (2 : Int32)), .val (.int (0 : Int32)), .val (.int (Int32.ofNat 1)), .val (.long (1 : Int64)), .second, .val (.long s0), .second, .val (.int (0 : Int32)), .val (.long s0), .second, .val (.long (own_dbl s0 (0 : Int64))), .second, .val (.long a0), .second, .val (.long (own_y a0 s0 (0 : Int64) (1 : Int64))), .second] [(.long (own_car a0 (own_dbl s0 (0 : Int64)) (own_y a0 s0 (0 : Int64) (1 : Int64))))]
    refine oGo.lstore (q := 76) (L' := #[.val (.ref a), .val (.int (2 : Int32)), .val (.int (0 : Int32)), .val (.int (Int32.ofNat 1)), .val (.long (own_car a0 (own_dbl s0 (0 : Int64)) (own_y a0 s0 (0 : Int64) (1 : Int64)))), .second, .val (.long s0), .second, .val (.int (0 : Int32)), .val (.long s0), .second, .val (.long (own_dbl s0 (0 : Int64))), .second, .val (.long a0), .second, .val (.long (own_y a0 s0 (0 : Int64) (1 : Int64))), .second]) d1_74 rfl rfl ?_
    refine oGo.iinc (q := 79) (v := (1 : Int32)) (L' := #[.val (.ref a), .val (.int (2 : Int32)), .val (.int (0 : Int32)), .val (.int (Int32.ofNat 1)), .val (.long (own_car a0 (own_dbl s0 (0 : Int64)) (own_y a0 s0 (0 : Int64) (1 : Int64)))), .second, .val (.long s0), .second, .val (.int (1 : Int32)), .val (.long s0), .second, .val (.long (own_dbl s0 (0 : Int64))), .second, .val (.long a0), .second, .val (.long (own_y a0 s0 (0 : Int64) (1 : Int64))), .second]) d1_76 rfl rfl (by decide) rfl ?_
    refine oGo.goto (q := 9) d1_79 (by decide) ?_
    refine oGo.iload (q := 11) d1_9 rfl rfl ?_
    refine oGo.iloadN (q := 12) d1_11 rfl rfl ?_
    refine oGo.icmp_ge (q := 82) (r := 15) d1_12 (by decide) rfl (fun hc => ?_) (fun hc => absurd hc (by decide))
    refine oGo.lload (q := 84) d1_82 rfl rfl ?_
    refine oGo.lload (q := 86) d1_84 rfl rfl ?_
    refine oGo.bipush (q := 88) (v := (63 : Int32)) d1_86 rfl rfl ?_
    refine oGo.lushr (q := 89) d1_88 rfl ?_
    refine oGo.ladd (q := 90) d1_89 rfl ?_
    exact oGo.retJ d1_90 rfl (by decide) (by decide) (⟨((own_car a0 (own_dbl s0 (0 : Int64)) (own_y a0 s0 (0 : Int64) (1 : Int64))) + own_top s0), (own_y a0 s0 (0 : Int64) (1 : Int64)), a1, rfl, (Keep.trans (Keep.refl h [a]) K7 (fun x hx => Or.inl hx)), A7, own_r1 a0 a1 s0 s1⟩)
  · skip -- n = 2
    refine oGo.iload (q := 11) d1_9 rfl rfl ?_
    refine oGo.iloadN (q := 12) d1_11 rfl rfl ?_
    refine oGo.icmp_ge (q := 82) (r := 15) d1_12 (by decide) rfl (fun hc => absurd hc (by decide)) (fun hc => ?_)
    refine oGo.aloadN (q := 16) d1_15 rfl rfl rfl ?_
    refine oGo.iloadN (q := 17) d1_16 rfl rfl ?_
    refine oGo.iload (q := 19) d1_17 rfl rfl ?_
    refine oGo.iadd (q := 20) d1_19 rfl ?_
    refine oGo.laload (q := 21) (i := 0) (v := (.long s0)) d1_20 rfl A (by decide) rfl ?_
    refine oGo.lstore (q := 23) (L' := #[.val (.ref a), .val (.int (2 : Int32)), .val (.int (0 : Int32)), .val (.int (Int32.ofNat 2)), .val (.long (1 : Int64)), .second, .val (.long (0 : Int64)), .second, .val (.int (0 : Int32)), .val (.long s0), .second, .unset, .unset, .unset, .unset, .unset, .unset]) d1_21 rfl rfl ?_
    refine oGo.lload (q := 25) d1_23 rfl rfl ?_
    refine oGo.iconst (q := 26) (v := (1 : Int32)) d1_25 rfl rfl ?_
    refine oGo.lshl (q := 27) d1_26 rfl ?_
    refine oGo.lload (q := 29) d1_27 rfl rfl ?_
    refine oGo.bipush (q := 31) (v := (63 : Int32)) d1_29 rfl rfl ?_
    refine oGo.lushr (q := 32) d1_31 rfl ?_
    refine oGo.lor (q := 33) d1_32 rfl ?_
    refine oGo.lstore (q := 35) (L' := #[.val (.ref a), .val (.int (2 : Int32)), .val (.int (0 : Int32)), .val (.int (Int32.ofNat 2)), .val (.long (1 : Int64)), .second, .val (.long (0 : Int64)), .second, .val (.int (0 : Int32)), .val (.long s0), .second, .val (.long (own_dbl s0 (0 : Int64))), .second, .unset, .unset, .unset, .unset]) d1_33 rfl rfl ?_
    refine oGo.lload (q := 37) d1_35 rfl rfl ?_
    refine oGo.lstore (q := 39) (L' := #[.val (.ref a), .val (.int (2 : Int32)), .val (.int (0 : Int32)), .val (.int (Int32.ofNat 2)), .val (.long (1 : Int64)), .second, .val (.long s0), .second, .val (.int (0 : Int32)), .val (.long s0), .second, .val (.long (own_dbl s0 (0 : Int64))), .second, .unset, .unset, .unset, .unset]) d1_37 rfl rfl ?_
    refine oGo.aloadN (q := 40) d1_39 rfl rfl rfl ?_
    refine oGo.iloadN (q := 41) d1_40 rfl rfl ?_
    refine oGo.iload (q := 43) d1_41 rfl rfl ?_
    refine oGo.iadd (q := 44) d1_43 rfl ?_
    refine oGo.laload (q := 45) (i := 2) (v := (.long a0)) d1_44 rfl A (by decide) rfl ?_
    refine oGo.lstore (q := 47) (L' := #[.val (.ref a), .val (.int (2 : Int32)), .val (.int (0 : Int32)), .val (.int (Int32.ofNat 2)), .val (.long (1 : Int64)), .second, .val (.long s0), .second, .val (.int (0 : Int32)), .val (.long s0), .second, .val (.long (own_dbl s0 (0 : Int64))), .second, .val (.long a0), .second, .unset, .unset]) d1_45 rfl rfl ?_
    refine oGo.lload (q := 49) d1_47 rfl rfl ?_
    refine oGo.lload (q := 51) d1_49 rfl rfl ?_
    refine oGo.ladd (q := 52) d1_51 rfl ?_
    refine oGo.lload (q := 54) d1_52 rfl rfl ?_
    refine oGo.ladd (q := 55) d1_54 rfl ?_
    refine oGo.lstore (q := 57) (L' := #[.val (.ref a), .val (.int (2 : Int32)), .val (.int (0 : Int32)), .val (.int (Int32.ofNat 2)), .val (.long (1 : Int64)), .second, .val (.long s0), .second, .val (.int (0 : Int32)), .val (.long s0), .second, .val (.long (own_dbl s0 (0 : Int64))), .second, .val (.long a0), .second, .val (.long (own_y a0 s0 (0 : Int64) (1 : Int64))), .second]) d1_55 rfl rfl ?_
    refine oGo.aloadN (q := 58) d1_57 rfl rfl rfl ?_
    refine oGo.iloadN (q := 59) d1_58 rfl rfl ?_
    refine oGo.iload (q := 61) d1_59 rfl rfl ?_
    refine oGo.iadd (q := 62) d1_61 rfl ?_
    refine oGo.lload (q := 64) d1_62 rfl rfl ?_
    refine oGo.lastore (q := 65) (i := 2) d1_64 rfl A (by decide) (Nat.le_of_ble_eq_true rfl) ga ?_
    intro h9 K9 A9
    replace A9 : Ars Z h9 a .long [(.long s0), (.long s1), (.long (own_y a0 s0 (0 : Int64) (1 : Int64))), (.long a1)] := A9
    show oGo Z _ _ _ _ _ _ n0 _ 0 0 h9 65 #[.val (.ref a), .val (.int (2 : Int32)), .val (.int (0 : Int32)), .val (.int (Int32.ofNat 2)), .val (.long (1 : Int64)), .second, .val (.long s0), .second, .val (.int (0 : Int32)), .val (.long s0), .second, .val (.long (own_dbl s0 (0 : Int64))), .second, .val (.long a0), .second, .val (.long (own_y a0 s0 (0 : Int64) (1 : Int64))), .second] []
    refine oGo.lload (q := 67) d1_65 rfl rfl ?_
    refine oGo.lload (q := 69) d1_67 rfl rfl ?_
    refine oGo.lload (q := 71) d1_69 rfl rfl ?_
    refine oGo.callS (W := 0) (rm := ({ frames := 0, cells := 0, slots := 0, locals := 0 } : Room)) (q := 74) [(.long a0), (.long (own_dbl s0 (0 : Int64))), (.long (own_y a0 s0 (0 : Int64) (1 : Int64)))] [] d1_71 rfl (hw _ (List.mem_of_getElem? (i := 7) rfl)) (hw _ (List.mem_of_getElem? (i := 8) rfl)) (hw _ (List.mem_of_getElem? (i := 4) rfl)) (hw _ (List.mem_of_getElem? (i := 9) rfl)) (by decide) (cc hw a0 (own_dbl s0 (0 : Int64)) (own_y a0 s0 (0 : Int64) (1 : Int64)) h9 n0) rfl rfl own_pd1 rfl rfl (Nat.le_of_eq rfl) (by decide) (by decide) (by decide) (by decide) ?_
    rintro _ h10 ⟨rfl, eh⟩
    all_goals subst h10
    show oGo Z _ _ _ _ _ _ n0 _ 0 0 h9 74 #[.val (.ref a), .val (.int (2 : Int32)), .val (.int (0 : Int32)), .val (.int (Int32.ofNat 2)), .val (.long (1 : Int64)), .second, .val (.long s0), .second, .val (.int (0 : Int32)), .val (.long s0), .second, .val (.long (own_dbl s0 (0 : Int64))), .second, .val (.long a0), .second, .val (.long (own_y a0 s0 (0 : Int64) (1 : Int64))), .second] [(.long (own_car a0 (own_dbl s0 (0 : Int64)) (own_y a0 s0 (0 : Int64) (1 : Int64))))]
    refine oGo.lstore (q := 76) (L' := #[.val (.ref a), .val (.int (2 : Int32)), .val (.int (0 : Int32)), .val (.int (Int32.ofNat 2)), .val (.long (own_car a0 (own_dbl s0 (0 : Int64)) (own_y a0 s0 (0 : Int64) (1 : Int64)))), .second, .val (.long s0), .second, .val (.int (0 : Int32)), .val (.long s0), .second, .val (.long (own_dbl s0 (0 : Int64))), .second, .val (.long a0), .second, .val (.long (own_y a0 s0 (0 : Int64) (1 : Int64))), .second]) d1_74 rfl rfl ?_
    refine oGo.iinc (q := 79) (v := (1 : Int32)) (L' := #[.val (.ref a), .val (.int (2 : Int32)), .val (.int (0 : Int32)), .val (.int (Int32.ofNat 2)), .val (.long (own_car a0 (own_dbl s0 (0 : Int64)) (own_y a0 s0 (0 : Int64) (1 : Int64)))), .second, .val (.long s0), .second, .val (.int (1 : Int32)), .val (.long s0), .second, .val (.long (own_dbl s0 (0 : Int64))), .second, .val (.long a0), .second, .val (.long (own_y a0 s0 (0 : Int64) (1 : Int64))), .second]) d1_76 rfl rfl (by decide) rfl ?_
    refine oGo.goto (q := 9) d1_79 (by decide) ?_
    refine oGo.iload (q := 11) d1_9 rfl rfl ?_
    refine oGo.iloadN (q := 12) d1_11 rfl rfl ?_
    refine oGo.icmp_ge (q := 82) (r := 15) d1_12 (by decide) rfl (fun hc => absurd hc (by decide)) (fun hc => ?_)
    refine oGo.aloadN (q := 16) d1_15 rfl rfl rfl ?_
    refine oGo.iloadN (q := 17) d1_16 rfl rfl ?_
    refine oGo.iload (q := 19) d1_17 rfl rfl ?_
    refine oGo.iadd (q := 20) d1_19 rfl ?_
    refine oGo.laload (q := 21) (i := 1) (v := (.long s1)) d1_20 rfl A9 (by decide) rfl ?_
    refine oGo.lstore (q := 23) (L' := #[.val (.ref a), .val (.int (2 : Int32)), .val (.int (0 : Int32)), .val (.int (Int32.ofNat 2)), .val (.long (own_car a0 (own_dbl s0 (0 : Int64)) (own_y a0 s0 (0 : Int64) (1 : Int64)))), .second, .val (.long s0), .second, .val (.int (1 : Int32)), .val (.long s1), .second, .val (.long (own_dbl s0 (0 : Int64))), .second, .val (.long a0), .second, .val (.long (own_y a0 s0 (0 : Int64) (1 : Int64))), .second]) d1_21 rfl rfl ?_
    refine oGo.lload (q := 25) d1_23 rfl rfl ?_
    refine oGo.iconst (q := 26) (v := (1 : Int32)) d1_25 rfl rfl ?_
    refine oGo.lshl (q := 27) d1_26 rfl ?_
    refine oGo.lload (q := 29) d1_27 rfl rfl ?_
    refine oGo.bipush (q := 31) (v := (63 : Int32)) d1_29 rfl rfl ?_
    refine oGo.lushr (q := 32) d1_31 rfl ?_
    refine oGo.lor (q := 33) d1_32 rfl ?_
    refine oGo.lstore (q := 35) (L' := #[.val (.ref a), .val (.int (2 : Int32)), .val (.int (0 : Int32)), .val (.int (Int32.ofNat 2)), .val (.long (own_car a0 (own_dbl s0 (0 : Int64)) (own_y a0 s0 (0 : Int64) (1 : Int64)))), .second, .val (.long s0), .second, .val (.int (1 : Int32)), .val (.long s1), .second, .val (.long (own_dbl s1 s0)), .second, .val (.long a0), .second, .val (.long (own_y a0 s0 (0 : Int64) (1 : Int64))), .second]) d1_33 rfl rfl ?_
    refine oGo.lload (q := 37) d1_35 rfl rfl ?_
    refine oGo.lstore (q := 39) (L' := #[.val (.ref a), .val (.int (2 : Int32)), .val (.int (0 : Int32)), .val (.int (Int32.ofNat 2)), .val (.long (own_car a0 (own_dbl s0 (0 : Int64)) (own_y a0 s0 (0 : Int64) (1 : Int64)))), .second, .val (.long s1), .second, .val (.int (1 : Int32)), .val (.long s1), .second, .val (.long (own_dbl s1 s0)), .second, .val (.long a0), .second, .val (.long (own_y a0 s0 (0 : Int64) (1 : Int64))), .second]) d1_37 rfl rfl ?_
    refine oGo.aloadN (q := 40) d1_39 rfl rfl rfl ?_
    refine oGo.iloadN (q := 41) d1_40 rfl rfl ?_
    refine oGo.iload (q := 43) d1_41 rfl rfl ?_
    refine oGo.iadd (q := 44) d1_43 rfl ?_
    refine oGo.laload (q := 45) (i := 3) (v := (.long a1)) d1_44 rfl A9 (by decide) rfl ?_
    refine oGo.lstore (q := 47) (L' := #[.val (.ref a), .val (.int (2 : Int32)), .val (.int (0 : Int32)), .val (.int (Int32.ofNat 2)), .val (.long (own_car a0 (own_dbl s0 (0 : Int64)) (own_y a0 s0 (0 : Int64) (1 : Int64)))), .second, .val (.long s1), .second, .val (.int (1 : Int32)), .val (.long s1), .second, .val (.long (own_dbl s1 s0)), .second, .val (.long a1), .second, .val (.long (own_y a0 s0 (0 : Int64) (1 : Int64))), .second]) d1_45 rfl rfl ?_
    refine oGo.lload (q := 49) d1_47 rfl rfl ?_
    refine oGo.lload (q := 51) d1_49 rfl rfl ?_
    refine oGo.ladd (q := 52) d1_51 rfl ?_
    refine oGo.lload (q := 54) d1_52 rfl rfl ?_
    refine oGo.ladd (q := 55) d1_54 rfl ?_
    refine oGo.lstore (q := 57) (L' := #[.val (.ref a), .val (.int (2 : Int32)), .val (.int (0 : Int32)), .val (.int (Int32.ofNat 2)), .val (.long (own_car a0 (own_dbl s0 (0 : Int64)) (own_y a0 s0 (0 : Int64) (1 : Int64)))), .second, .val (.long s1), .second, .val (.int (1 : Int32)), .val (.long s1), .second, .val (.long (own_dbl s1 s0)), .second, .val (.long a1), .second, .val (.long (own_y a1 s1 s0 (own_car a0 (own_dbl s0 (0 : Int64)) (own_y a0 s0 (0 : Int64) (1 : Int64))))), .second]) d1_55 rfl rfl ?_
    refine oGo.aloadN (q := 58) d1_57 rfl rfl rfl ?_
    refine oGo.iloadN (q := 59) d1_58 rfl rfl ?_
    refine oGo.iload (q := 61) d1_59 rfl rfl ?_
    refine oGo.iadd (q := 62) d1_61 rfl ?_
    refine oGo.lload (q := 64) d1_62 rfl rfl ?_
    refine oGo.lastore (q := 65) (i := 3) d1_64 rfl A9 (by decide) (Nat.le_of_ble_eq_true rfl) ga ?_
    intro h11 K11 A11
    replace A11 : Ars Z h11 a .long [(.long s0), (.long s1), (.long (own_y a0 s0 (0 : Int64) (1 : Int64))), (.long (own_y a1 s1 s0 (own_car a0 (own_dbl s0 (0 : Int64)) (own_y a0 s0 (0 : Int64) (1 : Int64)))))] := A11
    show oGo Z _ _ _ _ _ _ n0 _ 0 0 h11 65 #[.val (.ref a), .val (.int (2 : Int32)), .val (.int (0 : Int32)), .val (.int (Int32.ofNat 2)), .val (.long (own_car a0 (own_dbl s0 (0 : Int64)) (own_y a0 s0 (0 : Int64) (1 : Int64)))), .second, .val (.long s1), .second, .val (.int (1 : Int32)), .val (.long s1), .second, .val (.long (own_dbl s1 s0)), .second, .val (.long a1), .second, .val (.long (own_y a1 s1 s0 (own_car a0 (own_dbl s0 (0 : Int64)) (own_y a0 s0 (0 : Int64) (1 : Int64))))), .second] []
    refine oGo.lload (q := 67) d1_65 rfl rfl ?_
    refine oGo.lload (q := 69) d1_67 rfl rfl ?_
    refine oGo.lload (q := 71) d1_69 rfl rfl ?_
    refine oGo.callS (W := 0) (rm := ({ frames := 0, cells := 0, slots := 0, locals := 0 } : Room)) (q := 74) [(.long a1), (.long (own_dbl s1 s0)), (.long (own_y a1 s1 s0 (own_car a0 (own_dbl s0 (0 : Int64)) (own_y a0 s0 (0 : Int64) (1 : Int64)))))] [] d1_71 rfl (hw _ (List.mem_of_getElem? (i := 7) rfl)) (hw _ (List.mem_of_getElem? (i := 8) rfl)) (hw _ (List.mem_of_getElem? (i := 4) rfl)) (hw _ (List.mem_of_getElem? (i := 9) rfl)) (by decide) (cc hw a1 (own_dbl s1 s0) (own_y a1 s1 s0 (own_car a0 (own_dbl s0 (0 : Int64)) (own_y a0 s0 (0 : Int64) (1 : Int64)))) h11 n0) rfl rfl own_pd1 rfl rfl (Nat.le_of_eq rfl) (by decide) (by decide) (by decide) (by decide) ?_
    rintro _ h12 ⟨rfl, eh⟩
    all_goals subst h12
    show oGo Z _ _ _ _ _ _ n0 _ 0 0 h11 74 #[.val (.ref a), .val (.int (2 : Int32)), .val (.int (0 : Int32)), .val (.int (Int32.ofNat 2)), .val (.long (own_car a0 (own_dbl s0 (0 : Int64)) (own_y a0 s0 (0 : Int64) (1 : Int64)))), .second, .val (.long s1), .second, .val (.int (1 : Int32)), .val (.long s1), .second, .val (.long (own_dbl s1 s0)), .second, .val (.long a1), .second, .val (.long (own_y a1 s1 s0 (own_car a0 (own_dbl s0 (0 : Int64)) (own_y a0 s0 (0 : Int64) (1 : Int64))))), .second] [(.long (own_car a1 (own_dbl s1 s0) (own_y a1 s1 s0 (own_car a0 (own_dbl s0 (0 : Int64)) (own_y a0 s0 (0 : Int64) (1 : Int64))))))]
    refine oGo.lstore (q := 76) (L' := #[.val (.ref a), .val (.int (2 : Int32)), .val (.int (0 : Int32)), .val (.int (Int32.ofNat 2)), .val (.long (own_car a1 (own_dbl s1 s0) (own_y a1 s1 s0 (own_car a0 (own_dbl s0 (0 : Int64)) (own_y a0 s0 (0 : Int64) (1 : Int64)))))), .second, .val (.long s1), .second, .val (.int (1 : Int32)), .val (.long s1), .second, .val (.long (own_dbl s1 s0)), .second, .val (.long a1), .second, .val (.long (own_y a1 s1 s0 (own_car a0 (own_dbl s0 (0 : Int64)) (own_y a0 s0 (0 : Int64) (1 : Int64))))), .second]) d1_74 rfl rfl ?_
    refine oGo.iinc (q := 79) (v := (2 : Int32)) (L' := #[.val (.ref a), .val (.int (2 : Int32)), .val (.int (0 : Int32)), .val (.int (Int32.ofNat 2)), .val (.long (own_car a1 (own_dbl s1 s0) (own_y a1 s1 s0 (own_car a0 (own_dbl s0 (0 : Int64)) (own_y a0 s0 (0 : Int64) (1 : Int64)))))), .second, .val (.long s1), .second, .val (.int (2 : Int32)), .val (.long s1), .second, .val (.long (own_dbl s1 s0)), .second, .val (.long a1), .second, .val (.long (own_y a1 s1 s0 (own_car a0 (own_dbl s0 (0 : Int64)) (own_y a0 s0 (0 : Int64) (1 : Int64))))), .second]) d1_76 rfl rfl (by decide) rfl ?_
    refine oGo.goto (q := 9) d1_79 (by decide) ?_
    refine oGo.iload (q := 11) d1_9 rfl rfl ?_
    refine oGo.iloadN (q := 12) d1_11 rfl rfl ?_
    refine oGo.icmp_ge (q := 82) (r := 15) d1_12 (by decide) rfl (fun hc => ?_) (fun hc => absurd hc (by decide))
    refine oGo.lload (q := 84) d1_82 rfl rfl ?_
    refine oGo.lload (q := 86) d1_84 rfl rfl ?_
    refine oGo.bipush (q := 88) (v := (63 : Int32)) d1_86 rfl rfl ?_
    refine oGo.lushr (q := 89) d1_88 rfl ?_
    refine oGo.ladd (q := 90) d1_89 rfl ?_
    exact oGo.retJ d1_90 rfl (by decide) (by decide) (⟨((own_car a1 (own_dbl s1 s0) (own_y a1 s1 s0 (own_car a0 (own_dbl s0 (0 : Int64)) (own_y a0 s0 (0 : Int64) (1 : Int64))))) + own_top s1), (own_y a0 s0 (0 : Int64) (1 : Int64)), (own_y a1 s1 s0 (own_car a0 (own_dbl s0 (0 : Int64)) (own_y a0 s0 (0 : Int64) (1 : Int64)))), rfl, (Keep.trans (Keep.trans (Keep.refl h [a]) K9 (fun x hx => Or.inl hx)) K11 (fun x hx => Or.inl hx)), A11, own_r2 a0 a1 s0 s1⟩)
theorem own_ef0 (m : MethodId) (x0 : Int64) (x1 : Int64) (x2 : Int64) (x3 : Int64) (x4 : Int32) : entryFrame m #[(.long x0), (.long x1), (.long x2), (.long x3), (.int x4)] maxLocals = mkF m 0 #[.val (.long x0), .second, .val (.long x1), .second, .val (.long x2), .second, .val (.long x3), .second, .val (.int x4), .unset, .unset, .unset, .unset, .unset, .unset, .unset, .unset, .unset, .unset, .unset, .unset, .unset, .unset, .unset, .unset, .unset, .unset, .unset, .unset, .unset, .unset, .unset, .unset, .unset, .unset, .unset, .unset, .unset, .unset, .unset] [] := by first | (simp [entryFrame, mkF, argsToLocals, Value.category, maxLocals]; done) | rfl
theorem own_pn0 : plainFor x = true := plainFor_of_name (by first | (simp [plainName, overriddenIn, x]; done) | decide +kernel)
set_option maxRecDepth 65536 in
set_option maxHeartbeats 40000000 in
theorem law {Z : State} {a0 : Array Value} (hw : ∀ d ∈ tables_1, d.before a0 Z = true) (a0 a1 s0 s1 : Int64) (k : Int32) (h : Heap) (n0 : Nat) (Z0 : n0 ≤ h.size) :
    oCon Z x code maxLocals ret room_1 #[(.long a0), (.long a1), (.long s0), (.long s1), (.int k)] h n0 (fun v _ => v = some (.int 1)) := by
  refine oCon.of own_pn0 (fun m => own_ef0 m a0 a1 s0 s1 k) ?_
  show oGo Z _ _ _ _ _ _ n0 _ 0 0 h 0 #[.val (.long a0), .second, .val (.long a1), .second, .val (.long s0), .second, .val (.long s1), .second, .val (.int k), .unset, .unset, .unset, .unset, .unset, .unset, .unset, .unset, .unset, .unset, .unset, .unset, .unset, .unset, .unset, .unset, .unset, .unset, .unset, .unset, .unset, .unset, .unset, .unset, .unset, .unset, .unset, .unset, .unset, .unset, .unset] []
  refine oGo.ldc2 (q := 3) (v := (4294967295 : Int64)) at_0 rfl (hw _ (List.mem_of_getElem? (i := 0) rfl)) ?_
  refine oGo.lstore (q := 5) (L' := #[.val (.long a0), .second, .val (.long a1), .second, .val (.long s0), .second, .val (.long s1), .second, .val (.int k), .val (.long (4294967295 : Int64)), .second, .unset, .unset, .unset, .unset, .unset, .unset, .unset, .unset, .unset, .unset, .unset, .unset, .unset, .unset, .unset, .unset, .unset, .unset, .unset, .unset, .unset, .unset, .unset, .unset, .unset, .unset, .unset, .unset, .unset]) at_3 rfl rfl ?_
  refine oGo.iload (q := 7) at_5 rfl rfl ?_
  refine oGo.iconst (q := 8) (v := (3 : Int32)) at_7 rfl rfl ?_
  refine oGo.iand (q := 9) at_8 rfl ?_
  refine oGo.iconst (q := 10) (v := (3 : Int32)) at_9 rfl rfl ?_
  refine oGo.irem (q := 11) at_10 rfl (by decide) ?_
  obtain ⟨n, en, hn⟩ : ∃ n : Nat, ((k &&& (3 : Int32)) % (3 : Int32)) = Int32.ofNat n ∧ n ≤ 2 := by
    have a1 := c_mask k (3 : Int32) 2 (by decide) (by decide)
    have p : ((2 ^ 2 : Nat) : Int) = 4 := by decide
    rw [p] at a1
    have a2 := own_irem (k &&& (3 : Int32)) 3 (by omega)
    have z : (3 : Int32).toInt = 3 := by decide
    rw [z] at a2
    exact ⟨(((k &&& (3 : Int32)) % (3 : Int32)).toInt).toNat, own_nat (by omega) (by omega), by omega⟩
  rw [en]
  have hn3 : n = 0 ∨ n = 1 ∨ n = 2 := by omega
  refine oGo.istore (q := 13) (L' := #[.val (.long a0), .second, .val (.long a1), .second, .val (.long s0), .second, .val (.long s1), .second, .val (.int k), .val (.long (4294967295 : Int64)), .second, .val (.int (Int32.ofNat n)), .unset, .unset, .unset, .unset, .unset, .unset, .unset, .unset, .unset, .unset, .unset, .unset, .unset, .unset, .unset, .unset, .unset, .unset, .unset, .unset, .unset, .unset, .unset, .unset, .unset, .unset, .unset, .unset]) at_11 rfl rfl ?_
  refine oGo.iload (q := 15) at_13 rfl rfl ?_
  refine oGo.iconst (q := 16) (v := (4 : Int32)) at_15 rfl rfl ?_
  refine oGo.iand (q := 17) at_16 rfl ?_
  refine oGo.if_eq (q := 24) (r := 20) at_17 (by decide) rfl (fun hc => ?_) (fun hc => ?_)
  · skip -- no swap
    refine oGo.iconst (q := 25) (v := (0 : Int32)) at_24 rfl rfl ?_
    refine oGo.istore (q := 27) (L' := #[.val (.long a0), .second, .val (.long a1), .second, .val (.long s0), .second, .val (.long s1), .second, .val (.int k), .val (.long (4294967295 : Int64)), .second, .val (.int (Int32.ofNat n)), .val (.int (0 : Int32)), .unset, .unset, .unset, .unset, .unset, .unset, .unset, .unset, .unset, .unset, .unset, .unset, .unset, .unset, .unset, .unset, .unset, .unset, .unset, .unset, .unset, .unset, .unset, .unset, .unset, .unset, .unset]) at_25 rfl rfl ?_
    refine oGo.iload (q := 29) at_27 rfl rfl ?_
    refine oGo.if_eq (q := 36) (r := 32) at_29 (by decide) rfl (fun hc2 => ?_) (fun hc2 => absurd rfl hc2)
    refine oGo.iconst (q := 37) (v := (0 : Int32)) at_36 rfl rfl ?_
    refine oGo.istore (q := 39) (L' := #[.val (.long a0), .second, .val (.long a1), .second, .val (.long s0), .second, .val (.long s1), .second, .val (.int k), .val (.long (4294967295 : Int64)), .second, .val (.int (Int32.ofNat n)), .val (.int (0 : Int32)), .val (.int (0 : Int32)), .unset, .unset, .unset, .unset, .unset, .unset, .unset, .unset, .unset, .unset, .unset, .unset, .unset, .unset, .unset, .unset, .unset, .unset, .unset, .unset, .unset, .unset, .unset, .unset, .unset, .unset]) at_37 rfl rfl ?_
    refine oGo.iload (q := 41) at_39 rfl rfl ?_
    refine oGo.if_eq (q := 48) (r := 44) at_41 (by decide) rfl (fun hc2 => ?_) (fun hc2 => absurd rfl hc2)
    refine oGo.iconst (q := 49) (v := (2 : Int32)) at_48 rfl rfl ?_
    refine oGo.istore (q := 51) (L' := #[.val (.long a0), .second, .val (.long a1), .second, .val (.long s0), .second, .val (.long s1), .second, .val (.int k), .val (.long (4294967295 : Int64)), .second, .val (.int (Int32.ofNat n)), .val (.int (0 : Int32)), .val (.int (0 : Int32)), .val (.int (2 : Int32)), .unset, .unset, .unset, .unset, .unset, .unset, .unset, .unset, .unset, .unset, .unset, .unset, .unset, .unset, .unset, .unset, .unset, .unset, .unset, .unset, .unset, .unset, .unset, .unset, .unset]) at_49 rfl rfl ?_
    refine oGo.iconst (q := 52) (v := (4 : Int32)) at_51 rfl rfl ?_
    refine oGo.newP (q := 54) (len := 4) 4 at_52 rfl (hw _ (List.mem_of_getElem? (i := 1) rfl)) rfl (by first | decide | omega) (by decide) (by decide) (by decide) (ad := "[J") rfl ?_
    intro h13 a g13 K13 A13 E13
    have ge_a : n0 ≤ a := Nat.le_trans Z0 (Nat.le_of_eq g13.symm)
    have Z0_ := Nat.le_trans Z0 K13.1
    replace A13 : Ars Z h13 a .long [(.long (0 : Int64)), (.long (0 : Int64)), (.long (0 : Int64)), (.long (0 : Int64))] := A13
    show oGo Z _ _ _ _ _ _ n0 _ 1 4 h13 54 #[.val (.long a0), .second, .val (.long a1), .second, .val (.long s0), .second, .val (.long s1), .second, .val (.int k), .val (.long (4294967295 : Int64)), .second, .val (.int (Int32.ofNat n)), .val (.int (0 : Int32)), .val (.int (0 : Int32)), .val (.int (2 : Int32)), .unset, .unset, .unset, .unset, .unset, .unset, .unset, .unset, .unset, .unset, .unset, .unset, .unset, .unset, .unset, .unset, .unset, .unset, .unset, .unset, .unset, .unset, .unset, .unset, .unset] [(.ref a)]
    refine oGo.astore (q := 56) (L' := #[.val (.long a0), .second, .val (.long a1), .second, .val (.long s0), .second, .val (.long s1), .second, .val (.int k), .val (.long (4294967295 : Int64)), .second, .val (.int (Int32.ofNat n)), .val (.int (0 : Int32)), .val (.int (0 : Int32)), .val (.int (2 : Int32)), .val (.ref a), .unset, .unset, .unset, .unset, .unset, .unset, .unset, .unset, .unset, .unset, .unset, .unset, .unset, .unset, .unset, .unset, .unset, .unset, .unset, .unset, .unset, .unset, .unset, .unset]) at_54 rfl rfl rfl ?_
    refine oGo.aload (q := 58) at_56 rfl rfl rfl ?_
    refine oGo.iload (q := 60) at_58 rfl rfl ?_
    refine oGo.lloadN (q := 61) at_60 rfl rfl ?_
    refine oGo.lastore (q := 62) (i := 0) at_61 rfl A13 (by decide) (Nat.le_of_ble_eq_true rfl) ge_a ?_
    intro h14 K14 A14
    replace A14 : Ars Z h14 a .long [(.long a0), (.long (0 : Int64)), (.long (0 : Int64)), (.long (0 : Int64))] := A14
    have E13_ := Exa.keep E13 K14
    have Z0__ := Nat.le_trans Z0_ K14.1
    show oGo Z _ _ _ _ _ _ n0 _ 1 4 h14 62 #[.val (.long a0), .second, .val (.long a1), .second, .val (.long s0), .second, .val (.long s1), .second, .val (.int k), .val (.long (4294967295 : Int64)), .second, .val (.int (Int32.ofNat n)), .val (.int (0 : Int32)), .val (.int (0 : Int32)), .val (.int (2 : Int32)), .val (.ref a), .unset, .unset, .unset, .unset, .unset, .unset, .unset, .unset, .unset, .unset, .unset, .unset, .unset, .unset, .unset, .unset, .unset, .unset, .unset, .unset, .unset, .unset, .unset, .unset] []
    refine oGo.aload (q := 64) at_62 rfl rfl rfl ?_
    refine oGo.iload (q := 66) at_64 rfl rfl ?_
    refine oGo.iconst (q := 67) (v := (1 : Int32)) at_66 rfl rfl ?_
    refine oGo.iadd (q := 68) at_67 rfl ?_
    refine oGo.lloadN (q := 69) at_68 rfl rfl ?_
    refine oGo.lastore (q := 70) (i := 1) at_69 rfl A14 (by decide) (Nat.le_of_ble_eq_true rfl) ge_a ?_
    intro h15 K15 A15
    replace A15 : Ars Z h15 a .long [(.long a0), (.long a1), (.long (0 : Int64)), (.long (0 : Int64))] := A15
    have E13__ := Exa.keep E13_ K15
    have Z0___ := Nat.le_trans Z0__ K15.1
    show oGo Z _ _ _ _ _ _ n0 _ 1 4 h15 70 #[.val (.long a0), .second, .val (.long a1), .second, .val (.long s0), .second, .val (.long s1), .second, .val (.int k), .val (.long (4294967295 : Int64)), .second, .val (.int (Int32.ofNat n)), .val (.int (0 : Int32)), .val (.int (0 : Int32)), .val (.int (2 : Int32)), .val (.ref a), .unset, .unset, .unset, .unset, .unset, .unset, .unset, .unset, .unset, .unset, .unset, .unset, .unset, .unset, .unset, .unset, .unset, .unset, .unset, .unset, .unset, .unset, .unset, .unset] []
    refine oGo.aload (q := 72) at_70 rfl rfl rfl ?_
    refine oGo.iload (q := 74) at_72 rfl rfl ?_
    refine oGo.lload (q := 76) at_74 rfl rfl ?_
    refine oGo.lastore (q := 77) (i := 2) at_76 rfl A15 (by decide) (Nat.le_of_ble_eq_true rfl) ge_a ?_
    intro h16 K16 A16
    replace A16 : Ars Z h16 a .long [(.long a0), (.long a1), (.long s0), (.long (0 : Int64))] := A16
    have E13___ := Exa.keep E13__ K16
    have Z0____ := Nat.le_trans Z0___ K16.1
    show oGo Z _ _ _ _ _ _ n0 _ 1 4 h16 77 #[.val (.long a0), .second, .val (.long a1), .second, .val (.long s0), .second, .val (.long s1), .second, .val (.int k), .val (.long (4294967295 : Int64)), .second, .val (.int (Int32.ofNat n)), .val (.int (0 : Int32)), .val (.int (0 : Int32)), .val (.int (2 : Int32)), .val (.ref a), .unset, .unset, .unset, .unset, .unset, .unset, .unset, .unset, .unset, .unset, .unset, .unset, .unset, .unset, .unset, .unset, .unset, .unset, .unset, .unset, .unset, .unset, .unset, .unset] []
    refine oGo.aload (q := 79) at_77 rfl rfl rfl ?_
    refine oGo.iload (q := 81) at_79 rfl rfl ?_
    refine oGo.iconst (q := 82) (v := (1 : Int32)) at_81 rfl rfl ?_
    refine oGo.iadd (q := 83) at_82 rfl ?_
    refine oGo.lload (q := 85) at_83 rfl rfl ?_
    refine oGo.lastore (q := 86) (i := 3) at_85 rfl A16 (by decide) (Nat.le_of_ble_eq_true rfl) ge_a ?_
    intro h17 K17 A17
    replace A17 : Ars Z h17 a .long [(.long a0), (.long a1), (.long s0), (.long s1)] := A17
    have E13____ := Exa.keep E13___ K17
    have Z0_____ := Nat.le_trans Z0____ K17.1
    show oGo Z _ _ _ _ _ _ n0 _ 1 4 h17 86 #[.val (.long a0), .second, .val (.long a1), .second, .val (.long s0), .second, .val (.long s1), .second, .val (.int k), .val (.long (4294967295 : Int64)), .second, .val (.int (Int32.ofNat n)), .val (.int (0 : Int32)), .val (.int (0 : Int32)), .val (.int (2 : Int32)), .val (.ref a), .unset, .unset, .unset, .unset, .unset, .unset, .unset, .unset, .unset, .unset, .unset, .unset, .unset, .unset, .unset, .unset, .unset, .unset, .unset, .unset, .unset, .unset, .unset, .unset] []
    refine oGo.aload (q := 88) at_86 rfl rfl rfl ?_
    refine oGo.iload (q := 90) at_88 rfl rfl ?_
    refine oGo.iload (q := 92) at_90 rfl rfl ?_
    refine oGo.iload (q := 94) at_92 rfl rfl ?_
    refine oGo.callS (W := 0) (rm := ({ frames := 1, cells := 0, slots := 0, locals := 17 } : Room)) (q := 97) [(.ref a), (.int (0 : Int32)), (.int (2 : Int32)), (.int (Int32.ofNat n))] [] at_94 rfl (hw _ (List.mem_of_getElem? (i := 2) rfl)) (hw _ (List.mem_of_getElem? (i := 3) rfl)) (hw _ (List.mem_of_getElem? (i := 4) rfl)) (hw _ (List.mem_of_getElem? (i := 5) rfl)) (by decide) (ca0 hw a n a0 a1 s0 s1 h17 n0 hn ge_a A17) rfl rfl own_pd0 rfl rfl (Nat.le_of_eq rfl) (by decide) (by decide) (by decide) (by decide) ?_
    rintro _ h18 ⟨r, y0, y1, rfl, K, A, H0, H1, H2⟩
    show oGo Z _ _ _ _ _ _ n0 _ 1 4 h18 97 #[.val (.long a0), .second, .val (.long a1), .second, .val (.long s0), .second, .val (.long s1), .second, .val (.int k), .val (.long (4294967295 : Int64)), .second, .val (.int (Int32.ofNat n)), .val (.int (0 : Int32)), .val (.int (0 : Int32)), .val (.int (2 : Int32)), .val (.ref a), .unset, .unset, .unset, .unset, .unset, .unset, .unset, .unset, .unset, .unset, .unset, .unset, .unset, .unset, .unset, .unset, .unset, .unset, .unset, .unset, .unset, .unset, .unset, .unset] [(.long r)]
    refine oGo.lstore (q := 99) (L' := #[.val (.long a0), .second, .val (.long a1), .second, .val (.long s0), .second, .val (.long s1), .second, .val (.int k), .val (.long (4294967295 : Int64)), .second, .val (.int (Int32.ofNat n)), .val (.int (0 : Int32)), .val (.int (0 : Int32)), .val (.int (2 : Int32)), .val (.ref a), .val (.long r), .second, .unset, .unset, .unset, .unset, .unset, .unset, .unset, .unset, .unset, .unset, .unset, .unset, .unset, .unset, .unset, .unset, .unset, .unset, .unset, .unset, .unset, .unset]) at_97 rfl rfl ?_
    refine oGo.lloadN (q := 100) at_99 rfl rfl ?_
    refine oGo.lload (q := 102) at_100 rfl rfl ?_
    refine oGo.land (q := 103) at_102 rfl ?_
    refine oGo.ldc2 (q := 106) (v := (2 : Int64)) at_103 rfl (hw _ (List.mem_of_getElem? (i := 6) rfl)) ?_
    refine oGo.lload (q := 108) at_106 rfl rfl ?_
    refine oGo.lload (q := 110) at_108 rfl rfl ?_
    refine oGo.land (q := 111) at_110 rfl ?_
    refine oGo.lmul (q := 112) at_111 rfl ?_
    refine oGo.ladd (q := 113) at_112 rfl ?_
    refine oGo.lconst (q := 114) (v := (1 : Int64)) at_113 rfl rfl ?_
    refine oGo.ladd (q := 115) at_114 rfl ?_
    refine oGo.lstore (q := 117) (L' := #[.val (.long a0), .second, .val (.long a1), .second, .val (.long s0), .second, .val (.long s1), .second, .val (.int k), .val (.long (4294967295 : Int64)), .second, .val (.int (Int32.ofNat n)), .val (.int (0 : Int32)), .val (.int (0 : Int32)), .val (.int (2 : Int32)), .val (.ref a), .val (.long r), .second, .val (.long (own_lo a0 s0 (1 : Int64))), .second, .unset, .unset, .unset, .unset, .unset, .unset, .unset, .unset, .unset, .unset, .unset, .unset, .unset, .unset, .unset, .unset, .unset, .unset, .unset, .unset]) at_115 rfl rfl ?_
    refine oGo.lloadN (q := 118) at_117 rfl rfl ?_
    refine oGo.bipush (q := 120) (v := (32 : Int32)) at_118 rfl rfl ?_
    refine oGo.lushr (q := 121) at_120 rfl ?_
    refine oGo.ldc2 (q := 124) (v := (2 : Int64)) at_121 rfl (hw _ (List.mem_of_getElem? (i := 6) rfl)) ?_
    refine oGo.lload (q := 126) at_124 rfl rfl ?_
    refine oGo.bipush (q := 128) (v := (32 : Int32)) at_126 rfl rfl ?_
    refine oGo.lushr (q := 129) at_128 rfl ?_
    refine oGo.lmul (q := 130) at_129 rfl ?_
    refine oGo.ladd (q := 131) at_130 rfl ?_
    refine oGo.lload (q := 133) at_131 rfl rfl ?_
    refine oGo.bipush (q := 135) (v := (32 : Int32)) at_133 rfl rfl ?_
    refine oGo.lushr (q := 136) at_135 rfl ?_
    refine oGo.ladd (q := 137) at_136 rfl ?_
    refine oGo.lstore (q := 139) (L' := #[.val (.long a0), .second, .val (.long a1), .second, .val (.long s0), .second, .val (.long s1), .second, .val (.int k), .val (.long (4294967295 : Int64)), .second, .val (.int (Int32.ofNat n)), .val (.int (0 : Int32)), .val (.int (0 : Int32)), .val (.int (2 : Int32)), .val (.ref a), .val (.long r), .second, .val (.long (own_lo a0 s0 (1 : Int64))), .second, .val (.long (own_hi a0 s0 (own_lo a0 s0 (1 : Int64)))), .second, .unset, .unset, .unset, .unset, .unset, .unset, .unset, .unset, .unset, .unset, .unset, .unset, .unset, .unset, .unset, .unset, .unset, .unset]) at_137 rfl rfl ?_
    refine oGo.lload (q := 141) at_139 rfl rfl ?_
    refine oGo.lload (q := 143) at_141 rfl rfl ?_
    refine oGo.land (q := 144) at_143 rfl ?_
    refine oGo.lload (q := 146) at_144 rfl rfl ?_
    refine oGo.bipush (q := 148) (v := (32 : Int32)) at_146 rfl rfl ?_
    refine oGo.lshl (q := 149) at_148 rfl ?_
    refine oGo.lor (q := 150) at_149 rfl ?_
    refine oGo.lstore (q := 152) (L' := #[.val (.long a0), .second, .val (.long a1), .second, .val (.long s0), .second, .val (.long s1), .second, .val (.int k), .val (.long (4294967295 : Int64)), .second, .val (.int (Int32.ofNat n)), .val (.int (0 : Int32)), .val (.int (0 : Int32)), .val (.int (2 : Int32)), .val (.ref a), .val (.long r), .second, .val (.long (own_lo a0 s0 (1 : Int64))), .second, .val (.long (own_hi a0 s0 (own_lo a0 s0 (1 : Int64)))), .second, .val (.long (own_cmb (own_lo a0 s0 (1 : Int64)) (own_hi a0 s0 (own_lo a0 s0 (1 : Int64))))), .second, .unset, .unset, .unset, .unset, .unset, .unset, .unset, .unset, .unset, .unset, .unset, .unset, .unset, .unset, .unset, .unset]) at_150 rfl rfl ?_
    refine oGo.lload (q := 154) at_152 rfl rfl ?_
    refine oGo.bipush (q := 156) (v := (32 : Int32)) at_154 rfl rfl ?_
    refine oGo.lushr (q := 157) at_156 rfl ?_
    refine oGo.lstore (q := 159) (L' := #[.val (.long a0), .second, .val (.long a1), .second, .val (.long s0), .second, .val (.long s1), .second, .val (.int k), .val (.long (4294967295 : Int64)), .second, .val (.int (Int32.ofNat n)), .val (.int (0 : Int32)), .val (.int (0 : Int32)), .val (.int (2 : Int32)), .val (.ref a), .val (.long r), .second, .val (.long (own_lo a0 s0 (1 : Int64))), .second, .val (.long (own_hi a0 s0 (own_lo a0 s0 (1 : Int64)))), .second, .val (.long (own_cmb (own_lo a0 s0 (1 : Int64)) (own_hi a0 s0 (own_lo a0 s0 (1 : Int64))))), .second, .val (.long (own_sh (own_hi a0 s0 (own_lo a0 s0 (1 : Int64))))), .second, .unset, .unset, .unset, .unset, .unset, .unset, .unset, .unset, .unset, .unset, .unset, .unset, .unset, .unset]) at_157 rfl rfl ?_
    refine oGo.lloadN (q := 160) at_159 rfl rfl ?_
    refine oGo.lload (q := 162) at_160 rfl rfl ?_
    refine oGo.land (q := 163) at_162 rfl ?_
    refine oGo.ldc2 (q := 166) (v := (2 : Int64)) at_163 rfl (hw _ (List.mem_of_getElem? (i := 6) rfl)) ?_
    refine oGo.lload (q := 168) at_166 rfl rfl ?_
    refine oGo.lload (q := 170) at_168 rfl rfl ?_
    refine oGo.land (q := 171) at_170 rfl ?_
    refine oGo.lmul (q := 172) at_171 rfl ?_
    refine oGo.ladd (q := 173) at_172 rfl ?_
    refine oGo.lload (q := 175) at_173 rfl rfl ?_
    refine oGo.ladd (q := 176) at_175 rfl ?_
    refine oGo.lstore (q := 178) (L' := #[.val (.long a0), .second, .val (.long a1), .second, .val (.long s0), .second, .val (.long s1), .second, .val (.int k), .val (.long (4294967295 : Int64)), .second, .val (.int (Int32.ofNat n)), .val (.int (0 : Int32)), .val (.int (0 : Int32)), .val (.int (2 : Int32)), .val (.ref a), .val (.long r), .second, .val (.long (own_lo a0 s0 (1 : Int64))), .second, .val (.long (own_hi a0 s0 (own_lo a0 s0 (1 : Int64)))), .second, .val (.long (own_cmb (own_lo a0 s0 (1 : Int64)) (own_hi a0 s0 (own_lo a0 s0 (1 : Int64))))), .second, .val (.long (own_sh (own_hi a0 s0 (own_lo a0 s0 (1 : Int64))))), .second, .val (.long (own_lo a1 s1 (own_sh (own_hi a0 s0 (own_lo a0 s0 (1 : Int64)))))), .second, .unset, .unset, .unset, .unset, .unset, .unset, .unset, .unset, .unset, .unset, .unset, .unset]) at_176 rfl rfl ?_
    refine oGo.lloadN (q := 179) at_178 rfl rfl ?_
    refine oGo.bipush (q := 181) (v := (32 : Int32)) at_179 rfl rfl ?_
    refine oGo.lushr (q := 182) at_181 rfl ?_
    refine oGo.ldc2 (q := 185) (v := (2 : Int64)) at_182 rfl (hw _ (List.mem_of_getElem? (i := 6) rfl)) ?_
    refine oGo.lload (q := 187) at_185 rfl rfl ?_
    refine oGo.bipush (q := 189) (v := (32 : Int32)) at_187 rfl rfl ?_
    refine oGo.lushr (q := 190) at_189 rfl ?_
    refine oGo.lmul (q := 191) at_190 rfl ?_
    refine oGo.ladd (q := 192) at_191 rfl ?_
    refine oGo.lload (q := 194) at_192 rfl rfl ?_
    refine oGo.bipush (q := 196) (v := (32 : Int32)) at_194 rfl rfl ?_
    refine oGo.lushr (q := 197) at_196 rfl ?_
    refine oGo.ladd (q := 198) at_197 rfl ?_
    refine oGo.lstore (q := 200) (L' := #[.val (.long a0), .second, .val (.long a1), .second, .val (.long s0), .second, .val (.long s1), .second, .val (.int k), .val (.long (4294967295 : Int64)), .second, .val (.int (Int32.ofNat n)), .val (.int (0 : Int32)), .val (.int (0 : Int32)), .val (.int (2 : Int32)), .val (.ref a), .val (.long r), .second, .val (.long (own_lo a0 s0 (1 : Int64))), .second, .val (.long (own_hi a0 s0 (own_lo a0 s0 (1 : Int64)))), .second, .val (.long (own_cmb (own_lo a0 s0 (1 : Int64)) (own_hi a0 s0 (own_lo a0 s0 (1 : Int64))))), .second, .val (.long (own_sh (own_hi a0 s0 (own_lo a0 s0 (1 : Int64))))), .second, .val (.long (own_lo a1 s1 (own_sh (own_hi a0 s0 (own_lo a0 s0 (1 : Int64)))))), .second, .val (.long (own_hi a1 s1 (own_lo a1 s1 (own_sh (own_hi a0 s0 (own_lo a0 s0 (1 : Int64))))))), .second, .unset, .unset, .unset, .unset, .unset, .unset, .unset, .unset, .unset, .unset]) at_198 rfl rfl ?_
    refine oGo.lload (q := 202) at_200 rfl rfl ?_
    refine oGo.lload (q := 204) at_202 rfl rfl ?_
    refine oGo.land (q := 205) at_204 rfl ?_
    refine oGo.lload (q := 207) at_205 rfl rfl ?_
    refine oGo.bipush (q := 209) (v := (32 : Int32)) at_207 rfl rfl ?_
    refine oGo.lshl (q := 210) at_209 rfl ?_
    refine oGo.lor (q := 211) at_210 rfl ?_
    refine oGo.lstore (q := 213) (L' := #[.val (.long a0), .second, .val (.long a1), .second, .val (.long s0), .second, .val (.long s1), .second, .val (.int k), .val (.long (4294967295 : Int64)), .second, .val (.int (Int32.ofNat n)), .val (.int (0 : Int32)), .val (.int (0 : Int32)), .val (.int (2 : Int32)), .val (.ref a), .val (.long r), .second, .val (.long (own_lo a0 s0 (1 : Int64))), .second, .val (.long (own_hi a0 s0 (own_lo a0 s0 (1 : Int64)))), .second, .val (.long (own_cmb (own_lo a0 s0 (1 : Int64)) (own_hi a0 s0 (own_lo a0 s0 (1 : Int64))))), .second, .val (.long (own_sh (own_hi a0 s0 (own_lo a0 s0 (1 : Int64))))), .second, .val (.long (own_lo a1 s1 (own_sh (own_hi a0 s0 (own_lo a0 s0 (1 : Int64)))))), .second, .val (.long (own_hi a1 s1 (own_lo a1 s1 (own_sh (own_hi a0 s0 (own_lo a0 s0 (1 : Int64))))))), .second, .val (.long (own_cmb (own_lo a1 s1 (own_sh (own_hi a0 s0 (own_lo a0 s0 (1 : Int64))))) (own_hi a1 s1 (own_lo a1 s1 (own_sh (own_hi a0 s0 (own_lo a0 s0 (1 : Int64)))))))), .second, .unset, .unset, .unset, .unset, .unset, .unset, .unset, .unset]) at_211 rfl rfl ?_
    refine oGo.lload (q := 215) at_213 rfl rfl ?_
    refine oGo.bipush (q := 217) (v := (32 : Int32)) at_215 rfl rfl ?_
    refine oGo.lushr (q := 218) at_217 rfl ?_
    refine oGo.lstore (q := 220) (L' := #[.val (.long a0), .second, .val (.long a1), .second, .val (.long s0), .second, .val (.long s1), .second, .val (.int k), .val (.long (4294967295 : Int64)), .second, .val (.int (Int32.ofNat n)), .val (.int (0 : Int32)), .val (.int (0 : Int32)), .val (.int (2 : Int32)), .val (.ref a), .val (.long r), .second, .val (.long (own_lo a0 s0 (1 : Int64))), .second, .val (.long (own_hi a0 s0 (own_lo a0 s0 (1 : Int64)))), .second, .val (.long (own_cmb (own_lo a0 s0 (1 : Int64)) (own_hi a0 s0 (own_lo a0 s0 (1 : Int64))))), .second, .val (.long (own_sh (own_hi a0 s0 (own_lo a0 s0 (1 : Int64))))), .second, .val (.long (own_lo a1 s1 (own_sh (own_hi a0 s0 (own_lo a0 s0 (1 : Int64)))))), .second, .val (.long (own_hi a1 s1 (own_lo a1 s1 (own_sh (own_hi a0 s0 (own_lo a0 s0 (1 : Int64))))))), .second, .val (.long (own_cmb (own_lo a1 s1 (own_sh (own_hi a0 s0 (own_lo a0 s0 (1 : Int64))))) (own_hi a1 s1 (own_lo a1 s1 (own_sh (own_hi a0 s0 (own_lo a0 s0 (1 : Int64)))))))), .second, .val (.long (own_sh (own_hi a1 s1 (own_lo a1 s1 (own_sh (own_hi a0 s0 (own_lo a0 s0 (1 : Int64)))))))), .second, .unset, .unset, .unset, .unset, .unset, .unset]) at_218 rfl rfl ?_
    refine oGo.iload (q := 222) at_220 rfl rfl ?_
    refine oGo.iconst (q := 223) (v := (1 : Int32)) at_222 rfl rfl ?_
    have J272 : ∀ (e0 e1 er : Int64), r = er → y0 = e0 → y1 = e1 → oGo Z x.cls x.name code maxLocals ret room_1 n0 (fun v _ => v = some (.int 1)) 1 4 h18 272 #[.val (.long a0), .second, .val (.long a1), .second, .val (.long s0), .second, .val (.long s1), .second, .val (.int k), .val (.long (4294967295 : Int64)), .second, .val (.int (Int32.ofNat n)), .val (.int (0 : Int32)), .val (.int (0 : Int32)), .val (.int (2 : Int32)), .val (.ref a), .val (.long r), .second, .val (.long (own_lo a0 s0 (1 : Int64))), .second, .val (.long (own_hi a0 s0 (own_lo a0 s0 (1 : Int64)))), .second, .val (.long (own_cmb (own_lo a0 s0 (1 : Int64)) (own_hi a0 s0 (own_lo a0 s0 (1 : Int64))))), .second, .val (.long (own_sh (own_hi a0 s0 (own_lo a0 s0 (1 : Int64))))), .second, .val (.long (own_lo a1 s1 (own_sh (own_hi a0 s0 (own_lo a0 s0 (1 : Int64)))))), .second, .val (.long (own_hi a1 s1 (own_lo a1 s1 (own_sh (own_hi a0 s0 (own_lo a0 s0 (1 : Int64))))))), .second, .val (.long (own_cmb (own_lo a1 s1 (own_sh (own_hi a0 s0 (own_lo a0 s0 (1 : Int64))))) (own_hi a1 s1 (own_lo a1 s1 (own_sh (own_hi a0 s0 (own_lo a0 s0 (1 : Int64)))))))), .second, .val (.long (own_sh (own_hi a1 s1 (own_lo a1 s1 (own_sh (own_hi a0 s0 (own_lo a0 s0 (1 : Int64)))))))), .second, .val (.long e0), .second, .val (.long e1), .second, .val (.long er), .second] [] := by
      intro e0 e1 er g0 g1 g2
      refine oGo.lload (q := 274) at_272 rfl rfl ?_
      refine oGo.lload (q := 276) at_274 rfl rfl ?_
      refine oGo.lif_ne (pc2 := 277) (q := 332) (r := 280) at_276 rfl at_277 (by decide) rfl (fun hc => absurd g0 hc) (fun hc => ?_)
      refine oGo.aload (q := 282) at_280 rfl rfl rfl ?_
      refine oGo.iload (q := 284) at_282 rfl rfl ?_
      refine oGo.laload (q := 285) (i := 0) (v := (.long y0)) at_284 rfl A (by decide) rfl ?_
      refine oGo.lload (q := 287) at_285 rfl rfl ?_
      refine oGo.lif_ne (pc2 := 288) (q := 332) (r := 291) at_287 rfl at_288 (by decide) rfl (fun hc => absurd g1 hc) (fun hc => ?_)
      refine oGo.aload (q := 293) at_291 rfl rfl rfl ?_
      refine oGo.iload (q := 295) at_293 rfl rfl ?_
      refine oGo.iconst (q := 296) (v := (1 : Int32)) at_295 rfl rfl ?_
      refine oGo.iadd (q := 297) at_296 rfl ?_
      refine oGo.laload (q := 298) (i := 1) (v := (.long y1)) at_297 rfl A (by decide) rfl ?_
      refine oGo.lload (q := 300) at_298 rfl rfl ?_
      refine oGo.lif_ne (pc2 := 301) (q := 332) (r := 304) at_300 rfl at_301 (by decide) rfl (fun hc => absurd g2 hc) (fun hc => ?_)
      refine oGo.aload (q := 306) at_304 rfl rfl rfl ?_
      refine oGo.iload (q := 308) at_306 rfl rfl ?_
      refine oGo.laload (q := 309) (i := 2) (v := (.long s0)) at_308 rfl A (by decide) rfl ?_
      refine oGo.lload (q := 311) at_309 rfl rfl ?_
      refine oGo.lif_ne (pc2 := 312) (q := 332) (r := 315) at_311 rfl at_312 (by decide) rfl (fun hc => absurd rfl hc) (fun hc => ?_)
      refine oGo.aload (q := 317) at_315 rfl rfl rfl ?_
      refine oGo.iload (q := 319) at_317 rfl rfl ?_
      refine oGo.iconst (q := 320) (v := (1 : Int32)) at_319 rfl rfl ?_
      refine oGo.iadd (q := 321) at_320 rfl ?_
      refine oGo.laload (q := 322) (i := 3) (v := (.long s1)) at_321 rfl A (by decide) rfl ?_
      refine oGo.lload (q := 324) at_322 rfl rfl ?_
      refine oGo.lif_ne (pc2 := 325) (q := 332) (r := 328) at_324 rfl at_325 (by decide) rfl (fun hc => absurd rfl hc) (fun hc => ?_)
      refine oGo.iconst (q := 329) (v := (1 : Int32)) at_328 rfl rfl ?_
      refine oGo.goto (q := 333) at_329 (by decide) ?_
      exact oGo.retN (t := .boolean) at_333 rfl (by simp) (by decide) (by decide) (rfl)
    rcases hn3 with rfl | rfl | rfl
    · skip -- n = 0
      refine oGo.icmp_lt (q := 231) (r := 226) at_223 (by decide) rfl (fun hc => ?_) (fun hc => absurd hc (by decide))
      refine oGo.lloadN (q := 232) at_231 rfl rfl ?_
      refine oGo.lstore (q := 234) (L' := #[.val (.long a0), .second, .val (.long a1), .second, .val (.long s0), .second, .val (.long s1), .second, .val (.int k), .val (.long (4294967295 : Int64)), .second, .val (.int (Int32.ofNat 0)), .val (.int (0 : Int32)), .val (.int (0 : Int32)), .val (.int (2 : Int32)), .val (.ref a), .val (.long r), .second, .val (.long (own_lo a0 s0 (1 : Int64))), .second, .val (.long (own_hi a0 s0 (own_lo a0 s0 (1 : Int64)))), .second, .val (.long (own_cmb (own_lo a0 s0 (1 : Int64)) (own_hi a0 s0 (own_lo a0 s0 (1 : Int64))))), .second, .val (.long (own_sh (own_hi a0 s0 (own_lo a0 s0 (1 : Int64))))), .second, .val (.long (own_lo a1 s1 (own_sh (own_hi a0 s0 (own_lo a0 s0 (1 : Int64)))))), .second, .val (.long (own_hi a1 s1 (own_lo a1 s1 (own_sh (own_hi a0 s0 (own_lo a0 s0 (1 : Int64))))))), .second, .val (.long (own_cmb (own_lo a1 s1 (own_sh (own_hi a0 s0 (own_lo a0 s0 (1 : Int64))))) (own_hi a1 s1 (own_lo a1 s1 (own_sh (own_hi a0 s0 (own_lo a0 s0 (1 : Int64)))))))), .second, .val (.long (own_sh (own_hi a1 s1 (own_lo a1 s1 (own_sh (own_hi a0 s0 (own_lo a0 s0 (1 : Int64)))))))), .second, .val (.long a0), .second, .unset, .unset, .unset, .unset]) at_232 rfl rfl ?_
      refine oGo.iload (q := 236) at_234 rfl rfl ?_
      refine oGo.iconst (q := 237) (v := (2 : Int32)) at_236 rfl rfl ?_
      refine oGo.icmp_lt (q := 245) (r := 240) at_237 (by decide) rfl (fun hc => ?_) (fun hc => absurd hc (by decide))
      refine oGo.lloadN (q := 246) at_245 rfl rfl ?_
      refine oGo.lstore (q := 248) (L' := #[.val (.long a0), .second, .val (.long a1), .second, .val (.long s0), .second, .val (.long s1), .second, .val (.int k), .val (.long (4294967295 : Int64)), .second, .val (.int (Int32.ofNat 0)), .val (.int (0 : Int32)), .val (.int (0 : Int32)), .val (.int (2 : Int32)), .val (.ref a), .val (.long r), .second, .val (.long (own_lo a0 s0 (1 : Int64))), .second, .val (.long (own_hi a0 s0 (own_lo a0 s0 (1 : Int64)))), .second, .val (.long (own_cmb (own_lo a0 s0 (1 : Int64)) (own_hi a0 s0 (own_lo a0 s0 (1 : Int64))))), .second, .val (.long (own_sh (own_hi a0 s0 (own_lo a0 s0 (1 : Int64))))), .second, .val (.long (own_lo a1 s1 (own_sh (own_hi a0 s0 (own_lo a0 s0 (1 : Int64)))))), .second, .val (.long (own_hi a1 s1 (own_lo a1 s1 (own_sh (own_hi a0 s0 (own_lo a0 s0 (1 : Int64))))))), .second, .val (.long (own_cmb (own_lo a1 s1 (own_sh (own_hi a0 s0 (own_lo a0 s0 (1 : Int64))))) (own_hi a1 s1 (own_lo a1 s1 (own_sh (own_hi a0 s0 (own_lo a0 s0 (1 : Int64)))))))), .second, .val (.long (own_sh (own_hi a1 s1 (own_lo a1 s1 (own_sh (own_hi a0 s0 (own_lo a0 s0 (1 : Int64)))))))), .second, .val (.long a0), .second, .val (.long a1), .second, .unset, .unset]) at_246 rfl rfl ?_
      refine oGo.iload (q := 250) at_248 rfl rfl ?_
      refine oGo.if_ne (q := 257) (r := 253) at_250 (by decide) rfl (fun hc => absurd rfl hc) (fun hc => ?_)
      refine oGo.lconst (q := 254) (v := (1 : Int64)) at_253 rfl rfl ?_
      refine oGo.goto (q := 270) at_254 (by decide) ?_
      refine oGo.lstore (q := 272) (L' := #[.val (.long a0), .second, .val (.long a1), .second, .val (.long s0), .second, .val (.long s1), .second, .val (.int k), .val (.long (4294967295 : Int64)), .second, .val (.int (Int32.ofNat 0)), .val (.int (0 : Int32)), .val (.int (0 : Int32)), .val (.int (2 : Int32)), .val (.ref a), .val (.long r), .second, .val (.long (own_lo a0 s0 (1 : Int64))), .second, .val (.long (own_hi a0 s0 (own_lo a0 s0 (1 : Int64)))), .second, .val (.long (own_cmb (own_lo a0 s0 (1 : Int64)) (own_hi a0 s0 (own_lo a0 s0 (1 : Int64))))), .second, .val (.long (own_sh (own_hi a0 s0 (own_lo a0 s0 (1 : Int64))))), .second, .val (.long (own_lo a1 s1 (own_sh (own_hi a0 s0 (own_lo a0 s0 (1 : Int64)))))), .second, .val (.long (own_hi a1 s1 (own_lo a1 s1 (own_sh (own_hi a0 s0 (own_lo a0 s0 (1 : Int64))))))), .second, .val (.long (own_cmb (own_lo a1 s1 (own_sh (own_hi a0 s0 (own_lo a0 s0 (1 : Int64))))) (own_hi a1 s1 (own_lo a1 s1 (own_sh (own_hi a0 s0 (own_lo a0 s0 (1 : Int64)))))))), .second, .val (.long (own_sh (own_hi a1 s1 (own_lo a1 s1 (own_sh (own_hi a0 s0 (own_lo a0 s0 (1 : Int64)))))))), .second, .val (.long a0), .second, .val (.long a1), .second, .val (.long (1 : Int64)), .second]) at_270 rfl rfl ?_
      exact J272 _ _ _ (H0 rfl).1 (H0 rfl).2.1 (H0 rfl).2.2
    · skip -- n = 1
      refine oGo.icmp_lt (q := 231) (r := 226) at_223 (by decide) rfl (fun hc => absurd hc (by decide)) (fun hc => ?_)
      refine oGo.lload (q := 228) at_226 rfl rfl ?_
      refine oGo.goto (q := 232) at_228 (by decide) ?_
      refine oGo.lstore (q := 234) (L' := #[.val (.long a0), .second, .val (.long a1), .second, .val (.long s0), .second, .val (.long s1), .second, .val (.int k), .val (.long (4294967295 : Int64)), .second, .val (.int (Int32.ofNat 1)), .val (.int (0 : Int32)), .val (.int (0 : Int32)), .val (.int (2 : Int32)), .val (.ref a), .val (.long r), .second, .val (.long (own_lo a0 s0 (1 : Int64))), .second, .val (.long (own_hi a0 s0 (own_lo a0 s0 (1 : Int64)))), .second, .val (.long (own_cmb (own_lo a0 s0 (1 : Int64)) (own_hi a0 s0 (own_lo a0 s0 (1 : Int64))))), .second, .val (.long (own_sh (own_hi a0 s0 (own_lo a0 s0 (1 : Int64))))), .second, .val (.long (own_lo a1 s1 (own_sh (own_hi a0 s0 (own_lo a0 s0 (1 : Int64)))))), .second, .val (.long (own_hi a1 s1 (own_lo a1 s1 (own_sh (own_hi a0 s0 (own_lo a0 s0 (1 : Int64))))))), .second, .val (.long (own_cmb (own_lo a1 s1 (own_sh (own_hi a0 s0 (own_lo a0 s0 (1 : Int64))))) (own_hi a1 s1 (own_lo a1 s1 (own_sh (own_hi a0 s0 (own_lo a0 s0 (1 : Int64)))))))), .second, .val (.long (own_sh (own_hi a1 s1 (own_lo a1 s1 (own_sh (own_hi a0 s0 (own_lo a0 s0 (1 : Int64)))))))), .second, .val (.long (own_cmb (own_lo a0 s0 (1 : Int64)) (own_hi a0 s0 (own_lo a0 s0 (1 : Int64))))), .second, .unset, .unset, .unset, .unset]) at_232 rfl rfl ?_
      refine oGo.iload (q := 236) at_234 rfl rfl ?_
      refine oGo.iconst (q := 237) (v := (2 : Int32)) at_236 rfl rfl ?_
      refine oGo.icmp_lt (q := 245) (r := 240) at_237 (by decide) rfl (fun hc => ?_) (fun hc => absurd hc (by decide))
      refine oGo.lloadN (q := 246) at_245 rfl rfl ?_
      refine oGo.lstore (q := 248) (L' := #[.val (.long a0), .second, .val (.long a1), .second, .val (.long s0), .second, .val (.long s1), .second, .val (.int k), .val (.long (4294967295 : Int64)), .second, .val (.int (Int32.ofNat 1)), .val (.int (0 : Int32)), .val (.int (0 : Int32)), .val (.int (2 : Int32)), .val (.ref a), .val (.long r), .second, .val (.long (own_lo a0 s0 (1 : Int64))), .second, .val (.long (own_hi a0 s0 (own_lo a0 s0 (1 : Int64)))), .second, .val (.long (own_cmb (own_lo a0 s0 (1 : Int64)) (own_hi a0 s0 (own_lo a0 s0 (1 : Int64))))), .second, .val (.long (own_sh (own_hi a0 s0 (own_lo a0 s0 (1 : Int64))))), .second, .val (.long (own_lo a1 s1 (own_sh (own_hi a0 s0 (own_lo a0 s0 (1 : Int64)))))), .second, .val (.long (own_hi a1 s1 (own_lo a1 s1 (own_sh (own_hi a0 s0 (own_lo a0 s0 (1 : Int64))))))), .second, .val (.long (own_cmb (own_lo a1 s1 (own_sh (own_hi a0 s0 (own_lo a0 s0 (1 : Int64))))) (own_hi a1 s1 (own_lo a1 s1 (own_sh (own_hi a0 s0 (own_lo a0 s0 (1 : Int64)))))))), .second, .val (.long (own_sh (own_hi a1 s1 (own_lo a1 s1 (own_sh (own_hi a0 s0 (own_lo a0 s0 (1 : Int64)))))))), .second, .val (.long (own_cmb (own_lo a0 s0 (1 : Int64)) (own_hi a0 s0 (own_lo a0 s0 (1 : Int64))))), .second, .val (.long a1), .second, .unset, .unset]) at_246 rfl rfl ?_
      refine oGo.iload (q := 250) at_248 rfl rfl ?_
      refine oGo.if_ne (q := 257) (r := 253) at_250 (by decide) rfl (fun hc => ?_) (fun hc => absurd hc (by decide))
      refine oGo.iload (q := 259) at_257 rfl rfl ?_
      refine oGo.iconst (q := 260) (v := (1 : Int32)) at_259 rfl rfl ?_
      refine oGo.icmp_ne (q := 268) (r := 263) at_260 (by decide) rfl (fun hc => absurd rfl hc) (fun hc => ?_)
      refine oGo.lload (q := 265) at_263 rfl rfl ?_
      refine oGo.goto (q := 270) at_265 (by decide) ?_
      refine oGo.lstore (q := 272) (L' := #[.val (.long a0), .second, .val (.long a1), .second, .val (.long s0), .second, .val (.long s1), .second, .val (.int k), .val (.long (4294967295 : Int64)), .second, .val (.int (Int32.ofNat 1)), .val (.int (0 : Int32)), .val (.int (0 : Int32)), .val (.int (2 : Int32)), .val (.ref a), .val (.long r), .second, .val (.long (own_lo a0 s0 (1 : Int64))), .second, .val (.long (own_hi a0 s0 (own_lo a0 s0 (1 : Int64)))), .second, .val (.long (own_cmb (own_lo a0 s0 (1 : Int64)) (own_hi a0 s0 (own_lo a0 s0 (1 : Int64))))), .second, .val (.long (own_sh (own_hi a0 s0 (own_lo a0 s0 (1 : Int64))))), .second, .val (.long (own_lo a1 s1 (own_sh (own_hi a0 s0 (own_lo a0 s0 (1 : Int64)))))), .second, .val (.long (own_hi a1 s1 (own_lo a1 s1 (own_sh (own_hi a0 s0 (own_lo a0 s0 (1 : Int64))))))), .second, .val (.long (own_cmb (own_lo a1 s1 (own_sh (own_hi a0 s0 (own_lo a0 s0 (1 : Int64))))) (own_hi a1 s1 (own_lo a1 s1 (own_sh (own_hi a0 s0 (own_lo a0 s0 (1 : Int64)))))))), .second, .val (.long (own_sh (own_hi a1 s1 (own_lo a1 s1 (own_sh (own_hi a0 s0 (own_lo a0 s0 (1 : Int64)))))))), .second, .val (.long (own_cmb (own_lo a0 s0 (1 : Int64)) (own_hi a0 s0 (own_lo a0 s0 (1 : Int64))))), .second, .val (.long a1), .second, .val (.long (own_sh (own_hi a0 s0 (own_lo a0 s0 (1 : Int64))))), .second]) at_270 rfl rfl ?_
      exact J272 _ _ _ (H1 rfl).1 (H1 rfl).2.1 (H1 rfl).2.2
    · skip -- n = 2
      refine oGo.icmp_lt (q := 231) (r := 226) at_223 (by decide) rfl (fun hc => absurd hc (by decide)) (fun hc => ?_)
      refine oGo.lload (q := 228) at_226 rfl rfl ?_
      refine oGo.goto (q := 232) at_228 (by decide) ?_
      refine oGo.lstore (q := 234) (L' := #[.val (.long a0), .second, .val (.long a1), .second, .val (.long s0), .second, .val (.long s1), .second, .val (.int k), .val (.long (4294967295 : Int64)), .second, .val (.int (Int32.ofNat 2)), .val (.int (0 : Int32)), .val (.int (0 : Int32)), .val (.int (2 : Int32)), .val (.ref a), .val (.long r), .second, .val (.long (own_lo a0 s0 (1 : Int64))), .second, .val (.long (own_hi a0 s0 (own_lo a0 s0 (1 : Int64)))), .second, .val (.long (own_cmb (own_lo a0 s0 (1 : Int64)) (own_hi a0 s0 (own_lo a0 s0 (1 : Int64))))), .second, .val (.long (own_sh (own_hi a0 s0 (own_lo a0 s0 (1 : Int64))))), .second, .val (.long (own_lo a1 s1 (own_sh (own_hi a0 s0 (own_lo a0 s0 (1 : Int64)))))), .second, .val (.long (own_hi a1 s1 (own_lo a1 s1 (own_sh (own_hi a0 s0 (own_lo a0 s0 (1 : Int64))))))), .second, .val (.long (own_cmb (own_lo a1 s1 (own_sh (own_hi a0 s0 (own_lo a0 s0 (1 : Int64))))) (own_hi a1 s1 (own_lo a1 s1 (own_sh (own_hi a0 s0 (own_lo a0 s0 (1 : Int64)))))))), .second, .val (.long (own_sh (own_hi a1 s1 (own_lo a1 s1 (own_sh (own_hi a0 s0 (own_lo a0 s0 (1 : Int64)))))))), .second, .val (.long (own_cmb (own_lo a0 s0 (1 : Int64)) (own_hi a0 s0 (own_lo a0 s0 (1 : Int64))))), .second, .unset, .unset, .unset, .unset]) at_232 rfl rfl ?_
      refine oGo.iload (q := 236) at_234 rfl rfl ?_
      refine oGo.iconst (q := 237) (v := (2 : Int32)) at_236 rfl rfl ?_
      refine oGo.icmp_lt (q := 245) (r := 240) at_237 (by decide) rfl (fun hc => absurd hc (by decide)) (fun hc => ?_)
      refine oGo.lload (q := 242) at_240 rfl rfl ?_
      refine oGo.goto (q := 246) at_242 (by decide) ?_
      refine oGo.lstore (q := 248) (L' := #[.val (.long a0), .second, .val (.long a1), .second, .val (.long s0), .second, .val (.long s1), .second, .val (.int k), .val (.long (4294967295 : Int64)), .second, .val (.int (Int32.ofNat 2)), .val (.int (0 : Int32)), .val (.int (0 : Int32)), .val (.int (2 : Int32)), .val (.ref a), .val (.long r), .second, .val (.long (own_lo a0 s0 (1 : Int64))), .second, .val (.long (own_hi a0 s0 (own_lo a0 s0 (1 : Int64)))), .second, .val (.long (own_cmb (own_lo a0 s0 (1 : Int64)) (own_hi a0 s0 (own_lo a0 s0 (1 : Int64))))), .second, .val (.long (own_sh (own_hi a0 s0 (own_lo a0 s0 (1 : Int64))))), .second, .val (.long (own_lo a1 s1 (own_sh (own_hi a0 s0 (own_lo a0 s0 (1 : Int64)))))), .second, .val (.long (own_hi a1 s1 (own_lo a1 s1 (own_sh (own_hi a0 s0 (own_lo a0 s0 (1 : Int64))))))), .second, .val (.long (own_cmb (own_lo a1 s1 (own_sh (own_hi a0 s0 (own_lo a0 s0 (1 : Int64))))) (own_hi a1 s1 (own_lo a1 s1 (own_sh (own_hi a0 s0 (own_lo a0 s0 (1 : Int64)))))))), .second, .val (.long (own_sh (own_hi a1 s1 (own_lo a1 s1 (own_sh (own_hi a0 s0 (own_lo a0 s0 (1 : Int64)))))))), .second, .val (.long (own_cmb (own_lo a0 s0 (1 : Int64)) (own_hi a0 s0 (own_lo a0 s0 (1 : Int64))))), .second, .val (.long (own_cmb (own_lo a1 s1 (own_sh (own_hi a0 s0 (own_lo a0 s0 (1 : Int64))))) (own_hi a1 s1 (own_lo a1 s1 (own_sh (own_hi a0 s0 (own_lo a0 s0 (1 : Int64)))))))), .second, .unset, .unset]) at_246 rfl rfl ?_
      refine oGo.iload (q := 250) at_248 rfl rfl ?_
      refine oGo.if_ne (q := 257) (r := 253) at_250 (by decide) rfl (fun hc => ?_) (fun hc => absurd hc (by decide))
      refine oGo.iload (q := 259) at_257 rfl rfl ?_
      refine oGo.iconst (q := 260) (v := (1 : Int32)) at_259 rfl rfl ?_
      refine oGo.icmp_ne (q := 268) (r := 263) at_260 (by decide) rfl (fun hc => ?_) (fun hc => absurd hc (by decide))
      refine oGo.lload (q := 270) at_268 rfl rfl ?_
      refine oGo.lstore (q := 272) (L' := #[.val (.long a0), .second, .val (.long a1), .second, .val (.long s0), .second, .val (.long s1), .second, .val (.int k), .val (.long (4294967295 : Int64)), .second, .val (.int (Int32.ofNat 2)), .val (.int (0 : Int32)), .val (.int (0 : Int32)), .val (.int (2 : Int32)), .val (.ref a), .val (.long r), .second, .val (.long (own_lo a0 s0 (1 : Int64))), .second, .val (.long (own_hi a0 s0 (own_lo a0 s0 (1 : Int64)))), .second, .val (.long (own_cmb (own_lo a0 s0 (1 : Int64)) (own_hi a0 s0 (own_lo a0 s0 (1 : Int64))))), .second, .val (.long (own_sh (own_hi a0 s0 (own_lo a0 s0 (1 : Int64))))), .second, .val (.long (own_lo a1 s1 (own_sh (own_hi a0 s0 (own_lo a0 s0 (1 : Int64)))))), .second, .val (.long (own_hi a1 s1 (own_lo a1 s1 (own_sh (own_hi a0 s0 (own_lo a0 s0 (1 : Int64))))))), .second, .val (.long (own_cmb (own_lo a1 s1 (own_sh (own_hi a0 s0 (own_lo a0 s0 (1 : Int64))))) (own_hi a1 s1 (own_lo a1 s1 (own_sh (own_hi a0 s0 (own_lo a0 s0 (1 : Int64)))))))), .second, .val (.long (own_sh (own_hi a1 s1 (own_lo a1 s1 (own_sh (own_hi a0 s0 (own_lo a0 s0 (1 : Int64)))))))), .second, .val (.long (own_cmb (own_lo a0 s0 (1 : Int64)) (own_hi a0 s0 (own_lo a0 s0 (1 : Int64))))), .second, .val (.long (own_cmb (own_lo a1 s1 (own_sh (own_hi a0 s0 (own_lo a0 s0 (1 : Int64))))) (own_hi a1 s1 (own_lo a1 s1 (own_sh (own_hi a0 s0 (own_lo a0 s0 (1 : Int64)))))))), .second, .val (.long (own_sh (own_hi a1 s1 (own_lo a1 s1 (own_sh (own_hi a0 s0 (own_lo a0 s0 (1 : Int64)))))))), .second]) at_270 rfl rfl ?_
      exact J272 _ _ _ (H2 rfl).1 (H2 rfl).2.1 (H2 rfl).2.2
  · skip -- swap
    refine oGo.iconst (q := 21) (v := (1 : Int32)) at_20 rfl rfl ?_
    refine oGo.goto (q := 25) at_21 (by decide) ?_
    refine oGo.istore (q := 27) (L' := #[.val (.long a0), .second, .val (.long a1), .second, .val (.long s0), .second, .val (.long s1), .second, .val (.int k), .val (.long (4294967295 : Int64)), .second, .val (.int (Int32.ofNat n)), .val (.int (1 : Int32)), .unset, .unset, .unset, .unset, .unset, .unset, .unset, .unset, .unset, .unset, .unset, .unset, .unset, .unset, .unset, .unset, .unset, .unset, .unset, .unset, .unset, .unset, .unset, .unset, .unset, .unset, .unset]) at_25 rfl rfl ?_
    refine oGo.iload (q := 29) at_27 rfl rfl ?_
    refine oGo.if_eq (q := 36) (r := 32) at_29 (by decide) rfl (fun hc2 => absurd hc2 (by decide)) (fun hc2 => ?_)
    refine oGo.iconst (q := 33) (v := (2 : Int32)) at_32 rfl rfl ?_
    refine oGo.goto (q := 37) at_33 (by decide) ?_
    refine oGo.istore (q := 39) (L' := #[.val (.long a0), .second, .val (.long a1), .second, .val (.long s0), .second, .val (.long s1), .second, .val (.int k), .val (.long (4294967295 : Int64)), .second, .val (.int (Int32.ofNat n)), .val (.int (1 : Int32)), .val (.int (2 : Int32)), .unset, .unset, .unset, .unset, .unset, .unset, .unset, .unset, .unset, .unset, .unset, .unset, .unset, .unset, .unset, .unset, .unset, .unset, .unset, .unset, .unset, .unset, .unset, .unset, .unset, .unset]) at_37 rfl rfl ?_
    refine oGo.iload (q := 41) at_39 rfl rfl ?_
    refine oGo.if_eq (q := 48) (r := 44) at_41 (by decide) rfl (fun hc2 => absurd hc2 (by decide)) (fun hc2 => ?_)
    refine oGo.iconst (q := 45) (v := (0 : Int32)) at_44 rfl rfl ?_
    refine oGo.goto (q := 49) at_45 (by decide) ?_
    refine oGo.istore (q := 51) (L' := #[.val (.long a0), .second, .val (.long a1), .second, .val (.long s0), .second, .val (.long s1), .second, .val (.int k), .val (.long (4294967295 : Int64)), .second, .val (.int (Int32.ofNat n)), .val (.int (1 : Int32)), .val (.int (2 : Int32)), .val (.int (0 : Int32)), .unset, .unset, .unset, .unset, .unset, .unset, .unset, .unset, .unset, .unset, .unset, .unset, .unset, .unset, .unset, .unset, .unset, .unset, .unset, .unset, .unset, .unset, .unset, .unset, .unset]) at_49 rfl rfl ?_
    refine oGo.iconst (q := 52) (v := (4 : Int32)) at_51 rfl rfl ?_
    refine oGo.newP (q := 54) (len := 4) 4 at_52 rfl (hw _ (List.mem_of_getElem? (i := 1) rfl)) rfl (by first | decide | omega) (by decide) (by decide) (by decide) (ad := "[J") rfl ?_
    intro h19 a g19 K19 A19 E19
    have ge_a : n0 ≤ a := Nat.le_trans Z0 (Nat.le_of_eq g19.symm)
    have Z0_ := Nat.le_trans Z0 K19.1
    replace A19 : Ars Z h19 a .long [(.long (0 : Int64)), (.long (0 : Int64)), (.long (0 : Int64)), (.long (0 : Int64))] := A19
    show oGo Z _ _ _ _ _ _ n0 _ 1 4 h19 54 #[.val (.long a0), .second, .val (.long a1), .second, .val (.long s0), .second, .val (.long s1), .second, .val (.int k), .val (.long (4294967295 : Int64)), .second, .val (.int (Int32.ofNat n)), .val (.int (1 : Int32)), .val (.int (2 : Int32)), .val (.int (0 : Int32)), .unset, .unset, .unset, .unset, .unset, .unset, .unset, .unset, .unset, .unset, .unset, .unset, .unset, .unset, .unset, .unset, .unset, .unset, .unset, .unset, .unset, .unset, .unset, .unset, .unset] [(.ref a)]
    refine oGo.astore (q := 56) (L' := #[.val (.long a0), .second, .val (.long a1), .second, .val (.long s0), .second, .val (.long s1), .second, .val (.int k), .val (.long (4294967295 : Int64)), .second, .val (.int (Int32.ofNat n)), .val (.int (1 : Int32)), .val (.int (2 : Int32)), .val (.int (0 : Int32)), .val (.ref a), .unset, .unset, .unset, .unset, .unset, .unset, .unset, .unset, .unset, .unset, .unset, .unset, .unset, .unset, .unset, .unset, .unset, .unset, .unset, .unset, .unset, .unset, .unset, .unset]) at_54 rfl rfl rfl ?_
    refine oGo.aload (q := 58) at_56 rfl rfl rfl ?_
    refine oGo.iload (q := 60) at_58 rfl rfl ?_
    refine oGo.lloadN (q := 61) at_60 rfl rfl ?_
    refine oGo.lastore (q := 62) (i := 2) at_61 rfl A19 (by decide) (Nat.le_of_ble_eq_true rfl) ge_a ?_
    intro h20 K20 A20
    replace A20 : Ars Z h20 a .long [(.long (0 : Int64)), (.long (0 : Int64)), (.long a0), (.long (0 : Int64))] := A20
    have E19_ := Exa.keep E19 K20
    have Z0__ := Nat.le_trans Z0_ K20.1
    show oGo Z _ _ _ _ _ _ n0 _ 1 4 h20 62 #[.val (.long a0), .second, .val (.long a1), .second, .val (.long s0), .second, .val (.long s1), .second, .val (.int k), .val (.long (4294967295 : Int64)), .second, .val (.int (Int32.ofNat n)), .val (.int (1 : Int32)), .val (.int (2 : Int32)), .val (.int (0 : Int32)), .val (.ref a), .unset, .unset, .unset, .unset, .unset, .unset, .unset, .unset, .unset, .unset, .unset, .unset, .unset, .unset, .unset, .unset, .unset, .unset, .unset, .unset, .unset, .unset, .unset, .unset] []
    refine oGo.aload (q := 64) at_62 rfl rfl rfl ?_
    refine oGo.iload (q := 66) at_64 rfl rfl ?_
    refine oGo.iconst (q := 67) (v := (1 : Int32)) at_66 rfl rfl ?_
    refine oGo.iadd (q := 68) at_67 rfl ?_
    refine oGo.lloadN (q := 69) at_68 rfl rfl ?_
    refine oGo.lastore (q := 70) (i := 3) at_69 rfl A20 (by decide) (Nat.le_of_ble_eq_true rfl) ge_a ?_
    intro h21 K21 A21
    replace A21 : Ars Z h21 a .long [(.long (0 : Int64)), (.long (0 : Int64)), (.long a0), (.long a1)] := A21
    have E19__ := Exa.keep E19_ K21
    have Z0___ := Nat.le_trans Z0__ K21.1
    show oGo Z _ _ _ _ _ _ n0 _ 1 4 h21 70 #[.val (.long a0), .second, .val (.long a1), .second, .val (.long s0), .second, .val (.long s1), .second, .val (.int k), .val (.long (4294967295 : Int64)), .second, .val (.int (Int32.ofNat n)), .val (.int (1 : Int32)), .val (.int (2 : Int32)), .val (.int (0 : Int32)), .val (.ref a), .unset, .unset, .unset, .unset, .unset, .unset, .unset, .unset, .unset, .unset, .unset, .unset, .unset, .unset, .unset, .unset, .unset, .unset, .unset, .unset, .unset, .unset, .unset, .unset] []
    refine oGo.aload (q := 72) at_70 rfl rfl rfl ?_
    refine oGo.iload (q := 74) at_72 rfl rfl ?_
    refine oGo.lload (q := 76) at_74 rfl rfl ?_
    refine oGo.lastore (q := 77) (i := 0) at_76 rfl A21 (by decide) (Nat.le_of_ble_eq_true rfl) ge_a ?_
    intro h22 K22 A22
    replace A22 : Ars Z h22 a .long [(.long s0), (.long (0 : Int64)), (.long a0), (.long a1)] := A22
    have E19___ := Exa.keep E19__ K22
    have Z0____ := Nat.le_trans Z0___ K22.1
    show oGo Z _ _ _ _ _ _ n0 _ 1 4 h22 77 #[.val (.long a0), .second, .val (.long a1), .second, .val (.long s0), .second, .val (.long s1), .second, .val (.int k), .val (.long (4294967295 : Int64)), .second, .val (.int (Int32.ofNat n)), .val (.int (1 : Int32)), .val (.int (2 : Int32)), .val (.int (0 : Int32)), .val (.ref a), .unset, .unset, .unset, .unset, .unset, .unset, .unset, .unset, .unset, .unset, .unset, .unset, .unset, .unset, .unset, .unset, .unset, .unset, .unset, .unset, .unset, .unset, .unset, .unset] []
    refine oGo.aload (q := 79) at_77 rfl rfl rfl ?_
    refine oGo.iload (q := 81) at_79 rfl rfl ?_
    refine oGo.iconst (q := 82) (v := (1 : Int32)) at_81 rfl rfl ?_
    refine oGo.iadd (q := 83) at_82 rfl ?_
    refine oGo.lload (q := 85) at_83 rfl rfl ?_
    refine oGo.lastore (q := 86) (i := 1) at_85 rfl A22 (by decide) (Nat.le_of_ble_eq_true rfl) ge_a ?_
    intro h23 K23 A23
    replace A23 : Ars Z h23 a .long [(.long s0), (.long s1), (.long a0), (.long a1)] := A23
    have E19____ := Exa.keep E19___ K23
    have Z0_____ := Nat.le_trans Z0____ K23.1
    show oGo Z _ _ _ _ _ _ n0 _ 1 4 h23 86 #[.val (.long a0), .second, .val (.long a1), .second, .val (.long s0), .second, .val (.long s1), .second, .val (.int k), .val (.long (4294967295 : Int64)), .second, .val (.int (Int32.ofNat n)), .val (.int (1 : Int32)), .val (.int (2 : Int32)), .val (.int (0 : Int32)), .val (.ref a), .unset, .unset, .unset, .unset, .unset, .unset, .unset, .unset, .unset, .unset, .unset, .unset, .unset, .unset, .unset, .unset, .unset, .unset, .unset, .unset, .unset, .unset, .unset, .unset] []
    refine oGo.aload (q := 88) at_86 rfl rfl rfl ?_
    refine oGo.iload (q := 90) at_88 rfl rfl ?_
    refine oGo.iload (q := 92) at_90 rfl rfl ?_
    refine oGo.iload (q := 94) at_92 rfl rfl ?_
    refine oGo.callS (W := 0) (rm := ({ frames := 1, cells := 0, slots := 0, locals := 17 } : Room)) (q := 97) [(.ref a), (.int (2 : Int32)), (.int (0 : Int32)), (.int (Int32.ofNat n))] [] at_94 rfl (hw _ (List.mem_of_getElem? (i := 2) rfl)) (hw _ (List.mem_of_getElem? (i := 3) rfl)) (hw _ (List.mem_of_getElem? (i := 4) rfl)) (hw _ (List.mem_of_getElem? (i := 5) rfl)) (by decide) (ca1 hw a n a0 a1 s0 s1 h23 n0 hn ge_a A23) rfl rfl own_pd0 rfl rfl (Nat.le_of_eq rfl) (by decide) (by decide) (by decide) (by decide) ?_
    rintro _ h24 ⟨r, y0, y1, rfl, K, A, H0, H1, H2⟩
    show oGo Z _ _ _ _ _ _ n0 _ 1 4 h24 97 #[.val (.long a0), .second, .val (.long a1), .second, .val (.long s0), .second, .val (.long s1), .second, .val (.int k), .val (.long (4294967295 : Int64)), .second, .val (.int (Int32.ofNat n)), .val (.int (1 : Int32)), .val (.int (2 : Int32)), .val (.int (0 : Int32)), .val (.ref a), .unset, .unset, .unset, .unset, .unset, .unset, .unset, .unset, .unset, .unset, .unset, .unset, .unset, .unset, .unset, .unset, .unset, .unset, .unset, .unset, .unset, .unset, .unset, .unset] [(.long r)]
    refine oGo.lstore (q := 99) (L' := #[.val (.long a0), .second, .val (.long a1), .second, .val (.long s0), .second, .val (.long s1), .second, .val (.int k), .val (.long (4294967295 : Int64)), .second, .val (.int (Int32.ofNat n)), .val (.int (1 : Int32)), .val (.int (2 : Int32)), .val (.int (0 : Int32)), .val (.ref a), .val (.long r), .second, .unset, .unset, .unset, .unset, .unset, .unset, .unset, .unset, .unset, .unset, .unset, .unset, .unset, .unset, .unset, .unset, .unset, .unset, .unset, .unset, .unset, .unset]) at_97 rfl rfl ?_
    refine oGo.lloadN (q := 100) at_99 rfl rfl ?_
    refine oGo.lload (q := 102) at_100 rfl rfl ?_
    refine oGo.land (q := 103) at_102 rfl ?_
    refine oGo.ldc2 (q := 106) (v := (2 : Int64)) at_103 rfl (hw _ (List.mem_of_getElem? (i := 6) rfl)) ?_
    refine oGo.lload (q := 108) at_106 rfl rfl ?_
    refine oGo.lload (q := 110) at_108 rfl rfl ?_
    refine oGo.land (q := 111) at_110 rfl ?_
    refine oGo.lmul (q := 112) at_111 rfl ?_
    refine oGo.ladd (q := 113) at_112 rfl ?_
    refine oGo.lconst (q := 114) (v := (1 : Int64)) at_113 rfl rfl ?_
    refine oGo.ladd (q := 115) at_114 rfl ?_
    refine oGo.lstore (q := 117) (L' := #[.val (.long a0), .second, .val (.long a1), .second, .val (.long s0), .second, .val (.long s1), .second, .val (.int k), .val (.long (4294967295 : Int64)), .second, .val (.int (Int32.ofNat n)), .val (.int (1 : Int32)), .val (.int (2 : Int32)), .val (.int (0 : Int32)), .val (.ref a), .val (.long r), .second, .val (.long (own_lo a0 s0 (1 : Int64))), .second, .unset, .unset, .unset, .unset, .unset, .unset, .unset, .unset, .unset, .unset, .unset, .unset, .unset, .unset, .unset, .unset, .unset, .unset, .unset, .unset]) at_115 rfl rfl ?_
    refine oGo.lloadN (q := 118) at_117 rfl rfl ?_
    refine oGo.bipush (q := 120) (v := (32 : Int32)) at_118 rfl rfl ?_
    refine oGo.lushr (q := 121) at_120 rfl ?_
    refine oGo.ldc2 (q := 124) (v := (2 : Int64)) at_121 rfl (hw _ (List.mem_of_getElem? (i := 6) rfl)) ?_
    refine oGo.lload (q := 126) at_124 rfl rfl ?_
    refine oGo.bipush (q := 128) (v := (32 : Int32)) at_126 rfl rfl ?_
    refine oGo.lushr (q := 129) at_128 rfl ?_
    refine oGo.lmul (q := 130) at_129 rfl ?_
    refine oGo.ladd (q := 131) at_130 rfl ?_
    refine oGo.lload (q := 133) at_131 rfl rfl ?_
    refine oGo.bipush (q := 135) (v := (32 : Int32)) at_133 rfl rfl ?_
    refine oGo.lushr (q := 136) at_135 rfl ?_
    refine oGo.ladd (q := 137) at_136 rfl ?_
    refine oGo.lstore (q := 139) (L' := #[.val (.long a0), .second, .val (.long a1), .second, .val (.long s0), .second, .val (.long s1), .second, .val (.int k), .val (.long (4294967295 : Int64)), .second, .val (.int (Int32.ofNat n)), .val (.int (1 : Int32)), .val (.int (2 : Int32)), .val (.int (0 : Int32)), .val (.ref a), .val (.long r), .second, .val (.long (own_lo a0 s0 (1 : Int64))), .second, .val (.long (own_hi a0 s0 (own_lo a0 s0 (1 : Int64)))), .second, .unset, .unset, .unset, .unset, .unset, .unset, .unset, .unset, .unset, .unset, .unset, .unset, .unset, .unset, .unset, .unset, .unset, .unset]) at_137 rfl rfl ?_
    refine oGo.lload (q := 141) at_139 rfl rfl ?_
    refine oGo.lload (q := 143) at_141 rfl rfl ?_
    refine oGo.land (q := 144) at_143 rfl ?_
    refine oGo.lload (q := 146) at_144 rfl rfl ?_
    refine oGo.bipush (q := 148) (v := (32 : Int32)) at_146 rfl rfl ?_
    refine oGo.lshl (q := 149) at_148 rfl ?_
    refine oGo.lor (q := 150) at_149 rfl ?_
    refine oGo.lstore (q := 152) (L' := #[.val (.long a0), .second, .val (.long a1), .second, .val (.long s0), .second, .val (.long s1), .second, .val (.int k), .val (.long (4294967295 : Int64)), .second, .val (.int (Int32.ofNat n)), .val (.int (1 : Int32)), .val (.int (2 : Int32)), .val (.int (0 : Int32)), .val (.ref a), .val (.long r), .second, .val (.long (own_lo a0 s0 (1 : Int64))), .second, .val (.long (own_hi a0 s0 (own_lo a0 s0 (1 : Int64)))), .second, .val (.long (own_cmb (own_lo a0 s0 (1 : Int64)) (own_hi a0 s0 (own_lo a0 s0 (1 : Int64))))), .second, .unset, .unset, .unset, .unset, .unset, .unset, .unset, .unset, .unset, .unset, .unset, .unset, .unset, .unset, .unset, .unset]) at_150 rfl rfl ?_
    refine oGo.lload (q := 154) at_152 rfl rfl ?_
    refine oGo.bipush (q := 156) (v := (32 : Int32)) at_154 rfl rfl ?_
    refine oGo.lushr (q := 157) at_156 rfl ?_
    refine oGo.lstore (q := 159) (L' := #[.val (.long a0), .second, .val (.long a1), .second, .val (.long s0), .second, .val (.long s1), .second, .val (.int k), .val (.long (4294967295 : Int64)), .second, .val (.int (Int32.ofNat n)), .val (.int (1 : Int32)), .val (.int (2 : Int32)), .val (.int (0 : Int32)), .val (.ref a), .val (.long r), .second, .val (.long (own_lo a0 s0 (1 : Int64))), .second, .val (.long (own_hi a0 s0 (own_lo a0 s0 (1 : Int64)))), .second, .val (.long (own_cmb (own_lo a0 s0 (1 : Int64)) (own_hi a0 s0 (own_lo a0 s0 (1 : Int64))))), .second, .val (.long (own_sh (own_hi a0 s0 (own_lo a0 s0 (1 : Int64))))), .second, .unset, .unset, .unset, .unset, .unset, .unset, .unset, .unset, .unset, .unset, .unset, .unset, .unset, .unset]) at_157 rfl rfl ?_
    refine oGo.lloadN (q := 160) at_159 rfl rfl ?_
    refine oGo.lload (q := 162) at_160 rfl rfl ?_
    refine oGo.land (q := 163) at_162 rfl ?_
    refine oGo.ldc2 (q := 166) (v := (2 : Int64)) at_163 rfl (hw _ (List.mem_of_getElem? (i := 6) rfl)) ?_
    refine oGo.lload (q := 168) at_166 rfl rfl ?_
    refine oGo.lload (q := 170) at_168 rfl rfl ?_
    refine oGo.land (q := 171) at_170 rfl ?_
    refine oGo.lmul (q := 172) at_171 rfl ?_
    refine oGo.ladd (q := 173) at_172 rfl ?_
    refine oGo.lload (q := 175) at_173 rfl rfl ?_
    refine oGo.ladd (q := 176) at_175 rfl ?_
    refine oGo.lstore (q := 178) (L' := #[.val (.long a0), .second, .val (.long a1), .second, .val (.long s0), .second, .val (.long s1), .second, .val (.int k), .val (.long (4294967295 : Int64)), .second, .val (.int (Int32.ofNat n)), .val (.int (1 : Int32)), .val (.int (2 : Int32)), .val (.int (0 : Int32)), .val (.ref a), .val (.long r), .second, .val (.long (own_lo a0 s0 (1 : Int64))), .second, .val (.long (own_hi a0 s0 (own_lo a0 s0 (1 : Int64)))), .second, .val (.long (own_cmb (own_lo a0 s0 (1 : Int64)) (own_hi a0 s0 (own_lo a0 s0 (1 : Int64))))), .second, .val (.long (own_sh (own_hi a0 s0 (own_lo a0 s0 (1 : Int64))))), .second, .val (.long (own_lo a1 s1 (own_sh (own_hi a0 s0 (own_lo a0 s0 (1 : Int64)))))), .second, .unset, .unset, .unset, .unset, .unset, .unset, .unset, .unset, .unset, .unset, .unset, .unset]) at_176 rfl rfl ?_
    refine oGo.lloadN (q := 179) at_178 rfl rfl ?_
    refine oGo.bipush (q := 181) (v := (32 : Int32)) at_179 rfl rfl ?_
    refine oGo.lushr (q := 182) at_181 rfl ?_
    refine oGo.ldc2 (q := 185) (v := (2 : Int64)) at_182 rfl (hw _ (List.mem_of_getElem? (i := 6) rfl)) ?_
    refine oGo.lload (q := 187) at_185 rfl rfl ?_
    refine oGo.bipush (q := 189) (v := (32 : Int32)) at_187 rfl rfl ?_
    refine oGo.lushr (q := 190) at_189 rfl ?_
    refine oGo.lmul (q := 191) at_190 rfl ?_
    refine oGo.ladd (q := 192) at_191 rfl ?_
    refine oGo.lload (q := 194) at_192 rfl rfl ?_
    refine oGo.bipush (q := 196) (v := (32 : Int32)) at_194 rfl rfl ?_
    refine oGo.lushr (q := 197) at_196 rfl ?_
    refine oGo.ladd (q := 198) at_197 rfl ?_
    refine oGo.lstore (q := 200) (L' := #[.val (.long a0), .second, .val (.long a1), .second, .val (.long s0), .second, .val (.long s1), .second, .val (.int k), .val (.long (4294967295 : Int64)), .second, .val (.int (Int32.ofNat n)), .val (.int (1 : Int32)), .val (.int (2 : Int32)), .val (.int (0 : Int32)), .val (.ref a), .val (.long r), .second, .val (.long (own_lo a0 s0 (1 : Int64))), .second, .val (.long (own_hi a0 s0 (own_lo a0 s0 (1 : Int64)))), .second, .val (.long (own_cmb (own_lo a0 s0 (1 : Int64)) (own_hi a0 s0 (own_lo a0 s0 (1 : Int64))))), .second, .val (.long (own_sh (own_hi a0 s0 (own_lo a0 s0 (1 : Int64))))), .second, .val (.long (own_lo a1 s1 (own_sh (own_hi a0 s0 (own_lo a0 s0 (1 : Int64)))))), .second, .val (.long (own_hi a1 s1 (own_lo a1 s1 (own_sh (own_hi a0 s0 (own_lo a0 s0 (1 : Int64))))))), .second, .unset, .unset, .unset, .unset, .unset, .unset, .unset, .unset, .unset, .unset]) at_198 rfl rfl ?_
    refine oGo.lload (q := 202) at_200 rfl rfl ?_
    refine oGo.lload (q := 204) at_202 rfl rfl ?_
    refine oGo.land (q := 205) at_204 rfl ?_
    refine oGo.lload (q := 207) at_205 rfl rfl ?_
    refine oGo.bipush (q := 209) (v := (32 : Int32)) at_207 rfl rfl ?_
    refine oGo.lshl (q := 210) at_209 rfl ?_
    refine oGo.lor (q := 211) at_210 rfl ?_
    refine oGo.lstore (q := 213) (L' := #[.val (.long a0), .second, .val (.long a1), .second, .val (.long s0), .second, .val (.long s1), .second, .val (.int k), .val (.long (4294967295 : Int64)), .second, .val (.int (Int32.ofNat n)), .val (.int (1 : Int32)), .val (.int (2 : Int32)), .val (.int (0 : Int32)), .val (.ref a), .val (.long r), .second, .val (.long (own_lo a0 s0 (1 : Int64))), .second, .val (.long (own_hi a0 s0 (own_lo a0 s0 (1 : Int64)))), .second, .val (.long (own_cmb (own_lo a0 s0 (1 : Int64)) (own_hi a0 s0 (own_lo a0 s0 (1 : Int64))))), .second, .val (.long (own_sh (own_hi a0 s0 (own_lo a0 s0 (1 : Int64))))), .second, .val (.long (own_lo a1 s1 (own_sh (own_hi a0 s0 (own_lo a0 s0 (1 : Int64)))))), .second, .val (.long (own_hi a1 s1 (own_lo a1 s1 (own_sh (own_hi a0 s0 (own_lo a0 s0 (1 : Int64))))))), .second, .val (.long (own_cmb (own_lo a1 s1 (own_sh (own_hi a0 s0 (own_lo a0 s0 (1 : Int64))))) (own_hi a1 s1 (own_lo a1 s1 (own_sh (own_hi a0 s0 (own_lo a0 s0 (1 : Int64)))))))), .second, .unset, .unset, .unset, .unset, .unset, .unset, .unset, .unset]) at_211 rfl rfl ?_
    refine oGo.lload (q := 215) at_213 rfl rfl ?_
    refine oGo.bipush (q := 217) (v := (32 : Int32)) at_215 rfl rfl ?_
    refine oGo.lushr (q := 218) at_217 rfl ?_
    refine oGo.lstore (q := 220) (L' := #[.val (.long a0), .second, .val (.long a1), .second, .val (.long s0), .second, .val (.long s1), .second, .val (.int k), .val (.long (4294967295 : Int64)), .second, .val (.int (Int32.ofNat n)), .val (.int (1 : Int32)), .val (.int (2 : Int32)), .val (.int (0 : Int32)), .val (.ref a), .val (.long r), .second, .val (.long (own_lo a0 s0 (1 : Int64))), .second, .val (.long (own_hi a0 s0 (own_lo a0 s0 (1 : Int64)))), .second, .val (.long (own_cmb (own_lo a0 s0 (1 : Int64)) (own_hi a0 s0 (own_lo a0 s0 (1 : Int64))))), .second, .val (.long (own_sh (own_hi a0 s0 (own_lo a0 s0 (1 : Int64))))), .second, .val (.long (own_lo a1 s1 (own_sh (own_hi a0 s0 (own_lo a0 s0 (1 : Int64)))))), .second, .val (.long (own_hi a1 s1 (own_lo a1 s1 (own_sh (own_hi a0 s0 (own_lo a0 s0 (1 : Int64))))))), .second, .val (.long (own_cmb (own_lo a1 s1 (own_sh (own_hi a0 s0 (own_lo a0 s0 (1 : Int64))))) (own_hi a1 s1 (own_lo a1 s1 (own_sh (own_hi a0 s0 (own_lo a0 s0 (1 : Int64)))))))), .second, .val (.long (own_sh (own_hi a1 s1 (own_lo a1 s1 (own_sh (own_hi a0 s0 (own_lo a0 s0 (1 : Int64)))))))), .second, .unset, .unset, .unset, .unset, .unset, .unset]) at_218 rfl rfl ?_
    refine oGo.iload (q := 222) at_220 rfl rfl ?_
    refine oGo.iconst (q := 223) (v := (1 : Int32)) at_222 rfl rfl ?_
    have J272 : ∀ (e0 e1 er : Int64), r = er → y0 = e0 → y1 = e1 → oGo Z x.cls x.name code maxLocals ret room_1 n0 (fun v _ => v = some (.int 1)) 1 4 h24 272 #[.val (.long a0), .second, .val (.long a1), .second, .val (.long s0), .second, .val (.long s1), .second, .val (.int k), .val (.long (4294967295 : Int64)), .second, .val (.int (Int32.ofNat n)), .val (.int (1 : Int32)), .val (.int (2 : Int32)), .val (.int (0 : Int32)), .val (.ref a), .val (.long r), .second, .val (.long (own_lo a0 s0 (1 : Int64))), .second, .val (.long (own_hi a0 s0 (own_lo a0 s0 (1 : Int64)))), .second, .val (.long (own_cmb (own_lo a0 s0 (1 : Int64)) (own_hi a0 s0 (own_lo a0 s0 (1 : Int64))))), .second, .val (.long (own_sh (own_hi a0 s0 (own_lo a0 s0 (1 : Int64))))), .second, .val (.long (own_lo a1 s1 (own_sh (own_hi a0 s0 (own_lo a0 s0 (1 : Int64)))))), .second, .val (.long (own_hi a1 s1 (own_lo a1 s1 (own_sh (own_hi a0 s0 (own_lo a0 s0 (1 : Int64))))))), .second, .val (.long (own_cmb (own_lo a1 s1 (own_sh (own_hi a0 s0 (own_lo a0 s0 (1 : Int64))))) (own_hi a1 s1 (own_lo a1 s1 (own_sh (own_hi a0 s0 (own_lo a0 s0 (1 : Int64)))))))), .second, .val (.long (own_sh (own_hi a1 s1 (own_lo a1 s1 (own_sh (own_hi a0 s0 (own_lo a0 s0 (1 : Int64)))))))), .second, .val (.long e0), .second, .val (.long e1), .second, .val (.long er), .second] [] := by
      intro e0 e1 er g0 g1 g2
      refine oGo.lload (q := 274) at_272 rfl rfl ?_
      refine oGo.lload (q := 276) at_274 rfl rfl ?_
      refine oGo.lif_ne (pc2 := 277) (q := 332) (r := 280) at_276 rfl at_277 (by decide) rfl (fun hc => absurd g0 hc) (fun hc => ?_)
      refine oGo.aload (q := 282) at_280 rfl rfl rfl ?_
      refine oGo.iload (q := 284) at_282 rfl rfl ?_
      refine oGo.laload (q := 285) (i := 2) (v := (.long y0)) at_284 rfl A (by decide) rfl ?_
      refine oGo.lload (q := 287) at_285 rfl rfl ?_
      refine oGo.lif_ne (pc2 := 288) (q := 332) (r := 291) at_287 rfl at_288 (by decide) rfl (fun hc => absurd g1 hc) (fun hc => ?_)
      refine oGo.aload (q := 293) at_291 rfl rfl rfl ?_
      refine oGo.iload (q := 295) at_293 rfl rfl ?_
      refine oGo.iconst (q := 296) (v := (1 : Int32)) at_295 rfl rfl ?_
      refine oGo.iadd (q := 297) at_296 rfl ?_
      refine oGo.laload (q := 298) (i := 3) (v := (.long y1)) at_297 rfl A (by decide) rfl ?_
      refine oGo.lload (q := 300) at_298 rfl rfl ?_
      refine oGo.lif_ne (pc2 := 301) (q := 332) (r := 304) at_300 rfl at_301 (by decide) rfl (fun hc => absurd g2 hc) (fun hc => ?_)
      refine oGo.aload (q := 306) at_304 rfl rfl rfl ?_
      refine oGo.iload (q := 308) at_306 rfl rfl ?_
      refine oGo.laload (q := 309) (i := 0) (v := (.long s0)) at_308 rfl A (by decide) rfl ?_
      refine oGo.lload (q := 311) at_309 rfl rfl ?_
      refine oGo.lif_ne (pc2 := 312) (q := 332) (r := 315) at_311 rfl at_312 (by decide) rfl (fun hc => absurd rfl hc) (fun hc => ?_)
      refine oGo.aload (q := 317) at_315 rfl rfl rfl ?_
      refine oGo.iload (q := 319) at_317 rfl rfl ?_
      refine oGo.iconst (q := 320) (v := (1 : Int32)) at_319 rfl rfl ?_
      refine oGo.iadd (q := 321) at_320 rfl ?_
      refine oGo.laload (q := 322) (i := 1) (v := (.long s1)) at_321 rfl A (by decide) rfl ?_
      refine oGo.lload (q := 324) at_322 rfl rfl ?_
      refine oGo.lif_ne (pc2 := 325) (q := 332) (r := 328) at_324 rfl at_325 (by decide) rfl (fun hc => absurd rfl hc) (fun hc => ?_)
      refine oGo.iconst (q := 329) (v := (1 : Int32)) at_328 rfl rfl ?_
      refine oGo.goto (q := 333) at_329 (by decide) ?_
      exact oGo.retN (t := .boolean) at_333 rfl (by simp) (by decide) (by decide) (rfl)
    rcases hn3 with rfl | rfl | rfl
    · skip -- n = 0
      refine oGo.icmp_lt (q := 231) (r := 226) at_223 (by decide) rfl (fun hc => ?_) (fun hc => absurd hc (by decide))
      refine oGo.lloadN (q := 232) at_231 rfl rfl ?_
      refine oGo.lstore (q := 234) (L' := #[.val (.long a0), .second, .val (.long a1), .second, .val (.long s0), .second, .val (.long s1), .second, .val (.int k), .val (.long (4294967295 : Int64)), .second, .val (.int (Int32.ofNat 0)), .val (.int (1 : Int32)), .val (.int (2 : Int32)), .val (.int (0 : Int32)), .val (.ref a), .val (.long r), .second, .val (.long (own_lo a0 s0 (1 : Int64))), .second, .val (.long (own_hi a0 s0 (own_lo a0 s0 (1 : Int64)))), .second, .val (.long (own_cmb (own_lo a0 s0 (1 : Int64)) (own_hi a0 s0 (own_lo a0 s0 (1 : Int64))))), .second, .val (.long (own_sh (own_hi a0 s0 (own_lo a0 s0 (1 : Int64))))), .second, .val (.long (own_lo a1 s1 (own_sh (own_hi a0 s0 (own_lo a0 s0 (1 : Int64)))))), .second, .val (.long (own_hi a1 s1 (own_lo a1 s1 (own_sh (own_hi a0 s0 (own_lo a0 s0 (1 : Int64))))))), .second, .val (.long (own_cmb (own_lo a1 s1 (own_sh (own_hi a0 s0 (own_lo a0 s0 (1 : Int64))))) (own_hi a1 s1 (own_lo a1 s1 (own_sh (own_hi a0 s0 (own_lo a0 s0 (1 : Int64)))))))), .second, .val (.long (own_sh (own_hi a1 s1 (own_lo a1 s1 (own_sh (own_hi a0 s0 (own_lo a0 s0 (1 : Int64)))))))), .second, .val (.long a0), .second, .unset, .unset, .unset, .unset]) at_232 rfl rfl ?_
      refine oGo.iload (q := 236) at_234 rfl rfl ?_
      refine oGo.iconst (q := 237) (v := (2 : Int32)) at_236 rfl rfl ?_
      refine oGo.icmp_lt (q := 245) (r := 240) at_237 (by decide) rfl (fun hc => ?_) (fun hc => absurd hc (by decide))
      refine oGo.lloadN (q := 246) at_245 rfl rfl ?_
      refine oGo.lstore (q := 248) (L' := #[.val (.long a0), .second, .val (.long a1), .second, .val (.long s0), .second, .val (.long s1), .second, .val (.int k), .val (.long (4294967295 : Int64)), .second, .val (.int (Int32.ofNat 0)), .val (.int (1 : Int32)), .val (.int (2 : Int32)), .val (.int (0 : Int32)), .val (.ref a), .val (.long r), .second, .val (.long (own_lo a0 s0 (1 : Int64))), .second, .val (.long (own_hi a0 s0 (own_lo a0 s0 (1 : Int64)))), .second, .val (.long (own_cmb (own_lo a0 s0 (1 : Int64)) (own_hi a0 s0 (own_lo a0 s0 (1 : Int64))))), .second, .val (.long (own_sh (own_hi a0 s0 (own_lo a0 s0 (1 : Int64))))), .second, .val (.long (own_lo a1 s1 (own_sh (own_hi a0 s0 (own_lo a0 s0 (1 : Int64)))))), .second, .val (.long (own_hi a1 s1 (own_lo a1 s1 (own_sh (own_hi a0 s0 (own_lo a0 s0 (1 : Int64))))))), .second, .val (.long (own_cmb (own_lo a1 s1 (own_sh (own_hi a0 s0 (own_lo a0 s0 (1 : Int64))))) (own_hi a1 s1 (own_lo a1 s1 (own_sh (own_hi a0 s0 (own_lo a0 s0 (1 : Int64)))))))), .second, .val (.long (own_sh (own_hi a1 s1 (own_lo a1 s1 (own_sh (own_hi a0 s0 (own_lo a0 s0 (1 : Int64)))))))), .second, .val (.long a0), .second, .val (.long a1), .second, .unset, .unset]) at_246 rfl rfl ?_
      refine oGo.iload (q := 250) at_248 rfl rfl ?_
      refine oGo.if_ne (q := 257) (r := 253) at_250 (by decide) rfl (fun hc => absurd rfl hc) (fun hc => ?_)
      refine oGo.lconst (q := 254) (v := (1 : Int64)) at_253 rfl rfl ?_
      refine oGo.goto (q := 270) at_254 (by decide) ?_
      refine oGo.lstore (q := 272) (L' := #[.val (.long a0), .second, .val (.long a1), .second, .val (.long s0), .second, .val (.long s1), .second, .val (.int k), .val (.long (4294967295 : Int64)), .second, .val (.int (Int32.ofNat 0)), .val (.int (1 : Int32)), .val (.int (2 : Int32)), .val (.int (0 : Int32)), .val (.ref a), .val (.long r), .second, .val (.long (own_lo a0 s0 (1 : Int64))), .second, .val (.long (own_hi a0 s0 (own_lo a0 s0 (1 : Int64)))), .second, .val (.long (own_cmb (own_lo a0 s0 (1 : Int64)) (own_hi a0 s0 (own_lo a0 s0 (1 : Int64))))), .second, .val (.long (own_sh (own_hi a0 s0 (own_lo a0 s0 (1 : Int64))))), .second, .val (.long (own_lo a1 s1 (own_sh (own_hi a0 s0 (own_lo a0 s0 (1 : Int64)))))), .second, .val (.long (own_hi a1 s1 (own_lo a1 s1 (own_sh (own_hi a0 s0 (own_lo a0 s0 (1 : Int64))))))), .second, .val (.long (own_cmb (own_lo a1 s1 (own_sh (own_hi a0 s0 (own_lo a0 s0 (1 : Int64))))) (own_hi a1 s1 (own_lo a1 s1 (own_sh (own_hi a0 s0 (own_lo a0 s0 (1 : Int64)))))))), .second, .val (.long (own_sh (own_hi a1 s1 (own_lo a1 s1 (own_sh (own_hi a0 s0 (own_lo a0 s0 (1 : Int64)))))))), .second, .val (.long a0), .second, .val (.long a1), .second, .val (.long (1 : Int64)), .second]) at_270 rfl rfl ?_
      exact J272 _ _ _ (H0 rfl).1 (H0 rfl).2.1 (H0 rfl).2.2
    · skip -- n = 1
      refine oGo.icmp_lt (q := 231) (r := 226) at_223 (by decide) rfl (fun hc => absurd hc (by decide)) (fun hc => ?_)
      refine oGo.lload (q := 228) at_226 rfl rfl ?_
      refine oGo.goto (q := 232) at_228 (by decide) ?_
      refine oGo.lstore (q := 234) (L' := #[.val (.long a0), .second, .val (.long a1), .second, .val (.long s0), .second, .val (.long s1), .second, .val (.int k), .val (.long (4294967295 : Int64)), .second, .val (.int (Int32.ofNat 1)), .val (.int (1 : Int32)), .val (.int (2 : Int32)), .val (.int (0 : Int32)), .val (.ref a), .val (.long r), .second, .val (.long (own_lo a0 s0 (1 : Int64))), .second, .val (.long (own_hi a0 s0 (own_lo a0 s0 (1 : Int64)))), .second, .val (.long (own_cmb (own_lo a0 s0 (1 : Int64)) (own_hi a0 s0 (own_lo a0 s0 (1 : Int64))))), .second, .val (.long (own_sh (own_hi a0 s0 (own_lo a0 s0 (1 : Int64))))), .second, .val (.long (own_lo a1 s1 (own_sh (own_hi a0 s0 (own_lo a0 s0 (1 : Int64)))))), .second, .val (.long (own_hi a1 s1 (own_lo a1 s1 (own_sh (own_hi a0 s0 (own_lo a0 s0 (1 : Int64))))))), .second, .val (.long (own_cmb (own_lo a1 s1 (own_sh (own_hi a0 s0 (own_lo a0 s0 (1 : Int64))))) (own_hi a1 s1 (own_lo a1 s1 (own_sh (own_hi a0 s0 (own_lo a0 s0 (1 : Int64)))))))), .second, .val (.long (own_sh (own_hi a1 s1 (own_lo a1 s1 (own_sh (own_hi a0 s0 (own_lo a0 s0 (1 : Int64)))))))), .second, .val (.long (own_cmb (own_lo a0 s0 (1 : Int64)) (own_hi a0 s0 (own_lo a0 s0 (1 : Int64))))), .second, .unset, .unset, .unset, .unset]) at_232 rfl rfl ?_
      refine oGo.iload (q := 236) at_234 rfl rfl ?_
      refine oGo.iconst (q := 237) (v := (2 : Int32)) at_236 rfl rfl ?_
      refine oGo.icmp_lt (q := 245) (r := 240) at_237 (by decide) rfl (fun hc => ?_) (fun hc => absurd hc (by decide))
      refine oGo.lloadN (q := 246) at_245 rfl rfl ?_
      refine oGo.lstore (q := 248) (L' := #[.val (.long a0), .second, .val (.long a1), .second, .val (.long s0), .second, .val (.long s1), .second, .val (.int k), .val (.long (4294967295 : Int64)), .second, .val (.int (Int32.ofNat 1)), .val (.int (1 : Int32)), .val (.int (2 : Int32)), .val (.int (0 : Int32)), .val (.ref a), .val (.long r), .second, .val (.long (own_lo a0 s0 (1 : Int64))), .second, .val (.long (own_hi a0 s0 (own_lo a0 s0 (1 : Int64)))), .second, .val (.long (own_cmb (own_lo a0 s0 (1 : Int64)) (own_hi a0 s0 (own_lo a0 s0 (1 : Int64))))), .second, .val (.long (own_sh (own_hi a0 s0 (own_lo a0 s0 (1 : Int64))))), .second, .val (.long (own_lo a1 s1 (own_sh (own_hi a0 s0 (own_lo a0 s0 (1 : Int64)))))), .second, .val (.long (own_hi a1 s1 (own_lo a1 s1 (own_sh (own_hi a0 s0 (own_lo a0 s0 (1 : Int64))))))), .second, .val (.long (own_cmb (own_lo a1 s1 (own_sh (own_hi a0 s0 (own_lo a0 s0 (1 : Int64))))) (own_hi a1 s1 (own_lo a1 s1 (own_sh (own_hi a0 s0 (own_lo a0 s0 (1 : Int64)))))))), .second, .val (.long (own_sh (own_hi a1 s1 (own_lo a1 s1 (own_sh (own_hi a0 s0 (own_lo a0 s0 (1 : Int64)))))))), .second, .val (.long (own_cmb (own_lo a0 s0 (1 : Int64)) (own_hi a0 s0 (own_lo a0 s0 (1 : Int64))))), .second, .val (.long a1), .second, .unset, .unset]) at_246 rfl rfl ?_
      refine oGo.iload (q := 250) at_248 rfl rfl ?_
      refine oGo.if_ne (q := 257) (r := 253) at_250 (by decide) rfl (fun hc => ?_) (fun hc => absurd hc (by decide))
      refine oGo.iload (q := 259) at_257 rfl rfl ?_
      refine oGo.iconst (q := 260) (v := (1 : Int32)) at_259 rfl rfl ?_
      refine oGo.icmp_ne (q := 268) (r := 263) at_260 (by decide) rfl (fun hc => absurd rfl hc) (fun hc => ?_)
      refine oGo.lload (q := 265) at_263 rfl rfl ?_
      refine oGo.goto (q := 270) at_265 (by decide) ?_
      refine oGo.lstore (q := 272) (L' := #[.val (.long a0), .second, .val (.long a1), .second, .val (.long s0), .second, .val (.long s1), .second, .val (.int k), .val (.long (4294967295 : Int64)), .second, .val (.int (Int32.ofNat 1)), .val (.int (1 : Int32)), .val (.int (2 : Int32)), .val (.int (0 : Int32)), .val (.ref a), .val (.long r), .second, .val (.long (own_lo a0 s0 (1 : Int64))), .second, .val (.long (own_hi a0 s0 (own_lo a0 s0 (1 : Int64)))), .second, .val (.long (own_cmb (own_lo a0 s0 (1 : Int64)) (own_hi a0 s0 (own_lo a0 s0 (1 : Int64))))), .second, .val (.long (own_sh (own_hi a0 s0 (own_lo a0 s0 (1 : Int64))))), .second, .val (.long (own_lo a1 s1 (own_sh (own_hi a0 s0 (own_lo a0 s0 (1 : Int64)))))), .second, .val (.long (own_hi a1 s1 (own_lo a1 s1 (own_sh (own_hi a0 s0 (own_lo a0 s0 (1 : Int64))))))), .second, .val (.long (own_cmb (own_lo a1 s1 (own_sh (own_hi a0 s0 (own_lo a0 s0 (1 : Int64))))) (own_hi a1 s1 (own_lo a1 s1 (own_sh (own_hi a0 s0 (own_lo a0 s0 (1 : Int64)))))))), .second, .val (.long (own_sh (own_hi a1 s1 (own_lo a1 s1 (own_sh (own_hi a0 s0 (own_lo a0 s0 (1 : Int64)))))))), .second, .val (.long (own_cmb (own_lo a0 s0 (1 : Int64)) (own_hi a0 s0 (own_lo a0 s0 (1 : Int64))))), .second, .val (.long a1), .second, .val (.long (own_sh (own_hi a0 s0 (own_lo a0 s0 (1 : Int64))))), .second]) at_270 rfl rfl ?_
      exact J272 _ _ _ (H1 rfl).1 (H1 rfl).2.1 (H1 rfl).2.2
    · skip -- n = 2
      refine oGo.icmp_lt (q := 231) (r := 226) at_223 (by decide) rfl (fun hc => absurd hc (by decide)) (fun hc => ?_)
      refine oGo.lload (q := 228) at_226 rfl rfl ?_
      refine oGo.goto (q := 232) at_228 (by decide) ?_
      refine oGo.lstore (q := 234) (L' := #[.val (.long a0), .second, .val (.long a1), .second, .val (.long s0), .second, .val (.long s1), .second, .val (.int k), .val (.long (4294967295 : Int64)), .second, .val (.int (Int32.ofNat 2)), .val (.int (1 : Int32)), .val (.int (2 : Int32)), .val (.int (0 : Int32)), .val (.ref a), .val (.long r), .second, .val (.long (own_lo a0 s0 (1 : Int64))), .second, .val (.long (own_hi a0 s0 (own_lo a0 s0 (1 : Int64)))), .second, .val (.long (own_cmb (own_lo a0 s0 (1 : Int64)) (own_hi a0 s0 (own_lo a0 s0 (1 : Int64))))), .second, .val (.long (own_sh (own_hi a0 s0 (own_lo a0 s0 (1 : Int64))))), .second, .val (.long (own_lo a1 s1 (own_sh (own_hi a0 s0 (own_lo a0 s0 (1 : Int64)))))), .second, .val (.long (own_hi a1 s1 (own_lo a1 s1 (own_sh (own_hi a0 s0 (own_lo a0 s0 (1 : Int64))))))), .second, .val (.long (own_cmb (own_lo a1 s1 (own_sh (own_hi a0 s0 (own_lo a0 s0 (1 : Int64))))) (own_hi a1 s1 (own_lo a1 s1 (own_sh (own_hi a0 s0 (own_lo a0 s0 (1 : Int64)))))))), .second, .val (.long (own_sh (own_hi a1 s1 (own_lo a1 s1 (own_sh (own_hi a0 s0 (own_lo a0 s0 (1 : Int64)))))))), .second, .val (.long (own_cmb (own_lo a0 s0 (1 : Int64)) (own_hi a0 s0 (own_lo a0 s0 (1 : Int64))))), .second, .unset, .unset, .unset, .unset]) at_232 rfl rfl ?_
      refine oGo.iload (q := 236) at_234 rfl rfl ?_
      refine oGo.iconst (q := 237) (v := (2 : Int32)) at_236 rfl rfl ?_
      refine oGo.icmp_lt (q := 245) (r := 240) at_237 (by decide) rfl (fun hc => absurd hc (by decide)) (fun hc => ?_)
      refine oGo.lload (q := 242) at_240 rfl rfl ?_
      refine oGo.goto (q := 246) at_242 (by decide) ?_
      refine oGo.lstore (q := 248) (L' := #[.val (.long a0), .second, .val (.long a1), .second, .val (.long s0), .second, .val (.long s1), .second, .val (.int k), .val (.long (4294967295 : Int64)), .second, .val (.int (Int32.ofNat 2)), .val (.int (1 : Int32)), .val (.int (2 : Int32)), .val (.int (0 : Int32)), .val (.ref a), .val (.long r), .second, .val (.long (own_lo a0 s0 (1 : Int64))), .second, .val (.long (own_hi a0 s0 (own_lo a0 s0 (1 : Int64)))), .second, .val (.long (own_cmb (own_lo a0 s0 (1 : Int64)) (own_hi a0 s0 (own_lo a0 s0 (1 : Int64))))), .second, .val (.long (own_sh (own_hi a0 s0 (own_lo a0 s0 (1 : Int64))))), .second, .val (.long (own_lo a1 s1 (own_sh (own_hi a0 s0 (own_lo a0 s0 (1 : Int64)))))), .second, .val (.long (own_hi a1 s1 (own_lo a1 s1 (own_sh (own_hi a0 s0 (own_lo a0 s0 (1 : Int64))))))), .second, .val (.long (own_cmb (own_lo a1 s1 (own_sh (own_hi a0 s0 (own_lo a0 s0 (1 : Int64))))) (own_hi a1 s1 (own_lo a1 s1 (own_sh (own_hi a0 s0 (own_lo a0 s0 (1 : Int64)))))))), .second, .val (.long (own_sh (own_hi a1 s1 (own_lo a1 s1 (own_sh (own_hi a0 s0 (own_lo a0 s0 (1 : Int64)))))))), .second, .val (.long (own_cmb (own_lo a0 s0 (1 : Int64)) (own_hi a0 s0 (own_lo a0 s0 (1 : Int64))))), .second, .val (.long (own_cmb (own_lo a1 s1 (own_sh (own_hi a0 s0 (own_lo a0 s0 (1 : Int64))))) (own_hi a1 s1 (own_lo a1 s1 (own_sh (own_hi a0 s0 (own_lo a0 s0 (1 : Int64)))))))), .second, .unset, .unset]) at_246 rfl rfl ?_
      refine oGo.iload (q := 250) at_248 rfl rfl ?_
      refine oGo.if_ne (q := 257) (r := 253) at_250 (by decide) rfl (fun hc => ?_) (fun hc => absurd hc (by decide))
      refine oGo.iload (q := 259) at_257 rfl rfl ?_
      refine oGo.iconst (q := 260) (v := (1 : Int32)) at_259 rfl rfl ?_
      refine oGo.icmp_ne (q := 268) (r := 263) at_260 (by decide) rfl (fun hc => ?_) (fun hc => absurd hc (by decide))
      refine oGo.lload (q := 270) at_268 rfl rfl ?_
      refine oGo.lstore (q := 272) (L' := #[.val (.long a0), .second, .val (.long a1), .second, .val (.long s0), .second, .val (.long s1), .second, .val (.int k), .val (.long (4294967295 : Int64)), .second, .val (.int (Int32.ofNat 2)), .val (.int (1 : Int32)), .val (.int (2 : Int32)), .val (.int (0 : Int32)), .val (.ref a), .val (.long r), .second, .val (.long (own_lo a0 s0 (1 : Int64))), .second, .val (.long (own_hi a0 s0 (own_lo a0 s0 (1 : Int64)))), .second, .val (.long (own_cmb (own_lo a0 s0 (1 : Int64)) (own_hi a0 s0 (own_lo a0 s0 (1 : Int64))))), .second, .val (.long (own_sh (own_hi a0 s0 (own_lo a0 s0 (1 : Int64))))), .second, .val (.long (own_lo a1 s1 (own_sh (own_hi a0 s0 (own_lo a0 s0 (1 : Int64)))))), .second, .val (.long (own_hi a1 s1 (own_lo a1 s1 (own_sh (own_hi a0 s0 (own_lo a0 s0 (1 : Int64))))))), .second, .val (.long (own_cmb (own_lo a1 s1 (own_sh (own_hi a0 s0 (own_lo a0 s0 (1 : Int64))))) (own_hi a1 s1 (own_lo a1 s1 (own_sh (own_hi a0 s0 (own_lo a0 s0 (1 : Int64)))))))), .second, .val (.long (own_sh (own_hi a1 s1 (own_lo a1 s1 (own_sh (own_hi a0 s0 (own_lo a0 s0 (1 : Int64)))))))), .second, .val (.long (own_cmb (own_lo a0 s0 (1 : Int64)) (own_hi a0 s0 (own_lo a0 s0 (1 : Int64))))), .second, .val (.long (own_cmb (own_lo a1 s1 (own_sh (own_hi a0 s0 (own_lo a0 s0 (1 : Int64))))) (own_hi a1 s1 (own_lo a1 s1 (own_sh (own_hi a0 s0 (own_lo a0 s0 (1 : Int64)))))))), .second, .val (.long (own_sh (own_hi a1 s1 (own_lo a1 s1 (own_sh (own_hi a0 s0 (own_lo a0 s0 (1 : Int64)))))))), .second]) at_270 rfl rfl ?_
      exact J272 _ _ _ (H2 rfl).1 (H2 rfl).2.1 (H2 rfl).2.2
set_option maxRecDepth 65536 in
set_option maxHeartbeats 40000000 in
theorem comes_1 {Post : Tables → Env → Array Value → State → Outcome → State → Prop} (hpost : ∀ tb e args s v u, (limb_1_1.after args s (.returned v) u = true ∧ limb_1_2.after args s (.returned v) u = true ∧ True) → FrameEnd s (.returned v) u (Jvm.fieldLocs frame_1_writes args s ++ Jvm.arrayLocs frame_1_arrays args s ++ Jvm.staticLocs frame_1_statics s) 16 128 → Post tb e args s (.returned v) u) :
    ArmFor flags0 classFile x code maxLocals ret World_1 tables_1 room_1 Calls_1 rest_1 Pre_1 Post := by
  intro l hfl _ _ p e ha hc hk s m args below hf hA hF happ hP
  obtain ⟨hcalls, hrest, hpre⟩ := hP
  obtain ⟨-, -, -, hnamed, -, -, -, hat⟩ := (Spec.applies_iff hf).mp happ
  obtain ⟨hg, hn⟩ := and_e (Cond.before_iff.mp (show (Jvm.Cond.and given_1 narrow_1).before args s = true from hpre))
  obtain ⟨h1, g0⟩ := and_e hg
  obtain ⟨b0, g1⟩ := and_e g0
  obtain ⟨b1, g2⟩ := and_e g1
  obtain ⟨b2, g3⟩ := and_e g2
  obtain ⟨b3, g4⟩ := and_e g3
  have b4 := g4
  obtain ⟨w0, w1, w2, w3, w4, rfl⟩ : ∃ w0 w1 w2 w3 w4 : Value, args = #[w0, w1, w2, w3, w4] := by
    have hs : args.size = 5 := by simpa [Cond.value, given_1] using h1
    obtain ⟨L⟩ := args
    match L, hs with
    | [w0, w1, w2, w3, w4], _ => exact ⟨w0, w1, w2, w3, w4, rfl⟩
  have hw := fun d (hd : d ∈ tables_1) => atoms_spec (ws := Jvm.Cond.code x code maxLocals ret :: tables_1) hat d (List.mem_cons_of_mem _ hd)
  have hfit : Fit s := fun {y c} hc i hi => by
    obtain ⟨ha, rfl⟩ := Array.getElem?_eq_some_iff.mp hc
    have q := List.all_eq_true.mp ((Array.all_eq_true_iff_forall_mem.mp hF) _ (Array.getElem_mem ha)) i (List.mem_range.mpr hi)
    simpa [Array.getElem?_eq_getElem hi] using q
  obtain ⟨i0, e0⟩ := isL_v b0
  obtain rfl : w0 = (.long i0) := Option.some.inj e0
  obtain ⟨i1, e1⟩ := isL_v b1
  obtain rfl : w1 = (.long i1) := Option.some.inj e1
  obtain ⟨i2, e2⟩ := isL_v b2
  obtain rfl : w2 = (.long i2) := Option.some.inj e2
  obtain ⟨i3, e3⟩ := isL_v b3
  obtain rfl : w3 = (.long i3) := Option.some.inj e3
  obtain ⟨i4, e4⟩ := is_v b4
  obtain rfl : w4 = (.int i4) := Option.some.inj e4
  obtain ⟨n, o, q1, q2, q3, _, L, rfl, ⟨rfl, N⟩, hq⟩ := (law hw i0 i1 i2 i3 i4 s.heap s.heap.size (Nat.le_refl _)) l tables_1 p e ha hc hk s m _ below hf ((Spec.applies_iff_loose hf).mp happ).1 ⟨rfl, State.Warmed39.refl s, rfl⟩ trivial
  refine ⟨n, _, q1, q2, q3, hpost _ _ _ _ _ _ ⟨Cond.after_iff.mpr rfl, Cond.after_iff.mpr (eq_i res_at (Term.int_eval (1)) rfl), trivial⟩ ⟨hq.1, hq.2.1, (hq.2.2.sift fun y hy => Or.inr (N y hy)).mono (by decide) (by decide)⟩⟩
theorem main_1_1 : Claimed_1_1 := comes_1 fun _ _ _ _ _ _ h hF => ⟨h.1, hF⟩
theorem main_1_2 : Claimed_1_2 := comes_1 fun _ _ _ _ _ _ h hF => ⟨h.2.1, hF⟩
end Jvm.Pilot.@@N@@
namespace Jvm.Pilot.@@N@@
open Jvm Jvm.ClassFile Sem Op Lib Jvm.Free Jvm.Stand Jvm.Pilot.@@N@@.Jvm.D
/-! MADE BY PROGRAM (witnessworld.py) out of the Statement's table words and the real class files: 11 classes; the members and pool entries that the words name. The judged class is class 1, her method 1. -/
namespace start1
open Jvm.ClassFile
def u (s : String) : CpInfo := .utf8 (stringToUtf16 s)
/-- a pool by its gaps: so many unusable entries, then the entry; so many at the end -/
def gap : Nat → List CpInfo → List CpInfo
  | 0, r => r
  | n + 1, r => .unusable :: gap n r
def poolList (es : List (Nat × CpInfo)) (last : Nat) : List CpInfo := es.foldr (fun e r => gap e.1 (e.2 :: r)) (gap last [])
def pool (es : List (Nat × CpInfo)) (last : Nat) : Array CpInfo := ⟨poolList es last⟩
def fileOf (pool : Array CpInfo) (this : Nat) (attrs : Array Attribute := #[]) (ms : Array MethodInfo := #[]) (fl : Nat := 33) (sup : Nat := 0) (ifs : Array Nat := #[]) (fds : Array FieldInfo := #[]) : ClassFile where
  minorVersion := 0
  majorVersion := 65
  constantPool := pool
  accessFlags := fl
  thisClass := this
  superClass := sup
  interfaces := ifs
  fields := fds
  methods := ms
  attributes := attrs
def plain (name : String) (sup : Option ClassId) : Class where
  name := name
  kind := .ordinary
  loader := none
  accessFlags := 33
  super := sup
  interfaces := #[]
  cf := none
  fields := #[]
  methods := #[]
  instanceTypes := #[]
  staticTypes := #[]
  resolved := #[]
  callSites := []
  init := .initialized
  statics := none
  mirror := none

def pool0 : Array CpInfo := pool [(5, u "<init>"), (0, u "()V"), (1, .class_ 10), (1, u "java/lang/Object")] 113

def k0m0 : Method := { name := "<init>", desc := "()V", sig := { parameters := [], returnType := none }, accessFlags := 1, code := none }
/-- java/lang/Object -/
def k0 : Class := { plain "java/lang/Object" none with
  accessFlags := 33
  interfaces := #[]
  cf := some (fileOf pool0 8 #[] #[{ accessFlags := 1, nameIndex := 5, descriptorIndex := 6, attributes := #[] }] 33 0 #[] #[])
  fields := #[]
  methods := #[k0m0]
  instanceTypes := #[]
  staticTypes := #[]
  resolved := Array.replicate 124 none
  statics := none }

def pool1 : Array CpInfo := pool [(2, .class_ 4), (1, u "java/lang/Object"), (0, u "<init>"), (0, u "()V"), (0, .long 4294967295), (1, .methodref 10 11), (0, .class_ 12), (0, .nameAndType 13 14), (0, u "example/rootwise/internal/Naturals"), (0, u "addTwicePlusOne"), (0, u "([JIII)J"), (0, .long 2), (1, .class_ 18), (0, u "example/rootwise/internal/NaturalsAddTwicePlusOnePinLaw"), (2, u "law"), (0, u "(JJJJI)Z")] 5

def k1m0 : Method := { name := "<init>", desc := "()V", sig := { parameters := [], returnType := none }, accessFlags := 1, code := none }
def k1c1 : Code := { maxStack := 8, maxLocals := 40, code := code, exceptionTable := #[], attributes := #[] }
def k1m1 : Method := { name := "law", desc := "(JJJJI)Z", sig := { parameters := [.long, .long, .long, .long, .int], returnType := some .boolean }, accessFlags := 9, code := some k1c1 }
/-- example/rootwise/internal/NaturalsAddTwicePlusOnePinLaw -/
def k1 : Class := { plain "example/rootwise/internal/NaturalsAddTwicePlusOnePinLaw" (some 0) with
  accessFlags := 49
  interfaces := #[]
  cf := some (fileOf pool1 17 #[] #[{ accessFlags := 1, nameIndex := 5, descriptorIndex := 6, attributes := #[] }, { accessFlags := 9, nameIndex := 21, descriptorIndex := 22, attributes := #[] }] 49 2 #[] #[])
  fields := #[]
  methods := #[k1m0, k1m1]
  instanceTypes := #[]
  staticTypes := #[]
  resolved := Array.replicate 28 none
  statics := none }

def pool2 : Array CpInfo := pool [(6, .class_ 8), (1, u "java/lang/Object"), (0, u "<init>"), (0, u "()V"), (7, .class_ 20), (1, u "example/rootwise/internal/Naturals"), (0, u "BYTES_AS_WORDS"), (0, u "Ljava/lang/invoke/VarHandle;"), (92, u "([JIII)J"), (4, .long 18446744073709551615), (9, .methodref 18 131), (0, .nameAndType 132 133), (0, u "carry"), (0, u "(JJJ)J"), (36, u "LOW_HALF"), (0, u "J"), (1, u "SCHOOLBOOK_MULTIPLY_WORDS"), (0, u "I"), (1, u "SCHOOLBOOK_SQUARE_WORDS"), (0, u "TRANSFORM_WORDS"), (1, u "RECURSIVE_DIVIDE_WORDS"), (9, u "addTwicePlusOne")] 4

def k2m0 : Method := { name := "<init>", desc := "()V", sig := { parameters := [], returnType := none }, accessFlags := 2, code := none }
def k2c1 : Code := { maxStack := 6, maxLocals := 17, code := prog_34_method_20_code, exceptionTable := #[], attributes := #[] }
def k2m1 : Method := { name := "addTwicePlusOne", desc := "([JIII)J", sig := { parameters := [(.array .long), .int, .int, .int], returnType := some .long }, accessFlags := 9, code := some k2c1 }
def k2c2 : Code := { maxStack := 8, maxLocals := 6, code := prog_34_method_23_code, exceptionTable := #[], attributes := #[] }
def k2m2 : Method := { name := "carry", desc := "(JJJ)J", sig := { parameters := [.long, .long, .long], returnType := some .long }, accessFlags := 10, code := some k2c2 }
/-- example/rootwise/internal/Naturals -/
def k2 : Class := { plain "example/rootwise/internal/Naturals" (some 0) with
  accessFlags := 49
  interfaces := #[]
  cf := some (fileOf pool2 18 #[] #[{ accessFlags := 2, nameIndex := 9, descriptorIndex := 10, attributes := #[] }, { accessFlags := 9, nameIndex := 189, descriptorIndex := 115, attributes := #[] }, { accessFlags := 10, nameIndex := 132, descriptorIndex := 133, attributes := #[] }] 49 6 #[] #[{ accessFlags := 25, nameIndex := 170, descriptorIndex := 171, attributes := #[] }, { accessFlags := 24, nameIndex := 173, descriptorIndex := 174, attributes := #[] }, { accessFlags := 24, nameIndex := 176, descriptorIndex := 174, attributes := #[] }, { accessFlags := 24, nameIndex := 177, descriptorIndex := 174, attributes := #[] }, { accessFlags := 24, nameIndex := 179, descriptorIndex := 174, attributes := #[] }, { accessFlags := 26, nameIndex := 21, descriptorIndex := 22, attributes := #[] }])
  fields := #[{ name := "LOW_HALF", type := .long, accessFlags := 25, slot := 0, constantValue := 0 }, { name := "SCHOOLBOOK_MULTIPLY_WORDS", type := .int, accessFlags := 24, slot := 1, constantValue := 0 }, { name := "SCHOOLBOOK_SQUARE_WORDS", type := .int, accessFlags := 24, slot := 2, constantValue := 0 }, { name := "TRANSFORM_WORDS", type := .int, accessFlags := 24, slot := 3, constantValue := 0 }, { name := "RECURSIVE_DIVIDE_WORDS", type := .int, accessFlags := 24, slot := 4, constantValue := 0 }, { name := "BYTES_AS_WORDS", type := (.object "java/lang/invoke/VarHandle"), accessFlags := 26, slot := 5, constantValue := 0 }]
  methods := #[k2m0, k2m1, k2m2]
  instanceTypes := #[]
  staticTypes := #[.long, .int, .int, .int, .int, (.object "java/lang/invoke/VarHandle")]
  resolved := Array.replicate 194 none
  statics := none }

def pool3 : Array CpInfo := pool [(1, u "java/lang/Cloneable"), (0, .class_ 1), (0, u "java/lang/Object"), (0, .class_ 3)] 3

/-- java/lang/Cloneable -/
def k3 : Class := { plain "java/lang/Cloneable" (some 0) with
  accessFlags := 1537
  interfaces := #[]
  cf := some (fileOf pool3 2 #[] #[] 1537 4 #[] #[])
  fields := #[]
  methods := #[]
  instanceTypes := #[]
  staticTypes := #[]
  resolved := Array.replicate 8 none
  statics := none }

def pool4 : Array CpInfo := pool [(1, u "java/io/Serializable"), (0, .class_ 1), (0, u "java/lang/Object"), (0, .class_ 3)] 3

/-- java/io/Serializable -/
def k4 : Class := { plain "java/io/Serializable" (some 0) with
  accessFlags := 1537
  interfaces := #[]
  cf := some (fileOf pool4 2 #[] #[] 1537 4 #[] #[])
  fields := #[]
  methods := #[]
  instanceTypes := #[]
  staticTypes := #[]
  resolved := Array.replicate 8 none
  statics := none }

/-- the primitive byte -/
def k5 : Class := { plain "byte" none with kind := .primitive 'B', accessFlags := 0x411 }
/-- [B -/
def k6 : Class := { plain "[B" (some 0) with kind := .array 5 .byte, interfaces := #[3, 4], accessFlags := 1041 }

/-- the primitive int -/
def k7 : Class := { plain "int" none with kind := .primitive 'I', accessFlags := 0x411 }
/-- [I -/
def k8 : Class := { plain "[I" (some 0) with kind := .array 7 .int, interfaces := #[3, 4], accessFlags := 1041 }

/-- the primitive long -/
def k9 : Class := { plain "long" none with kind := .primitive 'J', accessFlags := 0x411 }
/-- [J -/
def k10 : Class := { plain "[J" (some 0) with kind := .array 9 .long, interfaces := #[3, 4], accessFlags := 1041 }

def heap : Heap := #[]
def classes : Array Class := #[k0, k1, k2, k3, k4, k5, k6, k7, k8, k9, k10]
def interned : List (Array UInt16 × Addr) := []
def slotsUsed : Nat := 0
def theMethod : MethodId := ⟨1, 1⟩
def args0 : Array Value := #[.long 5, .long 2, .long 5, .long 2, .int 2]
def aboutOver (below : List Frame) : State where
  vm := { classes := classes, interned := interned.toArray }
  heap := heap
  slotsUsed := slotsUsed
  threads := #[{ frames := .invoking theMethod args0 :: below }]
def below0 : List Frame := [.native { method := ⟨0, 0⟩, args := #[] }]
def about1 : State := aboutOver below0
def p0 : Program := .bare "" "" ""
def e0 : Env := launch0.env 0 0 0
theorem w_frames : about1.frames = Frame.invoking theMethod args0 :: below0 := rfl
set_option maxRecDepth 65536 in
theorem w_args : argsFit about1.vm theMethod args0 = true := by decide +kernel
set_option maxRecDepth 65536 in
theorem w_heap : heapFits about1 = true := by decide +kernel
set_option maxRecDepth 65536 in
theorem w_runnable : about1.curStatus? = some .runnable := by decide +kernel
set_option maxRecDepth 65536 in
theorem w_alone : about1.alone = true := by decide +kernel
set_option maxRecDepth 65536 in
theorem w_named : about1.methodNamed? x = some theMethod := by decide +kernel
set_option maxRecDepth 65536 in
theorem w_hears : about1.hears theMethod below0 = true := by decide +kernel
set_option maxRecDepth 65536 in
theorem w_ripe : about1.ripe theMethod args0 below0 = true := by decide +kernel
theorem w_running : about1.status = .running := rfl
set_option maxRecDepth 65536 in
theorem w_room : about1.hasRoom e0.platform room_1 = true :=
  launch0.hasRoom_least _ room_1 (by decide +kernel) (by decide +kernel) (by decide +kernel) (by decide +kernel) (by decide +kernel) (by decide +kernel)
theorem allAtoms_all (ts : List Jvm.Cond) (a : Array Jvm.Value) (st : Jvm.State) : (allAtoms ts).before a st = ts.all (fun c => c.before a st) := by
  induction ts with
  | nil => rfl
  | cons c t ih =>
    show (Jvm.Cond.and c (allAtoms t)).before a st = _
    rw [Jvm.Cond.before_and, ih, List.all_cons]
def words1 : List Jvm.Cond := Jvm.Cond.code x code maxLocals ret :: tables_1
/-- a 'code' word, met by the world's own term for the bytes: nothing is compared byte by byte -/
theorem code_word {y : MethodName} {bytes : ByteArray} {mx : Nat} {rt : Option FieldType} {a : Array Value} {s : State} {m : MethodId} {meth : Method} {c : Code} (h1 : s.methodNamed? y = some m) (h2 : s.vm.method? m = some meth) (h3 : meth.code = some c) (h4 : c.code = bytes)
    (h5 : (c.maxLocals == mx && c.exceptionTable.isEmpty && decide (c.maxStack ≤ mostOperands) && decide (meth.sig.returnType = rt) && !meth.locks && decide (parseMethodDescriptor y.desc = some meth.sig)) = true) : (Jvm.Cond.code y bytes mx rt).before a s = true := by
  simp only [Bool.and_eq_true, beq_iff_eq, Bool.not_eq_true', decide_eq_true_eq] at h5
  obtain ⟨⟨⟨⟨⟨g1, g2⟩, g3⟩, g4⟩, g5⟩, g6⟩ := h5
  simp [Cond.before, Cond.holds, Cond.value, h1, h2, h3, h4, g1, g2, g3, g4, g5, g6]
def isCode : Jvm.Cond → Bool
  | .code _ _ _ _ => true
  | _ => false
theorem all_split {L : List Jvm.Cond} {P : Jvm.Cond → Bool} (h1 : L.all (fun c => isCode c || P c) = true) (h2 : ∀ c ∈ L.filter isCode, P c = true) : L.all P = true := by
  refine List.all_eq_true.mpr fun c hc => ?_
  have h := List.all_eq_true.mp h1 c hc
  rcases Bool.eq_false_or_eq_true (isCode c) with hi | hi
  · exact h2 c (List.mem_filter.mpr ⟨hc, hi⟩)
  · simpa [hi] using h
set_option maxRecDepth 65536 in
theorem w_c0 : (Jvm.Cond.code x code maxLocals ret).before args0 about1 = true := code_word (m := ⟨1, 1⟩) (meth := k1m1) (c := k1c1) (by decide +kernel) rfl rfl rfl (by decide +kernel)
set_option maxRecDepth 65536 in
theorem w_c1 : (Jvm.Cond.code ({ cls := "example/rootwise/internal/Naturals", name := "addTwicePlusOne", desc := "([JIII)J" } : Jvm.MethodName) prog_34_method_20_code (17 : Nat) (Option.some Jvm.ClassFile.FieldType.long)).before args0 about1 = true := code_word (m := ⟨2, 1⟩) (meth := k2m1) (c := k2c1) (by decide +kernel) rfl rfl rfl (by decide +kernel)
set_option maxRecDepth 65536 in
theorem w_c2 : (Jvm.Cond.code ({ cls := "example/rootwise/internal/Naturals", name := "carry", desc := "(JJJ)J" } : Jvm.MethodName) prog_34_method_23_code (6 : Nat) (Option.some Jvm.ClassFile.FieldType.long)).before args0 about1 = true := code_word (m := ⟨2, 2⟩) (meth := k2m2) (c := k2c2) (by decide +kernel) rfl rfl rfl (by decide +kernel)
def codes1 : List Jvm.Cond := [Jvm.Cond.code x code maxLocals ret, Jvm.Cond.code ({ cls := "example/rootwise/internal/Naturals", name := "addTwicePlusOne", desc := "([JIII)J" } : Jvm.MethodName) prog_34_method_20_code (17 : Nat) (Option.some Jvm.ClassFile.FieldType.long), Jvm.Cond.code ({ cls := "example/rootwise/internal/Naturals", name := "carry", desc := "(JJJ)J" } : Jvm.MethodName) prog_34_method_23_code (6 : Nat) (Option.some Jvm.ClassFile.FieldType.long)]
set_option maxRecDepth 65536 in
theorem codes_eq : words1.filter isCode = codes1 := rfl
theorem w_codes : ∀ c ∈ words1.filter isCode, c.before args0 about1 = true := by
  rw [codes_eq]
  intro c hc
  simp only [codes1, List.mem_cons, List.not_mem_nil, or_false] at hc
  rcases hc with rfl | rfl | rfl
  · exact w_c0
  · exact w_c1
  · exact w_c2
set_option maxRecDepth 65536 in
theorem w_t1 : words1.all (fun c => isCode c || c.before args0 about1) = true := by decide +kernel
theorem w_tables : (allAtoms (Jvm.Cond.code x code maxLocals ret :: tables_1)).before args0 about1 = true := by
  rw [allAtoms_all]
  show words1.all (fun c => c.before args0 about1) = true
  refine all_split ?_ w_codes
  rw [w_t1]
set_option maxRecDepth 65536 in
theorem w_case : (Jvm.Cond.and given_1 narrow_1).before args0 about1 = true := by decide +kernel
theorem w_applies : (headSpec (Jvm.Cond.code x code maxLocals ret :: tables_1) room_1).applies x e0.platform about1 = true :=
  (Spec.applies_iff w_frames).mpr ⟨w_running, w_runnable, w_alone, w_named, w_hears, w_ripe, w_room, w_tables⟩
theorem atStart : AtStart classFile x code maxLocals ret World_1 tables_1 room_1 Calls_1 rest_1 Pre_1 launch0 p0 e0 about1 theMethod args0 below0 :=
  ⟨lists_1, trivial, launch0.admits_env _ _ _, launch0.least_env, fairChoices_fair.cas, fairChoices_fair.clock, w_frames, w_args, w_heap, w_applies, trivial, trivial, w_case⟩
end start1
theorem witness_1 : WitnessClaimed_1 := ⟨start1.p0, start1.e0, start1.about1, start1.theMethod, start1.args0, start1.below0, start1.atStart⟩
end Jvm.Pilot.@@N@@
