import JvmDerived
import JvmDerived.Pilot.@@N@@Statement
import JvmDerived.Pilot.@@N@@Code
set_option linter.unusedVariables false
set_option linter.unusedSimpArgs false
namespace Jvm.Pilot.@@N@@
open Jvm Jvm.ClassFile Sem Op Lib Jvm.Free Jvm.Stand Jvm.LawKit Jvm.RoadKit Bundle Jvm.Pilot.@@N@@.Jvm.D
section Own
variable {Z : State} {own nm : String} {bytes : ByteArray} {ml : Nat} {ret : Option FieldType} {R : Room} {n0 : Nat} {Q : Option Value → Heap → Prop} {k n : Nat} {h : Heap} {pc q r : Nat} {L L' : Array Slot} {S S' : List Value} {a0 : Array Value}
/-- what a body's own record says of it -/
def oCtx (p : Program) (s : State) (m : MethodId) (meth : Method) (c : Code) (Z : State) (own nm : String) (bytes : ByteArray) (ml : Nat) (ret : Option FieldType) : Prop :=
  p.tables.exec = Jvm.exec ∧ Z.Warmed39 s.vm ∧ c.code = bytes ∧ c.maxLocals = ml ∧ s.vm.findClass own = some m.cls ∧ meth.sig.returnType = ret ∧ meth.locks = false ∧ meth.name = nm
/-- from here on the body comes to its end, and there Q holds; nothing old is written -/
def oGo (Z : State) (own nm : String) (bytes : ByteArray) (ml : Nat) (ret : Option FieldType) (R : Room) (n0 : Nat) (Q : Option Value → Heap → Prop) (k n : Nat) (h : Heap) (pc : Nat) (L : Array Slot) (S : List Value) : Prop :=
  ∀ (p : Program) (l : Launch) (e : Env) (s : State) (m : MethodId) (args : Array Value) (below : List Frame) (meth : Method) (c : Code) (T : State) (locs : List Loc),
    oCtx p s m meth c Z own nm bytes ml ret → Stand p l e R s m args below meth c T locs k n → T.heap = h → Fr n0 locs →
    ∃ s₂ o, Steps p.tables e below (T.setTop (mkF m pc L S)) s₂ ∧ s₂.status = .running ∧ Ended s₂ below o ∧ ∃ v L', o = .returned v ∧ (Q v s₂.heap ∧ Fr n0 L') ∧ FrameEnd s o s₂ L' R.cells R.slots
/-- a body's contract -/
def oCon (Z : State) (y : MethodName) (bytes : ByteArray) (ml : Nat) (ret : Option FieldType) (rm : Room) (as : Array Value) (h : Heap) (n0 : Nat) (Q : Option Value → Heap → Prop) : Prop :=
  ∀ (l : Launch) (ws : List Jvm.Cond), MetFree l y (head1 (Jvm.Cond.code y bytes ml ret :: ws) rm) (fun a U => a = as ∧ Z.Warmed39 U.vm ∧ U.heap = h) (fun _ _ _ _ _ => True) (fun _ U o U' => ∃ v L, o = .returned v ∧ (Q v U'.heap ∧ Fr n0 L) ∧ FrameEnd U o U' L rm.cells rm.slots)
theorem oCon.of {y : MethodName} {rm : Room} {as : Array Value} {L0 : Array Slot} (hp : plainFor y = true) (he : ∀ m, entryFrame m as ml = mkF m 0 L0 []) (K : oGo Z y.cls y.name bytes ml ret rm n0 Q 0 0 h 0 L0 []) : oCon Z y bytes ml ret rm as h n0 Q := by
  intro l ws
  refine MetFree.of_bodySF hp hisR ?_
  intro p e s m args below meth c s₁ Bd hml0 hP hK
  obtain ⟨rfl, hZ, hh⟩ := hP
  have e0 : s₁.heap = h := by rw [← hh, Bd.state]; rfl
  obtain ⟨s₂, o, h1, h2, h3, h4⟩ := K p l e s m args below meth c s₁ [] ⟨Bd.exec, hZ, Bd.bytes, hml0, findClass_of_methodNamed Bd.named, Bd.returns, Bd.notSynchronized, (name_of_methodNamed Bd.named Bd.method).1⟩ (Stand.of_body Bd) e0 (Fr.nil n0)
  exact ⟨s₂, o, castTop (he m) h1, h2, h3, h4⟩
theorem oGo.more {k' n' : Nat} (hk : k ≤ k') (hn : n ≤ n') (K : oGo Z own nm bytes ml ret R n0 Q k' n' h pc L S) : oGo Z own nm bytes ml ret R n0 Q k n h pc L S :=
  fun p l e s m args below meth c T locs C X eT N => K p l e s m args below meth c T locs C (X.more hk hn) eT N
theorem oGo.st (H : ∀ (p : Program) (e : Env) (m : MethodId) (below : List Frame) (c : Code) (T : State), p.tables.exec = Jvm.exec → c.code = bytes → At T m c below → ∀ t, Steps p.tables e below (T.setTop (mkF m q L' S')) t → Steps p.tables e below (T.setTop (mkF m pc L S)) t) (K : oGo Z own nm bytes ml ret R n0 Q k n h q L' S') : oGo Z own nm bytes ml ret R n0 Q k n h pc L S :=
  fun p l e s m args below meth c T locs C X eT N => by
    obtain ⟨s₂, o, h1, r⟩ := K p l e s m args below meth c T locs C X eT N
    exact ⟨s₂, o, H p e m below c T C.1 C.2.2.1 X.here s₂ h1, r⟩
theorem oGo.iadd {x y : Int32} (hd : decode bytes pc = .ok (.iadd, 1)) (hq : pc + 1 = q) (K : oGo Z own nm bytes ml ret R n0 Q k n h q L (.int (x + y) :: S)) : oGo Z own nm bytes ml ret R n0 Q k n h pc L (.int y :: .int x :: S) := by
  subst hq; exact oGo.st (fun p e m below c T hx hby hA t k => XS.iadd hA hx rfl (hb hby hd) rfl k) K
theorem oGo.isub {x y : Int32} (hd : decode bytes pc = .ok (.isub, 1)) (hq : pc + 1 = q) (K : oGo Z own nm bytes ml ret R n0 Q k n h q L (.int (x - y) :: S)) : oGo Z own nm bytes ml ret R n0 Q k n h pc L (.int y :: .int x :: S) := by
  subst hq; exact oGo.st (fun p e m below c T hx hby hA t k => XS.isub hA hx rfl (hb hby hd) rfl k) K
theorem oGo.imul {x y : Int32} (hd : decode bytes pc = .ok (.imul, 1)) (hq : pc + 1 = q) (K : oGo Z own nm bytes ml ret R n0 Q k n h q L (.int (x * y) :: S)) : oGo Z own nm bytes ml ret R n0 Q k n h pc L (.int y :: .int x :: S) := by
  subst hq; exact oGo.st (fun p e m below c T hx hby hA t k => XS.imul hA hx rfl (hb hby hd) rfl k) K
theorem oGo.iand {x y : Int32} (hd : decode bytes pc = .ok (.iand, 1)) (hq : pc + 1 = q) (K : oGo Z own nm bytes ml ret R n0 Q k n h q L (.int (x &&& y) :: S)) : oGo Z own nm bytes ml ret R n0 Q k n h pc L (.int y :: .int x :: S) := by
  subst hq; exact oGo.st (fun p e m below c T hx hby hA t k => XS.iand hA hx rfl (hb hby hd) rfl k) K
theorem oGo.ior {x y : Int32} (hd : decode bytes pc = .ok (.ior, 1)) (hq : pc + 1 = q) (K : oGo Z own nm bytes ml ret R n0 Q k n h q L (.int (x ||| y) :: S)) : oGo Z own nm bytes ml ret R n0 Q k n h pc L (.int y :: .int x :: S) := by
  subst hq; exact oGo.st (fun p e m below c T hx hby hA t k => XS.ior hA hx rfl (hb hby hd) rfl k) K
theorem oGo.ixor {x y : Int32} (hd : decode bytes pc = .ok (.ixor, 1)) (hq : pc + 1 = q) (K : oGo Z own nm bytes ml ret R n0 Q k n h q L (.int (x ^^^ y) :: S)) : oGo Z own nm bytes ml ret R n0 Q k n h pc L (.int y :: .int x :: S) := by
  subst hq; exact oGo.st (fun p e m below c T hx hby hA t k => XS.ixor hA hx rfl (hb hby hd) rfl k) K
theorem oGo.ishl {x y : Int32} (hd : decode bytes pc = .ok (.ishl, 1)) (hq : pc + 1 = q) (K : oGo Z own nm bytes ml ret R n0 Q k n h q L (.int (x <<< (y &&& 31)) :: S)) : oGo Z own nm bytes ml ret R n0 Q k n h pc L (.int y :: .int x :: S) := by
  subst hq; exact oGo.st (fun p e m below c T hx hby hA t k => XS.ishl hA hx rfl (hb hby hd) rfl k) K
theorem oGo.ishr {x y : Int32} (hd : decode bytes pc = .ok (.ishr, 1)) (hq : pc + 1 = q) (K : oGo Z own nm bytes ml ret R n0 Q k n h q L (.int (x >>> (y &&& 31)) :: S)) : oGo Z own nm bytes ml ret R n0 Q k n h pc L (.int y :: .int x :: S) := by
  subst hq; exact oGo.st (fun p e m below c T hx hby hA t k => XS.ishr hA hx rfl (hb hby hd) rfl k) K
theorem oGo.iushr {x y : Int32} (hd : decode bytes pc = .ok (.iushr, 1)) (hq : pc + 1 = q) (K : oGo Z own nm bytes ml ret R n0 Q k n h q L (.int ((x.toUInt32 >>> (y &&& 31).toUInt32).toInt32) :: S)) : oGo Z own nm bytes ml ret R n0 Q k n h pc L (.int y :: .int x :: S) := by
  subst hq; exact oGo.st (fun p e m below c T hx hby hA t k => XS.iushr hA hx rfl (hb hby hd) rfl k) K
theorem oGo.ladd {x y : Int64} (hd : decode bytes pc = .ok (.ladd, 1)) (hq : pc + 1 = q) (K : oGo Z own nm bytes ml ret R n0 Q k n h q L (.long (x + y) :: S)) : oGo Z own nm bytes ml ret R n0 Q k n h pc L (.long y :: .long x :: S) := by
  subst hq; exact oGo.st (fun p e m below c T hx hby hA t k => XS.ladd hA hx rfl (hb hby hd) rfl k) K
theorem oGo.lsub {x y : Int64} (hd : decode bytes pc = .ok (.lsub, 1)) (hq : pc + 1 = q) (K : oGo Z own nm bytes ml ret R n0 Q k n h q L (.long (x - y) :: S)) : oGo Z own nm bytes ml ret R n0 Q k n h pc L (.long y :: .long x :: S) := by
  subst hq; exact oGo.st (fun p e m below c T hx hby hA t k => XS.lsub hA hx rfl (hb hby hd) rfl k) K
theorem oGo.lmul {x y : Int64} (hd : decode bytes pc = .ok (.lmul, 1)) (hq : pc + 1 = q) (K : oGo Z own nm bytes ml ret R n0 Q k n h q L (.long (x * y) :: S)) : oGo Z own nm bytes ml ret R n0 Q k n h pc L (.long y :: .long x :: S) := by
  subst hq; exact oGo.st (fun p e m below c T hx hby hA t k => XS.lmul hA hx rfl (hb hby hd) rfl k) K
theorem oGo.land {x y : Int64} (hd : decode bytes pc = .ok (.land, 1)) (hq : pc + 1 = q) (K : oGo Z own nm bytes ml ret R n0 Q k n h q L (.long (x &&& y) :: S)) : oGo Z own nm bytes ml ret R n0 Q k n h pc L (.long y :: .long x :: S) := by
  subst hq; exact oGo.st (fun p e m below c T hx hby hA t k => XS.land hA hx rfl (hb hby hd) rfl k) K
theorem oGo.lor {x y : Int64} (hd : decode bytes pc = .ok (.lor, 1)) (hq : pc + 1 = q) (K : oGo Z own nm bytes ml ret R n0 Q k n h q L (.long (x ||| y) :: S)) : oGo Z own nm bytes ml ret R n0 Q k n h pc L (.long y :: .long x :: S) := by
  subst hq; exact oGo.st (fun p e m below c T hx hby hA t k => XS.lor hA hx rfl (hb hby hd) rfl k) K
theorem oGo.lxor {x y : Int64} (hd : decode bytes pc = .ok (.lxor, 1)) (hq : pc + 1 = q) (K : oGo Z own nm bytes ml ret R n0 Q k n h q L (.long (x ^^^ y) :: S)) : oGo Z own nm bytes ml ret R n0 Q k n h pc L (.long y :: .long x :: S) := by
  subst hq; exact oGo.st (fun p e m below c T hx hby hA t k => XS.lxor hA hx rfl (hb hby hd) rfl k) K
theorem oGo.lshl {x : Int64} {y : Int32} (hd : decode bytes pc = .ok (.lshl, 1)) (hq : pc + 1 = q) (K : oGo Z own nm bytes ml ret R n0 Q k n h q L (.long (x <<< (y &&& 0x3f).toInt64) :: S)) : oGo Z own nm bytes ml ret R n0 Q k n h pc L (.int y :: .long x :: S) := by
  subst hq; exact oGo.st (fun p e m below c T hx hby hA t k => XS.lshl hA hx rfl (hb hby hd) rfl k) K
theorem oGo.lshr {x : Int64} {y : Int32} (hd : decode bytes pc = .ok (.lshr, 1)) (hq : pc + 1 = q) (K : oGo Z own nm bytes ml ret R n0 Q k n h q L (.long (x >>> (y &&& 0x3f).toInt64) :: S)) : oGo Z own nm bytes ml ret R n0 Q k n h pc L (.int y :: .long x :: S) := by
  subst hq; exact oGo.st (fun p e m below c T hx hby hA t k => XS.lshr hA hx rfl (hb hby hd) rfl k) K
theorem oGo.lushr {x : Int64} {y : Int32} (hd : decode bytes pc = .ok (.lushr, 1)) (hq : pc + 1 = q) (K : oGo Z own nm bytes ml ret R n0 Q k n h q L (.long ((x.toUInt64 >>> (y &&& 0x3f).toInt64.toUInt64).toInt64) :: S)) : oGo Z own nm bytes ml ret R n0 Q k n h pc L (.int y :: .long x :: S) := by
  subst hq; exact oGo.st (fun p e m below c T hx hby hA t k => XS.lushr hA hx rfl (hb hby hd) rfl k) K
theorem oGo.idiv {x y : Int32} (hd : decode bytes pc = .ok (.idiv, 1)) (hq : pc + 1 = q) (hy : y ≠ 0) (K : oGo Z own nm bytes ml ret R n0 Q k n h q L (.int (x / y) :: S)) : oGo Z own nm bytes ml ret R n0 Q k n h pc L (.int y :: .int x :: S) := by
  subst hq; exact oGo.st (fun p e m below c T hx hby hA t k => XS.idiv hA hx rfl (hb hby hd) rfl hy k) K
theorem oGo.ldiv {x y : Int64} (hd : decode bytes pc = .ok (.ldiv, 1)) (hq : pc + 1 = q) (hy : y ≠ 0) (K : oGo Z own nm bytes ml ret R n0 Q k n h q L (.long (x / y) :: S)) : oGo Z own nm bytes ml ret R n0 Q k n h pc L (.long y :: .long x :: S) := by
  subst hq; exact oGo.st (fun p e m below c T hx hby hA t k => XS.ldiv hA hx rfl (hb hby hd) rfl hy k) K
theorem oGo.irem {x y : Int32} (hd : decode bytes pc = .ok (.irem, 1)) (hq : pc + 1 = q) (hy : y ≠ 0) (K : oGo Z own nm bytes ml ret R n0 Q k n h q L (.int (x % y) :: S)) : oGo Z own nm bytes ml ret R n0 Q k n h pc L (.int y :: .int x :: S) := by
  subst hq; exact oGo.st (fun p e m below c T hx hby hA t k => XS.irem hA hx rfl (hb hby hd) rfl hy (by rw [irem_eq_mod]; exact k)) K
theorem oGo.lrem {x y : Int64} (hd : decode bytes pc = .ok (.lrem, 1)) (hq : pc + 1 = q) (hy : y ≠ 0) (K : oGo Z own nm bytes ml ret R n0 Q k n h q L (.long (x % y) :: S)) : oGo Z own nm bytes ml ret R n0 Q k n h pc L (.long y :: .long x :: S) := by
  subst hq; exact oGo.st (fun p e m below c T hx hby hA t k => XS.lrem hA hx rfl (hb hby hd) rfl hy (by rw [lrem_mod]; exact k)) K
theorem oGo.ineg {x : Int32} (hd : decode bytes pc = .ok (.ineg, 1)) (hq : pc + 1 = q) (K : oGo Z own nm bytes ml ret R n0 Q k n h q L (.int (-x) :: S)) : oGo Z own nm bytes ml ret R n0 Q k n h pc L (.int x :: S) := by
  subst hq; exact oGo.st (fun p e m below c T hx hby hA t k => XS.ineg hA hx rfl (hb hby hd) rfl k) K
theorem oGo.lneg {x : Int64} (hd : decode bytes pc = .ok (.lneg, 1)) (hq : pc + 1 = q) (K : oGo Z own nm bytes ml ret R n0 Q k n h q L (.long (-x) :: S)) : oGo Z own nm bytes ml ret R n0 Q k n h pc L (.long x :: S) := by
  subst hq; exact oGo.st (fun p e m below c T hx hby hA t k => XS.lneg hA hx rfl (hb hby hd) rfl k) K
theorem oGo.i2b {x : Int32} (hd : decode bytes pc = .ok (.i2b, 1)) (hq : pc + 1 = q) (K : oGo Z own nm bytes ml ret R n0 Q k n h q L (.int (x.toInt8.toInt32) :: S)) : oGo Z own nm bytes ml ret R n0 Q k n h pc L (.int x :: S) := by
  subst hq; exact oGo.st (fun p e m below c T hx hby hA t k => XS.i2b hA hx rfl (hb hby hd) rfl k) K
theorem oGo.i2c {x : Int32} (hd : decode bytes pc = .ok (.i2c, 1)) (hq : pc + 1 = q) (K : oGo Z own nm bytes ml ret R n0 Q k n h q L (.int (x.toUInt32.toUInt16.toUInt32.toInt32) :: S)) : oGo Z own nm bytes ml ret R n0 Q k n h pc L (.int x :: S) := by
  subst hq; exact oGo.st (fun p e m below c T hx hby hA t k => XS.i2c hA hx rfl (hb hby hd) rfl k) K
theorem oGo.i2s {x : Int32} (hd : decode bytes pc = .ok (.i2s, 1)) (hq : pc + 1 = q) (K : oGo Z own nm bytes ml ret R n0 Q k n h q L (.int (x.toInt16.toInt32) :: S)) : oGo Z own nm bytes ml ret R n0 Q k n h pc L (.int x :: S) := by
  subst hq; exact oGo.st (fun p e m below c T hx hby hA t k => XS.i2s hA hx rfl (hb hby hd) rfl k) K
theorem oGo.i2l {x : Int32} (hd : decode bytes pc = .ok (.i2l, 1)) (hq : pc + 1 = q) (K : oGo Z own nm bytes ml ret R n0 Q k n h q L (.long (x.toInt64) :: S)) : oGo Z own nm bytes ml ret R n0 Q k n h pc L (.int x :: S) := by
  subst hq; exact oGo.st (fun p e m below c T hx hby hA t k => XS.i2l hA hx rfl (hb hby hd) rfl k) K
theorem oGo.l2i {x : Int64} (hd : decode bytes pc = .ok (.l2i, 1)) (hq : pc + 1 = q) (K : oGo Z own nm bytes ml ret R n0 Q k n h q L (.int (x.toInt32) :: S)) : oGo Z own nm bytes ml ret R n0 Q k n h pc L (.long x :: S) := by
  subst hq; exact oGo.st (fun p e m below c T hx hby hA t k => XS.l2i hA hx rfl (hb hby hd) rfl k) K
theorem oGo.iconst {i : Int} {v : Int32} (hd : decode bytes pc = .ok (.iconst i, 1)) (hq : pc + 1 = q) (hv : Int32.ofInt i = v) (K : oGo Z own nm bytes ml ret R n0 Q k n h q L (.int v :: S)) : oGo Z own nm bytes ml ret R n0 Q k n h pc L S := by
  subst hq hv; exact oGo.st (fun p e m below c T hx hby hA t k => XS.iconst hA hx rfl (hb hby hd) k) K
theorem oGo.bipush {i : Int} {v : Int32} (hd : decode bytes pc = .ok (.bipush i, 2)) (hq : pc + 2 = q) (hv : (Int8.ofInt i).toInt32 = v) (K : oGo Z own nm bytes ml ret R n0 Q k n h q L (.int v :: S)) : oGo Z own nm bytes ml ret R n0 Q k n h pc L S := by
  subst hq hv; exact oGo.st (fun p e m below c T hx hby hA t k => XS.bipush hA hx rfl (hb hby hd) k) K
theorem oGo.sipush {i : Int} {v : Int32} (hd : decode bytes pc = .ok (.sipush i, 3)) (hq : pc + 3 = q) (hv : (Int16.ofInt i).toInt32 = v) (K : oGo Z own nm bytes ml ret R n0 Q k n h q L (.int v :: S)) : oGo Z own nm bytes ml ret R n0 Q k n h pc L S := by
  subst hq hv; exact oGo.st (fun p e m below c T hx hby hA t k => XS.sipush hA hx rfl (hb hby hd) k) K
theorem oGo.lconst {i : Fin 2} {v : Int64} (hd : decode bytes pc = .ok (.lconst i, 1)) (hq : pc + 1 = q) (hv : Int64.ofNat i = v) (K : oGo Z own nm bytes ml ret R n0 Q k n h q L (.long v :: S)) : oGo Z own nm bytes ml ret R n0 Q k n h pc L S := by
  subst hq hv; exact oGo.st (fun p e m below c T hx hby hA t k => XS.lconst hA hx rfl (hb hby hd) k) K
theorem oGo.aconstNull (hd : decode bytes pc = .ok (.aconst_null, 1)) (hq : pc + 1 = q) (K : oGo Z own nm bytes ml ret R n0 Q k n h q L (.null :: S)) : oGo Z own nm bytes ml ret R n0 Q k n h pc L (S) := by
  subst hq; exact oGo.st (fun p e m below c T hx hby hA t k => XS.aconstNull hA hx rfl (hb hby hd) k) K
theorem oGo.iload {i : Nat} {v : Int32} (hd : decode bytes pc = .ok (.iload i, 2)) (hq : pc + 2 = q) (hl : L[i]? = some (.val (.int v))) (K : oGo Z own nm bytes ml ret R n0 Q k n h q L (.int v :: S)) : oGo Z own nm bytes ml ret R n0 Q k n h pc L S := by
  subst hq; exact oGo.st (fun p e m below c T hx hby hA t k => XS.iload hA hx rfl (hb hby hd) hl k) K
theorem oGo.iloadN {i : Fin 4} {v : Int32} (hd : decode bytes pc = .ok (.iload_n i, 1)) (hq : pc + 1 = q) (hl : L[i.val]? = some (.val (.int v))) (K : oGo Z own nm bytes ml ret R n0 Q k n h q L (.int v :: S)) : oGo Z own nm bytes ml ret R n0 Q k n h pc L S := by
  subst hq; exact oGo.st (fun p e m below c T hx hby hA t k => XS.iloadN hA hx rfl (hb hby hd) hl k) K
theorem oGo.istore {i : Nat} {v : Int32} (hd : decode bytes pc = .ok (.istore i, 2)) (hq : pc + 2 = q) (hl : storeLocals L i (.int v) = some L') (K : oGo Z own nm bytes ml ret R n0 Q k n h q L' S) : oGo Z own nm bytes ml ret R n0 Q k n h pc L (.int v :: S) := by
  subst hq; exact oGo.st (fun p e m below c T hx hby hA t k => XS.istore hA hx rfl (hb hby hd) rfl hl k) K
theorem oGo.istoreN {i : Fin 4} {v : Int32} (hd : decode bytes pc = .ok (.istore_n i, 1)) (hq : pc + 1 = q) (hl : storeLocals L i.val (.int v) = some L') (K : oGo Z own nm bytes ml ret R n0 Q k n h q L' S) : oGo Z own nm bytes ml ret R n0 Q k n h pc L (.int v :: S) := by
  subst hq; exact oGo.st (fun p e m below c T hx hby hA t k => XS.istoreN hA hx rfl (hb hby hd) rfl hl k) K
theorem oGo.lload {i : Nat} {v : Int64} (hd : decode bytes pc = .ok (.lload i, 2)) (hq : pc + 2 = q) (hl : L[i]? = some (.val (.long v))) (K : oGo Z own nm bytes ml ret R n0 Q k n h q L (.long v :: S)) : oGo Z own nm bytes ml ret R n0 Q k n h pc L S := by
  subst hq; exact oGo.st (fun p e m below c T hx hby hA t k => XS.lload hA hx rfl (hb hby hd) hl k) K
theorem oGo.lloadN {i : Fin 4} {v : Int64} (hd : decode bytes pc = .ok (.lload_n i, 1)) (hq : pc + 1 = q) (hl : L[i.val]? = some (.val (.long v))) (K : oGo Z own nm bytes ml ret R n0 Q k n h q L (.long v :: S)) : oGo Z own nm bytes ml ret R n0 Q k n h pc L S := by
  subst hq; exact oGo.st (fun p e m below c T hx hby hA t k => XS.lloadN hA hx rfl (hb hby hd) hl k) K
theorem oGo.lstore {i : Nat} {v : Int64} (hd : decode bytes pc = .ok (.lstore i, 2)) (hq : pc + 2 = q) (hl : storeLocals L i (.long v) = some L') (K : oGo Z own nm bytes ml ret R n0 Q k n h q L' S) : oGo Z own nm bytes ml ret R n0 Q k n h pc L (.long v :: S) := by
  subst hq; exact oGo.st (fun p e m below c T hx hby hA t k => XS.lstore hA hx rfl (hb hby hd) rfl hl k) K
theorem oGo.lstoreN {i : Fin 4} {v : Int64} (hd : decode bytes pc = .ok (.lstore_n i, 1)) (hq : pc + 1 = q) (hl : storeLocals L i.val (.long v) = some L') (K : oGo Z own nm bytes ml ret R n0 Q k n h q L' S) : oGo Z own nm bytes ml ret R n0 Q k n h pc L (.long v :: S) := by
  subst hq; exact oGo.st (fun p e m below c T hx hby hA t k => XS.lstoreN hA hx rfl (hb hby hd) rfl hl k) K
theorem oGo.aload {i : Nat} {v : Value} (hd : decode bytes pc = .ok (.aload i, 2)) (hq : pc + 2 = q) (hl : L[i]? = some (.val v)) (hv : v.isRef = true) (K : oGo Z own nm bytes ml ret R n0 Q k n h q L (v :: S)) : oGo Z own nm bytes ml ret R n0 Q k n h pc L S := by
  subst hq; exact oGo.st (fun p e m below c T hx hby hA t k => XS.aload hA hx rfl (hb hby hd) hl hv k) K
theorem oGo.aloadN {i : Fin 4} {v : Value} (hd : decode bytes pc = .ok (.aload_n i, 1)) (hq : pc + 1 = q) (hl : L[i.val]? = some (.val v)) (hv : v.isRef = true) (K : oGo Z own nm bytes ml ret R n0 Q k n h q L (v :: S)) : oGo Z own nm bytes ml ret R n0 Q k n h pc L S := by
  subst hq; exact oGo.st (fun p e m below c T hx hby hA t k => XS.aloadN hA hx rfl (hb hby hd) hl hv k) K
theorem oGo.astore {i : Nat} {v : Value} (hd : decode bytes pc = .ok (.astore i, 2)) (hq : pc + 2 = q) (hv : v.isRef = true) (hl : storeLocals L i v = some L') (K : oGo Z own nm bytes ml ret R n0 Q k n h q L' S) : oGo Z own nm bytes ml ret R n0 Q k n h pc L (v :: S) := by
  subst hq; exact oGo.st (fun p e m below c T hx hby hA t k => XS.astore hA hx rfl (hb hby hd) rfl hv hl k) K
theorem oGo.astoreN {i : Fin 4} {v : Value} (hd : decode bytes pc = .ok (.astore_n i, 1)) (hq : pc + 1 = q) (hv : v.isRef = true) (hl : storeLocals L i.val v = some L') (K : oGo Z own nm bytes ml ret R n0 Q k n h q L' S) : oGo Z own nm bytes ml ret R n0 Q k n h pc L (v :: S) := by
  subst hq; exact oGo.st (fun p e m below c T hx hby hA t k => XS.astoreN hA hx rfl (hb hby hd) rfl hv hl k) K
theorem oGo.iinc {i : Nat} {cst : Int} {x v : Int32} (hd : decode bytes pc = .ok (.iinc i cst, 3)) (hq : pc + 3 = q) (hl : L[i]? = some (.val (.int x))) (hv : x + Int32.ofInt cst = v) (hs : storeLocals L i (.int v) = some L') (K : oGo Z own nm bytes ml ret R n0 Q k n h q L' S) : oGo Z own nm bytes ml ret R n0 Q k n h pc L S := by
  subst hq hv; exact oGo.st (fun p e m below c T hx hby hA t k => XS.iinc hA hx rfl (hb hby hd) hl hs k) K
theorem oGo.dup {v : Value} (hd : decode bytes pc = .ok (.dup, 1)) (hq : pc + 1 = q) (hc : v.category = 1) (K : oGo Z own nm bytes ml ret R n0 Q k n h q L (v :: v :: S)) : oGo Z own nm bytes ml ret R n0 Q k n h pc L (v :: S) := by
  subst hq; exact oGo.st (fun p e m below c T hx hby hA t k => XS.dup hA hx rfl (hb hby hd) rfl hc k) K
theorem oGo.dupX1 {v w : Value} (hd : decode bytes pc = .ok (.dup_x1, 1)) (hq : pc + 1 = q) (hc : v.category = 1) (hc' : w.category = 1) (K : oGo Z own nm bytes ml ret R n0 Q k n h q L (v :: w :: v :: S)) : oGo Z own nm bytes ml ret R n0 Q k n h pc L (v :: w :: S) := by
  subst hq; exact oGo.st (fun p e m below c T hx hby hA t k => XS.dupX1 hA hx rfl (hb hby hd) rfl hc hc' k) K
theorem oGo.dup2 {v w : Value} (hd : decode bytes pc = .ok (.dup2, 1)) (hq : pc + 1 = q) (hc : v.category = 1) (hc' : w.category = 1) (K : oGo Z own nm bytes ml ret R n0 Q k n h q L (v :: w :: v :: w :: S)) : oGo Z own nm bytes ml ret R n0 Q k n h pc L (v :: w :: S) := by
  subst hq; exact oGo.st (fun p e m below c T hx hby hA t k => XT.dup2 hA hx rfl (hb hby hd) rfl hc hc' k) K
theorem oGo.pop {v : Value} (hd : decode bytes pc = .ok (.pop, 1)) (hq : pc + 1 = q) (hc : v.category = 1) (K : oGo Z own nm bytes ml ret R n0 Q k n h q L S) : oGo Z own nm bytes ml ret R n0 Q k n h pc L (v :: S) := by
  subst hq; exact oGo.st (fun p e m below c T hx hby hA t k => XS.pop hA hx rfl (hb hby hd) rfl hc k) K
theorem oGo.goto {o : Int} (hd : decode bytes pc = .ok (.goto o, 3)) (hq : (pc : Int) + o = (q : Int)) (K : oGo Z own nm bytes ml ret R n0 Q k n h q L S) : oGo Z own nm bytes ml ret R n0 Q k n h pc L S :=
  oGo.st (fun p e m below c T hx hby hA t k => XS.goto hA hx rfl (pc0 := pc) (pc' := q) rfl (hb hby hd) (by omega) (by omega) k) K
theorem oGo.ifnonnullYes {o : Int} {b : Addr} (hd : decode bytes pc = .ok (.ifnonnull o, 3)) (hq : (pc : Int) + o = (q : Int)) (K : oGo Z own nm bytes ml ret R n0 Q k n h q L S) : oGo Z own nm bytes ml ret R n0 Q k n h pc L (.ref b :: S) :=
  oGo.st (fun p e m below c T hx hby hA t k => XS.ifnonnullYes hA hx rfl (pc0 := pc) (pc' := q) rfl (hb hby hd) rfl (by omega) (by omega) k) K
theorem oGo.lcmp {x y : Int64} (hd : decode bytes pc = .ok (.lcmp, 1)) (hq : pc + 1 = q) (K : oGo Z own nm bytes ml ret R n0 Q k n h q L (.int (lcmpW x y) :: S)) : oGo Z own nm bytes ml ret R n0 Q k n h pc L (.long y :: .long x :: S) := by
  subst hq; exact oGo.st (fun p e m below c T hx hby hA t k => XS.lcmp hA hx rfl (hb hby hd) rfl k) K
theorem own_hlt {x y : Int32} : (x.toInt < y.toInt → if_icmp.holds .lt x y = true) ∧ (y.toInt ≤ x.toInt → if_icmp.holds .lt x y = false) :=
  ⟨fun hc => (tlt (Int32.lt_iff_toInt_lt.mpr hc)).1, fun hc => (flt (fun z => by have := Int32.lt_iff_toInt_lt.mp z; omega)).1⟩
theorem own_dlt (x y : Int32) : (x.toInt < y.toInt) ∨ (y.toInt ≤ x.toInt) := by omega
theorem own_elt (x y : Int64) : (x.toInt < y.toInt) ∨ (y.toInt ≤ x.toInt) := by omega
theorem oGo.icmp_lt {o : Int} {x y : Int32} (hd : decode bytes pc = .ok (.if_icmp .lt o, 3)) (hq : (pc : Int) + o = (q : Int)) (hr : pc + 3 = r) (K1 : x.toInt < y.toInt → oGo Z own nm bytes ml ret R n0 Q k n h q L S) (K2 : y.toInt ≤ x.toInt → oGo Z own nm bytes ml ret R n0 Q k n h r L S) : oGo Z own nm bytes ml ret R n0 Q k n h pc L (.int y :: .int x :: S) := by
  rcases own_dlt x y with hc | hc
  · exact oGo.st (fun p e m below c T hx hby hA t k => XS.icmpYes hA hx rfl (pc0 := pc) (pc' := q) rfl (hb hby hd) rfl (own_hlt.1 hc) (by omega) (by omega) k) (K1 hc)
  · subst hr; exact oGo.st (fun p e m below c T hx hby hA t k => XS.icmpNo hA hx rfl (hb hby hd) rfl (own_hlt.2 hc) k) (K2 hc)
theorem oGo.if_lt {o : Int} {x : Int32} (hd : decode bytes pc = .ok (.ifCond .lt o, 3)) (hq : (pc : Int) + o = (q : Int)) (hr : pc + 3 = r) (K1 : x.toInt < 0 → oGo Z own nm bytes ml ret R n0 Q k n h q L S) (K2 : 0 ≤ x.toInt → oGo Z own nm bytes ml ret R n0 Q k n h r L S) : oGo Z own nm bytes ml ret R n0 Q k n h pc L (.int x :: S) := by
  rcases own_dlt x 0 with hc | hc
  · exact oGo.st (fun p e m below c T hx hby hA t k => XS.ifYes hA hx rfl (pc0 := pc) (pc' := q) rfl (hb hby hd) rfl ((if0 _ _).trans (own_hlt.1 hc)) (by omega) (by omega) k) (K1 hc)
  · subst hr; exact oGo.st (fun p e m below c T hx hby hA t k => XS.ifNo hA hx rfl (hb hby hd) rfl ((if0 _ _).trans (own_hlt.2 hc)) k) (K2 hc)
theorem own_llt {x y : Int64} : (x.toInt < y.toInt → (lcmpW x y).toInt < 0) ∧ (y.toInt ≤ x.toInt → 0 ≤ (lcmpW x y).toInt) := by
  obtain ⟨h1, h2, h3⟩ := c_lcmp x y
  refine ⟨fun hc => ?_, fun hc => ?_⟩ <;> (rcases Int.lt_trichotomy x.toInt y.toInt with u | u | u <;> simp_all <;> omega)
theorem oGo.lif_lt {o : Int} {x y : Int64} {pc2 : Nat} (hd : decode bytes pc = .ok (.lcmp, 1)) (h1 : pc + 1 = pc2) (hd2 : decode bytes pc2 = .ok (.ifCond .lt o, 3)) (hq : (pc2 : Int) + o = (q : Int)) (hr : pc2 + 3 = r) (K1 : x.toInt < y.toInt → oGo Z own nm bytes ml ret R n0 Q k n h q L S) (K2 : y.toInt ≤ x.toInt → oGo Z own nm bytes ml ret R n0 Q k n h r L S) : oGo Z own nm bytes ml ret R n0 Q k n h pc L (.long y :: .long x :: S) := by
  refine oGo.lcmp hd h1 (oGo.if_lt hd2 hq hr (fun hc => ?_) (fun hc => ?_))
  · rcases own_elt x y with u | u
    · exact K1 u
    · have := own_llt.2 u; first | exact absurd hc this | exact absurd this hc | omega
  · rcases own_elt x y with u | u
    · have := own_llt.1 u; first | exact absurd hc this | exact absurd this hc | omega
    · exact K2 u
theorem own_hge {x y : Int32} : (y.toInt ≤ x.toInt → if_icmp.holds .ge x y = true) ∧ (x.toInt < y.toInt → if_icmp.holds .ge x y = false) :=
  ⟨fun hc => (flt (fun z => by have := Int32.lt_iff_toInt_lt.mp z; omega)).2.1, fun hc => (tlt (Int32.lt_iff_toInt_lt.mpr hc)).2.1⟩
theorem own_dge (x y : Int32) : (y.toInt ≤ x.toInt) ∨ (x.toInt < y.toInt) := by omega
theorem own_ege (x y : Int64) : (y.toInt ≤ x.toInt) ∨ (x.toInt < y.toInt) := by omega
theorem oGo.icmp_ge {o : Int} {x y : Int32} (hd : decode bytes pc = .ok (.if_icmp .ge o, 3)) (hq : (pc : Int) + o = (q : Int)) (hr : pc + 3 = r) (K1 : y.toInt ≤ x.toInt → oGo Z own nm bytes ml ret R n0 Q k n h q L S) (K2 : x.toInt < y.toInt → oGo Z own nm bytes ml ret R n0 Q k n h r L S) : oGo Z own nm bytes ml ret R n0 Q k n h pc L (.int y :: .int x :: S) := by
  rcases own_dge x y with hc | hc
  · exact oGo.st (fun p e m below c T hx hby hA t k => XS.icmpYes hA hx rfl (pc0 := pc) (pc' := q) rfl (hb hby hd) rfl (own_hge.1 hc) (by omega) (by omega) k) (K1 hc)
  · subst hr; exact oGo.st (fun p e m below c T hx hby hA t k => XS.icmpNo hA hx rfl (hb hby hd) rfl (own_hge.2 hc) k) (K2 hc)
theorem oGo.if_ge {o : Int} {x : Int32} (hd : decode bytes pc = .ok (.ifCond .ge o, 3)) (hq : (pc : Int) + o = (q : Int)) (hr : pc + 3 = r) (K1 : 0 ≤ x.toInt → oGo Z own nm bytes ml ret R n0 Q k n h q L S) (K2 : x.toInt < 0 → oGo Z own nm bytes ml ret R n0 Q k n h r L S) : oGo Z own nm bytes ml ret R n0 Q k n h pc L (.int x :: S) := by
  rcases own_dge x 0 with hc | hc
  · exact oGo.st (fun p e m below c T hx hby hA t k => XS.ifYes hA hx rfl (pc0 := pc) (pc' := q) rfl (hb hby hd) rfl ((if0 _ _).trans (own_hge.1 hc)) (by omega) (by omega) k) (K1 hc)
  · subst hr; exact oGo.st (fun p e m below c T hx hby hA t k => XS.ifNo hA hx rfl (hb hby hd) rfl ((if0 _ _).trans (own_hge.2 hc)) k) (K2 hc)
theorem own_lge {x y : Int64} : (y.toInt ≤ x.toInt → 0 ≤ (lcmpW x y).toInt) ∧ (x.toInt < y.toInt → (lcmpW x y).toInt < 0) := by
  obtain ⟨h1, h2, h3⟩ := c_lcmp x y
  refine ⟨fun hc => ?_, fun hc => ?_⟩ <;> (rcases Int.lt_trichotomy x.toInt y.toInt with u | u | u <;> simp_all <;> omega)
theorem oGo.lif_ge {o : Int} {x y : Int64} {pc2 : Nat} (hd : decode bytes pc = .ok (.lcmp, 1)) (h1 : pc + 1 = pc2) (hd2 : decode bytes pc2 = .ok (.ifCond .ge o, 3)) (hq : (pc2 : Int) + o = (q : Int)) (hr : pc2 + 3 = r) (K1 : y.toInt ≤ x.toInt → oGo Z own nm bytes ml ret R n0 Q k n h q L S) (K2 : x.toInt < y.toInt → oGo Z own nm bytes ml ret R n0 Q k n h r L S) : oGo Z own nm bytes ml ret R n0 Q k n h pc L (.long y :: .long x :: S) := by
  refine oGo.lcmp hd h1 (oGo.if_ge hd2 hq hr (fun hc => ?_) (fun hc => ?_))
  · rcases own_ege x y with u | u
    · exact K1 u
    · have := own_lge.2 u; first | exact absurd hc this | exact absurd this hc | omega
  · rcases own_ege x y with u | u
    · have := own_lge.1 u; first | exact absurd hc this | exact absurd this hc | omega
    · exact K2 u
theorem own_hgt {x y : Int32} : (y.toInt < x.toInt → if_icmp.holds .gt x y = true) ∧ (x.toInt ≤ y.toInt → if_icmp.holds .gt x y = false) :=
  ⟨fun hc => (tlt (Int32.lt_iff_toInt_lt.mpr hc)).2.2.1, fun hc => (flt (fun z => by have := Int32.lt_iff_toInt_lt.mp z; omega)).2.2.1⟩
theorem own_dgt (x y : Int32) : (y.toInt < x.toInt) ∨ (x.toInt ≤ y.toInt) := by omega
theorem own_egt (x y : Int64) : (y.toInt < x.toInt) ∨ (x.toInt ≤ y.toInt) := by omega
theorem oGo.icmp_gt {o : Int} {x y : Int32} (hd : decode bytes pc = .ok (.if_icmp .gt o, 3)) (hq : (pc : Int) + o = (q : Int)) (hr : pc + 3 = r) (K1 : y.toInt < x.toInt → oGo Z own nm bytes ml ret R n0 Q k n h q L S) (K2 : x.toInt ≤ y.toInt → oGo Z own nm bytes ml ret R n0 Q k n h r L S) : oGo Z own nm bytes ml ret R n0 Q k n h pc L (.int y :: .int x :: S) := by
  rcases own_dgt x y with hc | hc
  · exact oGo.st (fun p e m below c T hx hby hA t k => XS.icmpYes hA hx rfl (pc0 := pc) (pc' := q) rfl (hb hby hd) rfl (own_hgt.1 hc) (by omega) (by omega) k) (K1 hc)
  · subst hr; exact oGo.st (fun p e m below c T hx hby hA t k => XS.icmpNo hA hx rfl (hb hby hd) rfl (own_hgt.2 hc) k) (K2 hc)
theorem oGo.if_gt {o : Int} {x : Int32} (hd : decode bytes pc = .ok (.ifCond .gt o, 3)) (hq : (pc : Int) + o = (q : Int)) (hr : pc + 3 = r) (K1 : 0 < x.toInt → oGo Z own nm bytes ml ret R n0 Q k n h q L S) (K2 : x.toInt ≤ 0 → oGo Z own nm bytes ml ret R n0 Q k n h r L S) : oGo Z own nm bytes ml ret R n0 Q k n h pc L (.int x :: S) := by
  rcases own_dgt x 0 with hc | hc
  · exact oGo.st (fun p e m below c T hx hby hA t k => XS.ifYes hA hx rfl (pc0 := pc) (pc' := q) rfl (hb hby hd) rfl ((if0 _ _).trans (own_hgt.1 hc)) (by omega) (by omega) k) (K1 hc)
  · subst hr; exact oGo.st (fun p e m below c T hx hby hA t k => XS.ifNo hA hx rfl (hb hby hd) rfl ((if0 _ _).trans (own_hgt.2 hc)) k) (K2 hc)
theorem own_lgt {x y : Int64} : (y.toInt < x.toInt → 0 < (lcmpW x y).toInt) ∧ (x.toInt ≤ y.toInt → (lcmpW x y).toInt ≤ 0) := by
  obtain ⟨h1, h2, h3⟩ := c_lcmp x y
  refine ⟨fun hc => ?_, fun hc => ?_⟩ <;> (rcases Int.lt_trichotomy x.toInt y.toInt with u | u | u <;> simp_all <;> omega)
theorem oGo.lif_gt {o : Int} {x y : Int64} {pc2 : Nat} (hd : decode bytes pc = .ok (.lcmp, 1)) (h1 : pc + 1 = pc2) (hd2 : decode bytes pc2 = .ok (.ifCond .gt o, 3)) (hq : (pc2 : Int) + o = (q : Int)) (hr : pc2 + 3 = r) (K1 : y.toInt < x.toInt → oGo Z own nm bytes ml ret R n0 Q k n h q L S) (K2 : x.toInt ≤ y.toInt → oGo Z own nm bytes ml ret R n0 Q k n h r L S) : oGo Z own nm bytes ml ret R n0 Q k n h pc L (.long y :: .long x :: S) := by
  refine oGo.lcmp hd h1 (oGo.if_gt hd2 hq hr (fun hc => ?_) (fun hc => ?_))
  · rcases own_egt x y with u | u
    · exact K1 u
    · have := own_lgt.2 u; first | exact absurd hc this | exact absurd this hc | omega
  · rcases own_egt x y with u | u
    · have := own_lgt.1 u; first | exact absurd hc this | exact absurd this hc | omega
    · exact K2 u
theorem own_hle {x y : Int32} : (x.toInt ≤ y.toInt → if_icmp.holds .le x y = true) ∧ (y.toInt < x.toInt → if_icmp.holds .le x y = false) :=
  ⟨fun hc => (flt (fun z => by have := Int32.lt_iff_toInt_lt.mp z; omega)).2.2.2, fun hc => (tlt (Int32.lt_iff_toInt_lt.mpr hc)).2.2.2⟩
theorem own_dle (x y : Int32) : (x.toInt ≤ y.toInt) ∨ (y.toInt < x.toInt) := by omega
theorem own_ele (x y : Int64) : (x.toInt ≤ y.toInt) ∨ (y.toInt < x.toInt) := by omega
theorem oGo.icmp_le {o : Int} {x y : Int32} (hd : decode bytes pc = .ok (.if_icmp .le o, 3)) (hq : (pc : Int) + o = (q : Int)) (hr : pc + 3 = r) (K1 : x.toInt ≤ y.toInt → oGo Z own nm bytes ml ret R n0 Q k n h q L S) (K2 : y.toInt < x.toInt → oGo Z own nm bytes ml ret R n0 Q k n h r L S) : oGo Z own nm bytes ml ret R n0 Q k n h pc L (.int y :: .int x :: S) := by
  rcases own_dle x y with hc | hc
  · exact oGo.st (fun p e m below c T hx hby hA t k => XS.icmpYes hA hx rfl (pc0 := pc) (pc' := q) rfl (hb hby hd) rfl (own_hle.1 hc) (by omega) (by omega) k) (K1 hc)
  · subst hr; exact oGo.st (fun p e m below c T hx hby hA t k => XS.icmpNo hA hx rfl (hb hby hd) rfl (own_hle.2 hc) k) (K2 hc)
theorem oGo.if_le {o : Int} {x : Int32} (hd : decode bytes pc = .ok (.ifCond .le o, 3)) (hq : (pc : Int) + o = (q : Int)) (hr : pc + 3 = r) (K1 : x.toInt ≤ 0 → oGo Z own nm bytes ml ret R n0 Q k n h q L S) (K2 : 0 < x.toInt → oGo Z own nm bytes ml ret R n0 Q k n h r L S) : oGo Z own nm bytes ml ret R n0 Q k n h pc L (.int x :: S) := by
  rcases own_dle x 0 with hc | hc
  · exact oGo.st (fun p e m below c T hx hby hA t k => XS.ifYes hA hx rfl (pc0 := pc) (pc' := q) rfl (hb hby hd) rfl ((if0 _ _).trans (own_hle.1 hc)) (by omega) (by omega) k) (K1 hc)
  · subst hr; exact oGo.st (fun p e m below c T hx hby hA t k => XS.ifNo hA hx rfl (hb hby hd) rfl ((if0 _ _).trans (own_hle.2 hc)) k) (K2 hc)
theorem own_lle {x y : Int64} : (x.toInt ≤ y.toInt → (lcmpW x y).toInt ≤ 0) ∧ (y.toInt < x.toInt → 0 < (lcmpW x y).toInt) := by
  obtain ⟨h1, h2, h3⟩ := c_lcmp x y
  refine ⟨fun hc => ?_, fun hc => ?_⟩ <;> (rcases Int.lt_trichotomy x.toInt y.toInt with u | u | u <;> simp_all <;> omega)
theorem oGo.lif_le {o : Int} {x y : Int64} {pc2 : Nat} (hd : decode bytes pc = .ok (.lcmp, 1)) (h1 : pc + 1 = pc2) (hd2 : decode bytes pc2 = .ok (.ifCond .le o, 3)) (hq : (pc2 : Int) + o = (q : Int)) (hr : pc2 + 3 = r) (K1 : x.toInt ≤ y.toInt → oGo Z own nm bytes ml ret R n0 Q k n h q L S) (K2 : y.toInt < x.toInt → oGo Z own nm bytes ml ret R n0 Q k n h r L S) : oGo Z own nm bytes ml ret R n0 Q k n h pc L (.long y :: .long x :: S) := by
  refine oGo.lcmp hd h1 (oGo.if_le hd2 hq hr (fun hc => ?_) (fun hc => ?_))
  · rcases own_ele x y with u | u
    · exact K1 u
    · have := own_lle.2 u; first | exact absurd hc this | exact absurd this hc | omega
  · rcases own_ele x y with u | u
    · have := own_lle.1 u; first | exact absurd hc this | exact absurd this hc | omega
    · exact K2 u
theorem own_heq {x y : Int32} : (x = y → if_icmp.holds .eq x y = true) ∧ (x ≠ y → if_icmp.holds .eq x y = false) :=
  ⟨fun hc => (teq hc).1, fun hc => (feq hc).1⟩
theorem own_deq (x y : Int32) : (x = y) ∨ (x ≠ y) := by exact Decidable.em _
theorem own_eeq (x y : Int64) : (x = y) ∨ (x ≠ y) := by exact Decidable.em _
theorem oGo.icmp_eq {o : Int} {x y : Int32} (hd : decode bytes pc = .ok (.if_icmp .eq o, 3)) (hq : (pc : Int) + o = (q : Int)) (hr : pc + 3 = r) (K1 : x = y → oGo Z own nm bytes ml ret R n0 Q k n h q L S) (K2 : x ≠ y → oGo Z own nm bytes ml ret R n0 Q k n h r L S) : oGo Z own nm bytes ml ret R n0 Q k n h pc L (.int y :: .int x :: S) := by
  rcases own_deq x y with hc | hc
  · exact oGo.st (fun p e m below c T hx hby hA t k => XS.icmpYes hA hx rfl (pc0 := pc) (pc' := q) rfl (hb hby hd) rfl (own_heq.1 hc) (by omega) (by omega) k) (K1 hc)
  · subst hr; exact oGo.st (fun p e m below c T hx hby hA t k => XS.icmpNo hA hx rfl (hb hby hd) rfl (own_heq.2 hc) k) (K2 hc)
theorem oGo.if_eq {o : Int} {x : Int32} (hd : decode bytes pc = .ok (.ifCond .eq o, 3)) (hq : (pc : Int) + o = (q : Int)) (hr : pc + 3 = r) (K1 : x = 0 → oGo Z own nm bytes ml ret R n0 Q k n h q L S) (K2 : x ≠ 0 → oGo Z own nm bytes ml ret R n0 Q k n h r L S) : oGo Z own nm bytes ml ret R n0 Q k n h pc L (.int x :: S) := by
  rcases own_deq x 0 with hc | hc
  · exact oGo.st (fun p e m below c T hx hby hA t k => XS.ifYes hA hx rfl (pc0 := pc) (pc' := q) rfl (hb hby hd) rfl ((if0 _ _).trans (own_heq.1 hc)) (by omega) (by omega) k) (K1 hc)
  · subst hr; exact oGo.st (fun p e m below c T hx hby hA t k => XS.ifNo hA hx rfl (hb hby hd) rfl ((if0 _ _).trans (own_heq.2 hc)) k) (K2 hc)
theorem own_leq {x y : Int64} : (x = y → lcmpW x y = 0) ∧ (x ≠ y → lcmpW x y ≠ 0) := by
  obtain ⟨h1, h2, h3⟩ := c_lcmp x y
  refine ⟨fun hc => ?_, fun hc => ?_⟩ <;> (first | exact (lw_eq x y).mpr hc | exact fun z => hc ((lw_eq x y).mp z))
theorem oGo.lif_eq {o : Int} {x y : Int64} {pc2 : Nat} (hd : decode bytes pc = .ok (.lcmp, 1)) (h1 : pc + 1 = pc2) (hd2 : decode bytes pc2 = .ok (.ifCond .eq o, 3)) (hq : (pc2 : Int) + o = (q : Int)) (hr : pc2 + 3 = r) (K1 : x = y → oGo Z own nm bytes ml ret R n0 Q k n h q L S) (K2 : x ≠ y → oGo Z own nm bytes ml ret R n0 Q k n h r L S) : oGo Z own nm bytes ml ret R n0 Q k n h pc L (.long y :: .long x :: S) := by
  refine oGo.lcmp hd h1 (oGo.if_eq hd2 hq hr (fun hc => ?_) (fun hc => ?_))
  · rcases own_eeq x y with u | u
    · exact K1 u
    · have := own_leq.2 u; first | exact absurd hc this | exact absurd this hc | omega
  · rcases own_eeq x y with u | u
    · have := own_leq.1 u; first | exact absurd hc this | exact absurd this hc | omega
    · exact K2 u
theorem own_hne {x y : Int32} : (x ≠ y → if_icmp.holds .ne x y = true) ∧ (x = y → if_icmp.holds .ne x y = false) :=
  ⟨fun hc => (feq hc).2, fun hc => (teq hc).2⟩
theorem own_dne (x y : Int32) : (x ≠ y) ∨ (x = y) := by exact (Decidable.em _).symm
theorem own_ene (x y : Int64) : (x ≠ y) ∨ (x = y) := by exact (Decidable.em _).symm
theorem oGo.icmp_ne {o : Int} {x y : Int32} (hd : decode bytes pc = .ok (.if_icmp .ne o, 3)) (hq : (pc : Int) + o = (q : Int)) (hr : pc + 3 = r) (K1 : x ≠ y → oGo Z own nm bytes ml ret R n0 Q k n h q L S) (K2 : x = y → oGo Z own nm bytes ml ret R n0 Q k n h r L S) : oGo Z own nm bytes ml ret R n0 Q k n h pc L (.int y :: .int x :: S) := by
  rcases own_dne x y with hc | hc
  · exact oGo.st (fun p e m below c T hx hby hA t k => XS.icmpYes hA hx rfl (pc0 := pc) (pc' := q) rfl (hb hby hd) rfl (own_hne.1 hc) (by omega) (by omega) k) (K1 hc)
  · subst hr; exact oGo.st (fun p e m below c T hx hby hA t k => XS.icmpNo hA hx rfl (hb hby hd) rfl (own_hne.2 hc) k) (K2 hc)
theorem oGo.if_ne {o : Int} {x : Int32} (hd : decode bytes pc = .ok (.ifCond .ne o, 3)) (hq : (pc : Int) + o = (q : Int)) (hr : pc + 3 = r) (K1 : x ≠ 0 → oGo Z own nm bytes ml ret R n0 Q k n h q L S) (K2 : x = 0 → oGo Z own nm bytes ml ret R n0 Q k n h r L S) : oGo Z own nm bytes ml ret R n0 Q k n h pc L (.int x :: S) := by
  rcases own_dne x 0 with hc | hc
  · exact oGo.st (fun p e m below c T hx hby hA t k => XS.ifYes hA hx rfl (pc0 := pc) (pc' := q) rfl (hb hby hd) rfl ((if0 _ _).trans (own_hne.1 hc)) (by omega) (by omega) k) (K1 hc)
  · subst hr; exact oGo.st (fun p e m below c T hx hby hA t k => XS.ifNo hA hx rfl (hb hby hd) rfl ((if0 _ _).trans (own_hne.2 hc)) k) (K2 hc)
theorem own_lne {x y : Int64} : (x ≠ y → lcmpW x y ≠ 0) ∧ (x = y → lcmpW x y = 0) := by
  obtain ⟨h1, h2, h3⟩ := c_lcmp x y
  refine ⟨fun hc => ?_, fun hc => ?_⟩ <;> (first | exact (lw_eq x y).mpr hc | exact fun z => hc ((lw_eq x y).mp z))
theorem oGo.lif_ne {o : Int} {x y : Int64} {pc2 : Nat} (hd : decode bytes pc = .ok (.lcmp, 1)) (h1 : pc + 1 = pc2) (hd2 : decode bytes pc2 = .ok (.ifCond .ne o, 3)) (hq : (pc2 : Int) + o = (q : Int)) (hr : pc2 + 3 = r) (K1 : x ≠ y → oGo Z own nm bytes ml ret R n0 Q k n h q L S) (K2 : x = y → oGo Z own nm bytes ml ret R n0 Q k n h r L S) : oGo Z own nm bytes ml ret R n0 Q k n h pc L (.long y :: .long x :: S) := by
  refine oGo.lcmp hd h1 (oGo.if_ne hd2 hq hr (fun hc => ?_) (fun hc => ?_))
  · rcases own_ene x y with u | u
    · exact K1 u
    · have := own_lne.2 u; first | exact absurd hc this | exact absurd this hc | omega
  · rcases own_ene x y with u | u
    · have := own_lne.1 u; first | exact absurd hc this | exact absurd this hc | omega
    · exact K2 u
theorem oGo.ldc2 {i : Nat} {v : Int64} (hd : decode bytes pc = .ok (.ldc2_w i, 3)) (hq : pc + 3 = q) (w : (Cond.constantLong own i v).before a0 Z = true) (K : oGo Z own nm bytes ml ret R n0 Q k n h q L (.long v :: S)) : oGo Z own nm bytes ml ret R n0 Q k n h pc L S :=
  fun p l e s m args below meth c T locs C X eT N => by
    obtain ⟨hx, hZ, hby, hml, hown, hret, hlk, hnm⟩ := C
    subst hq
    obtain ⟨s₂, o, h1, r⟩ := K p l e s m args below meth c T locs ⟨hx, hZ, hby, hml, hown, hret, hlk, hnm⟩ X eT N
    exact ⟨s₂, o, X.ldc2Long hx hown (mvT hZ w) (g := mkF m pc L S) rfl (hb hby hd) _ h1, r⟩
theorem oGo.ldcI {i : Nat} {v : Int32} (hd : decode bytes pc = .ok (.ldc i, 2)) (hq : pc + 2 = q) (w : (Cond.constant own i v).before a0 Z = true) (K : oGo Z own nm bytes ml ret R n0 Q k n h q L (.int v :: S)) : oGo Z own nm bytes ml ret R n0 Q k n h pc L S :=
  fun p l e s m args below meth c T locs C X eT N => by
    obtain ⟨hx, hZ, hby, hml, hown, hret, hlk, hnm⟩ := C
    subst hq
    obtain ⟨s₂, o, h1, r⟩ := K p l e s m args below meth c T locs ⟨hx, hZ, hby, hml, hown, hret, hlk, hnm⟩ X eT N
    exact ⟨s₂, o, X.ldcInt hx hown (mvT hZ w) (g := mkF m pc L S) rfl (hb hby hd) _ h1, r⟩
/-! the returns -/
theorem own_end {p : Program} {l : Launch} {e : Env} {s : State} {m : MethodId} {args : Array Value} {below : List Frame} {meth : Method} {c : Code} {T : State} {locs : List Loc} (X : Stand p l e R s m args below meth c T locs k n) (hlk : meth.locks = false) {v : Option Value} (hv : meth.sig.returnType = none → v = none) (hk : k ≤ R.cells) (hn : n ≤ R.slots) (N : Fr n0 locs) (hQ : Q v T.heap) {g : JFrame}
    (H : ∀ fs, (∀ (f : JFrame) (acts : List Action), f.method = m → f.locked = none → f.entered = [] → (doReturn e (T.setTop f) acts v).1 = T.setFrames fs) → Steps p.tables e below (T.setTop g) (T.setFrames fs)) :
    ∃ s₂ o, Steps p.tables e below (T.setTop g) s₂ ∧ s₂.status = .running ∧ Ended s₂ below o ∧ ∃ v L', o = .returned v ∧ (Q v s₂.heap ∧ Fr n0 L') ∧ FrameEnd s o s₂ L' R.cells R.slots := by
  obtain ⟨fs, hr, hrun, hended, hW, hsame⟩ := X.leave hv hlk
  exact ⟨_, _, H fs hr, hrun, hended, _, _, rfl, ⟨hQ, N⟩, ⟨_, rfl⟩, hW, hsame.mono hk hn⟩
theorem oGo.retI {z : Int32} (hd : decode bytes pc = .ok (.ireturn, 1)) (hret : ret = some .int) (hk : k ≤ R.cells) (hn : n ≤ R.slots) (hQ : Q (some (.int z)) h) : oGo Z own nm bytes ml ret R n0 Q k n h pc L (.int z :: S) :=
  fun p l e s m args below meth c T locs C X eT N => by
    obtain ⟨hx, hZ, hby, hml, hown, hrt, hlk, hnm⟩ := C
    subst eT
    exact own_end X hlk (fun u => by rw [hrt, hret] at u; cases u) hk hn N hQ fun fs hr => retOut X hx (hrt.trans hret) rfl (Or.inl ⟨rfl, Or.inl rfl, z, rfl⟩) (hb hby hd) hr
theorem oGo.retN {z : Int32} {t : FieldType} (hd : decode bytes pc = .ok (.ireturn, 1)) (hret : ret = some t) (ht : t = .boolean ∨ t = .byte ∨ t = .char ∨ t = .short) (hk : k ≤ R.cells) (hn : n ≤ R.slots) (hQ : Q (some (.int (nar t z))) h) : oGo Z own nm bytes ml ret R n0 Q k n h pc L (.int z :: S) :=
  fun p l e s m args below meth c T locs C X eT N => by
    obtain ⟨hx, hZ, hby, hml, hown, hrt, hlk, hnm⟩ := C
    subst eT
    exact own_end X hlk (fun u => by rw [hrt, hret] at u; cases u) hk hn N hQ fun fs hr => Jvm.RoadKit.retN X hx (hrt.trans hret) ht (hb hby hd) hr
theorem oGo.retJ {z : Int64} (hd : decode bytes pc = .ok (.lreturn, 1)) (hret : ret = some .long) (hk : k ≤ R.cells) (hn : n ≤ R.slots) (hQ : Q (some (.long z)) h) : oGo Z own nm bytes ml ret R n0 Q k n h pc L (.long z :: S) :=
  fun p l e s m args below meth c T locs C X eT N => by
    obtain ⟨hx, hZ, hby, hml, hown, hrt, hlk, hnm⟩ := C
    subst eT
    exact own_end X hlk (fun u => by rw [hrt, hret] at u; cases u) hk hn N hQ fun fs hr => retOut X hx (hrt.trans hret) rfl (Or.inr (Or.inl ⟨rfl, rfl, z, rfl⟩)) (hb hby hd) hr
theorem oGo.retA {v : Value} {t : FieldType} (hd : decode bytes pc = .ok (.areturn, 1)) (hret : ret = some t) (ht : t.isReference = true) (hv : v.isRef = true) (hk : k ≤ R.cells) (hn : n ≤ R.slots) (hQ : Q (some v) h) : oGo Z own nm bytes ml ret R n0 Q k n h pc L (v :: S) :=
  fun p l e s m args below meth c T locs C X eT N => by
    obtain ⟨hx, hZ, hby, hml, hown, hrt, hlk, hnm⟩ := C
    subst eT
    exact own_end X hlk (fun u => by rw [hrt, hret] at u; cases u) hk hn N hQ fun fs hr => retOut X hx (hrt.trans hret) (by cases t <;> first | (cases ht; done) | rfl) (Or.inr (Or.inr (Or.inr (Or.inr ⟨rfl, ht, hv⟩)))) (hb hby hd) hr
theorem oGo.retV (hd : decode bytes pc = .ok (.return_, 1)) (hret : ret = none) (hk : k ≤ R.cells) (hn : n ≤ R.slots) (hQ : Q none h) : oGo Z own nm bytes ml ret R n0 Q k n h pc L [] :=
  fun p l e s m args below meth c T locs C X eT N => by
    obtain ⟨hx, hZ, hby, hml, hown, hrt, hlk, hnm⟩ := C
    subst eT
    exact own_end X hlk (fun _ => rfl) hk hn N hQ fun fs hr => X.returnOut hx (hrt.trans hret) (hb hby hd) hr
/-! calls by contract -/
theorem oGo.callS {y : MethodName} {i W : Nat} {bytes' : ByteArray} {ml' : Nat} {ret' : Option FieldType} {rm : Room} {as : Array Value} {Q' : Option Value → Heap → Prop} {ps : List FieldType} {rt : Option FieldType} (argsL rest : List Value) (hd : decode bytes pc = .ok (.invokestatic i, 3)) (hq : pc + 3 = q)
    (w1 : (Cond.methodLink own i y).before a0 Z = true) (w2 : (Cond.static y).before a0 Z = true) (w3 : (Cond.initialized y.cls).before a0 Z = true) (w4 : (Cond.code y bytes' ml' ret').before a0 Z = true) (hy : y.cls ≠ "java/lang/invoke/MethodHandle" ∧ y.cls ≠ "java/lang/invoke/VarHandle")
    (hC : oCon Z y bytes' ml' ret' rm as h n0 Q') (hS : S = argsL.reverse ++ rest) (has : argsL.toArray = as) (hpd : parseMethodDescriptor y.desc = some ⟨ps, rt⟩) (hlen : argsL.length = ps.length) (hL : L.size = ml) (hW : 2 * 0 + (rest.map fun v => v.category).sum ≤ W) (hf : rm.frames + 1 ≤ R.frames) (hl : W + (ml' + 11) + rm.locals ≤ R.locals) (hc : k + rm.cells ≤ R.cells) (hs : n + rm.slots ≤ R.slots)
    (K : ∀ v h', Q' v h' → oGo Z own nm bytes ml ret R n0 Q (k + rm.cells) (n + rm.slots) h' q L (v.toList ++ rest)) : oGo Z own nm bytes ml ret R n0 Q k n h pc L S :=
  fun p l e s m args below meth c T locs C X eT N => by
    obtain ⟨hx, hZ, hby, hml, hown, hrt, hlk, hnm⟩ := C
    subst hq
    obtain ⟨v, _, ⟨T', L2, k2, n2⟩, -, X', ⟨Lc, hQ', l', y', z'⟩, st⟩ := Jvm.LawKit.callS X hx (y := y) hown (mvT hZ w1) (mvT hZ w2) (mvT hZ w3) (mvT hZ w4) hy (backOf (W := W) (Q := fun v h' L => Q' v h' ∧ Fr n0 L) (hC l []) hZ w4 w3 hf hl) (g := mkF m pc L S) rfl (by rw [hml]; exact hL) (argsL := argsL) (rest := rest) (lenOf hpd hlen) hS hW (hb hby hd) (fun _ _ => ⟨has, eT, hc, hs⟩)
    dsimp only [Pt.U, Pt.locs, Pt.cells, Pt.slots] at X' l' y' z' st hQ'
    subst l' y' z'
    obtain ⟨s₂, o, h1, r⟩ := K v T'.heap hQ'.1 p l e s m args below meth c T' _ ⟨hx, hZ, hby, hml, hown, hrt, hlk, hnm⟩ X' rfl (Fr.app N hQ'.2)
    exact ⟨s₂, o, st _ h1, r⟩
theorem oGo.callI {y : MethodName} {i W : Nat} {bytes' : ByteArray} {ml' : Nat} {rm : Room} {as : Array Value} {Q' : Option Value → Heap → Prop} {ps : List FieldType} {rt : Option FieldType} {a : Addr} (argsL rest : List Value) (hd : decode bytes pc = .ok (.invokespecial i, 3)) (hq : pc + 3 = q) (hy1 : y.name = "<init>")
    (w1 : (Cond.methodLink own i y).before a0 Z = true) (w2 : (Cond.instanceMethod y).before a0 Z = true) (w3 : (Cond.initialized y.cls).before a0 Z = true) (w4 : (Cond.code y bytes' ml' none).before a0 Z = true) (hy : y.cls ≠ "java/lang/invoke/MethodHandle" ∧ y.cls ≠ "java/lang/invoke/VarHandle")
    (hC : oCon Z y bytes' ml' none rm as h n0 Q') (hS : S = argsL.reverse ++ .ref a :: rest) (has : (.ref a :: argsL).toArray = as) (hpd : parseMethodDescriptor y.desc = some ⟨ps, rt⟩) (hlen : argsL.length = ps.length) (hL : L.size = ml) (hW : 2 * 0 + (rest.map fun v => v.category).sum ≤ W) (hf : rm.frames + 1 ≤ R.frames) (hl : W + (ml' + 11) + rm.locals ≤ R.locals) (hc : k + rm.cells ≤ R.cells) (hs : n + rm.slots ≤ R.slots)
    (K : ∀ v h', Q' v h' → oGo Z own nm bytes ml ret R n0 Q (k + rm.cells) (n + rm.slots) h' q L (v.toList ++ rest)) : oGo Z own nm bytes ml ret R n0 Q k n h pc L S :=
  fun p l e s m args below meth c T locs C X eT N => by
    obtain ⟨hx, hZ, hby, hml, hown, hrt, hlk, hnm⟩ := C
    subst hq
    obtain ⟨v, _, ⟨T', L2, k2, n2⟩, -, X', ⟨Lc, hQ', l', y', z'⟩, st⟩ := X.specialBack hx (y := y) hy1 hown (mvT hZ w1) (mvT hZ w2) (mvT hZ w4) hy (backOf (W := W) (Q := fun v h' L => Q' v h' ∧ Fr n0 L) (hC l []) hZ w4 w3 hf hl) (g := mkF m pc L S) rfl (by rw [hml]; exact hL) (Steps.refl _) (a := a) (argsL := argsL) (rest := rest) (lenOf hpd hlen) hS hW (hb hby hd) (fun _ _ => ⟨has, eT, hc, hs⟩)
    dsimp only [Pt.U, Pt.locs, Pt.cells, Pt.slots] at X' l' y' z' st hQ'
    subst l' y' z'
    obtain ⟨s₂, o, h1, r⟩ := K v T'.heap hQ'.1 p l e s m args below meth c T' _ ⟨hx, hZ, hby, hml, hown, hrt, hlk, hnm⟩ X' rfl (Fr.app N hQ'.2)
    exact ⟨s₂, o, st.trans h1, r⟩
theorem oGo.callV {y z : MethodName} {C : String} {i W : Nat} {bytes' : ByteArray} {ml' : Nat} {ret' : Option FieldType} {rm : Room} {as : Array Value} {Q' : Option Value → Heap → Prop} {ps : List FieldType} {rt : Option FieldType} {a : Addr} (argsL rest : List Value) (hd : decode bytes pc = .ok (.invokevirtual i, 3)) (hq : pc + 3 = q)
    (w1 : (Cond.methodLink own i y).before a0 Z = true) (w2 : (Cond.declares y).before a0 Z = true) (w5 : (Cond.selects C y z).before a0 Z = true) (w6 : (Cond.instanceMethod z).before a0 Z = true) (w3 : (Cond.initialized z.cls).before a0 Z = true) (w4 : (Cond.code z bytes' ml' ret').before a0 Z = true) (hyz : y = z) (hy : y.cls ≠ "java/lang/invoke/MethodHandle" ∧ y.cls ≠ "java/lang/invoke/VarHandle") (E : Exa Z h a C)
    (hC : oCon Z z bytes' ml' ret' rm as h n0 Q') (hS : S = argsL.reverse ++ .ref a :: rest) (has : (.ref a :: argsL).toArray = as) (hpd : parseMethodDescriptor y.desc = some ⟨ps, rt⟩) (hlen : argsL.length = ps.length) (hL : L.size = ml) (hW : 2 * 0 + (rest.map fun v => v.category).sum ≤ W) (hf : rm.frames + 1 ≤ R.frames) (hl : W + (ml' + 11) + rm.locals ≤ R.locals) (hc : k + rm.cells ≤ R.cells) (hs : n + rm.slots ≤ R.slots)
    (K : ∀ v h', Q' v h' → oGo Z own nm bytes ml ret R n0 Q (k + rm.cells) (n + rm.slots) h' q L (v.toList ++ rest)) : oGo Z own nm bytes ml ret R n0 Q k n h pc L S :=
  fun p l e s m args below meth c T locs Cx X eT N => by
    obtain ⟨hx, hZ, hby, hml, hown, hrt, hlk, hnm⟩ := Cx
    subst hq hyz
    obtain ⟨cq, kq, qa, qb, qc⟩ := isOf (T := T) hZ eT E
    obtain ⟨v, _, ⟨T', L2, k2, n2⟩, -, X', ⟨Lc, hQ', l', y', z'⟩, st⟩ := X.virtualBack hx (y := y) (z := y) hown (mvT hZ w1) (mvT hZ w2) (notFace_of_selects (args := #[]) (mvT hZ w5)) (mvT hZ w5) (mvT hZ w6) hy (backOf (W := W) (Q := fun v h' L => Q' v h' ∧ Fr n0 L) (hC l []) hZ w4 w3 hf hl) qa qc (g := mkF m pc L S) rfl (by rw [hml]; exact hL) (Steps.refl _) (argsL := argsL) (rest := rest) (lenOf hpd hlen) hS hW (hb hby hd) (fun _ _ => ⟨has, eT, hc, hs⟩)
    dsimp only [Pt.U, Pt.locs, Pt.cells, Pt.slots] at X' l' y' z' st hQ'
    subst l' y' z'
    obtain ⟨s₂, o, h1, r⟩ := K v T'.heap hQ'.1 p l e s m args below meth c T' _ ⟨hx, hZ, hby, hml, hown, hrt, hlk, hnm⟩ X' rfl (Fr.app N hQ'.2)
    exact ⟨s₂, o, st.trans h1, r⟩
theorem oGo.initO {i W : Nat} {a : Addr} (hd : decode bytes pc = .ok (.invokespecial i, 3)) (hq : pc + 3 = q) (w1 : (Cond.methodLink own i Lib.objectInit).before a0 Z = true) (w2 : (Cond.instanceMethod Lib.objectInit).before a0 Z = true) (w3 : (Cond.code Lib.objectInit ⟨#[0xb1]⟩ 1 none).before a0 Z = true) (hL : L.size = ml) (hf : 1 ≤ R.frames) (hW : 2 * 0 + (S.map fun v => v.category).sum ≤ W) (hl : W + 12 ≤ R.locals) (K : oGo Z own nm bytes ml ret R n0 Q k n h q L S) : oGo Z own nm bytes ml ret R n0 Q k n h pc L (.ref a :: S) :=
  fun p l e s m args below meth c T locs C X eT N => by
    obtain ⟨hx, hZ, hby, hml, hown, hrt, hlk, hnm⟩ := C
    subst hq
    obtain ⟨T', X', e', st⟩ := Jvm.RoadKit.initO X hx hZ hown w1 w2 w3 eT (g := mkF m pc L (.ref a :: S)) rfl (by rw [hml]; exact hL) rfl (hb hby hd) hf hW hl
    obtain ⟨s₂, o, h1, r⟩ := K p l e s m args below meth c T' locs ⟨hx, hZ, hby, hml, hown, hrt, hlk, hnm⟩ X' e' N
    exact ⟨s₂, o, st _ h1, r⟩
/-! objects -/
theorem own_keep {h h' : Heap} (E : Ext h h') : Keep h h' [] := (Keep.refl h []).ext E
theorem oGo.newO {C : String} {i nn : Nat} (hd : decode bytes pc = .ok (.new i, 3)) (hq : pc + 3 = q) (w : (Cond.classLink own i C).before a0 Z = true) (wi : (Cond.instantiable C nn).before a0 Z = true) (wz : (Cond.initialized C).before a0 Z = true) (hc : k + 1 ≤ R.cells) (hs : n + nn ≤ R.slots)
    (K : ∀ h' a, a = h.size → Keep h h' [] → Exa Z h' a C → (∀ {O f d : String} {ty : FieldType}, Laid Z a0 C O f d → parseFieldDescriptor d = some ty → Fld Z h' a O f d (defaultValue ty)) → oGo Z own nm bytes ml ret R n0 Q (k + 1) (n + nn) h' q L (.ref a :: S)) : oGo Z own nm bytes ml ret R n0 Q k n h pc L S :=
  fun p l e s m args below meth c T locs Cx X eT N => by
    obtain ⟨hx, hZ, hby, hml, hown, hrt, hlk, hnm⟩ := Cx
    subst hq
    obtain ⟨T', h', X', e', E, A, D, -, st⟩ := Jvm.RoadKit.newO X hx hZ hown w wi wz eT (g := mkF m pc L S) rfl (hb hby hd) hc hs
    obtain ⟨s₂, o, h1, r⟩ := K h' h.size rfl (own_keep E) A D p l e s m args below meth c T' locs ⟨hx, hZ, hby, hml, hown, hrt, hlk, hnm⟩ X' e' N
    exact ⟨s₂, o, st _ h1, r⟩
theorem oGo.getF {R0 O f d host : String} {i : Nat} {a : Addr} {v : Value} (hd : decode bytes pc = .ok (.getfield i, 3)) (hq : pc + 3 = q) (w : (Cond.fieldLink own i R0 f d).before a0 Z = true ∨ (Cond.fieldLinkNest own i R0 f d host).before a0 Z = true) (via : Via Z R0 O f d) (F : Fld Z h a O f d v) (K : oGo Z own nm bytes ml ret R n0 Q k n h q L (v :: S)) : oGo Z own nm bytes ml ret R n0 Q k n h pc L (.ref a :: S) :=
  fun p l e s m args below meth c T locs C X eT N => by
    obtain ⟨hx, hZ, hby, hml, hown, hrt, hlk, hnm⟩ := C
    subst hq
    obtain ⟨T', X', e', st⟩ := Jvm.RoadKit.getF X hx hZ hown w via eT F (g := mkF m pc L (.ref a :: S)) rfl rfl (hb hby hd)
    obtain ⟨s₂, o, h1, r⟩ := K p l e s m args below meth c T' locs ⟨hx, hZ, hby, hml, hown, hrt, hlk, hnm⟩ X' e' N
    exact ⟨s₂, o, st _ h1, r⟩
theorem oGo.getS {R0 O f d : String} {i : Nat} {v : Value} (hd : decode bytes pc = .ok (.getstatic i, 3)) (hq : pc + 3 = q) (w : (Cond.fieldLink own i R0 f d).before a0 Z = true) (via : Via Z R0 O f d) (F : Sta Z h O f d v) (K : oGo Z own nm bytes ml ret R n0 Q k n h q L (v :: S)) : oGo Z own nm bytes ml ret R n0 Q k n h pc L S :=
  fun p l e s m args below meth c T locs C X eT N => by
    obtain ⟨hx, hZ, hby, hml, hown, hrt, hlk, hnm⟩ := C
    subst hq
    obtain ⟨T', X', e', st⟩ := Jvm.RoadKit.getS (host := "") X hx hZ hown w via eT F (g := mkF m pc L S) rfl (hb hby hd)
    obtain ⟨s₂, o, h1, r⟩ := K p l e s m args below meth c T' locs ⟨hx, hZ, hby, hml, hown, hrt, hlk, hnm⟩ X' e' N
    exact ⟨s₂, o, st _ h1, r⟩
theorem oGo.putF {R0 O f d host C : String} {i kk : Nat} {ty : FieldType} {a : Addr} {v w0 : Value} (hd : decode bytes pc = .ok (.putfield i, 3)) (hq : pc + 3 = q) (w : (Cond.fieldLink own i R0 f d).before a0 Z = true ∨ (Cond.fieldLinkNest own i R0 f d host).before a0 Z = true) (via : Via Z R0 O f d) (F : Fld Z h a O f d w0) (E : Exa Z h a C)
    (Lw : (Cond.lays C O f d).before a0 Z = true ∨ ((Cond.laysFinal C O f d).before a0 Z = true ∧ own = O ∧ nm = "<init>")) (wi : (Cond.instantiable C kk).before a0 Z = true) (hty : parseFieldDescriptor d = some ty) (hn : narrow ty v = v) (hf : fits ty v = true) (ha : n0 ≤ a)
    (K : ∀ h', Keep h h' [a] → Exa Z h' a C → Fld Z h' a O f d v → (∀ {O' f' d' : String} {u : Value}, Jvm.RoadKit.slotOf Z O' f' d' ≠ Jvm.RoadKit.slotOf Z O f d → Fld Z h a O' f' d' u → Fld Z h' a O' f' d' u) → oGo Z own nm bytes ml ret R n0 Q k n h' q L S) : oGo Z own nm bytes ml ret R n0 Q k n h pc L (v :: .ref a :: S) :=
  fun p l e s m args below meth c T locs Cx X eT N => by
    obtain ⟨hx, hZ, hby, hml, hown, hrt, hlk, hnm⟩ := Cx
    subst hq
    obtain ⟨T', h', X', e', W, st⟩ := Jvm.RoadKit.putF X hx hZ hown w via eT F E (Lw.imp id fun u => ⟨u.1, u.2.1, hnm.trans u.2.2⟩) wi hty hn hf (g := mkF m pc L (v :: .ref a :: S)) rfl rfl (hb hby hd)
    obtain ⟨s₂, o, h1, r⟩ := K h' (Keep.of_wr W) (E.wr W) (F.same W) (fun hne G => G.other W (Or.inr hne)) p l e s m args below meth c T' _ ⟨hx, hZ, hby, hml, hown, hrt, hlk, hnm⟩ X' e' (Fr.snoc X' N ha)
    exact ⟨s₂, o, st _ h1, r⟩
/-! arrays -/
def Ars (Z : State) (h : Heap) (a : Addr) (ty : FieldType) (vs : List Value) : Prop := ∃ c : Cell, Arr Z h a c ty ∧ c.slots.toList = vs ∧ ∀ v ∈ vs, fits ty v = true
theorem Ars.lt {a : Addr} {ty : FieldType} {vs : List Value} (A : Ars Z h a ty vs) : a < h.size := by obtain ⟨c, A, -⟩ := A; exact A.lt
theorem Ars.keep {h' : Heap} {ws : List Addr} {a : Addr} {ty : FieldType} {vs : List Value} (A : Ars Z h a ty vs) (K : Keep h h' ws) (q : a ∉ ws) : Ars Z h' a ty vs := by obtain ⟨c, A, r⟩ := A; exact ⟨c, ⟨K.2.1 a c A.1 q, A.2⟩, r⟩
theorem own_cn {j : Int32} {i : Nat} (hi : j.toInt = (i : Int)) : j.toNatClampNeg = i := by simp [Int32.toNatClampNeg, hi]
theorem own_in {j : Int32} {i : Nat} {c : Cell} {vs : List Value} (hi : j.toInt = (i : Int)) (hc : c.slots.toList = vs) (hl : i < vs.length) : ¬ (j < 0 ∨ c.slots.size ≤ j.toNatClampNeg) := by
  have e1 : c.slots.size = vs.length := by rw [← hc]; simp
  rw [own_cn hi, e1]
  rintro (u | u)
  · have := Int32.lt_iff_toInt_lt.mp u; have e0 : (0 : Int32).toInt = 0 := rfl; omega
  · omega
theorem own_at {j : Int32} {i : Nat} {c : Cell} {vs : List Value} {v : Value} (hi : j.toInt = (i : Int)) (hc : c.slots.toList = vs) (hv : vs[i]? = some v) : c.slots[j.toNatClampNeg]? = some v := by
  rw [own_cn hi, ← hv, ← hc]; simp
theorem Ars.wr {h' : Heap} {a : Addr} {ty : FieldType} {vs : List Value} {c : Cell} {i : Nat} {v : Value} {j : Int32} (hi : j.toInt = (i : Int)) (A : Arr Z h a c ty) (hc : c.slots.toList = vs) (hf : ∀ v ∈ vs, fits ty v = true) (hv : fits ty v = true) (W : Wr h h' a j.toNatClampNeg v) : Ars Z h' a ty (vs.set i v) := by
  refine ⟨_, A.same W, ?_, fun u hu => ?_⟩
  · rw [← hc, own_cn hi]; simp [Cell.setSlot]
  · rcases List.mem_or_eq_of_mem_set hu with u1 | u1
    · exact hf u u1
    · exact u1 ▸ hv
theorem oGo.newP {aty : ArrayType} {nn : Int32} {len : Nat} {ad : String} (cap : Nat) (hd : decode bytes pc = .ok (.newarray aty, 2)) (hq : pc + 2 = q) (w : (Cond.arrayClass (newarray.typeOf aty)).before a0 Z = true) (hn : nn.toInt = (len : Int)) (hcap : len ≤ cap) (hb8 : cap * 8 ≤ 536870912) (hc : k + 1 ≤ R.cells) (hs : n + cap ≤ R.slots) (had : "[" ++ (newarray.typeOf aty).toString = ad)
    (K : ∀ h' a, a = h.size → Keep h h' [] → Ars Z h' a (newarray.typeOf aty) (List.replicate len (defaultValue (newarray.typeOf aty))) → Exa Z h' a ad → oGo Z own nm bytes ml ret R n0 Q (k + 1) (n + cap) h' q L (.ref a :: S)) : oGo Z own nm bytes ml ret R n0 Q k n h pc L (.int nn :: S) :=
  fun p l e s m args below meth c T locs Cx X eT N => by
    obtain ⟨hx, hZ, hby, hml, hown, hrt, hlk, hnm⟩ := Cx
    subst hq
    have h0 : ¬ nn < 0 := fun u => by have := Int32.lt_iff_toInt_lt.mp u; have e0 : (0 : Int32).toInt = 0 := rfl; omega
    obtain ⟨T', h', cA, X', e', E, A, EA, st⟩ := Jvm.RoadKit.newPE X hx hZ w eT (g := mkF m pc L (.int nn :: S)) rfl (hb hby hd) rfl h0 (cap := cap) (by rw [own_cn hn]; exact hcap) hb8 hc hs had
    obtain ⟨s₂, o, h1, r⟩ := K h' h.size rfl (own_keep E) ⟨_, A, by simp [newA, own_cn hn], fun v hv => by rw [(List.mem_replicate.mp hv).2]; cases aty <;> rfl⟩ EA p l e s m args below meth c T' locs ⟨hx, hZ, hby, hml, hown, hrt, hlk, hnm⟩ X' e' N
    exact ⟨s₂, o, st _ h1, r⟩
theorem oGo.cast {i : Nat} {C : String} {a : Addr} (hd : decode bytes pc = .ok (.checkcast i, 3)) (hq : pc + 3 = q) (w : (Cond.classLink own i C).before a0 Z = true) (F : Ins Z h a C true) (K : oGo Z own nm bytes ml ret R n0 Q k n h q L (.ref a :: S)) : oGo Z own nm bytes ml ret R n0 Q k n h pc L (.ref a :: S) :=
  fun p l e s m args below meth c T locs Cx X eT N => by
    obtain ⟨hx, hZ, hby, hml, hown, hrt, hlk, hnm⟩ := Cx
    subst hq
    obtain ⟨T', X', e', st⟩ := Jvm.RoadKit.castY X hx hZ hown w eT F (g := mkF m pc L (.ref a :: S)) rfl rfl (hb hby hd)
    obtain ⟨s₂, o, h1, r⟩ := K p l e s m args below meth c T' locs ⟨hx, hZ, hby, hml, hown, hrt, hlk, hnm⟩ X' e' N
    exact ⟨s₂, o, st _ h1, r⟩
theorem oGo.arraylength {a : Addr} {ty : FieldType} {vs : List Value} {v : Int32} (hd : decode bytes pc = .ok (.arraylength, 1)) (hq : pc + 1 = q) (A : Ars Z h a ty vs) (hv : Int32.ofNat vs.length = v) (K : oGo Z own nm bytes ml ret R n0 Q k n h q L (.int v :: S)) : oGo Z own nm bytes ml ret R n0 Q k n h pc L (.ref a :: S) :=
  fun p l e s m args below meth c T locs Cx X eT N => by
    obtain ⟨hx, hZ, hby, hml, hown, hrt, hlk, hnm⟩ := Cx
    subst hq
    obtain ⟨cl, A, hc, -⟩ := A
    have e1 : cl.slots.size.toInt32 = v := by rw [← hv, ← hc, Array.length_toList]
    obtain ⟨s₂, o, h1, r⟩ := K p l e s m args below meth c T locs ⟨hx, hZ, hby, hml, hown, hrt, hlk, hnm⟩ X eT N
    exact ⟨s₂, o, X.arraylength hx (by rw [eT]; exact A.1) (State.isArrayOf_alike hZ.alike A.2.1) (g := mkF m pc L (.ref a :: S)) rfl rfl (hb hby hd) _ (by rw [e1]; exact h1), r⟩
theorem oGo.iaload {a : Addr} {j : Int32} {i : Nat} {vs : List Value} {v : Value} (hd : decode bytes pc = .ok (.iaload, 1)) (hq : pc + 1 = q) (A : Ars Z h a .int vs) (hi : j.toInt = (i : Int)) (hv : vs[i]? = some v) (K : oGo Z own nm bytes ml ret R n0 Q k n h q L (v :: S)) : oGo Z own nm bytes ml ret R n0 Q k n h pc L (.int j :: .ref a :: S) :=
  fun p l e s m args below meth c T locs Cx X eT N => by
    obtain ⟨hx, hZ, hby, hml, hown, hrt, hlk, hnm⟩ := Cx
    subst hq
    obtain ⟨cl, A, hc, -⟩ := A
    obtain ⟨s₂, o, h1, r⟩ := K p l e s m args below meth c T locs ⟨hx, hZ, hby, hml, hown, hrt, hlk, hnm⟩ X eT N
    exact ⟨s₂, o, X.iaload hx (by rw [eT]; exact A.1) (State.isArrayOf_alike hZ.alike A.2.1) A.2.2 (own_in hi hc (List.getElem?_eq_some_iff.mp hv).1) (own_at hi hc hv) (g := mkF m pc L (.int j :: .ref a :: S)) rfl rfl (hb hby hd) _ h1, r⟩
theorem oGo.laload {a : Addr} {j : Int32} {i : Nat} {vs : List Value} {v : Value} (hd : decode bytes pc = .ok (.laload, 1)) (hq : pc + 1 = q) (A : Ars Z h a .long vs) (hi : j.toInt = (i : Int)) (hv : vs[i]? = some v) (K : oGo Z own nm bytes ml ret R n0 Q k n h q L (v :: S)) : oGo Z own nm bytes ml ret R n0 Q k n h pc L (.int j :: .ref a :: S) :=
  fun p l e s m args below meth c T locs Cx X eT N => by
    obtain ⟨hx, hZ, hby, hml, hown, hrt, hlk, hnm⟩ := Cx
    subst hq
    obtain ⟨cl, A, hc, -⟩ := A
    obtain ⟨s₂, o, h1, r⟩ := K p l e s m args below meth c T locs ⟨hx, hZ, hby, hml, hown, hrt, hlk, hnm⟩ X eT N
    exact ⟨s₂, o, X.laload hx (by rw [eT]; exact A.1) (State.isArrayOf_alike hZ.alike A.2.1) A.2.2 (own_in hi hc (List.getElem?_eq_some_iff.mp hv).1) (own_at hi hc hv) (g := mkF m pc L (.int j :: .ref a :: S)) rfl rfl (hb hby hd) _ h1, r⟩
theorem oGo.baload {a : Addr} {j : Int32} {i : Nat} {vs : List Value} {v : Value} (hd : decode bytes pc = .ok (.baload, 1)) (hq : pc + 1 = q) (A : Ars Z h a .byte vs) (hi : j.toInt = (i : Int)) (hv : vs[i]? = some v) (K : oGo Z own nm bytes ml ret R n0 Q k n h q L (v :: S)) : oGo Z own nm bytes ml ret R n0 Q k n h pc L (.int j :: .ref a :: S) :=
  fun p l e s m args below meth c T locs Cx X eT N => by
    obtain ⟨hx, hZ, hby, hml, hown, hrt, hlk, hnm⟩ := Cx
    subst hq
    obtain ⟨cl, A, hc, -⟩ := A
    obtain ⟨s₂, o, h1, r⟩ := K p l e s m args below meth c T locs ⟨hx, hZ, hby, hml, hown, hrt, hlk, hnm⟩ X eT N
    exact ⟨s₂, o, X.baloadBytes hx (by rw [eT]; exact A.1) (State.isArrayOf_alike hZ.alike A.2.1) A.2.2 (own_in hi hc (List.getElem?_eq_some_iff.mp hv).1) (own_at hi hc hv) (g := mkF m pc L (.int j :: .ref a :: S)) rfl rfl (hb hby hd) _ h1, r⟩
theorem oGo.iastore {a : Addr} {j : Int32} {x : Int32} {i : Nat} {vs : List Value} (hd : decode bytes pc = .ok (.iastore, 1)) (hq : pc + 1 = q) (A : Ars Z h a .int vs) (hi : j.toInt = (i : Int)) (hl : i < vs.length) (ha : n0 ≤ a) (K : ∀ h', Keep h h' [a] → Ars Z h' a .int (vs.set i (.int x)) → oGo Z own nm bytes ml ret R n0 Q k n h' q L S) : oGo Z own nm bytes ml ret R n0 Q k n h pc L (.int x :: .int j :: .ref a :: S) :=
  fun p l e s m args below meth c T locs Cx X eT N => by
    obtain ⟨hx, hZ, hby, hml, hown, hrt, hlk, hnm⟩ := Cx
    subst hq
    obtain ⟨cl, A, hc, hf⟩ := A
    obtain ⟨T', h', X', e', W, st⟩ := Jvm.RoadKit.stI X hx hZ eT A (own_in hi hc hl) (g := mkF m pc L (.int x :: .int j :: .ref a :: S)) rfl rfl (hb hby hd)
    obtain ⟨s₂, o, h1, r⟩ := K h' (Keep.of_wr W) (Ars.wr hi A hc hf rfl W) p l e s m args below meth c T' _ ⟨hx, hZ, hby, hml, hown, hrt, hlk, hnm⟩ X' e' (Fr.snoc X' N ha)
    exact ⟨s₂, o, st _ h1, r⟩
theorem oGo.lastore {a : Addr} {j : Int32} {x : Int64} {i : Nat} {vs : List Value} (hd : decode bytes pc = .ok (.lastore, 1)) (hq : pc + 1 = q) (A : Ars Z h a .long vs) (hi : j.toInt = (i : Int)) (hl : i < vs.length) (ha : n0 ≤ a) (K : ∀ h', Keep h h' [a] → Ars Z h' a .long (vs.set i (.long x)) → oGo Z own nm bytes ml ret R n0 Q k n h' q L S) : oGo Z own nm bytes ml ret R n0 Q k n h pc L (.long x :: .int j :: .ref a :: S) :=
  fun p l e s m args below meth c T locs Cx X eT N => by
    obtain ⟨hx, hZ, hby, hml, hown, hrt, hlk, hnm⟩ := Cx
    subst hq
    obtain ⟨cl, A, hc, hf⟩ := A
    obtain ⟨T', h', X', e', W, st⟩ := Jvm.RoadKit.stJ X hx hZ eT A (own_in hi hc hl) (g := mkF m pc L (.long x :: .int j :: .ref a :: S)) rfl rfl (hb hby hd)
    obtain ⟨s₂, o, h1, r⟩ := K h' (Keep.of_wr W) (Ars.wr hi A hc hf rfl W) p l e s m args below meth c T' _ ⟨hx, hZ, hby, hml, hown, hrt, hlk, hnm⟩ X' e' (Fr.snoc X' N ha)
    exact ⟨s₂, o, st _ h1, r⟩
theorem oGo.bastore {a : Addr} {j x y : Int32} {i : Nat} {vs : List Value} (hd : decode bytes pc = .ok (.bastore, 1)) (hq : pc + 1 = q) (A : Ars Z h a .byte vs) (hi : j.toInt = (i : Int)) (hl : i < vs.length) (ha : n0 ≤ a) (hy : x.toInt8.toInt32 = y) (K : ∀ h', Keep h h' [a] → Ars Z h' a .byte (vs.set i (.int y)) → oGo Z own nm bytes ml ret R n0 Q k n h' q L S) : oGo Z own nm bytes ml ret R n0 Q k n h pc L (.int x :: .int j :: .ref a :: S) :=
  fun p l e s m args below meth c T locs Cx X eT N => by
    obtain ⟨hx, hZ, hby, hml, hown, hrt, hlk, hnm⟩ := Cx
    subst hq hy
    obtain ⟨cl, A, hc, hf⟩ := A
    obtain ⟨T', h', X', e', W, st⟩ := Jvm.RoadKit.stB X hx hZ eT A (own_in hi hc hl) (g := mkF m pc L (.int x :: .int j :: .ref a :: S)) rfl rfl (hb hby hd)
    obtain ⟨s₂, o, h1, r⟩ := K h' (Keep.of_wr W) (Ars.wr hi A hc hf (fits_nar_byte x) W) p l e s m args below meth c T' _ ⟨hx, hZ, hby, hml, hown, hrt, hlk, hnm⟩ X' e' (Fr.snoc X' N ha)
    exact ⟨s₂, o, st _ h1, r⟩
/-! small numbers -/
theorem own_oi {i : Nat} (hi : i < 2147483648) : (Int32.ofNat i).toInt = (i : Int) := Int32.toInt_ofNat_of_lt (by omega)
theorem own_oinc (i : Nat) : Int32.ofNat i + Int32.ofInt 1 = Int32.ofNat (i + 1) := (Int32.ofNat_add i 1).symm
theorem own_oadd {i m : Nat} {c : Int32} (hc : c = Int32.ofNat m) : Int32.ofNat i + c = Int32.ofNat (i + m) := by rw [hc]; exact (Int32.ofNat_add i m).symm
theorem own_oiadd {i m : Nat} {c : Int32} (hc : c = Int32.ofNat m) (h : i + m < 2147483648) : (Int32.ofNat i + c).toInt = ((i + m : Nat) : Int) := by rw [own_oadd hc]; exact own_oi h
theorem own_pred {i : Nat} (hi : i < 2147483647) : (Int32.ofNat (i + 1) - (1 : Int32)).toInt = (i : Int) := by
  have a := c_isub (Int32.ofNat (i + 1)) 1
  have e := own_oi (i := i + 1) (by omega)
  have z : (1 : Int32).toInt = 1 := by decide
  have r := rng32 (Int32.ofNat (i + 1) - 1)
  omega
theorem own_bb (x : Int32) : x.toInt8.toInt32.toInt8.toInt32 = x.toInt8.toInt32 := by
  apply Int32.toInt_inj.mp
  have h1 := c_i2b x
  have h2 := c_i2b x.toInt8.toInt32
  omega
def own_ints (vs : List Value) (n : Nat) : Prop := vs.length = n ∧ ∀ k, k < n → ∃ x : Int32, vs[k]? = some (.int x)
theorem own_ints.set {vs : List Value} {n i : Nat} {x : Int32} (u : own_ints vs n) : own_ints (vs.set i (.int x)) n := by
  refine ⟨by rw [List.length_set]; exact u.1, fun k hk => ?_⟩
  by_cases e : i = k
  · subst e; exact ⟨x, List.getElem?_set_self (by rw [u.1]; exact hk)⟩
  · rw [List.getElem?_set_ne e]; exact u.2 k hk
theorem own_irem (x y : Int32) (hx : 0 ≤ x.toInt) : (x % y).toInt = x.toInt % y.toInt := by rw [Int32.toInt_mod]; exact (tr _ _).1 hx
theorem own_lrem (x y : Int64) (hx : 0 ≤ x.toInt) : (x % y).toInt = x.toInt % y.toInt := by rw [Int64.toInt_mod]; exact (tr _ _).1 hx
theorem own_int32 {x y : Int32} (e : x.toInt = y.toInt) : x = y := Int32.toInt_inj.mp e
theorem own_int64 {x y : Int64} (e : x.toInt = y.toInt) : x = y := Int64.toInt_inj.mp e
theorem own_nat {x : Int32} {i : Nat} (e : x.toInt = (i : Int)) (hi : i < 2147483648) : x = Int32.ofNat i := own_int32 (e.trans (own_oi hi).symm)
/-! System.arraycopy -/
theorem Ars.arv {a : Addr} {ty : FieldType} {vs : List Value} (dv : Value) (A : Ars Z h a ty vs) (hl : vs.length < 2147483648) : ∃ k, Arv Z h a k ty (Int32.ofNat vs.length) vs dv := by
  obtain ⟨c, A, hc, hf⟩ := A
  have e1 : c.slots.size = vs.length := by rw [← hc, Array.length_toList]
  have e2 : (Int32.ofNat vs.length).toNatClampNeg = vs.length := own_cn (own_oi hl)
  refine ⟨c.cls, c, A, rfl, by rw [e1, e2], fun u => ?_, fun k hk => ?_, fun i hi => ?_⟩
  · have := Int32.lt_iff_toInt_lt.mp u
    have e0 : (0 : Int32).toInt = 0 := rfl
    rw [own_oi hl] at this
    omega
  · rw [e1] at hk
    rw [← Array.getElem?_toList, hc, List.getD_eq_getElem?_getD, List.getElem?_eq_getElem hk]
    rfl
  · rw [e1] at hi
    rw [List.getD_eq_getElem?_getD, List.getElem?_eq_getElem hi]
    exact hf _ (List.getElem_mem hi)
theorem Ars.of_arv {a : Addr} {ty : FieldType} {vs : List Value} {dv : Value} {z : Int32} {k : ClassId} (A : Arv Z h a k ty z vs dv) (hz : z.toNatClampNeg = vs.length) : Ars Z h a ty vs := by
  obtain ⟨c, A, -, e1, -, H, F⟩ := A
  rw [hz] at e1
  refine ⟨c, A, List.ext_getElem? fun i => ?_, fun v hv => ?_⟩
  · rw [Array.getElem?_toList]
    by_cases u : i < vs.length
    · rw [H i (by rw [e1]; exact u), List.getD_eq_getElem?_getD, List.getElem?_eq_getElem u]; rfl
    · rw [List.getElem?_eq_none (by omega), Array.getElem?_eq_none (by omega)]
  · obtain ⟨i, hi, rfl⟩ := List.mem_iff_getElem.mp hv
    have := F i (by rw [e1]; exact hi)
    rwa [List.getD_eq_getElem?_getD, List.getElem?_eq_getElem hi] at this
theorem own_us {vs : List Value} {si len : Nat} {dv : Value} (hl : si + len ≤ vs.length) : (vs.drop si).take len = (List.range len).map fun i => vs.getD (si + i) dv := by
  apply List.ext_getElem
  · simp; omega
  · intro i h1 h2
    simp only [List.length_map, List.length_range] at h2
    simp [List.getD_eq_getElem?_getD, List.getElem?_eq_getElem (show si + i < vs.length by omega)]
theorem own_nn {j : Int32} {i : Nat} (hi : j.toInt = (i : Int)) : ¬ j < 0 := fun u => by
  have := Int32.lt_iff_toInt_lt.mp u
  have e0 : (0 : Int32).toInt = 0 := rfl
  omega
theorem oGo.acopy {i W : Nat} {a b : Addr} {ty : FieldType} {vs vd : List Value} {sp dp nn : Int32} {si di len : Nat} (hd : decode bytes pc = .ok (.invokestatic i, 3)) (hq : pc + 3 = q)
    (w1 : (Cond.methodLink own i Jvm.Stand.acN).before a0 Z = true) (w2 : (Cond.native Jvm.Stand.acN).before a0 Z = true) (w3 : (Cond.static Jvm.Stand.acN).before a0 Z = true) (w4 : (Cond.initialized "java/lang/System").before a0 Z = true)
    (A : Ars Z h a ty vs) (B : Ars Z h b ty vd) (hty : refKind ty = false) (h1 : sp.toInt = (si : Int)) (h2 : dp.toInt = (di : Int)) (h3 : nn.toInt = (len : Int)) (h4 : si + len ≤ vs.length) (h5 : di + len ≤ vd.length) (l1 : vs.length < 2147483648) (l2 : vd.length < 2147483648) (ge : n0 ≤ b) (hL : L.size = ml) (hf : 1 ≤ R.frames) (hW : 2 * 0 + (S.map fun v => v.category).sum ≤ W) (hlo : W + (nativeFrameWords "java/lang/System" "arraycopy" 5 + 11) ≤ R.locals)
    (K : ∀ h', Keep h h' [b] → Ars Z h' b ty (vd.take di ++ (vs.drop si).take len ++ vd.drop (di + len)) → oGo Z own nm bytes ml ret R n0 Q k n h' q L S) : oGo Z own nm bytes ml ret R n0 Q k n h pc L (.int nn :: .int dp :: .ref b :: .int sp :: .ref a :: S) :=
  fun p l e s m args below meth c T locs Cx X eT N => by
    obtain ⟨hx, hZ, hby, hml, hown, hrt, hlk, hnm⟩ := Cx
    subst hq
    obtain ⟨k1, A'⟩ := A.arv .null l1
    obtain ⟨k2, B'⟩ := B.arv .null l2
    have c1 := own_cn h1
    have c2 := own_cn h2
    have c3 := own_cn h3
    have e1 := own_cn (own_oi l1)
    have e2 := own_cn (own_oi l2)
    obtain ⟨T', h', L', X', e', N', K', B'', st⟩ := cpA X hx hZ hown w1 w2 w3 w4 eT A' B' (Or.inl ⟨rfl, hty⟩) (own_nn h1) (own_nn h2) (own_nn h3) (by rw [c1, c3, e1]; exact h4) (by rw [c2, c3, e2]; exact h5) rfl (by rw [c2, c3]; exact h5) N ge (g := mkF m pc L (.int nn :: .int dp :: .ref b :: .int sp :: .ref a :: S)) rfl (by rw [hml]; exact hL) rfl (hb hby hd) hf hW hlo
    rw [c1, c2, c3, ← own_us h4] at B''
    obtain ⟨s₂, o, g1, r⟩ := K h' K' (Ars.of_arv B'' (by rw [e2]; simp only [List.length_append, List.length_take, List.length_drop]; omega)) p l e s m args below meth c T' L' ⟨hx, hZ, hby, hml, hown, hrt, hlk, hnm⟩ X' e' N'
    exact ⟨s₂, o, st _ g1, r⟩
theorem oGo.clone {i W : Nat} {ad : String} {a : Addr} {ty : FieldType} {vs : List Value} (cap : Nat) (hd : decode bytes pc = .ok (.invokevirtual i, 3)) (hq : pc + 3 = q)
    (w1 : (Cond.methodLink own i ⟨ad, "clone", "()Ljava/lang/Object;"⟩).before a0 Z = true) (w2 : (Cond.sameMethod ad "java/lang/Object" "clone" "()Ljava/lang/Object;").before a0 Z = true) (w3 : (Cond.native ⟨"java/lang/Object", "clone", "()Ljava/lang/Object;"⟩).before a0 Z = true)
    (w4 : (Cond.instanceMethod ⟨"java/lang/Object", "clone", "()Ljava/lang/Object;"⟩).before a0 Z = true) (w5 : (Cond.selects ad ⟨ad, "clone", "()Ljava/lang/Object;"⟩ ⟨"java/lang/Object", "clone", "()Ljava/lang/Object;"⟩).before a0 Z = true) (w6 : (Cond.castable ad "java/lang/Cloneable").before a0 Z = true)
    (A : Ars Z h a ty vs) (E : Exa Z h a ad) (hl : vs.length < 2147483648) (hcap : vs.length ≤ cap) (hL : L.size = ml) (hf : 1 ≤ R.frames) (hW : 2 * 0 + (S.map fun v => v.category).sum ≤ W) (hlo : W + 14 ≤ R.locals) (hc : k + 1 ≤ R.cells) (hs : n + cap ≤ R.slots)
    (K : ∀ h' b, b = h.size → Keep h h' [] → Ars Z h' b ty vs → Exa Z h' b ad → oGo Z own nm bytes ml ret R n0 Q (k + 1) (n + cap) h' q L (.ref b :: S)) : oGo Z own nm bytes ml ret R n0 Q k n h pc L (.ref a :: S) :=
  fun p l e s m args below meth c T locs Cx X eT N => by
    obtain ⟨hx, hZ, hby, hml, hown, hrt, hlk, hnm⟩ := Cx
    subst hq
    obtain ⟨k1, A'⟩ := A.arv .null hl
    have e1 := own_cn (own_oi hl)
    obtain ⟨T', h', X', e', Ex, B', EB, st⟩ := cloneH X hx hZ hown w1 w2 w3 w4 w5 w6 eT A'.arh E (g := mkF m pc L (.ref a :: S)) rfl (by rw [hml]; exact hL) rfl (hb hby hd) hf hW hlo (cap := cap) (by rw [e1]; exact hcap) hc hs
    obtain ⟨s₂, o, g1, r⟩ := K h' h.size rfl (own_keep Ex) (Ars.of_arv (show Arv Z h' h.size k1 ty (Int32.ofNat vs.length) vs .null from B') e1) EB p l e s m args below meth c T' locs ⟨hx, hZ, hby, hml, hown, hrt, hlk, hnm⟩ X' e' N
    exact ⟨s₂, o, st _ g1, r⟩
theorem oGo.callP {y : MethodName} {i W kk : Nat} {bytes' : ByteArray} {ml' : Nat} {ret' : Option FieldType} {rm : Room} {as : Array Value} {Q' : Option Value → Heap → Prop} {ps : List FieldType} {rt : Option FieldType} {a : Addr} {C : String} (argsL rest : List Value) (hd : decode bytes pc = .ok (.invokevirtual i, 3)) (hq : pc + 3 = q)
    (w1 : (Cond.methodLink own i y).before a0 Z = true) (w2 : (Cond.instanceMethod y).before a0 Z = true) (wp : (Cond.privateMethod y).before a0 Z = true) (wi : (Cond.instantiable y.cls kk).before a0 Z = true) (w3 : (Cond.initialized y.cls).before a0 Z = true) (w4 : (Cond.code y bytes' ml' ret').before a0 Z = true) (hy : y.cls ≠ "java/lang/invoke/MethodHandle" ∧ y.cls ≠ "java/lang/invoke/VarHandle") (E : Exa Z h a C)
    (hC : oCon Z y bytes' ml' ret' rm as h n0 Q') (hS : S = argsL.reverse ++ .ref a :: rest) (has : (.ref a :: argsL).toArray = as) (hpd : parseMethodDescriptor y.desc = some ⟨ps, rt⟩) (hlen : argsL.length = ps.length) (hL : L.size = ml) (hW : 2 * 0 + (rest.map fun v => v.category).sum ≤ W) (hf : rm.frames + 1 ≤ R.frames) (hl : W + (ml' + 11) + rm.locals ≤ R.locals) (hc : k + rm.cells ≤ R.cells) (hs : n + rm.slots ≤ R.slots)
    (K : ∀ v h', Q' v h' → oGo Z own nm bytes ml ret R n0 Q (k + rm.cells) (n + rm.slots) h' q L (v.toList ++ rest)) : oGo Z own nm bytes ml ret R n0 Q k n h pc L S :=
  fun p l e s m args below meth c T locs Cx X eT N => by
    obtain ⟨hx, hZ, hby, hml, hown, hrt, hlk, hnm⟩ := Cx
    subst hq
    obtain ⟨cq, q1, q2⟩ := E.cell
    have hpr := Cond.privateMethod_at (mvP hZ wp (args := #[]))
    have hin : (Cond.instanceMethod y).before args s = true := mvT hZ w2
    obtain ⟨ci, ki, i1, i2, -, i4, -, -⟩ := Cond.instantiable_spec (show (Cond.instantiable y.cls kk).before args s = true from mvT hZ wi)
    have hsel := selects_self_of_private (args := args) i1 i2 (by simp only [Bool.or_eq_false_iff] at i4; exact i4.1) hpr hin hy
    obtain ⟨v, _, ⟨T', L2, k2, n2⟩, -, X', ⟨Lc, hQ', l', y', z'⟩, st⟩ := X.privateBack hx (y := y) hown (mvT hZ w1) hin hsel hpr (mvT hZ w4) hy (backOf (W := W) (Q := fun v h' L => Q' v h' ∧ Fr n0 L) (hC l []) hZ w4 w3 hf hl) (g := mkF m pc L S) rfl (by rw [hml]; exact hL) (Steps.refl _) (a := a) (by rw [eT]; exact q1) q2 (argsL := argsL) (rest := rest) (lenOf hpd hlen) hS hW (hb hby hd) (fun _ _ => ⟨has, eT, hc, hs⟩)
    dsimp only [Pt.U, Pt.locs, Pt.cells, Pt.slots] at X' l' y' z' st hQ'
    subst l' y' z'
    obtain ⟨s₂, o, h1, r⟩ := K v T'.heap hQ'.1 p l e s m args below meth c T' _ ⟨hx, hZ, hby, hml, hown, hrt, hlk, hnm⟩ X' rfl (Fr.app N hQ'.2)
    exact ⟨s₂, o, st.trans h1, r⟩
/-! booleans -/
def own_b (b : Int32) (P : Prop) : Prop := (b = 1 ∧ P) ∨ (b = 0 ∧ ¬ P)
theorem own_b.t {P : Prop} (hp : P) : own_b 1 P := Or.inl ⟨rfl, hp⟩
theorem own_b.f {P : Prop} (hp : ¬ P) : own_b 0 P := Or.inr ⟨rfl, hp⟩
theorem own_b.z {b : Int32} {P : Prop} (u : own_b b P) (hb : b = 0) : ¬ P := by
  rcases u with ⟨rfl, _⟩ | ⟨_, u⟩
  · exact absurd hb (by decide)
  · exact u
theorem own_b.nz {b : Int32} {P : Prop} (u : own_b b P) (hb : b ≠ 0) : P := by
  rcases u with ⟨_, u⟩ | ⟨rfl, _⟩
  · exact u
  · exact absurd rfl hb
theorem own_b.nar {b : Int32} {P : Prop} (u : own_b b P) : nar .boolean b = b := by
  rcases u with ⟨rfl, _⟩ | ⟨rfl, _⟩ <;> rfl
theorem own_b.eq {b c : Int32} {P P' : Prop} (u : own_b b P) (v : own_b c P') (hp : P ↔ P') : b = c := by
  rcases u with ⟨rfl, u⟩ | ⟨rfl, u⟩ <;> rcases v with ⟨rfl, v⟩ | ⟨rfl, v⟩
  · rfl
  · exact absurd (hp.mp u) v
  · exact absurd (hp.mpr v) u
  · rfl
theorem own_b.is0 {b : Int32} {P : Prop} (u : own_b b P) (hp : ¬ P) : b = 0 := u.elim (fun z => absurd z.2 hp) (fun z => z.1)
theorem own_b.is1 {b : Int32} {P : Prop} (u : own_b b P) (hp : P) : b = 1 := u.elim (fun z => z.1) (fun z => absurd hp z.2)
theorem own_b.iff {b : Int32} {P P' : Prop} (u : own_b b P) (hp : P ↔ P') : own_b b P' := u.imp (fun z => ⟨z.1, hp.mp z.2⟩) (fun z => ⟨z.1, fun y => z.2 (hp.mpr y)⟩)
end Own
theorem d1_0 : decode prog_34_method_21_code 0 = .ok (.iconst 0, 1) := by decide +kernel
theorem d1_1 : decode prog_34_method_21_code 1 = .ok (.istore 5, 2) := by decide +kernel
theorem d1_3 : decode prog_34_method_21_code 3 = .ok (.iload 5, 2) := by decide +kernel
theorem d1_5 : decode prog_34_method_21_code 5 = .ok (.iload_n 2, 1) := by decide +kernel
theorem d1_6 : decode prog_34_method_21_code 6 = .ok (.if_icmp .ge 53, 3) := by decide +kernel
theorem d1_9 : decode prog_34_method_21_code 9 = .ok (.lload_n 3, 1) := by decide +kernel
theorem d1_10 : decode prog_34_method_21_code 10 = .ok (.lconst 0, 1) := by decide +kernel
theorem d1_11 : decode prog_34_method_21_code 11 = .ok (.lcmp, 1) := by decide +kernel
theorem d1_12 : decode prog_34_method_21_code 12 = .ok (.ifCond .eq 47, 3) := by decide +kernel
theorem d1_15 : decode prog_34_method_21_code 15 = .ok (.aload_n 0, 1) := by decide +kernel
theorem d1_16 : decode prog_34_method_21_code 16 = .ok (.iload_n 1, 1) := by decide +kernel
theorem d1_17 : decode prog_34_method_21_code 17 = .ok (.iload 5, 2) := by decide +kernel
theorem d1_19 : decode prog_34_method_21_code 19 = .ok (.iadd, 1) := by decide +kernel
theorem d1_20 : decode prog_34_method_21_code 20 = .ok (.laload, 1) := by decide +kernel
theorem d1_21 : decode prog_34_method_21_code 21 = .ok (.lstore 6, 2) := by decide +kernel
theorem d1_23 : decode prog_34_method_21_code 23 = .ok (.lload 6, 2) := by decide +kernel
theorem d1_25 : decode prog_34_method_21_code 25 = .ok (.lload_n 3, 1) := by decide +kernel
theorem d1_26 : decode prog_34_method_21_code 26 = .ok (.ladd, 1) := by decide +kernel
theorem d1_27 : decode prog_34_method_21_code 27 = .ok (.lstore 8, 2) := by decide +kernel
theorem d1_29 : decode prog_34_method_21_code 29 = .ok (.aload_n 0, 1) := by decide +kernel
theorem d1_30 : decode prog_34_method_21_code 30 = .ok (.iload_n 1, 1) := by decide +kernel
theorem d1_31 : decode prog_34_method_21_code 31 = .ok (.iload 5, 2) := by decide +kernel
theorem d1_33 : decode prog_34_method_21_code 33 = .ok (.iadd, 1) := by decide +kernel
theorem d1_34 : decode prog_34_method_21_code 34 = .ok (.lload 8, 2) := by decide +kernel
theorem d1_36 : decode prog_34_method_21_code 36 = .ok (.lastore, 1) := by decide +kernel
theorem d1_37 : decode prog_34_method_21_code 37 = .ok (.lload 8, 2) := by decide +kernel
theorem d1_39 : decode prog_34_method_21_code 39 = .ok (.lload 6, 2) := by decide +kernel
theorem d1_41 : decode prog_34_method_21_code 41 = .ok (.invokestatic 122, 3) := by decide +kernel
theorem d1_44 : decode prog_34_method_21_code 44 = .ok (.ifCond .ge 7, 3) := by decide +kernel
theorem d1_47 : decode prog_34_method_21_code 47 = .ok (.lconst 1, 1) := by decide +kernel
theorem d1_48 : decode prog_34_method_21_code 48 = .ok (.goto 4, 3) := by decide +kernel
theorem d1_51 : decode prog_34_method_21_code 51 = .ok (.lconst 0, 1) := by decide +kernel
theorem d1_52 : decode prog_34_method_21_code 52 = .ok (.lstore_n 3, 1) := by decide +kernel
theorem d1_53 : decode prog_34_method_21_code 53 = .ok (.iinc 5 1, 3) := by decide +kernel
theorem d1_56 : decode prog_34_method_21_code 56 = .ok (.goto (-53), 3) := by decide +kernel
theorem d1_59 : decode prog_34_method_21_code 59 = .ok (.lload_n 3, 1) := by decide +kernel
theorem d1_60 : decode prog_34_method_21_code 60 = .ok (.lreturn, 1) := by decide +kernel
theorem own_pd0 : parseMethodDescriptor "([JIIJ)J" = some ⟨[(.array .long), .int, .int, .long], some .long⟩ := by decide +kernel
theorem d2_0 : decode jdk_35_method_43_code 0 = .ok (.lload_n 0, 1) := by decide +kernel
theorem d2_1 : decode jdk_35_method_43_code 1 = .ok (.ldc2_w 168, 3) := by decide +kernel
theorem d2_4 : decode jdk_35_method_43_code 4 = .ok (.ladd, 1) := by decide +kernel
theorem d2_5 : decode jdk_35_method_43_code 5 = .ok (.lload_n 2, 1) := by decide +kernel
theorem d2_6 : decode jdk_35_method_43_code 6 = .ok (.ldc2_w 168, 3) := by decide +kernel
theorem d2_9 : decode jdk_35_method_43_code 9 = .ok (.ladd, 1) := by decide +kernel
theorem d2_10 : decode jdk_35_method_43_code 10 = .ok (.invokestatic 302, 3) := by decide +kernel
theorem d2_13 : decode jdk_35_method_43_code 13 = .ok (.ireturn, 1) := by decide +kernel
theorem own_pd1 : parseMethodDescriptor "(JJ)I" = some ⟨[.long, .long], some .int⟩ := by decide +kernel
theorem d3_0 : decode jdk_35_method_42_code 0 = .ok (.lload_n 0, 1) := by decide +kernel
theorem d3_1 : decode jdk_35_method_42_code 1 = .ok (.lload_n 2, 1) := by decide +kernel
theorem d3_2 : decode jdk_35_method_42_code 2 = .ok (.lcmp, 1) := by decide +kernel
theorem d3_3 : decode jdk_35_method_42_code 3 = .ok (.ifCond .ge 7, 3) := by decide +kernel
theorem d3_6 : decode jdk_35_method_42_code 6 = .ok (.iconst (-1), 1) := by decide +kernel
theorem d3_7 : decode jdk_35_method_42_code 7 = .ok (.goto 14, 3) := by decide +kernel
theorem d3_10 : decode jdk_35_method_42_code 10 = .ok (.lload_n 0, 1) := by decide +kernel
theorem d3_11 : decode jdk_35_method_42_code 11 = .ok (.lload_n 2, 1) := by decide +kernel
theorem d3_12 : decode jdk_35_method_42_code 12 = .ok (.lcmp, 1) := by decide +kernel
theorem d3_13 : decode jdk_35_method_42_code 13 = .ok (.ifCond .ne 7, 3) := by decide +kernel
theorem d3_16 : decode jdk_35_method_42_code 16 = .ok (.iconst 0, 1) := by decide +kernel
theorem d3_17 : decode jdk_35_method_42_code 17 = .ok (.goto 4, 3) := by decide +kernel
theorem d3_20 : decode jdk_35_method_42_code 20 = .ok (.iconst 1, 1) := by decide +kernel
theorem d3_21 : decode jdk_35_method_42_code 21 = .ok (.ireturn, 1) := by decide +kernel
theorem d4_0 : decode method_2_code 0 = .ok (.lload_n 0, 1) := by decide +kernel
theorem d4_1 : decode method_2_code 1 = .ok (.ldc2_w 9, 3) := by decide +kernel
theorem d4_4 : decode method_2_code 4 = .ok (.lxor, 1) := by decide +kernel
theorem d4_5 : decode method_2_code 5 = .ok (.lload_n 2, 1) := by decide +kernel
theorem d4_6 : decode method_2_code 6 = .ok (.ldc2_w 9, 3) := by decide +kernel
theorem d4_9 : decode method_2_code 9 = .ok (.lxor, 1) := by decide +kernel
theorem d4_10 : decode method_2_code 10 = .ok (.lcmp, 1) := by decide +kernel
theorem d4_11 : decode method_2_code 11 = .ok (.ifCond .ge 7, 3) := by decide +kernel
theorem d4_14 : decode method_2_code 14 = .ok (.iconst 1, 1) := by decide +kernel
theorem d4_15 : decode method_2_code 15 = .ok (.goto 4, 3) := by decide +kernel
theorem d4_18 : decode method_2_code 18 = .ok (.iconst 0, 1) := by decide +kernel
theorem d4_19 : decode method_2_code 19 = .ok (.ireturn, 1) := by decide +kernel
theorem own_pd2 : parseMethodDescriptor "(JJ)Z" = some ⟨[.long, .long], some .boolean⟩ := by decide +kernel
theorem own_low63 (x : Int64) : (x ^^^ (-9223372036854775808 : Int64)) &&& (9223372036854775807 : Int64) = x &&& (9223372036854775807 : Int64) := by
  apply Int64.toBitVec_inj.mp
  simp only [Int64.toBitVec_and, Int64.toBitVec_xor]
  apply BitVec.eq_of_getLsbD_eq
  intro i hi
  have u : ∀ i, i < 64 → ((-9223372036854775808 : Int64).toBitVec.getLsbD i && (9223372036854775807 : Int64).toBitVec.getLsbD i) = false := by decide
  have v := u i hi
  simp only [BitVec.getLsbD_and, BitVec.getLsbD_xor]
  generalize x.toBitVec.getLsbD i = b1 at *
  generalize (-9223372036854775808 : Int64).toBitVec.getLsbD i = b2 at *
  generalize (9223372036854775807 : Int64).toBitVec.getLsbD i = b3 at *
  cases b1 <;> cases b2 <;> cases b3 <;> simp_all
theorem own_flip (x : Int64) : (0 ≤ x.toInt → (x ^^^ (-9223372036854775808 : Int64)).toInt = x.toInt - 9223372036854775808) ∧ (x.toInt < 0 → (x ^^^ (-9223372036854775808 : Int64)).toInt = x.toInt + 9223372036854775808) := by
  have a := congrArg Int64.toInt (own_low63 x)
  rw [c_maskL _ (9223372036854775807 : Int64) 63 (by decide) (by decide), c_maskL _ (9223372036854775807 : Int64) 63 (by decide) (by decide)] at a
  have p : ((2 ^ 63 : Nat) : Int) = 9223372036854775808 := by decide
  rw [p] at a
  have s := c_xorSL x (-9223372036854775808 : Int64)
  have e0 : (-9223372036854775808 : Int64).toInt = -9223372036854775808 := by decide
  have r1 := rng64 x
  have r2 := rng64 (x ^^^ (-9223372036854775808 : Int64))
  constructor <;> intro h0 <;> omega
theorem own_not64 (x : Int64) : (x ^^^ (-1 : Int64)).toInt = -x.toInt - 1 := by
  have e : x ^^^ (-1 : Int64) = ~~~x := by
    apply Int64.toBitVec_inj.mp
    show x.toBitVec ^^^ BitVec.allOnes 64 = ~~~x.toBitVec
    exact BitVec.xor_allOnes
  rw [e, Int64.not_eq_neg_sub]
  have a := c_lneg x
  have b := c_lsub (-x) 1
  have z : (1 : Int64).toInt = 1 := by decide
  have r := rng64 (-x - 1)
  have r2 := rng64 x
  omega
def own_K (c z : Int64) : Prop := ((c ^^^ (-1 : Int64)) ^^^ (-9223372036854775808 : Int64)).toInt < (z ^^^ (-9223372036854775808 : Int64)).toInt
def own_ov (z c : Int64) : Prop := (z + c + (-9223372036854775808 : Int64)).toInt < (z + (-9223372036854775808 : Int64)).toInt
theorem own_ov_K {z c : Int64} (hc : c ≠ 0) : own_ov z c ↔ own_K c z := by
  have f1 := own_flip (c ^^^ (-1 : Int64))
  have f2 := own_flip z
  have n1 := own_not64 c
  have a1 := c_ladd z c
  have a2 := c_ladd (z + c) (-9223372036854775808 : Int64)
  have a3 := c_ladd z (-9223372036854775808 : Int64)
  have e0 : (-9223372036854775808 : Int64).toInt = -9223372036854775808 := by decide
  have r1 := rng64 c
  have r2 := rng64 z
  have r3 := rng64 (z + c)
  have r4 := rng64 (z + c + (-9223372036854775808 : Int64))
  have r5 := rng64 (z + (-9223372036854775808 : Int64))
  have z0 : (0 : Int64).toInt = 0 := by decide
  have hc' : c.toInt ≠ 0 := fun e => hc (own_int64 (by omega))
  unfold own_ov own_K
  omega
theorem own_K0 {z c : Int64} (hc : c = 0) : ¬ own_K c z := by
  subst hc
  have f1 := own_flip z
  have e : (((0 : Int64) ^^^ (-1 : Int64)) ^^^ (-9223372036854775808 : Int64)).toInt = 9223372036854775807 := by decide
  have r2 := rng64 (z ^^^ (-9223372036854775808 : Int64))
  unfold own_K
  omega
theorem own_ov1 {z : Int64} : own_ov z 1 ↔ z = -1 := by
  have a1 := c_ladd z 1
  have a2 := c_ladd (z + 1) (-9223372036854775808 : Int64)
  have a3 := c_ladd z (-9223372036854775808 : Int64)
  have e0 : (-9223372036854775808 : Int64).toInt = -9223372036854775808 := by decide
  have z1 : (1 : Int64).toInt = 1 := by decide
  have z2 : (-1 : Int64).toInt = -1 := by decide
  have r2 := rng64 z
  have r3 := rng64 (z + 1)
  have r4 := rng64 (z + 1 + (-9223372036854775808 : Int64))
  have r5 := rng64 (z + (-9223372036854775808 : Int64))
  have ez : z = -1 ↔ z.toInt = -1 := by rw [← z2]; exact Int64.toInt_inj.symm
  rw [ez]
  unfold own_ov
  omega
def own_res (n : Nat) (c x0 x1 x2 r y0 y1 y2 : Int64) : Prop :=
  (n = 0 → r = c ∧ y0 = x0) ∧ (n ≠ 0 → y0 = x0 + c) ∧ (n ≤ 1 → y1 = x1) ∧ (2 ≤ n → own_K c x0 → y1 = x1 + 1) ∧ (2 ≤ n → ¬ own_K c x0 → y1 = x1) ∧ (n ≤ 2 → y2 = x2) ∧ (n = 3 → own_K c x0 ∧ x1 = -1 → y2 = x2 + 1) ∧ (n = 3 → ¬ (own_K c x0 ∧ x1 = -1) → y2 = x2) ∧
  (n = 1 → (own_K c x0 → r = 1) ∧ (¬ own_K c x0 → r = 0)) ∧ (n = 2 → (own_K c x0 ∧ x1 = -1 → r = 1) ∧ (¬ (own_K c x0 ∧ x1 = -1) → r = 0)) ∧ (n = 3 → (own_K c x0 ∧ x1 = -1 ∧ x2 = -1 → r = 1) ∧ (¬ (own_K c x0 ∧ x1 = -1 ∧ x2 = -1) → r = 0))
theorem own_r0 (c x0 x1 x2 : Int64) : own_res 0 c x0 x1 x2 c x0 x1 x2 := by
  unfold own_res; simp
theorem own_rc {n : Nat} {c x0 x1 x2 : Int64} (hn : n ≠ 0) (hc : c = 0) : own_res n c x0 x1 x2 c x0 x1 x2 := by
  have k := own_K0 (z := x0) hc
  subst hc
  unfold own_res; simp [hn, k]
theorem own_r1n {n : Nat} {c x0 x1 x2 : Int64} (hn : n ≠ 0) (k : ¬ own_K c x0) : own_res n c x0 x1 x2 0 (x0 + c) x1 x2 := by
  unfold own_res; simp [hn, k]
theorem own_r1y {c x0 x1 x2 : Int64} (k : own_K c x0) : own_res 1 c x0 x1 x2 1 (x0 + c) x1 x2 := by
  unfold own_res; simp [k]
theorem own_r2n {n : Nat} {c x0 x1 x2 : Int64} (hn : 2 ≤ n) (k : own_K c x0) (h1 : x1 ≠ -1) : own_res n c x0 x1 x2 0 (x0 + c) (x1 + 1) x2 := by
  have a : n ≠ 0 := by omega
  have b : ¬ n ≤ 1 := by omega
  have d : n ≠ 1 := by omega
  unfold own_res; simp [hn, k, h1, a, b, d]
theorem own_r2y {c x0 x1 x2 : Int64} (k : own_K c x0) (h1 : x1 = -1) : own_res 2 c x0 x1 x2 1 (x0 + c) (x1 + 1) x2 := by
  unfold own_res; simp [k, h1]
theorem own_r3n {c x0 x1 x2 : Int64} (k : own_K c x0) (h1 : x1 = -1) (h2 : x2 ≠ -1) : own_res 3 c x0 x1 x2 0 (x0 + c) (x1 + 1) (x2 + 1) := by
  unfold own_res; simp [k, h1, h2]
theorem own_r3y {c x0 x1 x2 : Int64} (k : own_K c x0) (h1 : x1 = -1) (h2 : x2 = -1) : own_res 3 c x0 x1 x2 1 (x0 + c) (x1 + 1) (x2 + 1) := by
  unfold own_res; simp [k, h1, h2]
theorem own_ef3 (m : MethodId) (x0 : Int64) (x1 : Int64) : entryFrame m #[(.long x0), (.long x1)] 4 = mkF m 0 #[.val (.long x0), .second, .val (.long x1), .second] [] := by first | (simp [entryFrame, mkF, argsToLocals, Value.category]; done) | rfl
theorem own_pn3 : plainFor (⟨"java/lang/Long", "compare", "(JJ)I"⟩ : MethodName) = true := plainFor_of_name (by first | (simp [plainName, overriddenIn]; done) | decide +kernel)
set_option maxRecDepth 65536 in
set_option maxHeartbeats 40000000 in
theorem cc {Z : State} {a0 : Array Value} (hw : ∀ d ∈ tables_1, d.before a0 Z = true) (u v : Int64) (h : Heap) (n0 : Nat) :
    oCon Z (⟨"java/lang/Long", "compare", "(JJ)I"⟩ : MethodName) jdk_35_method_42_code 4 (some .int) ({ frames := 0, cells := 0, slots := 0, locals := 0 } : Room) #[(.long u), (.long v)] h n0 (fun r h' => (∃ z : Int32, r = some (.int z) ∧ (z.toInt < 0 ↔ u.toInt < v.toInt)) ∧ h' = h) := by
  refine oCon.of own_pn3 (fun mid => own_ef3 mid u v) ?_
  show oGo Z _ _ _ _ _ _ n0 _ 0 0 h 0 #[.val (.long u), .second, .val (.long v), .second] []
  refine oGo.lloadN (q := 1) d3_0 rfl rfl ?_
  refine oGo.lloadN (q := 2) d3_1 rfl rfl ?_
  refine oGo.lif_ge (pc2 := 3) (q := 10) (r := 6) d3_2 rfl d3_3 (by decide) rfl (fun hc => ?_) (fun hc => ?_)
  · skip
    refine oGo.lloadN (q := 11) d3_10 rfl rfl ?_
    refine oGo.lloadN (q := 12) d3_11 rfl rfl ?_
    refine oGo.lif_ne (pc2 := 13) (q := 20) (r := 16) d3_12 rfl d3_13 (by decide) rfl (fun hc2 => ?_) (fun hc2 => ?_)
    · skip
      refine oGo.iconst (q := 21) (v := (1 : Int32)) d3_20 rfl rfl ?_
      exact oGo.retI d3_21 rfl (by decide) (by decide) (⟨⟨_, rfl, ⟨fun e => absurd e (by decide), fun e => by omega⟩⟩, rfl⟩)
    · skip
      refine oGo.iconst (q := 17) (v := (0 : Int32)) d3_16 rfl rfl ?_
      refine oGo.goto (q := 21) d3_17 (by decide) ?_
      exact oGo.retI d3_21 rfl (by decide) (by decide) (⟨⟨_, rfl, ⟨fun e => absurd e (by decide), fun e => by omega⟩⟩, rfl⟩)
  · skip
    refine oGo.iconst (q := 7) (v := (-1 : Int32)) d3_6 rfl (by decide) ?_
    refine oGo.goto (q := 21) d3_7 (by decide) ?_
    exact oGo.retI d3_21 rfl (by decide) (by decide) (⟨⟨_, rfl, ⟨fun _ => hc, fun _ => by decide⟩⟩, rfl⟩)
theorem own_ef2 (m : MethodId) (x0 : Int64) (x1 : Int64) : entryFrame m #[(.long x0), (.long x1)] 4 = mkF m 0 #[.val (.long x0), .second, .val (.long x1), .second] [] := by first | (simp [entryFrame, mkF, argsToLocals, Value.category]; done) | rfl
theorem own_pn2 : plainFor (⟨"java/lang/Long", "compareUnsigned", "(JJ)I"⟩ : MethodName) = true := plainFor_of_name (by first | (simp [plainName, overriddenIn]; done) | decide +kernel)
set_option maxRecDepth 65536 in
set_option maxHeartbeats 40000000 in
theorem cu {Z : State} {a0 : Array Value} (hw : ∀ d ∈ tables_1, d.before a0 Z = true) (u v : Int64) (h : Heap) (n0 : Nat) :
    oCon Z (⟨"java/lang/Long", "compareUnsigned", "(JJ)I"⟩ : MethodName) jdk_35_method_43_code 4 (some .int) ({ frames := 1, cells := 0, slots := 0, locals := 15 } : Room) #[(.long u), (.long v)] h n0 (fun r h' => (∃ z : Int32, r = some (.int z) ∧ (z.toInt < 0 ↔ (u + (-9223372036854775808 : Int64)).toInt < (v + (-9223372036854775808 : Int64)).toInt)) ∧ h' = h) := by
  refine oCon.of own_pn2 (fun mid => own_ef2 mid u v) ?_
  show oGo Z _ _ _ _ _ _ n0 _ 0 0 h 0 #[.val (.long u), .second, .val (.long v), .second] []
  refine oGo.lloadN (q := 1) d2_0 rfl rfl ?_
  refine oGo.ldc2 (q := 4) (v := (-9223372036854775808 : Int64)) d2_1 rfl (hw _ (List.mem_of_getElem? (i := 9) rfl)) ?_
  refine oGo.ladd (q := 5) d2_4 rfl ?_
  refine oGo.lloadN (q := 6) d2_5 rfl rfl ?_
  refine oGo.ldc2 (q := 9) (v := (-9223372036854775808 : Int64)) d2_6 rfl (hw _ (List.mem_of_getElem? (i := 9) rfl)) ?_
  refine oGo.ladd (q := 10) d2_9 rfl ?_
  refine oGo.callS (W := 0) (rm := ({ frames := 0, cells := 0, slots := 0, locals := 0 } : Room)) (q := 13) [(.long (u + (-9223372036854775808 : Int64))), (.long (v + (-9223372036854775808 : Int64)))] [] d2_10 rfl (hw _ (List.mem_of_getElem? (i := 10) rfl)) (hw _ (List.mem_of_getElem? (i := 11) rfl)) (hw _ (List.mem_of_getElem? (i := 7) rfl)) (hw _ (List.mem_of_getElem? (i := 12) rfl)) (by decide) (cc hw (u + (-9223372036854775808 : Int64)) (v + (-9223372036854775808 : Int64)) h n0) rfl rfl own_pd1 rfl rfl (Nat.le_of_eq rfl) (by decide) (by decide) (by decide) (by decide) ?_
  rintro _ h1 ⟨⟨z, rfl, hz⟩, eh⟩
  all_goals subst h1
  show oGo Z _ _ _ _ _ _ n0 _ 0 0 h 13 #[.val (.long u), .second, .val (.long v), .second] [(.int z)]
  exact oGo.retI d2_13 rfl (by decide) (by decide) (⟨⟨_, rfl, hz⟩, rfl⟩)
theorem own_ef4 (m : MethodId) (x0 : Int64) (x1 : Int64) : entryFrame m #[(.long x0), (.long x1)] 4 = mkF m 0 #[.val (.long x0), .second, .val (.long x1), .second] [] := by first | (simp [entryFrame, mkF, argsToLocals, Value.category]; done) | rfl
theorem own_pn4 : plainFor (⟨"example/rootwise/internal/NaturalsAddWordPinLaw", "ult", "(JJ)Z"⟩ : MethodName) = true := plainFor_of_name (by first | (simp [plainName, overriddenIn]; done) | decide +kernel)
set_option maxRecDepth 65536 in
set_option maxHeartbeats 40000000 in
theorem ct {Z : State} {a0 : Array Value} (hw : ∀ d ∈ tables_1, d.before a0 Z = true) (u v : Int64) (h : Heap) (n0 : Nat) :
    oCon Z (⟨"example/rootwise/internal/NaturalsAddWordPinLaw", "ult", "(JJ)Z"⟩ : MethodName) method_2_code 4 (some .boolean) ({ frames := 0, cells := 0, slots := 0, locals := 0 } : Room) #[(.long u), (.long v)] h n0 (fun r h' => (∃ b, r = some (.int b) ∧ own_b b ((u ^^^ (-9223372036854775808 : Int64)).toInt < (v ^^^ (-9223372036854775808 : Int64)).toInt)) ∧ h' = h) := by
  refine oCon.of own_pn4 (fun mid => own_ef4 mid u v) ?_
  show oGo Z _ _ _ _ _ _ n0 _ 0 0 h 0 #[.val (.long u), .second, .val (.long v), .second] []
  refine oGo.lloadN (q := 1) d4_0 rfl rfl ?_
  refine oGo.ldc2 (q := 4) (v := (-9223372036854775808 : Int64)) d4_1 rfl (hw _ (List.mem_of_getElem? (i := 18) rfl)) ?_
  refine oGo.lxor (q := 5) d4_4 rfl ?_
  refine oGo.lloadN (q := 6) d4_5 rfl rfl ?_
  refine oGo.ldc2 (q := 9) (v := (-9223372036854775808 : Int64)) d4_6 rfl (hw _ (List.mem_of_getElem? (i := 18) rfl)) ?_
  refine oGo.lxor (q := 10) d4_9 rfl ?_
  refine oGo.lif_ge (pc2 := 11) (q := 18) (r := 14) d4_10 rfl d4_11 (by decide) rfl (fun hc => ?_) (fun hc => ?_)
  · skip
    refine oGo.iconst (q := 19) (v := (0 : Int32)) d4_18 rfl rfl ?_
    exact oGo.retN (t := .boolean) d4_19 rfl (by simp) (by decide) (by decide) (⟨⟨_, rfl, own_b.f (Int.not_lt.mpr hc)⟩, rfl⟩)
  · skip
    refine oGo.iconst (q := 15) (v := (1 : Int32)) d4_14 rfl rfl ?_
    refine oGo.goto (q := 19) d4_15 (by decide) ?_
    exact oGo.retN (t := .boolean) d4_19 rfl (by simp) (by decide) (by decide) (⟨⟨_, rfl, own_b.t hc⟩, rfl⟩)
theorem own_ef1 (m : MethodId) (x0 : Addr) (x1 : Int32) (x2 : Int32) (x3 : Int64) : entryFrame m #[(.ref x0), (.int x1), (.int x2), (.long x3)] 10 = mkF m 0 #[.val (.ref x0), .val (.int x1), .val (.int x2), .val (.long x3), .second, .unset, .unset, .unset, .unset, .unset] [] := by first | (simp [entryFrame, mkF, argsToLocals, Value.category]; done) | rfl
theorem own_pn1 : plainFor (⟨"example/rootwise/internal/Naturals", "addWord", "([JIIJ)J"⟩ : MethodName) = true := plainFor_of_name (by first | (simp [plainName, overriddenIn]; done) | decide +kernel)
set_option maxRecDepth 65536 in
set_option maxHeartbeats 40000000 in
theorem ca {Z : State} {a0 : Array Value} (hw : ∀ d ∈ tables_1, d.before a0 Z = true) (a : Addr) (n : Nat) (c x0 x1 x2 g : Int64) (h : Heap) (n0 : Nat) (hn : n ≤ 3) (ga : n0 ≤ a) (A : Ars Z h a .long [.long g, .long x0, .long x1, .long x2, .long g]) :
    oCon Z (⟨"example/rootwise/internal/Naturals", "addWord", "([JIIJ)J"⟩ : MethodName) prog_34_method_21_code 10 (some .long) ({ frames := 2, cells := 0, slots := 0, locals := 40 } : Room) #[(.ref a), (.int (1 : Int32)), (.int (Int32.ofNat n)), (.long c)] h n0 (fun v h' => ∃ r y0 y1 y2, v = some (.long r) ∧ Keep h h' [a] ∧ Ars Z h' a .long [.long g, .long y0, .long y1, .long y2, .long g] ∧ own_res n c x0 x1 x2 r y0 y1 y2) := by
  refine oCon.of own_pn1 (fun mid => own_ef1 mid a (1 : Int32) (Int32.ofNat n) c) ?_
  show oGo Z _ _ _ _ _ _ n0 _ 0 0 h 0 #[.val (.ref a), .val (.int (1 : Int32)), .val (.int (Int32.ofNat n)), .val (.long c), .second, .unset, .unset, .unset, .unset, .unset] []
  refine oGo.iconst (q := 1) (v := (0 : Int32)) d1_0 rfl rfl ?_
  refine oGo.istore (q := 3) (L' := #[.val (.ref a), .val (.int (1 : Int32)), .val (.int (Int32.ofNat n)), .val (.long c), .second, .val (.int (0 : Int32)), .unset, .unset, .unset, .unset]) d1_1 rfl rfl ?_
  obtain rfl | rfl | rfl | rfl : n = 0 ∨ n = 1 ∨ n = 2 ∨ n = 3 := by omega
  · skip -- n = 0
    refine oGo.iload (q := 5) d1_3 rfl rfl ?_
    refine oGo.iloadN (q := 6) d1_5 rfl rfl ?_
    refine oGo.icmp_ge (q := 59) (r := 9) d1_6 (by decide) rfl (fun hc => ?_) (fun hc => absurd hc (by decide))
    refine oGo.lloadN (q := 60) d1_59 rfl rfl ?_
    exact oGo.retJ d1_60 rfl (by decide) (by decide) (⟨c, x0, x1, x2, rfl, (Keep.refl h [a]), A, (own_r0 c x0 x1 x2)⟩)
  · skip -- n = 1
    refine oGo.iload (q := 5) d1_3 rfl rfl ?_
    refine oGo.iloadN (q := 6) d1_5 rfl rfl ?_
    refine oGo.icmp_ge (q := 59) (r := 9) d1_6 (by decide) rfl (fun hc => absurd hc (by decide)) (fun hc => ?_)
    refine oGo.lloadN (q := 10) d1_9 rfl rfl ?_
    refine oGo.lconst (q := 11) (v := (0 : Int64)) d1_10 rfl rfl ?_
    refine oGo.lif_eq (pc2 := 12) (q := 59) (r := 15) d1_11 rfl d1_12 (by decide) rfl (fun c0 => ?_) (fun c0 => ?_)
    · skip
      refine oGo.lloadN (q := 60) d1_59 rfl rfl ?_
      exact oGo.retJ d1_60 rfl (by decide) (by decide) (⟨c, x0, x1, x2, rfl, (Keep.refl h [a]), A, (own_rc (by decide) c0)⟩)
    · skip
      refine oGo.aloadN (q := 16) d1_15 rfl rfl rfl ?_
      refine oGo.iloadN (q := 17) d1_16 rfl rfl ?_
      refine oGo.iload (q := 19) d1_17 rfl rfl ?_
      refine oGo.iadd (q := 20) d1_19 rfl ?_
      refine oGo.laload (q := 21) (i := 1) (v := (.long x0)) d1_20 rfl A (by decide) rfl ?_
      refine oGo.lstore (q := 23) (L' := #[.val (.ref a), .val (.int (1 : Int32)), .val (.int (Int32.ofNat 1)), .val (.long c), .second, .val (.int (0 : Int32)), .val (.long x0), .second, .unset, .unset]) d1_21 rfl rfl ?_
      refine oGo.lload (q := 25) d1_23 rfl rfl ?_
      refine oGo.lloadN (q := 26) d1_25 rfl rfl ?_
      refine oGo.ladd (q := 27) d1_26 rfl ?_
      refine oGo.lstore (q := 29) (L' := #[.val (.ref a), .val (.int (1 : Int32)), .val (.int (Int32.ofNat 1)), .val (.long c), .second, .val (.int (0 : Int32)), .val (.long x0), .second, .val (.long (x0 + c)), .second]) d1_27 rfl rfl ?_
      refine oGo.aloadN (q := 30) d1_29 rfl rfl rfl ?_
      refine oGo.iloadN (q := 31) d1_30 rfl rfl ?_
      refine oGo.iload (q := 33) d1_31 rfl rfl ?_
      refine oGo.iadd (q := 34) d1_33 rfl ?_
      refine oGo.lload (q := 36) d1_34 rfl rfl ?_
      refine oGo.lastore (q := 37) (i := 1) d1_36 rfl A (by decide) (Nat.le_of_ble_eq_true rfl) ga ?_
      intro h2 K2 A2
      replace A2 : Ars Z h2 a .long [(.long g), (.long (x0 + c)), (.long x1), (.long x2), (.long g)] := A2
      show oGo Z _ _ _ _ _ _ n0 _ 0 0 h2 37 #[.val (.ref a), .val (.int (1 : Int32)), .val (.int (Int32.ofNat 1)), .val (.long c), .second, .val (.int (0 : Int32)), .val (.long x0), .second, .val (.long (x0 + c)), .second] []
      refine oGo.lload (q := 39) d1_37 rfl rfl ?_
      refine oGo.lload (q := 41) d1_39 rfl rfl ?_
      refine oGo.callS (W := 0) (rm := ({ frames := 1, cells := 0, slots := 0, locals := 15 } : Room)) (q := 44) [(.long (x0 + c)), (.long x0)] [] d1_41 rfl (hw _ (List.mem_of_getElem? (i := 5) rfl)) (hw _ (List.mem_of_getElem? (i := 6) rfl)) (hw _ (List.mem_of_getElem? (i := 7) rfl)) (hw _ (List.mem_of_getElem? (i := 8) rfl)) (by decide) (cu hw (x0 + c) x0 h2 n0) rfl rfl own_pd1 rfl rfl (Nat.le_of_eq rfl) (by decide) (by decide) (by decide) (by decide) ?_
      rintro _ h3 ⟨⟨z0, rfl, hz0⟩, eh⟩
      all_goals subst h3
      show oGo Z _ _ _ _ _ _ n0 _ 0 0 h2 44 #[.val (.ref a), .val (.int (1 : Int32)), .val (.int (Int32.ofNat 1)), .val (.long c), .second, .val (.int (0 : Int32)), .val (.long x0), .second, .val (.long (x0 + c)), .second] [(.int z0)]
      refine oGo.if_ge (q := 51) (r := 47) d1_44 (by decide) rfl (fun hz => ?_) (fun hz => ?_)
      · skip
        have k0 : ¬ own_K c x0 := fun e => absurd (hz0.mpr ((own_ov_K c0).mpr e)) (Int.not_lt.mpr hz)
        refine oGo.lconst (q := 52) (v := (0 : Int64)) d1_51 rfl rfl ?_
        refine oGo.lstoreN (q := 53) (L' := #[.val (.ref a), .val (.int (1 : Int32)), .val (.int (Int32.ofNat 1)), .val (.long (0 : Int64)), .second, .val (.int (0 : Int32)), .val (.long x0), .second, .val (.long (x0 + c)), .second]) d1_52 rfl rfl ?_
        refine oGo.iinc (q := 56) (v := (1 : Int32)) (L' := #[.val (.ref a), .val (.int (1 : Int32)), .val (.int (Int32.ofNat 1)), .val (.long (0 : Int64)), .second, .val (.int (1 : Int32)), .val (.long x0), .second, .val (.long (x0 + c)), .second]) d1_53 rfl rfl (by decide) rfl ?_
        refine oGo.goto (q := 3) d1_56 (by decide) ?_
        refine oGo.iload (q := 5) d1_3 rfl rfl ?_
        refine oGo.iloadN (q := 6) d1_5 rfl rfl ?_
        refine oGo.icmp_ge (q := 59) (r := 9) d1_6 (by decide) rfl (fun hc => ?_) (fun hc => absurd hc (by decide))
        refine oGo.lloadN (q := 60) d1_59 rfl rfl ?_
        exact oGo.retJ d1_60 rfl (by decide) (by decide) (⟨(0 : Int64), (x0 + c), x1, x2, rfl, (Keep.trans (Keep.refl h [a]) K2 (fun x hx => Or.inl hx)), A2, (own_r1n (by decide) k0)⟩)
      · skip
        have k0 : own_K c x0 := (own_ov_K c0).mp (hz0.mp hz)
        refine oGo.lconst (q := 48) (v := (1 : Int64)) d1_47 rfl rfl ?_
        refine oGo.goto (q := 52) d1_48 (by decide) ?_
        refine oGo.lstoreN (q := 53) (L' := #[.val (.ref a), .val (.int (1 : Int32)), .val (.int (Int32.ofNat 1)), .val (.long (1 : Int64)), .second, .val (.int (0 : Int32)), .val (.long x0), .second, .val (.long (x0 + c)), .second]) d1_52 rfl rfl ?_
        refine oGo.iinc (q := 56) (v := (1 : Int32)) (L' := #[.val (.ref a), .val (.int (1 : Int32)), .val (.int (Int32.ofNat 1)), .val (.long (1 : Int64)), .second, .val (.int (1 : Int32)), .val (.long x0), .second, .val (.long (x0 + c)), .second]) d1_53 rfl rfl (by decide) rfl ?_
        refine oGo.goto (q := 3) d1_56 (by decide) ?_
        refine oGo.iload (q := 5) d1_3 rfl rfl ?_
        refine oGo.iloadN (q := 6) d1_5 rfl rfl ?_
        refine oGo.icmp_ge (q := 59) (r := 9) d1_6 (by decide) rfl (fun hc => ?_) (fun hc => absurd hc (by decide))
        refine oGo.lloadN (q := 60) d1_59 rfl rfl ?_
        exact oGo.retJ d1_60 rfl (by decide) (by decide) (⟨(1 : Int64), (x0 + c), x1, x2, rfl, (Keep.trans (Keep.refl h [a]) K2 (fun x hx => Or.inl hx)), A2, (own_r1y k0)⟩)
  · skip -- n = 2
    refine oGo.iload (q := 5) d1_3 rfl rfl ?_
    refine oGo.iloadN (q := 6) d1_5 rfl rfl ?_
    refine oGo.icmp_ge (q := 59) (r := 9) d1_6 (by decide) rfl (fun hc => absurd hc (by decide)) (fun hc => ?_)
    refine oGo.lloadN (q := 10) d1_9 rfl rfl ?_
    refine oGo.lconst (q := 11) (v := (0 : Int64)) d1_10 rfl rfl ?_
    refine oGo.lif_eq (pc2 := 12) (q := 59) (r := 15) d1_11 rfl d1_12 (by decide) rfl (fun c0 => ?_) (fun c0 => ?_)
    · skip
      refine oGo.lloadN (q := 60) d1_59 rfl rfl ?_
      exact oGo.retJ d1_60 rfl (by decide) (by decide) (⟨c, x0, x1, x2, rfl, (Keep.refl h [a]), A, (own_rc (by decide) c0)⟩)
    · skip
      refine oGo.aloadN (q := 16) d1_15 rfl rfl rfl ?_
      refine oGo.iloadN (q := 17) d1_16 rfl rfl ?_
      refine oGo.iload (q := 19) d1_17 rfl rfl ?_
      refine oGo.iadd (q := 20) d1_19 rfl ?_
      refine oGo.laload (q := 21) (i := 1) (v := (.long x0)) d1_20 rfl A (by decide) rfl ?_
      refine oGo.lstore (q := 23) (L' := #[.val (.ref a), .val (.int (1 : Int32)), .val (.int (Int32.ofNat 2)), .val (.long c), .second, .val (.int (0 : Int32)), .val (.long x0), .second, .unset, .unset]) d1_21 rfl rfl ?_
      refine oGo.lload (q := 25) d1_23 rfl rfl ?_
      refine oGo.lloadN (q := 26) d1_25 rfl rfl ?_
      refine oGo.ladd (q := 27) d1_26 rfl ?_
      refine oGo.lstore (q := 29) (L' := #[.val (.ref a), .val (.int (1 : Int32)), .val (.int (Int32.ofNat 2)), .val (.long c), .second, .val (.int (0 : Int32)), .val (.long x0), .second, .val (.long (x0 + c)), .second]) d1_27 rfl rfl ?_
      refine oGo.aloadN (q := 30) d1_29 rfl rfl rfl ?_
      refine oGo.iloadN (q := 31) d1_30 rfl rfl ?_
      refine oGo.iload (q := 33) d1_31 rfl rfl ?_
      refine oGo.iadd (q := 34) d1_33 rfl ?_
      refine oGo.lload (q := 36) d1_34 rfl rfl ?_
      refine oGo.lastore (q := 37) (i := 1) d1_36 rfl A (by decide) (Nat.le_of_ble_eq_true rfl) ga ?_
      intro h4 K4 A4
      replace A4 : Ars Z h4 a .long [(.long g), (.long (x0 + c)), (.long x1), (.long x2), (.long g)] := A4
      show oGo Z _ _ _ _ _ _ n0 _ 0 0 h4 37 #[.val (.ref a), .val (.int (1 : Int32)), .val (.int (Int32.ofNat 2)), .val (.long c), .second, .val (.int (0 : Int32)), .val (.long x0), .second, .val (.long (x0 + c)), .second] []
      refine oGo.lload (q := 39) d1_37 rfl rfl ?_
      refine oGo.lload (q := 41) d1_39 rfl rfl ?_
      refine oGo.callS (W := 0) (rm := ({ frames := 1, cells := 0, slots := 0, locals := 15 } : Room)) (q := 44) [(.long (x0 + c)), (.long x0)] [] d1_41 rfl (hw _ (List.mem_of_getElem? (i := 5) rfl)) (hw _ (List.mem_of_getElem? (i := 6) rfl)) (hw _ (List.mem_of_getElem? (i := 7) rfl)) (hw _ (List.mem_of_getElem? (i := 8) rfl)) (by decide) (cu hw (x0 + c) x0 h4 n0) rfl rfl own_pd1 rfl rfl (Nat.le_of_eq rfl) (by decide) (by decide) (by decide) (by decide) ?_
      rintro _ h5 ⟨⟨z0, rfl, hz0⟩, eh⟩
      all_goals subst h5
      show oGo Z _ _ _ _ _ _ n0 _ 0 0 h4 44 #[.val (.ref a), .val (.int (1 : Int32)), .val (.int (Int32.ofNat 2)), .val (.long c), .second, .val (.int (0 : Int32)), .val (.long x0), .second, .val (.long (x0 + c)), .second] [(.int z0)]
      refine oGo.if_ge (q := 51) (r := 47) d1_44 (by decide) rfl (fun hz => ?_) (fun hz => ?_)
      · skip
        have k0 : ¬ own_K c x0 := fun e => absurd (hz0.mpr ((own_ov_K c0).mpr e)) (Int.not_lt.mpr hz)
        refine oGo.lconst (q := 52) (v := (0 : Int64)) d1_51 rfl rfl ?_
        refine oGo.lstoreN (q := 53) (L' := #[.val (.ref a), .val (.int (1 : Int32)), .val (.int (Int32.ofNat 2)), .val (.long (0 : Int64)), .second, .val (.int (0 : Int32)), .val (.long x0), .second, .val (.long (x0 + c)), .second]) d1_52 rfl rfl ?_
        refine oGo.iinc (q := 56) (v := (1 : Int32)) (L' := #[.val (.ref a), .val (.int (1 : Int32)), .val (.int (Int32.ofNat 2)), .val (.long (0 : Int64)), .second, .val (.int (1 : Int32)), .val (.long x0), .second, .val (.long (x0 + c)), .second]) d1_53 rfl rfl (by decide) rfl ?_
        refine oGo.goto (q := 3) d1_56 (by decide) ?_
        refine oGo.iload (q := 5) d1_3 rfl rfl ?_
        refine oGo.iloadN (q := 6) d1_5 rfl rfl ?_
        refine oGo.icmp_ge (q := 59) (r := 9) d1_6 (by decide) rfl (fun hc => absurd hc (by decide)) (fun hc => ?_)
        refine oGo.lloadN (q := 10) d1_9 rfl rfl ?_
        refine oGo.lconst (q := 11) (v := (0 : Int64)) d1_10 rfl rfl ?_
        refine oGo.lif_eq (pc2 := 12) (q := 59) (r := 15) d1_11 rfl d1_12 (by decide) rfl (fun hc => ?_) (fun hc => absurd rfl hc)
        refine oGo.lloadN (q := 60) d1_59 rfl rfl ?_
        exact oGo.retJ d1_60 rfl (by decide) (by decide) (⟨(0 : Int64), (x0 + c), x1, x2, rfl, (Keep.trans (Keep.refl h [a]) K4 (fun x hx => Or.inl hx)), A4, (own_r1n (by decide) k0)⟩)
      · skip
        have k0 : own_K c x0 := (own_ov_K c0).mp (hz0.mp hz)
        refine oGo.lconst (q := 48) (v := (1 : Int64)) d1_47 rfl rfl ?_
        refine oGo.goto (q := 52) d1_48 (by decide) ?_
        refine oGo.lstoreN (q := 53) (L' := #[.val (.ref a), .val (.int (1 : Int32)), .val (.int (Int32.ofNat 2)), .val (.long (1 : Int64)), .second, .val (.int (0 : Int32)), .val (.long x0), .second, .val (.long (x0 + c)), .second]) d1_52 rfl rfl ?_
        refine oGo.iinc (q := 56) (v := (1 : Int32)) (L' := #[.val (.ref a), .val (.int (1 : Int32)), .val (.int (Int32.ofNat 2)), .val (.long (1 : Int64)), .second, .val (.int (1 : Int32)), .val (.long x0), .second, .val (.long (x0 + c)), .second]) d1_53 rfl rfl (by decide) rfl ?_
        refine oGo.goto (q := 3) d1_56 (by decide) ?_
        refine oGo.iload (q := 5) d1_3 rfl rfl ?_
        refine oGo.iloadN (q := 6) d1_5 rfl rfl ?_
        refine oGo.icmp_ge (q := 59) (r := 9) d1_6 (by decide) rfl (fun hc => absurd hc (by decide)) (fun hc => ?_)
        refine oGo.lloadN (q := 10) d1_9 rfl rfl ?_
        refine oGo.lconst (q := 11) (v := (0 : Int64)) d1_10 rfl rfl ?_
        refine oGo.lif_eq (pc2 := 12) (q := 59) (r := 15) d1_11 rfl d1_12 (by decide) rfl (fun hc => absurd hc (by decide)) (fun hc => ?_)
        refine oGo.aloadN (q := 16) d1_15 rfl rfl rfl ?_
        refine oGo.iloadN (q := 17) d1_16 rfl rfl ?_
        refine oGo.iload (q := 19) d1_17 rfl rfl ?_
        refine oGo.iadd (q := 20) d1_19 rfl ?_
        refine oGo.laload (q := 21) (i := 2) (v := (.long x1)) d1_20 rfl A4 (by decide) rfl ?_
        refine oGo.lstore (q := 23) (L' := #[.val (.ref a), .val (.int (1 : Int32)), .val (.int (Int32.ofNat 2)), .val (.long (1 : Int64)), .second, .val (.int (1 : Int32)), .val (.long x1), .second, .val (.long (x0 + c)), .second]) d1_21 rfl rfl ?_
        refine oGo.lload (q := 25) d1_23 rfl rfl ?_
        refine oGo.lloadN (q := 26) d1_25 rfl rfl ?_
        refine oGo.ladd (q := 27) d1_26 rfl ?_
        refine oGo.lstore (q := 29) (L' := #[.val (.ref a), .val (.int (1 : Int32)), .val (.int (Int32.ofNat 2)), .val (.long (1 : Int64)), .second, .val (.int (1 : Int32)), .val (.long x1), .second, .val (.long (x1 + (1 : Int64))), .second]) d1_27 rfl rfl ?_
        refine oGo.aloadN (q := 30) d1_29 rfl rfl rfl ?_
        refine oGo.iloadN (q := 31) d1_30 rfl rfl ?_
        refine oGo.iload (q := 33) d1_31 rfl rfl ?_
        refine oGo.iadd (q := 34) d1_33 rfl ?_
        refine oGo.lload (q := 36) d1_34 rfl rfl ?_
        refine oGo.lastore (q := 37) (i := 2) d1_36 rfl A4 (by decide) (Nat.le_of_ble_eq_true rfl) ga ?_
        intro h6 K6 A6
        replace A6 : Ars Z h6 a .long [(.long g), (.long (x0 + c)), (.long (x1 + (1 : Int64))), (.long x2), (.long g)] := A6
        show oGo Z _ _ _ _ _ _ n0 _ 0 0 h6 37 #[.val (.ref a), .val (.int (1 : Int32)), .val (.int (Int32.ofNat 2)), .val (.long (1 : Int64)), .second, .val (.int (1 : Int32)), .val (.long x1), .second, .val (.long (x1 + (1 : Int64))), .second] []
        refine oGo.lload (q := 39) d1_37 rfl rfl ?_
        refine oGo.lload (q := 41) d1_39 rfl rfl ?_
        refine oGo.callS (W := 0) (rm := ({ frames := 1, cells := 0, slots := 0, locals := 15 } : Room)) (q := 44) [(.long (x1 + (1 : Int64))), (.long x1)] [] d1_41 rfl (hw _ (List.mem_of_getElem? (i := 5) rfl)) (hw _ (List.mem_of_getElem? (i := 6) rfl)) (hw _ (List.mem_of_getElem? (i := 7) rfl)) (hw _ (List.mem_of_getElem? (i := 8) rfl)) (by decide) (cu hw (x1 + (1 : Int64)) x1 h6 n0) rfl rfl own_pd1 rfl rfl (Nat.le_of_eq rfl) (by decide) (by decide) (by decide) (by decide) ?_
        rintro _ h7 ⟨⟨z1, rfl, hz1⟩, eh⟩
        all_goals subst h7
        show oGo Z _ _ _ _ _ _ n0 _ 0 0 h6 44 #[.val (.ref a), .val (.int (1 : Int32)), .val (.int (Int32.ofNat 2)), .val (.long (1 : Int64)), .second, .val (.int (1 : Int32)), .val (.long x1), .second, .val (.long (x1 + (1 : Int64))), .second] [(.int z1)]
        refine oGo.if_ge (q := 51) (r := 47) d1_44 (by decide) rfl (fun hz => ?_) (fun hz => ?_)
        · skip
          have k1 : x1 ≠ -1 := fun e => absurd (hz1.mpr (own_ov1.mpr e)) (Int.not_lt.mpr hz)
          refine oGo.lconst (q := 52) (v := (0 : Int64)) d1_51 rfl rfl ?_
          refine oGo.lstoreN (q := 53) (L' := #[.val (.ref a), .val (.int (1 : Int32)), .val (.int (Int32.ofNat 2)), .val (.long (0 : Int64)), .second, .val (.int (1 : Int32)), .val (.long x1), .second, .val (.long (x1 + (1 : Int64))), .second]) d1_52 rfl rfl ?_
          refine oGo.iinc (q := 56) (v := (2 : Int32)) (L' := #[.val (.ref a), .val (.int (1 : Int32)), .val (.int (Int32.ofNat 2)), .val (.long (0 : Int64)), .second, .val (.int (2 : Int32)), .val (.long x1), .second, .val (.long (x1 + (1 : Int64))), .second]) d1_53 rfl rfl (by decide) rfl ?_
          refine oGo.goto (q := 3) d1_56 (by decide) ?_
          refine oGo.iload (q := 5) d1_3 rfl rfl ?_
          refine oGo.iloadN (q := 6) d1_5 rfl rfl ?_
          refine oGo.icmp_ge (q := 59) (r := 9) d1_6 (by decide) rfl (fun hc => ?_) (fun hc => absurd hc (by decide))
          refine oGo.lloadN (q := 60) d1_59 rfl rfl ?_
          exact oGo.retJ d1_60 rfl (by decide) (by decide) (⟨(0 : Int64), (x0 + c), (x1 + (1 : Int64)), x2, rfl, (Keep.trans (Keep.trans (Keep.refl h [a]) K4 (fun x hx => Or.inl hx)) K6 (fun x hx => Or.inl hx)), A6, (own_r2n (by decide) k0 k1)⟩)
        · skip
          have k1 : x1 = -1 := own_ov1.mp (hz1.mp hz)
          refine oGo.lconst (q := 48) (v := (1 : Int64)) d1_47 rfl rfl ?_
          refine oGo.goto (q := 52) d1_48 (by decide) ?_
          refine oGo.lstoreN (q := 53) (L' := #[.val (.ref a), .val (.int (1 : Int32)), .val (.int (Int32.ofNat 2)), .val (.long (1 : Int64)), .second, .val (.int (1 : Int32)), .val (.long x1), .second, .val (.long (x1 + (1 : Int64))), .second]) d1_52 rfl rfl ?_
          refine oGo.iinc (q := 56) (v := (2 : Int32)) (L' := #[.val (.ref a), .val (.int (1 : Int32)), .val (.int (Int32.ofNat 2)), .val (.long (1 : Int64)), .second, .val (.int (2 : Int32)), .val (.long x1), .second, .val (.long (x1 + (1 : Int64))), .second]) d1_53 rfl rfl (by decide) rfl ?_
          refine oGo.goto (q := 3) d1_56 (by decide) ?_
          refine oGo.iload (q := 5) d1_3 rfl rfl ?_
          refine oGo.iloadN (q := 6) d1_5 rfl rfl ?_
          refine oGo.icmp_ge (q := 59) (r := 9) d1_6 (by decide) rfl (fun hc => ?_) (fun hc => absurd hc (by decide))
          refine oGo.lloadN (q := 60) d1_59 rfl rfl ?_
          exact oGo.retJ d1_60 rfl (by decide) (by decide) (⟨(1 : Int64), (x0 + c), (x1 + (1 : Int64)), x2, rfl, (Keep.trans (Keep.trans (Keep.refl h [a]) K4 (fun x hx => Or.inl hx)) K6 (fun x hx => Or.inl hx)), A6, (own_r2y k0 k1)⟩)
  · skip -- n = 3
    refine oGo.iload (q := 5) d1_3 rfl rfl ?_
    refine oGo.iloadN (q := 6) d1_5 rfl rfl ?_
    refine oGo.icmp_ge (q := 59) (r := 9) d1_6 (by decide) rfl (fun hc => absurd hc (by decide)) (fun hc => ?_)
    refine oGo.lloadN (q := 10) d1_9 rfl rfl ?_
    refine oGo.lconst (q := 11) (v := (0 : Int64)) d1_10 rfl rfl ?_
    refine oGo.lif_eq (pc2 := 12) (q := 59) (r := 15) d1_11 rfl d1_12 (by decide) rfl (fun c0 => ?_) (fun c0 => ?_)
    · skip
      refine oGo.lloadN (q := 60) d1_59 rfl rfl ?_
      exact oGo.retJ d1_60 rfl (by decide) (by decide) (⟨c, x0, x1, x2, rfl, (Keep.refl h [a]), A, (own_rc (by decide) c0)⟩)
    · skip
      refine oGo.aloadN (q := 16) d1_15 rfl rfl rfl ?_
      refine oGo.iloadN (q := 17) d1_16 rfl rfl ?_
      refine oGo.iload (q := 19) d1_17 rfl rfl ?_
      refine oGo.iadd (q := 20) d1_19 rfl ?_
      refine oGo.laload (q := 21) (i := 1) (v := (.long x0)) d1_20 rfl A (by decide) rfl ?_
      refine oGo.lstore (q := 23) (L' := #[.val (.ref a), .val (.int (1 : Int32)), .val (.int (Int32.ofNat 3)), .val (.long c), .second, .val (.int (0 : Int32)), .val (.long x0), .second, .unset, .unset]) d1_21 rfl rfl ?_
      refine oGo.lload (q := 25) d1_23 rfl rfl ?_
      refine oGo.lloadN (q := 26) d1_25 rfl rfl ?_
      refine oGo.ladd (q := 27) d1_26 rfl ?_
      refine oGo.lstore (q := 29) (L' := #[.val (.ref a), .val (.int (1 : Int32)), .val (.int (Int32.ofNat 3)), .val (.long c), .second, .val (.int (0 : Int32)), .val (.long x0), .second, .val (.long (x0 + c)), .second]) d1_27 rfl rfl ?_
      refine oGo.aloadN (q := 30) d1_29 rfl rfl rfl ?_
      refine oGo.iloadN (q := 31) d1_30 rfl rfl ?_
      refine oGo.iload (q := 33) d1_31 rfl rfl ?_
      refine oGo.iadd (q := 34) d1_33 rfl ?_
      refine oGo.lload (q := 36) d1_34 rfl rfl ?_
      refine oGo.lastore (q := 37) (i := 1) d1_36 rfl A (by decide) (Nat.le_of_ble_eq_true rfl) ga ?_
      intro h8 K8 A8
      replace A8 : Ars Z h8 a .long [(.long g), (.long (x0 + c)), (.long x1), (.long x2), (.long g)] := A8
      show oGo Z _ _ _ _ _ _ n0 _ 0 0 h8 37 #[.val (.ref a), .val (.int (1 : Int32)), .val (.int (Int32.ofNat 3)), .val (.long c), .second, .val (.int (0 : Int32)), .val (.long x0), .second, .val (.long (x0 + c)), .second] []
      refine oGo.lload (q := 39) d1_37 rfl rfl ?_
      refine oGo.lload (q := 41) d1_39 rfl rfl ?_
      refine oGo.callS (W := 0) (rm := ({ frames := 1, cells := 0, slots := 0, locals := 15 } : Room)) (q := 44) [(.long (x0 + c)), (.long x0)] [] d1_41 rfl (hw _ (List.mem_of_getElem? (i := 5) rfl)) (hw _ (List.mem_of_getElem? (i := 6) rfl)) (hw _ (List.mem_of_getElem? (i := 7) rfl)) (hw _ (List.mem_of_getElem? (i := 8) rfl)) (by decide) (cu hw (x0 + c) x0 h8 n0) rfl rfl own_pd1 rfl rfl (Nat.le_of_eq rfl) (by decide) (by decide) (by decide) (by decide) ?_
      rintro _ h9 ⟨⟨z0, rfl, hz0⟩, eh⟩
      all_goals subst h9
      show oGo Z _ _ _ _ _ _ n0 _ 0 0 h8 44 #[.val (.ref a), .val (.int (1 : Int32)), .val (.int (Int32.ofNat 3)), .val (.long c), .second, .val (.int (0 : Int32)), .val (.long x0), .second, .val (.long (x0 + c)), .second] [(.int z0)]
      refine oGo.if_ge (q := 51) (r := 47) d1_44 (by decide) rfl (fun hz => ?_) (fun hz => ?_)
      · skip
        have k0 : ¬ own_K c x0 := fun e => absurd (hz0.mpr ((own_ov_K c0).mpr e)) (Int.not_lt.mpr hz)
        refine oGo.lconst (q := 52) (v := (0 : Int64)) d1_51 rfl rfl ?_
        refine oGo.lstoreN (q := 53) (L' := #[.val (.ref a), .val (.int (1 : Int32)), .val (.int (Int32.ofNat 3)), .val (.long (0 : Int64)), .second, .val (.int (0 : Int32)), .val (.long x0), .second, .val (.long (x0 + c)), .second]) d1_52 rfl rfl ?_
        refine oGo.iinc (q := 56) (v := (1 : Int32)) (L' := #[.val (.ref a), .val (.int (1 : Int32)), .val (.int (Int32.ofNat 3)), .val (.long (0 : Int64)), .second, .val (.int (1 : Int32)), .val (.long x0), .second, .val (.long (x0 + c)), .second]) d1_53 rfl rfl (by decide) rfl ?_
        refine oGo.goto (q := 3) d1_56 (by decide) ?_
        refine oGo.iload (q := 5) d1_3 rfl rfl ?_
        refine oGo.iloadN (q := 6) d1_5 rfl rfl ?_
        refine oGo.icmp_ge (q := 59) (r := 9) d1_6 (by decide) rfl (fun hc => absurd hc (by decide)) (fun hc => ?_)
        refine oGo.lloadN (q := 10) d1_9 rfl rfl ?_
        refine oGo.lconst (q := 11) (v := (0 : Int64)) d1_10 rfl rfl ?_
        refine oGo.lif_eq (pc2 := 12) (q := 59) (r := 15) d1_11 rfl d1_12 (by decide) rfl (fun hc => ?_) (fun hc => absurd rfl hc)
        refine oGo.lloadN (q := 60) d1_59 rfl rfl ?_
        exact oGo.retJ d1_60 rfl (by decide) (by decide) (⟨(0 : Int64), (x0 + c), x1, x2, rfl, (Keep.trans (Keep.refl h [a]) K8 (fun x hx => Or.inl hx)), A8, (own_r1n (by decide) k0)⟩)
      · skip
        have k0 : own_K c x0 := (own_ov_K c0).mp (hz0.mp hz)
        refine oGo.lconst (q := 48) (v := (1 : Int64)) d1_47 rfl rfl ?_
        refine oGo.goto (q := 52) d1_48 (by decide) ?_
        refine oGo.lstoreN (q := 53) (L' := #[.val (.ref a), .val (.int (1 : Int32)), .val (.int (Int32.ofNat 3)), .val (.long (1 : Int64)), .second, .val (.int (0 : Int32)), .val (.long x0), .second, .val (.long (x0 + c)), .second]) d1_52 rfl rfl ?_
        refine oGo.iinc (q := 56) (v := (1 : Int32)) (L' := #[.val (.ref a), .val (.int (1 : Int32)), .val (.int (Int32.ofNat 3)), .val (.long (1 : Int64)), .second, .val (.int (1 : Int32)), .val (.long x0), .second, .val (.long (x0 + c)), .second]) d1_53 rfl rfl (by decide) rfl ?_
        refine oGo.goto (q := 3) d1_56 (by decide) ?_
        refine oGo.iload (q := 5) d1_3 rfl rfl ?_
        refine oGo.iloadN (q := 6) d1_5 rfl rfl ?_
        refine oGo.icmp_ge (q := 59) (r := 9) d1_6 (by decide) rfl (fun hc => absurd hc (by decide)) (fun hc => ?_)
        refine oGo.lloadN (q := 10) d1_9 rfl rfl ?_
        refine oGo.lconst (q := 11) (v := (0 : Int64)) d1_10 rfl rfl ?_
        refine oGo.lif_eq (pc2 := 12) (q := 59) (r := 15) d1_11 rfl d1_12 (by decide) rfl (fun hc => absurd hc (by decide)) (fun hc => ?_)
        refine oGo.aloadN (q := 16) d1_15 rfl rfl rfl ?_
        refine oGo.iloadN (q := 17) d1_16 rfl rfl ?_
        refine oGo.iload (q := 19) d1_17 rfl rfl ?_
        refine oGo.iadd (q := 20) d1_19 rfl ?_
        refine oGo.laload (q := 21) (i := 2) (v := (.long x1)) d1_20 rfl A8 (by decide) rfl ?_
        refine oGo.lstore (q := 23) (L' := #[.val (.ref a), .val (.int (1 : Int32)), .val (.int (Int32.ofNat 3)), .val (.long (1 : Int64)), .second, .val (.int (1 : Int32)), .val (.long x1), .second, .val (.long (x0 + c)), .second]) d1_21 rfl rfl ?_
        refine oGo.lload (q := 25) d1_23 rfl rfl ?_
        refine oGo.lloadN (q := 26) d1_25 rfl rfl ?_
        refine oGo.ladd (q := 27) d1_26 rfl ?_
        refine oGo.lstore (q := 29) (L' := #[.val (.ref a), .val (.int (1 : Int32)), .val (.int (Int32.ofNat 3)), .val (.long (1 : Int64)), .second, .val (.int (1 : Int32)), .val (.long x1), .second, .val (.long (x1 + (1 : Int64))), .second]) d1_27 rfl rfl ?_
        refine oGo.aloadN (q := 30) d1_29 rfl rfl rfl ?_
        refine oGo.iloadN (q := 31) d1_30 rfl rfl ?_
        refine oGo.iload (q := 33) d1_31 rfl rfl ?_
        refine oGo.iadd (q := 34) d1_33 rfl ?_
        refine oGo.lload (q := 36) d1_34 rfl rfl ?_
        refine oGo.lastore (q := 37) (i := 2) d1_36 rfl A8 (by decide) (Nat.le_of_ble_eq_true rfl) ga ?_
        intro h10 K10 A10
        replace A10 : Ars Z h10 a .long [(.long g), (.long (x0 + c)), (.long (x1 + (1 : Int64))), (.long x2), (.long g)] := A10
        show oGo Z _ _ _ _ _ _ n0 _ 0 0 h10 37 #[.val (.ref a), .val (.int (1 : Int32)), .val (.int (Int32.ofNat 3)), .val (.long (1 : Int64)), .second, .val (.int (1 : Int32)), .val (.long x1), .second, .val (.long (x1 + (1 : Int64))), .second] []
        refine oGo.lload (q := 39) d1_37 rfl rfl ?_
        refine oGo.lload (q := 41) d1_39 rfl rfl ?_
        refine oGo.callS (W := 0) (rm := ({ frames := 1, cells := 0, slots := 0, locals := 15 } : Room)) (q := 44) [(.long (x1 + (1 : Int64))), (.long x1)] [] d1_41 rfl (hw _ (List.mem_of_getElem? (i := 5) rfl)) (hw _ (List.mem_of_getElem? (i := 6) rfl)) (hw _ (List.mem_of_getElem? (i := 7) rfl)) (hw _ (List.mem_of_getElem? (i := 8) rfl)) (by decide) (cu hw (x1 + (1 : Int64)) x1 h10 n0) rfl rfl own_pd1 rfl rfl (Nat.le_of_eq rfl) (by decide) (by decide) (by decide) (by decide) ?_
        rintro _ h11 ⟨⟨z1, rfl, hz1⟩, eh⟩
        all_goals subst h11
        show oGo Z _ _ _ _ _ _ n0 _ 0 0 h10 44 #[.val (.ref a), .val (.int (1 : Int32)), .val (.int (Int32.ofNat 3)), .val (.long (1 : Int64)), .second, .val (.int (1 : Int32)), .val (.long x1), .second, .val (.long (x1 + (1 : Int64))), .second] [(.int z1)]
        refine oGo.if_ge (q := 51) (r := 47) d1_44 (by decide) rfl (fun hz => ?_) (fun hz => ?_)
        · skip
          have k1 : x1 ≠ -1 := fun e => absurd (hz1.mpr (own_ov1.mpr e)) (Int.not_lt.mpr hz)
          refine oGo.lconst (q := 52) (v := (0 : Int64)) d1_51 rfl rfl ?_
          refine oGo.lstoreN (q := 53) (L' := #[.val (.ref a), .val (.int (1 : Int32)), .val (.int (Int32.ofNat 3)), .val (.long (0 : Int64)), .second, .val (.int (1 : Int32)), .val (.long x1), .second, .val (.long (x1 + (1 : Int64))), .second]) d1_52 rfl rfl ?_
          refine oGo.iinc (q := 56) (v := (2 : Int32)) (L' := #[.val (.ref a), .val (.int (1 : Int32)), .val (.int (Int32.ofNat 3)), .val (.long (0 : Int64)), .second, .val (.int (2 : Int32)), .val (.long x1), .second, .val (.long (x1 + (1 : Int64))), .second]) d1_53 rfl rfl (by decide) rfl ?_
          refine oGo.goto (q := 3) d1_56 (by decide) ?_
          refine oGo.iload (q := 5) d1_3 rfl rfl ?_
          refine oGo.iloadN (q := 6) d1_5 rfl rfl ?_
          refine oGo.icmp_ge (q := 59) (r := 9) d1_6 (by decide) rfl (fun hc => absurd hc (by decide)) (fun hc => ?_)
          refine oGo.lloadN (q := 10) d1_9 rfl rfl ?_
          refine oGo.lconst (q := 11) (v := (0 : Int64)) d1_10 rfl rfl ?_
          refine oGo.lif_eq (pc2 := 12) (q := 59) (r := 15) d1_11 rfl d1_12 (by decide) rfl (fun hc => ?_) (fun hc => absurd rfl hc)
          refine oGo.lloadN (q := 60) d1_59 rfl rfl ?_
          exact oGo.retJ d1_60 rfl (by decide) (by decide) (⟨(0 : Int64), (x0 + c), (x1 + (1 : Int64)), x2, rfl, (Keep.trans (Keep.trans (Keep.refl h [a]) K8 (fun x hx => Or.inl hx)) K10 (fun x hx => Or.inl hx)), A10, (own_r2n (by decide) k0 k1)⟩)
        · skip
          have k1 : x1 = -1 := own_ov1.mp (hz1.mp hz)
          refine oGo.lconst (q := 48) (v := (1 : Int64)) d1_47 rfl rfl ?_
          refine oGo.goto (q := 52) d1_48 (by decide) ?_
          refine oGo.lstoreN (q := 53) (L' := #[.val (.ref a), .val (.int (1 : Int32)), .val (.int (Int32.ofNat 3)), .val (.long (1 : Int64)), .second, .val (.int (1 : Int32)), .val (.long x1), .second, .val (.long (x1 + (1 : Int64))), .second]) d1_52 rfl rfl ?_
          refine oGo.iinc (q := 56) (v := (2 : Int32)) (L' := #[.val (.ref a), .val (.int (1 : Int32)), .val (.int (Int32.ofNat 3)), .val (.long (1 : Int64)), .second, .val (.int (2 : Int32)), .val (.long x1), .second, .val (.long (x1 + (1 : Int64))), .second]) d1_53 rfl rfl (by decide) rfl ?_
          refine oGo.goto (q := 3) d1_56 (by decide) ?_
          refine oGo.iload (q := 5) d1_3 rfl rfl ?_
          refine oGo.iloadN (q := 6) d1_5 rfl rfl ?_
          refine oGo.icmp_ge (q := 59) (r := 9) d1_6 (by decide) rfl (fun hc => absurd hc (by decide)) (fun hc => ?_)
          refine oGo.lloadN (q := 10) d1_9 rfl rfl ?_
          refine oGo.lconst (q := 11) (v := (0 : Int64)) d1_10 rfl rfl ?_
          refine oGo.lif_eq (pc2 := 12) (q := 59) (r := 15) d1_11 rfl d1_12 (by decide) rfl (fun hc => absurd hc (by decide)) (fun hc => ?_)
          refine oGo.aloadN (q := 16) d1_15 rfl rfl rfl ?_
          refine oGo.iloadN (q := 17) d1_16 rfl rfl ?_
          refine oGo.iload (q := 19) d1_17 rfl rfl ?_
          refine oGo.iadd (q := 20) d1_19 rfl ?_
          refine oGo.laload (q := 21) (i := 3) (v := (.long x2)) d1_20 rfl A10 (by decide) rfl ?_
          refine oGo.lstore (q := 23) (L' := #[.val (.ref a), .val (.int (1 : Int32)), .val (.int (Int32.ofNat 3)), .val (.long (1 : Int64)), .second, .val (.int (2 : Int32)), .val (.long x2), .second, .val (.long (x1 + (1 : Int64))), .second]) d1_21 rfl rfl ?_
          refine oGo.lload (q := 25) d1_23 rfl rfl ?_
          refine oGo.lloadN (q := 26) d1_25 rfl rfl ?_
          refine oGo.ladd (q := 27) d1_26 rfl ?_
          refine oGo.lstore (q := 29) (L' := #[.val (.ref a), .val (.int (1 : Int32)), .val (.int (Int32.ofNat 3)), .val (.long (1 : Int64)), .second, .val (.int (2 : Int32)), .val (.long x2), .second, .val (.long (x2 + (1 : Int64))), .second]) d1_27 rfl rfl ?_
          refine oGo.aloadN (q := 30) d1_29 rfl rfl rfl ?_
          refine oGo.iloadN (q := 31) d1_30 rfl rfl ?_
          refine oGo.iload (q := 33) d1_31 rfl rfl ?_
          refine oGo.iadd (q := 34) d1_33 rfl ?_
          refine oGo.lload (q := 36) d1_34 rfl rfl ?_
          refine oGo.lastore (q := 37) (i := 3) d1_36 rfl A10 (by decide) (Nat.le_of_ble_eq_true rfl) ga ?_
          intro h12 K12 A12
          replace A12 : Ars Z h12 a .long [(.long g), (.long (x0 + c)), (.long (x1 + (1 : Int64))), (.long (x2 + (1 : Int64))), (.long g)] := A12
          show oGo Z _ _ _ _ _ _ n0 _ 0 0 h12 37 #[.val (.ref a), .val (.int (1 : Int32)), .val (.int (Int32.ofNat 3)), .val (.long (1 : Int64)), .second, .val (.int (2 : Int32)), .val (.long x2), .second, .val (.long (x2 + (1 : Int64))), .second] []
          refine oGo.lload (q := 39) d1_37 rfl rfl ?_
          refine oGo.lload (q := 41) d1_39 rfl rfl ?_
          refine oGo.callS (W := 0) (rm := ({ frames := 1, cells := 0, slots := 0, locals := 15 } : Room)) (q := 44) [(.long (x2 + (1 : Int64))), (.long x2)] [] d1_41 rfl (hw _ (List.mem_of_getElem? (i := 5) rfl)) (hw _ (List.mem_of_getElem? (i := 6) rfl)) (hw _ (List.mem_of_getElem? (i := 7) rfl)) (hw _ (List.mem_of_getElem? (i := 8) rfl)) (by decide) (cu hw (x2 + (1 : Int64)) x2 h12 n0) rfl rfl own_pd1 rfl rfl (Nat.le_of_eq rfl) (by decide) (by decide) (by decide) (by decide) ?_
          rintro _ h13 ⟨⟨z2, rfl, hz2⟩, eh⟩
          all_goals subst h13
          show oGo Z _ _ _ _ _ _ n0 _ 0 0 h12 44 #[.val (.ref a), .val (.int (1 : Int32)), .val (.int (Int32.ofNat 3)), .val (.long (1 : Int64)), .second, .val (.int (2 : Int32)), .val (.long x2), .second, .val (.long (x2 + (1 : Int64))), .second] [(.int z2)]
          refine oGo.if_ge (q := 51) (r := 47) d1_44 (by decide) rfl (fun hz => ?_) (fun hz => ?_)
          · skip
            have k2 : x2 ≠ -1 := fun e => absurd (hz2.mpr (own_ov1.mpr e)) (Int.not_lt.mpr hz)
            refine oGo.lconst (q := 52) (v := (0 : Int64)) d1_51 rfl rfl ?_
            refine oGo.lstoreN (q := 53) (L' := #[.val (.ref a), .val (.int (1 : Int32)), .val (.int (Int32.ofNat 3)), .val (.long (0 : Int64)), .second, .val (.int (2 : Int32)), .val (.long x2), .second, .val (.long (x2 + (1 : Int64))), .second]) d1_52 rfl rfl ?_
            refine oGo.iinc (q := 56) (v := (3 : Int32)) (L' := #[.val (.ref a), .val (.int (1 : Int32)), .val (.int (Int32.ofNat 3)), .val (.long (0 : Int64)), .second, .val (.int (3 : Int32)), .val (.long x2), .second, .val (.long (x2 + (1 : Int64))), .second]) d1_53 rfl rfl (by decide) rfl ?_
            refine oGo.goto (q := 3) d1_56 (by decide) ?_
            refine oGo.iload (q := 5) d1_3 rfl rfl ?_
            refine oGo.iloadN (q := 6) d1_5 rfl rfl ?_
            refine oGo.icmp_ge (q := 59) (r := 9) d1_6 (by decide) rfl (fun hc => ?_) (fun hc => absurd hc (by decide))
            refine oGo.lloadN (q := 60) d1_59 rfl rfl ?_
            exact oGo.retJ d1_60 rfl (by decide) (by decide) (⟨(0 : Int64), (x0 + c), (x1 + (1 : Int64)), (x2 + (1 : Int64)), rfl, (Keep.trans (Keep.trans (Keep.trans (Keep.refl h [a]) K8 (fun x hx => Or.inl hx)) K10 (fun x hx => Or.inl hx)) K12 (fun x hx => Or.inl hx)), A12, (own_r3n k0 k1 k2)⟩)
          · skip
            have k2 : x2 = -1 := own_ov1.mp (hz2.mp hz)
            refine oGo.lconst (q := 48) (v := (1 : Int64)) d1_47 rfl rfl ?_
            refine oGo.goto (q := 52) d1_48 (by decide) ?_
            refine oGo.lstoreN (q := 53) (L' := #[.val (.ref a), .val (.int (1 : Int32)), .val (.int (Int32.ofNat 3)), .val (.long (1 : Int64)), .second, .val (.int (2 : Int32)), .val (.long x2), .second, .val (.long (x2 + (1 : Int64))), .second]) d1_52 rfl rfl ?_
            refine oGo.iinc (q := 56) (v := (3 : Int32)) (L' := #[.val (.ref a), .val (.int (1 : Int32)), .val (.int (Int32.ofNat 3)), .val (.long (1 : Int64)), .second, .val (.int (3 : Int32)), .val (.long x2), .second, .val (.long (x2 + (1 : Int64))), .second]) d1_53 rfl rfl (by decide) rfl ?_
            refine oGo.goto (q := 3) d1_56 (by decide) ?_
            refine oGo.iload (q := 5) d1_3 rfl rfl ?_
            refine oGo.iloadN (q := 6) d1_5 rfl rfl ?_
            refine oGo.icmp_ge (q := 59) (r := 9) d1_6 (by decide) rfl (fun hc => ?_) (fun hc => absurd hc (by decide))
            refine oGo.lloadN (q := 60) d1_59 rfl rfl ?_
            exact oGo.retJ d1_60 rfl (by decide) (by decide) (⟨(1 : Int64), (x0 + c), (x1 + (1 : Int64)), (x2 + (1 : Int64)), rfl, (Keep.trans (Keep.trans (Keep.trans (Keep.refl h [a]) K8 (fun x hx => Or.inl hx)) K10 (fun x hx => Or.inl hx)) K12 (fun x hx => Or.inl hx)), A12, (own_r3y k0 k1 k2)⟩)
theorem own_ef0 (m : MethodId) (x0 : Int64) (x1 : Int64) (x2 : Int64) (x3 : Int64) (x4 : Int64) (x5 : Int32) : entryFrame m #[(.long x0), (.long x1), (.long x2), (.long x3), (.long x4), (.int x5)] maxLocals = mkF m 0 #[.val (.long x0), .second, .val (.long x1), .second, .val (.long x2), .second, .val (.long x3), .second, .val (.long x4), .second, .val (.int x5), .unset, .unset, .unset, .unset, .unset, .unset, .unset, .unset, .unset, .unset, .unset, .unset, .unset, .unset, .unset] [] := by first | (simp [entryFrame, mkF, argsToLocals, Value.category, maxLocals]; done) | rfl
theorem own_pn0 : plainFor x = true := plainFor_of_name (by first | (simp [plainName, overriddenIn, x]; done) | decide +kernel)
set_option maxRecDepth 65536 in
set_option maxHeartbeats 40000000 in
theorem law {Z : State} {a0 : Array Value} (hw : ∀ d ∈ tables_1, d.before a0 Z = true) (x0 x1 x2 c g : Int64) (m : Int32) (h : Heap) (n0 : Nat) (Z0 : n0 ≤ h.size) :
    oCon Z x code maxLocals ret room_1 #[(.long x0), (.long x1), (.long x2), (.long c), (.long g), (.int m)] h n0 (fun v _ => v = some (.int 1)) := by
  refine oCon.of own_pn0 (fun mid => own_ef0 mid x0 x1 x2 c g m) ?_
  show oGo Z _ _ _ _ _ _ n0 _ 0 0 h 0 #[.val (.long x0), .second, .val (.long x1), .second, .val (.long x2), .second, .val (.long c), .second, .val (.long g), .second, .val (.int m), .unset, .unset, .unset, .unset, .unset, .unset, .unset, .unset, .unset, .unset, .unset, .unset, .unset, .unset, .unset] []
  refine oGo.iload (q := 2) at_0 rfl rfl ?_
  refine oGo.iconst (q := 3) (v := (3 : Int32)) at_2 rfl rfl ?_
  refine oGo.iand (q := 4) at_3 rfl ?_
  obtain ⟨n, en, hn⟩ : ∃ n : Nat, (m &&& (3 : Int32)) = Int32.ofNat n ∧ n ≤ 3 := by
    have a1 := c_mask m (3 : Int32) 2 (by decide) (by decide)
    have p : ((2 ^ 2 : Nat) : Int) = 4 := by decide
    rw [p] at a1
    exact ⟨((m &&& (3 : Int32)).toInt).toNat, own_nat (by omega) (by omega), by omega⟩
  rw [en]
  have hn4 : n = 0 ∨ n = 1 ∨ n = 2 ∨ n = 3 := by omega
  refine oGo.istore (q := 6) (L' := #[.val (.long x0), .second, .val (.long x1), .second, .val (.long x2), .second, .val (.long c), .second, .val (.long g), .second, .val (.int m), .val (.int (Int32.ofNat n)), .unset, .unset, .unset, .unset, .unset, .unset, .unset, .unset, .unset, .unset, .unset, .unset, .unset, .unset]) at_4 rfl rfl ?_
  refine oGo.iconst (q := 7) (v := (5 : Int32)) at_6 rfl rfl ?_
  refine oGo.newP (q := 9) (len := 5) 5 at_7 rfl (hw _ (List.mem_of_getElem? (i := 0) rfl)) rfl (by first | decide | omega) (by decide) (by decide) (by decide) (ad := "[J") rfl ?_
  intro h14 a g14 K14 A14 E14
  have ge_a : n0 ≤ a := Nat.le_trans Z0 (Nat.le_of_eq g14.symm)
  have Z0_ := Nat.le_trans Z0 K14.1
  replace A14 : Ars Z h14 a .long [(.long (0 : Int64)), (.long (0 : Int64)), (.long (0 : Int64)), (.long (0 : Int64)), (.long (0 : Int64))] := A14
  show oGo Z _ _ _ _ _ _ n0 _ 1 5 h14 9 #[.val (.long x0), .second, .val (.long x1), .second, .val (.long x2), .second, .val (.long c), .second, .val (.long g), .second, .val (.int m), .val (.int (Int32.ofNat n)), .unset, .unset, .unset, .unset, .unset, .unset, .unset, .unset, .unset, .unset, .unset, .unset, .unset, .unset] [(.ref a)]
  refine oGo.astore (q := 11) (L' := #[.val (.long x0), .second, .val (.long x1), .second, .val (.long x2), .second, .val (.long c), .second, .val (.long g), .second, .val (.int m), .val (.int (Int32.ofNat n)), .val (.ref a), .unset, .unset, .unset, .unset, .unset, .unset, .unset, .unset, .unset, .unset, .unset, .unset, .unset]) at_9 rfl rfl rfl ?_
  refine oGo.aload (q := 13) at_11 rfl rfl rfl ?_
  refine oGo.iconst (q := 14) (v := (0 : Int32)) at_13 rfl rfl ?_
  refine oGo.lload (q := 16) at_14 rfl rfl ?_
  refine oGo.lastore (q := 17) (i := 0) at_16 rfl A14 rfl (Nat.le_of_ble_eq_true rfl) ge_a ?_
  intro h15 K15 A15
  replace A15 : Ars Z h15 a .long [(.long g), (.long (0 : Int64)), (.long (0 : Int64)), (.long (0 : Int64)), (.long (0 : Int64))] := A15
  have E14_ := Exa.keep E14 K15
  have Z0__ := Nat.le_trans Z0_ K15.1
  show oGo Z _ _ _ _ _ _ n0 _ 1 5 h15 17 #[.val (.long x0), .second, .val (.long x1), .second, .val (.long x2), .second, .val (.long c), .second, .val (.long g), .second, .val (.int m), .val (.int (Int32.ofNat n)), .val (.ref a), .unset, .unset, .unset, .unset, .unset, .unset, .unset, .unset, .unset, .unset, .unset, .unset, .unset] []
  refine oGo.aload (q := 19) at_17 rfl rfl rfl ?_
  refine oGo.iconst (q := 20) (v := (1 : Int32)) at_19 rfl rfl ?_
  refine oGo.lloadN (q := 21) at_20 rfl rfl ?_
  refine oGo.lastore (q := 22) (i := 1) at_21 rfl A15 rfl (Nat.le_of_ble_eq_true rfl) ge_a ?_
  intro h16 K16 A16
  replace A16 : Ars Z h16 a .long [(.long g), (.long x0), (.long (0 : Int64)), (.long (0 : Int64)), (.long (0 : Int64))] := A16
  have E14__ := Exa.keep E14_ K16
  have Z0___ := Nat.le_trans Z0__ K16.1
  show oGo Z _ _ _ _ _ _ n0 _ 1 5 h16 22 #[.val (.long x0), .second, .val (.long x1), .second, .val (.long x2), .second, .val (.long c), .second, .val (.long g), .second, .val (.int m), .val (.int (Int32.ofNat n)), .val (.ref a), .unset, .unset, .unset, .unset, .unset, .unset, .unset, .unset, .unset, .unset, .unset, .unset, .unset] []
  refine oGo.aload (q := 24) at_22 rfl rfl rfl ?_
  refine oGo.iconst (q := 25) (v := (2 : Int32)) at_24 rfl rfl ?_
  refine oGo.lloadN (q := 26) at_25 rfl rfl ?_
  refine oGo.lastore (q := 27) (i := 2) at_26 rfl A16 rfl (Nat.le_of_ble_eq_true rfl) ge_a ?_
  intro h17 K17 A17
  replace A17 : Ars Z h17 a .long [(.long g), (.long x0), (.long x1), (.long (0 : Int64)), (.long (0 : Int64))] := A17
  have E14___ := Exa.keep E14__ K17
  have Z0____ := Nat.le_trans Z0___ K17.1
  show oGo Z _ _ _ _ _ _ n0 _ 1 5 h17 27 #[.val (.long x0), .second, .val (.long x1), .second, .val (.long x2), .second, .val (.long c), .second, .val (.long g), .second, .val (.int m), .val (.int (Int32.ofNat n)), .val (.ref a), .unset, .unset, .unset, .unset, .unset, .unset, .unset, .unset, .unset, .unset, .unset, .unset, .unset] []
  refine oGo.aload (q := 29) at_27 rfl rfl rfl ?_
  refine oGo.iconst (q := 30) (v := (3 : Int32)) at_29 rfl rfl ?_
  refine oGo.lload (q := 32) at_30 rfl rfl ?_
  refine oGo.lastore (q := 33) (i := 3) at_32 rfl A17 rfl (Nat.le_of_ble_eq_true rfl) ge_a ?_
  intro h18 K18 A18
  replace A18 : Ars Z h18 a .long [(.long g), (.long x0), (.long x1), (.long x2), (.long (0 : Int64))] := A18
  have E14____ := Exa.keep E14___ K18
  have Z0_____ := Nat.le_trans Z0____ K18.1
  show oGo Z _ _ _ _ _ _ n0 _ 1 5 h18 33 #[.val (.long x0), .second, .val (.long x1), .second, .val (.long x2), .second, .val (.long c), .second, .val (.long g), .second, .val (.int m), .val (.int (Int32.ofNat n)), .val (.ref a), .unset, .unset, .unset, .unset, .unset, .unset, .unset, .unset, .unset, .unset, .unset, .unset, .unset] []
  refine oGo.aload (q := 35) at_33 rfl rfl rfl ?_
  refine oGo.iconst (q := 36) (v := (4 : Int32)) at_35 rfl rfl ?_
  refine oGo.lload (q := 38) at_36 rfl rfl ?_
  refine oGo.lastore (q := 39) (i := 4) at_38 rfl A18 rfl (Nat.le_of_ble_eq_true rfl) ge_a ?_
  intro h19 K19 A19
  replace A19 : Ars Z h19 a .long [(.long g), (.long x0), (.long x1), (.long x2), (.long g)] := A19
  have E14_____ := Exa.keep E14____ K19
  have Z0______ := Nat.le_trans Z0_____ K19.1
  show oGo Z _ _ _ _ _ _ n0 _ 1 5 h19 39 #[.val (.long x0), .second, .val (.long x1), .second, .val (.long x2), .second, .val (.long c), .second, .val (.long g), .second, .val (.int m), .val (.int (Int32.ofNat n)), .val (.ref a), .unset, .unset, .unset, .unset, .unset, .unset, .unset, .unset, .unset, .unset, .unset, .unset, .unset] []
  refine oGo.aload (q := 41) at_39 rfl rfl rfl ?_
  refine oGo.iconst (q := 42) (v := (1 : Int32)) at_41 rfl rfl ?_
  refine oGo.iload (q := 44) at_42 rfl rfl ?_
  refine oGo.lload (q := 46) at_44 rfl rfl ?_
  refine oGo.callS (W := 0) (rm := ({ frames := 2, cells := 0, slots := 0, locals := 40 } : Room)) (q := 49) [(.ref a), (.int (1 : Int32)), (.int (Int32.ofNat n)), (.long c)] [] at_46 rfl (hw _ (List.mem_of_getElem? (i := 1) rfl)) (hw _ (List.mem_of_getElem? (i := 2) rfl)) (hw _ (List.mem_of_getElem? (i := 3) rfl)) (hw _ (List.mem_of_getElem? (i := 4) rfl)) (by decide) (ca hw a n c x0 x1 x2 g h19 n0 hn ge_a A19) rfl rfl own_pd0 rfl rfl (Nat.le_of_eq rfl) (by decide) (by decide) (by decide) (by decide) ?_
  rintro _ h20 ⟨r, y0, y1, y2, rfl, K, A, A0, A1, B0, B1, B2, D0, D1, D2, R1, R2, R3⟩
  show oGo Z _ _ _ _ _ _ n0 _ 1 5 h20 49 #[.val (.long x0), .second, .val (.long x1), .second, .val (.long x2), .second, .val (.long c), .second, .val (.long g), .second, .val (.int m), .val (.int (Int32.ofNat n)), .val (.ref a), .unset, .unset, .unset, .unset, .unset, .unset, .unset, .unset, .unset, .unset, .unset, .unset, .unset] [(.long r)]
  refine oGo.lstore (q := 51) (L' := #[.val (.long x0), .second, .val (.long x1), .second, .val (.long x2), .second, .val (.long c), .second, .val (.long g), .second, .val (.int m), .val (.int (Int32.ofNat n)), .val (.ref a), .val (.long r), .second, .unset, .unset, .unset, .unset, .unset, .unset, .unset, .unset, .unset, .unset, .unset]) at_49 rfl rfl ?_
  refine oGo.lload (q := 53) at_51 rfl rfl ?_
  refine oGo.ldc2 (q := 56) (v := (-1 : Int64)) at_53 rfl (hw _ (List.mem_of_getElem? (i := 13) rfl)) ?_
  refine oGo.lxor (q := 57) at_56 rfl ?_
  refine oGo.lloadN (q := 58) at_57 rfl rfl ?_
  refine oGo.callS (W := 0) (rm := ({ frames := 0, cells := 0, slots := 0, locals := 0 } : Room)) (q := 61) [(.long (c ^^^ (-1 : Int64))), (.long x0)] [] at_58 rfl (hw _ (List.mem_of_getElem? (i := 14) rfl)) (hw _ (List.mem_of_getElem? (i := 15) rfl)) (hw _ (List.mem_of_getElem? (i := 16) rfl)) (hw _ (List.mem_of_getElem? (i := 17) rfl)) (by decide) (ct hw (c ^^^ (-1 : Int64)) x0 h20 n0) rfl rfl own_pd2 rfl rfl (Nat.le_of_eq rfl) (by decide) (by decide) (by decide) (by decide) ?_
  rintro _ h21 ⟨⟨b0, rfl, hb0⟩, eh⟩
  all_goals subst h21
  show oGo Z _ _ _ _ _ _ n0 _ 1 5 h20 61 #[.val (.long x0), .second, .val (.long x1), .second, .val (.long x2), .second, .val (.long c), .second, .val (.long g), .second, .val (.int m), .val (.int (Int32.ofNat n)), .val (.ref a), .val (.long r), .second, .unset, .unset, .unset, .unset, .unset, .unset, .unset, .unset, .unset, .unset, .unset] [(.int b0)]
  replace hb0 : own_b b0 (own_K c x0) := hb0
  refine oGo.istore (q := 63) (L' := #[.val (.long x0), .second, .val (.long x1), .second, .val (.long x2), .second, .val (.long c), .second, .val (.long g), .second, .val (.int m), .val (.int (Int32.ofNat n)), .val (.ref a), .val (.long r), .second, .val (.int b0), .unset, .unset, .unset, .unset, .unset, .unset, .unset, .unset, .unset, .unset]) at_61 rfl rfl ?_
  refine oGo.iload (q := 65) at_63 rfl rfl ?_
  have J208 : ∀ (s15 s16 s17 : Slot) (e0 e1 e2 er : Int64), r = er → y0 = e0 → y1 = e1 → y2 = e2 → oGo Z x.cls x.name code maxLocals ret room_1 n0 (fun v _ => v = some (.int 1)) 1 5 h20 208 #[.val (.long x0), .second, .val (.long x1), .second, .val (.long x2), .second, .val (.long c), .second, .val (.long g), .second, .val (.int m), .val (.int (Int32.ofNat n)), .val (.ref a), .val (.long r), .second, s15, s16, s17, .val (.long e0), .second, .val (.long e1), .second, .val (.long e2), .second, .val (.long er), .second] [] := by
    intro s15 s16 s17 e0 e1 e2 er g0 g1 g2 g3
    subst g0 g1 g2 g3
    refine oGo.lload (q := 210) at_208 rfl rfl ?_
    refine oGo.lload (q := 212) at_210 rfl rfl ?_
    refine oGo.lif_ne (pc2 := 213) (q := 270) (r := 216) at_212 rfl at_213 (by decide) rfl (fun hc => absurd rfl hc) (fun hc => ?_)
    refine oGo.aload (q := 218) at_216 rfl rfl rfl ?_
    refine oGo.iconst (q := 219) (v := (0 : Int32)) at_218 rfl rfl ?_
    refine oGo.laload (q := 220) (i := 0) (v := (.long g)) at_219 rfl A rfl rfl ?_
    refine oGo.lload (q := 222) at_220 rfl rfl ?_
    refine oGo.lif_ne (pc2 := 223) (q := 270) (r := 226) at_222 rfl at_223 (by decide) rfl (fun hc => absurd rfl hc) (fun hc => ?_)
    refine oGo.aload (q := 228) at_226 rfl rfl rfl ?_
    refine oGo.iconst (q := 229) (v := (1 : Int32)) at_228 rfl rfl ?_
    refine oGo.laload (q := 230) (i := 1) (v := (.long y0)) at_229 rfl A rfl rfl ?_
    refine oGo.lload (q := 232) at_230 rfl rfl ?_
    refine oGo.lif_ne (pc2 := 233) (q := 270) (r := 236) at_232 rfl at_233 (by decide) rfl (fun hc => absurd rfl hc) (fun hc => ?_)
    refine oGo.aload (q := 238) at_236 rfl rfl rfl ?_
    refine oGo.iconst (q := 239) (v := (2 : Int32)) at_238 rfl rfl ?_
    refine oGo.laload (q := 240) (i := 2) (v := (.long y1)) at_239 rfl A rfl rfl ?_
    refine oGo.lload (q := 242) at_240 rfl rfl ?_
    refine oGo.lif_ne (pc2 := 243) (q := 270) (r := 246) at_242 rfl at_243 (by decide) rfl (fun hc => absurd rfl hc) (fun hc => ?_)
    refine oGo.aload (q := 248) at_246 rfl rfl rfl ?_
    refine oGo.iconst (q := 249) (v := (3 : Int32)) at_248 rfl rfl ?_
    refine oGo.laload (q := 250) (i := 3) (v := (.long y2)) at_249 rfl A rfl rfl ?_
    refine oGo.lload (q := 252) at_250 rfl rfl ?_
    refine oGo.lif_ne (pc2 := 253) (q := 270) (r := 256) at_252 rfl at_253 (by decide) rfl (fun hc => absurd rfl hc) (fun hc => ?_)
    refine oGo.aload (q := 258) at_256 rfl rfl rfl ?_
    refine oGo.iconst (q := 259) (v := (4 : Int32)) at_258 rfl rfl ?_
    refine oGo.laload (q := 260) (i := 4) (v := (.long g)) at_259 rfl A rfl rfl ?_
    refine oGo.lload (q := 262) at_260 rfl rfl ?_
    refine oGo.lif_ne (pc2 := 263) (q := 270) (r := 266) at_262 rfl at_263 (by decide) rfl (fun hc => absurd rfl hc) (fun hc => ?_)
    refine oGo.iconst (q := 267) (v := (1 : Int32)) at_266 rfl rfl ?_
    refine oGo.goto (q := 271) at_267 (by decide) ?_
    exact oGo.retN (t := .boolean) at_271 rfl (by simp) (by decide) (by decide) (rfl)
  have J102 : ∀ b1 b2 : Int32, own_b b1 (own_K c x0 ∧ x1 = -1) → own_b b2 (own_K c x0 ∧ x1 = -1 ∧ x2 = -1) → oGo Z x.cls x.name code maxLocals ret room_1 n0 (fun v _ => v = some (.int 1)) 1 5 h20 102 #[.val (.long x0), .second, .val (.long x1), .second, .val (.long x2), .second, .val (.long c), .second, .val (.long g), .second, .val (.int m), .val (.int (Int32.ofNat n)), .val (.ref a), .val (.long r), .second, .val (.int b0), .val (.int b1), .unset, .unset, .unset, .unset, .unset, .unset, .unset, .unset, .unset] [(.int b2)] := by
    intro b1 b2 hb1 hb2
    refine oGo.istore (q := 104) (L' := #[.val (.long x0), .second, .val (.long x1), .second, .val (.long x2), .second, .val (.long c), .second, .val (.long g), .second, .val (.int m), .val (.int (Int32.ofNat n)), .val (.ref a), .val (.long r), .second, .val (.int b0), .val (.int b1), .val (.int b2), .unset, .unset, .unset, .unset, .unset, .unset, .unset, .unset]) at_102 rfl rfl ?_
    refine oGo.lloadN (q := 105) at_104 rfl rfl ?_
    refine oGo.lstore (q := 107) (L' := #[.val (.long x0), .second, .val (.long x1), .second, .val (.long x2), .second, .val (.long c), .second, .val (.long g), .second, .val (.int m), .val (.int (Int32.ofNat n)), .val (.ref a), .val (.long r), .second, .val (.int b0), .val (.int b1), .val (.int b2), .val (.long x0), .second, .unset, .unset, .unset, .unset, .unset, .unset]) at_105 rfl rfl ?_
    refine oGo.lloadN (q := 108) at_107 rfl rfl ?_
    refine oGo.lstore (q := 110) (L' := #[.val (.long x0), .second, .val (.long x1), .second, .val (.long x2), .second, .val (.long c), .second, .val (.long g), .second, .val (.int m), .val (.int (Int32.ofNat n)), .val (.ref a), .val (.long r), .second, .val (.int b0), .val (.int b1), .val (.int b2), .val (.long x0), .second, .val (.long x1), .second, .unset, .unset, .unset, .unset]) at_108 rfl rfl ?_
    refine oGo.lload (q := 112) at_110 rfl rfl ?_
    refine oGo.lstore (q := 114) (L' := #[.val (.long x0), .second, .val (.long x1), .second, .val (.long x2), .second, .val (.long c), .second, .val (.long g), .second, .val (.int m), .val (.int (Int32.ofNat n)), .val (.ref a), .val (.long r), .second, .val (.int b0), .val (.int b1), .val (.int b2), .val (.long x0), .second, .val (.long x1), .second, .val (.long x2), .second, .unset, .unset]) at_112 rfl rfl ?_
    refine oGo.lload (q := 116) at_114 rfl rfl ?_
    refine oGo.lstore (q := 118) (L' := #[.val (.long x0), .second, .val (.long x1), .second, .val (.long x2), .second, .val (.long c), .second, .val (.long g), .second, .val (.int m), .val (.int (Int32.ofNat n)), .val (.ref a), .val (.long r), .second, .val (.int b0), .val (.int b1), .val (.int b2), .val (.long x0), .second, .val (.long x1), .second, .val (.long x2), .second, .val (.long c), .second]) at_116 rfl rfl ?_
    rcases hn4 with rfl | rfl | rfl | rfl
    · skip -- n = 0
      refine oGo.iload (q := 120) at_118 rfl rfl ?_
      refine oGo.iconst (q := 121) (v := (1 : Int32)) at_120 rfl rfl ?_
      refine oGo.icmp_lt (q := 142) (r := 124) at_121 (by decide) rfl (fun hc => ?_) (fun hc => absurd hc (by decide))
      refine oGo.iload (q := 144) at_142 rfl rfl ?_
      refine oGo.iconst (q := 145) (v := (2 : Int32)) at_144 rfl rfl ?_
      refine oGo.icmp_lt (q := 174) (r := 148) at_145 (by decide) rfl (fun hc => ?_) (fun hc => absurd hc (by decide))
      refine oGo.iload (q := 176) at_174 rfl rfl ?_
      refine oGo.iconst (q := 177) (v := (3 : Int32)) at_176 rfl rfl ?_
      refine oGo.icmp_lt (q := 208) (r := 180) at_177 (by decide) rfl (fun hc => ?_) (fun hc => absurd hc (by decide))
      exact J208 _ _ _ _ _ _ _ ((A0 rfl).1) ((A0 rfl).2) (B0 (by decide)) (D0 (by decide))
    · skip -- n = 1
      refine oGo.iload (q := 120) at_118 rfl rfl ?_
      refine oGo.iconst (q := 121) (v := (1 : Int32)) at_120 rfl rfl ?_
      refine oGo.icmp_lt (q := 142) (r := 124) at_121 (by decide) rfl (fun hc => absurd hc (by decide)) (fun hc => ?_)
      refine oGo.lloadN (q := 125) at_124 rfl rfl ?_
      refine oGo.lload (q := 127) at_125 rfl rfl ?_
      refine oGo.ladd (q := 128) at_127 rfl ?_
      refine oGo.lstore (q := 130) (L' := #[.val (.long x0), .second, .val (.long x1), .second, .val (.long x2), .second, .val (.long c), .second, .val (.long g), .second, .val (.int m), .val (.int (Int32.ofNat 1)), .val (.ref a), .val (.long r), .second, .val (.int b0), .val (.int b1), .val (.int b2), .val (.long (x0 + c)), .second, .val (.long x1), .second, .val (.long x2), .second, .val (.long c), .second]) at_128 rfl rfl ?_
      refine oGo.iload (q := 132) at_130 rfl rfl ?_
      refine oGo.if_eq (q := 139) (r := 135) at_132 (by decide) rfl (fun k0 => ?_) (fun k0 => ?_)
      · skip
        refine oGo.lconst (q := 140) (v := (0 : Int64)) at_139 rfl rfl ?_
        refine oGo.lstore (q := 142) (L' := #[.val (.long x0), .second, .val (.long x1), .second, .val (.long x2), .second, .val (.long c), .second, .val (.long g), .second, .val (.int m), .val (.int (Int32.ofNat 1)), .val (.ref a), .val (.long r), .second, .val (.int b0), .val (.int b1), .val (.int b2), .val (.long (x0 + c)), .second, .val (.long x1), .second, .val (.long x2), .second, .val (.long (0 : Int64)), .second]) at_140 rfl rfl ?_
        refine oGo.iload (q := 144) at_142 rfl rfl ?_
        refine oGo.iconst (q := 145) (v := (2 : Int32)) at_144 rfl rfl ?_
        refine oGo.icmp_lt (q := 174) (r := 148) at_145 (by decide) rfl (fun hc => ?_) (fun hc => absurd hc (by decide))
        refine oGo.iload (q := 176) at_174 rfl rfl ?_
        refine oGo.iconst (q := 177) (v := (3 : Int32)) at_176 rfl rfl ?_
        refine oGo.icmp_lt (q := 208) (r := 180) at_177 (by decide) rfl (fun hc => ?_) (fun hc => absurd hc (by decide))
        exact J208 _ _ _ _ _ _ _ ((R1 rfl).2 (hb0.z k0)) (A1 (by decide)) (B0 (by decide)) (D0 (by decide))
      · skip
        refine oGo.lconst (q := 136) (v := (1 : Int64)) at_135 rfl rfl ?_
        refine oGo.goto (q := 140) at_136 (by decide) ?_
        refine oGo.lstore (q := 142) (L' := #[.val (.long x0), .second, .val (.long x1), .second, .val (.long x2), .second, .val (.long c), .second, .val (.long g), .second, .val (.int m), .val (.int (Int32.ofNat 1)), .val (.ref a), .val (.long r), .second, .val (.int b0), .val (.int b1), .val (.int b2), .val (.long (x0 + c)), .second, .val (.long x1), .second, .val (.long x2), .second, .val (.long (1 : Int64)), .second]) at_140 rfl rfl ?_
        refine oGo.iload (q := 144) at_142 rfl rfl ?_
        refine oGo.iconst (q := 145) (v := (2 : Int32)) at_144 rfl rfl ?_
        refine oGo.icmp_lt (q := 174) (r := 148) at_145 (by decide) rfl (fun hc => ?_) (fun hc => absurd hc (by decide))
        refine oGo.iload (q := 176) at_174 rfl rfl ?_
        refine oGo.iconst (q := 177) (v := (3 : Int32)) at_176 rfl rfl ?_
        refine oGo.icmp_lt (q := 208) (r := 180) at_177 (by decide) rfl (fun hc => ?_) (fun hc => absurd hc (by decide))
        exact J208 _ _ _ _ _ _ _ ((R1 rfl).1 (hb0.nz k0)) (A1 (by decide)) (B0 (by decide)) (D0 (by decide))
    · skip -- n = 2
      refine oGo.iload (q := 120) at_118 rfl rfl ?_
      refine oGo.iconst (q := 121) (v := (1 : Int32)) at_120 rfl rfl ?_
      refine oGo.icmp_lt (q := 142) (r := 124) at_121 (by decide) rfl (fun hc => absurd hc (by decide)) (fun hc => ?_)
      refine oGo.lloadN (q := 125) at_124 rfl rfl ?_
      refine oGo.lload (q := 127) at_125 rfl rfl ?_
      refine oGo.ladd (q := 128) at_127 rfl ?_
      refine oGo.lstore (q := 130) (L' := #[.val (.long x0), .second, .val (.long x1), .second, .val (.long x2), .second, .val (.long c), .second, .val (.long g), .second, .val (.int m), .val (.int (Int32.ofNat 2)), .val (.ref a), .val (.long r), .second, .val (.int b0), .val (.int b1), .val (.int b2), .val (.long (x0 + c)), .second, .val (.long x1), .second, .val (.long x2), .second, .val (.long c), .second]) at_128 rfl rfl ?_
      refine oGo.iload (q := 132) at_130 rfl rfl ?_
      refine oGo.if_eq (q := 139) (r := 135) at_132 (by decide) rfl (fun k0 => ?_) (fun k0 => ?_)
      · skip
        refine oGo.lconst (q := 140) (v := (0 : Int64)) at_139 rfl rfl ?_
        refine oGo.lstore (q := 142) (L' := #[.val (.long x0), .second, .val (.long x1), .second, .val (.long x2), .second, .val (.long c), .second, .val (.long g), .second, .val (.int m), .val (.int (Int32.ofNat 2)), .val (.ref a), .val (.long r), .second, .val (.int b0), .val (.int b1), .val (.int b2), .val (.long (x0 + c)), .second, .val (.long x1), .second, .val (.long x2), .second, .val (.long (0 : Int64)), .second]) at_140 rfl rfl ?_
        refine oGo.iload (q := 144) at_142 rfl rfl ?_
        refine oGo.iconst (q := 145) (v := (2 : Int32)) at_144 rfl rfl ?_
        refine oGo.icmp_lt (q := 174) (r := 148) at_145 (by decide) rfl (fun hc => absurd hc (by decide)) (fun hc => ?_)
        refine oGo.iload (q := 150) at_148 rfl rfl ?_
        refine oGo.if_eq (q := 159) (r := 153) at_150 (by decide) rfl (fun hc => ?_) (fun hc => absurd k0 hc)
        refine oGo.lloadN (q := 160) at_159 rfl rfl ?_
        refine oGo.lstore (q := 162) (L' := #[.val (.long x0), .second, .val (.long x1), .second, .val (.long x2), .second, .val (.long c), .second, .val (.long g), .second, .val (.int m), .val (.int (Int32.ofNat 2)), .val (.ref a), .val (.long r), .second, .val (.int b0), .val (.int b1), .val (.int b2), .val (.long (x0 + c)), .second, .val (.long x1), .second, .val (.long x2), .second, .val (.long (0 : Int64)), .second]) at_160 rfl rfl ?_
        refine oGo.iload (q := 164) at_162 rfl rfl ?_
        refine oGo.if_eq (q := 171) (r := 167) at_164 (by decide) rfl (fun k1 => ?_) (fun k1 => ?_)
        · skip
          refine oGo.lconst (q := 172) (v := (0 : Int64)) at_171 rfl rfl ?_
          refine oGo.lstore (q := 174) (L' := #[.val (.long x0), .second, .val (.long x1), .second, .val (.long x2), .second, .val (.long c), .second, .val (.long g), .second, .val (.int m), .val (.int (Int32.ofNat 2)), .val (.ref a), .val (.long r), .second, .val (.int b0), .val (.int b1), .val (.int b2), .val (.long (x0 + c)), .second, .val (.long x1), .second, .val (.long x2), .second, .val (.long (0 : Int64)), .second]) at_172 rfl rfl ?_
          refine oGo.iload (q := 176) at_174 rfl rfl ?_
          refine oGo.iconst (q := 177) (v := (3 : Int32)) at_176 rfl rfl ?_
          refine oGo.icmp_lt (q := 208) (r := 180) at_177 (by decide) rfl (fun hc => ?_) (fun hc => absurd hc (by decide))
          exact J208 _ _ _ _ _ _ _ ((R2 rfl).2 (hb1.z k1)) (A1 (by decide)) (B2 (by decide) (hb0.z k0)) (D0 (by decide))
        · skip
          refine oGo.lconst (q := 168) (v := (1 : Int64)) at_167 rfl rfl ?_
          refine oGo.goto (q := 172) at_168 (by decide) ?_
          refine oGo.lstore (q := 174) (L' := #[.val (.long x0), .second, .val (.long x1), .second, .val (.long x2), .second, .val (.long c), .second, .val (.long g), .second, .val (.int m), .val (.int (Int32.ofNat 2)), .val (.ref a), .val (.long r), .second, .val (.int b0), .val (.int b1), .val (.int b2), .val (.long (x0 + c)), .second, .val (.long x1), .second, .val (.long x2), .second, .val (.long (1 : Int64)), .second]) at_172 rfl rfl ?_
          refine oGo.iload (q := 176) at_174 rfl rfl ?_
          refine oGo.iconst (q := 177) (v := (3 : Int32)) at_176 rfl rfl ?_
          refine oGo.icmp_lt (q := 208) (r := 180) at_177 (by decide) rfl (fun hc => ?_) (fun hc => absurd hc (by decide))
          exact J208 _ _ _ _ _ _ _ ((R2 rfl).1 (hb1.nz k1)) (A1 (by decide)) (B2 (by decide) (hb0.z k0)) (D0 (by decide))
      · skip
        refine oGo.lconst (q := 136) (v := (1 : Int64)) at_135 rfl rfl ?_
        refine oGo.goto (q := 140) at_136 (by decide) ?_
        refine oGo.lstore (q := 142) (L' := #[.val (.long x0), .second, .val (.long x1), .second, .val (.long x2), .second, .val (.long c), .second, .val (.long g), .second, .val (.int m), .val (.int (Int32.ofNat 2)), .val (.ref a), .val (.long r), .second, .val (.int b0), .val (.int b1), .val (.int b2), .val (.long (x0 + c)), .second, .val (.long x1), .second, .val (.long x2), .second, .val (.long (1 : Int64)), .second]) at_140 rfl rfl ?_
        refine oGo.iload (q := 144) at_142 rfl rfl ?_
        refine oGo.iconst (q := 145) (v := (2 : Int32)) at_144 rfl rfl ?_
        refine oGo.icmp_lt (q := 174) (r := 148) at_145 (by decide) rfl (fun hc => absurd hc (by decide)) (fun hc => ?_)
        refine oGo.iload (q := 150) at_148 rfl rfl ?_
        refine oGo.if_eq (q := 159) (r := 153) at_150 (by decide) rfl (fun hc => absurd hc k0) (fun hc => ?_)
        refine oGo.lloadN (q := 154) at_153 rfl rfl ?_
        refine oGo.lconst (q := 155) (v := (1 : Int64)) at_154 rfl rfl ?_
        refine oGo.ladd (q := 156) at_155 rfl ?_
        refine oGo.goto (q := 160) at_156 (by decide) ?_
        refine oGo.lstore (q := 162) (L' := #[.val (.long x0), .second, .val (.long x1), .second, .val (.long x2), .second, .val (.long c), .second, .val (.long g), .second, .val (.int m), .val (.int (Int32.ofNat 2)), .val (.ref a), .val (.long r), .second, .val (.int b0), .val (.int b1), .val (.int b2), .val (.long (x0 + c)), .second, .val (.long (x1 + (1 : Int64))), .second, .val (.long x2), .second, .val (.long (1 : Int64)), .second]) at_160 rfl rfl ?_
        refine oGo.iload (q := 164) at_162 rfl rfl ?_
        refine oGo.if_eq (q := 171) (r := 167) at_164 (by decide) rfl (fun k1 => ?_) (fun k1 => ?_)
        · skip
          refine oGo.lconst (q := 172) (v := (0 : Int64)) at_171 rfl rfl ?_
          refine oGo.lstore (q := 174) (L' := #[.val (.long x0), .second, .val (.long x1), .second, .val (.long x2), .second, .val (.long c), .second, .val (.long g), .second, .val (.int m), .val (.int (Int32.ofNat 2)), .val (.ref a), .val (.long r), .second, .val (.int b0), .val (.int b1), .val (.int b2), .val (.long (x0 + c)), .second, .val (.long (x1 + (1 : Int64))), .second, .val (.long x2), .second, .val (.long (0 : Int64)), .second]) at_172 rfl rfl ?_
          refine oGo.iload (q := 176) at_174 rfl rfl ?_
          refine oGo.iconst (q := 177) (v := (3 : Int32)) at_176 rfl rfl ?_
          refine oGo.icmp_lt (q := 208) (r := 180) at_177 (by decide) rfl (fun hc => ?_) (fun hc => absurd hc (by decide))
          exact J208 _ _ _ _ _ _ _ ((R2 rfl).2 (hb1.z k1)) (A1 (by decide)) (B1 (by decide) (hb0.nz k0)) (D0 (by decide))
        · skip
          refine oGo.lconst (q := 168) (v := (1 : Int64)) at_167 rfl rfl ?_
          refine oGo.goto (q := 172) at_168 (by decide) ?_
          refine oGo.lstore (q := 174) (L' := #[.val (.long x0), .second, .val (.long x1), .second, .val (.long x2), .second, .val (.long c), .second, .val (.long g), .second, .val (.int m), .val (.int (Int32.ofNat 2)), .val (.ref a), .val (.long r), .second, .val (.int b0), .val (.int b1), .val (.int b2), .val (.long (x0 + c)), .second, .val (.long (x1 + (1 : Int64))), .second, .val (.long x2), .second, .val (.long (1 : Int64)), .second]) at_172 rfl rfl ?_
          refine oGo.iload (q := 176) at_174 rfl rfl ?_
          refine oGo.iconst (q := 177) (v := (3 : Int32)) at_176 rfl rfl ?_
          refine oGo.icmp_lt (q := 208) (r := 180) at_177 (by decide) rfl (fun hc => ?_) (fun hc => absurd hc (by decide))
          exact J208 _ _ _ _ _ _ _ ((R2 rfl).1 (hb1.nz k1)) (A1 (by decide)) (B1 (by decide) (hb0.nz k0)) (D0 (by decide))
    · skip -- n = 3
      refine oGo.iload (q := 120) at_118 rfl rfl ?_
      refine oGo.iconst (q := 121) (v := (1 : Int32)) at_120 rfl rfl ?_
      refine oGo.icmp_lt (q := 142) (r := 124) at_121 (by decide) rfl (fun hc => absurd hc (by decide)) (fun hc => ?_)
      refine oGo.lloadN (q := 125) at_124 rfl rfl ?_
      refine oGo.lload (q := 127) at_125 rfl rfl ?_
      refine oGo.ladd (q := 128) at_127 rfl ?_
      refine oGo.lstore (q := 130) (L' := #[.val (.long x0), .second, .val (.long x1), .second, .val (.long x2), .second, .val (.long c), .second, .val (.long g), .second, .val (.int m), .val (.int (Int32.ofNat 3)), .val (.ref a), .val (.long r), .second, .val (.int b0), .val (.int b1), .val (.int b2), .val (.long (x0 + c)), .second, .val (.long x1), .second, .val (.long x2), .second, .val (.long c), .second]) at_128 rfl rfl ?_
      refine oGo.iload (q := 132) at_130 rfl rfl ?_
      refine oGo.if_eq (q := 139) (r := 135) at_132 (by decide) rfl (fun k0 => ?_) (fun k0 => ?_)
      · skip
        refine oGo.lconst (q := 140) (v := (0 : Int64)) at_139 rfl rfl ?_
        refine oGo.lstore (q := 142) (L' := #[.val (.long x0), .second, .val (.long x1), .second, .val (.long x2), .second, .val (.long c), .second, .val (.long g), .second, .val (.int m), .val (.int (Int32.ofNat 3)), .val (.ref a), .val (.long r), .second, .val (.int b0), .val (.int b1), .val (.int b2), .val (.long (x0 + c)), .second, .val (.long x1), .second, .val (.long x2), .second, .val (.long (0 : Int64)), .second]) at_140 rfl rfl ?_
        refine oGo.iload (q := 144) at_142 rfl rfl ?_
        refine oGo.iconst (q := 145) (v := (2 : Int32)) at_144 rfl rfl ?_
        refine oGo.icmp_lt (q := 174) (r := 148) at_145 (by decide) rfl (fun hc => absurd hc (by decide)) (fun hc => ?_)
        refine oGo.iload (q := 150) at_148 rfl rfl ?_
        refine oGo.if_eq (q := 159) (r := 153) at_150 (by decide) rfl (fun hc => ?_) (fun hc => absurd k0 hc)
        refine oGo.lloadN (q := 160) at_159 rfl rfl ?_
        refine oGo.lstore (q := 162) (L' := #[.val (.long x0), .second, .val (.long x1), .second, .val (.long x2), .second, .val (.long c), .second, .val (.long g), .second, .val (.int m), .val (.int (Int32.ofNat 3)), .val (.ref a), .val (.long r), .second, .val (.int b0), .val (.int b1), .val (.int b2), .val (.long (x0 + c)), .second, .val (.long x1), .second, .val (.long x2), .second, .val (.long (0 : Int64)), .second]) at_160 rfl rfl ?_
        refine oGo.iload (q := 164) at_162 rfl rfl ?_
        refine oGo.if_eq (q := 171) (r := 167) at_164 (by decide) rfl (fun k1 => ?_) (fun k1 => ?_)
        · skip
          refine oGo.lconst (q := 172) (v := (0 : Int64)) at_171 rfl rfl ?_
          refine oGo.lstore (q := 174) (L' := #[.val (.long x0), .second, .val (.long x1), .second, .val (.long x2), .second, .val (.long c), .second, .val (.long g), .second, .val (.int m), .val (.int (Int32.ofNat 3)), .val (.ref a), .val (.long r), .second, .val (.int b0), .val (.int b1), .val (.int b2), .val (.long (x0 + c)), .second, .val (.long x1), .second, .val (.long x2), .second, .val (.long (0 : Int64)), .second]) at_172 rfl rfl ?_
          refine oGo.iload (q := 176) at_174 rfl rfl ?_
          refine oGo.iconst (q := 177) (v := (3 : Int32)) at_176 rfl rfl ?_
          refine oGo.icmp_lt (q := 208) (r := 180) at_177 (by decide) rfl (fun hc => absurd hc (by decide)) (fun hc => ?_)
          refine oGo.iload (q := 182) at_180 rfl rfl ?_
          refine oGo.if_eq (q := 192) (r := 185) at_182 (by decide) rfl (fun hc => ?_) (fun hc => absurd k1 hc)
          refine oGo.lload (q := 194) at_192 rfl rfl ?_
          refine oGo.lstore (q := 196) (L' := #[.val (.long x0), .second, .val (.long x1), .second, .val (.long x2), .second, .val (.long c), .second, .val (.long g), .second, .val (.int m), .val (.int (Int32.ofNat 3)), .val (.ref a), .val (.long r), .second, .val (.int b0), .val (.int b1), .val (.int b2), .val (.long (x0 + c)), .second, .val (.long x1), .second, .val (.long x2), .second, .val (.long (0 : Int64)), .second]) at_194 rfl rfl ?_
          refine oGo.iload (q := 198) at_196 rfl rfl ?_
          refine oGo.if_eq (q := 205) (r := 201) at_198 (by decide) rfl (fun k2 => ?_) (fun k2 => ?_)
          · skip
            refine oGo.lconst (q := 206) (v := (0 : Int64)) at_205 rfl rfl ?_
            refine oGo.lstore (q := 208) (L' := #[.val (.long x0), .second, .val (.long x1), .second, .val (.long x2), .second, .val (.long c), .second, .val (.long g), .second, .val (.int m), .val (.int (Int32.ofNat 3)), .val (.ref a), .val (.long r), .second, .val (.int b0), .val (.int b1), .val (.int b2), .val (.long (x0 + c)), .second, .val (.long x1), .second, .val (.long x2), .second, .val (.long (0 : Int64)), .second]) at_206 rfl rfl ?_
            exact J208 _ _ _ _ _ _ _ ((R3 rfl).2 (hb2.z k2)) (A1 (by decide)) (B2 (by decide) (hb0.z k0)) (D2 rfl (hb1.z k1))
          · skip
            refine oGo.lconst (q := 202) (v := (1 : Int64)) at_201 rfl rfl ?_
            refine oGo.goto (q := 206) at_202 (by decide) ?_
            refine oGo.lstore (q := 208) (L' := #[.val (.long x0), .second, .val (.long x1), .second, .val (.long x2), .second, .val (.long c), .second, .val (.long g), .second, .val (.int m), .val (.int (Int32.ofNat 3)), .val (.ref a), .val (.long r), .second, .val (.int b0), .val (.int b1), .val (.int b2), .val (.long (x0 + c)), .second, .val (.long x1), .second, .val (.long x2), .second, .val (.long (1 : Int64)), .second]) at_206 rfl rfl ?_
            exact J208 _ _ _ _ _ _ _ ((R3 rfl).1 (hb2.nz k2)) (A1 (by decide)) (B2 (by decide) (hb0.z k0)) (D2 rfl (hb1.z k1))
        · skip
          refine oGo.lconst (q := 168) (v := (1 : Int64)) at_167 rfl rfl ?_
          refine oGo.goto (q := 172) at_168 (by decide) ?_
          refine oGo.lstore (q := 174) (L' := #[.val (.long x0), .second, .val (.long x1), .second, .val (.long x2), .second, .val (.long c), .second, .val (.long g), .second, .val (.int m), .val (.int (Int32.ofNat 3)), .val (.ref a), .val (.long r), .second, .val (.int b0), .val (.int b1), .val (.int b2), .val (.long (x0 + c)), .second, .val (.long x1), .second, .val (.long x2), .second, .val (.long (1 : Int64)), .second]) at_172 rfl rfl ?_
          refine oGo.iload (q := 176) at_174 rfl rfl ?_
          refine oGo.iconst (q := 177) (v := (3 : Int32)) at_176 rfl rfl ?_
          refine oGo.icmp_lt (q := 208) (r := 180) at_177 (by decide) rfl (fun hc => absurd hc (by decide)) (fun hc => ?_)
          refine oGo.iload (q := 182) at_180 rfl rfl ?_
          refine oGo.if_eq (q := 192) (r := 185) at_182 (by decide) rfl (fun hc => absurd hc k1) (fun hc => ?_)
          refine oGo.lload (q := 187) at_185 rfl rfl ?_
          refine oGo.lconst (q := 188) (v := (1 : Int64)) at_187 rfl rfl ?_
          refine oGo.ladd (q := 189) at_188 rfl ?_
          refine oGo.goto (q := 194) at_189 (by decide) ?_
          refine oGo.lstore (q := 196) (L' := #[.val (.long x0), .second, .val (.long x1), .second, .val (.long x2), .second, .val (.long c), .second, .val (.long g), .second, .val (.int m), .val (.int (Int32.ofNat 3)), .val (.ref a), .val (.long r), .second, .val (.int b0), .val (.int b1), .val (.int b2), .val (.long (x0 + c)), .second, .val (.long x1), .second, .val (.long (x2 + (1 : Int64))), .second, .val (.long (1 : Int64)), .second]) at_194 rfl rfl ?_
          refine oGo.iload (q := 198) at_196 rfl rfl ?_
          refine oGo.if_eq (q := 205) (r := 201) at_198 (by decide) rfl (fun k2 => ?_) (fun k2 => ?_)
          · skip
            refine oGo.lconst (q := 206) (v := (0 : Int64)) at_205 rfl rfl ?_
            refine oGo.lstore (q := 208) (L' := #[.val (.long x0), .second, .val (.long x1), .second, .val (.long x2), .second, .val (.long c), .second, .val (.long g), .second, .val (.int m), .val (.int (Int32.ofNat 3)), .val (.ref a), .val (.long r), .second, .val (.int b0), .val (.int b1), .val (.int b2), .val (.long (x0 + c)), .second, .val (.long x1), .second, .val (.long (x2 + (1 : Int64))), .second, .val (.long (0 : Int64)), .second]) at_206 rfl rfl ?_
            exact J208 _ _ _ _ _ _ _ ((R3 rfl).2 (hb2.z k2)) (A1 (by decide)) (B2 (by decide) (hb0.z k0)) (D1 rfl (hb1.nz k1))
          · skip
            refine oGo.lconst (q := 202) (v := (1 : Int64)) at_201 rfl rfl ?_
            refine oGo.goto (q := 206) at_202 (by decide) ?_
            refine oGo.lstore (q := 208) (L' := #[.val (.long x0), .second, .val (.long x1), .second, .val (.long x2), .second, .val (.long c), .second, .val (.long g), .second, .val (.int m), .val (.int (Int32.ofNat 3)), .val (.ref a), .val (.long r), .second, .val (.int b0), .val (.int b1), .val (.int b2), .val (.long (x0 + c)), .second, .val (.long x1), .second, .val (.long (x2 + (1 : Int64))), .second, .val (.long (1 : Int64)), .second]) at_206 rfl rfl ?_
            exact J208 _ _ _ _ _ _ _ ((R3 rfl).1 (hb2.nz k2)) (A1 (by decide)) (B2 (by decide) (hb0.z k0)) (D1 rfl (hb1.nz k1))
      · skip
        refine oGo.lconst (q := 136) (v := (1 : Int64)) at_135 rfl rfl ?_
        refine oGo.goto (q := 140) at_136 (by decide) ?_
        refine oGo.lstore (q := 142) (L' := #[.val (.long x0), .second, .val (.long x1), .second, .val (.long x2), .second, .val (.long c), .second, .val (.long g), .second, .val (.int m), .val (.int (Int32.ofNat 3)), .val (.ref a), .val (.long r), .second, .val (.int b0), .val (.int b1), .val (.int b2), .val (.long (x0 + c)), .second, .val (.long x1), .second, .val (.long x2), .second, .val (.long (1 : Int64)), .second]) at_140 rfl rfl ?_
        refine oGo.iload (q := 144) at_142 rfl rfl ?_
        refine oGo.iconst (q := 145) (v := (2 : Int32)) at_144 rfl rfl ?_
        refine oGo.icmp_lt (q := 174) (r := 148) at_145 (by decide) rfl (fun hc => absurd hc (by decide)) (fun hc => ?_)
        refine oGo.iload (q := 150) at_148 rfl rfl ?_
        refine oGo.if_eq (q := 159) (r := 153) at_150 (by decide) rfl (fun hc => absurd hc k0) (fun hc => ?_)
        refine oGo.lloadN (q := 154) at_153 rfl rfl ?_
        refine oGo.lconst (q := 155) (v := (1 : Int64)) at_154 rfl rfl ?_
        refine oGo.ladd (q := 156) at_155 rfl ?_
        refine oGo.goto (q := 160) at_156 (by decide) ?_
        refine oGo.lstore (q := 162) (L' := #[.val (.long x0), .second, .val (.long x1), .second, .val (.long x2), .second, .val (.long c), .second, .val (.long g), .second, .val (.int m), .val (.int (Int32.ofNat 3)), .val (.ref a), .val (.long r), .second, .val (.int b0), .val (.int b1), .val (.int b2), .val (.long (x0 + c)), .second, .val (.long (x1 + (1 : Int64))), .second, .val (.long x2), .second, .val (.long (1 : Int64)), .second]) at_160 rfl rfl ?_
        refine oGo.iload (q := 164) at_162 rfl rfl ?_
        refine oGo.if_eq (q := 171) (r := 167) at_164 (by decide) rfl (fun k1 => ?_) (fun k1 => ?_)
        · skip
          refine oGo.lconst (q := 172) (v := (0 : Int64)) at_171 rfl rfl ?_
          refine oGo.lstore (q := 174) (L' := #[.val (.long x0), .second, .val (.long x1), .second, .val (.long x2), .second, .val (.long c), .second, .val (.long g), .second, .val (.int m), .val (.int (Int32.ofNat 3)), .val (.ref a), .val (.long r), .second, .val (.int b0), .val (.int b1), .val (.int b2), .val (.long (x0 + c)), .second, .val (.long (x1 + (1 : Int64))), .second, .val (.long x2), .second, .val (.long (0 : Int64)), .second]) at_172 rfl rfl ?_
          refine oGo.iload (q := 176) at_174 rfl rfl ?_
          refine oGo.iconst (q := 177) (v := (3 : Int32)) at_176 rfl rfl ?_
          refine oGo.icmp_lt (q := 208) (r := 180) at_177 (by decide) rfl (fun hc => absurd hc (by decide)) (fun hc => ?_)
          refine oGo.iload (q := 182) at_180 rfl rfl ?_
          refine oGo.if_eq (q := 192) (r := 185) at_182 (by decide) rfl (fun hc => ?_) (fun hc => absurd k1 hc)
          refine oGo.lload (q := 194) at_192 rfl rfl ?_
          refine oGo.lstore (q := 196) (L' := #[.val (.long x0), .second, .val (.long x1), .second, .val (.long x2), .second, .val (.long c), .second, .val (.long g), .second, .val (.int m), .val (.int (Int32.ofNat 3)), .val (.ref a), .val (.long r), .second, .val (.int b0), .val (.int b1), .val (.int b2), .val (.long (x0 + c)), .second, .val (.long (x1 + (1 : Int64))), .second, .val (.long x2), .second, .val (.long (0 : Int64)), .second]) at_194 rfl rfl ?_
          refine oGo.iload (q := 198) at_196 rfl rfl ?_
          refine oGo.if_eq (q := 205) (r := 201) at_198 (by decide) rfl (fun k2 => ?_) (fun k2 => ?_)
          · skip
            refine oGo.lconst (q := 206) (v := (0 : Int64)) at_205 rfl rfl ?_
            refine oGo.lstore (q := 208) (L' := #[.val (.long x0), .second, .val (.long x1), .second, .val (.long x2), .second, .val (.long c), .second, .val (.long g), .second, .val (.int m), .val (.int (Int32.ofNat 3)), .val (.ref a), .val (.long r), .second, .val (.int b0), .val (.int b1), .val (.int b2), .val (.long (x0 + c)), .second, .val (.long (x1 + (1 : Int64))), .second, .val (.long x2), .second, .val (.long (0 : Int64)), .second]) at_206 rfl rfl ?_
            exact J208 _ _ _ _ _ _ _ ((R3 rfl).2 (hb2.z k2)) (A1 (by decide)) (B1 (by decide) (hb0.nz k0)) (D2 rfl (hb1.z k1))
          · skip
            refine oGo.lconst (q := 202) (v := (1 : Int64)) at_201 rfl rfl ?_
            refine oGo.goto (q := 206) at_202 (by decide) ?_
            refine oGo.lstore (q := 208) (L' := #[.val (.long x0), .second, .val (.long x1), .second, .val (.long x2), .second, .val (.long c), .second, .val (.long g), .second, .val (.int m), .val (.int (Int32.ofNat 3)), .val (.ref a), .val (.long r), .second, .val (.int b0), .val (.int b1), .val (.int b2), .val (.long (x0 + c)), .second, .val (.long (x1 + (1 : Int64))), .second, .val (.long x2), .second, .val (.long (1 : Int64)), .second]) at_206 rfl rfl ?_
            exact J208 _ _ _ _ _ _ _ ((R3 rfl).1 (hb2.nz k2)) (A1 (by decide)) (B1 (by decide) (hb0.nz k0)) (D2 rfl (hb1.z k1))
        · skip
          refine oGo.lconst (q := 168) (v := (1 : Int64)) at_167 rfl rfl ?_
          refine oGo.goto (q := 172) at_168 (by decide) ?_
          refine oGo.lstore (q := 174) (L' := #[.val (.long x0), .second, .val (.long x1), .second, .val (.long x2), .second, .val (.long c), .second, .val (.long g), .second, .val (.int m), .val (.int (Int32.ofNat 3)), .val (.ref a), .val (.long r), .second, .val (.int b0), .val (.int b1), .val (.int b2), .val (.long (x0 + c)), .second, .val (.long (x1 + (1 : Int64))), .second, .val (.long x2), .second, .val (.long (1 : Int64)), .second]) at_172 rfl rfl ?_
          refine oGo.iload (q := 176) at_174 rfl rfl ?_
          refine oGo.iconst (q := 177) (v := (3 : Int32)) at_176 rfl rfl ?_
          refine oGo.icmp_lt (q := 208) (r := 180) at_177 (by decide) rfl (fun hc => absurd hc (by decide)) (fun hc => ?_)
          refine oGo.iload (q := 182) at_180 rfl rfl ?_
          refine oGo.if_eq (q := 192) (r := 185) at_182 (by decide) rfl (fun hc => absurd hc k1) (fun hc => ?_)
          refine oGo.lload (q := 187) at_185 rfl rfl ?_
          refine oGo.lconst (q := 188) (v := (1 : Int64)) at_187 rfl rfl ?_
          refine oGo.ladd (q := 189) at_188 rfl ?_
          refine oGo.goto (q := 194) at_189 (by decide) ?_
          refine oGo.lstore (q := 196) (L' := #[.val (.long x0), .second, .val (.long x1), .second, .val (.long x2), .second, .val (.long c), .second, .val (.long g), .second, .val (.int m), .val (.int (Int32.ofNat 3)), .val (.ref a), .val (.long r), .second, .val (.int b0), .val (.int b1), .val (.int b2), .val (.long (x0 + c)), .second, .val (.long (x1 + (1 : Int64))), .second, .val (.long (x2 + (1 : Int64))), .second, .val (.long (1 : Int64)), .second]) at_194 rfl rfl ?_
          refine oGo.iload (q := 198) at_196 rfl rfl ?_
          refine oGo.if_eq (q := 205) (r := 201) at_198 (by decide) rfl (fun k2 => ?_) (fun k2 => ?_)
          · skip
            refine oGo.lconst (q := 206) (v := (0 : Int64)) at_205 rfl rfl ?_
            refine oGo.lstore (q := 208) (L' := #[.val (.long x0), .second, .val (.long x1), .second, .val (.long x2), .second, .val (.long c), .second, .val (.long g), .second, .val (.int m), .val (.int (Int32.ofNat 3)), .val (.ref a), .val (.long r), .second, .val (.int b0), .val (.int b1), .val (.int b2), .val (.long (x0 + c)), .second, .val (.long (x1 + (1 : Int64))), .second, .val (.long (x2 + (1 : Int64))), .second, .val (.long (0 : Int64)), .second]) at_206 rfl rfl ?_
            exact J208 _ _ _ _ _ _ _ ((R3 rfl).2 (hb2.z k2)) (A1 (by decide)) (B1 (by decide) (hb0.nz k0)) (D1 rfl (hb1.nz k1))
          · skip
            refine oGo.lconst (q := 202) (v := (1 : Int64)) at_201 rfl rfl ?_
            refine oGo.goto (q := 206) at_202 (by decide) ?_
            refine oGo.lstore (q := 208) (L' := #[.val (.long x0), .second, .val (.long x1), .second, .val (.long x2), .second, .val (.long c), .second, .val (.long g), .second, .val (.int m), .val (.int (Int32.ofNat 3)), .val (.ref a), .val (.long r), .second, .val (.int b0), .val (.int b1), .val (.int b2), .val (.long (x0 + c)), .second, .val (.long (x1 + (1 : Int64))), .second, .val (.long (x2 + (1 : Int64))), .second, .val (.long (1 : Int64)), .second]) at_206 rfl rfl ?_
            exact J208 _ _ _ _ _ _ _ ((R3 rfl).1 (hb2.nz k2)) (A1 (by decide)) (B1 (by decide) (hb0.nz k0)) (D1 rfl (hb1.nz k1))
  have J81 : ∀ b1 : Int32, own_b b1 (own_K c x0 ∧ x1 = -1) → oGo Z x.cls x.name code maxLocals ret room_1 n0 (fun v _ => v = some (.int 1)) 1 5 h20 81 #[.val (.long x0), .second, .val (.long x1), .second, .val (.long x2), .second, .val (.long c), .second, .val (.long g), .second, .val (.int m), .val (.int (Int32.ofNat n)), .val (.ref a), .val (.long r), .second, .val (.int b0), .unset, .unset, .unset, .unset, .unset, .unset, .unset, .unset, .unset, .unset] [(.int b1)] := by
    intro b1 hb1
    refine oGo.istore (q := 83) (L' := #[.val (.long x0), .second, .val (.long x1), .second, .val (.long x2), .second, .val (.long c), .second, .val (.long g), .second, .val (.int m), .val (.int (Int32.ofNat n)), .val (.ref a), .val (.long r), .second, .val (.int b0), .val (.int b1), .unset, .unset, .unset, .unset, .unset, .unset, .unset, .unset, .unset]) at_81 rfl rfl ?_
    refine oGo.iload (q := 85) at_83 rfl rfl ?_
    refine oGo.if_eq (q := 101) (r := 88) at_85 (by decide) rfl (fun hc => ?_) (fun hc => ?_)
    · skip
      refine oGo.iconst (q := 102) (v := (0 : Int32)) at_101 rfl rfl ?_
      exact J102 _ _ hb1 (own_b.f fun z => hb1.z hc ⟨z.1, z.2.1⟩)
    · skip
      refine oGo.lload (q := 90) at_88 rfl rfl ?_
      refine oGo.ldc2 (q := 93) (v := (-1 : Int64)) at_90 rfl (hw _ (List.mem_of_getElem? (i := 13) rfl)) ?_
      refine oGo.lif_ne (pc2 := 94) (q := 101) (r := 97) at_93 rfl at_94 (by decide) rfl (fun hc2 => ?_) (fun hc2 => ?_)
      · skip
        refine oGo.iconst (q := 102) (v := (0 : Int32)) at_101 rfl rfl ?_
        exact J102 _ _ hb1 (own_b.f fun z => hc2 z.2.2)
      · skip
        refine oGo.iconst (q := 98) (v := (1 : Int32)) at_97 rfl rfl ?_
        refine oGo.goto (q := 102) at_98 (by decide) ?_
        exact J102 _ _ hb1 (own_b.t ⟨(hb1.nz hc).1, (hb1.nz hc).2, hc2⟩)
  refine oGo.if_eq (q := 80) (r := 68) at_65 (by decide) rfl (fun hc => ?_) (fun hc => ?_)
  · skip
    refine oGo.iconst (q := 81) (v := (0 : Int32)) at_80 rfl rfl ?_
    exact J81 _ (own_b.f fun z => hb0.z hc z.1)
  · skip
    refine oGo.lloadN (q := 69) at_68 rfl rfl ?_
    refine oGo.ldc2 (q := 72) (v := (-1 : Int64)) at_69 rfl (hw _ (List.mem_of_getElem? (i := 13) rfl)) ?_
    refine oGo.lif_ne (pc2 := 73) (q := 80) (r := 76) at_72 rfl at_73 (by decide) rfl (fun hc2 => ?_) (fun hc2 => ?_)
    · skip
      refine oGo.iconst (q := 81) (v := (0 : Int32)) at_80 rfl rfl ?_
      exact J81 _ (own_b.f fun z => hc2 z.2)
    · skip
      refine oGo.iconst (q := 77) (v := (1 : Int32)) at_76 rfl rfl ?_
      refine oGo.goto (q := 81) at_77 (by decide) ?_
      exact J81 _ (own_b.t ⟨hb0.nz hc, hc2⟩)
set_option maxRecDepth 65536 in
set_option maxHeartbeats 40000000 in
theorem comes_1 {Post : Tables → Env → Array Value → State → Outcome → State → Prop} (hpost : ∀ tb e args s v u, (limb_1_1.after args s (.returned v) u = true ∧ limb_1_2.after args s (.returned v) u = true ∧ True) → FrameEnd s (.returned v) u (Jvm.fieldLocs frame_1_writes args s ++ Jvm.arrayLocs frame_1_arrays args s ++ Jvm.staticLocs frame_1_statics s) 16 128 → Post tb e args s (.returned v) u) :
    ArmFor flags0 classFile x code maxLocals ret World_1 tables_1 room_1 Calls_1 rest_1 Pre_1 Post := by
  intro l hfl _ _ p e ha hc hk s m args below hf hA hF happ hP
  obtain ⟨hcalls, hrest, hpre⟩ := hP
  obtain ⟨-, -, -, hnamed, -, -, -, hat⟩ := (Spec.applies_iff hf).mp happ
  obtain ⟨hg, hn⟩ := and_e (Cond.before_iff.mp (show (Jvm.Cond.and given_1 narrow_1).before args s = true from hpre))
  obtain ⟨h1, g0⟩ := and_e hg
  obtain ⟨b0, g1⟩ := and_e g0
  obtain ⟨b1, g2⟩ := and_e g1
  obtain ⟨b2, g3⟩ := and_e g2
  obtain ⟨b3, g4⟩ := and_e g3
  obtain ⟨b4, g5⟩ := and_e g4
  have b5 := g5
  obtain ⟨w0, w1, w2, w3, w4, w5, rfl⟩ : ∃ w0 w1 w2 w3 w4 w5 : Value, args = #[w0, w1, w2, w3, w4, w5] := by
    have hs : args.size = 6 := by simpa [Cond.value, given_1] using h1
    obtain ⟨L⟩ := args
    match L, hs with
    | [w0, w1, w2, w3, w4, w5], _ => exact ⟨w0, w1, w2, w3, w4, w5, rfl⟩
  have hw := fun d (hd : d ∈ tables_1) => atoms_spec (ws := Jvm.Cond.code x code maxLocals ret :: tables_1) hat d (List.mem_cons_of_mem _ hd)
  have hfit : Fit s := fun {y c} hc i hi => by
    obtain ⟨ha, rfl⟩ := Array.getElem?_eq_some_iff.mp hc
    have q := List.all_eq_true.mp ((Array.all_eq_true_iff_forall_mem.mp hF) _ (Array.getElem_mem ha)) i (List.mem_range.mpr hi)
    simpa [Array.getElem?_eq_getElem hi] using q
  obtain ⟨i0, e0⟩ := isL_v b0
  obtain rfl : w0 = (.long i0) := Option.some.inj e0
  obtain ⟨i1, e1⟩ := isL_v b1
  obtain rfl : w1 = (.long i1) := Option.some.inj e1
  obtain ⟨i2, e2⟩ := isL_v b2
  obtain rfl : w2 = (.long i2) := Option.some.inj e2
  obtain ⟨i3, e3⟩ := isL_v b3
  obtain rfl : w3 = (.long i3) := Option.some.inj e3
  obtain ⟨i4, e4⟩ := isL_v b4
  obtain rfl : w4 = (.long i4) := Option.some.inj e4
  obtain ⟨i5, e5⟩ := is_v b5
  obtain rfl : w5 = (.int i5) := Option.some.inj e5
  obtain ⟨n, o, q1, q2, q3, _, L, rfl, ⟨rfl, N⟩, hq⟩ := (law hw i0 i1 i2 i3 i4 i5 s.heap s.heap.size (Nat.le_refl _)) l tables_1 p e ha hc hk s m _ below hf ((Spec.applies_iff_loose hf).mp happ).1 ⟨rfl, State.Warmed39.refl s, rfl⟩ trivial
  refine ⟨n, _, q1, q2, q3, hpost _ _ _ _ _ _ ⟨Cond.after_iff.mpr rfl, Cond.after_iff.mpr (eq_i res_at (Term.int_eval (1)) rfl), trivial⟩ ⟨hq.1, hq.2.1, (hq.2.2.sift fun y hy => Or.inr (N y hy)).mono (by decide) (by decide)⟩⟩
theorem main_1_1 : Claimed_1_1 := comes_1 fun _ _ _ _ _ _ h hF => ⟨h.1, hF⟩
theorem main_1_2 : Claimed_1_2 := comes_1 fun _ _ _ _ _ _ h hF => ⟨h.2.1, hF⟩
end Jvm.Pilot.@@N@@
namespace Jvm.Pilot.@@N@@
open Jvm Jvm.ClassFile Sem Op Lib Jvm.Free Jvm.Stand Jvm.Pilot.@@N@@.Jvm.D
/-! MADE BY PROGRAM (witnessworld.py) out of the Statement's table words and the real class files: 16 classes; the members and pool entries that the words name. The judged class is class 1, her method 2. -/
namespace start1
open Jvm.ClassFile
def u (s : String) : CpInfo := .utf8 (stringToUtf16 s)
/-- a pool by its gaps: so many unusable entries, then the entry; so many at the end -/
def gap : Nat → List CpInfo → List CpInfo
  | 0, r => r
  | n + 1, r => .unusable :: gap n r
def poolList (es : List (Nat × CpInfo)) (last : Nat) : List CpInfo := es.foldr (fun e r => gap e.1 (e.2 :: r)) (gap last [])
def pool (es : List (Nat × CpInfo)) (last : Nat) : Array CpInfo := ⟨poolList es last⟩
def fileOf (pool : Array CpInfo) (this : Nat) (attrs : Array Attribute := #[]) (ms : Array MethodInfo := #[]) (fl : Nat := 33) (sup : Nat := 0) (ifs : Array Nat := #[]) (fds : Array FieldInfo := #[]) : ClassFile where
  minorVersion := 0
  majorVersion := 65
  constantPool := pool
  accessFlags := fl
  thisClass := this
  superClass := sup
  interfaces := ifs
  fields := fds
  methods := ms
  attributes := attrs
def plain (name : String) (sup : Option ClassId) : Class where
  name := name
  kind := .ordinary
  loader := none
  accessFlags := 33
  super := sup
  interfaces := #[]
  cf := none
  fields := #[]
  methods := #[]
  instanceTypes := #[]
  staticTypes := #[]
  resolved := #[]
  callSites := []
  init := .initialized
  statics := none
  mirror := none

def pool0 : Array CpInfo := pool [(5, u "<init>"), (0, u "()V"), (1, .class_ 10), (1, u "java/lang/Object")] 113

def k0m0 : Method := { name := "<init>", desc := "()V", sig := { parameters := [], returnType := none }, accessFlags := 1, code := none }
/-- java/lang/Object -/
def k0 : Class := { plain "java/lang/Object" none with
  accessFlags := 33
  interfaces := #[]
  cf := some (fileOf pool0 8 #[] #[{ accessFlags := 1, nameIndex := 5, descriptorIndex := 6, attributes := #[] }] 33 0 #[] #[])
  fields := #[]
  methods := #[k0m0]
  instanceTypes := #[]
  staticTypes := #[]
  resolved := Array.replicate 124 none
  statics := none }

def pool1 : Array CpInfo := pool [(2, .class_ 4), (1, u "java/lang/Object"), (0, u "<init>"), (0, u "()V"), (2, .long 9223372036854775808), (1, .methodref 12 13), (0, .class_ 14), (0, .nameAndType 15 16), (0, u "example/rootwise/internal/Naturals"), (0, u "addWord"), (0, u "([JIIJ)J"), (0, .long 18446744073709551615), (1, .methodref 20 21), (0, .class_ 22), (0, .nameAndType 23 24), (0, u "example/rootwise/internal/NaturalsAddWordPinLaw"), (0, u "ult"), (0, u "(JJ)Z"), (3, u "law"), (0, u "(JJJJJI)Z")] 4

def k1m0 : Method := { name := "<init>", desc := "()V", sig := { parameters := [], returnType := none }, accessFlags := 1, code := none }
def k1c1 : Code := { maxStack := 6, maxLocals := 4, code := method_2_code, exceptionTable := #[], attributes := #[] }
def k1m1 : Method := { name := "ult", desc := "(JJ)Z", sig := { parameters := [.long, .long], returnType := some .boolean }, accessFlags := 10, code := some k1c1 }
def k1c2 : Code := { maxStack := 5, maxLocals := 26, code := code, exceptionTable := #[], attributes := #[] }
def k1m2 : Method := { name := "law", desc := "(JJJJJI)Z", sig := { parameters := [.long, .long, .long, .long, .long, .int], returnType := some .boolean }, accessFlags := 9, code := some k1c2 }
/-- example/rootwise/internal/NaturalsAddWordPinLaw -/
def k1 : Class := { plain "example/rootwise/internal/NaturalsAddWordPinLaw" (some 0) with
  accessFlags := 49
  interfaces := #[]
  cf := some (fileOf pool1 20 #[] #[{ accessFlags := 1, nameIndex := 5, descriptorIndex := 6, attributes := #[] }, { accessFlags := 10, nameIndex := 23, descriptorIndex := 24, attributes := #[] }, { accessFlags := 9, nameIndex := 28, descriptorIndex := 29, attributes := #[] }] 49 2 #[] #[])
  fields := #[]
  methods := #[k1m0, k1m1, k1m2]
  instanceTypes := #[]
  staticTypes := #[]
  resolved := Array.replicate 34 none
  statics := none }

def pool2 : Array CpInfo := pool [(3, .class_ 4), (0, u "java/lang/Long"), (1, .class_ 8), (1, u "java/lang/Object"), (0, u "<init>"), (0, u "()V"), (7, .class_ 20), (1, u "example/rootwise/internal/Naturals"), (0, u "BYTES_AS_WORDS"), (0, u "Ljava/lang/invoke/VarHandle;"), (88, u "([JIIJ)J"), (10, .methodref 3 123), (0, .nameAndType 124 125), (0, u "compareUnsigned"), (0, u "(JJ)I"), (44, u "LOW_HALF"), (0, u "J"), (1, u "SCHOOLBOOK_MULTIPLY_WORDS"), (0, u "I"), (1, u "SCHOOLBOOK_SQUARE_WORDS"), (0, u "TRANSFORM_WORDS"), (1, u "RECURSIVE_DIVIDE_WORDS"), (10, u "addWord")] 3

def k2m0 : Method := { name := "<init>", desc := "()V", sig := { parameters := [], returnType := none }, accessFlags := 2, code := none }
def k2c1 : Code := { maxStack := 4, maxLocals := 10, code := prog_34_method_21_code, exceptionTable := #[], attributes := #[] }
def k2m1 : Method := { name := "addWord", desc := "([JIIJ)J", sig := { parameters := [(.array .long), .int, .int, .long], returnType := some .long }, accessFlags := 9, code := some k2c1 }
/-- example/rootwise/internal/Naturals -/
def k2 : Class := { plain "example/rootwise/internal/Naturals" (some 0) with
  accessFlags := 49
  interfaces := #[]
  cf := some (fileOf pool2 18 #[] #[{ accessFlags := 2, nameIndex := 9, descriptorIndex := 10, attributes := #[] }, { accessFlags := 9, nameIndex := 190, descriptorIndex := 111, attributes := #[] }] 49 6 #[] #[{ accessFlags := 25, nameIndex := 170, descriptorIndex := 171, attributes := #[] }, { accessFlags := 24, nameIndex := 173, descriptorIndex := 174, attributes := #[] }, { accessFlags := 24, nameIndex := 176, descriptorIndex := 174, attributes := #[] }, { accessFlags := 24, nameIndex := 177, descriptorIndex := 174, attributes := #[] }, { accessFlags := 24, nameIndex := 179, descriptorIndex := 174, attributes := #[] }, { accessFlags := 26, nameIndex := 21, descriptorIndex := 22, attributes := #[] }])
  fields := #[{ name := "LOW_HALF", type := .long, accessFlags := 25, slot := 0, constantValue := 0 }, { name := "SCHOOLBOOK_MULTIPLY_WORDS", type := .int, accessFlags := 24, slot := 1, constantValue := 0 }, { name := "SCHOOLBOOK_SQUARE_WORDS", type := .int, accessFlags := 24, slot := 2, constantValue := 0 }, { name := "TRANSFORM_WORDS", type := .int, accessFlags := 24, slot := 3, constantValue := 0 }, { name := "RECURSIVE_DIVIDE_WORDS", type := .int, accessFlags := 24, slot := 4, constantValue := 0 }, { name := "BYTES_AS_WORDS", type := (.object "java/lang/invoke/VarHandle"), accessFlags := 26, slot := 5, constantValue := 0 }]
  methods := #[k2m0, k2m1]
  instanceTypes := #[]
  staticTypes := #[.long, .int, .int, .int, .int, (.object "java/lang/invoke/VarHandle")]
  resolved := Array.replicate 194 none
  statics := none }

def pool3 : Array CpInfo := pool [(1, .class_ 2), (0, u "java/io/Serializable"), (0, .class_ 4), (0, u "java/lang/Object")] 2

/-- java/io/Serializable -/
def k3 : Class := { plain "java/io/Serializable" (some 0) with
  accessFlags := 1537
  interfaces := #[]
  cf := some (fileOf pool3 1 #[] #[] 1537 3 #[] #[])
  fields := #[]
  methods := #[]
  instanceTypes := #[]
  staticTypes := #[]
  resolved := Array.replicate 7 none
  statics := none }

def pool4 : Array CpInfo := pool [(2, .class_ 4), (1, u "java/lang/Object"), (0, u "<init>"), (0, u "()V"), (1, .class_ 10), (1, u "java/lang/Number"), (2, .class_ 14), (0, u "java/io/Serializable"), (0, u "serialVersionUID"), (0, u "J")] 20

def k4m0 : Method := { name := "<init>", desc := "()V", sig := { parameters := [], returnType := none }, accessFlags := 1, code := none }
/-- java/lang/Number -/
def k4 : Class := { plain "java/lang/Number" (some 0) with
  accessFlags := 1057
  interfaces := #[3]
  cf := some (fileOf pool4 8 #[] #[{ accessFlags := 1, nameIndex := 5, descriptorIndex := 6, attributes := #[] }] 1057 2 #[13] #[{ accessFlags := 26, nameIndex := 15, descriptorIndex := 16, attributes := #[] }])
  fields := #[{ name := "serialVersionUID", type := .long, accessFlags := 26, slot := 0, constantValue := 0 }]
  methods := #[k4m0]
  instanceTypes := #[]
  staticTypes := #[.long]
  resolved := Array.replicate 37 none
  statics := none }

def pool5 : Array CpInfo := pool [(1, .class_ 2), (0, u "java/lang/Comparable"), (0, .class_ 4), (0, u "java/lang/Object")] 7

/-- java/lang/Comparable -/
def k5 : Class := { plain "java/lang/Comparable" (some 0) with
  accessFlags := 1537
  interfaces := #[]
  cf := some (fileOf pool5 1 #[] #[] 1537 3 #[] #[])
  fields := #[]
  methods := #[]
  instanceTypes := #[]
  staticTypes := #[]
  resolved := Array.replicate 12 none
  statics := none }

def pool6 : Array CpInfo := pool [(1, .class_ 2), (0, u "java/lang/constant/Constable"), (0, .class_ 4), (0, u "java/lang/Object")] 6

/-- java/lang/constant/Constable -/
def k6 : Class := { plain "java/lang/constant/Constable" (some 0) with
  accessFlags := 1537
  interfaces := #[]
  cf := some (fileOf pool6 1 #[] #[] 1537 3 #[] #[])
  fields := #[]
  methods := #[]
  instanceTypes := #[]
  staticTypes := #[]
  resolved := Array.replicate 11 none
  statics := none }

def pool7 : Array CpInfo := pool [(1, .class_ 2), (0, u "java/lang/constant/ConstantDesc"), (0, .class_ 4), (0, u "java/lang/Object")] 32

/-- java/lang/constant/ConstantDesc -/
def k7 : Class := { plain "java/lang/constant/ConstantDesc" (some 0) with
  accessFlags := 1537
  interfaces := #[]
  cf := some (fileOf pool7 1 #[] #[] 1537 3 #[] #[])
  fields := #[]
  methods := #[]
  instanceTypes := #[]
  staticTypes := #[]
  resolved := Array.replicate 37 none
  statics := none }

def pool8 : Array CpInfo := pool [(1, .class_ 2), (0, u "java/lang/Long"), (165, .long 9223372036854775808), (66, .class_ 237), (1, u "java/lang/Long$LongCache"), (33, .class_ 272), (0, u "java/lang/Number"), (2, u "value"), (0, u "J"), (25, .methodref 1 303), (0, .nameAndType 304 305), (0, u "compare"), (0, u "(JJ)I"), (55, u "TYPE"), (0, u "Ljava/lang/Class;"), (0, .class_ 364), (0, u "java/lang/Comparable"), (0, .class_ 366), (0, u "java/lang/constant/Constable"), (0, .class_ 368), (0, u "java/lang/constant/ConstantDesc"), (0, u "MIN_VALUE"), (1, u "MAX_VALUE"), (4, u "SIZE"), (0, u "I"), (1, u "BYTES"), (1, u "serialVersionUID"), (87, u "compareUnsigned")] 54

def k8c0 : Code := { maxStack := 4, maxLocals := 4, code := jdk_35_method_42_code, exceptionTable := #[], attributes := #[] }
def k8m0 : Method := { name := "compare", desc := "(JJ)I", sig := { parameters := [.long, .long], returnType := some .int }, accessFlags := 9, code := some k8c0 }
def k8c1 : Code := { maxStack := 6, maxLocals := 4, code := jdk_35_method_43_code, exceptionTable := #[], attributes := #[] }
def k8m1 : Method := { name := "compareUnsigned", desc := "(JJ)I", sig := { parameters := [.long, .long], returnType := some .int }, accessFlags := 9, code := some k8c1 }
/-- java/lang/Long -/
def k8 : Class := { plain "java/lang/Long" (some 4) with
  accessFlags := 49
  interfaces := #[5, 6, 7]
  cf := some (fileOf pool8 1 #[.nestMembers #[235]] #[{ accessFlags := 9, nameIndex := 304, descriptorIndex := 305, attributes := #[] }, { accessFlags := 9, nameIndex := 469, descriptorIndex := 305, attributes := #[] }] 49 271 #[363, 365, 367] #[{ accessFlags := 25, nameIndex := 369, descriptorIndex := 276, attributes := #[] }, { accessFlags := 25, nameIndex := 371, descriptorIndex := 276, attributes := #[] }, { accessFlags := 25, nameIndex := 361, descriptorIndex := 362, attributes := #[] }, { accessFlags := 18, nameIndex := 275, descriptorIndex := 276, attributes := #[] }, { accessFlags := 25, nameIndex := 376, descriptorIndex := 377, attributes := #[] }, { accessFlags := 25, nameIndex := 379, descriptorIndex := 377, attributes := #[] }, { accessFlags := 26, nameIndex := 381, descriptorIndex := 276, attributes := #[] }])
  fields := #[{ name := "MIN_VALUE", type := .long, accessFlags := 25, slot := 0, constantValue := 0 }, { name := "MAX_VALUE", type := .long, accessFlags := 25, slot := 1, constantValue := 0 }, { name := "TYPE", type := (.object "java/lang/Class"), accessFlags := 25, slot := 2, constantValue := 0 }, { name := "value", type := .long, accessFlags := 18, slot := 0, constantValue := 0 }, { name := "SIZE", type := .int, accessFlags := 25, slot := 3, constantValue := 0 }, { name := "BYTES", type := .int, accessFlags := 25, slot := 4, constantValue := 0 }, { name := "serialVersionUID", type := .long, accessFlags := 26, slot := 5, constantValue := 0 }]
  methods := #[k8m0, k8m1]
  instanceTypes := #[.long]
  staticTypes := #[.long, .long, (.object "java/lang/Class"), .int, .int, .long]
  resolved := Array.replicate 524 none
  statics := none }

def pool9 : Array CpInfo := pool [(1, u "java/lang/Cloneable"), (0, .class_ 1), (0, u "java/lang/Object"), (0, .class_ 3)] 3

/-- java/lang/Cloneable -/
def k9 : Class := { plain "java/lang/Cloneable" (some 0) with
  accessFlags := 1537
  interfaces := #[]
  cf := some (fileOf pool9 2 #[] #[] 1537 4 #[] #[])
  fields := #[]
  methods := #[]
  instanceTypes := #[]
  staticTypes := #[]
  resolved := Array.replicate 8 none
  statics := none }

/-- the primitive byte -/
def k10 : Class := { plain "byte" none with kind := .primitive 'B', accessFlags := 0x411 }
/-- [B -/
def k11 : Class := { plain "[B" (some 0) with kind := .array 10 .byte, interfaces := #[9, 3], accessFlags := 1041 }

/-- the primitive int -/
def k12 : Class := { plain "int" none with kind := .primitive 'I', accessFlags := 0x411 }
/-- [I -/
def k13 : Class := { plain "[I" (some 0) with kind := .array 12 .int, interfaces := #[9, 3], accessFlags := 1041 }

/-- the primitive long -/
def k14 : Class := { plain "long" none with kind := .primitive 'J', accessFlags := 0x411 }
/-- [J -/
def k15 : Class := { plain "[J" (some 0) with kind := .array 14 .long, interfaces := #[9, 3], accessFlags := 1041 }

def heap : Heap := #[]
def classes : Array Class := #[k0, k1, k2, k3, k4, k5, k6, k7, k8, k9, k10, k11, k12, k13, k14, k15]
def interned : List (Array UInt16 × Addr) := []
def slotsUsed : Nat := 0
def theMethod : MethodId := ⟨1, 2⟩
def args0 : Array Value := #[.long 5, .long 2, .long 5, .long 2, .long 2, .int 2]
def aboutOver (below : List Frame) : State where
  vm := { classes := classes, interned := interned.toArray }
  heap := heap
  slotsUsed := slotsUsed
  threads := #[{ frames := .invoking theMethod args0 :: below }]
def below0 : List Frame := [.native { method := ⟨0, 0⟩, args := #[] }]
def about1 : State := aboutOver below0
def p0 : Program := .bare "" "" ""
def e0 : Env := launch0.env 0 0 0
theorem w_frames : about1.frames = Frame.invoking theMethod args0 :: below0 := rfl
set_option maxRecDepth 65536 in
theorem w_args : argsFit about1.vm theMethod args0 = true := by decide +kernel
set_option maxRecDepth 65536 in
theorem w_heap : heapFits about1 = true := by decide +kernel
set_option maxRecDepth 65536 in
theorem w_runnable : about1.curStatus? = some .runnable := by decide +kernel
set_option maxRecDepth 65536 in
theorem w_alone : about1.alone = true := by decide +kernel
set_option maxRecDepth 65536 in
theorem w_named : about1.methodNamed? x = some theMethod := by decide +kernel
set_option maxRecDepth 65536 in
theorem w_hears : about1.hears theMethod below0 = true := by decide +kernel
set_option maxRecDepth 65536 in
theorem w_ripe : about1.ripe theMethod args0 below0 = true := by decide +kernel
theorem w_running : about1.status = .running := rfl
set_option maxRecDepth 65536 in
theorem w_room : about1.hasRoom e0.platform room_1 = true :=
  launch0.hasRoom_least _ room_1 (by decide +kernel) (by decide +kernel) (by decide +kernel) (by decide +kernel) (by decide +kernel) (by decide +kernel)
theorem allAtoms_all (ts : List Jvm.Cond) (a : Array Jvm.Value) (st : Jvm.State) : (allAtoms ts).before a st = ts.all (fun c => c.before a st) := by
  induction ts with
  | nil => rfl
  | cons c t ih =>
    show (Jvm.Cond.and c (allAtoms t)).before a st = _
    rw [Jvm.Cond.before_and, ih, List.all_cons]
def words1 : List Jvm.Cond := Jvm.Cond.code x code maxLocals ret :: tables_1
/-- a 'code' word, met by the world's own term for the bytes: nothing is compared byte by byte -/
theorem code_word {y : MethodName} {bytes : ByteArray} {mx : Nat} {rt : Option FieldType} {a : Array Value} {s : State} {m : MethodId} {meth : Method} {c : Code} (h1 : s.methodNamed? y = some m) (h2 : s.vm.method? m = some meth) (h3 : meth.code = some c) (h4 : c.code = bytes)
    (h5 : (c.maxLocals == mx && c.exceptionTable.isEmpty && decide (c.maxStack ≤ mostOperands) && decide (meth.sig.returnType = rt) && !meth.locks && decide (parseMethodDescriptor y.desc = some meth.sig)) = true) : (Jvm.Cond.code y bytes mx rt).before a s = true := by
  simp only [Bool.and_eq_true, beq_iff_eq, Bool.not_eq_true', decide_eq_true_eq] at h5
  obtain ⟨⟨⟨⟨⟨g1, g2⟩, g3⟩, g4⟩, g5⟩, g6⟩ := h5
  simp [Cond.before, Cond.holds, Cond.value, h1, h2, h3, h4, g1, g2, g3, g4, g5, g6]
def isCode : Jvm.Cond → Bool
  | .code _ _ _ _ => true
  | _ => false
theorem all_split {L : List Jvm.Cond} {P : Jvm.Cond → Bool} (h1 : L.all (fun c => isCode c || P c) = true) (h2 : ∀ c ∈ L.filter isCode, P c = true) : L.all P = true := by
  refine List.all_eq_true.mpr fun c hc => ?_
  have h := List.all_eq_true.mp h1 c hc
  rcases Bool.eq_false_or_eq_true (isCode c) with hi | hi
  · exact h2 c (List.mem_filter.mpr ⟨hc, hi⟩)
  · simpa [hi] using h
set_option maxRecDepth 65536 in
theorem w_c0 : (Jvm.Cond.code x code maxLocals ret).before args0 about1 = true := code_word (m := ⟨1, 2⟩) (meth := k1m2) (c := k1c2) (by decide +kernel) rfl rfl rfl (by decide +kernel)
set_option maxRecDepth 65536 in
theorem w_c1 : (Jvm.Cond.code ({ cls := "example/rootwise/internal/Naturals", name := "addWord", desc := "([JIIJ)J" } : Jvm.MethodName) prog_34_method_21_code (10 : Nat) (Option.some Jvm.ClassFile.FieldType.long)).before args0 about1 = true := code_word (m := ⟨2, 1⟩) (meth := k2m1) (c := k2c1) (by decide +kernel) rfl rfl rfl (by decide +kernel)
set_option maxRecDepth 65536 in
theorem w_c2 : (Jvm.Cond.code ({ cls := "java/lang/Long", name := "compareUnsigned", desc := "(JJ)I" } : Jvm.MethodName) jdk_35_method_43_code (4 : Nat) (Option.some Jvm.ClassFile.FieldType.int)).before args0 about1 = true := code_word (m := ⟨8, 1⟩) (meth := k8m1) (c := k8c1) (by decide +kernel) rfl rfl rfl (by decide +kernel)
set_option maxRecDepth 65536 in
theorem w_c3 : (Jvm.Cond.code ({ cls := "java/lang/Long", name := "compare", desc := "(JJ)I" } : Jvm.MethodName) jdk_35_method_42_code (4 : Nat) (Option.some Jvm.ClassFile.FieldType.int)).before args0 about1 = true := code_word (m := ⟨8, 0⟩) (meth := k8m0) (c := k8c0) (by decide +kernel) rfl rfl rfl (by decide +kernel)
set_option maxRecDepth 65536 in
theorem w_c4 : (Jvm.Cond.code ({ cls := "example/rootwise/internal/NaturalsAddWordPinLaw", name := "ult", desc := "(JJ)Z" } : Jvm.MethodName) method_2_code (4 : Nat) (Option.some Jvm.ClassFile.FieldType.boolean)).before args0 about1 = true := code_word (m := ⟨1, 1⟩) (meth := k1m1) (c := k1c1) (by decide +kernel) rfl rfl rfl (by decide +kernel)
def codes1 : List Jvm.Cond := [Jvm.Cond.code x code maxLocals ret, Jvm.Cond.code ({ cls := "example/rootwise/internal/Naturals", name := "addWord", desc := "([JIIJ)J" } : Jvm.MethodName) prog_34_method_21_code (10 : Nat) (Option.some Jvm.ClassFile.FieldType.long), Jvm.Cond.code ({ cls := "java/lang/Long", name := "compareUnsigned", desc := "(JJ)I" } : Jvm.MethodName) jdk_35_method_43_code (4 : Nat) (Option.some Jvm.ClassFile.FieldType.int), Jvm.Cond.code ({ cls := "java/lang/Long", name := "compare", desc := "(JJ)I" } : Jvm.MethodName) jdk_35_method_42_code (4 : Nat) (Option.some Jvm.ClassFile.FieldType.int), Jvm.Cond.code ({ cls := "example/rootwise/internal/NaturalsAddWordPinLaw", name := "ult", desc := "(JJ)Z" } : Jvm.MethodName) method_2_code (4 : Nat) (Option.some Jvm.ClassFile.FieldType.boolean)]
set_option maxRecDepth 65536 in
theorem codes_eq : words1.filter isCode = codes1 := rfl
theorem w_codes : ∀ c ∈ words1.filter isCode, c.before args0 about1 = true := by
  rw [codes_eq]
  intro c hc
  simp only [codes1, List.mem_cons, List.not_mem_nil, or_false] at hc
  rcases hc with rfl | rfl | rfl | rfl | rfl
  · exact w_c0
  · exact w_c1
  · exact w_c2
  · exact w_c3
  · exact w_c4
set_option maxRecDepth 65536 in
theorem w_t1 : words1.all (fun c => isCode c || c.before args0 about1) = true := by decide +kernel
theorem w_tables : (allAtoms (Jvm.Cond.code x code maxLocals ret :: tables_1)).before args0 about1 = true := by
  rw [allAtoms_all]
  show words1.all (fun c => c.before args0 about1) = true
  refine all_split ?_ w_codes
  rw [w_t1]
set_option maxRecDepth 65536 in
theorem w_case : (Jvm.Cond.and given_1 narrow_1).before args0 about1 = true := by decide +kernel
theorem w_applies : (headSpec (Jvm.Cond.code x code maxLocals ret :: tables_1) room_1).applies x e0.platform about1 = true :=
  (Spec.applies_iff w_frames).mpr ⟨w_running, w_runnable, w_alone, w_named, w_hears, w_ripe, w_room, w_tables⟩
theorem atStart : AtStart classFile x code maxLocals ret World_1 tables_1 room_1 Calls_1 rest_1 Pre_1 launch0 p0 e0 about1 theMethod args0 below0 :=
  ⟨lists_1, trivial, launch0.admits_env _ _ _, launch0.least_env, fairChoices_fair.cas, fairChoices_fair.clock, w_frames, w_args, w_heap, w_applies, trivial, trivial, w_case⟩
end start1
theorem witness_1 : WitnessClaimed_1 := ⟨start1.p0, start1.e0, start1.about1, start1.theMethod, start1.args0, start1.below0, start1.atStart⟩
end Jvm.Pilot.@@N@@
