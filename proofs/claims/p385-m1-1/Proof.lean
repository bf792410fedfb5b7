import JvmDerived
import JvmDerived.Pilot.@@N@@Statement
import JvmDerived.Pilot.@@N@@Code
set_option linter.unusedVariables false
set_option linter.unusedSimpArgs false
namespace Jvm.Pilot.@@N@@
open Jvm Jvm.ClassFile Sem Op Lib Jvm.Free Jvm.Stand Jvm.LawKit Jvm.RoadKit Bundle Jvm.Pilot.@@N@@.Jvm.D
section Own
variable {Z : State} {own nm : String} {bytes : ByteArray} {ml : Nat} {ret : Option FieldType} {R : Room} {n0 : Nat} {Q : Option Value → Heap → Prop} {k n : Nat} {h : Heap} {pc q r : Nat} {L L' : Array Slot} {S S' : List Value} {a0 : Array Value}
/-- what a body's own record says of it -/
def oCtx (p : Program) (s : State) (m : MethodId) (meth : Method) (c : Code) (Z : State) (own nm : String) (bytes : ByteArray) (ml : Nat) (ret : Option FieldType) : Prop :=
  p.tables.exec = Jvm.exec ∧ Z.Warmed39 s.vm ∧ c.code = bytes ∧ c.maxLocals = ml ∧ s.vm.findClass own = some m.cls ∧ meth.sig.returnType = ret ∧ meth.locks = false ∧ meth.name = nm
/-- from here on the body comes to its end, and there Q holds; nothing old is written -/
def oGo (Z : State) (own nm : String) (bytes : ByteArray) (ml : Nat) (ret : Option FieldType) (R : Room) (n0 : Nat) (Q : Option Value → Heap → Prop) (k n : Nat) (h : Heap) (pc : Nat) (L : Array Slot) (S : List Value) : Prop :=
  ∀ (p : Program) (l : Launch) (e : Env) (s : State) (m : MethodId) (args : Array Value) (below : List Frame) (meth : Method) (c : Code) (T : State) (locs : List Loc),
    oCtx p s m meth c Z own nm bytes ml ret → Stand p l e R s m args below meth c T locs k n → T.heap = h → Fr n0 locs →
    ∃ s₂ o, Steps p.tables e below (T.setTop (mkF m pc L S)) s₂ ∧ s₂.status = .running ∧ Ended s₂ below o ∧ ∃ v L', o = .returned v ∧ (Q v s₂.heap ∧ Fr n0 L') ∧ FrameEnd s o s₂ L' R.cells R.slots
/-- a body's contract -/
def oCon (Z : State) (y : MethodName) (bytes : ByteArray) (ml : Nat) (ret : Option FieldType) (rm : Room) (as : Array Value) (h : Heap) (n0 : Nat) (Q : Option Value → Heap → Prop) : Prop :=
  ∀ (l : Launch) (ws : List Jvm.Cond), MetFree l y (head1 (Jvm.Cond.code y bytes ml ret :: ws) rm) (fun a U => a = as ∧ Z.Warmed39 U.vm ∧ U.heap = h) (fun _ _ _ _ _ => True) (fun _ U o U' => ∃ v L, o = .returned v ∧ (Q v U'.heap ∧ Fr n0 L) ∧ FrameEnd U o U' L rm.cells rm.slots)
theorem oCon.of {y : MethodName} {rm : Room} {as : Array Value} {L0 : Array Slot} (hp : plainFor y = true) (he : ∀ m, entryFrame m as ml = mkF m 0 L0 []) (K : oGo Z y.cls y.name bytes ml ret rm n0 Q 0 0 h 0 L0 []) : oCon Z y bytes ml ret rm as h n0 Q := by
  intro l ws
  refine MetFree.of_bodySF hp hisR ?_
  intro p e s m args below meth c s₁ Bd hml0 hP hK
  obtain ⟨rfl, hZ, hh⟩ := hP
  have e0 : s₁.heap = h := by rw [← hh, Bd.state]; rfl
  obtain ⟨s₂, o, h1, h2, h3, h4⟩ := K p l e s m args below meth c s₁ [] ⟨Bd.exec, hZ, Bd.bytes, hml0, findClass_of_methodNamed Bd.named, Bd.returns, Bd.notSynchronized, (name_of_methodNamed Bd.named Bd.method).1⟩ (Stand.of_body Bd) e0 (Fr.nil n0)
  exact ⟨s₂, o, castTop (he m) h1, h2, h3, h4⟩
theorem oGo.more {k' n' : Nat} (hk : k ≤ k') (hn : n ≤ n') (K : oGo Z own nm bytes ml ret R n0 Q k' n' h pc L S) : oGo Z own nm bytes ml ret R n0 Q k n h pc L S :=
  fun p l e s m args below meth c T locs C X eT N => K p l e s m args below meth c T locs C (X.more hk hn) eT N
theorem oGo.st (H : ∀ (p : Program) (e : Env) (m : MethodId) (below : List Frame) (c : Code) (T : State), p.tables.exec = Jvm.exec → c.code = bytes → At T m c below → ∀ t, Steps p.tables e below (T.setTop (mkF m q L' S')) t → Steps p.tables e below (T.setTop (mkF m pc L S)) t) (K : oGo Z own nm bytes ml ret R n0 Q k n h q L' S') : oGo Z own nm bytes ml ret R n0 Q k n h pc L S :=
  fun p l e s m args below meth c T locs C X eT N => by
    obtain ⟨s₂, o, h1, r⟩ := K p l e s m args below meth c T locs C X eT N
    exact ⟨s₂, o, H p e m below c T C.1 C.2.2.1 X.here s₂ h1, r⟩
theorem oGo.iadd {x y : Int32} (hd : decode bytes pc = .ok (.iadd, 1)) (hq : pc + 1 = q) (K : oGo Z own nm bytes ml ret R n0 Q k n h q L (.int (x + y) :: S)) : oGo Z own nm bytes ml ret R n0 Q k n h pc L (.int y :: .int x :: S) := by
  subst hq; exact oGo.st (fun p e m below c T hx hby hA t k => XS.iadd hA hx rfl (hb hby hd) rfl k) K
theorem oGo.isub {x y : Int32} (hd : decode bytes pc = .ok (.isub, 1)) (hq : pc + 1 = q) (K : oGo Z own nm bytes ml ret R n0 Q k n h q L (.int (x - y) :: S)) : oGo Z own nm bytes ml ret R n0 Q k n h pc L (.int y :: .int x :: S) := by
  subst hq; exact oGo.st (fun p e m below c T hx hby hA t k => XS.isub hA hx rfl (hb hby hd) rfl k) K
theorem oGo.imul {x y : Int32} (hd : decode bytes pc = .ok (.imul, 1)) (hq : pc + 1 = q) (K : oGo Z own nm bytes ml ret R n0 Q k n h q L (.int (x * y) :: S)) : oGo Z own nm bytes ml ret R n0 Q k n h pc L (.int y :: .int x :: S) := by
  subst hq; exact oGo.st (fun p e m below c T hx hby hA t k => XS.imul hA hx rfl (hb hby hd) rfl k) K
theorem oGo.iand {x y : Int32} (hd : decode bytes pc = .ok (.iand, 1)) (hq : pc + 1 = q) (K : oGo Z own nm bytes ml ret R n0 Q k n h q L (.int (x &&& y) :: S)) : oGo Z own nm bytes ml ret R n0 Q k n h pc L (.int y :: .int x :: S) := by
  subst hq; exact oGo.st (fun p e m below c T hx hby hA t k => XS.iand hA hx rfl (hb hby hd) rfl k) K
theorem oGo.ior {x y : Int32} (hd : decode bytes pc = .ok (.ior, 1)) (hq : pc + 1 = q) (K : oGo Z own nm bytes ml ret R n0 Q k n h q L (.int (x ||| y) :: S)) : oGo Z own nm bytes ml ret R n0 Q k n h pc L (.int y :: .int x :: S) := by
  subst hq; exact oGo.st (fun p e m below c T hx hby hA t k => XS.ior hA hx rfl (hb hby hd) rfl k) K
theorem oGo.ixor {x y : Int32} (hd : decode bytes pc = .ok (.ixor, 1)) (hq : pc + 1 = q) (K : oGo Z own nm bytes ml ret R n0 Q k n h q L (.int (x ^^^ y) :: S)) : oGo Z own nm bytes ml ret R n0 Q k n h pc L (.int y :: .int x :: S) := by
  subst hq; exact oGo.st (fun p e m below c T hx hby hA t k => XS.ixor hA hx rfl (hb hby hd) rfl k) K
theorem oGo.ishl {x y : Int32} (hd : decode bytes pc = .ok (.ishl, 1)) (hq : pc + 1 = q) (K : oGo Z own nm bytes ml ret R n0 Q k n h q L (.int (x <<< (y &&& 31)) :: S)) : oGo Z own nm bytes ml ret R n0 Q k n h pc L (.int y :: .int x :: S) := by
  subst hq; exact oGo.st (fun p e m below c T hx hby hA t k => XS.ishl hA hx rfl (hb hby hd) rfl k) K
theorem oGo.ishr {x y : Int32} (hd : decode bytes pc = .ok (.ishr, 1)) (hq : pc + 1 = q) (K : oGo Z own nm bytes ml ret R n0 Q k n h q L (.int (x >>> (y &&& 31)) :: S)) : oGo Z own nm bytes ml ret R n0 Q k n h pc L (.int y :: .int x :: S) := by
  subst hq; exact oGo.st (fun p e m below c T hx hby hA t k => XS.ishr hA hx rfl (hb hby hd) rfl k) K
theorem oGo.iushr {x y : Int32} (hd : decode bytes pc = .ok (.iushr, 1)) (hq : pc + 1 = q) (K : oGo Z own nm bytes ml ret R n0 Q k n h q L (.int ((x.toUInt32 >>> (y &&& 31).toUInt32).toInt32) :: S)) : oGo Z own nm bytes ml ret R n0 Q k n h pc L (.int y :: .int x :: S) := by
  subst hq; exact oGo.st (fun p e m below c T hx hby hA t k => XS.iushr hA hx rfl (hb hby hd) rfl k) K
theorem oGo.ladd {x y : Int64} (hd : decode bytes pc = .ok (.ladd, 1)) (hq : pc + 1 = q) (K : oGo Z own nm bytes ml ret R n0 Q k n h q L (.long (x + y) :: S)) : oGo Z own nm bytes ml ret R n0 Q k n h pc L (.long y :: .long x :: S) := by
  subst hq; exact oGo.st (fun p e m below c T hx hby hA t k => XS.ladd hA hx rfl (hb hby hd) rfl k) K
theorem oGo.lsub {x y : Int64} (hd : decode bytes pc = .ok (.lsub, 1)) (hq : pc + 1 = q) (K : oGo Z own nm bytes ml ret R n0 Q k n h q L (.long (x - y) :: S)) : oGo Z own nm bytes ml ret R n0 Q k n h pc L (.long y :: .long x :: S) := by
  subst hq; exact oGo.st (fun p e m below c T hx hby hA t k => XS.lsub hA hx rfl (hb hby hd) rfl k) K
theorem oGo.lmul {x y : Int64} (hd : decode bytes pc = .ok (.lmul, 1)) (hq : pc + 1 = q) (K : oGo Z own nm bytes ml ret R n0 Q k n h q L (.long (x * y) :: S)) : oGo Z own nm bytes ml ret R n0 Q k n h pc L (.long y :: .long x :: S) := by
  subst hq; exact oGo.st (fun p e m below c T hx hby hA t k => XS.lmul hA hx rfl (hb hby hd) rfl k) K
theorem oGo.land {x y : Int64} (hd : decode bytes pc = .ok (.land, 1)) (hq : pc + 1 = q) (K : oGo Z own nm bytes ml ret R n0 Q k n h q L (.long (x &&& y) :: S)) : oGo Z own nm bytes ml ret R n0 Q k n h pc L (.long y :: .long x :: S) := by
  subst hq; exact oGo.st (fun p e m below c T hx hby hA t k => XS.land hA hx rfl (hb hby hd) rfl k) K
theorem oGo.lor {x y : Int64} (hd : decode bytes pc = .ok (.lor, 1)) (hq : pc + 1 = q) (K : oGo Z own nm bytes ml ret R n0 Q k n h q L (.long (x ||| y) :: S)) : oGo Z own nm bytes ml ret R n0 Q k n h pc L (.long y :: .long x :: S) := by
  subst hq; exact oGo.st (fun p e m below c T hx hby hA t k => XS.lor hA hx rfl (hb hby hd) rfl k) K
theorem oGo.lxor {x y : Int64} (hd : decode bytes pc = .ok (.lxor, 1)) (hq : pc + 1 = q) (K : oGo Z own nm bytes ml ret R n0 Q k n h q L (.long (x ^^^ y) :: S)) : oGo Z own nm bytes ml ret R n0 Q k n h pc L (.long y :: .long x :: S) := by
  subst hq; exact oGo.st (fun p e m below c T hx hby hA t k => XS.lxor hA hx rfl (hb hby hd) rfl k) K
theorem oGo.lshl {x : Int64} {y : Int32} (hd : decode bytes pc = .ok (.lshl, 1)) (hq : pc + 1 = q) (K : oGo Z own nm bytes ml ret R n0 Q k n h q L (.long (x <<< (y &&& 0x3f).toInt64) :: S)) : oGo Z own nm bytes ml ret R n0 Q k n h pc L (.int y :: .long x :: S) := by
  subst hq; exact oGo.st (fun p e m below c T hx hby hA t k => XS.lshl hA hx rfl (hb hby hd) rfl k) K
theorem oGo.lshr {x : Int64} {y : Int32} (hd : decode bytes pc = .ok (.lshr, 1)) (hq : pc + 1 = q) (K : oGo Z own nm bytes ml ret R n0 Q k n h q L (.long (x >>> (y &&& 0x3f).toInt64) :: S)) : oGo Z own nm bytes ml ret R n0 Q k n h pc L (.int y :: .long x :: S) := by
  subst hq; exact oGo.st (fun p e m below c T hx hby hA t k => XS.lshr hA hx rfl (hb hby hd) rfl k) K
theorem oGo.lushr {x : Int64} {y : Int32} (hd : decode bytes pc = .ok (.lushr, 1)) (hq : pc + 1 = q) (K : oGo Z own nm bytes ml ret R n0 Q k n h q L (.long ((x.toUInt64 >>> (y &&& 0x3f).toInt64.toUInt64).toInt64) :: S)) : oGo Z own nm bytes ml ret R n0 Q k n h pc L (.int y :: .long x :: S) := by
  subst hq; exact oGo.st (fun p e m below c T hx hby hA t k => XS.lushr hA hx rfl (hb hby hd) rfl k) K
theorem oGo.idiv {x y : Int32} (hd : decode bytes pc = .ok (.idiv, 1)) (hq : pc + 1 = q) (hy : y ≠ 0) (K : oGo Z own nm bytes ml ret R n0 Q k n h q L (.int (x / y) :: S)) : oGo Z own nm bytes ml ret R n0 Q k n h pc L (.int y :: .int x :: S) := by
  subst hq; exact oGo.st (fun p e m below c T hx hby hA t k => XS.idiv hA hx rfl (hb hby hd) rfl hy k) K
theorem oGo.ldiv {x y : Int64} (hd : decode bytes pc = .ok (.ldiv, 1)) (hq : pc + 1 = q) (hy : y ≠ 0) (K : oGo Z own nm bytes ml ret R n0 Q k n h q L (.long (x / y) :: S)) : oGo Z own nm bytes ml ret R n0 Q k n h pc L (.long y :: .long x :: S) := by
  subst hq; exact oGo.st (fun p e m below c T hx hby hA t k => XS.ldiv hA hx rfl (hb hby hd) rfl hy k) K
theorem oGo.irem {x y : Int32} (hd : decode bytes pc = .ok (.irem, 1)) (hq : pc + 1 = q) (hy : y ≠ 0) (K : oGo Z own nm bytes ml ret R n0 Q k n h q L (.int (x % y) :: S)) : oGo Z own nm bytes ml ret R n0 Q k n h pc L (.int y :: .int x :: S) := by
  subst hq; exact oGo.st (fun p e m below c T hx hby hA t k => XS.irem hA hx rfl (hb hby hd) rfl hy (by rw [irem_eq_mod]; exact k)) K
theorem oGo.lrem {x y : Int64} (hd : decode bytes pc = .ok (.lrem, 1)) (hq : pc + 1 = q) (hy : y ≠ 0) (K : oGo Z own nm bytes ml ret R n0 Q k n h q L (.long (x % y) :: S)) : oGo Z own nm bytes ml ret R n0 Q k n h pc L (.long y :: .long x :: S) := by
  subst hq; exact oGo.st (fun p e m below c T hx hby hA t k => XS.lrem hA hx rfl (hb hby hd) rfl hy (by rw [lrem_mod]; exact k)) K
theorem oGo.ineg {x : Int32} (hd : decode bytes pc = .ok (.ineg, 1)) (hq : pc + 1 = q) (K : oGo Z own nm bytes ml ret R n0 Q k n h q L (.int (-x) :: S)) : oGo Z own nm bytes ml ret R n0 Q k n h pc L (.int x :: S) := by
  subst hq; exact oGo.st (fun p e m below c T hx hby hA t k => XS.ineg hA hx rfl (hb hby hd) rfl k) K
theorem oGo.lneg {x : Int64} (hd : decode bytes pc = .ok (.lneg, 1)) (hq : pc + 1 = q) (K : oGo Z own nm bytes ml ret R n0 Q k n h q L (.long (-x) :: S)) : oGo Z own nm bytes ml ret R n0 Q k n h pc L (.long x :: S) := by
  subst hq; exact oGo.st (fun p e m below c T hx hby hA t k => XS.lneg hA hx rfl (hb hby hd) rfl k) K
theorem oGo.i2b {x : Int32} (hd : decode bytes pc = .ok (.i2b, 1)) (hq : pc + 1 = q) (K : oGo Z own nm bytes ml ret R n0 Q k n h q L (.int (x.toInt8.toInt32) :: S)) : oGo Z own nm bytes ml ret R n0 Q k n h pc L (.int x :: S) := by
  subst hq; exact oGo.st (fun p e m below c T hx hby hA t k => XS.i2b hA hx rfl (hb hby hd) rfl k) K
theorem oGo.i2c {x : Int32} (hd : decode bytes pc = .ok (.i2c, 1)) (hq : pc + 1 = q) (K : oGo Z own nm bytes ml ret R n0 Q k n h q L (.int (x.toUInt32.toUInt16.toUInt32.toInt32) :: S)) : oGo Z own nm bytes ml ret R n0 Q k n h pc L (.int x :: S) := by
  subst hq; exact oGo.st (fun p e m below c T hx hby hA t k => XS.i2c hA hx rfl (hb hby hd) rfl k) K
theorem oGo.i2s {x : Int32} (hd : decode bytes pc = .ok (.i2s, 1)) (hq : pc + 1 = q) (K : oGo Z own nm bytes ml ret R n0 Q k n h q L (.int (x.toInt16.toInt32) :: S)) : oGo Z own nm bytes ml ret R n0 Q k n h pc L (.int x :: S) := by
  subst hq; exact oGo.st (fun p e m below c T hx hby hA t k => XS.i2s hA hx rfl (hb hby hd) rfl k) K
theorem oGo.i2l {x : Int32} (hd : decode bytes pc = .ok (.i2l, 1)) (hq : pc + 1 = q) (K : oGo Z own nm bytes ml ret R n0 Q k n h q L (.long (x.toInt64) :: S)) : oGo Z own nm bytes ml ret R n0 Q k n h pc L (.int x :: S) := by
  subst hq; exact oGo.st (fun p e m below c T hx hby hA t k => XS.i2l hA hx rfl (hb hby hd) rfl k) K
theorem oGo.l2i {x : Int64} (hd : decode bytes pc = .ok (.l2i, 1)) (hq : pc + 1 = q) (K : oGo Z own nm bytes ml ret R n0 Q k n h q L (.int (x.toInt32) :: S)) : oGo Z own nm bytes ml ret R n0 Q k n h pc L (.long x :: S) := by
  subst hq; exact oGo.st (fun p e m below c T hx hby hA t k => XS.l2i hA hx rfl (hb hby hd) rfl k) K
theorem oGo.iconst {i : Int} {v : Int32} (hd : decode bytes pc = .ok (.iconst i, 1)) (hq : pc + 1 = q) (hv : Int32.ofInt i = v) (K : oGo Z own nm bytes ml ret R n0 Q k n h q L (.int v :: S)) : oGo Z own nm bytes ml ret R n0 Q k n h pc L S := by
  subst hq hv; exact oGo.st (fun p e m below c T hx hby hA t k => XS.iconst hA hx rfl (hb hby hd) k) K
theorem oGo.bipush {i : Int} {v : Int32} (hd : decode bytes pc = .ok (.bipush i, 2)) (hq : pc + 2 = q) (hv : (Int8.ofInt i).toInt32 = v) (K : oGo Z own nm bytes ml ret R n0 Q k n h q L (.int v :: S)) : oGo Z own nm bytes ml ret R n0 Q k n h pc L S := by
  subst hq hv; exact oGo.st (fun p e m below c T hx hby hA t k => XS.bipush hA hx rfl (hb hby hd) k) K
theorem oGo.sipush {i : Int} {v : Int32} (hd : decode bytes pc = .ok (.sipush i, 3)) (hq : pc + 3 = q) (hv : (Int16.ofInt i).toInt32 = v) (K : oGo Z own nm bytes ml ret R n0 Q k n h q L (.int v :: S)) : oGo Z own nm bytes ml ret R n0 Q k n h pc L S := by
  subst hq hv; exact oGo.st (fun p e m below c T hx hby hA t k => XS.sipush hA hx rfl (hb hby hd) k) K
theorem oGo.lconst {i : Fin 2} {v : Int64} (hd : decode bytes pc = .ok (.lconst i, 1)) (hq : pc + 1 = q) (hv : Int64.ofNat i = v) (K : oGo Z own nm bytes ml ret R n0 Q k n h q L (.long v :: S)) : oGo Z own nm bytes ml ret R n0 Q k n h pc L S := by
  subst hq hv; exact oGo.st (fun p e m below c T hx hby hA t k => XS.lconst hA hx rfl (hb hby hd) k) K
theorem oGo.aconstNull (hd : decode bytes pc = .ok (.aconst_null, 1)) (hq : pc + 1 = q) (K : oGo Z own nm bytes ml ret R n0 Q k n h q L (.null :: S)) : oGo Z own nm bytes ml ret R n0 Q k n h pc L (S) := by
  subst hq; exact oGo.st (fun p e m below c T hx hby hA t k => XS.aconstNull hA hx rfl (hb hby hd) k) K
theorem oGo.iload {i : Nat} {v : Int32} (hd : decode bytes pc = .ok (.iload i, 2)) (hq : pc + 2 = q) (hl : L[i]? = some (.val (.int v))) (K : oGo Z own nm bytes ml ret R n0 Q k n h q L (.int v :: S)) : oGo Z own nm bytes ml ret R n0 Q k n h pc L S := by
  subst hq; exact oGo.st (fun p e m below c T hx hby hA t k => XS.iload hA hx rfl (hb hby hd) hl k) K
theorem oGo.iloadN {i : Fin 4} {v : Int32} (hd : decode bytes pc = .ok (.iload_n i, 1)) (hq : pc + 1 = q) (hl : L[i.val]? = some (.val (.int v))) (K : oGo Z own nm bytes ml ret R n0 Q k n h q L (.int v :: S)) : oGo Z own nm bytes ml ret R n0 Q k n h pc L S := by
  subst hq; exact oGo.st (fun p e m below c T hx hby hA t k => XS.iloadN hA hx rfl (hb hby hd) hl k) K
theorem oGo.istore {i : Nat} {v : Int32} (hd : decode bytes pc = .ok (.istore i, 2)) (hq : pc + 2 = q) (hl : storeLocals L i (.int v) = some L') (K : oGo Z own nm bytes ml ret R n0 Q k n h q L' S) : oGo Z own nm bytes ml ret R n0 Q k n h pc L (.int v :: S) := by
  subst hq; exact oGo.st (fun p e m below c T hx hby hA t k => XS.istore hA hx rfl (hb hby hd) rfl hl k) K
theorem oGo.istoreN {i : Fin 4} {v : Int32} (hd : decode bytes pc = .ok (.istore_n i, 1)) (hq : pc + 1 = q) (hl : storeLocals L i.val (.int v) = some L') (K : oGo Z own nm bytes ml ret R n0 Q k n h q L' S) : oGo Z own nm bytes ml ret R n0 Q k n h pc L (.int v :: S) := by
  subst hq; exact oGo.st (fun p e m below c T hx hby hA t k => XS.istoreN hA hx rfl (hb hby hd) rfl hl k) K
theorem oGo.lload {i : Nat} {v : Int64} (hd : decode bytes pc = .ok (.lload i, 2)) (hq : pc + 2 = q) (hl : L[i]? = some (.val (.long v))) (K : oGo Z own nm bytes ml ret R n0 Q k n h q L (.long v :: S)) : oGo Z own nm bytes ml ret R n0 Q k n h pc L S := by
  subst hq; exact oGo.st (fun p e m below c T hx hby hA t k => XS.lload hA hx rfl (hb hby hd) hl k) K
theorem oGo.lloadN {i : Fin 4} {v : Int64} (hd : decode bytes pc = .ok (.lload_n i, 1)) (hq : pc + 1 = q) (hl : L[i.val]? = some (.val (.long v))) (K : oGo Z own nm bytes ml ret R n0 Q k n h q L (.long v :: S)) : oGo Z own nm bytes ml ret R n0 Q k n h pc L S := by
  subst hq; exact oGo.st (fun p e m below c T hx hby hA t k => XS.lloadN hA hx rfl (hb hby hd) hl k) K
theorem oGo.lstore {i : Nat} {v : Int64} (hd : decode bytes pc = .ok (.lstore i, 2)) (hq : pc + 2 = q) (hl : storeLocals L i (.long v) = some L') (K : oGo Z own nm bytes ml ret R n0 Q k n h q L' S) : oGo Z own nm bytes ml ret R n0 Q k n h pc L (.long v :: S) := by
  subst hq; exact oGo.st (fun p e m below c T hx hby hA t k => XS.lstore hA hx rfl (hb hby hd) rfl hl k) K
theorem oGo.lstoreN {i : Fin 4} {v : Int64} (hd : decode bytes pc = .ok (.lstore_n i, 1)) (hq : pc + 1 = q) (hl : storeLocals L i.val (.long v) = some L') (K : oGo Z own nm bytes ml ret R n0 Q k n h q L' S) : oGo Z own nm bytes ml ret R n0 Q k n h pc L (.long v :: S) := by
  subst hq; exact oGo.st (fun p e m below c T hx hby hA t k => XS.lstoreN hA hx rfl (hb hby hd) rfl hl k) K
theorem oGo.aload {i : Nat} {v : Value} (hd : decode bytes pc = .ok (.aload i, 2)) (hq : pc + 2 = q) (hl : L[i]? = some (.val v)) (hv : v.isRef = true) (K : oGo Z own nm bytes ml ret R n0 Q k n h q L (v :: S)) : oGo Z own nm bytes ml ret R n0 Q k n h pc L S := by
  subst hq; exact oGo.st (fun p e m below c T hx hby hA t k => XS.aload hA hx rfl (hb hby hd) hl hv k) K
theorem oGo.aloadN {i : Fin 4} {v : Value} (hd : decode bytes pc = .ok (.aload_n i, 1)) (hq : pc + 1 = q) (hl : L[i.val]? = some (.val v)) (hv : v.isRef = true) (K : oGo Z own nm bytes ml ret R n0 Q k n h q L (v :: S)) : oGo Z own nm bytes ml ret R n0 Q k n h pc L S := by
  subst hq; exact oGo.st (fun p e m below c T hx hby hA t k => XS.aloadN hA hx rfl (hb hby hd) hl hv k) K
theorem oGo.astore {i : Nat} {v : Value} (hd : decode bytes pc = .ok (.astore i, 2)) (hq : pc + 2 = q) (hv : v.isRef = true) (hl : storeLocals L i v = some L') (K : oGo Z own nm bytes ml ret R n0 Q k n h q L' S) : oGo Z own nm bytes ml ret R n0 Q k n h pc L (v :: S) := by
  subst hq; exact oGo.st (fun p e m below c T hx hby hA t k => XS.astore hA hx rfl (hb hby hd) rfl hv hl k) K
theorem oGo.astoreN {i : Fin 4} {v : Value} (hd : decode bytes pc = .ok (.astore_n i, 1)) (hq : pc + 1 = q) (hv : v.isRef = true) (hl : storeLocals L i.val v = some L') (K : oGo Z own nm bytes ml ret R n0 Q k n h q L' S) : oGo Z own nm bytes ml ret R n0 Q k n h pc L (v :: S) := by
  subst hq; exact oGo.st (fun p e m below c T hx hby hA t k => XS.astoreN hA hx rfl (hb hby hd) rfl hv hl k) K
theorem oGo.iinc {i : Nat} {cst : Int} {x v : Int32} (hd : decode bytes pc = .ok (.iinc i cst, 3)) (hq : pc + 3 = q) (hl : L[i]? = some (.val (.int x))) (hv : x + Int32.ofInt cst = v) (hs : storeLocals L i (.int v) = some L') (K : oGo Z own nm bytes ml ret R n0 Q k n h q L' S) : oGo Z own nm bytes ml ret R n0 Q k n h pc L S := by
  subst hq hv; exact oGo.st (fun p e m below c T hx hby hA t k => XS.iinc hA hx rfl (hb hby hd) hl hs k) K
theorem oGo.dup {v : Value} (hd : decode bytes pc = .ok (.dup, 1)) (hq : pc + 1 = q) (hc : v.category = 1) (K : oGo Z own nm bytes ml ret R n0 Q k n h q L (v :: v :: S)) : oGo Z own nm bytes ml ret R n0 Q k n h pc L (v :: S) := by
  subst hq; exact oGo.st (fun p e m below c T hx hby hA t k => XS.dup hA hx rfl (hb hby hd) rfl hc k) K
theorem oGo.dupX1 {v w : Value} (hd : decode bytes pc = .ok (.dup_x1, 1)) (hq : pc + 1 = q) (hc : v.category = 1) (hc' : w.category = 1) (K : oGo Z own nm bytes ml ret R n0 Q k n h q L (v :: w :: v :: S)) : oGo Z own nm bytes ml ret R n0 Q k n h pc L (v :: w :: S) := by
  subst hq; exact oGo.st (fun p e m below c T hx hby hA t k => XS.dupX1 hA hx rfl (hb hby hd) rfl hc hc' k) K
theorem oGo.dup2 {v w : Value} (hd : decode bytes pc = .ok (.dup2, 1)) (hq : pc + 1 = q) (hc : v.category = 1) (hc' : w.category = 1) (K : oGo Z own nm bytes ml ret R n0 Q k n h q L (v :: w :: v :: w :: S)) : oGo Z own nm bytes ml ret R n0 Q k n h pc L (v :: w :: S) := by
  subst hq; exact oGo.st (fun p e m below c T hx hby hA t k => XT.dup2 hA hx rfl (hb hby hd) rfl hc hc' k) K
theorem oGo.pop {v : Value} (hd : decode bytes pc = .ok (.pop, 1)) (hq : pc + 1 = q) (hc : v.category = 1) (K : oGo Z own nm bytes ml ret R n0 Q k n h q L S) : oGo Z own nm bytes ml ret R n0 Q k n h pc L (v :: S) := by
  subst hq; exact oGo.st (fun p e m below c T hx hby hA t k => XS.pop hA hx rfl (hb hby hd) rfl hc k) K
theorem oGo.goto {o : Int} (hd : decode bytes pc = .ok (.goto o, 3)) (hq : (pc : Int) + o = (q : Int)) (K : oGo Z own nm bytes ml ret R n0 Q k n h q L S) : oGo Z own nm bytes ml ret R n0 Q k n h pc L S :=
  oGo.st (fun p e m below c T hx hby hA t k => XS.goto hA hx rfl (pc0 := pc) (pc' := q) rfl (hb hby hd) (by omega) (by omega) k) K
theorem oGo.ifnonnullYes {o : Int} {b : Addr} (hd : decode bytes pc = .ok (.ifnonnull o, 3)) (hq : (pc : Int) + o = (q : Int)) (K : oGo Z own nm bytes ml ret R n0 Q k n h q L S) : oGo Z own nm bytes ml ret R n0 Q k n h pc L (.ref b :: S) :=
  oGo.st (fun p e m below c T hx hby hA t k => XS.ifnonnullYes hA hx rfl (pc0 := pc) (pc' := q) rfl (hb hby hd) rfl (by omega) (by omega) k) K
theorem oGo.lcmp {x y : Int64} (hd : decode bytes pc = .ok (.lcmp, 1)) (hq : pc + 1 = q) (K : oGo Z own nm bytes ml ret R n0 Q k n h q L (.int (lcmpW x y) :: S)) : oGo Z own nm bytes ml ret R n0 Q k n h pc L (.long y :: .long x :: S) := by
  subst hq; exact oGo.st (fun p e m below c T hx hby hA t k => XS.lcmp hA hx rfl (hb hby hd) rfl k) K
theorem own_hlt {x y : Int32} : (x.toInt < y.toInt → if_icmp.holds .lt x y = true) ∧ (y.toInt ≤ x.toInt → if_icmp.holds .lt x y = false) :=
  ⟨fun hc => (tlt (Int32.lt_iff_toInt_lt.mpr hc)).1, fun hc => (flt (fun z => by have := Int32.lt_iff_toInt_lt.mp z; omega)).1⟩
theorem own_dlt (x y : Int32) : (x.toInt < y.toInt) ∨ (y.toInt ≤ x.toInt) := by omega
theorem own_elt (x y : Int64) : (x.toInt < y.toInt) ∨ (y.toInt ≤ x.toInt) := by omega
theorem oGo.icmp_lt {o : Int} {x y : Int32} (hd : decode bytes pc = .ok (.if_icmp .lt o, 3)) (hq : (pc : Int) + o = (q : Int)) (hr : pc + 3 = r) (K1 : x.toInt < y.toInt → oGo Z own nm bytes ml ret R n0 Q k n h q L S) (K2 : y.toInt ≤ x.toInt → oGo Z own nm bytes ml ret R n0 Q k n h r L S) : oGo Z own nm bytes ml ret R n0 Q k n h pc L (.int y :: .int x :: S) := by
  rcases own_dlt x y with hc | hc
  · exact oGo.st (fun p e m below c T hx hby hA t k => XS.icmpYes hA hx rfl (pc0 := pc) (pc' := q) rfl (hb hby hd) rfl (own_hlt.1 hc) (by omega) (by omega) k) (K1 hc)
  · subst hr; exact oGo.st (fun p e m below c T hx hby hA t k => XS.icmpNo hA hx rfl (hb hby hd) rfl (own_hlt.2 hc) k) (K2 hc)
theorem oGo.if_lt {o : Int} {x : Int32} (hd : decode bytes pc = .ok (.ifCond .lt o, 3)) (hq : (pc : Int) + o = (q : Int)) (hr : pc + 3 = r) (K1 : x.toInt < 0 → oGo Z own nm bytes ml ret R n0 Q k n h q L S) (K2 : 0 ≤ x.toInt → oGo Z own nm bytes ml ret R n0 Q k n h r L S) : oGo Z own nm bytes ml ret R n0 Q k n h pc L (.int x :: S) := by
  rcases own_dlt x 0 with hc | hc
  · exact oGo.st (fun p e m below c T hx hby hA t k => XS.ifYes hA hx rfl (pc0 := pc) (pc' := q) rfl (hb hby hd) rfl ((if0 _ _).trans (own_hlt.1 hc)) (by omega) (by omega) k) (K1 hc)
  · subst hr; exact oGo.st (fun p e m below c T hx hby hA t k => XS.ifNo hA hx rfl (hb hby hd) rfl ((if0 _ _).trans (own_hlt.2 hc)) k) (K2 hc)
theorem own_llt {x y : Int64} : (x.toInt < y.toInt → (lcmpW x y).toInt < 0) ∧ (y.toInt ≤ x.toInt → 0 ≤ (lcmpW x y).toInt) := by
  obtain ⟨h1, h2, h3⟩ := c_lcmp x y
  refine ⟨fun hc => ?_, fun hc => ?_⟩ <;> (rcases Int.lt_trichotomy x.toInt y.toInt with u | u | u <;> simp_all <;> omega)
theorem oGo.lif_lt {o : Int} {x y : Int64} {pc2 : Nat} (hd : decode bytes pc = .ok (.lcmp, 1)) (h1 : pc + 1 = pc2) (hd2 : decode bytes pc2 = .ok (.ifCond .lt o, 3)) (hq : (pc2 : Int) + o = (q : Int)) (hr : pc2 + 3 = r) (K1 : x.toInt < y.toInt → oGo Z own nm bytes ml ret R n0 Q k n h q L S) (K2 : y.toInt ≤ x.toInt → oGo Z own nm bytes ml ret R n0 Q k n h r L S) : oGo Z own nm bytes ml ret R n0 Q k n h pc L (.long y :: .long x :: S) := by
  refine oGo.lcmp hd h1 (oGo.if_lt hd2 hq hr (fun hc => ?_) (fun hc => ?_))
  · rcases own_elt x y with u | u
    · exact K1 u
    · have := own_llt.2 u; first | exact absurd hc this | exact absurd this hc | omega
  · rcases own_elt x y with u | u
    · have := own_llt.1 u; first | exact absurd hc this | exact absurd this hc | omega
    · exact K2 u
theorem own_hge {x y : Int32} : (y.toInt ≤ x.toInt → if_icmp.holds .ge x y = true) ∧ (x.toInt < y.toInt → if_icmp.holds .ge x y = false) :=
  ⟨fun hc => (flt (fun z => by have := Int32.lt_iff_toInt_lt.mp z; omega)).2.1, fun hc => (tlt (Int32.lt_iff_toInt_lt.mpr hc)).2.1⟩
theorem own_dge (x y : Int32) : (y.toInt ≤ x.toInt) ∨ (x.toInt < y.toInt) := by omega
theorem own_ege (x y : Int64) : (y.toInt ≤ x.toInt) ∨ (x.toInt < y.toInt) := by omega
theorem oGo.icmp_ge {o : Int} {x y : Int32} (hd : decode bytes pc = .ok (.if_icmp .ge o, 3)) (hq : (pc : Int) + o = (q : Int)) (hr : pc + 3 = r) (K1 : y.toInt ≤ x.toInt → oGo Z own nm bytes ml ret R n0 Q k n h q L S) (K2 : x.toInt < y.toInt → oGo Z own nm bytes ml ret R n0 Q k n h r L S) : oGo Z own nm bytes ml ret R n0 Q k n h pc L (.int y :: .int x :: S) := by
  rcases own_dge x y with hc | hc
  · exact oGo.st (fun p e m below c T hx hby hA t k => XS.icmpYes hA hx rfl (pc0 := pc) (pc' := q) rfl (hb hby hd) rfl (own_hge.1 hc) (by omega) (by omega) k) (K1 hc)
  · subst hr; exact oGo.st (fun p e m below c T hx hby hA t k => XS.icmpNo hA hx rfl (hb hby hd) rfl (own_hge.2 hc) k) (K2 hc)
theorem oGo.if_ge {o : Int} {x : Int32} (hd : decode bytes pc = .ok (.ifCond .ge o, 3)) (hq : (pc : Int) + o = (q : Int)) (hr : pc + 3 = r) (K1 : 0 ≤ x.toInt → oGo Z own nm bytes ml ret R n0 Q k n h q L S) (K2 : x.toInt < 0 → oGo Z own nm bytes ml ret R n0 Q k n h r L S) : oGo Z own nm bytes ml ret R n0 Q k n h pc L (.int x :: S) := by
  rcases own_dge x 0 with hc | hc
  · exact oGo.st (fun p e m below c T hx hby hA t k => XS.ifYes hA hx rfl (pc0 := pc) (pc' := q) rfl (hb hby hd) rfl ((if0 _ _).trans (own_hge.1 hc)) (by omega) (by omega) k) (K1 hc)
  · subst hr; exact oGo.st (fun p e m below c T hx hby hA t k => XS.ifNo hA hx rfl (hb hby hd) rfl ((if0 _ _).trans (own_hge.2 hc)) k) (K2 hc)
theorem own_lge {x y : Int64} : (y.toInt ≤ x.toInt → 0 ≤ (lcmpW x y).toInt) ∧ (x.toInt < y.toInt → (lcmpW x y).toInt < 0) := by
  obtain ⟨h1, h2, h3⟩ := c_lcmp x y
  refine ⟨fun hc => ?_, fun hc => ?_⟩ <;> (rcases Int.lt_trichotomy x.toInt y.toInt with u | u | u <;> simp_all <;> omega)
theorem oGo.lif_ge {o : Int} {x y : Int64} {pc2 : Nat} (hd : decode bytes pc = .ok (.lcmp, 1)) (h1 : pc + 1 = pc2) (hd2 : decode bytes pc2 = .ok (.ifCond .ge o, 3)) (hq : (pc2 : Int) + o = (q : Int)) (hr : pc2 + 3 = r) (K1 : y.toInt ≤ x.toInt → oGo Z own nm bytes ml ret R n0 Q k n h q L S) (K2 : x.toInt < y.toInt → oGo Z own nm bytes ml ret R n0 Q k n h r L S) : oGo Z own nm bytes ml ret R n0 Q k n h pc L (.long y :: .long x :: S) := by
  refine oGo.lcmp hd h1 (oGo.if_ge hd2 hq hr (fun hc => ?_) (fun hc => ?_))
  · rcases own_ege x y with u | u
    · exact K1 u
    · have := own_lge.2 u; first | exact absurd hc this | exact absurd this hc | omega
  · rcases own_ege x y with u | u
    · have := own_lge.1 u; first | exact absurd hc this | exact absurd this hc | omega
    · exact K2 u
theorem own_hgt {x y : Int32} : (y.toInt < x.toInt → if_icmp.holds .gt x y = true) ∧ (x.toInt ≤ y.toInt → if_icmp.holds .gt x y = false) :=
  ⟨fun hc => (tlt (Int32.lt_iff_toInt_lt.mpr hc)).2.2.1, fun hc => (flt (fun z => by have := Int32.lt_iff_toInt_lt.mp z; omega)).2.2.1⟩
theorem own_dgt (x y : Int32) : (y.toInt < x.toInt) ∨ (x.toInt ≤ y.toInt) := by omega
theorem own_egt (x y : Int64) : (y.toInt < x.toInt) ∨ (x.toInt ≤ y.toInt) := by omega
theorem oGo.icmp_gt {o : Int} {x y : Int32} (hd : decode bytes pc = .ok (.if_icmp .gt o, 3)) (hq : (pc : Int) + o = (q : Int)) (hr : pc + 3 = r) (K1 : y.toInt < x.toInt → oGo Z own nm bytes ml ret R n0 Q k n h q L S) (K2 : x.toInt ≤ y.toInt → oGo Z own nm bytes ml ret R n0 Q k n h r L S) : oGo Z own nm bytes ml ret R n0 Q k n h pc L (.int y :: .int x :: S) := by
  rcases own_dgt x y with hc | hc
  · exact oGo.st (fun p e m below c T hx hby hA t k => XS.icmpYes hA hx rfl (pc0 := pc) (pc' := q) rfl (hb hby hd) rfl (own_hgt.1 hc) (by omega) (by omega) k) (K1 hc)
  · subst hr; exact oGo.st (fun p e m below c T hx hby hA t k => XS.icmpNo hA hx rfl (hb hby hd) rfl (own_hgt.2 hc) k) (K2 hc)
theorem oGo.if_gt {o : Int} {x : Int32} (hd : decode bytes pc = .ok (.ifCond .gt o, 3)) (hq : (pc : Int) + o = (q : Int)) (hr : pc + 3 = r) (K1 : 0 < x.toInt → oGo Z own nm bytes ml ret R n0 Q k n h q L S) (K2 : x.toInt ≤ 0 → oGo Z own nm bytes ml ret R n0 Q k n h r L S) : oGo Z own nm bytes ml ret R n0 Q k n h pc L (.int x :: S) := by
  rcases own_dgt x 0 with hc | hc
  · exact oGo.st (fun p e m below c T hx hby hA t k => XS.ifYes hA hx rfl (pc0 := pc) (pc' := q) rfl (hb hby hd) rfl ((if0 _ _).trans (own_hgt.1 hc)) (by omega) (by omega) k) (K1 hc)
  · subst hr; exact oGo.st (fun p e m below c T hx hby hA t k => XS.ifNo hA hx rfl (hb hby hd) rfl ((if0 _ _).trans (own_hgt.2 hc)) k) (K2 hc)
theorem own_lgt {x y : Int64} : (y.toInt < x.toInt → 0 < (lcmpW x y).toInt) ∧ (x.toInt ≤ y.toInt → (lcmpW x y).toInt ≤ 0) := by
  obtain ⟨h1, h2, h3⟩ := c_lcmp x y
  refine ⟨fun hc => ?_, fun hc => ?_⟩ <;> (rcases Int.lt_trichotomy x.toInt y.toInt with u | u | u <;> simp_all <;> omega)
theorem oGo.lif_gt {o : Int} {x y : Int64} {pc2 : Nat} (hd : decode bytes pc = .ok (.lcmp, 1)) (h1 : pc + 1 = pc2) (hd2 : decode bytes pc2 = .ok (.ifCond .gt o, 3)) (hq : (pc2 : Int) + o = (q : Int)) (hr : pc2 + 3 = r) (K1 : y.toInt < x.toInt → oGo Z own nm bytes ml ret R n0 Q k n h q L S) (K2 : x.toInt ≤ y.toInt → oGo Z own nm bytes ml ret R n0 Q k n h r L S) : oGo Z own nm bytes ml ret R n0 Q k n h pc L (.long y :: .long x :: S) := by
  refine oGo.lcmp hd h1 (oGo.if_gt hd2 hq hr (fun hc => ?_) (fun hc => ?_))
  · rcases own_egt x y with u | u
    · exact K1 u
    · have := own_lgt.2 u; first | exact absurd hc this | exact absurd this hc | omega
  · rcases own_egt x y with u | u
    · have := own_lgt.1 u; first | exact absurd hc this | exact absurd this hc | omega
    · exact K2 u
theorem own_hle {x y : Int32} : (x.toInt ≤ y.toInt → if_icmp.holds .le x y = true) ∧ (y.toInt < x.toInt → if_icmp.holds .le x y = false) :=
  ⟨fun hc => (flt (fun z => by have := Int32.lt_iff_toInt_lt.mp z; omega)).2.2.2, fun hc => (tlt (Int32.lt_iff_toInt_lt.mpr hc)).2.2.2⟩
theorem own_dle (x y : Int32) : (x.toInt ≤ y.toInt) ∨ (y.toInt < x.toInt) := by omega
theorem own_ele (x y : Int64) : (x.toInt ≤ y.toInt) ∨ (y.toInt < x.toInt) := by omega
theorem oGo.icmp_le {o : Int} {x y : Int32} (hd : decode bytes pc = .ok (.if_icmp .le o, 3)) (hq : (pc : Int) + o = (q : Int)) (hr : pc + 3 = r) (K1 : x.toInt ≤ y.toInt → oGo Z own nm bytes ml ret R n0 Q k n h q L S) (K2 : y.toInt < x.toInt → oGo Z own nm bytes ml ret R n0 Q k n h r L S) : oGo Z own nm bytes ml ret R n0 Q k n h pc L (.int y :: .int x :: S) := by
  rcases own_dle x y with hc | hc
  · exact oGo.st (fun p e m below c T hx hby hA t k => XS.icmpYes hA hx rfl (pc0 := pc) (pc' := q) rfl (hb hby hd) rfl (own_hle.1 hc) (by omega) (by omega) k) (K1 hc)
  · subst hr; exact oGo.st (fun p e m below c T hx hby hA t k => XS.icmpNo hA hx rfl (hb hby hd) rfl (own_hle.2 hc) k) (K2 hc)
theorem oGo.if_le {o : Int} {x : Int32} (hd : decode bytes pc = .ok (.ifCond .le o, 3)) (hq : (pc : Int) + o = (q : Int)) (hr : pc + 3 = r) (K1 : x.toInt ≤ 0 → oGo Z own nm bytes ml ret R n0 Q k n h q L S) (K2 : 0 < x.toInt → oGo Z own nm bytes ml ret R n0 Q k n h r L S) : oGo Z own nm bytes ml ret R n0 Q k n h pc L (.int x :: S) := by
  rcases own_dle x 0 with hc | hc
  · exact oGo.st (fun p e m below c T hx hby hA t k => XS.ifYes hA hx rfl (pc0 := pc) (pc' := q) rfl (hb hby hd) rfl ((if0 _ _).trans (own_hle.1 hc)) (by omega) (by omega) k) (K1 hc)
  · subst hr; exact oGo.st (fun p e m below c T hx hby hA t k => XS.ifNo hA hx rfl (hb hby hd) rfl ((if0 _ _).trans (own_hle.2 hc)) k) (K2 hc)
theorem own_lle {x y : Int64} : (x.toInt ≤ y.toInt → (lcmpW x y).toInt ≤ 0) ∧ (y.toInt < x.toInt → 0 < (lcmpW x y).toInt) := by
  obtain ⟨h1, h2, h3⟩ := c_lcmp x y
  refine ⟨fun hc => ?_, fun hc => ?_⟩ <;> (rcases Int.lt_trichotomy x.toInt y.toInt with u | u | u <;> simp_all <;> omega)
theorem oGo.lif_le {o : Int} {x y : Int64} {pc2 : Nat} (hd : decode bytes pc = .ok (.lcmp, 1)) (h1 : pc + 1 = pc2) (hd2 : decode bytes pc2 = .ok (.ifCond .le o, 3)) (hq : (pc2 : Int) + o = (q : Int)) (hr : pc2 + 3 = r) (K1 : x.toInt ≤ y.toInt → oGo Z own nm bytes ml ret R n0 Q k n h q L S) (K2 : y.toInt < x.toInt → oGo Z own nm bytes ml ret R n0 Q k n h r L S) : oGo Z own nm bytes ml ret R n0 Q k n h pc L (.long y :: .long x :: S) := by
  refine oGo.lcmp hd h1 (oGo.if_le hd2 hq hr (fun hc => ?_) (fun hc => ?_))
  · rcases own_ele x y with u | u
    · exact K1 u
    · have := own_lle.2 u; first | exact absurd hc this | exact absurd this hc | omega
  · rcases own_ele x y with u | u
    · have := own_lle.1 u; first | exact absurd hc this | exact absurd this hc | omega
    · exact K2 u
theorem own_heq {x y : Int32} : (x = y → if_icmp.holds .eq x y = true) ∧ (x ≠ y → if_icmp.holds .eq x y = false) :=
  ⟨fun hc => (teq hc).1, fun hc => (feq hc).1⟩
theorem own_deq (x y : Int32) : (x = y) ∨ (x ≠ y) := by exact Decidable.em _
theorem own_eeq (x y : Int64) : (x = y) ∨ (x ≠ y) := by exact Decidable.em _
theorem oGo.icmp_eq {o : Int} {x y : Int32} (hd : decode bytes pc = .ok (.if_icmp .eq o, 3)) (hq : (pc : Int) + o = (q : Int)) (hr : pc + 3 = r) (K1 : x = y → oGo Z own nm bytes ml ret R n0 Q k n h q L S) (K2 : x ≠ y → oGo Z own nm bytes ml ret R n0 Q k n h r L S) : oGo Z own nm bytes ml ret R n0 Q k n h pc L (.int y :: .int x :: S) := by
  rcases own_deq x y with hc | hc
  · exact oGo.st (fun p e m below c T hx hby hA t k => XS.icmpYes hA hx rfl (pc0 := pc) (pc' := q) rfl (hb hby hd) rfl (own_heq.1 hc) (by omega) (by omega) k) (K1 hc)
  · subst hr; exact oGo.st (fun p e m below c T hx hby hA t k => XS.icmpNo hA hx rfl (hb hby hd) rfl (own_heq.2 hc) k) (K2 hc)
theorem oGo.if_eq {o : Int} {x : Int32} (hd : decode bytes pc = .ok (.ifCond .eq o, 3)) (hq : (pc : Int) + o = (q : Int)) (hr : pc + 3 = r) (K1 : x = 0 → oGo Z own nm bytes ml ret R n0 Q k n h q L S) (K2 : x ≠ 0 → oGo Z own nm bytes ml ret R n0 Q k n h r L S) : oGo Z own nm bytes ml ret R n0 Q k n h pc L (.int x :: S) := by
  rcases own_deq x 0 with hc | hc
  · exact oGo.st (fun p e m below c T hx hby hA t k => XS.ifYes hA hx rfl (pc0 := pc) (pc' := q) rfl (hb hby hd) rfl ((if0 _ _).trans (own_heq.1 hc)) (by omega) (by omega) k) (K1 hc)
  · subst hr; exact oGo.st (fun p e m below c T hx hby hA t k => XS.ifNo hA hx rfl (hb hby hd) rfl ((if0 _ _).trans (own_heq.2 hc)) k) (K2 hc)
theorem own_leq {x y : Int64} : (x = y → lcmpW x y = 0) ∧ (x ≠ y → lcmpW x y ≠ 0) := by
  obtain ⟨h1, h2, h3⟩ := c_lcmp x y
  refine ⟨fun hc => ?_, fun hc => ?_⟩ <;> (first | exact (lw_eq x y).mpr hc | exact fun z => hc ((lw_eq x y).mp z))
theorem oGo.lif_eq {o : Int} {x y : Int64} {pc2 : Nat} (hd : decode bytes pc = .ok (.lcmp, 1)) (h1 : pc + 1 = pc2) (hd2 : decode bytes pc2 = .ok (.ifCond .eq o, 3)) (hq : (pc2 : Int) + o = (q : Int)) (hr : pc2 + 3 = r) (K1 : x = y → oGo Z own nm bytes ml ret R n0 Q k n h q L S) (K2 : x ≠ y → oGo Z own nm bytes ml ret R n0 Q k n h r L S) : oGo Z own nm bytes ml ret R n0 Q k n h pc L (.long y :: .long x :: S) := by
  refine oGo.lcmp hd h1 (oGo.if_eq hd2 hq hr (fun hc => ?_) (fun hc => ?_))
  · rcases own_eeq x y with u | u
    · exact K1 u
    · have := own_leq.2 u; first | exact absurd hc this | exact absurd this hc | omega
  · rcases own_eeq x y with u | u
    · have := own_leq.1 u; first | exact absurd hc this | exact absurd this hc | omega
    · exact K2 u
theorem own_hne {x y : Int32} : (x ≠ y → if_icmp.holds .ne x y = true) ∧ (x = y → if_icmp.holds .ne x y = false) :=
  ⟨fun hc => (feq hc).2, fun hc => (teq hc).2⟩
theorem own_dne (x y : Int32) : (x ≠ y) ∨ (x = y) := by exact (Decidable.em _).symm
theorem own_ene (x y : Int64) : (x ≠ y) ∨ (x = y) := by exact (Decidable.em _).symm
theorem oGo.icmp_ne {o : Int} {x y : Int32} (hd : decode bytes pc = .ok (.if_icmp .ne o, 3)) (hq : (pc : Int) + o = (q : Int)) (hr : pc + 3 = r) (K1 : x ≠ y → oGo Z own nm bytes ml ret R n0 Q k n h q L S) (K2 : x = y → oGo Z own nm bytes ml ret R n0 Q k n h r L S) : oGo Z own nm bytes ml ret R n0 Q k n h pc L (.int y :: .int x :: S) := by
  rcases own_dne x y with hc | hc
  · exact oGo.st (fun p e m below c T hx hby hA t k => XS.icmpYes hA hx rfl (pc0 := pc) (pc' := q) rfl (hb hby hd) rfl (own_hne.1 hc) (by omega) (by omega) k) (K1 hc)
  · subst hr; exact oGo.st (fun p e m below c T hx hby hA t k => XS.icmpNo hA hx rfl (hb hby hd) rfl (own_hne.2 hc) k) (K2 hc)
theorem oGo.if_ne {o : Int} {x : Int32} (hd : decode bytes pc = .ok (.ifCond .ne o, 3)) (hq : (pc : Int) + o = (q : Int)) (hr : pc + 3 = r) (K1 : x ≠ 0 → oGo Z own nm bytes ml ret R n0 Q k n h q L S) (K2 : x = 0 → oGo Z own nm bytes ml ret R n0 Q k n h r L S) : oGo Z own nm bytes ml ret R n0 Q k n h pc L (.int x :: S) := by
  rcases own_dne x 0 with hc | hc
  · exact oGo.st (fun p e m below c T hx hby hA t k => XS.ifYes hA hx rfl (pc0 := pc) (pc' := q) rfl (hb hby hd) rfl ((if0 _ _).trans (own_hne.1 hc)) (by omega) (by omega) k) (K1 hc)
  · subst hr; exact oGo.st (fun p e m below c T hx hby hA t k => XS.ifNo hA hx rfl (hb hby hd) rfl ((if0 _ _).trans (own_hne.2 hc)) k) (K2 hc)
theorem own_lne {x y : Int64} : (x ≠ y → lcmpW x y ≠ 0) ∧ (x = y → lcmpW x y = 0) := by
  obtain ⟨h1, h2, h3⟩ := c_lcmp x y
  refine ⟨fun hc => ?_, fun hc => ?_⟩ <;> (first | exact (lw_eq x y).mpr hc | exact fun z => hc ((lw_eq x y).mp z))
theorem oGo.lif_ne {o : Int} {x y : Int64} {pc2 : Nat} (hd : decode bytes pc = .ok (.lcmp, 1)) (h1 : pc + 1 = pc2) (hd2 : decode bytes pc2 = .ok (.ifCond .ne o, 3)) (hq : (pc2 : Int) + o = (q : Int)) (hr : pc2 + 3 = r) (K1 : x ≠ y → oGo Z own nm bytes ml ret R n0 Q k n h q L S) (K2 : x = y → oGo Z own nm bytes ml ret R n0 Q k n h r L S) : oGo Z own nm bytes ml ret R n0 Q k n h pc L (.long y :: .long x :: S) := by
  refine oGo.lcmp hd h1 (oGo.if_ne hd2 hq hr (fun hc => ?_) (fun hc => ?_))
  · rcases own_ene x y with u | u
    · exact K1 u
    · have := own_lne.2 u; first | exact absurd hc this | exact absurd this hc | omega
  · rcases own_ene x y with u | u
    · have := own_lne.1 u; first | exact absurd hc this | exact absurd this hc | omega
    · exact K2 u
theorem oGo.ldc2 {i : Nat} {v : Int64} (hd : decode bytes pc = .ok (.ldc2_w i, 3)) (hq : pc + 3 = q) (w : (Cond.constantLong own i v).before a0 Z = true) (K : oGo Z own nm bytes ml ret R n0 Q k n h q L (.long v :: S)) : oGo Z own nm bytes ml ret R n0 Q k n h pc L S :=
  fun p l e s m args below meth c T locs C X eT N => by
    obtain ⟨hx, hZ, hby, hml, hown, hret, hlk, hnm⟩ := C
    subst hq
    obtain ⟨s₂, o, h1, r⟩ := K p l e s m args below meth c T locs ⟨hx, hZ, hby, hml, hown, hret, hlk, hnm⟩ X eT N
    exact ⟨s₂, o, X.ldc2Long hx hown (mvT hZ w) (g := mkF m pc L S) rfl (hb hby hd) _ h1, r⟩
theorem oGo.ldcI {i : Nat} {v : Int32} (hd : decode bytes pc = .ok (.ldc i, 2)) (hq : pc + 2 = q) (w : (Cond.constant own i v).before a0 Z = true) (K : oGo Z own nm bytes ml ret R n0 Q k n h q L (.int v :: S)) : oGo Z own nm bytes ml ret R n0 Q k n h pc L S :=
  fun p l e s m args below meth c T locs C X eT N => by
    obtain ⟨hx, hZ, hby, hml, hown, hret, hlk, hnm⟩ := C
    subst hq
    obtain ⟨s₂, o, h1, r⟩ := K p l e s m args below meth c T locs ⟨hx, hZ, hby, hml, hown, hret, hlk, hnm⟩ X eT N
    exact ⟨s₂, o, X.ldcInt hx hown (mvT hZ w) (g := mkF m pc L S) rfl (hb hby hd) _ h1, r⟩
/-! the returns -/
theorem own_end {p : Program} {l : Launch} {e : Env} {s : State} {m : MethodId} {args : Array Value} {below : List Frame} {meth : Method} {c : Code} {T : State} {locs : List Loc} (X : Stand p l e R s m args below meth c T locs k n) (hlk : meth.locks = false) {v : Option Value} (hv : meth.sig.returnType = none → v = none) (hk : k ≤ R.cells) (hn : n ≤ R.slots) (N : Fr n0 locs) (hQ : Q v T.heap) {g : JFrame}
    (H : ∀ fs, (∀ (f : JFrame) (acts : List Action), f.method = m → f.locked = none → f.entered = [] → (doReturn e (T.setTop f) acts v).1 = T.setFrames fs) → Steps p.tables e below (T.setTop g) (T.setFrames fs)) :
    ∃ s₂ o, Steps p.tables e below (T.setTop g) s₂ ∧ s₂.status = .running ∧ Ended s₂ below o ∧ ∃ v L', o = .returned v ∧ (Q v s₂.heap ∧ Fr n0 L') ∧ FrameEnd s o s₂ L' R.cells R.slots := by
  obtain ⟨fs, hr, hrun, hended, hW, hsame⟩ := X.leave hv hlk
  exact ⟨_, _, H fs hr, hrun, hended, _, _, rfl, ⟨hQ, N⟩, ⟨_, rfl⟩, hW, hsame.mono hk hn⟩
theorem oGo.retI {z : Int32} (hd : decode bytes pc = .ok (.ireturn, 1)) (hret : ret = some .int) (hk : k ≤ R.cells) (hn : n ≤ R.slots) (hQ : Q (some (.int z)) h) : oGo Z own nm bytes ml ret R n0 Q k n h pc L (.int z :: S) :=
  fun p l e s m args below meth c T locs C X eT N => by
    obtain ⟨hx, hZ, hby, hml, hown, hrt, hlk, hnm⟩ := C
    subst eT
    exact own_end X hlk (fun u => by rw [hrt, hret] at u; cases u) hk hn N hQ fun fs hr => retOut X hx (hrt.trans hret) rfl (Or.inl ⟨rfl, Or.inl rfl, z, rfl⟩) (hb hby hd) hr
theorem oGo.retN {z : Int32} {t : FieldType} (hd : decode bytes pc = .ok (.ireturn, 1)) (hret : ret = some t) (ht : t = .boolean ∨ t = .byte ∨ t = .char ∨ t = .short) (hk : k ≤ R.cells) (hn : n ≤ R.slots) (hQ : Q (some (.int (nar t z))) h) : oGo Z own nm bytes ml ret R n0 Q k n h pc L (.int z :: S) :=
  fun p l e s m args below meth c T locs C X eT N => by
    obtain ⟨hx, hZ, hby, hml, hown, hrt, hlk, hnm⟩ := C
    subst eT
    exact own_end X hlk (fun u => by rw [hrt, hret] at u; cases u) hk hn N hQ fun fs hr => Jvm.RoadKit.retN X hx (hrt.trans hret) ht (hb hby hd) hr
theorem oGo.retJ {z : Int64} (hd : decode bytes pc = .ok (.lreturn, 1)) (hret : ret = some .long) (hk : k ≤ R.cells) (hn : n ≤ R.slots) (hQ : Q (some (.long z)) h) : oGo Z own nm bytes ml ret R n0 Q k n h pc L (.long z :: S) :=
  fun p l e s m args below meth c T locs C X eT N => by
    obtain ⟨hx, hZ, hby, hml, hown, hrt, hlk, hnm⟩ := C
    subst eT
    exact own_end X hlk (fun u => by rw [hrt, hret] at u; cases u) hk hn N hQ fun fs hr => retOut X hx (hrt.trans hret) rfl (Or.inr (Or.inl ⟨rfl, rfl, z, rfl⟩)) (hb hby hd) hr
theorem oGo.retA {v : Value} {t : FieldType} (hd : decode bytes pc = .ok (.areturn, 1)) (hret : ret = some t) (ht : t.isReference = true) (hv : v.isRef = true) (hk : k ≤ R.cells) (hn : n ≤ R.slots) (hQ : Q (some v) h) : oGo Z own nm bytes ml ret R n0 Q k n h pc L (v :: S) :=
  fun p l e s m args below meth c T locs C X eT N => by
    obtain ⟨hx, hZ, hby, hml, hown, hrt, hlk, hnm⟩ := C
    subst eT
    exact own_end X hlk (fun u => by rw [hrt, hret] at u; cases u) hk hn N hQ fun fs hr => retOut X hx (hrt.trans hret) (by cases t <;> first | (cases ht; done) | rfl) (Or.inr (Or.inr (Or.inr (Or.inr ⟨rfl, ht, hv⟩)))) (hb hby hd) hr
theorem oGo.retV (hd : decode bytes pc = .ok (.return_, 1)) (hret : ret = none) (hk : k ≤ R.cells) (hn : n ≤ R.slots) (hQ : Q none h) : oGo Z own nm bytes ml ret R n0 Q k n h pc L [] :=
  fun p l e s m args below meth c T locs C X eT N => by
    obtain ⟨hx, hZ, hby, hml, hown, hrt, hlk, hnm⟩ := C
    subst eT
    exact own_end X hlk (fun _ => rfl) hk hn N hQ fun fs hr => X.returnOut hx (hrt.trans hret) (hb hby hd) hr
/-! calls by contract -/
theorem oGo.callS {y : MethodName} {i W : Nat} {bytes' : ByteArray} {ml' : Nat} {ret' : Option FieldType} {rm : Room} {as : Array Value} {Q' : Option Value → Heap → Prop} {ps : List FieldType} {rt : Option FieldType} (argsL rest : List Value) (hd : decode bytes pc = .ok (.invokestatic i, 3)) (hq : pc + 3 = q)
    (w1 : (Cond.methodLink own i y).before a0 Z = true) (w2 : (Cond.static y).before a0 Z = true) (w3 : (Cond.initialized y.cls).before a0 Z = true) (w4 : (Cond.code y bytes' ml' ret').before a0 Z = true) (hy : y.cls ≠ "java/lang/invoke/MethodHandle" ∧ y.cls ≠ "java/lang/invoke/VarHandle")
    (hC : oCon Z y bytes' ml' ret' rm as h n0 Q') (hS : S = argsL.reverse ++ rest) (has : argsL.toArray = as) (hpd : parseMethodDescriptor y.desc = some ⟨ps, rt⟩) (hlen : argsL.length = ps.length) (hL : L.size = ml) (hW : 2 * 0 + (rest.map fun v => v.category).sum ≤ W) (hf : rm.frames + 1 ≤ R.frames) (hl : W + (ml' + 11) + rm.locals ≤ R.locals) (hc : k + rm.cells ≤ R.cells) (hs : n + rm.slots ≤ R.slots)
    (K : ∀ v h', Q' v h' → oGo Z own nm bytes ml ret R n0 Q (k + rm.cells) (n + rm.slots) h' q L (v.toList ++ rest)) : oGo Z own nm bytes ml ret R n0 Q k n h pc L S :=
  fun p l e s m args below meth c T locs C X eT N => by
    obtain ⟨hx, hZ, hby, hml, hown, hrt, hlk, hnm⟩ := C
    subst hq
    obtain ⟨v, _, ⟨T', L2, k2, n2⟩, -, X', ⟨Lc, hQ', l', y', z'⟩, st⟩ := Jvm.LawKit.callS X hx (y := y) hown (mvT hZ w1) (mvT hZ w2) (mvT hZ w3) (mvT hZ w4) hy (backOf (W := W) (Q := fun v h' L => Q' v h' ∧ Fr n0 L) (hC l []) hZ w4 w3 hf hl) (g := mkF m pc L S) rfl (by rw [hml]; exact hL) (argsL := argsL) (rest := rest) (lenOf hpd hlen) hS hW (hb hby hd) (fun _ _ => ⟨has, eT, hc, hs⟩)
    dsimp only [Pt.U, Pt.locs, Pt.cells, Pt.slots] at X' l' y' z' st hQ'
    subst l' y' z'
    obtain ⟨s₂, o, h1, r⟩ := K v T'.heap hQ'.1 p l e s m args below meth c T' _ ⟨hx, hZ, hby, hml, hown, hrt, hlk, hnm⟩ X' rfl (Fr.app N hQ'.2)
    exact ⟨s₂, o, st _ h1, r⟩
theorem oGo.callI {y : MethodName} {i W : Nat} {bytes' : ByteArray} {ml' : Nat} {rm : Room} {as : Array Value} {Q' : Option Value → Heap → Prop} {ps : List FieldType} {rt : Option FieldType} {a : Addr} (argsL rest : List Value) (hd : decode bytes pc = .ok (.invokespecial i, 3)) (hq : pc + 3 = q) (hy1 : y.name = "<init>")
    (w1 : (Cond.methodLink own i y).before a0 Z = true) (w2 : (Cond.instanceMethod y).before a0 Z = true) (w3 : (Cond.initialized y.cls).before a0 Z = true) (w4 : (Cond.code y bytes' ml' none).before a0 Z = true) (hy : y.cls ≠ "java/lang/invoke/MethodHandle" ∧ y.cls ≠ "java/lang/invoke/VarHandle")
    (hC : oCon Z y bytes' ml' none rm as h n0 Q') (hS : S = argsL.reverse ++ .ref a :: rest) (has : (.ref a :: argsL).toArray = as) (hpd : parseMethodDescriptor y.desc = some ⟨ps, rt⟩) (hlen : argsL.length = ps.length) (hL : L.size = ml) (hW : 2 * 0 + (rest.map fun v => v.category).sum ≤ W) (hf : rm.frames + 1 ≤ R.frames) (hl : W + (ml' + 11) + rm.locals ≤ R.locals) (hc : k + rm.cells ≤ R.cells) (hs : n + rm.slots ≤ R.slots)
    (K : ∀ v h', Q' v h' → oGo Z own nm bytes ml ret R n0 Q (k + rm.cells) (n + rm.slots) h' q L (v.toList ++ rest)) : oGo Z own nm bytes ml ret R n0 Q k n h pc L S :=
  fun p l e s m args below meth c T locs C X eT N => by
    obtain ⟨hx, hZ, hby, hml, hown, hrt, hlk, hnm⟩ := C
    subst hq
    obtain ⟨v, _, ⟨T', L2, k2, n2⟩, -, X', ⟨Lc, hQ', l', y', z'⟩, st⟩ := X.specialBack hx (y := y) hy1 hown (mvT hZ w1) (mvT hZ w2) (mvT hZ w4) hy (backOf (W := W) (Q := fun v h' L => Q' v h' ∧ Fr n0 L) (hC l []) hZ w4 w3 hf hl) (g := mkF m pc L S) rfl (by rw [hml]; exact hL) (Steps.refl _) (a := a) (argsL := argsL) (rest := rest) (lenOf hpd hlen) hS hW (hb hby hd) (fun _ _ => ⟨has, eT, hc, hs⟩)
    dsimp only [Pt.U, Pt.locs, Pt.cells, Pt.slots] at X' l' y' z' st hQ'
    subst l' y' z'
    obtain ⟨s₂, o, h1, r⟩ := K v T'.heap hQ'.1 p l e s m args below meth c T' _ ⟨hx, hZ, hby, hml, hown, hrt, hlk, hnm⟩ X' rfl (Fr.app N hQ'.2)
    exact ⟨s₂, o, st.trans h1, r⟩
theorem oGo.callV {y z : MethodName} {C : String} {i W : Nat} {bytes' : ByteArray} {ml' : Nat} {ret' : Option FieldType} {rm : Room} {as : Array Value} {Q' : Option Value → Heap → Prop} {ps : List FieldType} {rt : Option FieldType} {a : Addr} (argsL rest : List Value) (hd : decode bytes pc = .ok (.invokevirtual i, 3)) (hq : pc + 3 = q)
    (w1 : (Cond.methodLink own i y).before a0 Z = true) (w2 : (Cond.declares y).before a0 Z = true) (w5 : (Cond.selects C y z).before a0 Z = true) (w6 : (Cond.instanceMethod z).before a0 Z = true) (w3 : (Cond.initialized z.cls).before a0 Z = true) (w4 : (Cond.code z bytes' ml' ret').before a0 Z = true) (hyz : y = z) (hy : y.cls ≠ "java/lang/invoke/MethodHandle" ∧ y.cls ≠ "java/lang/invoke/VarHandle") (E : Exa Z h a C)
    (hC : oCon Z z bytes' ml' ret' rm as h n0 Q') (hS : S = argsL.reverse ++ .ref a :: rest) (has : (.ref a :: argsL).toArray = as) (hpd : parseMethodDescriptor y.desc = some ⟨ps, rt⟩) (hlen : argsL.length = ps.length) (hL : L.size = ml) (hW : 2 * 0 + (rest.map fun v => v.category).sum ≤ W) (hf : rm.frames + 1 ≤ R.frames) (hl : W + (ml' + 11) + rm.locals ≤ R.locals) (hc : k + rm.cells ≤ R.cells) (hs : n + rm.slots ≤ R.slots)
    (K : ∀ v h', Q' v h' → oGo Z own nm bytes ml ret R n0 Q (k + rm.cells) (n + rm.slots) h' q L (v.toList ++ rest)) : oGo Z own nm bytes ml ret R n0 Q k n h pc L S :=
  fun p l e s m args below meth c T locs Cx X eT N => by
    obtain ⟨hx, hZ, hby, hml, hown, hrt, hlk, hnm⟩ := Cx
    subst hq hyz
    obtain ⟨cq, kq, qa, qb, qc⟩ := isOf (T := T) hZ eT E
    obtain ⟨v, _, ⟨T', L2, k2, n2⟩, -, X', ⟨Lc, hQ', l', y', z'⟩, st⟩ := X.virtualBack hx (y := y) (z := y) hown (mvT hZ w1) (mvT hZ w2) (notFace_of_selects (args := #[]) (mvT hZ w5)) (mvT hZ w5) (mvT hZ w6) hy (backOf (W := W) (Q := fun v h' L => Q' v h' ∧ Fr n0 L) (hC l []) hZ w4 w3 hf hl) qa qc (g := mkF m pc L S) rfl (by rw [hml]; exact hL) (Steps.refl _) (argsL := argsL) (rest := rest) (lenOf hpd hlen) hS hW (hb hby hd) (fun _ _ => ⟨has, eT, hc, hs⟩)
    dsimp only [Pt.U, Pt.locs, Pt.cells, Pt.slots] at X' l' y' z' st hQ'
    subst l' y' z'
    obtain ⟨s₂, o, h1, r⟩ := K v T'.heap hQ'.1 p l e s m args below meth c T' _ ⟨hx, hZ, hby, hml, hown, hrt, hlk, hnm⟩ X' rfl (Fr.app N hQ'.2)
    exact ⟨s₂, o, st.trans h1, r⟩
theorem oGo.initO {i W : Nat} {a : Addr} (hd : decode bytes pc = .ok (.invokespecial i, 3)) (hq : pc + 3 = q) (w1 : (Cond.methodLink own i Lib.objectInit).before a0 Z = true) (w2 : (Cond.instanceMethod Lib.objectInit).before a0 Z = true) (w3 : (Cond.code Lib.objectInit ⟨#[0xb1]⟩ 1 none).before a0 Z = true) (hL : L.size = ml) (hf : 1 ≤ R.frames) (hW : 2 * 0 + (S.map fun v => v.category).sum ≤ W) (hl : W + 12 ≤ R.locals) (K : oGo Z own nm bytes ml ret R n0 Q k n h q L S) : oGo Z own nm bytes ml ret R n0 Q k n h pc L (.ref a :: S) :=
  fun p l e s m args below meth c T locs C X eT N => by
    obtain ⟨hx, hZ, hby, hml, hown, hrt, hlk, hnm⟩ := C
    subst hq
    obtain ⟨T', X', e', st⟩ := Jvm.RoadKit.initO X hx hZ hown w1 w2 w3 eT (g := mkF m pc L (.ref a :: S)) rfl (by rw [hml]; exact hL) rfl (hb hby hd) hf hW hl
    obtain ⟨s₂, o, h1, r⟩ := K p l e s m args below meth c T' locs ⟨hx, hZ, hby, hml, hown, hrt, hlk, hnm⟩ X' e' N
    exact ⟨s₂, o, st _ h1, r⟩
/-! objects -/
theorem own_keep {h h' : Heap} (E : Ext h h') : Keep h h' [] := (Keep.refl h []).ext E
theorem oGo.newO {C : String} {i nn : Nat} (hd : decode bytes pc = .ok (.new i, 3)) (hq : pc + 3 = q) (w : (Cond.classLink own i C).before a0 Z = true) (wi : (Cond.instantiable C nn).before a0 Z = true) (wz : (Cond.initialized C).before a0 Z = true) (hc : k + 1 ≤ R.cells) (hs : n + nn ≤ R.slots)
    (K : ∀ h' a, a = h.size → Keep h h' [] → Exa Z h' a C → (∀ {O f d : String} {ty : FieldType}, Laid Z a0 C O f d → parseFieldDescriptor d = some ty → Fld Z h' a O f d (defaultValue ty)) → oGo Z own nm bytes ml ret R n0 Q (k + 1) (n + nn) h' q L (.ref a :: S)) : oGo Z own nm bytes ml ret R n0 Q k n h pc L S :=
  fun p l e s m args below meth c T locs Cx X eT N => by
    obtain ⟨hx, hZ, hby, hml, hown, hrt, hlk, hnm⟩ := Cx
    subst hq
    obtain ⟨T', h', X', e', E, A, D, -, st⟩ := Jvm.RoadKit.newO X hx hZ hown w wi wz eT (g := mkF m pc L S) rfl (hb hby hd) hc hs
    obtain ⟨s₂, o, h1, r⟩ := K h' h.size rfl (own_keep E) A D p l e s m args below meth c T' locs ⟨hx, hZ, hby, hml, hown, hrt, hlk, hnm⟩ X' e' N
    exact ⟨s₂, o, st _ h1, r⟩
theorem oGo.getF {R0 O f d host : String} {i : Nat} {a : Addr} {v : Value} (hd : decode bytes pc = .ok (.getfield i, 3)) (hq : pc + 3 = q) (w : (Cond.fieldLink own i R0 f d).before a0 Z = true ∨ (Cond.fieldLinkNest own i R0 f d host).before a0 Z = true) (via : Via Z R0 O f d) (F : Fld Z h a O f d v) (K : oGo Z own nm bytes ml ret R n0 Q k n h q L (v :: S)) : oGo Z own nm bytes ml ret R n0 Q k n h pc L (.ref a :: S) :=
  fun p l e s m args below meth c T locs C X eT N => by
    obtain ⟨hx, hZ, hby, hml, hown, hrt, hlk, hnm⟩ := C
    subst hq
    obtain ⟨T', X', e', st⟩ := Jvm.RoadKit.getF X hx hZ hown w via eT F (g := mkF m pc L (.ref a :: S)) rfl rfl (hb hby hd)
    obtain ⟨s₂, o, h1, r⟩ := K p l e s m args below meth c T' locs ⟨hx, hZ, hby, hml, hown, hrt, hlk, hnm⟩ X' e' N
    exact ⟨s₂, o, st _ h1, r⟩
theorem oGo.getS {R0 O f d : String} {i : Nat} {v : Value} (hd : decode bytes pc = .ok (.getstatic i, 3)) (hq : pc + 3 = q) (w : (Cond.fieldLink own i R0 f d).before a0 Z = true) (via : Via Z R0 O f d) (F : Sta Z h O f d v) (K : oGo Z own nm bytes ml ret R n0 Q k n h q L (v :: S)) : oGo Z own nm bytes ml ret R n0 Q k n h pc L S :=
  fun p l e s m args below meth c T locs C X eT N => by
    obtain ⟨hx, hZ, hby, hml, hown, hrt, hlk, hnm⟩ := C
    subst hq
    obtain ⟨T', X', e', st⟩ := Jvm.RoadKit.getS (host := "") X hx hZ hown w via eT F (g := mkF m pc L S) rfl (hb hby hd)
    obtain ⟨s₂, o, h1, r⟩ := K p l e s m args below meth c T' locs ⟨hx, hZ, hby, hml, hown, hrt, hlk, hnm⟩ X' e' N
    exact ⟨s₂, o, st _ h1, r⟩
theorem oGo.putF {R0 O f d host C : String} {i kk : Nat} {ty : FieldType} {a : Addr} {v w0 : Value} (hd : decode bytes pc = .ok (.putfield i, 3)) (hq : pc + 3 = q) (w : (Cond.fieldLink own i R0 f d).before a0 Z = true ∨ (Cond.fieldLinkNest own i R0 f d host).before a0 Z = true) (via : Via Z R0 O f d) (F : Fld Z h a O f d w0) (E : Exa Z h a C)
    (Lw : (Cond.lays C O f d).before a0 Z = true ∨ ((Cond.laysFinal C O f d).before a0 Z = true ∧ own = O ∧ nm = "<init>")) (wi : (Cond.instantiable C kk).before a0 Z = true) (hty : parseFieldDescriptor d = some ty) (hn : narrow ty v = v) (hf : fits ty v = true) (ha : n0 ≤ a)
    (K : ∀ h', Keep h h' [a] → Exa Z h' a C → Fld Z h' a O f d v → (∀ {O' f' d' : String} {u : Value}, Jvm.RoadKit.slotOf Z O' f' d' ≠ Jvm.RoadKit.slotOf Z O f d → Fld Z h a O' f' d' u → Fld Z h' a O' f' d' u) → oGo Z own nm bytes ml ret R n0 Q k n h' q L S) : oGo Z own nm bytes ml ret R n0 Q k n h pc L (v :: .ref a :: S) :=
  fun p l e s m args below meth c T locs Cx X eT N => by
    obtain ⟨hx, hZ, hby, hml, hown, hrt, hlk, hnm⟩ := Cx
    subst hq
    obtain ⟨T', h', X', e', W, st⟩ := Jvm.RoadKit.putF X hx hZ hown w via eT F E (Lw.imp id fun u => ⟨u.1, u.2.1, hnm.trans u.2.2⟩) wi hty hn hf (g := mkF m pc L (v :: .ref a :: S)) rfl rfl (hb hby hd)
    obtain ⟨s₂, o, h1, r⟩ := K h' (Keep.of_wr W) (E.wr W) (F.same W) (fun hne G => G.other W (Or.inr hne)) p l e s m args below meth c T' _ ⟨hx, hZ, hby, hml, hown, hrt, hlk, hnm⟩ X' e' (Fr.snoc X' N ha)
    exact ⟨s₂, o, st _ h1, r⟩
/-! arrays -/
def Ars (Z : State) (h : Heap) (a : Addr) (ty : FieldType) (vs : List Value) : Prop := ∃ c : Cell, Arr Z h a c ty ∧ c.slots.toList = vs ∧ ∀ v ∈ vs, fits ty v = true
theorem Ars.lt {a : Addr} {ty : FieldType} {vs : List Value} (A : Ars Z h a ty vs) : a < h.size := by obtain ⟨c, A, -⟩ := A; exact A.lt
theorem Ars.keep {h' : Heap} {ws : List Addr} {a : Addr} {ty : FieldType} {vs : List Value} (A : Ars Z h a ty vs) (K : Keep h h' ws) (q : a ∉ ws) : Ars Z h' a ty vs := by obtain ⟨c, A, r⟩ := A; exact ⟨c, ⟨K.2.1 a c A.1 q, A.2⟩, r⟩
theorem own_cn {j : Int32} {i : Nat} (hi : j.toInt = (i : Int)) : j.toNatClampNeg = i := by simp [Int32.toNatClampNeg, hi]
theorem own_in {j : Int32} {i : Nat} {c : Cell} {vs : List Value} (hi : j.toInt = (i : Int)) (hc : c.slots.toList = vs) (hl : i < vs.length) : ¬ (j < 0 ∨ c.slots.size ≤ j.toNatClampNeg) := by
  have e1 : c.slots.size = vs.length := by rw [← hc]; simp
  rw [own_cn hi, e1]
  rintro (u | u)
  · have := Int32.lt_iff_toInt_lt.mp u; have e0 : (0 : Int32).toInt = 0 := rfl; omega
  · omega
theorem own_at {j : Int32} {i : Nat} {c : Cell} {vs : List Value} {v : Value} (hi : j.toInt = (i : Int)) (hc : c.slots.toList = vs) (hv : vs[i]? = some v) : c.slots[j.toNatClampNeg]? = some v := by
  rw [own_cn hi, ← hv, ← hc]; simp
theorem Ars.wr {h' : Heap} {a : Addr} {ty : FieldType} {vs : List Value} {c : Cell} {i : Nat} {v : Value} {j : Int32} (hi : j.toInt = (i : Int)) (A : Arr Z h a c ty) (hc : c.slots.toList = vs) (hf : ∀ v ∈ vs, fits ty v = true) (hv : fits ty v = true) (W : Wr h h' a j.toNatClampNeg v) : Ars Z h' a ty (vs.set i v) := by
  refine ⟨_, A.same W, ?_, fun u hu => ?_⟩
  · rw [← hc, own_cn hi]; simp [Cell.setSlot]
  · rcases List.mem_or_eq_of_mem_set hu with u1 | u1
    · exact hf u u1
    · exact u1 ▸ hv
theorem oGo.newP {aty : ArrayType} {nn : Int32} {len : Nat} {ad : String} (cap : Nat) (hd : decode bytes pc = .ok (.newarray aty, 2)) (hq : pc + 2 = q) (w : (Cond.arrayClass (newarray.typeOf aty)).before a0 Z = true) (hn : nn.toInt = (len : Int)) (hcap : len ≤ cap) (hb8 : cap * 8 ≤ 536870912) (hc : k + 1 ≤ R.cells) (hs : n + cap ≤ R.slots) (had : "[" ++ (newarray.typeOf aty).toString = ad)
    (K : ∀ h' a, a = h.size → Keep h h' [] → Ars Z h' a (newarray.typeOf aty) (List.replicate len (defaultValue (newarray.typeOf aty))) → Exa Z h' a ad → oGo Z own nm bytes ml ret R n0 Q (k + 1) (n + cap) h' q L (.ref a :: S)) : oGo Z own nm bytes ml ret R n0 Q k n h pc L (.int nn :: S) :=
  fun p l e s m args below meth c T locs Cx X eT N => by
    obtain ⟨hx, hZ, hby, hml, hown, hrt, hlk, hnm⟩ := Cx
    subst hq
    have h0 : ¬ nn < 0 := fun u => by have := Int32.lt_iff_toInt_lt.mp u; have e0 : (0 : Int32).toInt = 0 := rfl; omega
    obtain ⟨T', h', cA, X', e', E, A, EA, st⟩ := Jvm.RoadKit.newPE X hx hZ w eT (g := mkF m pc L (.int nn :: S)) rfl (hb hby hd) rfl h0 (cap := cap) (by rw [own_cn hn]; exact hcap) hb8 hc hs had
    obtain ⟨s₂, o, h1, r⟩ := K h' h.size rfl (own_keep E) ⟨_, A, by simp [newA, own_cn hn], fun v hv => by rw [(List.mem_replicate.mp hv).2]; cases aty <;> rfl⟩ EA p l e s m args below meth c T' locs ⟨hx, hZ, hby, hml, hown, hrt, hlk, hnm⟩ X' e' N
    exact ⟨s₂, o, st _ h1, r⟩
theorem oGo.cast {i : Nat} {C : String} {a : Addr} (hd : decode bytes pc = .ok (.checkcast i, 3)) (hq : pc + 3 = q) (w : (Cond.classLink own i C).before a0 Z = true) (F : Ins Z h a C true) (K : oGo Z own nm bytes ml ret R n0 Q k n h q L (.ref a :: S)) : oGo Z own nm bytes ml ret R n0 Q k n h pc L (.ref a :: S) :=
  fun p l e s m args below meth c T locs Cx X eT N => by
    obtain ⟨hx, hZ, hby, hml, hown, hrt, hlk, hnm⟩ := Cx
    subst hq
    obtain ⟨T', X', e', st⟩ := Jvm.RoadKit.castY X hx hZ hown w eT F (g := mkF m pc L (.ref a :: S)) rfl rfl (hb hby hd)
    obtain ⟨s₂, o, h1, r⟩ := K p l e s m args below meth c T' locs ⟨hx, hZ, hby, hml, hown, hrt, hlk, hnm⟩ X' e' N
    exact ⟨s₂, o, st _ h1, r⟩
theorem oGo.arraylength {a : Addr} {ty : FieldType} {vs : List Value} {v : Int32} (hd : decode bytes pc = .ok (.arraylength, 1)) (hq : pc + 1 = q) (A : Ars Z h a ty vs) (hv : Int32.ofNat vs.length = v) (K : oGo Z own nm bytes ml ret R n0 Q k n h q L (.int v :: S)) : oGo Z own nm bytes ml ret R n0 Q k n h pc L (.ref a :: S) :=
  fun p l e s m args below meth c T locs Cx X eT N => by
    obtain ⟨hx, hZ, hby, hml, hown, hrt, hlk, hnm⟩ := Cx
    subst hq
    obtain ⟨cl, A, hc, -⟩ := A
    have e1 : cl.slots.size.toInt32 = v := by rw [← hv, ← hc, Array.length_toList]
    obtain ⟨s₂, o, h1, r⟩ := K p l e s m args below meth c T locs ⟨hx, hZ, hby, hml, hown, hrt, hlk, hnm⟩ X eT N
    exact ⟨s₂, o, X.arraylength hx (by rw [eT]; exact A.1) (State.isArrayOf_alike hZ.alike A.2.1) (g := mkF m pc L (.ref a :: S)) rfl rfl (hb hby hd) _ (by rw [e1]; exact h1), r⟩
theorem oGo.iaload {a : Addr} {j : Int32} {i : Nat} {vs : List Value} {v : Value} (hd : decode bytes pc = .ok (.iaload, 1)) (hq : pc + 1 = q) (A : Ars Z h a .int vs) (hi : j.toInt = (i : Int)) (hv : vs[i]? = some v) (K : oGo Z own nm bytes ml ret R n0 Q k n h q L (v :: S)) : oGo Z own nm bytes ml ret R n0 Q k n h pc L (.int j :: .ref a :: S) :=
  fun p l e s m args below meth c T locs Cx X eT N => by
    obtain ⟨hx, hZ, hby, hml, hown, hrt, hlk, hnm⟩ := Cx
    subst hq
    obtain ⟨cl, A, hc, -⟩ := A
    obtain ⟨s₂, o, h1, r⟩ := K p l e s m args below meth c T locs ⟨hx, hZ, hby, hml, hown, hrt, hlk, hnm⟩ X eT N
    exact ⟨s₂, o, X.iaload hx (by rw [eT]; exact A.1) (State.isArrayOf_alike hZ.alike A.2.1) A.2.2 (own_in hi hc (List.getElem?_eq_some_iff.mp hv).1) (own_at hi hc hv) (g := mkF m pc L (.int j :: .ref a :: S)) rfl rfl (hb hby hd) _ h1, r⟩
theorem oGo.laload {a : Addr} {j : Int32} {i : Nat} {vs : List Value} {v : Value} (hd : decode bytes pc = .ok (.laload, 1)) (hq : pc + 1 = q) (A : Ars Z h a .long vs) (hi : j.toInt = (i : Int)) (hv : vs[i]? = some v) (K : oGo Z own nm bytes ml ret R n0 Q k n h q L (v :: S)) : oGo Z own nm bytes ml ret R n0 Q k n h pc L (.int j :: .ref a :: S) :=
  fun p l e s m args below meth c T locs Cx X eT N => by
    obtain ⟨hx, hZ, hby, hml, hown, hrt, hlk, hnm⟩ := Cx
    subst hq
    obtain ⟨cl, A, hc, -⟩ := A
    obtain ⟨s₂, o, h1, r⟩ := K p l e s m args below meth c T locs ⟨hx, hZ, hby, hml, hown, hrt, hlk, hnm⟩ X eT N
    exact ⟨s₂, o, X.laload hx (by rw [eT]; exact A.1) (State.isArrayOf_alike hZ.alike A.2.1) A.2.2 (own_in hi hc (List.getElem?_eq_some_iff.mp hv).1) (own_at hi hc hv) (g := mkF m pc L (.int j :: .ref a :: S)) rfl rfl (hb hby hd) _ h1, r⟩
theorem oGo.baload {a : Addr} {j : Int32} {i : Nat} {vs : List Value} {v : Value} (hd : decode bytes pc = .ok (.baload, 1)) (hq : pc + 1 = q) (A : Ars Z h a .byte vs) (hi : j.toInt = (i : Int)) (hv : vs[i]? = some v) (K : oGo Z own nm bytes ml ret R n0 Q k n h q L (v :: S)) : oGo Z own nm bytes ml ret R n0 Q k n h pc L (.int j :: .ref a :: S) :=
  fun p l e s m args below meth c T locs Cx X eT N => by
    obtain ⟨hx, hZ, hby, hml, hown, hrt, hlk, hnm⟩ := Cx
    subst hq
    obtain ⟨cl, A, hc, -⟩ := A
    obtain ⟨s₂, o, h1, r⟩ := K p l e s m args below meth c T locs ⟨hx, hZ, hby, hml, hown, hrt, hlk, hnm⟩ X eT N
    exact ⟨s₂, o, X.baloadBytes hx (by rw [eT]; exact A.1) (State.isArrayOf_alike hZ.alike A.2.1) A.2.2 (own_in hi hc (List.getElem?_eq_some_iff.mp hv).1) (own_at hi hc hv) (g := mkF m pc L (.int j :: .ref a :: S)) rfl rfl (hb hby hd) _ h1, r⟩
theorem oGo.iastore {a : Addr} {j : Int32} {x : Int32} {i : Nat} {vs : List Value} (hd : decode bytes pc = .ok (.iastore, 1)) (hq : pc + 1 = q) (A : Ars Z h a .int vs) (hi : j.toInt = (i : Int)) (hl : i < vs.length) (ha : n0 ≤ a) (K : ∀ h', Keep h h' [a] → Ars Z h' a .int (vs.set i (.int x)) → oGo Z own nm bytes ml ret R n0 Q k n h' q L S) : oGo Z own nm bytes ml ret R n0 Q k n h pc L (.int x :: .int j :: .ref a :: S) :=
  fun p l e s m args below meth c T locs Cx X eT N => by
    obtain ⟨hx, hZ, hby, hml, hown, hrt, hlk, hnm⟩ := Cx
    subst hq
    obtain ⟨cl, A, hc, hf⟩ := A
    obtain ⟨T', h', X', e', W, st⟩ := Jvm.RoadKit.stI X hx hZ eT A (own_in hi hc hl) (g := mkF m pc L (.int x :: .int j :: .ref a :: S)) rfl rfl (hb hby hd)
    obtain ⟨s₂, o, h1, r⟩ := K h' (Keep.of_wr W) (Ars.wr hi A hc hf rfl W) p l e s m args below meth c T' _ ⟨hx, hZ, hby, hml, hown, hrt, hlk, hnm⟩ X' e' (Fr.snoc X' N ha)
    exact ⟨s₂, o, st _ h1, r⟩
theorem oGo.lastore {a : Addr} {j : Int32} {x : Int64} {i : Nat} {vs : List Value} (hd : decode bytes pc = .ok (.lastore, 1)) (hq : pc + 1 = q) (A : Ars Z h a .long vs) (hi : j.toInt = (i : Int)) (hl : i < vs.length) (ha : n0 ≤ a) (K : ∀ h', Keep h h' [a] → Ars Z h' a .long (vs.set i (.long x)) → oGo Z own nm bytes ml ret R n0 Q k n h' q L S) : oGo Z own nm bytes ml ret R n0 Q k n h pc L (.long x :: .int j :: .ref a :: S) :=
  fun p l e s m args below meth c T locs Cx X eT N => by
    obtain ⟨hx, hZ, hby, hml, hown, hrt, hlk, hnm⟩ := Cx
    subst hq
    obtain ⟨cl, A, hc, hf⟩ := A
    obtain ⟨T', h', X', e', W, st⟩ := Jvm.RoadKit.stJ X hx hZ eT A (own_in hi hc hl) (g := mkF m pc L (.long x :: .int j :: .ref a :: S)) rfl rfl (hb hby hd)
    obtain ⟨s₂, o, h1, r⟩ := K h' (Keep.of_wr W) (Ars.wr hi A hc hf rfl W) p l e s m args below meth c T' _ ⟨hx, hZ, hby, hml, hown, hrt, hlk, hnm⟩ X' e' (Fr.snoc X' N ha)
    exact ⟨s₂, o, st _ h1, r⟩
theorem oGo.bastore {a : Addr} {j x y : Int32} {i : Nat} {vs : List Value} (hd : decode bytes pc = .ok (.bastore, 1)) (hq : pc + 1 = q) (A : Ars Z h a .byte vs) (hi : j.toInt = (i : Int)) (hl : i < vs.length) (ha : n0 ≤ a) (hy : x.toInt8.toInt32 = y) (K : ∀ h', Keep h h' [a] → Ars Z h' a .byte (vs.set i (.int y)) → oGo Z own nm bytes ml ret R n0 Q k n h' q L S) : oGo Z own nm bytes ml ret R n0 Q k n h pc L (.int x :: .int j :: .ref a :: S) :=
  fun p l e s m args below meth c T locs Cx X eT N => by
    obtain ⟨hx, hZ, hby, hml, hown, hrt, hlk, hnm⟩ := Cx
    subst hq hy
    obtain ⟨cl, A, hc, hf⟩ := A
    obtain ⟨T', h', X', e', W, st⟩ := Jvm.RoadKit.stB X hx hZ eT A (own_in hi hc hl) (g := mkF m pc L (.int x :: .int j :: .ref a :: S)) rfl rfl (hb hby hd)
    obtain ⟨s₂, o, h1, r⟩ := K h' (Keep.of_wr W) (Ars.wr hi A hc hf (fits_nar_byte x) W) p l e s m args below meth c T' _ ⟨hx, hZ, hby, hml, hown, hrt, hlk, hnm⟩ X' e' (Fr.snoc X' N ha)
    exact ⟨s₂, o, st _ h1, r⟩
/-! small numbers -/
theorem own_oi {i : Nat} (hi : i < 2147483648) : (Int32.ofNat i).toInt = (i : Int) := Int32.toInt_ofNat_of_lt (by omega)
theorem own_oinc (i : Nat) : Int32.ofNat i + Int32.ofInt 1 = Int32.ofNat (i + 1) := (Int32.ofNat_add i 1).symm
theorem own_oadd {i m : Nat} {c : Int32} (hc : c = Int32.ofNat m) : Int32.ofNat i + c = Int32.ofNat (i + m) := by rw [hc]; exact (Int32.ofNat_add i m).symm
theorem own_oiadd {i m : Nat} {c : Int32} (hc : c = Int32.ofNat m) (h : i + m < 2147483648) : (Int32.ofNat i + c).toInt = ((i + m : Nat) : Int) := by rw [own_oadd hc]; exact own_oi h
theorem own_pred {i : Nat} (hi : i < 2147483647) : (Int32.ofNat (i + 1) - (1 : Int32)).toInt = (i : Int) := by
  have a := c_isub (Int32.ofNat (i + 1)) 1
  have e := own_oi (i := i + 1) (by omega)
  have z : (1 : Int32).toInt = 1 := by decide
  have r := rng32 (Int32.ofNat (i + 1) - 1)
  omega
theorem own_bb (x : Int32) : x.toInt8.toInt32.toInt8.toInt32 = x.toInt8.toInt32 := by
  apply Int32.toInt_inj.mp
  have h1 := c_i2b x
  have h2 := c_i2b x.toInt8.toInt32
  omega
def own_ints (vs : List Value) (n : Nat) : Prop := vs.length = n ∧ ∀ k, k < n → ∃ x : Int32, vs[k]? = some (.int x)
theorem own_ints.set {vs : List Value} {n i : Nat} {x : Int32} (u : own_ints vs n) : own_ints (vs.set i (.int x)) n := by
  refine ⟨by rw [List.length_set]; exact u.1, fun k hk => ?_⟩
  by_cases e : i = k
  · subst e; exact ⟨x, List.getElem?_set_self (by rw [u.1]; exact hk)⟩
  · rw [List.getElem?_set_ne e]; exact u.2 k hk
theorem own_irem (x y : Int32) (hx : 0 ≤ x.toInt) : (x % y).toInt = x.toInt % y.toInt := by rw [Int32.toInt_mod]; exact (tr _ _).1 hx
theorem own_lrem (x y : Int64) (hx : 0 ≤ x.toInt) : (x % y).toInt = x.toInt % y.toInt := by rw [Int64.toInt_mod]; exact (tr _ _).1 hx
theorem own_int32 {x y : Int32} (e : x.toInt = y.toInt) : x = y := Int32.toInt_inj.mp e
theorem own_int64 {x y : Int64} (e : x.toInt = y.toInt) : x = y := Int64.toInt_inj.mp e
theorem own_nat {x : Int32} {i : Nat} (e : x.toInt = (i : Int)) (hi : i < 2147483648) : x = Int32.ofNat i := own_int32 (e.trans (own_oi hi).symm)
/-! System.arraycopy -/
theorem Ars.arv {a : Addr} {ty : FieldType} {vs : List Value} (dv : Value) (A : Ars Z h a ty vs) (hl : vs.length < 2147483648) : ∃ k, Arv Z h a k ty (Int32.ofNat vs.length) vs dv := by
  obtain ⟨c, A, hc, hf⟩ := A
  have e1 : c.slots.size = vs.length := by rw [← hc, Array.length_toList]
  have e2 : (Int32.ofNat vs.length).toNatClampNeg = vs.length := own_cn (own_oi hl)
  refine ⟨c.cls, c, A, rfl, by rw [e1, e2], fun u => ?_, fun k hk => ?_, fun i hi => ?_⟩
  · have := Int32.lt_iff_toInt_lt.mp u
    have e0 : (0 : Int32).toInt = 0 := rfl
    rw [own_oi hl] at this
    omega
  · rw [e1] at hk
    rw [← Array.getElem?_toList, hc, List.getD_eq_getElem?_getD, List.getElem?_eq_getElem hk]
    rfl
  · rw [e1] at hi
    rw [List.getD_eq_getElem?_getD, List.getElem?_eq_getElem hi]
    exact hf _ (List.getElem_mem hi)
theorem Ars.of_arv {a : Addr} {ty : FieldType} {vs : List Value} {dv : Value} {z : Int32} {k : ClassId} (A : Arv Z h a k ty z vs dv) (hz : z.toNatClampNeg = vs.length) : Ars Z h a ty vs := by
  obtain ⟨c, A, -, e1, -, H, F⟩ := A
  rw [hz] at e1
  refine ⟨c, A, List.ext_getElem? fun i => ?_, fun v hv => ?_⟩
  · rw [Array.getElem?_toList]
    by_cases u : i < vs.length
    · rw [H i (by rw [e1]; exact u), List.getD_eq_getElem?_getD, List.getElem?_eq_getElem u]; rfl
    · rw [List.getElem?_eq_none (by omega), Array.getElem?_eq_none (by omega)]
  · obtain ⟨i, hi, rfl⟩ := List.mem_iff_getElem.mp hv
    have := F i (by rw [e1]; exact hi)
    rwa [List.getD_eq_getElem?_getD, List.getElem?_eq_getElem hi] at this
theorem own_us {vs : List Value} {si len : Nat} {dv : Value} (hl : si + len ≤ vs.length) : (vs.drop si).take len = (List.range len).map fun i => vs.getD (si + i) dv := by
  apply List.ext_getElem
  · simp; omega
  · intro i h1 h2
    simp only [List.length_map, List.length_range] at h2
    simp [List.getD_eq_getElem?_getD, List.getElem?_eq_getElem (show si + i < vs.length by omega)]
theorem own_nn {j : Int32} {i : Nat} (hi : j.toInt = (i : Int)) : ¬ j < 0 := fun u => by
  have := Int32.lt_iff_toInt_lt.mp u
  have e0 : (0 : Int32).toInt = 0 := rfl
  omega
theorem oGo.acopy {i W : Nat} {a b : Addr} {ty : FieldType} {vs vd : List Value} {sp dp nn : Int32} {si di len : Nat} (hd : decode bytes pc = .ok (.invokestatic i, 3)) (hq : pc + 3 = q)
    (w1 : (Cond.methodLink own i Jvm.Stand.acN).before a0 Z = true) (w2 : (Cond.native Jvm.Stand.acN).before a0 Z = true) (w3 : (Cond.static Jvm.Stand.acN).before a0 Z = true) (w4 : (Cond.initialized "java/lang/System").before a0 Z = true)
    (A : Ars Z h a ty vs) (B : Ars Z h b ty vd) (hty : refKind ty = false) (h1 : sp.toInt = (si : Int)) (h2 : dp.toInt = (di : Int)) (h3 : nn.toInt = (len : Int)) (h4 : si + len ≤ vs.length) (h5 : di + len ≤ vd.length) (l1 : vs.length < 2147483648) (l2 : vd.length < 2147483648) (ge : n0 ≤ b) (hL : L.size = ml) (hf : 1 ≤ R.frames) (hW : 2 * 0 + (S.map fun v => v.category).sum ≤ W) (hlo : W + (nativeFrameWords "java/lang/System" "arraycopy" 5 + 11) ≤ R.locals)
    (K : ∀ h', Keep h h' [b] → Ars Z h' b ty (vd.take di ++ (vs.drop si).take len ++ vd.drop (di + len)) → oGo Z own nm bytes ml ret R n0 Q k n h' q L S) : oGo Z own nm bytes ml ret R n0 Q k n h pc L (.int nn :: .int dp :: .ref b :: .int sp :: .ref a :: S) :=
  fun p l e s m args below meth c T locs Cx X eT N => by
    obtain ⟨hx, hZ, hby, hml, hown, hrt, hlk, hnm⟩ := Cx
    subst hq
    obtain ⟨k1, A'⟩ := A.arv .null l1
    obtain ⟨k2, B'⟩ := B.arv .null l2
    have c1 := own_cn h1
    have c2 := own_cn h2
    have c3 := own_cn h3
    have e1 := own_cn (own_oi l1)
    have e2 := own_cn (own_oi l2)
    obtain ⟨T', h', L', X', e', N', K', B'', st⟩ := cpA X hx hZ hown w1 w2 w3 w4 eT A' B' (Or.inl ⟨rfl, hty⟩) (own_nn h1) (own_nn h2) (own_nn h3) (by rw [c1, c3, e1]; exact h4) (by rw [c2, c3, e2]; exact h5) rfl (by rw [c2, c3]; exact h5) N ge (g := mkF m pc L (.int nn :: .int dp :: .ref b :: .int sp :: .ref a :: S)) rfl (by rw [hml]; exact hL) rfl (hb hby hd) hf hW hlo
    rw [c1, c2, c3, ← own_us h4] at B''
    obtain ⟨s₂, o, g1, r⟩ := K h' K' (Ars.of_arv B'' (by rw [e2]; simp only [List.length_append, List.length_take, List.length_drop]; omega)) p l e s m args below meth c T' L' ⟨hx, hZ, hby, hml, hown, hrt, hlk, hnm⟩ X' e' N'
    exact ⟨s₂, o, st _ g1, r⟩
theorem oGo.clone {i W : Nat} {ad : String} {a : Addr} {ty : FieldType} {vs : List Value} (cap : Nat) (hd : decode bytes pc = .ok (.invokevirtual i, 3)) (hq : pc + 3 = q)
    (w1 : (Cond.methodLink own i ⟨ad, "clone", "()Ljava/lang/Object;"⟩).before a0 Z = true) (w2 : (Cond.sameMethod ad "java/lang/Object" "clone" "()Ljava/lang/Object;").before a0 Z = true) (w3 : (Cond.native ⟨"java/lang/Object", "clone", "()Ljava/lang/Object;"⟩).before a0 Z = true)
    (w4 : (Cond.instanceMethod ⟨"java/lang/Object", "clone", "()Ljava/lang/Object;"⟩).before a0 Z = true) (w5 : (Cond.selects ad ⟨ad, "clone", "()Ljava/lang/Object;"⟩ ⟨"java/lang/Object", "clone", "()Ljava/lang/Object;"⟩).before a0 Z = true) (w6 : (Cond.castable ad "java/lang/Cloneable").before a0 Z = true)
    (A : Ars Z h a ty vs) (E : Exa Z h a ad) (hl : vs.length < 2147483648) (hcap : vs.length ≤ cap) (hL : L.size = ml) (hf : 1 ≤ R.frames) (hW : 2 * 0 + (S.map fun v => v.category).sum ≤ W) (hlo : W + 14 ≤ R.locals) (hc : k + 1 ≤ R.cells) (hs : n + cap ≤ R.slots)
    (K : ∀ h' b, b = h.size → Keep h h' [] → Ars Z h' b ty vs → Exa Z h' b ad → oGo Z own nm bytes ml ret R n0 Q (k + 1) (n + cap) h' q L (.ref b :: S)) : oGo Z own nm bytes ml ret R n0 Q k n h pc L (.ref a :: S) :=
  fun p l e s m args below meth c T locs Cx X eT N => by
    obtain ⟨hx, hZ, hby, hml, hown, hrt, hlk, hnm⟩ := Cx
    subst hq
    obtain ⟨k1, A'⟩ := A.arv .null hl
    have e1 := own_cn (own_oi hl)
    obtain ⟨T', h', X', e', Ex, B', EB, st⟩ := cloneH X hx hZ hown w1 w2 w3 w4 w5 w6 eT A'.arh E (g := mkF m pc L (.ref a :: S)) rfl (by rw [hml]; exact hL) rfl (hb hby hd) hf hW hlo (cap := cap) (by rw [e1]; exact hcap) hc hs
    obtain ⟨s₂, o, g1, r⟩ := K h' h.size rfl (own_keep Ex) (Ars.of_arv (show Arv Z h' h.size k1 ty (Int32.ofNat vs.length) vs .null from B') e1) EB p l e s m args below meth c T' locs ⟨hx, hZ, hby, hml, hown, hrt, hlk, hnm⟩ X' e' N
    exact ⟨s₂, o, st _ g1, r⟩
theorem oGo.callP {y : MethodName} {i W kk : Nat} {bytes' : ByteArray} {ml' : Nat} {ret' : Option FieldType} {rm : Room} {as : Array Value} {Q' : Option Value → Heap → Prop} {ps : List FieldType} {rt : Option FieldType} {a : Addr} {C : String} (argsL rest : List Value) (hd : decode bytes pc = .ok (.invokevirtual i, 3)) (hq : pc + 3 = q)
    (w1 : (Cond.methodLink own i y).before a0 Z = true) (w2 : (Cond.instanceMethod y).before a0 Z = true) (wp : (Cond.privateMethod y).before a0 Z = true) (wi : (Cond.instantiable y.cls kk).before a0 Z = true) (w3 : (Cond.initialized y.cls).before a0 Z = true) (w4 : (Cond.code y bytes' ml' ret').before a0 Z = true) (hy : y.cls ≠ "java/lang/invoke/MethodHandle" ∧ y.cls ≠ "java/lang/invoke/VarHandle") (E : Exa Z h a C)
    (hC : oCon Z y bytes' ml' ret' rm as h n0 Q') (hS : S = argsL.reverse ++ .ref a :: rest) (has : (.ref a :: argsL).toArray = as) (hpd : parseMethodDescriptor y.desc = some ⟨ps, rt⟩) (hlen : argsL.length = ps.length) (hL : L.size = ml) (hW : 2 * 0 + (rest.map fun v => v.category).sum ≤ W) (hf : rm.frames + 1 ≤ R.frames) (hl : W + (ml' + 11) + rm.locals ≤ R.locals) (hc : k + rm.cells ≤ R.cells) (hs : n + rm.slots ≤ R.slots)
    (K : ∀ v h', Q' v h' → oGo Z own nm bytes ml ret R n0 Q (k + rm.cells) (n + rm.slots) h' q L (v.toList ++ rest)) : oGo Z own nm bytes ml ret R n0 Q k n h pc L S :=
  fun p l e s m args below meth c T locs Cx X eT N => by
    obtain ⟨hx, hZ, hby, hml, hown, hrt, hlk, hnm⟩ := Cx
    subst hq
    obtain ⟨cq, q1, q2⟩ := E.cell
    have hpr := Cond.privateMethod_at (mvP hZ wp (args := #[]))
    have hin : (Cond.instanceMethod y).before args s = true := mvT hZ w2
    obtain ⟨ci, ki, i1, i2, -, i4, -, -⟩ := Cond.instantiable_spec (show (Cond.instantiable y.cls kk).before args s = true from mvT hZ wi)
    have hsel := selects_self_of_private (args := args) i1 i2 (by simp only [Bool.or_eq_false_iff] at i4; exact i4.1) hpr hin hy
    obtain ⟨v, _, ⟨T', L2, k2, n2⟩, -, X', ⟨Lc, hQ', l', y', z'⟩, st⟩ := X.privateBack hx (y := y) hown (mvT hZ w1) hin hsel hpr (mvT hZ w4) hy (backOf (W := W) (Q := fun v h' L => Q' v h' ∧ Fr n0 L) (hC l []) hZ w4 w3 hf hl) (g := mkF m pc L S) rfl (by rw [hml]; exact hL) (Steps.refl _) (a := a) (by rw [eT]; exact q1) q2 (argsL := argsL) (rest := rest) (lenOf hpd hlen) hS hW (hb hby hd) (fun _ _ => ⟨has, eT, hc, hs⟩)
    dsimp only [Pt.U, Pt.locs, Pt.cells, Pt.slots] at X' l' y' z' st hQ'
    subst l' y' z'
    obtain ⟨s₂, o, h1, r⟩ := K v T'.heap hQ'.1 p l e s m args below meth c T' _ ⟨hx, hZ, hby, hml, hown, hrt, hlk, hnm⟩ X' rfl (Fr.app N hQ'.2)
    exact ⟨s₂, o, st.trans h1, r⟩
/-! booleans -/
def own_b (b : Int32) (P : Prop) : Prop := (b = 1 ∧ P) ∨ (b = 0 ∧ ¬ P)
theorem own_b.t {P : Prop} (hp : P) : own_b 1 P := Or.inl ⟨rfl, hp⟩
theorem own_b.f {P : Prop} (hp : ¬ P) : own_b 0 P := Or.inr ⟨rfl, hp⟩
theorem own_b.z {b : Int32} {P : Prop} (u : own_b b P) (hb : b = 0) : ¬ P := by
  rcases u with ⟨rfl, _⟩ | ⟨_, u⟩
  · exact absurd hb (by decide)
  · exact u
theorem own_b.nz {b : Int32} {P : Prop} (u : own_b b P) (hb : b ≠ 0) : P := by
  rcases u with ⟨_, u⟩ | ⟨rfl, _⟩
  · exact u
  · exact absurd rfl hb
theorem own_b.nar {b : Int32} {P : Prop} (u : own_b b P) : nar .boolean b = b := by
  rcases u with ⟨rfl, _⟩ | ⟨rfl, _⟩ <;> rfl
theorem own_b.eq {b c : Int32} {P P' : Prop} (u : own_b b P) (v : own_b c P') (hp : P ↔ P') : b = c := by
  rcases u with ⟨rfl, u⟩ | ⟨rfl, u⟩ <;> rcases v with ⟨rfl, v⟩ | ⟨rfl, v⟩
  · rfl
  · exact absurd (hp.mp u) v
  · exact absurd (hp.mpr v) u
  · rfl
theorem own_b.is0 {b : Int32} {P : Prop} (u : own_b b P) (hp : ¬ P) : b = 0 := u.elim (fun z => absurd z.2 hp) (fun z => z.1)
theorem own_b.is1 {b : Int32} {P : Prop} (u : own_b b P) (hp : P) : b = 1 := u.elim (fun z => z.1) (fun z => absurd hp z.2)
theorem own_b.iff {b : Int32} {P P' : Prop} (u : own_b b P) (hp : P ↔ P') : own_b b P' := u.imp (fun z => ⟨z.1, hp.mp z.2⟩) (fun z => ⟨z.1, fun y => z.2 (hp.mpr y)⟩)
end Own
def own_ok (n v : Int32) : Prop := v ≠ 0 ∧ v.toInt ≤ n.toInt ∧ -n.toInt ≤ v.toInt
def own_oks (n : Int32) (vs : List Value) : Prop := ∀ i, i < vs.length → ∃ v : Int32, vs[i]? = some (.int v) ∧ own_ok n v
theorem own_oks.nil (n : Int32) : own_oks n [] := fun i hi => absurd hi (by simp)
theorem own_oks.cons {n v : Int32} {vs : List Value} (hv : own_ok n v) (u : own_oks n vs) : own_oks n (.int v :: vs) := fun i hi => by
  cases i with
  | zero => exact ⟨v, rfl, hv⟩
  | succ i => exact u i (by simpa using hi)
theorem d6_0 : decode prog_11_method_7_code 0 = .ok (.aload_n 1, 1) := by decide +kernel
theorem d6_1 : decode prog_11_method_7_code 1 = .ok (.astore_n 2, 1) := by decide +kernel
theorem d6_2 : decode prog_11_method_7_code 2 = .ok (.aload_n 2, 1) := by decide +kernel
theorem d6_3 : decode prog_11_method_7_code 3 = .ok (.arraylength, 1) := by decide +kernel
theorem d6_4 : decode prog_11_method_7_code 4 = .ok (.istore_n 3, 1) := by decide +kernel
theorem d6_5 : decode prog_11_method_7_code 5 = .ok (.iconst 0, 1) := by decide +kernel
theorem d6_6 : decode prog_11_method_7_code 6 = .ok (.istore 4, 2) := by decide +kernel
theorem d6_8 : decode prog_11_method_7_code 8 = .ok (.iload 4, 2) := by decide +kernel
theorem d6_10 : decode prog_11_method_7_code 10 = .ok (.iload_n 3, 1) := by decide +kernel
theorem d6_11 : decode prog_11_method_7_code 11 = .ok (.if_icmp .ge 49, 3) := by decide +kernel
theorem d6_14 : decode prog_11_method_7_code 14 = .ok (.aload_n 2, 1) := by decide +kernel
theorem d6_15 : decode prog_11_method_7_code 15 = .ok (.iload 4, 2) := by decide +kernel
theorem d6_17 : decode prog_11_method_7_code 17 = .ok (.iaload, 1) := by decide +kernel
theorem d6_18 : decode prog_11_method_7_code 18 = .ok (.istore 5, 2) := by decide +kernel
theorem d6_20 : decode prog_11_method_7_code 20 = .ok (.iload 5, 2) := by decide +kernel
theorem d6_22 : decode prog_11_method_7_code 22 = .ok (.ifCond .eq 16, 3) := by decide +kernel
theorem d6_25 : decode prog_11_method_7_code 25 = .ok (.iload 5, 2) := by decide +kernel
theorem d6_27 : decode prog_11_method_7_code 27 = .ok (.iload_n 0, 1) := by decide +kernel
theorem d6_28 : decode prog_11_method_7_code 28 = .ok (.if_icmp .gt 10, 3) := by decide +kernel
theorem d6_31 : decode prog_11_method_7_code 31 = .ok (.iload 5, 2) := by decide +kernel
theorem d6_33 : decode prog_11_method_7_code 33 = .ok (.iload_n 0, 1) := by decide +kernel
theorem d6_34 : decode prog_11_method_7_code 34 = .ok (.ineg, 1) := by decide +kernel
theorem d6_35 : decode prog_11_method_7_code 35 = .ok (.if_icmp .ge 19, 3) := by decide +kernel
theorem d6_38 : decode prog_11_method_7_code 38 = .ok (.new 87, 3) := by decide +kernel
theorem d6_41 : decode prog_11_method_7_code 41 = .ok (.dup, 1) := by decide +kernel
theorem d6_42 : decode prog_11_method_7_code 42 = .ok (.iload 5, 2) := by decide +kernel
theorem d6_44 : decode prog_11_method_7_code 44 = .ok (.iload_n 0, 1) := by decide +kernel
theorem d6_50 : decode prog_11_method_7_code 50 = .ok (.invokespecial 90, 3) := by decide +kernel
theorem d6_54 : decode prog_11_method_7_code 54 = .ok (.iinc 4 1, 3) := by decide +kernel
theorem d6_57 : decode prog_11_method_7_code 57 = .ok (.goto (-49), 3) := by decide +kernel
theorem d6_60 : decode prog_11_method_7_code 60 = .ok (.return_, 1) := by decide +kernel
theorem own_pd0 : parseMethodDescriptor "(I[I)V" = some ⟨[.int, (.array .int)], none⟩ := by decide +kernel
theorem own_ef6 (m : MethodId) (x0 : Int32) (x1 : Addr) : entryFrame m #[(.int x0), (.ref x1)] 6 = mkF m 0 #[.val (.int x0), .val (.ref x1), .unset, .unset, .unset, .unset] [] := by first | (simp [entryFrame, mkF, argsToLocals, Value.category]; done) | rfl
theorem own_pn6 : plainFor (⟨"com/example/ferret/ferret/engine/Dimacs", "requireDeclared", "(I[I)V"⟩ : MethodName) = true := plainFor_of_name (by first | (simp [plainName, overriddenIn]; done) | decide +kernel)
set_option maxRecDepth 65536 in
set_option maxHeartbeats 40000000 in
theorem crd {Z : State} {a0 : Array Value} (hw : ∀ d ∈ tables_1, d.before a0 Z = true) (n : Int32) (a : Addr) (vs : List Value) (h : Heap) (n0 : Nat) (hn : 0 ≤ n.toInt) (A : Ars Z h a .int vs) (hl : vs.length < 2147483647) (H : own_oks n vs) :
    oCon Z (⟨"com/example/ferret/ferret/engine/Dimacs", "requireDeclared", "(I[I)V"⟩ : MethodName) prog_11_method_7_code 6 none ({ frames := 0, cells := 0, slots := 0, locals := 0 } : Room) #[(.int n), (.ref a)] h n0 (fun v h' => v = none ∧ h' = h) := by
  refine oCon.of own_pn6 (fun m => own_ef6 m n a) ?_
  show oGo Z _ _ _ _ _ _ n0 _ 0 0 h 0 #[.val (.int n), .val (.ref a), .unset, .unset, .unset, .unset] []
  have el := own_oi (i := vs.length) (by omega)
  have en := c_ineg n
  have rn := rng32 n
  have rm := rng32 (-n)
  refine oGo.aloadN (q := 1) d6_0 rfl rfl rfl ?_
  refine oGo.astoreN (q := 2) (L' := #[.val (.int n), .val (.ref a), .val (.ref a), .unset, .unset, .unset]) d6_1 rfl rfl rfl ?_
  refine oGo.aloadN (q := 3) d6_2 rfl rfl rfl ?_
  refine oGo.arraylength (q := 4) (v := (Int32.ofNat vs.length)) d6_3 rfl A rfl ?_
  refine oGo.istoreN (q := 5) (L' := #[.val (.int n), .val (.ref a), .val (.ref a), .val (.int (Int32.ofNat vs.length)), .unset, .unset]) d6_4 rfl rfl ?_
  refine oGo.iconst (q := 6) (v := (0 : Int32)) d6_5 rfl rfl ?_
  refine oGo.istore (q := 8) (L' := #[.val (.int n), .val (.ref a), .val (.ref a), .val (.int (Int32.ofNat vs.length)), .val (.int (0 : Int32)), .unset]) d6_6 rfl rfl ?_
  have loop : ∀ (t i : Nat) (s5 : Slot), i + t = vs.length → (s5 = .unset ∨ ∃ v : Int32, s5 = .val (.int v)) → oGo Z "com/example/ferret/ferret/engine/Dimacs" "requireDeclared" prog_11_method_7_code 6 none ({ frames := 0, cells := 0, slots := 0, locals := 0 } : Room) n0 (fun v h' => v = none ∧ h' = h) 0 0 h 8 #[.val (.int n), .val (.ref a), .val (.ref a), .val (.int (Int32.ofNat vs.length)), .val (.int (Int32.ofNat i)), s5] [] := by
    intro t
    induction t with
    | zero =>
      intro i s5 hi hs
      have ei := own_oi (i := i) (by omega)
      refine oGo.iload (q := 10) d6_8 rfl rfl ?_
      refine oGo.iloadN (q := 11) d6_10 rfl rfl ?_
      refine oGo.icmp_ge (q := 60) (r := 14) d6_11 (by decide) rfl (fun hc => ?_) (fun hc => absurd hc (by omega))
      exact oGo.retV d6_60 rfl (by decide) (by decide) (⟨rfl, rfl⟩)
    | succ t ih =>
      intro i s5 hi hs
      have ei := own_oi (i := i) (by omega)
      obtain ⟨v, hv, hv0, hv1, hv2⟩ := H i (by omega)
      refine oGo.iload (q := 10) d6_8 rfl rfl ?_
      refine oGo.iloadN (q := 11) d6_10 rfl rfl ?_
      refine oGo.icmp_ge (q := 60) (r := 14) d6_11 (by decide) rfl (fun hc => absurd hc (by omega)) (fun hc => ?_)
      refine oGo.aloadN (q := 15) d6_14 rfl rfl rfl ?_
      refine oGo.iload (q := 17) d6_15 rfl rfl ?_
      refine oGo.iaload (q := 18) (i := i) (v := (.int v)) d6_17 rfl A ei hv ?_
      refine oGo.istore (q := 20) (L' := #[.val (.int n), .val (.ref a), .val (.ref a), .val (.int (Int32.ofNat vs.length)), .val (.int (Int32.ofNat i)), .val (.int v)]) d6_18 rfl (by rcases hs with rfl | ⟨u, rfl⟩ <;> rfl) ?_
      refine oGo.iload (q := 22) d6_20 rfl rfl ?_
      refine oGo.if_eq (q := 38) (r := 25) d6_22 (by decide) rfl (fun hc1 => absurd hc1 hv0) (fun hc1 => ?_)
      refine oGo.iload (q := 27) d6_25 rfl rfl ?_
      refine oGo.iloadN (q := 28) d6_27 rfl rfl ?_
      refine oGo.icmp_gt (q := 38) (r := 31) d6_28 (by decide) rfl (fun hc2 => absurd hc2 (by omega)) (fun hc2 => ?_)
      refine oGo.iload (q := 33) d6_31 rfl rfl ?_
      refine oGo.iloadN (q := 34) d6_33 rfl rfl ?_
      refine oGo.ineg (q := 35) d6_34 rfl ?_
      refine oGo.icmp_ge (q := 54) (r := 38) d6_35 (by decide) rfl (fun hc3 => ?_) (fun hc3 => absurd hc3 (by omega))
      refine oGo.iinc (q := 57) (v := (Int32.ofNat (i + 1))) (L' := #[.val (.int n), .val (.ref a), .val (.ref a), .val (.int (Int32.ofNat vs.length)), .val (.int (Int32.ofNat (i + 1))), .val (.int v)]) d6_54 rfl rfl (own_oinc i) rfl ?_
      refine oGo.goto (q := 8) d6_57 (by decide) ?_
      exact ih (i + 1) _ (by omega) (Or.inr ⟨v, rfl⟩)
  exact loop vs.length 0 _ (by omega) (Or.inl rfl)
theorem d1_0 : decode prog_11_method_1_code 0 = .ok (.aload_n 0, 1) := by decide +kernel
theorem d1_1 : decode prog_11_method_1_code 1 = .ok (.invokespecial 3, 3) := by decide +kernel
theorem d1_4 : decode prog_11_method_1_code 4 = .ok (.aload_n 0, 1) := by decide +kernel
theorem d1_5 : decode prog_11_method_1_code 5 = .ok (.sipush 1024, 3) := by decide +kernel
theorem d1_8 : decode prog_11_method_1_code 8 = .ok (.newarray .int, 2) := by decide +kernel
theorem d1_10 : decode prog_11_method_1_code 10 = .ok (.putfield 9, 3) := by decide +kernel
theorem d1_13 : decode prog_11_method_1_code 13 = .ok (.return_, 1) := by decide +kernel
theorem own_pd1 : parseMethodDescriptor "()V" = some ⟨[], none⟩ := by decide +kernel
theorem d4_0 : decode prog_11_method_2_code 0 = .ok (.aload_n 0, 1) := by decide +kernel
theorem d4_1 : decode prog_11_method_2_code 1 = .ok (.dup, 1) := by decide +kernel
theorem d4_2 : decode prog_11_method_2_code 2 = .ok (.getfield 15, 3) := by decide +kernel
theorem d4_5 : decode prog_11_method_2_code 5 = .ok (.iconst 1, 1) := by decide +kernel
theorem d4_6 : decode prog_11_method_2_code 6 = .ok (.iadd, 1) := by decide +kernel
theorem d4_7 : decode prog_11_method_2_code 7 = .ok (.putfield 15, 3) := by decide +kernel
theorem d4_10 : decode prog_11_method_2_code 10 = .ok (.aload_n 0, 1) := by decide +kernel
theorem d4_11 : decode prog_11_method_2_code 11 = .ok (.getfield 15, 3) := by decide +kernel
theorem d4_14 : decode prog_11_method_2_code 14 = .ok (.ireturn, 1) := by decide +kernel
theorem own_pd2 : parseMethodDescriptor "()I" = some ⟨[], some .int⟩ := by decide +kernel
theorem d5_0 : decode prog_11_method_3_code 0 = .ok (.aload_n 0, 1) := by decide +kernel
theorem d5_1 : decode prog_11_method_3_code 1 = .ok (.getfield 15, 3) := by decide +kernel
theorem d5_4 : decode prog_11_method_3_code 4 = .ok (.aload_n 1, 1) := by decide +kernel
theorem d5_5 : decode prog_11_method_3_code 5 = .ok (.invokestatic 19, 3) := by decide +kernel
theorem d5_8 : decode prog_11_method_3_code 8 = .ok (.aload_n 0, 1) := by decide +kernel
theorem d5_9 : decode prog_11_method_3_code 9 = .ok (.getfield 23, 3) := by decide +kernel
theorem d5_12 : decode prog_11_method_3_code 12 = .ok (.i2l, 1) := by decide +kernel
theorem d5_13 : decode prog_11_method_3_code 13 = .ok (.aload_n 1, 1) := by decide +kernel
theorem d5_14 : decode prog_11_method_3_code 14 = .ok (.arraylength, 1) := by decide +kernel
theorem d5_15 : decode prog_11_method_3_code 15 = .ok (.i2l, 1) := by decide +kernel
theorem d5_16 : decode prog_11_method_3_code 16 = .ok (.ladd, 1) := by decide +kernel
theorem d5_17 : decode prog_11_method_3_code 17 = .ok (.lconst 1, 1) := by decide +kernel
theorem d5_18 : decode prog_11_method_3_code 18 = .ok (.ladd, 1) := by decide +kernel
theorem d5_19 : decode prog_11_method_3_code 19 = .ok (.lstore_n 2, 1) := by decide +kernel
theorem d5_20 : decode prog_11_method_3_code 20 = .ok (.lload_n 2, 1) := by decide +kernel
theorem d5_21 : decode prog_11_method_3_code 21 = .ok (.ldc2_w 26, 3) := by decide +kernel
theorem d5_24 : decode prog_11_method_3_code 24 = .ok (.lcmp, 1) := by decide +kernel
theorem d5_25 : decode prog_11_method_3_code 25 = .ok (.ifCond .le 13, 3) := by decide +kernel
theorem d5_28 : decode prog_11_method_3_code 28 = .ok (.new 28, 3) := by decide +kernel
theorem d5_31 : decode prog_11_method_3_code 31 = .ok (.dup, 1) := by decide +kernel
theorem d5_32 : decode prog_11_method_3_code 32 = .ok (.ldc 30, 2) := by decide +kernel
theorem d5_34 : decode prog_11_method_3_code 34 = .ok (.invokespecial 32, 3) := by decide +kernel
theorem d5_38 : decode prog_11_method_3_code 38 = .ok (.lload_n 2, 1) := by decide +kernel
theorem d5_39 : decode prog_11_method_3_code 39 = .ok (.aload_n 0, 1) := by decide +kernel
theorem d5_40 : decode prog_11_method_3_code 40 = .ok (.getfield 9, 3) := by decide +kernel
theorem d5_43 : decode prog_11_method_3_code 43 = .ok (.arraylength, 1) := by decide +kernel
theorem d5_44 : decode prog_11_method_3_code 44 = .ok (.i2l, 1) := by decide +kernel
theorem d5_45 : decode prog_11_method_3_code 45 = .ok (.lcmp, 1) := by decide +kernel
theorem d5_46 : decode prog_11_method_3_code 46 = .ok (.ifCond .le 39, 3) := by decide +kernel
theorem d5_49 : decode prog_11_method_3_code 49 = .ok (.ldc2_w 35, 3) := by decide +kernel
theorem d5_52 : decode prog_11_method_3_code 52 = .ok (.aload_n 0, 1) := by decide +kernel
theorem d5_53 : decode prog_11_method_3_code 53 = .ok (.getfield 9, 3) := by decide +kernel
theorem d5_56 : decode prog_11_method_3_code 56 = .ok (.arraylength, 1) := by decide +kernel
theorem d5_57 : decode prog_11_method_3_code 57 = .ok (.i2l, 1) := by decide +kernel
theorem d5_58 : decode prog_11_method_3_code 58 = .ok (.lmul, 1) := by decide +kernel
theorem d5_59 : decode prog_11_method_3_code 59 = .ok (.lload_n 2, 1) := by decide +kernel
theorem d5_60 : decode prog_11_method_3_code 60 = .ok (.invokestatic 37, 3) := by decide +kernel
theorem d5_63 : decode prog_11_method_3_code 63 = .ok (.lstore 4, 2) := by decide +kernel
theorem d5_65 : decode prog_11_method_3_code 65 = .ok (.aload_n 0, 1) := by decide +kernel
theorem d5_66 : decode prog_11_method_3_code 66 = .ok (.aload_n 0, 1) := by decide +kernel
theorem d5_67 : decode prog_11_method_3_code 67 = .ok (.getfield 9, 3) := by decide +kernel
theorem d5_70 : decode prog_11_method_3_code 70 = .ok (.lload 4, 2) := by decide +kernel
theorem d5_72 : decode prog_11_method_3_code 72 = .ok (.ldc2_w 26, 3) := by decide +kernel
theorem d5_75 : decode prog_11_method_3_code 75 = .ok (.invokestatic 43, 3) := by decide +kernel
theorem d5_78 : decode prog_11_method_3_code 78 = .ok (.l2i, 1) := by decide +kernel
theorem d5_79 : decode prog_11_method_3_code 79 = .ok (.invokestatic 46, 3) := by decide +kernel
theorem d5_82 : decode prog_11_method_3_code 82 = .ok (.putfield 9, 3) := by decide +kernel
theorem d5_85 : decode prog_11_method_3_code 85 = .ok (.aload_n 1, 1) := by decide +kernel
theorem d5_86 : decode prog_11_method_3_code 86 = .ok (.iconst 0, 1) := by decide +kernel
theorem d5_87 : decode prog_11_method_3_code 87 = .ok (.aload_n 0, 1) := by decide +kernel
theorem d5_88 : decode prog_11_method_3_code 88 = .ok (.getfield 9, 3) := by decide +kernel
theorem d5_91 : decode prog_11_method_3_code 91 = .ok (.aload_n 0, 1) := by decide +kernel
theorem d5_92 : decode prog_11_method_3_code 92 = .ok (.getfield 23, 3) := by decide +kernel
theorem d5_95 : decode prog_11_method_3_code 95 = .ok (.aload_n 1, 1) := by decide +kernel
theorem d5_96 : decode prog_11_method_3_code 96 = .ok (.arraylength, 1) := by decide +kernel
theorem d5_97 : decode prog_11_method_3_code 97 = .ok (.invokestatic 52, 3) := by decide +kernel
theorem d5_100 : decode prog_11_method_3_code 100 = .ok (.aload_n 0, 1) := by decide +kernel
theorem d5_101 : decode prog_11_method_3_code 101 = .ok (.dup, 1) := by decide +kernel
theorem d5_102 : decode prog_11_method_3_code 102 = .ok (.getfield 23, 3) := by decide +kernel
theorem d5_105 : decode prog_11_method_3_code 105 = .ok (.aload_n 1, 1) := by decide +kernel
theorem d5_106 : decode prog_11_method_3_code 106 = .ok (.arraylength, 1) := by decide +kernel
theorem d5_107 : decode prog_11_method_3_code 107 = .ok (.iconst 1, 1) := by decide +kernel
theorem d5_108 : decode prog_11_method_3_code 108 = .ok (.iadd, 1) := by decide +kernel
theorem d5_109 : decode prog_11_method_3_code 109 = .ok (.iadd, 1) := by decide +kernel
theorem d5_110 : decode prog_11_method_3_code 110 = .ok (.putfield 23, 3) := by decide +kernel
theorem d5_113 : decode prog_11_method_3_code 113 = .ok (.aload_n 0, 1) := by decide +kernel
theorem d5_114 : decode prog_11_method_3_code 114 = .ok (.getfield 9, 3) := by decide +kernel
theorem d5_117 : decode prog_11_method_3_code 117 = .ok (.aload_n 0, 1) := by decide +kernel
theorem d5_118 : decode prog_11_method_3_code 118 = .ok (.getfield 23, 3) := by decide +kernel
theorem d5_121 : decode prog_11_method_3_code 121 = .ok (.iconst 1, 1) := by decide +kernel
theorem d5_122 : decode prog_11_method_3_code 122 = .ok (.isub, 1) := by decide +kernel
theorem d5_123 : decode prog_11_method_3_code 123 = .ok (.iconst 0, 1) := by decide +kernel
theorem d5_124 : decode prog_11_method_3_code 124 = .ok (.iastore, 1) := by decide +kernel
theorem d5_125 : decode prog_11_method_3_code 125 = .ok (.aload_n 0, 1) := by decide +kernel
theorem d5_126 : decode prog_11_method_3_code 126 = .ok (.dup, 1) := by decide +kernel
theorem d5_127 : decode prog_11_method_3_code 127 = .ok (.getfield 58, 3) := by decide +kernel
theorem d5_130 : decode prog_11_method_3_code 130 = .ok (.iconst 1, 1) := by decide +kernel
theorem d5_131 : decode prog_11_method_3_code 131 = .ok (.iadd, 1) := by decide +kernel
theorem d5_132 : decode prog_11_method_3_code 132 = .ok (.putfield 58, 3) := by decide +kernel
theorem d5_135 : decode prog_11_method_3_code 135 = .ok (.return_, 1) := by decide +kernel
theorem own_pd3 : parseMethodDescriptor "([I)V" = some ⟨[(.array .int)], none⟩ := by decide +kernel
def own_dm (Z : State) (h : Heap) (a : Addr) (v0 v1 v2 v3 : Value) : Prop := Exa Z h a "com/example/ferret/ferret/engine/Dimacs" ∧ Fld Z h a "com/example/ferret/ferret/engine/Dimacs" "literals" "[I" v0 ∧ Fld Z h a "com/example/ferret/ferret/engine/Dimacs" "literalSlots" "I" v1 ∧ Fld Z h a "com/example/ferret/ferret/engine/Dimacs" "clauseCount" "I" v2 ∧ Fld Z h a "com/example/ferret/ferret/engine/Dimacs" "variableCount" "I" v3
theorem own_dm.lt {Z : State} {h : Heap} {a : Addr} {v0 v1 v2 v3 : Value} (O : own_dm Z h a v0 v1 v2 v3) : a < h.size := O.1.lt
theorem own_dm.keep {Z : State} {h h' : Heap} {ws : List Addr} {a : Addr} {v0 v1 v2 v3 : Value} (O : own_dm Z h a v0 v1 v2 v3) (K : Keep h h' ws) (q : a ∉ ws) : own_dm Z h' a v0 v1 v2 v3 := by
  obtain ⟨E, F0, F1, F2, F3⟩ := O; exact ⟨E.keep K, F0.keep K q, F1.keep K q, F2.keep K q, F3.keep K q⟩
def own_st (Z : State) (h : Heap) (n0 : Nat) (d a : Addr) (s : Nat) (c v : Int32) : Prop := own_dm Z h d (.ref a) (.int (Int32.ofNat s)) (.int c) (.int v) ∧ (∃ vs, Ars Z h a .int vs ∧ vs.length = 1024) ∧ n0 ≤ d ∧ n0 ≤ a ∧ a ≠ d
theorem own_st.keep {Z : State} {h h' : Heap} {n0 : Nat} {d a : Addr} {s : Nat} {c v : Int32} {ws : List Addr} (O : own_st Z h n0 d a s c v) (K : Keep h h' ws) (q1 : d ∉ ws) (q2 : a ∉ ws) : own_st Z h' n0 d a s c v := by
  obtain ⟨O, ⟨vs, A, hv⟩, r⟩ := O
  exact ⟨O.keep K q1, ⟨vs, A.keep K q2, hv⟩, r⟩
theorem own_st.lt {Z : State} {h : Heap} {n0 : Nat} {d a : Addr} {s : Nat} {c v : Int32} (O : own_st Z h n0 d a s c v) : d < h.size ∧ a < h.size := by
  obtain ⟨O, ⟨vs, A, hv⟩, r⟩ := O
  exact ⟨O.lt, A.lt⟩
theorem own_ef1 (m : MethodId) (x0 : Addr) : entryFrame m #[(.ref x0)] 1 = mkF m 0 #[.val (.ref x0)] [] := by first | (simp [entryFrame, mkF, argsToLocals, Value.category]; done) | rfl
theorem own_pn1 : plainFor (⟨"com/example/ferret/ferret/engine/Dimacs", "<init>", "()V"⟩ : MethodName) = true := plainFor_of_name (by first | (simp [plainName, overriddenIn]; done) | decide +kernel)
set_option maxRecDepth 65536 in
set_option maxHeartbeats 40000000 in
theorem cdi {Z : State} {a0 : Array Value} (hw : ∀ d ∈ tables_1, d.before a0 Z = true) (d : Addr) (h : Heap) (n0 : Nat) (Z0 : n0 ≤ h.size) (gd : n0 ≤ d) (O : own_dm Z h d .null (.int 0) (.int 0) (.int 0)) :
    oCon Z (⟨"com/example/ferret/ferret/engine/Dimacs", "<init>", "()V"⟩ : MethodName) prog_11_method_1_code 1 none ({ frames := 1, cells := 1, slots := 1024, locals := 14 } : Room) #[(.ref d)] h n0 (fun v h' => v = none ∧ Keep h h' [d] ∧ ∃ a, h.size ≤ a ∧ own_st Z h' n0 d a 0 0 0) := by
  refine oCon.of own_pn1 (fun m => own_ef1 m d) ?_
  show oGo Z _ _ _ _ _ _ n0 _ 0 0 h 0 #[.val (.ref d)] []
  obtain ⟨E1, F1_literals, F1_literalSlots, F1_clauseCount, F1_variableCount⟩ := O
  refine oGo.aloadN (q := 1) d1_0 rfl rfl rfl ?_
  refine oGo.initO (W := 0) (q := 4) d1_1 rfl (hw _ (List.mem_of_getElem? (i := 6) rfl)) (hw _ (List.mem_of_getElem? (i := 7) rfl)) (hw _ (List.mem_of_getElem? (i := 8) rfl)) rfl (by decide) (Nat.le_of_eq rfl) (by decide) ?_
  refine oGo.aloadN (q := 5) d1_4 rfl rfl rfl ?_
  refine oGo.sipush (q := 8) (v := (1024 : Int32)) d1_5 rfl rfl ?_
  refine oGo.newP (q := 10) (len := 1024) 1024 d1_8 rfl (hw _ (List.mem_of_getElem? (i := 9) rfl)) (by decide) (by first | decide | omega) (by decide) (by decide) (by decide) (ad := "[I") rfl ?_
  intro h2 a g2 K2 A2 E2
  have ne_d_a : d ≠ a := Nat.ne_of_lt (Nat.lt_of_lt_of_eq (E1.lt) g2.symm)
  have ge_a : n0 ≤ a := Nat.le_trans Z0 (Nat.le_of_eq g2.symm)
  have E1_ := Exa.keep E1 K2
  have F1_literals_ := Fld.keep F1_literals K2 nin0
  have F1_literalSlots_ := Fld.keep F1_literalSlots K2 nin0
  have F1_clauseCount_ := Fld.keep F1_clauseCount K2 nin0
  have F1_variableCount_ := Fld.keep F1_variableCount K2 nin0
  have Z0_ := Nat.le_trans Z0 K2.1
  show oGo Z _ _ _ _ _ _ n0 _ 1 1024 h2 10 #[.val (.ref d)] [(.ref a), (.ref d)]
  refine oGo.putF (host := "") (ty := (.array .int)) (q := 13) d1_10 rfl (Or.inl (hw _ (List.mem_of_getElem? (i := 10) rfl))) Via.refl F1_literals_ E1_ (Or.inl (hw _ (List.mem_of_getElem? (i := 11) rfl))) (hw _ (List.mem_of_getElem? (i := 1) rfl)) (by decide) rfl rfl gd ?_
  intro h3 K3 E3 F3 G3
  have F3_literalSlots := G3 (slot_ne (Or.inl (hw _ (List.mem_of_getElem? (i := 33) rfl))) (Or.inl (hw _ (List.mem_of_getElem? (i := 11) rfl))) (by decide) (t := .int) (t' := (.array .int)) (by decide) (by decide)) F1_literalSlots_
  have F3_clauseCount := G3 (slot_ne (Or.inl (hw _ (List.mem_of_getElem? (i := 40) rfl))) (Or.inl (hw _ (List.mem_of_getElem? (i := 11) rfl))) (by decide) (t := .int) (t' := (.array .int)) (by decide) (by decide)) F1_clauseCount_
  have F3_variableCount := G3 (slot_ne (Or.inl (hw _ (List.mem_of_getElem? (i := 18) rfl))) (Or.inl (hw _ (List.mem_of_getElem? (i := 11) rfl))) (by decide) (t := .int) (t' := (.array .int)) (by decide) (by decide)) F1_variableCount_
  have A2_ := Ars.keep A2 K3 (ninS (Ne.symm ne_d_a) nin0)
  have E2_ := Exa.keep E2 K3
  have Z0__ := Nat.le_trans Z0_ K3.1
  show oGo Z _ _ _ _ _ _ n0 _ 1 1024 h3 13 #[.val (.ref d)] []
  exact oGo.retV d1_13 rfl (by decide) (by decide) (⟨rfl, Keep.trans ((Keep.refl h [d]).trans K2 (fun x hx => nomatch hx)) K3 (fun x hx => Or.inl hx), a, Nat.le_of_eq g2.symm, ⟨E3, F3, F3_literalSlots, F3_clauseCount, F3_variableCount⟩, ⟨_, A2_, List.length_replicate⟩, gd, ge_a, (Ne.symm ne_d_a)⟩)
theorem own_ef4 (m : MethodId) (x0 : Addr) : entryFrame m #[(.ref x0)] 1 = mkF m 0 #[.val (.ref x0)] [] := by first | (simp [entryFrame, mkF, argsToLocals, Value.category]; done) | rfl
theorem own_pn4 : plainFor (⟨"com/example/ferret/ferret/engine/Dimacs", "newVariable", "()I"⟩ : MethodName) = true := plainFor_of_name (by first | (simp [plainName, overriddenIn]; done) | decide +kernel)
set_option maxRecDepth 65536 in
set_option maxHeartbeats 40000000 in
theorem cnv {Z : State} {a0 : Array Value} (hw : ∀ d ∈ tables_1, d.before a0 Z = true) (d a : Addr) (s : Nat) (c v v' : Int32) (h : Heap) (n0 : Nat) (O : own_st Z h n0 d a s c v) (hv' : v + (1 : Int32) = v') :
    oCon Z (⟨"com/example/ferret/ferret/engine/Dimacs", "newVariable", "()I"⟩ : MethodName) prog_11_method_2_code 1 (some .int) ({ frames := 0, cells := 0, slots := 0, locals := 0 } : Room) #[(.ref d)] h n0 (fun r h' => r = some (.int v') ∧ Keep h h' [d] ∧ own_st Z h' n0 d a s c v') := by
  refine oCon.of own_pn4 (fun m => own_ef4 m d) ?_
  show oGo Z _ _ _ _ _ _ n0 _ 0 0 h 0 #[.val (.ref d)] []
  subst hv'
  obtain ⟨O, ⟨vs, A, hvl⟩, gd, ga, hne⟩ := O
  obtain ⟨E4, F4_literals, F4_literalSlots, F4_clauseCount, F4_variableCount⟩ := O
  refine oGo.aloadN (q := 1) d4_0 rfl rfl rfl ?_
  refine oGo.dup (q := 2) d4_1 rfl rfl ?_
  refine oGo.getF (host := "") (q := 5) (v := (.int v)) d4_2 rfl (Or.inl (hw _ (List.mem_of_getElem? (i := 17) rfl))) Via.refl F4_variableCount ?_
  refine oGo.iconst (q := 6) (v := (1 : Int32)) d4_5 rfl rfl ?_
  refine oGo.iadd (q := 7) d4_6 rfl ?_
  refine oGo.putF (host := "") (ty := .int) (q := 10) d4_7 rfl (Or.inl (hw _ (List.mem_of_getElem? (i := 17) rfl))) Via.refl F4_variableCount E4 (Or.inl (hw _ (List.mem_of_getElem? (i := 18) rfl))) (hw _ (List.mem_of_getElem? (i := 1) rfl)) (by decide) rfl rfl gd ?_
  intro h5 K5 E5 F5 G5
  have F5_literals := G5 (slot_ne (Or.inl (hw _ (List.mem_of_getElem? (i := 11) rfl))) (Or.inl (hw _ (List.mem_of_getElem? (i := 18) rfl))) (by decide) (t := (.array .int)) (t' := .int) (by decide) (by decide)) F4_literals
  have F5_literalSlots := G5 (slot_ne (Or.inl (hw _ (List.mem_of_getElem? (i := 33) rfl))) (Or.inl (hw _ (List.mem_of_getElem? (i := 18) rfl))) (by decide) (t := .int) (t' := .int) (by decide) (by decide)) F4_literalSlots
  have F5_clauseCount := G5 (slot_ne (Or.inl (hw _ (List.mem_of_getElem? (i := 40) rfl))) (Or.inl (hw _ (List.mem_of_getElem? (i := 18) rfl))) (by decide) (t := .int) (t' := .int) (by decide) (by decide)) F4_clauseCount
  have A_ := Ars.keep A K5 (ninS hne nin0)
  show oGo Z _ _ _ _ _ _ n0 _ 0 0 h5 10 #[.val (.ref d)] []
  refine oGo.aloadN (q := 11) d4_10 rfl rfl rfl ?_
  refine oGo.getF (host := "") (q := 14) (v := (.int (v + (1 : Int32)))) d4_11 rfl (Or.inl (hw _ (List.mem_of_getElem? (i := 17) rfl))) Via.refl F5 ?_
  exact oGo.retI d4_14 rfl (by decide) (by decide) (⟨rfl, K5, ⟨E5, F5_literals, F5_literalSlots, F5_clauseCount, F5⟩, ⟨vs, A_, hvl⟩, gd, ga, hne⟩)
theorem own_ef5 (m : MethodId) (x0 : Addr) (x1 : Addr) : entryFrame m #[(.ref x0), (.ref x1)] 6 = mkF m 0 #[.val (.ref x0), .val (.ref x1), .unset, .unset, .unset, .unset] [] := by first | (simp [entryFrame, mkF, argsToLocals, Value.category]; done) | rfl
theorem own_pn5 : plainFor (⟨"com/example/ferret/ferret/engine/Dimacs", "addClause", "([I)V"⟩ : MethodName) = true := plainFor_of_name (by first | (simp [plainName, overriddenIn]; done) | decide +kernel)
set_option maxRecDepth 65536 in
set_option maxHeartbeats 40000000 in
theorem cac {Z : State} {a0 : Array Value} (hw : ∀ d ∈ tables_1, d.before a0 Z = true) (d e a : Addr) (s s' : Nat) (c v : Int32) (ls : List Value) (h : Heap) (n0 : Nat) (O : own_st Z h n0 d a s c v) (B : Ars Z h e .int ls) (hed : e ≠ d) (hea : e ≠ a) (hv : 0 ≤ v.toInt) (H : own_oks v ls) (hs : s + (ls.length + 1) ≤ 1024) (hs' : s + (ls.length + 1) = s') :
    oCon Z (⟨"com/example/ferret/ferret/engine/Dimacs", "addClause", "([I)V"⟩ : MethodName) prog_11_method_3_code 6 none ({ frames := 1, cells := 0, slots := 0, locals := 60 } : Room) #[(.ref d), (.ref e)] h n0 (fun r h' => r = none ∧ Keep h h' [d, a] ∧ own_st Z h' n0 d a s' (c + (1 : Int32)) v) := by
  refine oCon.of own_pn5 (fun m => own_ef5 m d e) ?_
  show oGo Z _ _ _ _ _ _ n0 _ 0 0 h 0 #[.val (.ref d), .val (.ref e), .unset, .unset, .unset, .unset] []
  subst hs'
  obtain ⟨O, ⟨vs, A, hvl⟩, gd, ga, hne⟩ := O
  obtain ⟨E6, F6_literals, F6_literalSlots, F6_clauseCount, F6_variableCount⟩ := O
  have el := own_oi (i := ls.length) (by omega)
  have es := own_oi (i := s) (by omega)
  have ev := own_oi (i := 1024) (by decide)
  have z1 : (1 : Int64).toInt = 1 := by decide
  have zm : (2147483639 : Int64).toInt = 2147483639 := by decide
  have u1 := c_i2l (Int32.ofNat s)
  have u2 := c_i2l (Int32.ofNat ls.length)
  have u3 := c_i2l (Int32.ofNat 1024)
  have b1 := c_ladd (Int32.ofNat s).toInt64 (Int32.ofNat ls.length).toInt64
  have b2 := c_ladd ((Int32.ofNat s).toInt64 + (Int32.ofNat ls.length).toInt64) 1
  have r1 := rng64 ((Int32.ofNat s).toInt64 + (Int32.ofNat ls.length).toInt64)
  have r2 := rng64 (((Int32.ofNat s).toInt64 + (Int32.ofNat ls.length).toInt64) + 1)
  refine oGo.aloadN (q := 1) d5_0 rfl rfl rfl ?_
  refine oGo.getF (host := "") (q := 4) (v := (.int v)) d5_1 rfl (Or.inl (hw _ (List.mem_of_getElem? (i := 17) rfl))) Via.refl F6_variableCount ?_
  refine oGo.aloadN (q := 5) d5_4 rfl rfl rfl ?_
  refine oGo.callS (W := 0) (rm := ({ frames := 0, cells := 0, slots := 0, locals := 0 } : Room)) (q := 8) [(.int v), (.ref e)] [] d5_5 rfl (hw _ (List.mem_of_getElem? (i := 29) rfl)) (hw _ (List.mem_of_getElem? (i := 30) rfl)) (hw _ (List.mem_of_getElem? (i := 2) rfl)) (hw _ (List.mem_of_getElem? (i := 31) rfl)) (by decide) (crd hw v e ls h n0 hv B (by omega) H) rfl rfl own_pd0 rfl rfl (Nat.le_of_eq rfl) (by decide) (by decide) (by decide) (by decide) ?_
  rintro _ h7 ⟨rfl, eh⟩
  all_goals subst h7
  show oGo Z _ _ _ _ _ _ n0 _ 0 0 h 8 #[.val (.ref d), .val (.ref e), .unset, .unset, .unset, .unset] []
  refine oGo.aloadN (q := 9) d5_8 rfl rfl rfl ?_
  refine oGo.getF (host := "") (q := 12) (v := (.int (Int32.ofNat s))) d5_9 rfl (Or.inl (hw _ (List.mem_of_getElem? (i := 32) rfl))) Via.refl F6_literalSlots ?_
  refine oGo.i2l (q := 13) d5_12 rfl ?_
  refine oGo.aloadN (q := 14) d5_13 rfl rfl rfl ?_
  refine oGo.arraylength (q := 15) (v := (Int32.ofNat ls.length)) d5_14 rfl B rfl ?_
  refine oGo.i2l (q := 16) d5_15 rfl ?_
  refine oGo.ladd (q := 17) d5_16 rfl ?_
  refine oGo.lconst (q := 18) (v := (1 : Int64)) d5_17 rfl rfl ?_
  refine oGo.ladd (q := 19) d5_18 rfl ?_
  refine oGo.lstoreN (q := 20) (L' := #[.val (.ref d), .val (.ref e), .val (.long (((Int32.ofNat s).toInt64 + (Int32.ofNat ls.length).toInt64) + (1 : Int64))), .second, .unset, .unset]) d5_19 rfl rfl ?_
  refine oGo.lloadN (q := 21) d5_20 rfl rfl ?_
  refine oGo.ldc2 (q := 24) (v := (2147483639 : Int64)) d5_21 rfl (hw _ (List.mem_of_getElem? (i := 34) rfl)) ?_
  refine oGo.lif_le (pc2 := 25) (q := 38) (r := 28) d5_24 rfl d5_25 (by decide) rfl (fun hc => ?_) (fun hc => absurd hc (by omega))
  refine oGo.lloadN (q := 39) d5_38 rfl rfl ?_
  refine oGo.aloadN (q := 40) d5_39 rfl rfl rfl ?_
  refine oGo.getF (host := "") (q := 43) (v := (.ref a)) d5_40 rfl (Or.inl (hw _ (List.mem_of_getElem? (i := 10) rfl))) Via.refl F6_literals ?_
  refine oGo.arraylength (q := 44) (v := (Int32.ofNat 1024)) d5_43 rfl A (by rw [hvl]) ?_
  refine oGo.i2l (q := 45) d5_44 rfl ?_
  refine oGo.lif_le (pc2 := 46) (q := 85) (r := 49) d5_45 rfl d5_46 (by decide) rfl (fun hc => ?_) (fun hc => absurd hc (by omega))
  refine oGo.aloadN (q := 86) d5_85 rfl rfl rfl ?_
  refine oGo.iconst (q := 87) (v := (0 : Int32)) d5_86 rfl rfl ?_
  refine oGo.aloadN (q := 88) d5_87 rfl rfl rfl ?_
  refine oGo.getF (host := "") (q := 91) (v := (.ref a)) d5_88 rfl (Or.inl (hw _ (List.mem_of_getElem? (i := 10) rfl))) Via.refl F6_literals ?_
  refine oGo.aloadN (q := 92) d5_91 rfl rfl rfl ?_
  refine oGo.getF (host := "") (q := 95) (v := (.int (Int32.ofNat s))) d5_92 rfl (Or.inl (hw _ (List.mem_of_getElem? (i := 32) rfl))) Via.refl F6_literalSlots ?_
  refine oGo.aloadN (q := 96) d5_95 rfl rfl rfl ?_
  refine oGo.arraylength (q := 97) (v := (Int32.ofNat ls.length)) d5_96 rfl B rfl ?_
  refine oGo.acopy (q := 100) (W := 0) (si := 0) (di := s) (len := ls.length) d5_97 rfl (hw _ (List.mem_of_getElem? (i := 35) rfl)) (hw _ (List.mem_of_getElem? (i := 38) rfl)) (hw _ (List.mem_of_getElem? (i := 36) rfl)) (hw _ (List.mem_of_getElem? (i := 37) rfl)) B A rfl rfl es el (by omega) (by omega) (by omega) (by omega) ga rfl (by decide) (Nat.le_of_eq rfl) (by decide) ?_
  intro h8 K8 A8
  have E6_ := Exa.keep E6 K8
  have F6_literals_ := Fld.keep F6_literals K8 (ninS (Ne.symm hne) nin0)
  have F6_literalSlots_ := Fld.keep F6_literalSlots K8 (ninS (Ne.symm hne) nin0)
  have F6_clauseCount_ := Fld.keep F6_clauseCount K8 (ninS (Ne.symm hne) nin0)
  have F6_variableCount_ := Fld.keep F6_variableCount K8 (ninS (Ne.symm hne) nin0)
  have B_ := Ars.keep B K8 (ninS hea nin0)
  show oGo Z _ _ _ _ _ _ n0 _ 0 0 h8 100 #[.val (.ref d), .val (.ref e), .val (.long (((Int32.ofNat s).toInt64 + (Int32.ofNat ls.length).toInt64) + (1 : Int64))), .second, .unset, .unset] []
  refine oGo.aloadN (q := 101) d5_100 rfl rfl rfl ?_
  refine oGo.dup (q := 102) d5_101 rfl rfl ?_
  refine oGo.getF (host := "") (q := 105) (v := (.int (Int32.ofNat s))) d5_102 rfl (Or.inl (hw _ (List.mem_of_getElem? (i := 32) rfl))) Via.refl F6_literalSlots_ ?_
  refine oGo.aloadN (q := 106) d5_105 rfl rfl rfl ?_
  refine oGo.arraylength (q := 107) (v := (Int32.ofNat ls.length)) d5_106 rfl B_ rfl ?_
  refine oGo.iconst (q := 108) (v := (1 : Int32)) d5_107 rfl rfl ?_
  refine oGo.iadd (q := 109) d5_108 rfl ?_
  refine oGo.iadd (q := 110) d5_109 rfl ?_
  rw [own_oadd (i := ls.length) (c := (1 : Int32)) (m := 1) rfl, own_oadd (i := s) (m := ls.length + 1) rfl]
  refine oGo.putF (host := "") (ty := .int) (q := 113) d5_110 rfl (Or.inl (hw _ (List.mem_of_getElem? (i := 32) rfl))) Via.refl F6_literalSlots_ E6_ (Or.inl (hw _ (List.mem_of_getElem? (i := 33) rfl))) (hw _ (List.mem_of_getElem? (i := 1) rfl)) (by decide) rfl rfl gd ?_
  intro h9 K9 E9 F9 G9
  have F9_literals := G9 (slot_ne (Or.inl (hw _ (List.mem_of_getElem? (i := 11) rfl))) (Or.inl (hw _ (List.mem_of_getElem? (i := 33) rfl))) (by decide) (t := (.array .int)) (t' := .int) (by decide) (by decide)) F6_literals_
  have F9_clauseCount := G9 (slot_ne (Or.inl (hw _ (List.mem_of_getElem? (i := 40) rfl))) (Or.inl (hw _ (List.mem_of_getElem? (i := 33) rfl))) (by decide) (t := .int) (t' := .int) (by decide) (by decide)) F6_clauseCount_
  have F9_variableCount := G9 (slot_ne (Or.inl (hw _ (List.mem_of_getElem? (i := 18) rfl))) (Or.inl (hw _ (List.mem_of_getElem? (i := 33) rfl))) (by decide) (t := .int) (t' := .int) (by decide) (by decide)) F6_variableCount_
  have B__ := Ars.keep B_ K9 (ninS hed nin0)
  have A8_ := Ars.keep A8 K9 (ninS hne nin0)
  show oGo Z _ _ _ _ _ _ n0 _ 0 0 h9 113 #[.val (.ref d), .val (.ref e), .val (.long (((Int32.ofNat s).toInt64 + (Int32.ofNat ls.length).toInt64) + (1 : Int64))), .second, .unset, .unset] []
  refine oGo.aloadN (q := 114) d5_113 rfl rfl rfl ?_
  refine oGo.getF (host := "") (q := 117) (v := (.ref a)) d5_114 rfl (Or.inl (hw _ (List.mem_of_getElem? (i := 10) rfl))) Via.refl F9_literals ?_
  refine oGo.aloadN (q := 118) d5_117 rfl rfl rfl ?_
  refine oGo.getF (host := "") (q := 121) (v := (.int (Int32.ofNat (s + (ls.length + 1))))) d5_118 rfl (Or.inl (hw _ (List.mem_of_getElem? (i := 32) rfl))) Via.refl F9 ?_
  refine oGo.iconst (q := 122) (v := (1 : Int32)) d5_121 rfl rfl ?_
  refine oGo.isub (q := 123) d5_122 rfl ?_
  refine oGo.iconst (q := 124) (v := (0 : Int32)) d5_123 rfl rfl ?_
  refine oGo.iastore (q := 125) (i := (s + ls.length)) d5_124 rfl A8_ (own_pred (i := s + ls.length) (by omega)) (by simp only [List.length_append, List.length_take, List.length_drop]; omega) ga ?_
  intro h10 K10 A10
  have B___ := Ars.keep B__ K10 (ninS hea nin0)
  have E9_ := Exa.keep E9 K10
  have F9_ := Fld.keep F9 K10 (ninS (Ne.symm hne) nin0)
  have F9_literals_ := Fld.keep F9_literals K10 (ninS (Ne.symm hne) nin0)
  have F9_clauseCount_ := Fld.keep F9_clauseCount K10 (ninS (Ne.symm hne) nin0)
  have F9_variableCount_ := Fld.keep F9_variableCount K10 (ninS (Ne.symm hne) nin0)
  show oGo Z _ _ _ _ _ _ n0 _ 0 0 h10 125 #[.val (.ref d), .val (.ref e), .val (.long (((Int32.ofNat s).toInt64 + (Int32.ofNat ls.length).toInt64) + (1 : Int64))), .second, .unset, .unset] []
  refine oGo.aloadN (q := 126) d5_125 rfl rfl rfl ?_
  refine oGo.dup (q := 127) d5_126 rfl rfl ?_
  refine oGo.getF (host := "") (q := 130) (v := (.int c)) d5_127 rfl (Or.inl (hw _ (List.mem_of_getElem? (i := 39) rfl))) Via.refl F9_clauseCount_ ?_
  refine oGo.iconst (q := 131) (v := (1 : Int32)) d5_130 rfl rfl ?_
  refine oGo.iadd (q := 132) d5_131 rfl ?_
  refine oGo.putF (host := "") (ty := .int) (q := 135) d5_132 rfl (Or.inl (hw _ (List.mem_of_getElem? (i := 39) rfl))) Via.refl F9_clauseCount_ E9_ (Or.inl (hw _ (List.mem_of_getElem? (i := 40) rfl))) (hw _ (List.mem_of_getElem? (i := 1) rfl)) (by decide) rfl rfl gd ?_
  intro h11 K11 E11 F11 G11
  have F11_literals := G11 (slot_ne (Or.inl (hw _ (List.mem_of_getElem? (i := 11) rfl))) (Or.inl (hw _ (List.mem_of_getElem? (i := 40) rfl))) (by decide) (t := (.array .int)) (t' := .int) (by decide) (by decide)) F9_literals_
  have F11_literalSlots := G11 (slot_ne (Or.inl (hw _ (List.mem_of_getElem? (i := 33) rfl))) (Or.inl (hw _ (List.mem_of_getElem? (i := 40) rfl))) (by decide) (t := .int) (t' := .int) (by decide) (by decide)) F9_
  have F11_variableCount := G11 (slot_ne (Or.inl (hw _ (List.mem_of_getElem? (i := 18) rfl))) (Or.inl (hw _ (List.mem_of_getElem? (i := 40) rfl))) (by decide) (t := .int) (t' := .int) (by decide) (by decide)) F9_variableCount_
  have B____ := Ars.keep B___ K11 (ninS hed nin0)
  have A10_ := Ars.keep A10 K11 (ninS hne nin0)
  show oGo Z _ _ _ _ _ _ n0 _ 0 0 h11 135 #[.val (.ref d), .val (.ref e), .val (.long (((Int32.ofNat s).toInt64 + (Int32.ofNat ls.length).toInt64) + (1 : Int64))), .second, .unset, .unset] []
  exact oGo.retV d5_135 rfl (by decide) (by decide) (⟨rfl, (Keep.trans (Keep.trans (Keep.trans (Keep.trans (Keep.refl h [d, a]) K8 (fun x hx => Or.inl (by simp at hx; simp [hx]))) K9 (fun x hx => Or.inl (by simp at hx; simp [hx]))) K10 (fun x hx => Or.inl (by simp at hx; simp [hx]))) K11 (fun x hx => Or.inl (by simp at hx; simp [hx]))), ⟨E11, F11_literals, F11_literalSlots, F11, F11_variableCount⟩, ⟨_, A10_, by simp only [List.length_set, List.length_append, List.length_take, List.length_drop]; omega⟩, gd, ga, hne⟩)
theorem d3_0 : decode prog_11_method_4_code 0 = .ok (.aload_n 0, 1) := by decide +kernel
theorem d3_1 : decode prog_11_method_4_code 1 = .ok (.getfield 15, 3) := by decide +kernel
theorem d3_4 : decode prog_11_method_4_code 4 = .ok (.ireturn, 1) := by decide +kernel
theorem own_ef3 (m : MethodId) (x0 : Addr) : entryFrame m #[(.ref x0)] 1 = mkF m 0 #[.val (.ref x0)] [] := by first | (simp [entryFrame, mkF, argsToLocals, Value.category]; done) | rfl
theorem own_pn3 : plainFor (⟨"com/example/ferret/ferret/engine/Dimacs", "variableCount", "()I"⟩ : MethodName) = true := plainFor_of_name (by first | (simp [plainName, overriddenIn]; done) | decide +kernel)
set_option maxRecDepth 65536 in
set_option maxHeartbeats 40000000 in
theorem cvc {Z : State} {a0 : Array Value} (hw : ∀ d ∈ tables_1, d.before a0 Z = true) (d a : Addr) (s : Nat) (c v : Int32) (h : Heap) (n0 : Nat) (O : own_st Z h n0 d a s c v) :
    oCon Z (⟨"com/example/ferret/ferret/engine/Dimacs", "variableCount", "()I"⟩ : MethodName) prog_11_method_4_code 1 (some .int) ({ frames := 0, cells := 0, slots := 0, locals := 0 } : Room) #[(.ref d)] h n0 (fun r h' => r = some (.int v) ∧ h' = h) := by
  refine oCon.of own_pn3 (fun m => own_ef3 m d) ?_
  show oGo Z _ _ _ _ _ _ n0 _ 0 0 h 0 #[.val (.ref d)] []
  obtain ⟨E12, F12_literals, F12_literalSlots, F12_clauseCount, F12_variableCount⟩ := O.1
  refine oGo.aloadN (q := 1) d3_0 rfl rfl rfl ?_
  refine oGo.getF (host := "") (q := 4) (v := (.int v)) d3_1 rfl (Or.inl (hw _ (List.mem_of_getElem? (i := 17) rfl))) Via.refl F12_variableCount ?_
  exact oGo.retI d3_4 rfl (by decide) (by decide) (⟨rfl, rfl⟩)
theorem own_ef0 (m : MethodId) (x0 : Int32) (x1 : Int32) : entryFrame m #[(.int x0), (.int x1)] maxLocals = mkF m 0 #[.val (.int x0), .val (.int x1), .unset, .unset, .unset, .unset, .unset] [] := by first | (simp [entryFrame, mkF, argsToLocals, Value.category, maxLocals]; done) | rfl
theorem own_pn0 : plainFor x = true := plainFor_of_name (by first | (simp [plainName, overriddenIn, x]; done) | decide +kernel)
set_option maxRecDepth 65536 in
set_option maxHeartbeats 40000000 in
theorem law {Z : State} {a0 : Array Value} (hw : ∀ d ∈ tables_1, d.before a0 Z = true) (p q : Int32) (h : Heap) (n0 : Nat) (Z0 : n0 ≤ h.size) :
    oCon Z x code maxLocals ret room_1 #[(.int p), (.int q)] h n0 (fun v _ => v = some (.int 1)) := by
  refine oCon.of own_pn0 (fun m => own_ef0 m p q) ?_
  show oGo Z _ _ _ _ _ _ n0 _ 0 0 h 0 #[.val (.int p), .val (.int q), .unset, .unset, .unset, .unset, .unset] []
  refine oGo.newO (q := 3) at_0 rfl (hw _ (List.mem_of_getElem? (i := 0) rfl)) (hw _ (List.mem_of_getElem? (i := 1) rfl)) (hw _ (List.mem_of_getElem? (i := 2) rfl)) (by decide) (by decide) ?_
  intro h13 d g13 K13 E13 D13
  have ge_d : n0 ≤ d := Nat.le_trans Z0 (Nat.le_of_eq g13.symm)
  have Z0_ := Nat.le_trans Z0 K13.1
  have F13_literals := D13 (Or.inl (hw _ (List.mem_of_getElem? (i := 11) rfl))) (ty := (.array .int)) (by decide)
  have F13_literalSlots := D13 (Or.inl (hw _ (List.mem_of_getElem? (i := 33) rfl))) (ty := .int) (by decide)
  have F13_clauseCount := D13 (Or.inl (hw _ (List.mem_of_getElem? (i := 40) rfl))) (ty := .int) (by decide)
  have F13_variableCount := D13 (Or.inl (hw _ (List.mem_of_getElem? (i := 18) rfl))) (ty := .int) (by decide)
  show oGo Z _ _ _ _ _ _ n0 _ 1 4 h13 3 #[.val (.int p), .val (.int q), .unset, .unset, .unset, .unset, .unset] [(.ref d)]
  refine oGo.dup (q := 4) at_3 rfl rfl ?_
  refine oGo.callI (W := 1) (rm := ({ frames := 1, cells := 1, slots := 1024, locals := 14 } : Room)) (q := 7) (a := d) [] [(.ref d)] at_4 rfl rfl (hw _ (List.mem_of_getElem? (i := 3) rfl)) (hw _ (List.mem_of_getElem? (i := 4) rfl)) (hw _ (List.mem_of_getElem? (i := 2) rfl)) (hw _ (List.mem_of_getElem? (i := 5) rfl)) (by decide) (cdi hw d h13 n0 Z0_ ge_d ⟨E13, F13_literals, F13_literalSlots, F13_clauseCount, F13_variableCount⟩) rfl rfl own_pd1 rfl rfl (Nat.le_of_eq rfl) (by decide) (by decide) (by decide) (by decide) ?_
  rintro _ h14 ⟨rfl, K, a, ga, O⟩
  show oGo Z _ _ _ _ _ _ n0 _ 2 1028 h14 7 #[.val (.int p), .val (.int q), .unset, .unset, .unset, .unset, .unset] [(.ref d)]
  have Zs := Nat.le_trans Z0_ K.1
  refine oGo.astoreN (q := 8) (L' := #[.val (.int p), .val (.int q), .val (.ref d), .unset, .unset, .unset, .unset]) at_7 rfl rfl rfl ?_
  refine oGo.aloadN (q := 9) at_8 rfl rfl rfl ?_
  refine oGo.callV (W := 0) (rm := ({ frames := 0, cells := 0, slots := 0, locals := 0 } : Room)) (q := 12) (a := d) [] [] at_9 rfl (hw _ (List.mem_of_getElem? (i := 12) rfl)) (hw _ (List.mem_of_getElem? (i := 13) rfl)) (hw _ (List.mem_of_getElem? (i := 15) rfl)) (hw _ (List.mem_of_getElem? (i := 14) rfl)) (hw _ (List.mem_of_getElem? (i := 2) rfl)) (hw _ (List.mem_of_getElem? (i := 16) rfl)) rfl (by decide) (O.1.1) (cvc hw d a 0 0 0 h14 n0 O) rfl rfl own_pd2 rfl rfl (Nat.le_of_eq rfl) (by decide) (by decide) (by decide) (by decide) ?_
  rintro _ h15 ⟨rfl, eh⟩
  all_goals subst h15
  show oGo Z _ _ _ _ _ _ n0 _ 2 1028 h14 12 #[.val (.int p), .val (.int q), .val (.ref d), .unset, .unset, .unset, .unset] [(.int (0 : Int32))]
  refine oGo.if_ne (q := 19) (r := 15) at_12 (by decide) rfl (fun hc => absurd rfl hc) (fun hc => ?_)
  refine oGo.iconst (q := 16) (v := (1 : Int32)) at_15 rfl rfl ?_
  refine oGo.goto (q := 20) at_16 (by decide) ?_
  refine oGo.istoreN (q := 21) (L' := #[.val (.int p), .val (.int q), .val (.ref d), .val (.int (1 : Int32)), .unset, .unset, .unset]) at_20 rfl rfl ?_
  refine oGo.aloadN (q := 22) at_21 rfl rfl rfl ?_
  refine oGo.callV (W := 0) (rm := ({ frames := 0, cells := 0, slots := 0, locals := 0 } : Room)) (q := 25) (a := d) [] [] at_22 rfl (hw _ (List.mem_of_getElem? (i := 19) rfl)) (hw _ (List.mem_of_getElem? (i := 20) rfl)) (hw _ (List.mem_of_getElem? (i := 22) rfl)) (hw _ (List.mem_of_getElem? (i := 21) rfl)) (hw _ (List.mem_of_getElem? (i := 2) rfl)) (hw _ (List.mem_of_getElem? (i := 23) rfl)) rfl (by decide) (O.1.1) (cnv hw d a 0 0 0 1 h14 n0 O (by decide)) rfl rfl own_pd2 rfl rfl (Nat.le_of_eq rfl) (by decide) (by decide) (by decide) (by decide) ?_
  rintro _ h16 ⟨rfl, K1, O1⟩
  show oGo Z _ _ _ _ _ _ n0 _ 2 1028 h16 25 #[.val (.int p), .val (.int q), .val (.ref d), .val (.int (1 : Int32)), .unset, .unset, .unset] [(.int (1 : Int32))]
  have Zs1 := Nat.le_trans Zs K1.1
  refine oGo.istore (q := 27) (L' := #[.val (.int p), .val (.int q), .val (.ref d), .val (.int (1 : Int32)), .val (.int (1 : Int32)), .unset, .unset]) at_25 rfl rfl ?_
  refine oGo.iloadN (q := 28) at_27 rfl rfl ?_
  refine oGo.if_eq (q := 49) (r := 31) at_28 (by decide) rfl (fun hc => absurd hc (by decide)) (fun hc => ?_)
  refine oGo.iload (q := 33) at_31 rfl rfl ?_
  refine oGo.iconst (q := 34) (v := (1 : Int32)) at_33 rfl rfl ?_
  refine oGo.icmp_ne (q := 49) (r := 37) at_34 (by decide) rfl (fun hc => absurd rfl hc) (fun hc => ?_)
  refine oGo.aloadN (q := 38) at_37 rfl rfl rfl ?_
  refine oGo.callV (W := 0) (rm := ({ frames := 0, cells := 0, slots := 0, locals := 0 } : Room)) (q := 41) (a := d) [] [] at_38 rfl (hw _ (List.mem_of_getElem? (i := 12) rfl)) (hw _ (List.mem_of_getElem? (i := 13) rfl)) (hw _ (List.mem_of_getElem? (i := 15) rfl)) (hw _ (List.mem_of_getElem? (i := 14) rfl)) (hw _ (List.mem_of_getElem? (i := 2) rfl)) (hw _ (List.mem_of_getElem? (i := 16) rfl)) rfl (by decide) (O1.1.1) (cvc hw d a 0 0 1 h16 n0 O1) rfl rfl own_pd2 rfl rfl (Nat.le_of_eq rfl) (by decide) (by decide) (by decide) (by decide) ?_
  rintro _ h17 ⟨rfl, eh⟩
  all_goals subst h17
  show oGo Z _ _ _ _ _ _ n0 _ 2 1028 h16 41 #[.val (.int p), .val (.int q), .val (.ref d), .val (.int (1 : Int32)), .val (.int (1 : Int32)), .unset, .unset] [(.int (1 : Int32))]
  refine oGo.iconst (q := 42) (v := (1 : Int32)) at_41 rfl rfl ?_
  refine oGo.icmp_ne (q := 49) (r := 45) at_42 (by decide) rfl (fun hc => absurd rfl hc) (fun hc => ?_)
  refine oGo.iconst (q := 46) (v := (1 : Int32)) at_45 rfl rfl ?_
  refine oGo.goto (q := 50) at_46 (by decide) ?_
  refine oGo.istoreN (q := 51) (L' := #[.val (.int p), .val (.int q), .val (.ref d), .val (.int (1 : Int32)), .val (.int (1 : Int32)), .unset, .unset]) at_50 rfl rfl ?_
  refine oGo.iloadN (q := 52) at_51 rfl rfl ?_
  refine oGo.iconst (q := 53) (v := (1 : Int32)) at_52 rfl rfl ?_
  refine oGo.iand (q := 54) at_53 rfl ?_
  have J78 : ∀ (hh : Heap) (s : Nat) (c : Int32), s ≤ 2 → n0 ≤ hh.size → own_st Z hh n0 d a s c 1 → oGo Z x.cls x.name code maxLocals ret room_1 n0 (fun v _ => v = some (.int 1)) 3 1029 hh 78 #[.val (.int p), .val (.int q), .val (.ref d), .val (.int (1 : Int32)), .val (.int (1 : Int32)), .unset, .unset] [] := by
    intro hh s c hs Zh Oh
    refine oGo.aloadN (q := 79) at_78 rfl rfl rfl ?_
    refine oGo.callV (W := 0) (rm := ({ frames := 0, cells := 0, slots := 0, locals := 0 } : Room)) (q := 82) (a := d) [] [] at_79 rfl (hw _ (List.mem_of_getElem? (i := 19) rfl)) (hw _ (List.mem_of_getElem? (i := 20) rfl)) (hw _ (List.mem_of_getElem? (i := 22) rfl)) (hw _ (List.mem_of_getElem? (i := 21) rfl)) (hw _ (List.mem_of_getElem? (i := 2) rfl)) (hw _ (List.mem_of_getElem? (i := 23) rfl)) rfl (by decide) (Oh.1.1) (cnv hw d a s c 1 2 hh n0 Oh (by decide)) rfl rfl own_pd2 rfl rfl (Nat.le_of_eq rfl) (by decide) (by decide) (by decide) (by decide) ?_
    rintro _ h18 ⟨rfl, K2, O2⟩
    show oGo Z _ _ _ _ _ _ n0 _ 3 1029 h18 82 #[.val (.int p), .val (.int q), .val (.ref d), .val (.int (1 : Int32)), .val (.int (1 : Int32)), .unset, .unset] [(.int (2 : Int32))]
    have Zs2 := Nat.le_trans Zh K2.1
    refine oGo.istore (q := 84) (L' := #[.val (.int p), .val (.int q), .val (.ref d), .val (.int (1 : Int32)), .val (.int (1 : Int32)), .val (.int (2 : Int32)), .unset]) at_82 rfl rfl ?_
    refine oGo.iloadN (q := 85) at_84 rfl rfl ?_
    refine oGo.if_eq (q := 106) (r := 88) at_85 (by decide) rfl (fun hc => absurd hc (by decide)) (fun hc => ?_)
    refine oGo.iload (q := 90) at_88 rfl rfl ?_
    refine oGo.iconst (q := 91) (v := (2 : Int32)) at_90 rfl rfl ?_
    refine oGo.icmp_ne (q := 106) (r := 94) at_91 (by decide) rfl (fun hc => absurd rfl hc) (fun hc => ?_)
    refine oGo.aloadN (q := 95) at_94 rfl rfl rfl ?_
    refine oGo.callV (W := 0) (rm := ({ frames := 0, cells := 0, slots := 0, locals := 0 } : Room)) (q := 98) (a := d) [] [] at_95 rfl (hw _ (List.mem_of_getElem? (i := 12) rfl)) (hw _ (List.mem_of_getElem? (i := 13) rfl)) (hw _ (List.mem_of_getElem? (i := 15) rfl)) (hw _ (List.mem_of_getElem? (i := 14) rfl)) (hw _ (List.mem_of_getElem? (i := 2) rfl)) (hw _ (List.mem_of_getElem? (i := 16) rfl)) rfl (by decide) (O2.1.1) (cvc hw d a s c 2 h18 n0 O2) rfl rfl own_pd2 rfl rfl (Nat.le_of_eq rfl) (by decide) (by decide) (by decide) (by decide) ?_
    rintro _ h19 ⟨rfl, eh⟩
    all_goals subst h19
    show oGo Z _ _ _ _ _ _ n0 _ 3 1029 h18 98 #[.val (.int p), .val (.int q), .val (.ref d), .val (.int (1 : Int32)), .val (.int (1 : Int32)), .val (.int (2 : Int32)), .unset] [(.int (2 : Int32))]
    refine oGo.iconst (q := 99) (v := (2 : Int32)) at_98 rfl rfl ?_
    refine oGo.icmp_ne (q := 106) (r := 102) at_99 (by decide) rfl (fun hc => absurd rfl hc) (fun hc => ?_)
    refine oGo.iconst (q := 103) (v := (1 : Int32)) at_102 rfl rfl ?_
    refine oGo.goto (q := 107) at_103 (by decide) ?_
    refine oGo.istoreN (q := 108) (L' := #[.val (.int p), .val (.int q), .val (.ref d), .val (.int (1 : Int32)), .val (.int (1 : Int32)), .val (.int (2 : Int32)), .unset]) at_107 rfl rfl ?_
    refine oGo.iloadN (q := 109) at_108 rfl rfl ?_
    refine oGo.iconst (q := 110) (v := (1 : Int32)) at_109 rfl rfl ?_
    refine oGo.iand (q := 111) at_110 rfl ?_
    have J150 : ∀ (hh : Heap) (s : Nat) (c : Int32), s ≤ 5 → n0 ≤ hh.size → own_st Z hh n0 d a s c 2 → oGo Z x.cls x.name code maxLocals ret room_1 n0 (fun v _ => v = some (.int 1)) 4 1031 hh 150 #[.val (.int p), .val (.int q), .val (.ref d), .val (.int (1 : Int32)), .val (.int (1 : Int32)), .val (.int (2 : Int32)), .unset] [] := by
      intro hh s c hs Zh Oh
      refine oGo.aloadN (q := 151) at_150 rfl rfl rfl ?_
      refine oGo.callV (W := 0) (rm := ({ frames := 0, cells := 0, slots := 0, locals := 0 } : Room)) (q := 154) (a := d) [] [] at_151 rfl (hw _ (List.mem_of_getElem? (i := 19) rfl)) (hw _ (List.mem_of_getElem? (i := 20) rfl)) (hw _ (List.mem_of_getElem? (i := 22) rfl)) (hw _ (List.mem_of_getElem? (i := 21) rfl)) (hw _ (List.mem_of_getElem? (i := 2) rfl)) (hw _ (List.mem_of_getElem? (i := 23) rfl)) rfl (by decide) (Oh.1.1) (cnv hw d a s c 2 3 hh n0 Oh (by decide)) rfl rfl own_pd2 rfl rfl (Nat.le_of_eq rfl) (by decide) (by decide) (by decide) (by decide) ?_
      rintro _ h20 ⟨rfl, K3, O3⟩
      show oGo Z _ _ _ _ _ _ n0 _ 4 1031 h20 154 #[.val (.int p), .val (.int q), .val (.ref d), .val (.int (1 : Int32)), .val (.int (1 : Int32)), .val (.int (2 : Int32)), .unset] [(.int (3 : Int32))]
      have Zs3 := Nat.le_trans Zh K3.1
      refine oGo.istore (q := 156) (L' := #[.val (.int p), .val (.int q), .val (.ref d), .val (.int (1 : Int32)), .val (.int (1 : Int32)), .val (.int (2 : Int32)), .val (.int (3 : Int32))]) at_154 rfl rfl ?_
      refine oGo.iloadN (q := 157) at_156 rfl rfl ?_
      refine oGo.if_eq (q := 178) (r := 160) at_157 (by decide) rfl (fun hc => absurd hc (by decide)) (fun hc => ?_)
      refine oGo.iload (q := 162) at_160 rfl rfl ?_
      refine oGo.iconst (q := 163) (v := (3 : Int32)) at_162 rfl rfl ?_
      refine oGo.icmp_ne (q := 178) (r := 166) at_163 (by decide) rfl (fun hc => absurd rfl hc) (fun hc => ?_)
      refine oGo.aloadN (q := 167) at_166 rfl rfl rfl ?_
      refine oGo.callV (W := 0) (rm := ({ frames := 0, cells := 0, slots := 0, locals := 0 } : Room)) (q := 170) (a := d) [] [] at_167 rfl (hw _ (List.mem_of_getElem? (i := 12) rfl)) (hw _ (List.mem_of_getElem? (i := 13) rfl)) (hw _ (List.mem_of_getElem? (i := 15) rfl)) (hw _ (List.mem_of_getElem? (i := 14) rfl)) (hw _ (List.mem_of_getElem? (i := 2) rfl)) (hw _ (List.mem_of_getElem? (i := 16) rfl)) rfl (by decide) (O3.1.1) (cvc hw d a s c 3 h20 n0 O3) rfl rfl own_pd2 rfl rfl (Nat.le_of_eq rfl) (by decide) (by decide) (by decide) (by decide) ?_
      rintro _ h21 ⟨rfl, eh⟩
      all_goals subst h21
      show oGo Z _ _ _ _ _ _ n0 _ 4 1031 h20 170 #[.val (.int p), .val (.int q), .val (.ref d), .val (.int (1 : Int32)), .val (.int (1 : Int32)), .val (.int (2 : Int32)), .val (.int (3 : Int32))] [(.int (3 : Int32))]
      refine oGo.iconst (q := 171) (v := (3 : Int32)) at_170 rfl rfl ?_
      refine oGo.icmp_ne (q := 178) (r := 174) at_171 (by decide) rfl (fun hc => absurd rfl hc) (fun hc => ?_)
      refine oGo.iconst (q := 175) (v := (1 : Int32)) at_174 rfl rfl ?_
      refine oGo.goto (q := 179) at_175 (by decide) ?_
      refine oGo.istoreN (q := 180) (L' := #[.val (.int p), .val (.int q), .val (.ref d), .val (.int (1 : Int32)), .val (.int (1 : Int32)), .val (.int (2 : Int32)), .val (.int (3 : Int32))]) at_179 rfl rfl ?_
      refine oGo.iloadN (q := 181) at_180 rfl rfl ?_
      exact oGo.retN (t := .boolean) at_181 rfl (by simp) (by decide) (by decide) (rfl)
    refine oGo.if_eq (q := 150) (r := 114) at_111 (by decide) rfl (fun hc => ?_) (fun hc => ?_)
    · skip
      exact oGo.more (by decide) (by decide) (J150 _ _ _ (by omega) Zs2 O2)
    · skip
      refine oGo.aloadN (q := 115) at_114 rfl rfl rfl ?_
      refine oGo.iconst (q := 116) (v := (2 : Int32)) at_115 rfl rfl ?_
      refine oGo.newP (q := 118) (len := 2) 2 at_116 rfl (hw _ (List.mem_of_getElem? (i := 9) rfl)) rfl (by first | decide | omega) (by decide) (by decide) (by decide) (ad := "[I") rfl ?_
      intro h22 e2 g22 K22 A22 E22
      have ge_e2 : n0 ≤ e2 := Nat.le_trans Zs2 (Nat.le_of_eq g22.symm)
      have Zs2_ := Nat.le_trans Zs2 K22.1
      replace A22 : Ars Z h22 e2 .int [(.int (0 : Int32)), (.int (0 : Int32))] := A22
      show oGo Z _ _ _ _ _ _ n0 _ 4 1031 h22 118 #[.val (.int p), .val (.int q), .val (.ref d), .val (.int (1 : Int32)), .val (.int (1 : Int32)), .val (.int (2 : Int32)), .unset] [(.ref e2), (.ref d)]
      have nd2 : e2 ≠ d := (Nat.ne_of_lt (Nat.lt_of_lt_of_eq O2.lt.1 g22.symm)).symm
      have na2 : e2 ≠ a := (Nat.ne_of_lt (Nat.lt_of_lt_of_eq O2.lt.2 g22.symm)).symm
      have P2 := own_st.keep O2 K22 nin0 nin0
      have Ze2 := Nat.le_trans Zs2 K22.1
      refine oGo.dup (q := 119) at_118 rfl rfl ?_
      refine oGo.iconst (q := 120) (v := (0 : Int32)) at_119 rfl rfl ?_
      refine oGo.iloadN (q := 121) at_120 rfl rfl ?_
      refine oGo.iconst (q := 122) (v := (2 : Int32)) at_121 rfl rfl ?_
      refine oGo.iand (q := 123) at_122 rfl ?_
      refine oGo.if_eq (q := 130) (r := 126) at_123 (by decide) rfl (fun hc2 => ?_) (fun hc2 => ?_)
      · skip
        refine oGo.iconst (q := 131) (v := (-1 : Int32)) at_130 rfl (by decide) ?_
        refine oGo.iastore (q := 132) (i := 0) at_131 rfl A22 rfl (Nat.le_of_ble_eq_true rfl) ge_e2 ?_
        intro h23 K23 A23
        replace A23 : Ars Z h23 e2 .int [(.int (-1 : Int32)), (.int (0 : Int32))] := A23
        have E22_ := Exa.keep E22 K23
        have Zs2__ := Nat.le_trans Zs2_ K23.1
        show oGo Z _ _ _ _ _ _ n0 _ 4 1031 h23 132 #[.val (.int p), .val (.int q), .val (.ref d), .val (.int (1 : Int32)), .val (.int (1 : Int32)), .val (.int (2 : Int32)), .unset] [(.ref e2), (.ref d)]
        have Q2 := own_st.keep P2 K23 (ninS nd2.symm nin0) (ninS na2.symm nin0)
        have Zf := Nat.le_trans Ze2 K23.1
        refine oGo.dup (q := 133) at_132 rfl rfl ?_
        refine oGo.iconst (q := 134) (v := (1 : Int32)) at_133 rfl rfl ?_
        refine oGo.iloadN (q := 135) at_134 rfl rfl ?_
        refine oGo.iconst (q := 136) (v := (4 : Int32)) at_135 rfl rfl ?_
        refine oGo.iand (q := 137) at_136 rfl ?_
        refine oGo.if_eq (q := 144) (r := 140) at_137 (by decide) rfl (fun hc3 => ?_) (fun hc3 => ?_)
        · skip
          refine oGo.bipush (q := 146) (v := (-2 : Int32)) at_144 rfl (by decide) ?_
          refine oGo.iastore (q := 147) (i := 1) at_146 rfl A23 rfl (Nat.le_of_ble_eq_true rfl) ge_e2 ?_
          intro h24 K24 A24
          replace A24 : Ars Z h24 e2 .int [(.int (-1 : Int32)), (.int (-2 : Int32))] := A24
          have E22__ := Exa.keep E22_ K24
          have Zs2___ := Nat.le_trans Zs2__ K24.1
          show oGo Z _ _ _ _ _ _ n0 _ 4 1031 h24 147 #[.val (.int p), .val (.int q), .val (.ref d), .val (.int (1 : Int32)), .val (.int (1 : Int32)), .val (.int (2 : Int32)), .unset] [(.ref e2), (.ref d)]
          have R2 := own_st.keep Q2 K24 (ninS nd2.symm nin0) (ninS na2.symm nin0)
          have Zg := Nat.le_trans Zf K24.1
          refine oGo.callV (W := 0) (rm := ({ frames := 1, cells := 0, slots := 0, locals := 60 } : Room)) (q := 150) (a := d) [(.ref e2)] [] at_147 rfl (hw _ (List.mem_of_getElem? (i := 24) rfl)) (hw _ (List.mem_of_getElem? (i := 25) rfl)) (hw _ (List.mem_of_getElem? (i := 27) rfl)) (hw _ (List.mem_of_getElem? (i := 26) rfl)) (hw _ (List.mem_of_getElem? (i := 2) rfl)) (hw _ (List.mem_of_getElem? (i := 28) rfl)) rfl (by decide) (R2.1.1) (cac hw d e2 a s (s + 3) c 2 [(.int (-1 : Int32)), (.int (-2 : Int32))] h24 n0 R2 A24 nd2 na2 (by decide) (own_oks.cons (by unfold own_ok; decide) (own_oks.cons (by unfold own_ok; decide) (own_oks.nil _))) (by simp only [List.length_cons, List.length_nil]; omega) rfl) rfl rfl own_pd3 rfl rfl (Nat.le_of_eq rfl) (by decide) (by decide) (by decide) (by decide) ?_
          rintro _ h25 ⟨rfl, Kc, Oc⟩
          show oGo Z _ _ _ _ _ _ n0 _ 4 1031 h25 150 #[.val (.int p), .val (.int q), .val (.ref d), .val (.int (1 : Int32)), .val (.int (1 : Int32)), .val (.int (2 : Int32)), .unset] []
          exact J150 _ _ _ (by omega) (Nat.le_trans Zg Kc.1) Oc
        · skip
          refine oGo.iconst (q := 141) (v := (1 : Int32)) at_140 rfl rfl ?_
          refine oGo.goto (q := 146) at_141 (by decide) ?_
          refine oGo.iastore (q := 147) (i := 1) at_146 rfl A23 rfl (Nat.le_of_ble_eq_true rfl) ge_e2 ?_
          intro h26 K26 A26
          replace A26 : Ars Z h26 e2 .int [(.int (-1 : Int32)), (.int (1 : Int32))] := A26
          have E22__ := Exa.keep E22_ K26
          have Zs2___ := Nat.le_trans Zs2__ K26.1
          show oGo Z _ _ _ _ _ _ n0 _ 4 1031 h26 147 #[.val (.int p), .val (.int q), .val (.ref d), .val (.int (1 : Int32)), .val (.int (1 : Int32)), .val (.int (2 : Int32)), .unset] [(.ref e2), (.ref d)]
          have R2 := own_st.keep Q2 K26 (ninS nd2.symm nin0) (ninS na2.symm nin0)
          have Zg := Nat.le_trans Zf K26.1
          refine oGo.callV (W := 0) (rm := ({ frames := 1, cells := 0, slots := 0, locals := 60 } : Room)) (q := 150) (a := d) [(.ref e2)] [] at_147 rfl (hw _ (List.mem_of_getElem? (i := 24) rfl)) (hw _ (List.mem_of_getElem? (i := 25) rfl)) (hw _ (List.mem_of_getElem? (i := 27) rfl)) (hw _ (List.mem_of_getElem? (i := 26) rfl)) (hw _ (List.mem_of_getElem? (i := 2) rfl)) (hw _ (List.mem_of_getElem? (i := 28) rfl)) rfl (by decide) (R2.1.1) (cac hw d e2 a s (s + 3) c 2 [(.int (-1 : Int32)), (.int (1 : Int32))] h26 n0 R2 A26 nd2 na2 (by decide) (own_oks.cons (by unfold own_ok; decide) (own_oks.cons (by unfold own_ok; decide) (own_oks.nil _))) (by simp only [List.length_cons, List.length_nil]; omega) rfl) rfl rfl own_pd3 rfl rfl (Nat.le_of_eq rfl) (by decide) (by decide) (by decide) (by decide) ?_
          rintro _ h27 ⟨rfl, Kc, Oc⟩
          show oGo Z _ _ _ _ _ _ n0 _ 4 1031 h27 150 #[.val (.int p), .val (.int q), .val (.ref d), .val (.int (1 : Int32)), .val (.int (1 : Int32)), .val (.int (2 : Int32)), .unset] []
          exact J150 _ _ _ (by omega) (Nat.le_trans Zg Kc.1) Oc
      · skip
        refine oGo.iconst (q := 127) (v := (2 : Int32)) at_126 rfl rfl ?_
        refine oGo.goto (q := 131) at_127 (by decide) ?_
        refine oGo.iastore (q := 132) (i := 0) at_131 rfl A22 rfl (Nat.le_of_ble_eq_true rfl) ge_e2 ?_
        intro h28 K28 A28
        replace A28 : Ars Z h28 e2 .int [(.int (2 : Int32)), (.int (0 : Int32))] := A28
        have E22_ := Exa.keep E22 K28
        have Zs2__ := Nat.le_trans Zs2_ K28.1
        show oGo Z _ _ _ _ _ _ n0 _ 4 1031 h28 132 #[.val (.int p), .val (.int q), .val (.ref d), .val (.int (1 : Int32)), .val (.int (1 : Int32)), .val (.int (2 : Int32)), .unset] [(.ref e2), (.ref d)]
        have Q2 := own_st.keep P2 K28 (ninS nd2.symm nin0) (ninS na2.symm nin0)
        have Zf := Nat.le_trans Ze2 K28.1
        refine oGo.dup (q := 133) at_132 rfl rfl ?_
        refine oGo.iconst (q := 134) (v := (1 : Int32)) at_133 rfl rfl ?_
        refine oGo.iloadN (q := 135) at_134 rfl rfl ?_
        refine oGo.iconst (q := 136) (v := (4 : Int32)) at_135 rfl rfl ?_
        refine oGo.iand (q := 137) at_136 rfl ?_
        refine oGo.if_eq (q := 144) (r := 140) at_137 (by decide) rfl (fun hc3 => ?_) (fun hc3 => ?_)
        · skip
          refine oGo.bipush (q := 146) (v := (-2 : Int32)) at_144 rfl (by decide) ?_
          refine oGo.iastore (q := 147) (i := 1) at_146 rfl A28 rfl (Nat.le_of_ble_eq_true rfl) ge_e2 ?_
          intro h29 K29 A29
          replace A29 : Ars Z h29 e2 .int [(.int (2 : Int32)), (.int (-2 : Int32))] := A29
          have E22__ := Exa.keep E22_ K29
          have Zs2___ := Nat.le_trans Zs2__ K29.1
          show oGo Z _ _ _ _ _ _ n0 _ 4 1031 h29 147 #[.val (.int p), .val (.int q), .val (.ref d), .val (.int (1 : Int32)), .val (.int (1 : Int32)), .val (.int (2 : Int32)), .unset] [(.ref e2), (.ref d)]
          have R2 := own_st.keep Q2 K29 (ninS nd2.symm nin0) (ninS na2.symm nin0)
          have Zg := Nat.le_trans Zf K29.1
          refine oGo.callV (W := 0) (rm := ({ frames := 1, cells := 0, slots := 0, locals := 60 } : Room)) (q := 150) (a := d) [(.ref e2)] [] at_147 rfl (hw _ (List.mem_of_getElem? (i := 24) rfl)) (hw _ (List.mem_of_getElem? (i := 25) rfl)) (hw _ (List.mem_of_getElem? (i := 27) rfl)) (hw _ (List.mem_of_getElem? (i := 26) rfl)) (hw _ (List.mem_of_getElem? (i := 2) rfl)) (hw _ (List.mem_of_getElem? (i := 28) rfl)) rfl (by decide) (R2.1.1) (cac hw d e2 a s (s + 3) c 2 [(.int (2 : Int32)), (.int (-2 : Int32))] h29 n0 R2 A29 nd2 na2 (by decide) (own_oks.cons (by unfold own_ok; decide) (own_oks.cons (by unfold own_ok; decide) (own_oks.nil _))) (by simp only [List.length_cons, List.length_nil]; omega) rfl) rfl rfl own_pd3 rfl rfl (Nat.le_of_eq rfl) (by decide) (by decide) (by decide) (by decide) ?_
          rintro _ h30 ⟨rfl, Kc, Oc⟩
          show oGo Z _ _ _ _ _ _ n0 _ 4 1031 h30 150 #[.val (.int p), .val (.int q), .val (.ref d), .val (.int (1 : Int32)), .val (.int (1 : Int32)), .val (.int (2 : Int32)), .unset] []
          exact J150 _ _ _ (by omega) (Nat.le_trans Zg Kc.1) Oc
        · skip
          refine oGo.iconst (q := 141) (v := (1 : Int32)) at_140 rfl rfl ?_
          refine oGo.goto (q := 146) at_141 (by decide) ?_
          refine oGo.iastore (q := 147) (i := 1) at_146 rfl A28 rfl (Nat.le_of_ble_eq_true rfl) ge_e2 ?_
          intro h31 K31 A31
          replace A31 : Ars Z h31 e2 .int [(.int (2 : Int32)), (.int (1 : Int32))] := A31
          have E22__ := Exa.keep E22_ K31
          have Zs2___ := Nat.le_trans Zs2__ K31.1
          show oGo Z _ _ _ _ _ _ n0 _ 4 1031 h31 147 #[.val (.int p), .val (.int q), .val (.ref d), .val (.int (1 : Int32)), .val (.int (1 : Int32)), .val (.int (2 : Int32)), .unset] [(.ref e2), (.ref d)]
          have R2 := own_st.keep Q2 K31 (ninS nd2.symm nin0) (ninS na2.symm nin0)
          have Zg := Nat.le_trans Zf K31.1
          refine oGo.callV (W := 0) (rm := ({ frames := 1, cells := 0, slots := 0, locals := 60 } : Room)) (q := 150) (a := d) [(.ref e2)] [] at_147 rfl (hw _ (List.mem_of_getElem? (i := 24) rfl)) (hw _ (List.mem_of_getElem? (i := 25) rfl)) (hw _ (List.mem_of_getElem? (i := 27) rfl)) (hw _ (List.mem_of_getElem? (i := 26) rfl)) (hw _ (List.mem_of_getElem? (i := 2) rfl)) (hw _ (List.mem_of_getElem? (i := 28) rfl)) rfl (by decide) (R2.1.1) (cac hw d e2 a s (s + 3) c 2 [(.int (2 : Int32)), (.int (1 : Int32))] h31 n0 R2 A31 nd2 na2 (by decide) (own_oks.cons (by unfold own_ok; decide) (own_oks.cons (by unfold own_ok; decide) (own_oks.nil _))) (by simp only [List.length_cons, List.length_nil]; omega) rfl) rfl rfl own_pd3 rfl rfl (Nat.le_of_eq rfl) (by decide) (by decide) (by decide) (by decide) ?_
          rintro _ h32 ⟨rfl, Kc, Oc⟩
          show oGo Z _ _ _ _ _ _ n0 _ 4 1031 h32 150 #[.val (.int p), .val (.int q), .val (.ref d), .val (.int (1 : Int32)), .val (.int (1 : Int32)), .val (.int (2 : Int32)), .unset] []
          exact J150 _ _ _ (by omega) (Nat.le_trans Zg Kc.1) Oc
  refine oGo.if_eq (q := 78) (r := 57) at_54 (by decide) rfl (fun hc => ?_) (fun hc => ?_)
  · skip
    exact oGo.more (by decide) (by decide) (J78 _ 0 0 (by omega) Zs1 O1)
  · skip
    refine oGo.aloadN (q := 58) at_57 rfl rfl rfl ?_
    refine oGo.iconst (q := 59) (v := (1 : Int32)) at_58 rfl rfl ?_
    refine oGo.newP (q := 61) (len := 1) 1 at_59 rfl (hw _ (List.mem_of_getElem? (i := 9) rfl)) rfl (by first | decide | omega) (by decide) (by decide) (by decide) (ad := "[I") rfl ?_
    intro h33 e1 g33 K33 A33 E33
    have ge_e1 : n0 ≤ e1 := Nat.le_trans Zs1 (Nat.le_of_eq g33.symm)
    have Zs1_ := Nat.le_trans Zs1 K33.1
    replace A33 : Ars Z h33 e1 .int [(.int (0 : Int32))] := A33
    show oGo Z _ _ _ _ _ _ n0 _ 3 1029 h33 61 #[.val (.int p), .val (.int q), .val (.ref d), .val (.int (1 : Int32)), .val (.int (1 : Int32)), .unset, .unset] [(.ref e1), (.ref d)]
    have nd1 : e1 ≠ d := (Nat.ne_of_lt (Nat.lt_of_lt_of_eq O1.lt.1 g33.symm)).symm
    have na1 : e1 ≠ a := (Nat.ne_of_lt (Nat.lt_of_lt_of_eq O1.lt.2 g33.symm)).symm
    have P1 := own_st.keep O1 K33 nin0 nin0
    have Ze1 := Nat.le_trans Zs1 K33.1
    refine oGo.dup (q := 62) at_61 rfl rfl ?_
    refine oGo.iconst (q := 63) (v := (0 : Int32)) at_62 rfl rfl ?_
    refine oGo.iloadN (q := 64) at_63 rfl rfl ?_
    refine oGo.iconst (q := 65) (v := (2 : Int32)) at_64 rfl rfl ?_
    refine oGo.iand (q := 66) at_65 rfl ?_
    refine oGo.if_eq (q := 73) (r := 69) at_66 (by decide) rfl (fun hc2 => ?_) (fun hc2 => ?_)
    · skip
      refine oGo.iconst (q := 74) (v := (-1 : Int32)) at_73 rfl (by decide) ?_
      refine oGo.iastore (q := 75) (i := 0) at_74 rfl A33 rfl (Nat.le_of_ble_eq_true rfl) ge_e1 ?_
      intro h34 K34 A34
      replace A34 : Ars Z h34 e1 .int [(.int (-1 : Int32))] := A34
      have E33_ := Exa.keep E33 K34
      have Zs1__ := Nat.le_trans Zs1_ K34.1
      show oGo Z _ _ _ _ _ _ n0 _ 3 1029 h34 75 #[.val (.int p), .val (.int q), .val (.ref d), .val (.int (1 : Int32)), .val (.int (1 : Int32)), .unset, .unset] [(.ref e1), (.ref d)]
      have R1 := own_st.keep P1 K34 (ninS nd1.symm nin0) (ninS na1.symm nin0)
      have Zg := Nat.le_trans Ze1 K34.1
      refine oGo.callV (W := 0) (rm := ({ frames := 1, cells := 0, slots := 0, locals := 60 } : Room)) (q := 78) (a := d) [(.ref e1)] [] at_75 rfl (hw _ (List.mem_of_getElem? (i := 24) rfl)) (hw _ (List.mem_of_getElem? (i := 25) rfl)) (hw _ (List.mem_of_getElem? (i := 27) rfl)) (hw _ (List.mem_of_getElem? (i := 26) rfl)) (hw _ (List.mem_of_getElem? (i := 2) rfl)) (hw _ (List.mem_of_getElem? (i := 28) rfl)) rfl (by decide) (R1.1.1) (cac hw d e1 a 0 (0 + 2) 0 1 [(.int (-1 : Int32))] h34 n0 R1 A34 nd1 na1 (by decide) (own_oks.cons (by unfold own_ok; decide) (own_oks.nil _)) (by simp only [List.length_cons, List.length_nil]; omega) rfl) rfl rfl own_pd3 rfl rfl (Nat.le_of_eq rfl) (by decide) (by decide) (by decide) (by decide) ?_
      rintro _ h35 ⟨rfl, Kc, Oc⟩
      show oGo Z _ _ _ _ _ _ n0 _ 3 1029 h35 78 #[.val (.int p), .val (.int q), .val (.ref d), .val (.int (1 : Int32)), .val (.int (1 : Int32)), .unset, .unset] []
      exact J78 _ _ _ (by omega) (Nat.le_trans Zg Kc.1) Oc
    · skip
      refine oGo.iconst (q := 70) (v := (1 : Int32)) at_69 rfl rfl ?_
      refine oGo.goto (q := 74) at_70 (by decide) ?_
      refine oGo.iastore (q := 75) (i := 0) at_74 rfl A33 rfl (Nat.le_of_ble_eq_true rfl) ge_e1 ?_
      intro h36 K36 A36
      replace A36 : Ars Z h36 e1 .int [(.int (1 : Int32))] := A36
      have E33_ := Exa.keep E33 K36
      have Zs1__ := Nat.le_trans Zs1_ K36.1
      show oGo Z _ _ _ _ _ _ n0 _ 3 1029 h36 75 #[.val (.int p), .val (.int q), .val (.ref d), .val (.int (1 : Int32)), .val (.int (1 : Int32)), .unset, .unset] [(.ref e1), (.ref d)]
      have R1 := own_st.keep P1 K36 (ninS nd1.symm nin0) (ninS na1.symm nin0)
      have Zg := Nat.le_trans Ze1 K36.1
      refine oGo.callV (W := 0) (rm := ({ frames := 1, cells := 0, slots := 0, locals := 60 } : Room)) (q := 78) (a := d) [(.ref e1)] [] at_75 rfl (hw _ (List.mem_of_getElem? (i := 24) rfl)) (hw _ (List.mem_of_getElem? (i := 25) rfl)) (hw _ (List.mem_of_getElem? (i := 27) rfl)) (hw _ (List.mem_of_getElem? (i := 26) rfl)) (hw _ (List.mem_of_getElem? (i := 2) rfl)) (hw _ (List.mem_of_getElem? (i := 28) rfl)) rfl (by decide) (R1.1.1) (cac hw d e1 a 0 (0 + 2) 0 1 [(.int (1 : Int32))] h36 n0 R1 A36 nd1 na1 (by decide) (own_oks.cons (by unfold own_ok; decide) (own_oks.nil _)) (by simp only [List.length_cons, List.length_nil]; omega) rfl) rfl rfl own_pd3 rfl rfl (Nat.le_of_eq rfl) (by decide) (by decide) (by decide) (by decide) ?_
      rintro _ h37 ⟨rfl, Kc, Oc⟩
      show oGo Z _ _ _ _ _ _ n0 _ 3 1029 h37 78 #[.val (.int p), .val (.int q), .val (.ref d), .val (.int (1 : Int32)), .val (.int (1 : Int32)), .unset, .unset] []
      exact J78 _ _ _ (by omega) (Nat.le_trans Zg Kc.1) Oc
set_option maxRecDepth 65536 in
set_option maxHeartbeats 40000000 in
theorem comes_1 {Post : Tables → Env → Array Value → State → Outcome → State → Prop} (hpost : ∀ tb e args s v u, (limb_1_1.after args s (.returned v) u = true ∧ limb_1_2.after args s (.returned v) u = true ∧ True) → FrameEnd s (.returned v) u (Jvm.fieldLocs frame_1_writes args s ++ Jvm.arrayLocs frame_1_arrays args s ++ Jvm.staticLocs frame_1_statics s) 16 2176 → Post tb e args s (.returned v) u) :
    ArmFor flags0 classFile x code maxLocals ret World_1 tables_1 room_1 Calls_1 rest_1 Pre_1 Post := by
  intro l hfl _ _ p e ha hc hk s m args below hf hA hF happ hP
  obtain ⟨hcalls, hrest, hpre⟩ := hP
  obtain ⟨-, -, -, hnamed, -, -, -, hat⟩ := (Spec.applies_iff hf).mp happ
  obtain ⟨hg, hn⟩ := and_e (Cond.before_iff.mp (show (Jvm.Cond.and given_1 narrow_1).before args s = true from hpre))
  obtain ⟨h1, g0⟩ := and_e hg
  obtain ⟨b0, g1⟩ := and_e g0
  have b1 := g1
  obtain ⟨w0, w1, rfl⟩ : ∃ w0 w1 : Value, args = #[w0, w1] := by
    have hs : args.size = 2 := by simpa [Cond.value, given_1] using h1
    obtain ⟨L⟩ := args
    match L, hs with
    | [w0, w1], _ => exact ⟨w0, w1, rfl⟩
  have hw := fun d (hd : d ∈ tables_1) => atoms_spec (ws := Jvm.Cond.code x code maxLocals ret :: tables_1) hat d (List.mem_cons_of_mem _ hd)
  have hfit : Fit s := fun {y c} hc i hi => by
    obtain ⟨ha, rfl⟩ := Array.getElem?_eq_some_iff.mp hc
    have q := List.all_eq_true.mp ((Array.all_eq_true_iff_forall_mem.mp hF) _ (Array.getElem_mem ha)) i (List.mem_range.mpr hi)
    simpa [Array.getElem?_eq_getElem hi] using q
  obtain ⟨i0, e0⟩ := is_v b0
  obtain rfl : w0 = (.int i0) := Option.some.inj e0
  obtain ⟨i1, e1⟩ := is_v b1
  obtain rfl : w1 = (.int i1) := Option.some.inj e1
  obtain ⟨n, o, q1, q2, q3, _, L, rfl, ⟨rfl, N⟩, hq⟩ := (law hw i0 i1 s.heap s.heap.size (Nat.le_refl _)) l tables_1 p e ha hc hk s m _ below hf ((Spec.applies_iff_loose hf).mp happ).1 ⟨rfl, State.Warmed39.refl s, rfl⟩ trivial
  refine ⟨n, _, q1, q2, q3, hpost _ _ _ _ _ _ ⟨Cond.after_iff.mpr rfl, Cond.after_iff.mpr (eq_i res_at (Term.int_eval (1)) rfl), trivial⟩ ⟨hq.1, hq.2.1, (hq.2.2.sift fun y hy => Or.inr (N y hy)).mono (by decide) (by decide)⟩⟩
theorem main_1_1 : Claimed_1_1 := comes_1 fun _ _ _ _ _ _ h hF => ⟨h.1, hF⟩
theorem main_1_2 : Claimed_1_2 := comes_1 fun _ _ _ _ _ _ h hF => ⟨h.2.1, hF⟩
end Jvm.Pilot.@@N@@
namespace Jvm.Pilot.@@N@@
open Jvm Jvm.ClassFile Sem Op Lib Jvm.Free Jvm.Stand Jvm.Pilot.@@N@@.Jvm.D
/-! MADE BY PROGRAM (witnessworld.py) out of the Statement's table words and the real class files: 11 classes; the members and pool entries that the words name. The judged class is class 1, her method 1. -/
namespace start1
open Jvm.ClassFile
def u (s : String) : CpInfo := .utf8 (stringToUtf16 s)
/-- a pool by its gaps: so many unusable entries, then the entry; so many at the end -/
def gap : Nat → List CpInfo → List CpInfo
  | 0, r => r
  | n + 1, r => .unusable :: gap n r
def poolList (es : List (Nat × CpInfo)) (last : Nat) : List CpInfo := es.foldr (fun e r => gap e.1 (e.2 :: r)) (gap last [])
def pool (es : List (Nat × CpInfo)) (last : Nat) : Array CpInfo := ⟨poolList es last⟩
def fileOf (pool : Array CpInfo) (this : Nat) (attrs : Array Attribute := #[]) (ms : Array MethodInfo := #[]) (fl : Nat := 33) (sup : Nat := 0) (ifs : Array Nat := #[]) (fds : Array FieldInfo := #[]) : ClassFile where
  minorVersion := 0
  majorVersion := 65
  constantPool := pool
  accessFlags := fl
  thisClass := this
  superClass := sup
  interfaces := ifs
  fields := fds
  methods := ms
  attributes := attrs
def plain (name : String) (sup : Option ClassId) : Class where
  name := name
  kind := .ordinary
  loader := none
  accessFlags := 33
  super := sup
  interfaces := #[]
  cf := none
  fields := #[]
  methods := #[]
  instanceTypes := #[]
  staticTypes := #[]
  resolved := #[]
  callSites := []
  init := .initialized
  statics := none
  mirror := none

def pool0 : Array CpInfo := pool [(5, u "<init>"), (0, u "()V"), (1, .class_ 10), (1, u "java/lang/Object")] 113

def k0c0 : Code := { maxStack := 0, maxLocals := 1, code := object_method_1_code, exceptionTable := #[], attributes := #[] }
def k0m0 : Method := { name := "<init>", desc := "()V", sig := { parameters := [], returnType := none }, accessFlags := 1, code := some k0c0 }
/-- java/lang/Object -/
def k0 : Class := { plain "java/lang/Object" none with
  accessFlags := 33
  interfaces := #[]
  cf := some (fileOf pool0 8 #[] #[{ accessFlags := 1, nameIndex := 5, descriptorIndex := 6, attributes := #[] }] 33 0 #[] #[])
  fields := #[]
  methods := #[k0m0]
  instanceTypes := #[]
  staticTypes := #[]
  resolved := Array.replicate 124 none
  statics := none }

def pool1 : Array CpInfo := pool [(2, .class_ 4), (0, .nameAndType 5 6), (0, u "java/lang/Object"), (0, u "<init>"), (0, u "()V"), (0, .class_ 8), (0, u "com/example/ferret/ferret/engine/Dimacs"), (0, .methodref 7 3), (0, .methodref 7 11), (0, .nameAndType 12 13), (0, u "variableCount"), (0, u "()I"), (0, .methodref 7 15), (0, .nameAndType 16 13), (0, u "newVariable"), (0, .methodref 7 18), (0, .nameAndType 19 20), (0, u "addClause"), (0, u "([I)V"), (0, .class_ 22), (0, u "com/example/ferret/ferret/engine/DimacsNewVariablePinLaw"), (2, u "law"), (0, u "(II)Z")] 5

def k1m0 : Method := { name := "<init>", desc := "()V", sig := { parameters := [], returnType := none }, accessFlags := 2, code := none }
def k1c1 : Code := { maxStack := 6, maxLocals := 7, code := code, exceptionTable := #[], attributes := #[] }
def k1m1 : Method := { name := "law", desc := "(II)Z", sig := { parameters := [.int, .int], returnType := some .boolean }, accessFlags := 9, code := some k1c1 }
/-- com/example/ferret/ferret/engine/DimacsNewVariablePinLaw -/
def k1 : Class := { plain "com/example/ferret/ferret/engine/DimacsNewVariablePinLaw" (some 0) with
  accessFlags := 49
  interfaces := #[]
  cf := some (fileOf pool1 21 #[] #[{ accessFlags := 2, nameIndex := 5, descriptorIndex := 6, attributes := #[] }, { accessFlags := 9, nameIndex := 25, descriptorIndex := 26, attributes := #[] }] 49 2 #[] #[])
  fields := #[]
  methods := #[k1m0, k1m1]
  instanceTypes := #[]
  staticTypes := #[]
  resolved := Array.replicate 32 none
  statics := none }

def pool2 : Array CpInfo := pool [(1, .class_ 2), (0, u "com/example/ferret/ferret/engine/Cnf"), (0, .class_ 4), (0, u "java/lang/Object")] 6

/-- com/example/ferret/ferret/engine/Cnf -/
def k2 : Class := { plain "com/example/ferret/ferret/engine/Cnf" (some 0) with
  accessFlags := 1537
  interfaces := #[]
  cf := some (fileOf pool2 1 #[] #[] 1537 3 #[] #[])
  fields := #[]
  methods := #[]
  instanceTypes := #[]
  staticTypes := #[]
  resolved := Array.replicate 11 none
  statics := none }

def pool3 : Array CpInfo := pool [(3, .methodref 4 5), (0, .class_ 6), (0, .nameAndType 7 8), (0, u "java/lang/Object"), (0, u "<init>"), (0, u "()V"), (0, .fieldref 10 11), (0, .class_ 12), (0, .nameAndType 13 14), (0, u "com/example/ferret/ferret/engine/Dimacs"), (0, u "literals"), (0, u "[I"), (0, .fieldref 10 16), (0, .nameAndType 17 18), (0, u "variableCount"), (0, u "I"), (0, .methodref 10 20), (0, .nameAndType 21 22), (0, u "requireDeclared"), (0, u "(I[I)V"), (0, .fieldref 10 24), (0, .nameAndType 25 18), (0, u "literalSlots"), (0, .long 2147483639), (8, .long 2), (16, .methodref 53 54), (0, .class_ 55), (0, .nameAndType 56 57), (0, u "java/lang/System"), (0, u "arraycopy"), (0, u "(Ljava/lang/Object;ILjava/lang/Object;II)V"), (0, .fieldref 10 59), (0, .nameAndType 60 18), (0, u "clauseCount"), (30, .class_ 92), (0, u "com/example/ferret/ferret/engine/Cnf"), (0, u "MOST_SLOTS"), (4, u "newVariable"), (0, u "()I"), (0, u "addClause"), (0, u "([I)V")] 27

def k3c0 : Code := { maxStack := 2, maxLocals := 1, code := prog_11_method_1_code, exceptionTable := #[], attributes := #[] }
def k3m0 : Method := { name := "<init>", desc := "()V", sig := { parameters := [], returnType := none }, accessFlags := 1, code := some k3c0 }
def k3c1 : Code := { maxStack := 3, maxLocals := 1, code := prog_11_method_2_code, exceptionTable := #[], attributes := #[] }
def k3m1 : Method := { name := "newVariable", desc := "()I", sig := { parameters := [], returnType := some .int }, accessFlags := 1, code := some k3c1 }
def k3c2 : Code := { maxStack := 6, maxLocals := 6, code := prog_11_method_3_code, exceptionTable := #[], attributes := #[] }
def k3m2 : Method := { name := "addClause", desc := "([I)V", sig := { parameters := [(.array .int)], returnType := none }, accessFlags := 129, code := some k3c2 }
def k3c3 : Code := { maxStack := 1, maxLocals := 1, code := prog_11_method_4_code, exceptionTable := #[], attributes := #[] }
def k3m3 : Method := { name := "variableCount", desc := "()I", sig := { parameters := [], returnType := some .int }, accessFlags := 0, code := some k3c3 }
def k3c4 : Code := { maxStack := 4, maxLocals := 6, code := prog_11_method_7_code, exceptionTable := #[], attributes := #[] }
def k3m4 : Method := { name := "requireDeclared", desc := "(I[I)V", sig := { parameters := [.int, (.array .int)], returnType := none }, accessFlags := 136, code := some k3c4 }
/-- com/example/ferret/ferret/engine/Dimacs -/
def k3 : Class := { plain "com/example/ferret/ferret/engine/Dimacs" (some 0) with
  accessFlags := 49
  interfaces := #[2]
  cf := some (fileOf pool3 10 #[] #[{ accessFlags := 1, nameIndex := 7, descriptorIndex := 8, attributes := #[] }, { accessFlags := 1, nameIndex := 98, descriptorIndex := 99, attributes := #[] }, { accessFlags := 129, nameIndex := 100, descriptorIndex := 101, attributes := #[] }, { accessFlags := 0, nameIndex := 17, descriptorIndex := 99, attributes := #[] }, { accessFlags := 136, nameIndex := 21, descriptorIndex := 22, attributes := #[] }] 49 4 #[91] #[{ accessFlags := 26, nameIndex := 93, descriptorIndex := 18, attributes := #[] }, { accessFlags := 2, nameIndex := 13, descriptorIndex := 14, attributes := #[] }, { accessFlags := 2, nameIndex := 25, descriptorIndex := 18, attributes := #[] }, { accessFlags := 2, nameIndex := 17, descriptorIndex := 18, attributes := #[] }, { accessFlags := 2, nameIndex := 60, descriptorIndex := 18, attributes := #[] }])
  fields := #[{ name := "MOST_SLOTS", type := .int, accessFlags := 26, slot := 0, constantValue := 0 }, { name := "literals", type := (.array .int), accessFlags := 2, slot := 0, constantValue := 0 }, { name := "literalSlots", type := .int, accessFlags := 2, slot := 1, constantValue := 0 }, { name := "variableCount", type := .int, accessFlags := 2, slot := 2, constantValue := 0 }, { name := "clauseCount", type := .int, accessFlags := 2, slot := 3, constantValue := 0 }]
  methods := #[k3m0, k3m1, k3m2, k3m3, k3m4]
  instanceTypes := #[(.array .int), .int, .int, .int]
  staticTypes := #[.int]
  resolved := Array.replicate 129 none
  statics := none }

def pool4 : Array CpInfo := pool [(2, .class_ 4), (1, u "java/lang/Object"), (0, u "<init>"), (0, u "()V"), (1, .class_ 10), (1, u "java/lang/System"), (0, u "allowSecurityManager"), (0, u "I"), (16, u "cons"), (0, u "Ljava/io/Console;"), (77, .class_ 110), (1, u "java/lang/System$CallersHolder"), (43, u "initialErrStream"), (0, u "Ljava/io/PrintStream;"), (19, u "security"), (0, u "Ljava/lang/SecurityManager;"), (31, .class_ 209), (0, u "java/lang/System$1"), (7, u "props"), (0, u "Ljava/util/Properties;"), (2, u "lineSeparator"), (0, u "Ljava/lang/String;"), (96, .class_ 321), (1, u "java/lang/System$LoggerFinder"), (5, .class_ 328), (0, u "java/lang/System$Logger"), (67, u "err"), (2, u "out"), (91, u "notSupportedJnuEncoding"), (15, u "in"), (17, u "initialIn"), (0, u "Ljava/io/InputStream;"), (35, u "bootLayer"), (0, u "Ljava/lang/ModuleLayer;"), (99, .class_ 664), (0, u "java/lang/System$2"), (9, u "NEVER"), (2, u "MAYBE"), (49, u "arraycopy"), (0, u "(Ljava/lang/Object;ILjava/lang/Object;II)V"), (72, .class_ 802), (0, u "java/lang/System$Logger$Level")] 31

def k4m0 : Method := { name := "<init>", desc := "()V", sig := { parameters := [], returnType := none }, accessFlags := 2, code := none }
def k4m1 : Method := { name := "arraycopy", desc := "(Ljava/lang/Object;ILjava/lang/Object;II)V", sig := { parameters := [(.object "java/lang/Object"), .int, (.object "java/lang/Object"), .int, .int], returnType := none }, accessFlags := 265, code := none }
/-- java/lang/System -/
def k4 : Class := { plain "java/lang/System" (some 0) with
  accessFlags := 49
  interfaces := #[]
  cf := some (fileOf pool4 8 #[.nestMembers #[319, 327, 801, 108, 663, 208]] #[{ accessFlags := 2, nameIndex := 5, descriptorIndex := 6, attributes := #[] }, { accessFlags := 265, nameIndex := 727, descriptorIndex := 728, attributes := #[] }] 49 2 #[] #[{ accessFlags := 25, nameIndex := 507, descriptorIndex := 526, attributes := #[] }, { accessFlags := 25, nameIndex := 399, descriptorIndex := 155, attributes := #[] }, { accessFlags := 25, nameIndex := 396, descriptorIndex := 155, attributes := #[] }, { accessFlags := 10, nameIndex := 525, descriptorIndex := 526, attributes := #[] }, { accessFlags := 26, nameIndex := 674, descriptorIndex := 12, attributes := #[] }, { accessFlags := 26, nameIndex := 677, descriptorIndex := 12, attributes := #[] }, { accessFlags := 10, nameIndex := 11, descriptorIndex := 12, attributes := #[] }, { accessFlags := 74, nameIndex := 175, descriptorIndex := 176, attributes := #[] }, { accessFlags := 10, nameIndex := 491, descriptorIndex := 222, attributes := #[] }, { accessFlags := 74, nameIndex := 29, descriptorIndex := 30, attributes := #[] }, { accessFlags := 74, nameIndex := 154, descriptorIndex := 155, attributes := #[] }, { accessFlags := 10, nameIndex := 217, descriptorIndex := 218, attributes := #[] }, { accessFlags := 10, nameIndex := 221, descriptorIndex := 222, attributes := #[] }, { accessFlags := 8, nameIndex := 562, descriptorIndex := 563, attributes := #[] }])
  fields := #[{ name := "in", type := (.object "java/io/InputStream"), accessFlags := 25, slot := 0, constantValue := 0 }, { name := "out", type := (.object "java/io/PrintStream"), accessFlags := 25, slot := 1, constantValue := 0 }, { name := "err", type := (.object "java/io/PrintStream"), accessFlags := 25, slot := 2, constantValue := 0 }, { name := "initialIn", type := (.object "java/io/InputStream"), accessFlags := 10, slot := 3, constantValue := 0 }, { name := "NEVER", type := .int, accessFlags := 26, slot := 4, constantValue := 0 }, { name := "MAYBE", type := .int, accessFlags := 26, slot := 5, constantValue := 0 }, { name := "allowSecurityManager", type := .int, accessFlags := 10, slot := 6, constantValue := 0 }, { name := "security", type := (.object "java/lang/SecurityManager"), accessFlags := 74, slot := 7, constantValue := 0 }, { name := "notSupportedJnuEncoding", type := (.object "java/lang/String"), accessFlags := 10, slot := 8, constantValue := 0 }, { name := "cons", type := (.object "java/io/Console"), accessFlags := 74, slot := 9, constantValue := 0 }, { name := "initialErrStream", type := (.object "java/io/PrintStream"), accessFlags := 74, slot := 10, constantValue := 0 }, { name := "props", type := (.object "java/util/Properties"), accessFlags := 10, slot := 11, constantValue := 0 }, { name := "lineSeparator", type := (.object "java/lang/String"), accessFlags := 10, slot := 12, constantValue := 0 }, { name := "bootLayer", type := (.object "java/lang/ModuleLayer"), accessFlags := 8, slot := 13, constantValue := 0 }]
  methods := #[k4m0, k4m1]
  instanceTypes := #[]
  staticTypes := #[(.object "java/io/InputStream"), (.object "java/io/PrintStream"), (.object "java/io/PrintStream"), (.object "java/io/InputStream"), .int, .int, .int, (.object "java/lang/SecurityManager"), (.object "java/lang/String"), (.object "java/io/Console"), (.object "java/io/PrintStream"), (.object "java/util/Properties"), (.object "java/lang/String"), (.object "java/lang/ModuleLayer")]
  resolved := Array.replicate 834 none
  statics := none }

def pool5 : Array CpInfo := pool [(1, u "java/lang/Cloneable"), (0, .class_ 1), (0, u "java/lang/Object"), (0, .class_ 3)] 3

/-- java/lang/Cloneable -/
def k5 : Class := { plain "java/lang/Cloneable" (some 0) with
  accessFlags := 1537
  interfaces := #[]
  cf := some (fileOf pool5 2 #[] #[] 1537 4 #[] #[])
  fields := #[]
  methods := #[]
  instanceTypes := #[]
  staticTypes := #[]
  resolved := Array.replicate 8 none
  statics := none }

def pool6 : Array CpInfo := pool [(1, u "java/io/Serializable"), (0, .class_ 1), (0, u "java/lang/Object"), (0, .class_ 3)] 3

/-- java/io/Serializable -/
def k6 : Class := { plain "java/io/Serializable" (some 0) with
  accessFlags := 1537
  interfaces := #[]
  cf := some (fileOf pool6 2 #[] #[] 1537 4 #[] #[])
  fields := #[]
  methods := #[]
  instanceTypes := #[]
  staticTypes := #[]
  resolved := Array.replicate 8 none
  statics := none }

/-- the primitive byte -/
def k7 : Class := { plain "byte" none with kind := .primitive 'B', accessFlags := 0x411 }
/-- [B -/
def k8 : Class := { plain "[B" (some 0) with kind := .array 7 .byte, interfaces := #[5, 6], accessFlags := 1041 }

/-- the primitive int -/
def k9 : Class := { plain "int" none with kind := .primitive 'I', accessFlags := 0x411 }
/-- [I -/
def k10 : Class := { plain "[I" (some 0) with kind := .array 9 .int, interfaces := #[5, 6], accessFlags := 1041 }

def heap : Heap := #[]
def classes : Array Class := #[k0, k1, k2, k3, k4, k5, k6, k7, k8, k9, k10]
def interned : List (Array UInt16 × Addr) := []
def slotsUsed : Nat := 0
def theMethod : MethodId := ⟨1, 1⟩
def args0 : Array Value := #[.int 5, .int 2]
def aboutOver (below : List Frame) : State where
  vm := { classes := classes, interned := interned.toArray }
  heap := heap
  slotsUsed := slotsUsed
  threads := #[{ frames := .invoking theMethod args0 :: below }]
def below0 : List Frame := [.native { method := ⟨0, 0⟩, args := #[] }]
def about1 : State := aboutOver below0
def p0 : Program := .bare "" "" ""
def e0 : Env := launch0.env 0 0 0
theorem w_frames : about1.frames = Frame.invoking theMethod args0 :: below0 := rfl
set_option maxRecDepth 65536 in
theorem w_args : argsFit about1.vm theMethod args0 = true := by decide +kernel
set_option maxRecDepth 65536 in
theorem w_heap : heapFits about1 = true := by decide +kernel
set_option maxRecDepth 65536 in
theorem w_runnable : about1.curStatus? = some .runnable := by decide +kernel
set_option maxRecDepth 65536 in
theorem w_alone : about1.alone = true := by decide +kernel
set_option maxRecDepth 65536 in
theorem w_named : about1.methodNamed? x = some theMethod := by decide +kernel
set_option maxRecDepth 65536 in
theorem w_hears : about1.hears theMethod below0 = true := by decide +kernel
set_option maxRecDepth 65536 in
theorem w_ripe : about1.ripe theMethod args0 below0 = true := by decide +kernel
theorem w_running : about1.status = .running := rfl
set_option maxRecDepth 65536 in
theorem w_room : about1.hasRoom e0.platform room_1 = true :=
  launch0.hasRoom_least _ room_1 (by decide +kernel) (by decide +kernel) (by decide +kernel) (by decide +kernel) (by decide +kernel) (by decide +kernel)
theorem allAtoms_all (ts : List Jvm.Cond) (a : Array Jvm.Value) (st : Jvm.State) : (allAtoms ts).before a st = ts.all (fun c => c.before a st) := by
  induction ts with
  | nil => rfl
  | cons c t ih =>
    show (Jvm.Cond.and c (allAtoms t)).before a st = _
    rw [Jvm.Cond.before_and, ih, List.all_cons]
def words1 : List Jvm.Cond := Jvm.Cond.code x code maxLocals ret :: tables_1
/-- a 'code' word, met by the world's own term for the bytes: nothing is compared byte by byte -/
theorem code_word {y : MethodName} {bytes : ByteArray} {mx : Nat} {rt : Option FieldType} {a : Array Value} {s : State} {m : MethodId} {meth : Method} {c : Code} (h1 : s.methodNamed? y = some m) (h2 : s.vm.method? m = some meth) (h3 : meth.code = some c) (h4 : c.code = bytes)
    (h5 : (c.maxLocals == mx && c.exceptionTable.isEmpty && decide (c.maxStack ≤ mostOperands) && decide (meth.sig.returnType = rt) && !meth.locks && decide (parseMethodDescriptor y.desc = some meth.sig)) = true) : (Jvm.Cond.code y bytes mx rt).before a s = true := by
  simp only [Bool.and_eq_true, beq_iff_eq, Bool.not_eq_true', decide_eq_true_eq] at h5
  obtain ⟨⟨⟨⟨⟨g1, g2⟩, g3⟩, g4⟩, g5⟩, g6⟩ := h5
  simp [Cond.before, Cond.holds, Cond.value, h1, h2, h3, h4, g1, g2, g3, g4, g5, g6]
def isCode : Jvm.Cond → Bool
  | .code _ _ _ _ => true
  | _ => false
theorem all_split {L : List Jvm.Cond} {P : Jvm.Cond → Bool} (h1 : L.all (fun c => isCode c || P c) = true) (h2 : ∀ c ∈ L.filter isCode, P c = true) : L.all P = true := by
  refine List.all_eq_true.mpr fun c hc => ?_
  have h := List.all_eq_true.mp h1 c hc
  rcases Bool.eq_false_or_eq_true (isCode c) with hi | hi
  · exact h2 c (List.mem_filter.mpr ⟨hc, hi⟩)
  · simpa [hi] using h
set_option maxRecDepth 65536 in
theorem w_c0 : (Jvm.Cond.code x code maxLocals ret).before args0 about1 = true := code_word (m := ⟨1, 1⟩) (meth := k1m1) (c := k1c1) (by decide +kernel) rfl rfl rfl (by decide +kernel)
set_option maxRecDepth 65536 in
theorem w_c1 : (Jvm.Cond.code ({ cls := "com/example/ferret/ferret/engine/Dimacs", name := "<init>", desc := "()V" } : Jvm.MethodName) prog_11_method_1_code (1 : Nat) (Option.none : Option Jvm.ClassFile.FieldType)).before args0 about1 = true := code_word (m := ⟨3, 0⟩) (meth := k3m0) (c := k3c0) (by decide +kernel) rfl rfl rfl (by decide +kernel)
set_option maxRecDepth 65536 in
theorem w_c2 : (Jvm.Cond.code ({ cls := "java/lang/Object", name := "<init>", desc := "()V" } : Jvm.MethodName) object_method_1_code (1 : Nat) (Option.none : Option Jvm.ClassFile.FieldType)).before args0 about1 = true := code_word (m := ⟨0, 0⟩) (meth := k0m0) (c := k0c0) (by decide +kernel) rfl rfl rfl (by decide +kernel)
set_option maxRecDepth 65536 in
theorem w_c3 : (Jvm.Cond.code ({ cls := "com/example/ferret/ferret/engine/Dimacs", name := "variableCount", desc := "()I" } : Jvm.MethodName) prog_11_method_4_code (1 : Nat) (Option.some Jvm.ClassFile.FieldType.int)).before args0 about1 = true := code_word (m := ⟨3, 3⟩) (meth := k3m3) (c := k3c3) (by decide +kernel) rfl rfl rfl (by decide +kernel)
set_option maxRecDepth 65536 in
theorem w_c4 : (Jvm.Cond.code ({ cls := "com/example/ferret/ferret/engine/Dimacs", name := "newVariable", desc := "()I" } : Jvm.MethodName) prog_11_method_2_code (1 : Nat) (Option.some Jvm.ClassFile.FieldType.int)).before args0 about1 = true := code_word (m := ⟨3, 1⟩) (meth := k3m1) (c := k3c1) (by decide +kernel) rfl rfl rfl (by decide +kernel)
set_option maxRecDepth 65536 in
theorem w_c5 : (Jvm.Cond.code ({ cls := "com/example/ferret/ferret/engine/Dimacs", name := "addClause", desc := "([I)V" } : Jvm.MethodName) prog_11_method_3_code (6 : Nat) (Option.none : Option Jvm.ClassFile.FieldType)).before args0 about1 = true := code_word (m := ⟨3, 2⟩) (meth := k3m2) (c := k3c2) (by decide +kernel) rfl rfl rfl (by decide +kernel)
set_option maxRecDepth 65536 in
theorem w_c6 : (Jvm.Cond.code ({ cls := "com/example/ferret/ferret/engine/Dimacs", name := "requireDeclared", desc := "(I[I)V" } : Jvm.MethodName) prog_11_method_7_code (6 : Nat) (Option.none : Option Jvm.ClassFile.FieldType)).before args0 about1 = true := code_word (m := ⟨3, 4⟩) (meth := k3m4) (c := k3c4) (by decide +kernel) rfl rfl rfl (by decide +kernel)
def codes1 : List Jvm.Cond := [Jvm.Cond.code x code maxLocals ret, Jvm.Cond.code ({ cls := "com/example/ferret/ferret/engine/Dimacs", name := "<init>", desc := "()V" } : Jvm.MethodName) prog_11_method_1_code (1 : Nat) (Option.none : Option Jvm.ClassFile.FieldType), Jvm.Cond.code ({ cls := "java/lang/Object", name := "<init>", desc := "()V" } : Jvm.MethodName) object_method_1_code (1 : Nat) (Option.none : Option Jvm.ClassFile.FieldType), Jvm.Cond.code ({ cls := "com/example/ferret/ferret/engine/Dimacs", name := "variableCount", desc := "()I" } : Jvm.MethodName) prog_11_method_4_code (1 : Nat) (Option.some Jvm.ClassFile.FieldType.int), Jvm.Cond.code ({ cls := "com/example/ferret/ferret/engine/Dimacs", name := "newVariable", desc := "()I" } : Jvm.MethodName) prog_11_method_2_code (1 : Nat) (Option.some Jvm.ClassFile.FieldType.int), Jvm.Cond.code ({ cls := "com/example/ferret/ferret/engine/Dimacs", name := "addClause", desc := "([I)V" } : Jvm.MethodName) prog_11_method_3_code (6 : Nat) (Option.none : Option Jvm.ClassFile.FieldType), Jvm.Cond.code ({ cls := "com/example/ferret/ferret/engine/Dimacs", name := "requireDeclared", desc := "(I[I)V" } : Jvm.MethodName) prog_11_method_7_code (6 : Nat) (Option.none : Option Jvm.ClassFile.FieldType)]
set_option maxRecDepth 65536 in
theorem codes_eq : words1.filter isCode = codes1 := rfl
theorem w_codes : ∀ c ∈ words1.filter isCode, c.before args0 about1 = true := by
  rw [codes_eq]
  intro c hc
  simp only [codes1, List.mem_cons, List.not_mem_nil, or_false] at hc
  rcases hc with rfl | rfl | rfl | rfl | rfl | rfl | rfl
  · exact w_c0
  · exact w_c1
  · exact w_c2
  · exact w_c3
  · exact w_c4
  · exact w_c5
  · exact w_c6
set_option maxRecDepth 65536 in
theorem w_t1 : (words1.take 24).all (fun c => isCode c || c.before args0 about1) = true := by decide +kernel
set_option maxRecDepth 65536 in
theorem w_t2 : (words1.drop 24).all (fun c => isCode c || c.before args0 about1) = true := by decide +kernel
theorem w_tables : (allAtoms (Jvm.Cond.code x code maxLocals ret :: tables_1)).before args0 about1 = true := by
  rw [allAtoms_all]
  show words1.all (fun c => c.before args0 about1) = true
  refine all_split ?_ w_codes
  rw [← List.take_append_drop 24 words1, List.all_append, w_t1, w_t2]
  rfl
set_option maxRecDepth 65536 in
theorem w_case : (Jvm.Cond.and given_1 narrow_1).before args0 about1 = true := by decide +kernel
theorem w_applies : (headSpec (Jvm.Cond.code x code maxLocals ret :: tables_1) room_1).applies x e0.platform about1 = true :=
  (Spec.applies_iff w_frames).mpr ⟨w_running, w_runnable, w_alone, w_named, w_hears, w_ripe, w_room, w_tables⟩
theorem atStart : AtStart classFile x code maxLocals ret World_1 tables_1 room_1 Calls_1 rest_1 Pre_1 launch0 p0 e0 about1 theMethod args0 below0 :=
  ⟨lists_1, trivial, launch0.admits_env _ _ _, launch0.least_env, fairChoices_fair.cas, fairChoices_fair.clock, w_frames, w_args, w_heap, w_applies, trivial, trivial, w_case⟩
end start1
theorem witness_1 : WitnessClaimed_1 := ⟨start1.p0, start1.e0, start1.about1, start1.theMethod, start1.args0, start1.below0, start1.atStart⟩
end Jvm.Pilot.@@N@@
